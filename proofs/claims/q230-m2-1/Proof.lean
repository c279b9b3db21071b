import JvmDerived
import JvmDerived.Pilot.@@N@@Statement
import JvmDerived.Pilot.@@N@@Code
set_option linter.unusedVariables false
set_option linter.unusedSimpArgs false
namespace Jvm.Pilot.@@N@@
open Jvm Jvm.ClassFile Sem Op Lib Jvm.Free Jvm.Stand Jvm.LawKit Jvm.RoadKit Bundle Jvm.Pilot.@@N@@.Jvm.D
section OwnHead
variable {p : Program} {l : Launch} {e : Env} {R : Room} {s : State} {m : MethodId} {args : Array Value} {below : List Frame} {meth : Method} {c : Code} {T : State} {locs : List Loc} {cells slots : Nat}
theorem own_retI (X : Stand p l e R s m args below meth c T locs cells slots) (hx : p.tables.exec = Jvm.exec) {pc : Nat} {Ls : Array Slot} {z : Int32} {rest : List Value} (hret : meth.sig.returnType = some .int) (hd : decode c.code pc = .ok (.ireturn, 1)) {fs : List Frame}
    (hl : ∀ (f : JFrame) (acts : List Action), f.method = m → f.locked = none → f.entered = [] → (doReturn e (T.setTop f) acts (some (.int z))).1 = T.setFrames fs) : Steps p.tables e below (T.setTop (mkF m pc Ls (.int z :: rest))) (T.setFrames fs) := by
  have hm' : T.vm.method? m = some meth := X.method'
  have hn : narrow .int (.int z) = .int z := rfl
  show Steps p.tables e below (T.setTop { method := m, pc := pc, locals := Ls, stack := _ :: rest, locked := none }) _
  jvm_step X.here [X.here.top, hx, hd, hm', hret, hn]
  first | (intro acts; rw [hl _ acts rfl rfl rfl]) | rw [hl _ _ rfl rfl rfl]
  exact Steps.refl _
/-- the run comes to an end that P speaks of -/
abbrev own_Fin (tb : Tables) (e : Env) (below : List Frame) (P : Outcome → State → Prop) (F : State) : Prop := ∃ s₂ o, Steps tb e below F s₂ ∧ s₂.status = .running ∧ Ended s₂ below o ∧ P o s₂
theorem own_go {tb : Tables} {P : Outcome → State → Prop} {F F' : State} (h : ∀ t, Steps tb e below F' t → Steps tb e below F t) (k : own_Fin tb e below P F') : own_Fin tb e below P F := by
  obtain ⟨s₂, o, h1, h2⟩ := k
  exact ⟨s₂, o, h _ h1, h2⟩
theorem own_eqI {args : Array Value} {first s : State} {o : Option Outcome} {idx : List Nat} {a : Term} {k : Int32} (h : (Cond.eq a (.int k)).value args first o s idx = some true) : a.eval args first o idx s = some (.int k) := by
  simp only [Cond.value, Term.eval] at h
  cases ht : a.eval args first o idx s with
  | none => simp [ht] at h
  | some x => cases x <;> simp [ht] at h ⊢; exact h
theorem own_eqJ {args : Array Value} {first s : State} {o : Option Outcome} {idx : List Nat} {a : Term} {k : Int64} (h : (Cond.eq a (.long k)).value args first o s idx = some true) : a.eval args first o idx s = some (.long k) := by
  simp only [Cond.value, Term.eval] at h
  cases ht : a.eval args first o idx s with
  | none => simp [ht] at h
  | some x => cases x <;> simp [ht] at h ⊢; exact h
theorem own_fld {args : Array Value} {Z : State} {t : Term} {a : Addr} {C n d : String} {v : Value} (ht : t.eval args Z none [] Z = some (.ref a)) (h : (Term.field t C n d).eval args Z none [] Z = some v) : Fld Z Z.heap a C n d v := Fld.start ((fld_at ht).symm.trans h)
theorem own_selp {s : State} {args : Array Value} {y : MethodName} {n : Nat} (wi : (Cond.instantiable y.cls n).before args s = true) (hpriv : s.PrivateAt y) (hinst : (Cond.instanceMethod y).before args s = true) (hy : y.cls ≠ "java/lang/invoke/MethodHandle" ∧ y.cls ≠ "java/lang/invoke/VarHandle") : (Cond.selects y.cls y y).before args s = true := by
  obtain ⟨c, k, h1, h2, -, h4, -⟩ := Cond.instantiable_spec wi
  exact selects_self_of_private h1 h2 (Bool.or_eq_false_iff.mp h4).1 hpriv hinst hy
theorem own_len {args : Array Value} {first s : State} {o : Option Outcome} {idx : List Nat} {t : Term} {a : Addr} {cl : Cell} {n : Int32} (h : (Term.length t).eval args first o idx s = some (.int n)) (ht : t.eval args first o idx s = some (.ref a)) (hc : s.arrayAt? a = some cl) : cl.slots.size < 2 ^ 31 ∧ cl.slots.size.toInt32 = n := by
  simp only [Term.eval, ht, hc, Option.bind_eq_bind, Option.bind_some] at h
  split at h
  · rename_i q
    exact ⟨q, by simpa using h⟩
  · simp at h
end OwnHead
theorem d1_0 : decode method_2_code 0 = .ok (.bipush 10, 2) := by decide +kernel
theorem d1_2 : decode method_2_code 2 = .ok (.newarray .int, 2) := by decide +kernel
theorem d1_4 : decode method_2_code 4 = .ok (.dup, 1) := by decide +kernel
theorem d1_5 : decode method_2_code 5 = .ok (.iconst 0, 1) := by decide +kernel
theorem d1_6 : decode method_2_code 6 = .ok (.iconst 1, 1) := by decide +kernel
theorem d1_7 : decode method_2_code 7 = .ok (.iastore, 1) := by decide +kernel
theorem d1_8 : decode method_2_code 8 = .ok (.dup, 1) := by decide +kernel
theorem d1_9 : decode method_2_code 9 = .ok (.iconst 1, 1) := by decide +kernel
theorem d1_10 : decode method_2_code 10 = .ok (.bipush 10, 2) := by decide +kernel
theorem d1_12 : decode method_2_code 12 = .ok (.iastore, 1) := by decide +kernel
theorem d1_13 : decode method_2_code 13 = .ok (.dup, 1) := by decide +kernel
theorem d1_14 : decode method_2_code 14 = .ok (.iconst 2, 1) := by decide +kernel
theorem d1_15 : decode method_2_code 15 = .ok (.bipush 100, 2) := by decide +kernel
theorem d1_17 : decode method_2_code 17 = .ok (.iastore, 1) := by decide +kernel
theorem d1_18 : decode method_2_code 18 = .ok (.dup, 1) := by decide +kernel
theorem d1_19 : decode method_2_code 19 = .ok (.iconst 3, 1) := by decide +kernel
theorem d1_20 : decode method_2_code 20 = .ok (.sipush 1000, 3) := by decide +kernel
theorem d1_23 : decode method_2_code 23 = .ok (.iastore, 1) := by decide +kernel
theorem d1_24 : decode method_2_code 24 = .ok (.dup, 1) := by decide +kernel
theorem d1_25 : decode method_2_code 25 = .ok (.iconst 4, 1) := by decide +kernel
theorem d1_26 : decode method_2_code 26 = .ok (.sipush 10000, 3) := by decide +kernel
theorem d1_29 : decode method_2_code 29 = .ok (.iastore, 1) := by decide +kernel
theorem d1_30 : decode method_2_code 30 = .ok (.dup, 1) := by decide +kernel
theorem d1_31 : decode method_2_code 31 = .ok (.iconst 5, 1) := by decide +kernel
theorem d1_32 : decode method_2_code 32 = .ok (.ldc 7, 2) := by decide +kernel
theorem d1_34 : decode method_2_code 34 = .ok (.iastore, 1) := by decide +kernel
theorem d1_35 : decode method_2_code 35 = .ok (.dup, 1) := by decide +kernel
theorem d1_36 : decode method_2_code 36 = .ok (.bipush 6, 2) := by decide +kernel
theorem d1_38 : decode method_2_code 38 = .ok (.ldc 8, 2) := by decide +kernel
theorem d1_40 : decode method_2_code 40 = .ok (.iastore, 1) := by decide +kernel
theorem d1_41 : decode method_2_code 41 = .ok (.dup, 1) := by decide +kernel
theorem d1_42 : decode method_2_code 42 = .ok (.bipush 7, 2) := by decide +kernel
theorem d1_44 : decode method_2_code 44 = .ok (.ldc 9, 2) := by decide +kernel
theorem d1_46 : decode method_2_code 46 = .ok (.iastore, 1) := by decide +kernel
theorem d1_47 : decode method_2_code 47 = .ok (.dup, 1) := by decide +kernel
theorem d1_48 : decode method_2_code 48 = .ok (.bipush 8, 2) := by decide +kernel
theorem d1_50 : decode method_2_code 50 = .ok (.ldc 10, 2) := by decide +kernel
theorem d1_52 : decode method_2_code 52 = .ok (.iastore, 1) := by decide +kernel
theorem d1_53 : decode method_2_code 53 = .ok (.dup, 1) := by decide +kernel
theorem d1_54 : decode method_2_code 54 = .ok (.bipush 9, 2) := by decide +kernel
theorem d1_56 : decode method_2_code 56 = .ok (.ldc 11, 2) := by decide +kernel
theorem d1_58 : decode method_2_code 58 = .ok (.iastore, 1) := by decide +kernel
theorem d1_59 : decode method_2_code 59 = .ok (.astore_n 1, 1) := by decide +kernel
theorem d1_60 : decode method_2_code 60 = .ok (.aload_n 1, 1) := by decide +kernel
theorem d1_61 : decode method_2_code 61 = .ok (.iload_n 0, 1) := by decide +kernel
theorem d1_62 : decode method_2_code 62 = .ok (.iaload, 1) := by decide +kernel
theorem d1_63 : decode method_2_code 63 = .ok (.ireturn, 1) := by decide +kernel
theorem d2_0 : decode prog_18_method_9_code 0 = .ok (.iconst 0, 1) := by decide +kernel
theorem d2_1 : decode prog_18_method_9_code 1 = .ok (.istore_n 1, 1) := by decide +kernel
theorem d2_2 : decode prog_18_method_9_code 2 = .ok (.iload_n 0, 1) := by decide +kernel
theorem d2_3 : decode prog_18_method_9_code 3 = .ok (.ifCond .eq 27, 3) := by decide +kernel
theorem d2_6 : decode prog_18_method_9_code 6 = .ok (.bipush 9, 2) := by decide +kernel
theorem d2_8 : decode prog_18_method_9_code 8 = .ok (.istore_n 1, 1) := by decide +kernel
theorem d2_9 : decode prog_18_method_9_code 9 = .ok (.iload_n 0, 1) := by decide +kernel
theorem d2_10 : decode prog_18_method_9_code 10 = .ok (.getstatic 162, 3) := by decide +kernel
theorem d2_13 : decode prog_18_method_9_code 13 = .ok (.bipush 9, 2) := by decide +kernel
theorem d2_15 : decode prog_18_method_9_code 15 = .ok (.iload_n 1, 1) := by decide +kernel
theorem d2_16 : decode prog_18_method_9_code 16 = .ok (.isub, 1) := by decide +kernel
theorem d2_17 : decode prog_18_method_9_code 17 = .ok (.iconst 1, 1) := by decide +kernel
theorem d2_18 : decode prog_18_method_9_code 18 = .ok (.iadd, 1) := by decide +kernel
theorem d2_19 : decode prog_18_method_9_code 19 = .ok (.iaload, 1) := by decide +kernel
theorem d2_20 : decode prog_18_method_9_code 20 = .ok (.irem, 1) := by decide +kernel
theorem d2_21 : decode prog_18_method_9_code 21 = .ok (.ifCond .ne 9, 3) := by decide +kernel
theorem d2_24 : decode prog_18_method_9_code 24 = .ok (.iinc 1 (-1), 3) := by decide +kernel
theorem d2_27 : decode prog_18_method_9_code 27 = .ok (.goto (-18), 3) := by decide +kernel
theorem d2_30 : decode prog_18_method_9_code 30 = .ok (.iload_n 1, 1) := by decide +kernel
theorem d2_31 : decode prog_18_method_9_code 31 = .ok (.ireturn, 1) := by decide +kernel
theorem own_pn0 : plainName "com/example/ianus/ianus/data/DatetimesFractionDigitsPinLaw" = true := by first | (simp [plainName, overriddenIn]; done) | decide +kernel
theorem own_pn1 : plainName "com/example/ianus/ianus/data/Datetimes" = true := by first | (simp [plainName, overriddenIn]; done) | decide +kernel
theorem own_pd0 : parseMethodDescriptor "(I)I" = some ⟨[.int], some .int⟩ := by decide +kernel
def own_p10 (x : Int32) : Int32 := if x = (0 : Int32) then (1 : Int32) else if x = (1 : Int32) then (10 : Int32) else if x = (2 : Int32) then (100 : Int32) else if x = (3 : Int32) then (1000 : Int32) else if x = (4 : Int32) then (10000 : Int32) else if x = (5 : Int32) then (100000 : Int32) else if x = (6 : Int32) then (1000000 : Int32) else if x = (7 : Int32) then (10000000 : Int32) else if x = (8 : Int32) then (100000000 : Int32) else (1000000000 : Int32)
def own_pin (x : Int32) : Prop := x = (0 : Int32) ∨ x = (1 : Int32) ∨ x = (2 : Int32) ∨ x = (3 : Int32) ∨ x = (4 : Int32) ∨ x = (5 : Int32) ∨ x = (6 : Int32) ∨ x = (7 : Int32) ∨ x = (8 : Int32) ∨ x = (9 : Int32)
theorem own_pin_in {x : Int32} (h : own_pin x) : ¬ x < 0 ∧ x < (10 : Int32) := by rcases h with rfl | rfl | rfl | rfl | rfl | rfl | rfl | rfl | rfl | rfl <;> decide
theorem own_pin_p {x : Int32} (h : own_pin x) : own_p10 x ≠ 0 ∧ 1 ≤ (own_p10 x).toInt := by rcases h with rfl | rfl | rfl | rfl | rfl | rfl | rfl | rfl | rfl | rfl <;> decide
theorem own_pin_at {x : Int32} (h : own_pin x) : List.getD [(.int (1 : Int32)), (.int (10 : Int32)), (.int (100 : Int32)), (.int (1000 : Int32)), (.int (10000 : Int32)), (.int (100000 : Int32)), (.int (1000000 : Int32)), (.int (10000000 : Int32)), (.int (100000000 : Int32)), (.int (1000000000 : Int32))] x.toNatClampNeg (.int (0 : Int32)) = (.int (own_p10 x) : Value) := by rcases h with rfl | rfl | rfl | rfl | rfl | rfl | rfl | rfl | rfl | rfl <;> rfl
def Q_own_pow (Z : State) (p1 : Int32) (h0 : Heap) (n0 : Nat) (v : Option Value) (h : Heap) (L : List Loc) : Prop := v = some (.int (own_p10 p1)) ∧ Fr n0 L ∧ Keep h0 h []
theorem ef_own_pow (m : MethodId) (x0 : Int32) : entryFrame m #[(.int x0)] 2 = mkF m 0 #[.val (.int x0), .unset] [] := by first | (simp [entryFrame, mkF, argsToLocals, Value.category]; done) | rfl
set_option maxRecDepth 65536 in
set_option maxHeartbeats 40000000 in
theorem own_pow (l : Launch) (Z : State) (a0 : Array Value) (hw : ∀ d ∈ tables_1, d.before a0 Z = true) (ws : List Jvm.Cond) (p1 : Int32) (h0 : Heap) (n0 : Nat) (Z0 : n0 ≤ h0.size) (O0 : Old Z n0 h0) (hp : own_pin p1) :
    MetFree l (⟨"com/example/ianus/ianus/data/DatetimesFractionDigitsPinLaw", "pow", "(I)I"⟩ : MethodName) (head1 (Jvm.Cond.code (⟨"com/example/ianus/ianus/data/DatetimesFractionDigitsPinLaw", "pow", "(I)I"⟩ : MethodName) method_2_code 2 (some .int) :: ws) ({ frames := 0, cells := 1, slots := 10, locals := 0 } : Room)) (fun a U => a = #[(.int p1)] ∧ Z.Warmed39 U.vm ∧ U.heap = h0) (fun _ _ _ _ _ => True) (fun _ U o U' => ∃ v L, o = .returned v ∧ Q_own_pow Z p1 h0 n0 v U'.heap L ∧ FrameEnd U o U' L ({ frames := 0, cells := 1, slots := 10, locals := 0 } : Room).cells ({ frames := 0, cells := 1, slots := 10, locals := 0 } : Room).slots) := by
  refine MetFree.of_bodySF (plainFor_of_name own_pn0) hisR ?_
  intro p e s m args below meth c s₁ Bd hml0 hP hK
  obtain ⟨rfl, hZ, hh⟩ := hP
  have hx := Bd.exec
  have hby := Bd.bytes
  have hml : c.maxLocals = 2 := hml0
  have hown : s.vm.findClass "com/example/ianus/ianus/data/DatetimesFractionDigitsPinLaw" = some m.cls := findClass_of_methodNamed Bd.named
  have hnm := (name_of_methodNamed Bd.named Bd.method).1
  have X0 : Stand p l e ({ frames := 0, cells := 1, slots := 10, locals := 0 } : Room) s m #[(.int p1)] below meth c s₁ [] 0 0 := Stand.of_body Bd
  have e0 : s₁.heap = h0 := by rw [← hh, Bd.state]; rfl
  have N0 := Fr.nil n0
  show own_Fin p.tables e below _ (s₁.setTop (entryFrame m #[(.int p1)] 2))
  refine own_go (fun _ k => castTop (ef_own_pow m p1) k) ?_
  show own_Fin p.tables e below _ (s₁.setTop (mkF m 0 #[.val (.int p1), .unset] []))
  refine own_go (fun _ k => XS.bipush X0.here hx rfl (hb hby d1_0) k) ?_
  show own_Fin p.tables e below _ (s₁.setTop (mkF m 2 #[.val (.int p1), .unset] [(.int (10 : Int32))]))
  obtain ⟨T1, h1, k1, X1, e1, E1, A1, st1⟩ := newP X0 hx hZ (hw _ (List.mem_of_getElem? (i := 5) rfl)) e0 (g := (mkF m 2 #[.val (.int p1), .unset] [(.int (10 : Int32))])) rfl (hb hby d1_2) rfl (by decide) (cap := 10) (by decide) (by decide) (by decide) (by decide)
  obtain ⟨b1, g1⟩ : ∃ z, z = h0.size := ⟨_, rfl⟩
  rw [← g1] at A1 st1
  have g_b1 : n0 ≤ b1 := Nat.le_trans Z0 (Nat.le_of_eq g1.symm)
  have sz_b1 : h0.size ≤ b1 := Nat.le_trans (Keep.refl h0 []).1 (Nat.le_of_eq g1.symm)
  refine own_go st1 ?_
  have K2 := (Keep.refl h0 [])
  have f3_0 : Old Z n0 h1 := O0.ext E1
  have K4 := K2.ext E1
  have Z5 : n0 ≤ h1.size := Nat.le_trans Z0 E1.1
  have V1 : Arv Z h1 b1 k1 .int (10 : Int32) [(.int (0 : Int32)), (.int (0 : Int32)), (.int (0 : Int32)), (.int (0 : Int32)), (.int (0 : Int32)), (.int (0 : Int32)), (.int (0 : Int32)), (.int (0 : Int32)), (.int (0 : Int32)), (.int (0 : Int32))] (.int (0 : Int32)) := (Arv.new A1 (by decide)).pad (pad_rep [] (.int (0 : Int32)) 10)
  show own_Fin p.tables e below _ (T1.setTop (mkF m 4 #[.val (.int p1), .unset] [(.ref b1)]))
  refine own_go (fun _ k => XS.dup X1.here hx rfl (hb hby d1_4) rfl rfl k) ?_
  show own_Fin p.tables e below _ (T1.setTop (mkF m 5 #[.val (.int p1), .unset] [(.ref b1), (.ref b1)]))
  refine own_go (fun _ k => XS.iconst X1.here hx rfl (hb hby d1_5) k) ?_
  show own_Fin p.tables e below _ (T1.setTop (mkF m 6 #[.val (.int p1), .unset] [(.int (0 : Int32)), (.ref b1), (.ref b1)]))
  refine own_go (fun _ k => XS.iconst X1.here hx rfl (hb hby d1_6) k) ?_
  show own_Fin p.tables e below _ (T1.setTop (mkF m 7 #[.val (.int p1), .unset] [(.int (1 : Int32)), (.int (0 : Int32)), (.ref b1), (.ref b1)]))
  obtain ⟨cl6, Ar6, q6, S6, B6, H6, G6⟩ := V1
  have in6 : ¬ ((0 : Int32) < 0 ∨ cl6.slots.size ≤ ((0 : Int32)).toNatClampNeg) := inb_of S6 ⟨by decide, by decide⟩
  obtain ⟨T7, h7, X7, e7, W7, st7⟩ := stI X1 hx hZ e1 Ar6 (j := (0 : Int32)) in6 (g := (mkF m 7 #[.val (.int p1), .unset] [(.int (1 : Int32)), (.int (0 : Int32)), (.ref b1), (.ref b1)])) rfl rfl (hb hby d1_7)
  refine own_go st7 ?_
  have f8_0 : Old Z n0 h7 := f3_0.wr W7 g_b1
  have V7 : Arv Z h7 b1 k1 .int (10 : Int32) [(.int (1 : Int32)), (.int (0 : Int32)), (.int (0 : Int32)), (.int (0 : Int32)), (.int (0 : Int32)), (.int (0 : Int32)), (.int (0 : Int32)), (.int (0 : Int32)), (.int (0 : Int32)), (.int (0 : Int32))] (.int (0 : Int32)) := Arv.set Ar6 q6 S6 B6 H6 G6 rfl W7 0 rfl (Nat.le_of_ble_eq_true rfl)
  have N7 := Fr.snoc X7 N0 g_b1
  have K9 : Keep h0 h7 [] := Keep.wr K4 W7 (Or.inr sz_b1)
  have Z10 : n0 ≤ h7.size := Nat.le_trans Z5 (Keep.of_wr W7).1
  show own_Fin p.tables e below _ (T7.setTop (mkF m 8 #[.val (.int p1), .unset] [(.ref b1)]))
  refine own_go (fun _ k => XS.dup X7.here hx rfl (hb hby d1_8) rfl rfl k) ?_
  show own_Fin p.tables e below _ (T7.setTop (mkF m 9 #[.val (.int p1), .unset] [(.ref b1), (.ref b1)]))
  refine own_go (fun _ k => XS.iconst X7.here hx rfl (hb hby d1_9) k) ?_
  show own_Fin p.tables e below _ (T7.setTop (mkF m 10 #[.val (.int p1), .unset] [(.int (1 : Int32)), (.ref b1), (.ref b1)]))
  refine own_go (fun _ k => XS.bipush X7.here hx rfl (hb hby d1_10) k) ?_
  show own_Fin p.tables e below _ (T7.setTop (mkF m 12 #[.val (.int p1), .unset] [(.int (10 : Int32)), (.int (1 : Int32)), (.ref b1), (.ref b1)]))
  obtain ⟨cl11, Ar11, q11, S11, B11, H11, G11⟩ := V7
  have in11 : ¬ ((1 : Int32) < 0 ∨ cl11.slots.size ≤ ((1 : Int32)).toNatClampNeg) := inb_of S11 ⟨by decide, by decide⟩
  obtain ⟨T12, h12, X12, e12, W12, st12⟩ := stI X7 hx hZ e7 Ar11 (j := (1 : Int32)) in11 (g := (mkF m 12 #[.val (.int p1), .unset] [(.int (10 : Int32)), (.int (1 : Int32)), (.ref b1), (.ref b1)])) rfl rfl (hb hby d1_12)
  refine own_go st12 ?_
  have f13_0 : Old Z n0 h12 := f8_0.wr W12 g_b1
  have V12 : Arv Z h12 b1 k1 .int (10 : Int32) [(.int (1 : Int32)), (.int (10 : Int32)), (.int (0 : Int32)), (.int (0 : Int32)), (.int (0 : Int32)), (.int (0 : Int32)), (.int (0 : Int32)), (.int (0 : Int32)), (.int (0 : Int32)), (.int (0 : Int32))] (.int (0 : Int32)) := Arv.set Ar11 q11 S11 B11 H11 G11 rfl W12 1 rfl (Nat.le_of_ble_eq_true rfl)
  have N12 := Fr.snoc X12 N7 g_b1
  have K14 : Keep h0 h12 [] := Keep.wr K9 W12 (Or.inr sz_b1)
  have Z15 : n0 ≤ h12.size := Nat.le_trans Z10 (Keep.of_wr W12).1
  show own_Fin p.tables e below _ (T12.setTop (mkF m 13 #[.val (.int p1), .unset] [(.ref b1)]))
  refine own_go (fun _ k => XS.dup X12.here hx rfl (hb hby d1_13) rfl rfl k) ?_
  show own_Fin p.tables e below _ (T12.setTop (mkF m 14 #[.val (.int p1), .unset] [(.ref b1), (.ref b1)]))
  refine own_go (fun _ k => XS.iconst X12.here hx rfl (hb hby d1_14) k) ?_
  show own_Fin p.tables e below _ (T12.setTop (mkF m 15 #[.val (.int p1), .unset] [(.int (2 : Int32)), (.ref b1), (.ref b1)]))
  refine own_go (fun _ k => XS.bipush X12.here hx rfl (hb hby d1_15) k) ?_
  show own_Fin p.tables e below _ (T12.setTop (mkF m 17 #[.val (.int p1), .unset] [(.int (100 : Int32)), (.int (2 : Int32)), (.ref b1), (.ref b1)]))
  obtain ⟨cl16, Ar16, q16, S16, B16, H16, G16⟩ := V12
  have in16 : ¬ ((2 : Int32) < 0 ∨ cl16.slots.size ≤ ((2 : Int32)).toNatClampNeg) := inb_of S16 ⟨by decide, by decide⟩
  obtain ⟨T17, h17, X17, e17, W17, st17⟩ := stI X12 hx hZ e12 Ar16 (j := (2 : Int32)) in16 (g := (mkF m 17 #[.val (.int p1), .unset] [(.int (100 : Int32)), (.int (2 : Int32)), (.ref b1), (.ref b1)])) rfl rfl (hb hby d1_17)
  refine own_go st17 ?_
  have f18_0 : Old Z n0 h17 := f13_0.wr W17 g_b1
  have V17 : Arv Z h17 b1 k1 .int (10 : Int32) [(.int (1 : Int32)), (.int (10 : Int32)), (.int (100 : Int32)), (.int (0 : Int32)), (.int (0 : Int32)), (.int (0 : Int32)), (.int (0 : Int32)), (.int (0 : Int32)), (.int (0 : Int32)), (.int (0 : Int32))] (.int (0 : Int32)) := Arv.set Ar16 q16 S16 B16 H16 G16 rfl W17 2 rfl (Nat.le_of_ble_eq_true rfl)
  have N17 := Fr.snoc X17 N12 g_b1
  have K19 : Keep h0 h17 [] := Keep.wr K14 W17 (Or.inr sz_b1)
  have Z20 : n0 ≤ h17.size := Nat.le_trans Z15 (Keep.of_wr W17).1
  show own_Fin p.tables e below _ (T17.setTop (mkF m 18 #[.val (.int p1), .unset] [(.ref b1)]))
  refine own_go (fun _ k => XS.dup X17.here hx rfl (hb hby d1_18) rfl rfl k) ?_
  show own_Fin p.tables e below _ (T17.setTop (mkF m 19 #[.val (.int p1), .unset] [(.ref b1), (.ref b1)]))
  refine own_go (fun _ k => XS.iconst X17.here hx rfl (hb hby d1_19) k) ?_
  show own_Fin p.tables e below _ (T17.setTop (mkF m 20 #[.val (.int p1), .unset] [(.int (3 : Int32)), (.ref b1), (.ref b1)]))
  refine own_go (fun _ k => XS.sipush X17.here hx rfl (hb hby d1_20) k) ?_
  show own_Fin p.tables e below _ (T17.setTop (mkF m 23 #[.val (.int p1), .unset] [(.int (1000 : Int32)), (.int (3 : Int32)), (.ref b1), (.ref b1)]))
  obtain ⟨cl21, Ar21, q21, S21, B21, H21, G21⟩ := V17
  have in21 : ¬ ((3 : Int32) < 0 ∨ cl21.slots.size ≤ ((3 : Int32)).toNatClampNeg) := inb_of S21 ⟨by decide, by decide⟩
  obtain ⟨T22, h22, X22, e22, W22, st22⟩ := stI X17 hx hZ e17 Ar21 (j := (3 : Int32)) in21 (g := (mkF m 23 #[.val (.int p1), .unset] [(.int (1000 : Int32)), (.int (3 : Int32)), (.ref b1), (.ref b1)])) rfl rfl (hb hby d1_23)
  refine own_go st22 ?_
  have f23_0 : Old Z n0 h22 := f18_0.wr W22 g_b1
  have V22 : Arv Z h22 b1 k1 .int (10 : Int32) [(.int (1 : Int32)), (.int (10 : Int32)), (.int (100 : Int32)), (.int (1000 : Int32)), (.int (0 : Int32)), (.int (0 : Int32)), (.int (0 : Int32)), (.int (0 : Int32)), (.int (0 : Int32)), (.int (0 : Int32))] (.int (0 : Int32)) := Arv.set Ar21 q21 S21 B21 H21 G21 rfl W22 3 rfl (Nat.le_of_ble_eq_true rfl)
  have N22 := Fr.snoc X22 N17 g_b1
  have K24 : Keep h0 h22 [] := Keep.wr K19 W22 (Or.inr sz_b1)
  have Z25 : n0 ≤ h22.size := Nat.le_trans Z20 (Keep.of_wr W22).1
  show own_Fin p.tables e below _ (T22.setTop (mkF m 24 #[.val (.int p1), .unset] [(.ref b1)]))
  refine own_go (fun _ k => XS.dup X22.here hx rfl (hb hby d1_24) rfl rfl k) ?_
  show own_Fin p.tables e below _ (T22.setTop (mkF m 25 #[.val (.int p1), .unset] [(.ref b1), (.ref b1)]))
  refine own_go (fun _ k => XS.iconst X22.here hx rfl (hb hby d1_25) k) ?_
  show own_Fin p.tables e below _ (T22.setTop (mkF m 26 #[.val (.int p1), .unset] [(.int (4 : Int32)), (.ref b1), (.ref b1)]))
  refine own_go (fun _ k => XS.sipush X22.here hx rfl (hb hby d1_26) k) ?_
  show own_Fin p.tables e below _ (T22.setTop (mkF m 29 #[.val (.int p1), .unset] [(.int (10000 : Int32)), (.int (4 : Int32)), (.ref b1), (.ref b1)]))
  obtain ⟨cl26, Ar26, q26, S26, B26, H26, G26⟩ := V22
  have in26 : ¬ ((4 : Int32) < 0 ∨ cl26.slots.size ≤ ((4 : Int32)).toNatClampNeg) := inb_of S26 ⟨by decide, by decide⟩
  obtain ⟨T27, h27, X27, e27, W27, st27⟩ := stI X22 hx hZ e22 Ar26 (j := (4 : Int32)) in26 (g := (mkF m 29 #[.val (.int p1), .unset] [(.int (10000 : Int32)), (.int (4 : Int32)), (.ref b1), (.ref b1)])) rfl rfl (hb hby d1_29)
  refine own_go st27 ?_
  have f28_0 : Old Z n0 h27 := f23_0.wr W27 g_b1
  have V27 : Arv Z h27 b1 k1 .int (10 : Int32) [(.int (1 : Int32)), (.int (10 : Int32)), (.int (100 : Int32)), (.int (1000 : Int32)), (.int (10000 : Int32)), (.int (0 : Int32)), (.int (0 : Int32)), (.int (0 : Int32)), (.int (0 : Int32)), (.int (0 : Int32))] (.int (0 : Int32)) := Arv.set Ar26 q26 S26 B26 H26 G26 rfl W27 4 rfl (Nat.le_of_ble_eq_true rfl)
  have N27 := Fr.snoc X27 N22 g_b1
  have K29 : Keep h0 h27 [] := Keep.wr K24 W27 (Or.inr sz_b1)
  have Z30 : n0 ≤ h27.size := Nat.le_trans Z25 (Keep.of_wr W27).1
  show own_Fin p.tables e below _ (T27.setTop (mkF m 30 #[.val (.int p1), .unset] [(.ref b1)]))
  refine own_go (fun _ k => XS.dup X27.here hx rfl (hb hby d1_30) rfl rfl k) ?_
  show own_Fin p.tables e below _ (T27.setTop (mkF m 31 #[.val (.int p1), .unset] [(.ref b1), (.ref b1)]))
  refine own_go (fun _ k => XS.iconst X27.here hx rfl (hb hby d1_31) k) ?_
  show own_Fin p.tables e below _ (T27.setTop (mkF m 32 #[.val (.int p1), .unset] [(.int (5 : Int32)), (.ref b1), (.ref b1)]))
  refine own_go (X27.ldcInt hx hown (mvT hZ (hw _ (List.mem_of_getElem? (i := 6) rfl))) (g := (mkF m 32 #[.val (.int p1), .unset] [(.int (5 : Int32)), (.ref b1), (.ref b1)])) rfl (hb hby d1_32)) ?_
  show own_Fin p.tables e below _ (T27.setTop (mkF m 34 #[.val (.int p1), .unset] [(.int (100000 : Int32)), (.int (5 : Int32)), (.ref b1), (.ref b1)]))
  obtain ⟨cl31, Ar31, q31, S31, B31, H31, G31⟩ := V27
  have in31 : ¬ ((5 : Int32) < 0 ∨ cl31.slots.size ≤ ((5 : Int32)).toNatClampNeg) := inb_of S31 ⟨by decide, by decide⟩
  obtain ⟨T32, h32, X32, e32, W32, st32⟩ := stI X27 hx hZ e27 Ar31 (j := (5 : Int32)) in31 (g := (mkF m 34 #[.val (.int p1), .unset] [(.int (100000 : Int32)), (.int (5 : Int32)), (.ref b1), (.ref b1)])) rfl rfl (hb hby d1_34)
  refine own_go st32 ?_
  have f33_0 : Old Z n0 h32 := f28_0.wr W32 g_b1
  have V32 : Arv Z h32 b1 k1 .int (10 : Int32) [(.int (1 : Int32)), (.int (10 : Int32)), (.int (100 : Int32)), (.int (1000 : Int32)), (.int (10000 : Int32)), (.int (100000 : Int32)), (.int (0 : Int32)), (.int (0 : Int32)), (.int (0 : Int32)), (.int (0 : Int32))] (.int (0 : Int32)) := Arv.set Ar31 q31 S31 B31 H31 G31 rfl W32 5 rfl (Nat.le_of_ble_eq_true rfl)
  have N32 := Fr.snoc X32 N27 g_b1
  have K34 : Keep h0 h32 [] := Keep.wr K29 W32 (Or.inr sz_b1)
  have Z35 : n0 ≤ h32.size := Nat.le_trans Z30 (Keep.of_wr W32).1
  show own_Fin p.tables e below _ (T32.setTop (mkF m 35 #[.val (.int p1), .unset] [(.ref b1)]))
  refine own_go (fun _ k => XS.dup X32.here hx rfl (hb hby d1_35) rfl rfl k) ?_
  show own_Fin p.tables e below _ (T32.setTop (mkF m 36 #[.val (.int p1), .unset] [(.ref b1), (.ref b1)]))
  refine own_go (fun _ k => XS.bipush X32.here hx rfl (hb hby d1_36) k) ?_
  show own_Fin p.tables e below _ (T32.setTop (mkF m 38 #[.val (.int p1), .unset] [(.int (6 : Int32)), (.ref b1), (.ref b1)]))
  refine own_go (X32.ldcInt hx hown (mvT hZ (hw _ (List.mem_of_getElem? (i := 7) rfl))) (g := (mkF m 38 #[.val (.int p1), .unset] [(.int (6 : Int32)), (.ref b1), (.ref b1)])) rfl (hb hby d1_38)) ?_
  show own_Fin p.tables e below _ (T32.setTop (mkF m 40 #[.val (.int p1), .unset] [(.int (1000000 : Int32)), (.int (6 : Int32)), (.ref b1), (.ref b1)]))
  obtain ⟨cl36, Ar36, q36, S36, B36, H36, G36⟩ := V32
  have in36 : ¬ ((6 : Int32) < 0 ∨ cl36.slots.size ≤ ((6 : Int32)).toNatClampNeg) := inb_of S36 ⟨by decide, by decide⟩
  obtain ⟨T37, h37, X37, e37, W37, st37⟩ := stI X32 hx hZ e32 Ar36 (j := (6 : Int32)) in36 (g := (mkF m 40 #[.val (.int p1), .unset] [(.int (1000000 : Int32)), (.int (6 : Int32)), (.ref b1), (.ref b1)])) rfl rfl (hb hby d1_40)
  refine own_go st37 ?_
  have f38_0 : Old Z n0 h37 := f33_0.wr W37 g_b1
  have V37 : Arv Z h37 b1 k1 .int (10 : Int32) [(.int (1 : Int32)), (.int (10 : Int32)), (.int (100 : Int32)), (.int (1000 : Int32)), (.int (10000 : Int32)), (.int (100000 : Int32)), (.int (1000000 : Int32)), (.int (0 : Int32)), (.int (0 : Int32)), (.int (0 : Int32))] (.int (0 : Int32)) := Arv.set Ar36 q36 S36 B36 H36 G36 rfl W37 6 rfl (Nat.le_of_ble_eq_true rfl)
  have N37 := Fr.snoc X37 N32 g_b1
  have K39 : Keep h0 h37 [] := Keep.wr K34 W37 (Or.inr sz_b1)
  have Z40 : n0 ≤ h37.size := Nat.le_trans Z35 (Keep.of_wr W37).1
  show own_Fin p.tables e below _ (T37.setTop (mkF m 41 #[.val (.int p1), .unset] [(.ref b1)]))
  refine own_go (fun _ k => XS.dup X37.here hx rfl (hb hby d1_41) rfl rfl k) ?_
  show own_Fin p.tables e below _ (T37.setTop (mkF m 42 #[.val (.int p1), .unset] [(.ref b1), (.ref b1)]))
  refine own_go (fun _ k => XS.bipush X37.here hx rfl (hb hby d1_42) k) ?_
  show own_Fin p.tables e below _ (T37.setTop (mkF m 44 #[.val (.int p1), .unset] [(.int (7 : Int32)), (.ref b1), (.ref b1)]))
  refine own_go (X37.ldcInt hx hown (mvT hZ (hw _ (List.mem_of_getElem? (i := 8) rfl))) (g := (mkF m 44 #[.val (.int p1), .unset] [(.int (7 : Int32)), (.ref b1), (.ref b1)])) rfl (hb hby d1_44)) ?_
  show own_Fin p.tables e below _ (T37.setTop (mkF m 46 #[.val (.int p1), .unset] [(.int (10000000 : Int32)), (.int (7 : Int32)), (.ref b1), (.ref b1)]))
  obtain ⟨cl41, Ar41, q41, S41, B41, H41, G41⟩ := V37
  have in41 : ¬ ((7 : Int32) < 0 ∨ cl41.slots.size ≤ ((7 : Int32)).toNatClampNeg) := inb_of S41 ⟨by decide, by decide⟩
  obtain ⟨T42, h42, X42, e42, W42, st42⟩ := stI X37 hx hZ e37 Ar41 (j := (7 : Int32)) in41 (g := (mkF m 46 #[.val (.int p1), .unset] [(.int (10000000 : Int32)), (.int (7 : Int32)), (.ref b1), (.ref b1)])) rfl rfl (hb hby d1_46)
  refine own_go st42 ?_
  have f43_0 : Old Z n0 h42 := f38_0.wr W42 g_b1
  have V42 : Arv Z h42 b1 k1 .int (10 : Int32) [(.int (1 : Int32)), (.int (10 : Int32)), (.int (100 : Int32)), (.int (1000 : Int32)), (.int (10000 : Int32)), (.int (100000 : Int32)), (.int (1000000 : Int32)), (.int (10000000 : Int32)), (.int (0 : Int32)), (.int (0 : Int32))] (.int (0 : Int32)) := Arv.set Ar41 q41 S41 B41 H41 G41 rfl W42 7 rfl (Nat.le_of_ble_eq_true rfl)
  have N42 := Fr.snoc X42 N37 g_b1
  have K44 : Keep h0 h42 [] := Keep.wr K39 W42 (Or.inr sz_b1)
  have Z45 : n0 ≤ h42.size := Nat.le_trans Z40 (Keep.of_wr W42).1
  show own_Fin p.tables e below _ (T42.setTop (mkF m 47 #[.val (.int p1), .unset] [(.ref b1)]))
  refine own_go (fun _ k => XS.dup X42.here hx rfl (hb hby d1_47) rfl rfl k) ?_
  show own_Fin p.tables e below _ (T42.setTop (mkF m 48 #[.val (.int p1), .unset] [(.ref b1), (.ref b1)]))
  refine own_go (fun _ k => XS.bipush X42.here hx rfl (hb hby d1_48) k) ?_
  show own_Fin p.tables e below _ (T42.setTop (mkF m 50 #[.val (.int p1), .unset] [(.int (8 : Int32)), (.ref b1), (.ref b1)]))
  refine own_go (X42.ldcInt hx hown (mvT hZ (hw _ (List.mem_of_getElem? (i := 9) rfl))) (g := (mkF m 50 #[.val (.int p1), .unset] [(.int (8 : Int32)), (.ref b1), (.ref b1)])) rfl (hb hby d1_50)) ?_
  show own_Fin p.tables e below _ (T42.setTop (mkF m 52 #[.val (.int p1), .unset] [(.int (100000000 : Int32)), (.int (8 : Int32)), (.ref b1), (.ref b1)]))
  obtain ⟨cl46, Ar46, q46, S46, B46, H46, G46⟩ := V42
  have in46 : ¬ ((8 : Int32) < 0 ∨ cl46.slots.size ≤ ((8 : Int32)).toNatClampNeg) := inb_of S46 ⟨by decide, by decide⟩
  obtain ⟨T47, h47, X47, e47, W47, st47⟩ := stI X42 hx hZ e42 Ar46 (j := (8 : Int32)) in46 (g := (mkF m 52 #[.val (.int p1), .unset] [(.int (100000000 : Int32)), (.int (8 : Int32)), (.ref b1), (.ref b1)])) rfl rfl (hb hby d1_52)
  refine own_go st47 ?_
  have f48_0 : Old Z n0 h47 := f43_0.wr W47 g_b1
  have V47 : Arv Z h47 b1 k1 .int (10 : Int32) [(.int (1 : Int32)), (.int (10 : Int32)), (.int (100 : Int32)), (.int (1000 : Int32)), (.int (10000 : Int32)), (.int (100000 : Int32)), (.int (1000000 : Int32)), (.int (10000000 : Int32)), (.int (100000000 : Int32)), (.int (0 : Int32))] (.int (0 : Int32)) := Arv.set Ar46 q46 S46 B46 H46 G46 rfl W47 8 rfl (Nat.le_of_ble_eq_true rfl)
  have N47 := Fr.snoc X47 N42 g_b1
  have K49 : Keep h0 h47 [] := Keep.wr K44 W47 (Or.inr sz_b1)
  have Z50 : n0 ≤ h47.size := Nat.le_trans Z45 (Keep.of_wr W47).1
  show own_Fin p.tables e below _ (T47.setTop (mkF m 53 #[.val (.int p1), .unset] [(.ref b1)]))
  refine own_go (fun _ k => XS.dup X47.here hx rfl (hb hby d1_53) rfl rfl k) ?_
  show own_Fin p.tables e below _ (T47.setTop (mkF m 54 #[.val (.int p1), .unset] [(.ref b1), (.ref b1)]))
  refine own_go (fun _ k => XS.bipush X47.here hx rfl (hb hby d1_54) k) ?_
  show own_Fin p.tables e below _ (T47.setTop (mkF m 56 #[.val (.int p1), .unset] [(.int (9 : Int32)), (.ref b1), (.ref b1)]))
  refine own_go (X47.ldcInt hx hown (mvT hZ (hw _ (List.mem_of_getElem? (i := 10) rfl))) (g := (mkF m 56 #[.val (.int p1), .unset] [(.int (9 : Int32)), (.ref b1), (.ref b1)])) rfl (hb hby d1_56)) ?_
  show own_Fin p.tables e below _ (T47.setTop (mkF m 58 #[.val (.int p1), .unset] [(.int (1000000000 : Int32)), (.int (9 : Int32)), (.ref b1), (.ref b1)]))
  obtain ⟨cl51, Ar51, q51, S51, B51, H51, G51⟩ := V47
  have in51 : ¬ ((9 : Int32) < 0 ∨ cl51.slots.size ≤ ((9 : Int32)).toNatClampNeg) := inb_of S51 ⟨by decide, by decide⟩
  obtain ⟨T52, h52, X52, e52, W52, st52⟩ := stI X47 hx hZ e47 Ar51 (j := (9 : Int32)) in51 (g := (mkF m 58 #[.val (.int p1), .unset] [(.int (1000000000 : Int32)), (.int (9 : Int32)), (.ref b1), (.ref b1)])) rfl rfl (hb hby d1_58)
  refine own_go st52 ?_
  have f53_0 : Old Z n0 h52 := f48_0.wr W52 g_b1
  have V52 : Arv Z h52 b1 k1 .int (10 : Int32) [(.int (1 : Int32)), (.int (10 : Int32)), (.int (100 : Int32)), (.int (1000 : Int32)), (.int (10000 : Int32)), (.int (100000 : Int32)), (.int (1000000 : Int32)), (.int (10000000 : Int32)), (.int (100000000 : Int32)), (.int (1000000000 : Int32))] (.int (0 : Int32)) := Arv.set Ar51 q51 S51 B51 H51 G51 rfl W52 9 rfl (Nat.le_of_ble_eq_true rfl)
  have N52 := Fr.snoc X52 N47 g_b1
  have K54 : Keep h0 h52 [] := Keep.wr K49 W52 (Or.inr sz_b1)
  have Z55 : n0 ≤ h52.size := Nat.le_trans Z50 (Keep.of_wr W52).1
  show own_Fin p.tables e below _ (T52.setTop (mkF m 59 #[.val (.int p1), .unset] [(.ref b1)]))
  refine own_go (fun _ k => XS.astoreN X52.here hx rfl (hb hby d1_59) rfl rfl (l' := #[.val (.int p1), .val (.ref b1)]) rfl k) ?_
  show own_Fin p.tables e below _ (T52.setTop (mkF m 60 #[.val (.int p1), .val (.ref b1)] []))
  refine own_go (fun _ k => XS.aloadN X52.here hx rfl (hb hby d1_60) rfl rfl k) ?_
  show own_Fin p.tables e below _ (T52.setTop (mkF m 61 #[.val (.int p1), .val (.ref b1)] [(.ref b1)]))
  refine own_go (fun _ k => XS.iloadN X52.here hx rfl (hb hby d1_61) rfl k) ?_
  show own_Fin p.tables e below _ (T52.setTop (mkF m 62 #[.val (.int p1), .val (.ref b1)] [(.int p1), (.ref b1)]))
  obtain ⟨cl56, Ar56, q56, S56, B56, H56, G56⟩ := id V52
  have in56 : ¬ (p1 < 0 ∨ cl56.slots.size ≤ (p1).toNatClampNeg) := inb_of S56 (own_pin_in hp)
  have at56 : cl56.slots[(p1).toNatClampNeg]? = some (.int (own_p10 p1)) := Has.at H56 in56 (own_pin_at hp)
  refine own_go (X52.iaload hx (j := p1) (v := (.int (own_p10 p1))) (by rw [e52]; exact Ar56.1) (State.isArrayOf_alike hZ.alike Ar56.2.1) Ar56.2.2 in56 at56 (g := (mkF m 62 #[.val (.int p1), .val (.ref b1)] [(.int p1), (.ref b1)])) rfl rfl (hb hby d1_62)) ?_
  show own_Fin p.tables e below _ (T52.setTop (mkF m 63 #[.val (.int p1), .val (.ref b1)] [(.int (own_p10 p1))]))
  obtain ⟨fs, hr, hrun, hended, hW, hsame⟩ := X52.leave (v := some (.int (own_p10 p1))) (fun h => by rw [Bd.returns] at h; cases h)
  refine ⟨_, _, ?_, hrun, hended, _, _, rfl, ?_, ⟨_, rfl⟩, hW, hsame.mono (by decide) (by decide)⟩
  · exact own_retI X52 hx Bd.returns (hb hby d1_63) hr
  · show Q_own_pow Z p1 h0 n0 _ T52.heap _
    rw [e52]
    exact ⟨rfl, N52, K54⟩
def Q_own_fd0 (Z : State) (p1 : Int32) (h0 : Heap) (n0 : Nat) (v : Option Value) (h : Heap) (L : List Loc) : Prop := v = some (.int (0 : Int32)) ∧ Fr n0 L ∧ h = h0
theorem ef_own_fd0 (m : MethodId) (x0 : Int32) : entryFrame m #[(.int x0)] 2 = mkF m 0 #[.val (.int x0), .unset] [] := by first | (simp [entryFrame, mkF, argsToLocals, Value.category]; done) | rfl
set_option maxRecDepth 65536 in
set_option maxHeartbeats 40000000 in
theorem own_fd0 (l : Launch) (Z : State) (a0 : Array Value) (hw : ∀ d ∈ tables_1, d.before a0 Z = true) (ws : List Jvm.Cond) (p1 : Int32) (h0 : Heap) (n0 : Nat) (Z0 : n0 ≤ h0.size) (hz : p1 = (0 : Int32)) :
    MetFree l (⟨"com/example/ianus/ianus/data/Datetimes", "fractionDigits", "(I)I"⟩ : MethodName) (head1 (Jvm.Cond.code (⟨"com/example/ianus/ianus/data/Datetimes", "fractionDigits", "(I)I"⟩ : MethodName) prog_18_method_9_code 2 (some .int) :: ws) ({ frames := 0, cells := 0, slots := 0, locals := 0 } : Room)) (fun a U => a = #[(.int p1)] ∧ Z.Warmed39 U.vm ∧ U.heap = h0) (fun _ _ _ _ _ => True) (fun _ U o U' => ∃ v L, o = .returned v ∧ Q_own_fd0 Z p1 h0 n0 v U'.heap L ∧ FrameEnd U o U' L ({ frames := 0, cells := 0, slots := 0, locals := 0 } : Room).cells ({ frames := 0, cells := 0, slots := 0, locals := 0 } : Room).slots) := by
  refine MetFree.of_bodySF (plainFor_of_name own_pn1) hisR ?_
  intro p e s m args below meth c s₁ Bd hml0 hP hK
  obtain ⟨rfl, hZ, hh⟩ := hP
  have hx := Bd.exec
  have hby := Bd.bytes
  have hml : c.maxLocals = 2 := hml0
  have hown : s.vm.findClass "com/example/ianus/ianus/data/Datetimes" = some m.cls := findClass_of_methodNamed Bd.named
  have hnm := (name_of_methodNamed Bd.named Bd.method).1
  have X0 : Stand p l e ({ frames := 0, cells := 0, slots := 0, locals := 0 } : Room) s m #[(.int p1)] below meth c s₁ [] 0 0 := Stand.of_body Bd
  have e0 : s₁.heap = h0 := by rw [← hh, Bd.state]; rfl
  have N0 := Fr.nil n0
  show own_Fin p.tables e below _ (s₁.setTop (entryFrame m #[(.int p1)] 2))
  refine own_go (fun _ k => castTop (ef_own_fd0 m p1) k) ?_
  show own_Fin p.tables e below _ (s₁.setTop (mkF m 0 #[.val (.int p1), .unset] []))
  refine own_go (fun _ k => XS.iconst X0.here hx rfl (hb hby d2_0) k) ?_
  show own_Fin p.tables e below _ (s₁.setTop (mkF m 1 #[.val (.int p1), .unset] [(.int (0 : Int32))]))
  refine own_go (fun _ k => XS.istoreN X0.here hx rfl (hb hby d2_1) rfl (l' := #[.val (.int p1), .val (.int (0 : Int32))]) rfl k) ?_
  show own_Fin p.tables e below _ (s₁.setTop (mkF m 2 #[.val (.int p1), .val (.int (0 : Int32))] []))
  refine own_go (fun _ k => XS.iloadN X0.here hx rfl (hb hby d2_2) rfl k) ?_
  show own_Fin p.tables e below _ (s₁.setTop (mkF m 3 #[.val (.int p1), .val (.int (0 : Int32))] [(.int p1)]))
  refine own_go (fun _ k => XS.ifYes X0.here hx rfl (pc0 := 3) (pc' := 30) rfl (hb hby d2_3) rfl ((if0 _ _).trans (teq hz).1) (by decide) (by decide) k) ?_
  show own_Fin p.tables e below _ (s₁.setTop (mkF m 30 #[.val (.int p1), .val (.int (0 : Int32))] []))
  refine own_go (fun _ k => XS.iloadN X0.here hx rfl (hb hby d2_30) rfl k) ?_
  show own_Fin p.tables e below _ (s₁.setTop (mkF m 31 #[.val (.int p1), .val (.int (0 : Int32))] [(.int (0 : Int32))]))
  obtain ⟨fs, hr, hrun, hended, hW, hsame⟩ := X0.leave (v := some (.int (0 : Int32))) (fun h => by rw [Bd.returns] at h; cases h)
  refine ⟨_, _, ?_, hrun, hended, _, _, rfl, ?_, ⟨_, rfl⟩, hW, hsame.mono (by decide) (by decide)⟩
  · exact own_retI X0 hx Bd.returns (hb hby d2_31) hr
  · show Q_own_fd0 Z p1 h0 n0 _ s₁.heap _
    rw [e0]
    exact ⟨rfl, N0, rfl⟩
def own_fdp (n d : Int32) : Prop := (d = (1 : Int32) ∧ (n % (100000000 : Int32)) = (0 : Int32) ∧ ¬ ((n % (1000000000 : Int32)) = (0 : Int32))) ∨ (d = (2 : Int32) ∧ (n % (10000000 : Int32)) = (0 : Int32) ∧ ¬ ((n % (100000000 : Int32)) = (0 : Int32))) ∨ (d = (3 : Int32) ∧ (n % (1000000 : Int32)) = (0 : Int32) ∧ ¬ ((n % (10000000 : Int32)) = (0 : Int32))) ∨ (d = (4 : Int32) ∧ (n % (100000 : Int32)) = (0 : Int32) ∧ ¬ ((n % (1000000 : Int32)) = (0 : Int32))) ∨ (d = (5 : Int32) ∧ (n % (10000 : Int32)) = (0 : Int32) ∧ ¬ ((n % (100000 : Int32)) = (0 : Int32))) ∨ (d = (6 : Int32) ∧ (n % (1000 : Int32)) = (0 : Int32) ∧ ¬ ((n % (10000 : Int32)) = (0 : Int32))) ∨ (d = (7 : Int32) ∧ (n % (100 : Int32)) = (0 : Int32) ∧ ¬ ((n % (1000 : Int32)) = (0 : Int32))) ∨ (d = (8 : Int32) ∧ (n % (10 : Int32)) = (0 : Int32) ∧ ¬ ((n % (100 : Int32)) = (0 : Int32))) ∨ (d = (9 : Int32) ∧ (n % (1 : Int32)) = (0 : Int32) ∧ ¬ ((n % (10 : Int32)) = (0 : Int32)))
theorem own_mod1 (n : Int32) : (n % (1 : Int32)) = (0 : Int32) := by
  apply Int32.toInt_inj.mp
  have h := c_irem n (1 : Int32) 1 rfl
  have e : (0 : Int32).toInt = 0 := rfl
  omega
theorem own_big {n : Int32} (h1 : 0 ≤ n.toInt) (h2 : n.toInt < 1000000000) (h3 : ¬ (n = (0 : Int32))) : ¬ ((n % (1000000000 : Int32)) = (0 : Int32)) := fun q => h3 (by
  apply Int32.toInt_inj.mp
  have h := (c_irem n (1000000000 : Int32) 1000000000 rfl).1 h1
  rw [q] at h
  have e : (0 : Int32).toInt = 0 := rfl
  omega)
def Q_own_fd1 (Z : State) (p1 : Int32) (pt : Addr) (kp : ClassId) (h0 : Heap) (n0 : Nat) (v : Option Value) (h : Heap) (L : List Loc) : Prop := ∃ (d : Int32), v = some (.int d) ∧ Fr n0 L ∧ h = h0 ∧ own_fdp p1 d
theorem ef_own_fd1 (m : MethodId) (x0 : Int32) : entryFrame m #[(.int x0)] 2 = mkF m 0 #[.val (.int x0), .unset] [] := by first | (simp [entryFrame, mkF, argsToLocals, Value.category]; done) | rfl
set_option maxRecDepth 65536 in
set_option maxHeartbeats 40000000 in
theorem own_fd1 (l : Launch) (Z : State) (a0 : Array Value) (hw : ∀ d ∈ tables_1, d.before a0 Z = true) (ws : List Jvm.Cond) (p1 : Int32) (pt : Addr) (kp : ClassId) (h0 : Heap) (n0 : Nat) (Z0 : n0 ≤ h0.size) (O0 : Old Z n0 h0) (SP : Sta Z Z.heap "com/example/ianus/ianus/data/Datetimes" "POWERS_OF_TEN" "[I" (.ref pt)) (VP : Arv Z Z.heap pt kp .int (10 : Int32) [(.int (1 : Int32)), (.int (10 : Int32)), (.int (100 : Int32)), (.int (1000 : Int32)), (.int (10000 : Int32)), (.int (100000 : Int32)), (.int (1000000 : Int32)), (.int (10000000 : Int32)), (.int (100000000 : Int32)), (.int (1000000000 : Int32))] (.int (0 : Int32))) (hz : ¬ (p1 = (0 : Int32))) (hlo : 0 ≤ p1.toInt) (hhi : p1.toInt < 1000000000) :
    MetFree l (⟨"com/example/ianus/ianus/data/Datetimes", "fractionDigits", "(I)I"⟩ : MethodName) (head1 (Jvm.Cond.code (⟨"com/example/ianus/ianus/data/Datetimes", "fractionDigits", "(I)I"⟩ : MethodName) prog_18_method_9_code 2 (some .int) :: ws) ({ frames := 0, cells := 0, slots := 0, locals := 0 } : Room)) (fun a U => a = #[(.int p1)] ∧ Z.Warmed39 U.vm ∧ U.heap = h0) (fun _ _ _ _ _ => True) (fun _ U o U' => ∃ v L, o = .returned v ∧ Q_own_fd1 Z p1 pt kp h0 n0 v U'.heap L ∧ FrameEnd U o U' L ({ frames := 0, cells := 0, slots := 0, locals := 0 } : Room).cells ({ frames := 0, cells := 0, slots := 0, locals := 0 } : Room).slots) := by
  refine MetFree.of_bodySF (plainFor_of_name own_pn1) hisR ?_
  intro p e s m args below meth c s₁ Bd hml0 hP hK
  obtain ⟨rfl, hZ, hh⟩ := hP
  have hx := Bd.exec
  have hby := Bd.bytes
  have hml : c.maxLocals = 2 := hml0
  have hown : s.vm.findClass "com/example/ianus/ianus/data/Datetimes" = some m.cls := findClass_of_methodNamed Bd.named
  have hnm := (name_of_methodNamed Bd.named Bd.method).1
  have X0 : Stand p l e ({ frames := 0, cells := 0, slots := 0, locals := 0 } : Room) s m #[(.int p1)] below meth c s₁ [] 0 0 := Stand.of_body Bd
  have e0 : s₁.heap = h0 := by rw [← hh, Bd.state]; rfl
  have N0 := Fr.nil n0
  show own_Fin p.tables e below _ (s₁.setTop (entryFrame m #[(.int p1)] 2))
  refine own_go (fun _ k => castTop (ef_own_fd1 m p1) k) ?_
  show own_Fin p.tables e below _ (s₁.setTop (mkF m 0 #[.val (.int p1), .unset] []))
  refine own_go (fun _ k => XS.iconst X0.here hx rfl (hb hby d2_0) k) ?_
  show own_Fin p.tables e below _ (s₁.setTop (mkF m 1 #[.val (.int p1), .unset] [(.int (0 : Int32))]))
  refine own_go (fun _ k => XS.istoreN X0.here hx rfl (hb hby d2_1) rfl (l' := #[.val (.int p1), .val (.int (0 : Int32))]) rfl k) ?_
  show own_Fin p.tables e below _ (s₁.setTop (mkF m 2 #[.val (.int p1), .val (.int (0 : Int32))] []))
  refine own_go (fun _ k => XS.iloadN X0.here hx rfl (hb hby d2_2) rfl k) ?_
  show own_Fin p.tables e below _ (s₁.setTop (mkF m 3 #[.val (.int p1), .val (.int (0 : Int32))] [(.int p1)]))
  refine own_go (fun _ k => XS.ifNo X0.here hx rfl (hb hby d2_3) rfl ((if0 _ _).trans (feq hz).1) k) ?_
  show own_Fin p.tables e below _ (s₁.setTop (mkF m 6 #[.val (.int p1), .val (.int (0 : Int32))] []))
  refine own_go (fun _ k => XS.bipush X0.here hx rfl (hb hby d2_6) k) ?_
  show own_Fin p.tables e below _ (s₁.setTop (mkF m 8 #[.val (.int p1), .val (.int (0 : Int32))] [(.int (9 : Int32))]))
  refine own_go (fun _ k => XS.istoreN X0.here hx rfl (hb hby d2_8) rfl (l' := #[.val (.int p1), .val (.int (9 : Int32))]) rfl k) ?_
  show own_Fin p.tables e below _ (s₁.setTop (mkF m 9 #[.val (.int p1), .val (.int (9 : Int32))] []))
  refine own_go (fun _ k => XS.iloadN X0.here hx rfl (hb hby d2_9) rfl k) ?_
  show own_Fin p.tables e below _ (s₁.setTop (mkF m 10 #[.val (.int p1), .val (.int (9 : Int32))] [(.int p1)]))
  obtain ⟨T1, X1, e1, st1⟩ := getS2 X0 hx hZ hown (host := "") (Or.inl (hw _ (List.mem_of_getElem? (i := 15) rfl))) Via.refl e0 (SP.ext O0.2) (g := (mkF m 10 #[.val (.int p1), .val (.int (9 : Int32))] [(.int p1)])) rfl (hb hby d2_10)
  refine own_go st1 ?_
  show own_Fin p.tables e below _ (T1.setTop (mkF m 13 #[.val (.int p1), .val (.int (9 : Int32))] [(.ref pt), (.int p1)]))
  refine own_go (fun _ k => XS.bipush X1.here hx rfl (hb hby d2_13) k) ?_
  show own_Fin p.tables e below _ (T1.setTop (mkF m 15 #[.val (.int p1), .val (.int (9 : Int32))] [(.int (9 : Int32)), (.ref pt), (.int p1)]))
  refine own_go (fun _ k => XS.iloadN X1.here hx rfl (hb hby d2_15) rfl k) ?_
  show own_Fin p.tables e below _ (T1.setTop (mkF m 16 #[.val (.int p1), .val (.int (9 : Int32))] [(.int (9 : Int32)), (.int (9 : Int32)), (.ref pt), (.int p1)]))
  refine own_go (fun _ k => XS.isub X1.here hx rfl (hb hby d2_16) rfl k) ?_
  show own_Fin p.tables e below _ (T1.setTop (mkF m 17 #[.val (.int p1), .val (.int (9 : Int32))] [(.int ((9 : Int32) - (9 : Int32))), (.ref pt), (.int p1)]))
  rw [show ((9 : Int32) - (9 : Int32)) = (0 : Int32) from by decide]
  show own_Fin p.tables e below _ (T1.setTop (mkF m 17 #[.val (.int p1), .val (.int (9 : Int32))] [(.int (0 : Int32)), (.ref pt), (.int p1)]))
  refine own_go (fun _ k => XS.iconst X1.here hx rfl (hb hby d2_17) k) ?_
  show own_Fin p.tables e below _ (T1.setTop (mkF m 18 #[.val (.int p1), .val (.int (9 : Int32))] [(.int (1 : Int32)), (.int (0 : Int32)), (.ref pt), (.int p1)]))
  refine own_go (fun _ k => XS.iadd X1.here hx rfl (hb hby d2_18) rfl k) ?_
  show own_Fin p.tables e below _ (T1.setTop (mkF m 19 #[.val (.int p1), .val (.int (9 : Int32))] [(.int ((0 : Int32) + (1 : Int32))), (.ref pt), (.int p1)]))
  rw [show ((0 : Int32) + (1 : Int32)) = (1 : Int32) from by decide]
  show own_Fin p.tables e below _ (T1.setTop (mkF m 19 #[.val (.int p1), .val (.int (9 : Int32))] [(.int (1 : Int32)), (.ref pt), (.int p1)]))
  obtain ⟨cl2, Ar2, q2, S2, B2, H2, G2⟩ := id (VP.ext O0.2)
  have in2 : ¬ ((1 : Int32) < 0 ∨ cl2.slots.size ≤ ((1 : Int32)).toNatClampNeg) := inb_of S2 ⟨by decide, by decide⟩
  have at2 : cl2.slots[((1 : Int32)).toNatClampNeg]? = some (.int (10 : Int32)) := Has.at H2 in2 rfl
  refine own_go (X1.iaload hx (j := (1 : Int32)) (v := (.int (10 : Int32))) (by rw [e1]; exact Ar2.1) (State.isArrayOf_alike hZ.alike Ar2.2.1) Ar2.2.2 in2 at2 (g := (mkF m 19 #[.val (.int p1), .val (.int (9 : Int32))] [(.int (1 : Int32)), (.ref pt), (.int p1)])) rfl rfl (hb hby d2_19)) ?_
  show own_Fin p.tables e below _ (T1.setTop (mkF m 20 #[.val (.int p1), .val (.int (9 : Int32))] [(.int (10 : Int32)), (.int p1)]))
  refine own_go (fun _ k => iremM X1 hx rfl (hb hby d2_20) rfl (by decide) k) ?_
  show own_Fin p.tables e below _ (T1.setTop (mkF m 21 #[.val (.int p1), .val (.int (9 : Int32))] [(.int (p1 % (10 : Int32)))]))
  by_cases hc21 : (p1 % (10 : Int32)) = (0 : Int32)
  · refine own_go (fun _ k => XS.ifNo X1.here hx rfl (hb hby d2_21) rfl ((if0 _ _).trans (teq hc21).2) k) ?_
    show own_Fin p.tables e below _ (T1.setTop (mkF m 24 #[.val (.int p1), .val (.int (9 : Int32))] []))
    refine own_go (fun _ k => XS.iinc X1.here hx rfl (hb hby d2_24) rfl (l' := #[.val (.int p1), .val (.int ((9 : Int32) + (-1 : Int32)))]) rfl k) ?_
    show own_Fin p.tables e below _ (T1.setTop (mkF m 27 #[.val (.int p1), .val (.int ((9 : Int32) + (-1 : Int32)))] []))
    rw [show ((9 : Int32) + (-1 : Int32)) = (8 : Int32) from by decide]
    show own_Fin p.tables e below _ (T1.setTop (mkF m 27 #[.val (.int p1), .val (.int (8 : Int32))] []))
    refine own_go (fun _ k => XS.goto X1.here hx rfl (pc0 := 27) (pc' := 9) rfl (hb hby d2_27) (by decide) (by decide) k) ?_
    show own_Fin p.tables e below _ (T1.setTop (mkF m 9 #[.val (.int p1), .val (.int (8 : Int32))] []))
    refine own_go (fun _ k => XS.iloadN X1.here hx rfl (hb hby d2_9) rfl k) ?_
    show own_Fin p.tables e below _ (T1.setTop (mkF m 10 #[.val (.int p1), .val (.int (8 : Int32))] [(.int p1)]))
    obtain ⟨T3, X3, e3, st3⟩ := getS2 X1 hx hZ hown (host := "") (Or.inl (hw _ (List.mem_of_getElem? (i := 15) rfl))) Via.refl e1 (SP.ext O0.2) (g := (mkF m 10 #[.val (.int p1), .val (.int (8 : Int32))] [(.int p1)])) rfl (hb hby d2_10)
    refine own_go st3 ?_
    show own_Fin p.tables e below _ (T3.setTop (mkF m 13 #[.val (.int p1), .val (.int (8 : Int32))] [(.ref pt), (.int p1)]))
    refine own_go (fun _ k => XS.bipush X3.here hx rfl (hb hby d2_13) k) ?_
    show own_Fin p.tables e below _ (T3.setTop (mkF m 15 #[.val (.int p1), .val (.int (8 : Int32))] [(.int (9 : Int32)), (.ref pt), (.int p1)]))
    refine own_go (fun _ k => XS.iloadN X3.here hx rfl (hb hby d2_15) rfl k) ?_
    show own_Fin p.tables e below _ (T3.setTop (mkF m 16 #[.val (.int p1), .val (.int (8 : Int32))] [(.int (8 : Int32)), (.int (9 : Int32)), (.ref pt), (.int p1)]))
    refine own_go (fun _ k => XS.isub X3.here hx rfl (hb hby d2_16) rfl k) ?_
    show own_Fin p.tables e below _ (T3.setTop (mkF m 17 #[.val (.int p1), .val (.int (8 : Int32))] [(.int ((9 : Int32) - (8 : Int32))), (.ref pt), (.int p1)]))
    rw [show ((9 : Int32) - (8 : Int32)) = (1 : Int32) from by decide]
    show own_Fin p.tables e below _ (T3.setTop (mkF m 17 #[.val (.int p1), .val (.int (8 : Int32))] [(.int (1 : Int32)), (.ref pt), (.int p1)]))
    refine own_go (fun _ k => XS.iconst X3.here hx rfl (hb hby d2_17) k) ?_
    show own_Fin p.tables e below _ (T3.setTop (mkF m 18 #[.val (.int p1), .val (.int (8 : Int32))] [(.int (1 : Int32)), (.int (1 : Int32)), (.ref pt), (.int p1)]))
    refine own_go (fun _ k => XS.iadd X3.here hx rfl (hb hby d2_18) rfl k) ?_
    show own_Fin p.tables e below _ (T3.setTop (mkF m 19 #[.val (.int p1), .val (.int (8 : Int32))] [(.int ((1 : Int32) + (1 : Int32))), (.ref pt), (.int p1)]))
    rw [show ((1 : Int32) + (1 : Int32)) = (2 : Int32) from by decide]
    show own_Fin p.tables e below _ (T3.setTop (mkF m 19 #[.val (.int p1), .val (.int (8 : Int32))] [(.int (2 : Int32)), (.ref pt), (.int p1)]))
    obtain ⟨cl4, Ar4, q4, S4, B4, H4, G4⟩ := id (VP.ext O0.2)
    have in4 : ¬ ((2 : Int32) < 0 ∨ cl4.slots.size ≤ ((2 : Int32)).toNatClampNeg) := inb_of S4 ⟨by decide, by decide⟩
    have at4 : cl4.slots[((2 : Int32)).toNatClampNeg]? = some (.int (100 : Int32)) := Has.at H4 in4 rfl
    refine own_go (X3.iaload hx (j := (2 : Int32)) (v := (.int (100 : Int32))) (by rw [e3]; exact Ar4.1) (State.isArrayOf_alike hZ.alike Ar4.2.1) Ar4.2.2 in4 at4 (g := (mkF m 19 #[.val (.int p1), .val (.int (8 : Int32))] [(.int (2 : Int32)), (.ref pt), (.int p1)])) rfl rfl (hb hby d2_19)) ?_
    show own_Fin p.tables e below _ (T3.setTop (mkF m 20 #[.val (.int p1), .val (.int (8 : Int32))] [(.int (100 : Int32)), (.int p1)]))
    refine own_go (fun _ k => iremM X3 hx rfl (hb hby d2_20) rfl (by decide) k) ?_
    show own_Fin p.tables e below _ (T3.setTop (mkF m 21 #[.val (.int p1), .val (.int (8 : Int32))] [(.int (p1 % (100 : Int32)))]))
    by_cases hc21_2 : (p1 % (100 : Int32)) = (0 : Int32)
    · refine own_go (fun _ k => XS.ifNo X3.here hx rfl (hb hby d2_21) rfl ((if0 _ _).trans (teq hc21_2).2) k) ?_
      show own_Fin p.tables e below _ (T3.setTop (mkF m 24 #[.val (.int p1), .val (.int (8 : Int32))] []))
      refine own_go (fun _ k => XS.iinc X3.here hx rfl (hb hby d2_24) rfl (l' := #[.val (.int p1), .val (.int ((8 : Int32) + (-1 : Int32)))]) rfl k) ?_
      show own_Fin p.tables e below _ (T3.setTop (mkF m 27 #[.val (.int p1), .val (.int ((8 : Int32) + (-1 : Int32)))] []))
      rw [show ((8 : Int32) + (-1 : Int32)) = (7 : Int32) from by decide]
      show own_Fin p.tables e below _ (T3.setTop (mkF m 27 #[.val (.int p1), .val (.int (7 : Int32))] []))
      refine own_go (fun _ k => XS.goto X3.here hx rfl (pc0 := 27) (pc' := 9) rfl (hb hby d2_27) (by decide) (by decide) k) ?_
      show own_Fin p.tables e below _ (T3.setTop (mkF m 9 #[.val (.int p1), .val (.int (7 : Int32))] []))
      refine own_go (fun _ k => XS.iloadN X3.here hx rfl (hb hby d2_9) rfl k) ?_
      show own_Fin p.tables e below _ (T3.setTop (mkF m 10 #[.val (.int p1), .val (.int (7 : Int32))] [(.int p1)]))
      obtain ⟨T5, X5, e5, st5⟩ := getS2 X3 hx hZ hown (host := "") (Or.inl (hw _ (List.mem_of_getElem? (i := 15) rfl))) Via.refl e3 (SP.ext O0.2) (g := (mkF m 10 #[.val (.int p1), .val (.int (7 : Int32))] [(.int p1)])) rfl (hb hby d2_10)
      refine own_go st5 ?_
      show own_Fin p.tables e below _ (T5.setTop (mkF m 13 #[.val (.int p1), .val (.int (7 : Int32))] [(.ref pt), (.int p1)]))
      refine own_go (fun _ k => XS.bipush X5.here hx rfl (hb hby d2_13) k) ?_
      show own_Fin p.tables e below _ (T5.setTop (mkF m 15 #[.val (.int p1), .val (.int (7 : Int32))] [(.int (9 : Int32)), (.ref pt), (.int p1)]))
      refine own_go (fun _ k => XS.iloadN X5.here hx rfl (hb hby d2_15) rfl k) ?_
      show own_Fin p.tables e below _ (T5.setTop (mkF m 16 #[.val (.int p1), .val (.int (7 : Int32))] [(.int (7 : Int32)), (.int (9 : Int32)), (.ref pt), (.int p1)]))
      refine own_go (fun _ k => XS.isub X5.here hx rfl (hb hby d2_16) rfl k) ?_
      show own_Fin p.tables e below _ (T5.setTop (mkF m 17 #[.val (.int p1), .val (.int (7 : Int32))] [(.int ((9 : Int32) - (7 : Int32))), (.ref pt), (.int p1)]))
      rw [show ((9 : Int32) - (7 : Int32)) = (2 : Int32) from by decide]
      show own_Fin p.tables e below _ (T5.setTop (mkF m 17 #[.val (.int p1), .val (.int (7 : Int32))] [(.int (2 : Int32)), (.ref pt), (.int p1)]))
      refine own_go (fun _ k => XS.iconst X5.here hx rfl (hb hby d2_17) k) ?_
      show own_Fin p.tables e below _ (T5.setTop (mkF m 18 #[.val (.int p1), .val (.int (7 : Int32))] [(.int (1 : Int32)), (.int (2 : Int32)), (.ref pt), (.int p1)]))
      refine own_go (fun _ k => XS.iadd X5.here hx rfl (hb hby d2_18) rfl k) ?_
      show own_Fin p.tables e below _ (T5.setTop (mkF m 19 #[.val (.int p1), .val (.int (7 : Int32))] [(.int ((2 : Int32) + (1 : Int32))), (.ref pt), (.int p1)]))
      rw [show ((2 : Int32) + (1 : Int32)) = (3 : Int32) from by decide]
      show own_Fin p.tables e below _ (T5.setTop (mkF m 19 #[.val (.int p1), .val (.int (7 : Int32))] [(.int (3 : Int32)), (.ref pt), (.int p1)]))
      obtain ⟨cl6, Ar6, q6, S6, B6, H6, G6⟩ := id (VP.ext O0.2)
      have in6 : ¬ ((3 : Int32) < 0 ∨ cl6.slots.size ≤ ((3 : Int32)).toNatClampNeg) := inb_of S6 ⟨by decide, by decide⟩
      have at6 : cl6.slots[((3 : Int32)).toNatClampNeg]? = some (.int (1000 : Int32)) := Has.at H6 in6 rfl
      refine own_go (X5.iaload hx (j := (3 : Int32)) (v := (.int (1000 : Int32))) (by rw [e5]; exact Ar6.1) (State.isArrayOf_alike hZ.alike Ar6.2.1) Ar6.2.2 in6 at6 (g := (mkF m 19 #[.val (.int p1), .val (.int (7 : Int32))] [(.int (3 : Int32)), (.ref pt), (.int p1)])) rfl rfl (hb hby d2_19)) ?_
      show own_Fin p.tables e below _ (T5.setTop (mkF m 20 #[.val (.int p1), .val (.int (7 : Int32))] [(.int (1000 : Int32)), (.int p1)]))
      refine own_go (fun _ k => iremM X5 hx rfl (hb hby d2_20) rfl (by decide) k) ?_
      show own_Fin p.tables e below _ (T5.setTop (mkF m 21 #[.val (.int p1), .val (.int (7 : Int32))] [(.int (p1 % (1000 : Int32)))]))
      by_cases hc21_3 : (p1 % (1000 : Int32)) = (0 : Int32)
      · refine own_go (fun _ k => XS.ifNo X5.here hx rfl (hb hby d2_21) rfl ((if0 _ _).trans (teq hc21_3).2) k) ?_
        show own_Fin p.tables e below _ (T5.setTop (mkF m 24 #[.val (.int p1), .val (.int (7 : Int32))] []))
        refine own_go (fun _ k => XS.iinc X5.here hx rfl (hb hby d2_24) rfl (l' := #[.val (.int p1), .val (.int ((7 : Int32) + (-1 : Int32)))]) rfl k) ?_
        show own_Fin p.tables e below _ (T5.setTop (mkF m 27 #[.val (.int p1), .val (.int ((7 : Int32) + (-1 : Int32)))] []))
        rw [show ((7 : Int32) + (-1 : Int32)) = (6 : Int32) from by decide]
        show own_Fin p.tables e below _ (T5.setTop (mkF m 27 #[.val (.int p1), .val (.int (6 : Int32))] []))
        refine own_go (fun _ k => XS.goto X5.here hx rfl (pc0 := 27) (pc' := 9) rfl (hb hby d2_27) (by decide) (by decide) k) ?_
        show own_Fin p.tables e below _ (T5.setTop (mkF m 9 #[.val (.int p1), .val (.int (6 : Int32))] []))
        refine own_go (fun _ k => XS.iloadN X5.here hx rfl (hb hby d2_9) rfl k) ?_
        show own_Fin p.tables e below _ (T5.setTop (mkF m 10 #[.val (.int p1), .val (.int (6 : Int32))] [(.int p1)]))
        obtain ⟨T7, X7, e7, st7⟩ := getS2 X5 hx hZ hown (host := "") (Or.inl (hw _ (List.mem_of_getElem? (i := 15) rfl))) Via.refl e5 (SP.ext O0.2) (g := (mkF m 10 #[.val (.int p1), .val (.int (6 : Int32))] [(.int p1)])) rfl (hb hby d2_10)
        refine own_go st7 ?_
        show own_Fin p.tables e below _ (T7.setTop (mkF m 13 #[.val (.int p1), .val (.int (6 : Int32))] [(.ref pt), (.int p1)]))
        refine own_go (fun _ k => XS.bipush X7.here hx rfl (hb hby d2_13) k) ?_
        show own_Fin p.tables e below _ (T7.setTop (mkF m 15 #[.val (.int p1), .val (.int (6 : Int32))] [(.int (9 : Int32)), (.ref pt), (.int p1)]))
        refine own_go (fun _ k => XS.iloadN X7.here hx rfl (hb hby d2_15) rfl k) ?_
        show own_Fin p.tables e below _ (T7.setTop (mkF m 16 #[.val (.int p1), .val (.int (6 : Int32))] [(.int (6 : Int32)), (.int (9 : Int32)), (.ref pt), (.int p1)]))
        refine own_go (fun _ k => XS.isub X7.here hx rfl (hb hby d2_16) rfl k) ?_
        show own_Fin p.tables e below _ (T7.setTop (mkF m 17 #[.val (.int p1), .val (.int (6 : Int32))] [(.int ((9 : Int32) - (6 : Int32))), (.ref pt), (.int p1)]))
        rw [show ((9 : Int32) - (6 : Int32)) = (3 : Int32) from by decide]
        show own_Fin p.tables e below _ (T7.setTop (mkF m 17 #[.val (.int p1), .val (.int (6 : Int32))] [(.int (3 : Int32)), (.ref pt), (.int p1)]))
        refine own_go (fun _ k => XS.iconst X7.here hx rfl (hb hby d2_17) k) ?_
        show own_Fin p.tables e below _ (T7.setTop (mkF m 18 #[.val (.int p1), .val (.int (6 : Int32))] [(.int (1 : Int32)), (.int (3 : Int32)), (.ref pt), (.int p1)]))
        refine own_go (fun _ k => XS.iadd X7.here hx rfl (hb hby d2_18) rfl k) ?_
        show own_Fin p.tables e below _ (T7.setTop (mkF m 19 #[.val (.int p1), .val (.int (6 : Int32))] [(.int ((3 : Int32) + (1 : Int32))), (.ref pt), (.int p1)]))
        rw [show ((3 : Int32) + (1 : Int32)) = (4 : Int32) from by decide]
        show own_Fin p.tables e below _ (T7.setTop (mkF m 19 #[.val (.int p1), .val (.int (6 : Int32))] [(.int (4 : Int32)), (.ref pt), (.int p1)]))
        obtain ⟨cl8, Ar8, q8, S8, B8, H8, G8⟩ := id (VP.ext O0.2)
        have in8 : ¬ ((4 : Int32) < 0 ∨ cl8.slots.size ≤ ((4 : Int32)).toNatClampNeg) := inb_of S8 ⟨by decide, by decide⟩
        have at8 : cl8.slots[((4 : Int32)).toNatClampNeg]? = some (.int (10000 : Int32)) := Has.at H8 in8 rfl
        refine own_go (X7.iaload hx (j := (4 : Int32)) (v := (.int (10000 : Int32))) (by rw [e7]; exact Ar8.1) (State.isArrayOf_alike hZ.alike Ar8.2.1) Ar8.2.2 in8 at8 (g := (mkF m 19 #[.val (.int p1), .val (.int (6 : Int32))] [(.int (4 : Int32)), (.ref pt), (.int p1)])) rfl rfl (hb hby d2_19)) ?_
        show own_Fin p.tables e below _ (T7.setTop (mkF m 20 #[.val (.int p1), .val (.int (6 : Int32))] [(.int (10000 : Int32)), (.int p1)]))
        refine own_go (fun _ k => iremM X7 hx rfl (hb hby d2_20) rfl (by decide) k) ?_
        show own_Fin p.tables e below _ (T7.setTop (mkF m 21 #[.val (.int p1), .val (.int (6 : Int32))] [(.int (p1 % (10000 : Int32)))]))
        by_cases hc21_4 : (p1 % (10000 : Int32)) = (0 : Int32)
        · refine own_go (fun _ k => XS.ifNo X7.here hx rfl (hb hby d2_21) rfl ((if0 _ _).trans (teq hc21_4).2) k) ?_
          show own_Fin p.tables e below _ (T7.setTop (mkF m 24 #[.val (.int p1), .val (.int (6 : Int32))] []))
          refine own_go (fun _ k => XS.iinc X7.here hx rfl (hb hby d2_24) rfl (l' := #[.val (.int p1), .val (.int ((6 : Int32) + (-1 : Int32)))]) rfl k) ?_
          show own_Fin p.tables e below _ (T7.setTop (mkF m 27 #[.val (.int p1), .val (.int ((6 : Int32) + (-1 : Int32)))] []))
          rw [show ((6 : Int32) + (-1 : Int32)) = (5 : Int32) from by decide]
          show own_Fin p.tables e below _ (T7.setTop (mkF m 27 #[.val (.int p1), .val (.int (5 : Int32))] []))
          refine own_go (fun _ k => XS.goto X7.here hx rfl (pc0 := 27) (pc' := 9) rfl (hb hby d2_27) (by decide) (by decide) k) ?_
          show own_Fin p.tables e below _ (T7.setTop (mkF m 9 #[.val (.int p1), .val (.int (5 : Int32))] []))
          refine own_go (fun _ k => XS.iloadN X7.here hx rfl (hb hby d2_9) rfl k) ?_
          show own_Fin p.tables e below _ (T7.setTop (mkF m 10 #[.val (.int p1), .val (.int (5 : Int32))] [(.int p1)]))
          obtain ⟨T9, X9, e9, st9⟩ := getS2 X7 hx hZ hown (host := "") (Or.inl (hw _ (List.mem_of_getElem? (i := 15) rfl))) Via.refl e7 (SP.ext O0.2) (g := (mkF m 10 #[.val (.int p1), .val (.int (5 : Int32))] [(.int p1)])) rfl (hb hby d2_10)
          refine own_go st9 ?_
          show own_Fin p.tables e below _ (T9.setTop (mkF m 13 #[.val (.int p1), .val (.int (5 : Int32))] [(.ref pt), (.int p1)]))
          refine own_go (fun _ k => XS.bipush X9.here hx rfl (hb hby d2_13) k) ?_
          show own_Fin p.tables e below _ (T9.setTop (mkF m 15 #[.val (.int p1), .val (.int (5 : Int32))] [(.int (9 : Int32)), (.ref pt), (.int p1)]))
          refine own_go (fun _ k => XS.iloadN X9.here hx rfl (hb hby d2_15) rfl k) ?_
          show own_Fin p.tables e below _ (T9.setTop (mkF m 16 #[.val (.int p1), .val (.int (5 : Int32))] [(.int (5 : Int32)), (.int (9 : Int32)), (.ref pt), (.int p1)]))
          refine own_go (fun _ k => XS.isub X9.here hx rfl (hb hby d2_16) rfl k) ?_
          show own_Fin p.tables e below _ (T9.setTop (mkF m 17 #[.val (.int p1), .val (.int (5 : Int32))] [(.int ((9 : Int32) - (5 : Int32))), (.ref pt), (.int p1)]))
          rw [show ((9 : Int32) - (5 : Int32)) = (4 : Int32) from by decide]
          show own_Fin p.tables e below _ (T9.setTop (mkF m 17 #[.val (.int p1), .val (.int (5 : Int32))] [(.int (4 : Int32)), (.ref pt), (.int p1)]))
          refine own_go (fun _ k => XS.iconst X9.here hx rfl (hb hby d2_17) k) ?_
          show own_Fin p.tables e below _ (T9.setTop (mkF m 18 #[.val (.int p1), .val (.int (5 : Int32))] [(.int (1 : Int32)), (.int (4 : Int32)), (.ref pt), (.int p1)]))
          refine own_go (fun _ k => XS.iadd X9.here hx rfl (hb hby d2_18) rfl k) ?_
          show own_Fin p.tables e below _ (T9.setTop (mkF m 19 #[.val (.int p1), .val (.int (5 : Int32))] [(.int ((4 : Int32) + (1 : Int32))), (.ref pt), (.int p1)]))
          rw [show ((4 : Int32) + (1 : Int32)) = (5 : Int32) from by decide]
          show own_Fin p.tables e below _ (T9.setTop (mkF m 19 #[.val (.int p1), .val (.int (5 : Int32))] [(.int (5 : Int32)), (.ref pt), (.int p1)]))
          obtain ⟨cl10, Ar10, q10, S10, B10, H10, G10⟩ := id (VP.ext O0.2)
          have in10 : ¬ ((5 : Int32) < 0 ∨ cl10.slots.size ≤ ((5 : Int32)).toNatClampNeg) := inb_of S10 ⟨by decide, by decide⟩
          have at10 : cl10.slots[((5 : Int32)).toNatClampNeg]? = some (.int (100000 : Int32)) := Has.at H10 in10 rfl
          refine own_go (X9.iaload hx (j := (5 : Int32)) (v := (.int (100000 : Int32))) (by rw [e9]; exact Ar10.1) (State.isArrayOf_alike hZ.alike Ar10.2.1) Ar10.2.2 in10 at10 (g := (mkF m 19 #[.val (.int p1), .val (.int (5 : Int32))] [(.int (5 : Int32)), (.ref pt), (.int p1)])) rfl rfl (hb hby d2_19)) ?_
          show own_Fin p.tables e below _ (T9.setTop (mkF m 20 #[.val (.int p1), .val (.int (5 : Int32))] [(.int (100000 : Int32)), (.int p1)]))
          refine own_go (fun _ k => iremM X9 hx rfl (hb hby d2_20) rfl (by decide) k) ?_
          show own_Fin p.tables e below _ (T9.setTop (mkF m 21 #[.val (.int p1), .val (.int (5 : Int32))] [(.int (p1 % (100000 : Int32)))]))
          by_cases hc21_5 : (p1 % (100000 : Int32)) = (0 : Int32)
          · refine own_go (fun _ k => XS.ifNo X9.here hx rfl (hb hby d2_21) rfl ((if0 _ _).trans (teq hc21_5).2) k) ?_
            show own_Fin p.tables e below _ (T9.setTop (mkF m 24 #[.val (.int p1), .val (.int (5 : Int32))] []))
            refine own_go (fun _ k => XS.iinc X9.here hx rfl (hb hby d2_24) rfl (l' := #[.val (.int p1), .val (.int ((5 : Int32) + (-1 : Int32)))]) rfl k) ?_
            show own_Fin p.tables e below _ (T9.setTop (mkF m 27 #[.val (.int p1), .val (.int ((5 : Int32) + (-1 : Int32)))] []))
            rw [show ((5 : Int32) + (-1 : Int32)) = (4 : Int32) from by decide]
            show own_Fin p.tables e below _ (T9.setTop (mkF m 27 #[.val (.int p1), .val (.int (4 : Int32))] []))
            refine own_go (fun _ k => XS.goto X9.here hx rfl (pc0 := 27) (pc' := 9) rfl (hb hby d2_27) (by decide) (by decide) k) ?_
            show own_Fin p.tables e below _ (T9.setTop (mkF m 9 #[.val (.int p1), .val (.int (4 : Int32))] []))
            refine own_go (fun _ k => XS.iloadN X9.here hx rfl (hb hby d2_9) rfl k) ?_
            show own_Fin p.tables e below _ (T9.setTop (mkF m 10 #[.val (.int p1), .val (.int (4 : Int32))] [(.int p1)]))
            obtain ⟨T11, X11, e11, st11⟩ := getS2 X9 hx hZ hown (host := "") (Or.inl (hw _ (List.mem_of_getElem? (i := 15) rfl))) Via.refl e9 (SP.ext O0.2) (g := (mkF m 10 #[.val (.int p1), .val (.int (4 : Int32))] [(.int p1)])) rfl (hb hby d2_10)
            refine own_go st11 ?_
            show own_Fin p.tables e below _ (T11.setTop (mkF m 13 #[.val (.int p1), .val (.int (4 : Int32))] [(.ref pt), (.int p1)]))
            refine own_go (fun _ k => XS.bipush X11.here hx rfl (hb hby d2_13) k) ?_
            show own_Fin p.tables e below _ (T11.setTop (mkF m 15 #[.val (.int p1), .val (.int (4 : Int32))] [(.int (9 : Int32)), (.ref pt), (.int p1)]))
            refine own_go (fun _ k => XS.iloadN X11.here hx rfl (hb hby d2_15) rfl k) ?_
            show own_Fin p.tables e below _ (T11.setTop (mkF m 16 #[.val (.int p1), .val (.int (4 : Int32))] [(.int (4 : Int32)), (.int (9 : Int32)), (.ref pt), (.int p1)]))
            refine own_go (fun _ k => XS.isub X11.here hx rfl (hb hby d2_16) rfl k) ?_
            show own_Fin p.tables e below _ (T11.setTop (mkF m 17 #[.val (.int p1), .val (.int (4 : Int32))] [(.int ((9 : Int32) - (4 : Int32))), (.ref pt), (.int p1)]))
            rw [show ((9 : Int32) - (4 : Int32)) = (5 : Int32) from by decide]
            show own_Fin p.tables e below _ (T11.setTop (mkF m 17 #[.val (.int p1), .val (.int (4 : Int32))] [(.int (5 : Int32)), (.ref pt), (.int p1)]))
            refine own_go (fun _ k => XS.iconst X11.here hx rfl (hb hby d2_17) k) ?_
            show own_Fin p.tables e below _ (T11.setTop (mkF m 18 #[.val (.int p1), .val (.int (4 : Int32))] [(.int (1 : Int32)), (.int (5 : Int32)), (.ref pt), (.int p1)]))
            refine own_go (fun _ k => XS.iadd X11.here hx rfl (hb hby d2_18) rfl k) ?_
            show own_Fin p.tables e below _ (T11.setTop (mkF m 19 #[.val (.int p1), .val (.int (4 : Int32))] [(.int ((5 : Int32) + (1 : Int32))), (.ref pt), (.int p1)]))
            rw [show ((5 : Int32) + (1 : Int32)) = (6 : Int32) from by decide]
            show own_Fin p.tables e below _ (T11.setTop (mkF m 19 #[.val (.int p1), .val (.int (4 : Int32))] [(.int (6 : Int32)), (.ref pt), (.int p1)]))
            obtain ⟨cl12, Ar12, q12, S12, B12, H12, G12⟩ := id (VP.ext O0.2)
            have in12 : ¬ ((6 : Int32) < 0 ∨ cl12.slots.size ≤ ((6 : Int32)).toNatClampNeg) := inb_of S12 ⟨by decide, by decide⟩
            have at12 : cl12.slots[((6 : Int32)).toNatClampNeg]? = some (.int (1000000 : Int32)) := Has.at H12 in12 rfl
            refine own_go (X11.iaload hx (j := (6 : Int32)) (v := (.int (1000000 : Int32))) (by rw [e11]; exact Ar12.1) (State.isArrayOf_alike hZ.alike Ar12.2.1) Ar12.2.2 in12 at12 (g := (mkF m 19 #[.val (.int p1), .val (.int (4 : Int32))] [(.int (6 : Int32)), (.ref pt), (.int p1)])) rfl rfl (hb hby d2_19)) ?_
            show own_Fin p.tables e below _ (T11.setTop (mkF m 20 #[.val (.int p1), .val (.int (4 : Int32))] [(.int (1000000 : Int32)), (.int p1)]))
            refine own_go (fun _ k => iremM X11 hx rfl (hb hby d2_20) rfl (by decide) k) ?_
            show own_Fin p.tables e below _ (T11.setTop (mkF m 21 #[.val (.int p1), .val (.int (4 : Int32))] [(.int (p1 % (1000000 : Int32)))]))
            by_cases hc21_6 : (p1 % (1000000 : Int32)) = (0 : Int32)
            · refine own_go (fun _ k => XS.ifNo X11.here hx rfl (hb hby d2_21) rfl ((if0 _ _).trans (teq hc21_6).2) k) ?_
              show own_Fin p.tables e below _ (T11.setTop (mkF m 24 #[.val (.int p1), .val (.int (4 : Int32))] []))
              refine own_go (fun _ k => XS.iinc X11.here hx rfl (hb hby d2_24) rfl (l' := #[.val (.int p1), .val (.int ((4 : Int32) + (-1 : Int32)))]) rfl k) ?_
              show own_Fin p.tables e below _ (T11.setTop (mkF m 27 #[.val (.int p1), .val (.int ((4 : Int32) + (-1 : Int32)))] []))
              rw [show ((4 : Int32) + (-1 : Int32)) = (3 : Int32) from by decide]
              show own_Fin p.tables e below _ (T11.setTop (mkF m 27 #[.val (.int p1), .val (.int (3 : Int32))] []))
              refine own_go (fun _ k => XS.goto X11.here hx rfl (pc0 := 27) (pc' := 9) rfl (hb hby d2_27) (by decide) (by decide) k) ?_
              show own_Fin p.tables e below _ (T11.setTop (mkF m 9 #[.val (.int p1), .val (.int (3 : Int32))] []))
              refine own_go (fun _ k => XS.iloadN X11.here hx rfl (hb hby d2_9) rfl k) ?_
              show own_Fin p.tables e below _ (T11.setTop (mkF m 10 #[.val (.int p1), .val (.int (3 : Int32))] [(.int p1)]))
              obtain ⟨T13, X13, e13, st13⟩ := getS2 X11 hx hZ hown (host := "") (Or.inl (hw _ (List.mem_of_getElem? (i := 15) rfl))) Via.refl e11 (SP.ext O0.2) (g := (mkF m 10 #[.val (.int p1), .val (.int (3 : Int32))] [(.int p1)])) rfl (hb hby d2_10)
              refine own_go st13 ?_
              show own_Fin p.tables e below _ (T13.setTop (mkF m 13 #[.val (.int p1), .val (.int (3 : Int32))] [(.ref pt), (.int p1)]))
              refine own_go (fun _ k => XS.bipush X13.here hx rfl (hb hby d2_13) k) ?_
              show own_Fin p.tables e below _ (T13.setTop (mkF m 15 #[.val (.int p1), .val (.int (3 : Int32))] [(.int (9 : Int32)), (.ref pt), (.int p1)]))
              refine own_go (fun _ k => XS.iloadN X13.here hx rfl (hb hby d2_15) rfl k) ?_
              show own_Fin p.tables e below _ (T13.setTop (mkF m 16 #[.val (.int p1), .val (.int (3 : Int32))] [(.int (3 : Int32)), (.int (9 : Int32)), (.ref pt), (.int p1)]))
              refine own_go (fun _ k => XS.isub X13.here hx rfl (hb hby d2_16) rfl k) ?_
              show own_Fin p.tables e below _ (T13.setTop (mkF m 17 #[.val (.int p1), .val (.int (3 : Int32))] [(.int ((9 : Int32) - (3 : Int32))), (.ref pt), (.int p1)]))
              rw [show ((9 : Int32) - (3 : Int32)) = (6 : Int32) from by decide]
              show own_Fin p.tables e below _ (T13.setTop (mkF m 17 #[.val (.int p1), .val (.int (3 : Int32))] [(.int (6 : Int32)), (.ref pt), (.int p1)]))
              refine own_go (fun _ k => XS.iconst X13.here hx rfl (hb hby d2_17) k) ?_
              show own_Fin p.tables e below _ (T13.setTop (mkF m 18 #[.val (.int p1), .val (.int (3 : Int32))] [(.int (1 : Int32)), (.int (6 : Int32)), (.ref pt), (.int p1)]))
              refine own_go (fun _ k => XS.iadd X13.here hx rfl (hb hby d2_18) rfl k) ?_
              show own_Fin p.tables e below _ (T13.setTop (mkF m 19 #[.val (.int p1), .val (.int (3 : Int32))] [(.int ((6 : Int32) + (1 : Int32))), (.ref pt), (.int p1)]))
              rw [show ((6 : Int32) + (1 : Int32)) = (7 : Int32) from by decide]
              show own_Fin p.tables e below _ (T13.setTop (mkF m 19 #[.val (.int p1), .val (.int (3 : Int32))] [(.int (7 : Int32)), (.ref pt), (.int p1)]))
              obtain ⟨cl14, Ar14, q14, S14, B14, H14, G14⟩ := id (VP.ext O0.2)
              have in14 : ¬ ((7 : Int32) < 0 ∨ cl14.slots.size ≤ ((7 : Int32)).toNatClampNeg) := inb_of S14 ⟨by decide, by decide⟩
              have at14 : cl14.slots[((7 : Int32)).toNatClampNeg]? = some (.int (10000000 : Int32)) := Has.at H14 in14 rfl
              refine own_go (X13.iaload hx (j := (7 : Int32)) (v := (.int (10000000 : Int32))) (by rw [e13]; exact Ar14.1) (State.isArrayOf_alike hZ.alike Ar14.2.1) Ar14.2.2 in14 at14 (g := (mkF m 19 #[.val (.int p1), .val (.int (3 : Int32))] [(.int (7 : Int32)), (.ref pt), (.int p1)])) rfl rfl (hb hby d2_19)) ?_
              show own_Fin p.tables e below _ (T13.setTop (mkF m 20 #[.val (.int p1), .val (.int (3 : Int32))] [(.int (10000000 : Int32)), (.int p1)]))
              refine own_go (fun _ k => iremM X13 hx rfl (hb hby d2_20) rfl (by decide) k) ?_
              show own_Fin p.tables e below _ (T13.setTop (mkF m 21 #[.val (.int p1), .val (.int (3 : Int32))] [(.int (p1 % (10000000 : Int32)))]))
              by_cases hc21_7 : (p1 % (10000000 : Int32)) = (0 : Int32)
              · refine own_go (fun _ k => XS.ifNo X13.here hx rfl (hb hby d2_21) rfl ((if0 _ _).trans (teq hc21_7).2) k) ?_
                show own_Fin p.tables e below _ (T13.setTop (mkF m 24 #[.val (.int p1), .val (.int (3 : Int32))] []))
                refine own_go (fun _ k => XS.iinc X13.here hx rfl (hb hby d2_24) rfl (l' := #[.val (.int p1), .val (.int ((3 : Int32) + (-1 : Int32)))]) rfl k) ?_
                show own_Fin p.tables e below _ (T13.setTop (mkF m 27 #[.val (.int p1), .val (.int ((3 : Int32) + (-1 : Int32)))] []))
                rw [show ((3 : Int32) + (-1 : Int32)) = (2 : Int32) from by decide]
                show own_Fin p.tables e below _ (T13.setTop (mkF m 27 #[.val (.int p1), .val (.int (2 : Int32))] []))
                refine own_go (fun _ k => XS.goto X13.here hx rfl (pc0 := 27) (pc' := 9) rfl (hb hby d2_27) (by decide) (by decide) k) ?_
                show own_Fin p.tables e below _ (T13.setTop (mkF m 9 #[.val (.int p1), .val (.int (2 : Int32))] []))
                refine own_go (fun _ k => XS.iloadN X13.here hx rfl (hb hby d2_9) rfl k) ?_
                show own_Fin p.tables e below _ (T13.setTop (mkF m 10 #[.val (.int p1), .val (.int (2 : Int32))] [(.int p1)]))
                obtain ⟨T15, X15, e15, st15⟩ := getS2 X13 hx hZ hown (host := "") (Or.inl (hw _ (List.mem_of_getElem? (i := 15) rfl))) Via.refl e13 (SP.ext O0.2) (g := (mkF m 10 #[.val (.int p1), .val (.int (2 : Int32))] [(.int p1)])) rfl (hb hby d2_10)
                refine own_go st15 ?_
                show own_Fin p.tables e below _ (T15.setTop (mkF m 13 #[.val (.int p1), .val (.int (2 : Int32))] [(.ref pt), (.int p1)]))
                refine own_go (fun _ k => XS.bipush X15.here hx rfl (hb hby d2_13) k) ?_
                show own_Fin p.tables e below _ (T15.setTop (mkF m 15 #[.val (.int p1), .val (.int (2 : Int32))] [(.int (9 : Int32)), (.ref pt), (.int p1)]))
                refine own_go (fun _ k => XS.iloadN X15.here hx rfl (hb hby d2_15) rfl k) ?_
                show own_Fin p.tables e below _ (T15.setTop (mkF m 16 #[.val (.int p1), .val (.int (2 : Int32))] [(.int (2 : Int32)), (.int (9 : Int32)), (.ref pt), (.int p1)]))
                refine own_go (fun _ k => XS.isub X15.here hx rfl (hb hby d2_16) rfl k) ?_
                show own_Fin p.tables e below _ (T15.setTop (mkF m 17 #[.val (.int p1), .val (.int (2 : Int32))] [(.int ((9 : Int32) - (2 : Int32))), (.ref pt), (.int p1)]))
                rw [show ((9 : Int32) - (2 : Int32)) = (7 : Int32) from by decide]
                show own_Fin p.tables e below _ (T15.setTop (mkF m 17 #[.val (.int p1), .val (.int (2 : Int32))] [(.int (7 : Int32)), (.ref pt), (.int p1)]))
                refine own_go (fun _ k => XS.iconst X15.here hx rfl (hb hby d2_17) k) ?_
                show own_Fin p.tables e below _ (T15.setTop (mkF m 18 #[.val (.int p1), .val (.int (2 : Int32))] [(.int (1 : Int32)), (.int (7 : Int32)), (.ref pt), (.int p1)]))
                refine own_go (fun _ k => XS.iadd X15.here hx rfl (hb hby d2_18) rfl k) ?_
                show own_Fin p.tables e below _ (T15.setTop (mkF m 19 #[.val (.int p1), .val (.int (2 : Int32))] [(.int ((7 : Int32) + (1 : Int32))), (.ref pt), (.int p1)]))
                rw [show ((7 : Int32) + (1 : Int32)) = (8 : Int32) from by decide]
                show own_Fin p.tables e below _ (T15.setTop (mkF m 19 #[.val (.int p1), .val (.int (2 : Int32))] [(.int (8 : Int32)), (.ref pt), (.int p1)]))
                obtain ⟨cl16, Ar16, q16, S16, B16, H16, G16⟩ := id (VP.ext O0.2)
                have in16 : ¬ ((8 : Int32) < 0 ∨ cl16.slots.size ≤ ((8 : Int32)).toNatClampNeg) := inb_of S16 ⟨by decide, by decide⟩
                have at16 : cl16.slots[((8 : Int32)).toNatClampNeg]? = some (.int (100000000 : Int32)) := Has.at H16 in16 rfl
                refine own_go (X15.iaload hx (j := (8 : Int32)) (v := (.int (100000000 : Int32))) (by rw [e15]; exact Ar16.1) (State.isArrayOf_alike hZ.alike Ar16.2.1) Ar16.2.2 in16 at16 (g := (mkF m 19 #[.val (.int p1), .val (.int (2 : Int32))] [(.int (8 : Int32)), (.ref pt), (.int p1)])) rfl rfl (hb hby d2_19)) ?_
                show own_Fin p.tables e below _ (T15.setTop (mkF m 20 #[.val (.int p1), .val (.int (2 : Int32))] [(.int (100000000 : Int32)), (.int p1)]))
                refine own_go (fun _ k => iremM X15 hx rfl (hb hby d2_20) rfl (by decide) k) ?_
                show own_Fin p.tables e below _ (T15.setTop (mkF m 21 #[.val (.int p1), .val (.int (2 : Int32))] [(.int (p1 % (100000000 : Int32)))]))
                by_cases hc21_8 : (p1 % (100000000 : Int32)) = (0 : Int32)
                · refine own_go (fun _ k => XS.ifNo X15.here hx rfl (hb hby d2_21) rfl ((if0 _ _).trans (teq hc21_8).2) k) ?_
                  show own_Fin p.tables e below _ (T15.setTop (mkF m 24 #[.val (.int p1), .val (.int (2 : Int32))] []))
                  refine own_go (fun _ k => XS.iinc X15.here hx rfl (hb hby d2_24) rfl (l' := #[.val (.int p1), .val (.int ((2 : Int32) + (-1 : Int32)))]) rfl k) ?_
                  show own_Fin p.tables e below _ (T15.setTop (mkF m 27 #[.val (.int p1), .val (.int ((2 : Int32) + (-1 : Int32)))] []))
                  rw [show ((2 : Int32) + (-1 : Int32)) = (1 : Int32) from by decide]
                  show own_Fin p.tables e below _ (T15.setTop (mkF m 27 #[.val (.int p1), .val (.int (1 : Int32))] []))
                  refine own_go (fun _ k => XS.goto X15.here hx rfl (pc0 := 27) (pc' := 9) rfl (hb hby d2_27) (by decide) (by decide) k) ?_
                  show own_Fin p.tables e below _ (T15.setTop (mkF m 9 #[.val (.int p1), .val (.int (1 : Int32))] []))
                  refine own_go (fun _ k => XS.iloadN X15.here hx rfl (hb hby d2_9) rfl k) ?_
                  show own_Fin p.tables e below _ (T15.setTop (mkF m 10 #[.val (.int p1), .val (.int (1 : Int32))] [(.int p1)]))
                  obtain ⟨T17, X17, e17, st17⟩ := getS2 X15 hx hZ hown (host := "") (Or.inl (hw _ (List.mem_of_getElem? (i := 15) rfl))) Via.refl e15 (SP.ext O0.2) (g := (mkF m 10 #[.val (.int p1), .val (.int (1 : Int32))] [(.int p1)])) rfl (hb hby d2_10)
                  refine own_go st17 ?_
                  show own_Fin p.tables e below _ (T17.setTop (mkF m 13 #[.val (.int p1), .val (.int (1 : Int32))] [(.ref pt), (.int p1)]))
                  refine own_go (fun _ k => XS.bipush X17.here hx rfl (hb hby d2_13) k) ?_
                  show own_Fin p.tables e below _ (T17.setTop (mkF m 15 #[.val (.int p1), .val (.int (1 : Int32))] [(.int (9 : Int32)), (.ref pt), (.int p1)]))
                  refine own_go (fun _ k => XS.iloadN X17.here hx rfl (hb hby d2_15) rfl k) ?_
                  show own_Fin p.tables e below _ (T17.setTop (mkF m 16 #[.val (.int p1), .val (.int (1 : Int32))] [(.int (1 : Int32)), (.int (9 : Int32)), (.ref pt), (.int p1)]))
                  refine own_go (fun _ k => XS.isub X17.here hx rfl (hb hby d2_16) rfl k) ?_
                  show own_Fin p.tables e below _ (T17.setTop (mkF m 17 #[.val (.int p1), .val (.int (1 : Int32))] [(.int ((9 : Int32) - (1 : Int32))), (.ref pt), (.int p1)]))
                  rw [show ((9 : Int32) - (1 : Int32)) = (8 : Int32) from by decide]
                  show own_Fin p.tables e below _ (T17.setTop (mkF m 17 #[.val (.int p1), .val (.int (1 : Int32))] [(.int (8 : Int32)), (.ref pt), (.int p1)]))
                  refine own_go (fun _ k => XS.iconst X17.here hx rfl (hb hby d2_17) k) ?_
                  show own_Fin p.tables e below _ (T17.setTop (mkF m 18 #[.val (.int p1), .val (.int (1 : Int32))] [(.int (1 : Int32)), (.int (8 : Int32)), (.ref pt), (.int p1)]))
                  refine own_go (fun _ k => XS.iadd X17.here hx rfl (hb hby d2_18) rfl k) ?_
                  show own_Fin p.tables e below _ (T17.setTop (mkF m 19 #[.val (.int p1), .val (.int (1 : Int32))] [(.int ((8 : Int32) + (1 : Int32))), (.ref pt), (.int p1)]))
                  rw [show ((8 : Int32) + (1 : Int32)) = (9 : Int32) from by decide]
                  show own_Fin p.tables e below _ (T17.setTop (mkF m 19 #[.val (.int p1), .val (.int (1 : Int32))] [(.int (9 : Int32)), (.ref pt), (.int p1)]))
                  obtain ⟨cl18, Ar18, q18, S18, B18, H18, G18⟩ := id (VP.ext O0.2)
                  have in18 : ¬ ((9 : Int32) < 0 ∨ cl18.slots.size ≤ ((9 : Int32)).toNatClampNeg) := inb_of S18 ⟨by decide, by decide⟩
                  have at18 : cl18.slots[((9 : Int32)).toNatClampNeg]? = some (.int (1000000000 : Int32)) := Has.at H18 in18 rfl
                  refine own_go (X17.iaload hx (j := (9 : Int32)) (v := (.int (1000000000 : Int32))) (by rw [e17]; exact Ar18.1) (State.isArrayOf_alike hZ.alike Ar18.2.1) Ar18.2.2 in18 at18 (g := (mkF m 19 #[.val (.int p1), .val (.int (1 : Int32))] [(.int (9 : Int32)), (.ref pt), (.int p1)])) rfl rfl (hb hby d2_19)) ?_
                  show own_Fin p.tables e below _ (T17.setTop (mkF m 20 #[.val (.int p1), .val (.int (1 : Int32))] [(.int (1000000000 : Int32)), (.int p1)]))
                  refine own_go (fun _ k => iremM X17 hx rfl (hb hby d2_20) rfl (by decide) k) ?_
                  show own_Fin p.tables e below _ (T17.setTop (mkF m 21 #[.val (.int p1), .val (.int (1 : Int32))] [(.int (p1 % (1000000000 : Int32)))]))
                  refine own_go (fun _ k => XS.ifYes X17.here hx rfl (pc0 := 21) (pc' := 30) rfl (hb hby d2_21) rfl ((if0 _ _).trans (feq (own_big hlo hhi hz)).2) (by decide) (by decide) k) ?_
                  show own_Fin p.tables e below _ (T17.setTop (mkF m 30 #[.val (.int p1), .val (.int (1 : Int32))] []))
                  refine own_go (fun _ k => XS.iloadN X17.here hx rfl (hb hby d2_30) rfl k) ?_
                  show own_Fin p.tables e below _ (T17.setTop (mkF m 31 #[.val (.int p1), .val (.int (1 : Int32))] [(.int (1 : Int32))]))
                  obtain ⟨fs, hr, hrun, hended, hW, hsame⟩ := X17.leave (v := some (.int (1 : Int32))) (fun h => by rw [Bd.returns] at h; cases h)
                  refine ⟨_, _, ?_, hrun, hended, _, _, rfl, ?_, ⟨_, rfl⟩, hW, hsame.mono (by decide) (by decide)⟩
                  · exact own_retI X17 hx Bd.returns (hb hby d2_31) hr
                  · show Q_own_fd1 Z p1 pt kp h0 n0 _ T17.heap _
                    rw [e17]
                    exact ⟨(1 : Int32), rfl, N0, rfl, (Or.inl ⟨rfl, hc21_8, (own_big hlo hhi hz)⟩)⟩
                · refine own_go (fun _ k => XS.ifYes X15.here hx rfl (pc0 := 21) (pc' := 30) rfl (hb hby d2_21) rfl ((if0 _ _).trans (feq hc21_8).2) (by decide) (by decide) k) ?_
                  show own_Fin p.tables e below _ (T15.setTop (mkF m 30 #[.val (.int p1), .val (.int (2 : Int32))] []))
                  refine own_go (fun _ k => XS.iloadN X15.here hx rfl (hb hby d2_30) rfl k) ?_
                  show own_Fin p.tables e below _ (T15.setTop (mkF m 31 #[.val (.int p1), .val (.int (2 : Int32))] [(.int (2 : Int32))]))
                  obtain ⟨fs, hr, hrun, hended, hW, hsame⟩ := X15.leave (v := some (.int (2 : Int32))) (fun h => by rw [Bd.returns] at h; cases h)
                  refine ⟨_, _, ?_, hrun, hended, _, _, rfl, ?_, ⟨_, rfl⟩, hW, hsame.mono (by decide) (by decide)⟩
                  · exact own_retI X15 hx Bd.returns (hb hby d2_31) hr
                  · show Q_own_fd1 Z p1 pt kp h0 n0 _ T15.heap _
                    rw [e15]
                    exact ⟨(2 : Int32), rfl, N0, rfl, (Or.inr (Or.inl ⟨rfl, hc21_7, hc21_8⟩))⟩
              · refine own_go (fun _ k => XS.ifYes X13.here hx rfl (pc0 := 21) (pc' := 30) rfl (hb hby d2_21) rfl ((if0 _ _).trans (feq hc21_7).2) (by decide) (by decide) k) ?_
                show own_Fin p.tables e below _ (T13.setTop (mkF m 30 #[.val (.int p1), .val (.int (3 : Int32))] []))
                refine own_go (fun _ k => XS.iloadN X13.here hx rfl (hb hby d2_30) rfl k) ?_
                show own_Fin p.tables e below _ (T13.setTop (mkF m 31 #[.val (.int p1), .val (.int (3 : Int32))] [(.int (3 : Int32))]))
                obtain ⟨fs, hr, hrun, hended, hW, hsame⟩ := X13.leave (v := some (.int (3 : Int32))) (fun h => by rw [Bd.returns] at h; cases h)
                refine ⟨_, _, ?_, hrun, hended, _, _, rfl, ?_, ⟨_, rfl⟩, hW, hsame.mono (by decide) (by decide)⟩
                · exact own_retI X13 hx Bd.returns (hb hby d2_31) hr
                · show Q_own_fd1 Z p1 pt kp h0 n0 _ T13.heap _
                  rw [e13]
                  exact ⟨(3 : Int32), rfl, N0, rfl, (Or.inr (Or.inr (Or.inl ⟨rfl, hc21_6, hc21_7⟩)))⟩
            · refine own_go (fun _ k => XS.ifYes X11.here hx rfl (pc0 := 21) (pc' := 30) rfl (hb hby d2_21) rfl ((if0 _ _).trans (feq hc21_6).2) (by decide) (by decide) k) ?_
              show own_Fin p.tables e below _ (T11.setTop (mkF m 30 #[.val (.int p1), .val (.int (4 : Int32))] []))
              refine own_go (fun _ k => XS.iloadN X11.here hx rfl (hb hby d2_30) rfl k) ?_
              show own_Fin p.tables e below _ (T11.setTop (mkF m 31 #[.val (.int p1), .val (.int (4 : Int32))] [(.int (4 : Int32))]))
              obtain ⟨fs, hr, hrun, hended, hW, hsame⟩ := X11.leave (v := some (.int (4 : Int32))) (fun h => by rw [Bd.returns] at h; cases h)
              refine ⟨_, _, ?_, hrun, hended, _, _, rfl, ?_, ⟨_, rfl⟩, hW, hsame.mono (by decide) (by decide)⟩
              · exact own_retI X11 hx Bd.returns (hb hby d2_31) hr
              · show Q_own_fd1 Z p1 pt kp h0 n0 _ T11.heap _
                rw [e11]
                exact ⟨(4 : Int32), rfl, N0, rfl, (Or.inr (Or.inr (Or.inr (Or.inl ⟨rfl, hc21_5, hc21_6⟩))))⟩
          · refine own_go (fun _ k => XS.ifYes X9.here hx rfl (pc0 := 21) (pc' := 30) rfl (hb hby d2_21) rfl ((if0 _ _).trans (feq hc21_5).2) (by decide) (by decide) k) ?_
            show own_Fin p.tables e below _ (T9.setTop (mkF m 30 #[.val (.int p1), .val (.int (5 : Int32))] []))
            refine own_go (fun _ k => XS.iloadN X9.here hx rfl (hb hby d2_30) rfl k) ?_
            show own_Fin p.tables e below _ (T9.setTop (mkF m 31 #[.val (.int p1), .val (.int (5 : Int32))] [(.int (5 : Int32))]))
            obtain ⟨fs, hr, hrun, hended, hW, hsame⟩ := X9.leave (v := some (.int (5 : Int32))) (fun h => by rw [Bd.returns] at h; cases h)
            refine ⟨_, _, ?_, hrun, hended, _, _, rfl, ?_, ⟨_, rfl⟩, hW, hsame.mono (by decide) (by decide)⟩
            · exact own_retI X9 hx Bd.returns (hb hby d2_31) hr
            · show Q_own_fd1 Z p1 pt kp h0 n0 _ T9.heap _
              rw [e9]
              exact ⟨(5 : Int32), rfl, N0, rfl, (Or.inr (Or.inr (Or.inr (Or.inr (Or.inl ⟨rfl, hc21_4, hc21_5⟩)))))⟩
        · refine own_go (fun _ k => XS.ifYes X7.here hx rfl (pc0 := 21) (pc' := 30) rfl (hb hby d2_21) rfl ((if0 _ _).trans (feq hc21_4).2) (by decide) (by decide) k) ?_
          show own_Fin p.tables e below _ (T7.setTop (mkF m 30 #[.val (.int p1), .val (.int (6 : Int32))] []))
          refine own_go (fun _ k => XS.iloadN X7.here hx rfl (hb hby d2_30) rfl k) ?_
          show own_Fin p.tables e below _ (T7.setTop (mkF m 31 #[.val (.int p1), .val (.int (6 : Int32))] [(.int (6 : Int32))]))
          obtain ⟨fs, hr, hrun, hended, hW, hsame⟩ := X7.leave (v := some (.int (6 : Int32))) (fun h => by rw [Bd.returns] at h; cases h)
          refine ⟨_, _, ?_, hrun, hended, _, _, rfl, ?_, ⟨_, rfl⟩, hW, hsame.mono (by decide) (by decide)⟩
          · exact own_retI X7 hx Bd.returns (hb hby d2_31) hr
          · show Q_own_fd1 Z p1 pt kp h0 n0 _ T7.heap _
            rw [e7]
            exact ⟨(6 : Int32), rfl, N0, rfl, (Or.inr (Or.inr (Or.inr (Or.inr (Or.inr (Or.inl ⟨rfl, hc21_3, hc21_4⟩))))))⟩
      · refine own_go (fun _ k => XS.ifYes X5.here hx rfl (pc0 := 21) (pc' := 30) rfl (hb hby d2_21) rfl ((if0 _ _).trans (feq hc21_3).2) (by decide) (by decide) k) ?_
        show own_Fin p.tables e below _ (T5.setTop (mkF m 30 #[.val (.int p1), .val (.int (7 : Int32))] []))
        refine own_go (fun _ k => XS.iloadN X5.here hx rfl (hb hby d2_30) rfl k) ?_
        show own_Fin p.tables e below _ (T5.setTop (mkF m 31 #[.val (.int p1), .val (.int (7 : Int32))] [(.int (7 : Int32))]))
        obtain ⟨fs, hr, hrun, hended, hW, hsame⟩ := X5.leave (v := some (.int (7 : Int32))) (fun h => by rw [Bd.returns] at h; cases h)
        refine ⟨_, _, ?_, hrun, hended, _, _, rfl, ?_, ⟨_, rfl⟩, hW, hsame.mono (by decide) (by decide)⟩
        · exact own_retI X5 hx Bd.returns (hb hby d2_31) hr
        · show Q_own_fd1 Z p1 pt kp h0 n0 _ T5.heap _
          rw [e5]
          exact ⟨(7 : Int32), rfl, N0, rfl, (Or.inr (Or.inr (Or.inr (Or.inr (Or.inr (Or.inr (Or.inl ⟨rfl, hc21_2, hc21_3⟩)))))))⟩
    · refine own_go (fun _ k => XS.ifYes X3.here hx rfl (pc0 := 21) (pc' := 30) rfl (hb hby d2_21) rfl ((if0 _ _).trans (feq hc21_2).2) (by decide) (by decide) k) ?_
      show own_Fin p.tables e below _ (T3.setTop (mkF m 30 #[.val (.int p1), .val (.int (8 : Int32))] []))
      refine own_go (fun _ k => XS.iloadN X3.here hx rfl (hb hby d2_30) rfl k) ?_
      show own_Fin p.tables e below _ (T3.setTop (mkF m 31 #[.val (.int p1), .val (.int (8 : Int32))] [(.int (8 : Int32))]))
      obtain ⟨fs, hr, hrun, hended, hW, hsame⟩ := X3.leave (v := some (.int (8 : Int32))) (fun h => by rw [Bd.returns] at h; cases h)
      refine ⟨_, _, ?_, hrun, hended, _, _, rfl, ?_, ⟨_, rfl⟩, hW, hsame.mono (by decide) (by decide)⟩
      · exact own_retI X3 hx Bd.returns (hb hby d2_31) hr
      · show Q_own_fd1 Z p1 pt kp h0 n0 _ T3.heap _
        rw [e3]
        exact ⟨(8 : Int32), rfl, N0, rfl, (Or.inr (Or.inr (Or.inr (Or.inr (Or.inr (Or.inr (Or.inr (Or.inl ⟨rfl, hc21, hc21_2⟩))))))))⟩
  · refine own_go (fun _ k => XS.ifYes X1.here hx rfl (pc0 := 21) (pc' := 30) rfl (hb hby d2_21) rfl ((if0 _ _).trans (feq hc21).2) (by decide) (by decide) k) ?_
    show own_Fin p.tables e below _ (T1.setTop (mkF m 30 #[.val (.int p1), .val (.int (9 : Int32))] []))
    refine own_go (fun _ k => XS.iloadN X1.here hx rfl (hb hby d2_30) rfl k) ?_
    show own_Fin p.tables e below _ (T1.setTop (mkF m 31 #[.val (.int p1), .val (.int (9 : Int32))] [(.int (9 : Int32))]))
    obtain ⟨fs, hr, hrun, hended, hW, hsame⟩ := X1.leave (v := some (.int (9 : Int32))) (fun h => by rw [Bd.returns] at h; cases h)
    refine ⟨_, _, ?_, hrun, hended, _, _, rfl, ?_, ⟨_, rfl⟩, hW, hsame.mono (by decide) (by decide)⟩
    · exact own_retI X1 hx Bd.returns (hb hby d2_31) hr
    · show Q_own_fd1 Z p1 pt kp h0 n0 _ T1.heap _
      rw [e1]
      exact ⟨(9 : Int32), rfl, N0, rfl, (Or.inr (Or.inr (Or.inr (Or.inr (Or.inr (Or.inr (Or.inr (Or.inr (⟨rfl, (own_mod1 p1), hc21⟩)))))))))⟩
theorem own_kpin (p2 : Int32) : own_pin ((p2 &&& (2147483647 : Int32)) % (10 : Int32)) := by
  show ((p2 &&& (2147483647 : Int32)) % (10 : Int32)) = (0 : Int32) ∨ ((p2 &&& (2147483647 : Int32)) % (10 : Int32)) = (1 : Int32) ∨ ((p2 &&& (2147483647 : Int32)) % (10 : Int32)) = (2 : Int32) ∨ ((p2 &&& (2147483647 : Int32)) % (10 : Int32)) = (3 : Int32) ∨ ((p2 &&& (2147483647 : Int32)) % (10 : Int32)) = (4 : Int32) ∨ ((p2 &&& (2147483647 : Int32)) % (10 : Int32)) = (5 : Int32) ∨ ((p2 &&& (2147483647 : Int32)) % (10 : Int32)) = (6 : Int32) ∨ ((p2 &&& (2147483647 : Int32)) % (10 : Int32)) = (7 : Int32) ∨ ((p2 &&& (2147483647 : Int32)) % (10 : Int32)) = (8 : Int32) ∨ ((p2 &&& (2147483647 : Int32)) % (10 : Int32)) = (9 : Int32)
  have h1 := c_and p2 (2147483647 : Int32) (by decide)
  have h2 := (c_irem (p2 &&& (2147483647 : Int32)) (10 : Int32) 10 rfl).1 h1.1
  have h3 : 0 ≤ (p2 &&& (2147483647 : Int32)).toInt % 10 ∧ (p2 &&& (2147483647 : Int32)).toInt % 10 < 10 := by omega
  rw [← h2] at h3
  generalize ((p2 &&& (2147483647 : Int32)) % (10 : Int32)) = y at h3
  simp only [← Int32.toInt_inj]
  have e0 : (0 : Int32).toInt = 0 := rfl
  have e1 : (1 : Int32).toInt = 1 := rfl
  have e2 : (2 : Int32).toInt = 2 := rfl
  have e3 : (3 : Int32).toInt = 3 := rfl
  have e4 : (4 : Int32).toInt = 4 := rfl
  have e5 : (5 : Int32).toInt = 5 := rfl
  have e6 : (6 : Int32).toInt = 6 := rfl
  have e7 : (7 : Int32).toInt = 7 := rfl
  have e8 : (8 : Int32).toInt = 8 := rfl
  have e9 : (9 : Int32).toInt = 9 := rfl
  omega
theorem own_kpin' {x : Int32} (h : own_pin x) : own_pin ((9 : Int32) - x) := by
  rcases h with rfl | rfl | rfl | rfl | rfl | rfl | rfl | rfl | rfl | rfl
  · exact Or.inr (Or.inr (Or.inr (Or.inr (Or.inr (Or.inr (Or.inr (Or.inr (Or.inr (rfl)))))))))
  · exact Or.inr (Or.inr (Or.inr (Or.inr (Or.inr (Or.inr (Or.inr (Or.inr (Or.inl rfl))))))))
  · exact Or.inr (Or.inr (Or.inr (Or.inr (Or.inr (Or.inr (Or.inr (Or.inl rfl)))))))
  · exact Or.inr (Or.inr (Or.inr (Or.inr (Or.inr (Or.inr (Or.inl rfl))))))
  · exact Or.inr (Or.inr (Or.inr (Or.inr (Or.inr (Or.inl rfl)))))
  · exact Or.inr (Or.inr (Or.inr (Or.inr (Or.inl rfl))))
  · exact Or.inr (Or.inr (Or.inr (Or.inl rfl)))
  · exact Or.inr (Or.inr (Or.inl rfl))
  · exact Or.inr (Or.inl rfl)
  · exact Or.inl rfl
theorem own_wrap {x y : Int} (h : (y - x) % 4294967296 = 0) (b1 : y < 2147483648) (b2 : -2147483648 ≤ y) (c1 : x < 2147483648) (c2 : -2147483648 ≤ x) : y = x := by omega
theorem own_nb {x : Int32} (h : own_pin x) {a : Int32} (ha : 0 ≤ a.toInt) : 0 ≤ ((a % (own_p10 ((9 : Int32) - x))) * (own_p10 x)).toInt ∧ ((a % (own_p10 ((9 : Int32) - x))) * (own_p10 x)).toInt < 1000000000 := by
  rcases h with rfl | rfl | rfl | rfl | rfl | rfl | rfl | rfl | rfl | rfl
  · have e1 : own_p10 ((9 : Int32) - (0 : Int32)) = (1000000000 : Int32) := by decide
    have e2 : own_p10 (0 : Int32) = (1 : Int32) := by decide
    rw [e1, e2]
    have h1 := (c_irem a (1000000000 : Int32) 1000000000 rfl).1 ha
    have h2 := c_imul (a % (1000000000 : Int32)) (1 : Int32)
    have b1 := Int32.toInt_lt ((a % (1000000000 : Int32)) * (1 : Int32)); have b2 := Int32.le_toInt ((a % (1000000000 : Int32)) * (1 : Int32))
    have e3 : (1 : Int32).toInt = 1 := rfl
    rw [e3] at h2
    have h4 := own_wrap h2 b1 b2 (by omega) (by omega)
    omega
  · have e1 : own_p10 ((9 : Int32) - (1 : Int32)) = (100000000 : Int32) := by decide
    have e2 : own_p10 (1 : Int32) = (10 : Int32) := by decide
    rw [e1, e2]
    have h1 := (c_irem a (100000000 : Int32) 100000000 rfl).1 ha
    have h2 := c_imul (a % (100000000 : Int32)) (10 : Int32)
    have b1 := Int32.toInt_lt ((a % (100000000 : Int32)) * (10 : Int32)); have b2 := Int32.le_toInt ((a % (100000000 : Int32)) * (10 : Int32))
    have e3 : (10 : Int32).toInt = 10 := rfl
    rw [e3] at h2
    have h4 := own_wrap h2 b1 b2 (by omega) (by omega)
    omega
  · have e1 : own_p10 ((9 : Int32) - (2 : Int32)) = (10000000 : Int32) := by decide
    have e2 : own_p10 (2 : Int32) = (100 : Int32) := by decide
    rw [e1, e2]
    have h1 := (c_irem a (10000000 : Int32) 10000000 rfl).1 ha
    have h2 := c_imul (a % (10000000 : Int32)) (100 : Int32)
    have b1 := Int32.toInt_lt ((a % (10000000 : Int32)) * (100 : Int32)); have b2 := Int32.le_toInt ((a % (10000000 : Int32)) * (100 : Int32))
    have e3 : (100 : Int32).toInt = 100 := rfl
    rw [e3] at h2
    have h4 := own_wrap h2 b1 b2 (by omega) (by omega)
    omega
  · have e1 : own_p10 ((9 : Int32) - (3 : Int32)) = (1000000 : Int32) := by decide
    have e2 : own_p10 (3 : Int32) = (1000 : Int32) := by decide
    rw [e1, e2]
    have h1 := (c_irem a (1000000 : Int32) 1000000 rfl).1 ha
    have h2 := c_imul (a % (1000000 : Int32)) (1000 : Int32)
    have b1 := Int32.toInt_lt ((a % (1000000 : Int32)) * (1000 : Int32)); have b2 := Int32.le_toInt ((a % (1000000 : Int32)) * (1000 : Int32))
    have e3 : (1000 : Int32).toInt = 1000 := rfl
    rw [e3] at h2
    have h4 := own_wrap h2 b1 b2 (by omega) (by omega)
    omega
  · have e1 : own_p10 ((9 : Int32) - (4 : Int32)) = (100000 : Int32) := by decide
    have e2 : own_p10 (4 : Int32) = (10000 : Int32) := by decide
    rw [e1, e2]
    have h1 := (c_irem a (100000 : Int32) 100000 rfl).1 ha
    have h2 := c_imul (a % (100000 : Int32)) (10000 : Int32)
    have b1 := Int32.toInt_lt ((a % (100000 : Int32)) * (10000 : Int32)); have b2 := Int32.le_toInt ((a % (100000 : Int32)) * (10000 : Int32))
    have e3 : (10000 : Int32).toInt = 10000 := rfl
    rw [e3] at h2
    have h4 := own_wrap h2 b1 b2 (by omega) (by omega)
    omega
  · have e1 : own_p10 ((9 : Int32) - (5 : Int32)) = (10000 : Int32) := by decide
    have e2 : own_p10 (5 : Int32) = (100000 : Int32) := by decide
    rw [e1, e2]
    have h1 := (c_irem a (10000 : Int32) 10000 rfl).1 ha
    have h2 := c_imul (a % (10000 : Int32)) (100000 : Int32)
    have b1 := Int32.toInt_lt ((a % (10000 : Int32)) * (100000 : Int32)); have b2 := Int32.le_toInt ((a % (10000 : Int32)) * (100000 : Int32))
    have e3 : (100000 : Int32).toInt = 100000 := rfl
    rw [e3] at h2
    have h4 := own_wrap h2 b1 b2 (by omega) (by omega)
    omega
  · have e1 : own_p10 ((9 : Int32) - (6 : Int32)) = (1000 : Int32) := by decide
    have e2 : own_p10 (6 : Int32) = (1000000 : Int32) := by decide
    rw [e1, e2]
    have h1 := (c_irem a (1000 : Int32) 1000 rfl).1 ha
    have h2 := c_imul (a % (1000 : Int32)) (1000000 : Int32)
    have b1 := Int32.toInt_lt ((a % (1000 : Int32)) * (1000000 : Int32)); have b2 := Int32.le_toInt ((a % (1000 : Int32)) * (1000000 : Int32))
    have e3 : (1000000 : Int32).toInt = 1000000 := rfl
    rw [e3] at h2
    have h4 := own_wrap h2 b1 b2 (by omega) (by omega)
    omega
  · have e1 : own_p10 ((9 : Int32) - (7 : Int32)) = (100 : Int32) := by decide
    have e2 : own_p10 (7 : Int32) = (10000000 : Int32) := by decide
    rw [e1, e2]
    have h1 := (c_irem a (100 : Int32) 100 rfl).1 ha
    have h2 := c_imul (a % (100 : Int32)) (10000000 : Int32)
    have b1 := Int32.toInt_lt ((a % (100 : Int32)) * (10000000 : Int32)); have b2 := Int32.le_toInt ((a % (100 : Int32)) * (10000000 : Int32))
    have e3 : (10000000 : Int32).toInt = 10000000 := rfl
    rw [e3] at h2
    have h4 := own_wrap h2 b1 b2 (by omega) (by omega)
    omega
  · have e1 : own_p10 ((9 : Int32) - (8 : Int32)) = (10 : Int32) := by decide
    have e2 : own_p10 (8 : Int32) = (100000000 : Int32) := by decide
    rw [e1, e2]
    have h1 := (c_irem a (10 : Int32) 10 rfl).1 ha
    have h2 := c_imul (a % (10 : Int32)) (100000000 : Int32)
    have b1 := Int32.toInt_lt ((a % (10 : Int32)) * (100000000 : Int32)); have b2 := Int32.le_toInt ((a % (10 : Int32)) * (100000000 : Int32))
    have e3 : (100000000 : Int32).toInt = 100000000 := rfl
    rw [e3] at h2
    have h4 := own_wrap h2 b1 b2 (by omega) (by omega)
    omega
  · have e1 : own_p10 ((9 : Int32) - (9 : Int32)) = (1 : Int32) := by decide
    have e2 : own_p10 (9 : Int32) = (1000000000 : Int32) := by decide
    rw [e1, e2]
    have h1 := (c_irem a (1 : Int32) 1 rfl).1 ha
    have h2 := c_imul (a % (1 : Int32)) (1000000000 : Int32)
    have b1 := Int32.toInt_lt ((a % (1 : Int32)) * (1000000000 : Int32)); have b2 := Int32.le_toInt ((a % (1 : Int32)) * (1000000000 : Int32))
    have e3 : (1000000000 : Int32).toInt = 1000000000 := rfl
    rw [e3] at h2
    have h4 := own_wrap h2 b1 b2 (by omega) (by omega)
    omega
def Q_own_law (Z : State) (p1 : Int32) (p2 : Int32) (pt : Addr) (kp : ClassId) (h0 : Heap) (n0 : Nat) (v : Option Value) (h : Heap) (L : List Loc) : Prop := v = some (.int (1 : Int32)) ∧ Fr n0 L
theorem ef_own_law (m : MethodId) (x0 : Int32) (x1 : Int32) : entryFrame m #[(.int x0), (.int x1)] maxLocals = mkF m 0 #[.val (.int x0), .val (.int x1), .unset, .unset, .unset] [] := by first | (simp [entryFrame, mkF, argsToLocals, Value.category, maxLocals]; done) | rfl
set_option maxRecDepth 65536 in
set_option maxHeartbeats 40000000 in
theorem own_law (l : Launch) (Z : State) (a0 : Array Value) (hw : ∀ d ∈ tables_1, d.before a0 Z = true) (ws : List Jvm.Cond) (p1 : Int32) (p2 : Int32) (pt : Addr) (kp : ClassId) (h0 : Heap) (n0 : Nat) (Z0 : n0 ≤ h0.size) (O0 : Old Z n0 h0) (SP : Sta Z Z.heap "com/example/ianus/ianus/data/Datetimes" "POWERS_OF_TEN" "[I" (.ref pt)) (VP : Arv Z Z.heap pt kp .int (10 : Int32) [(.int (1 : Int32)), (.int (10 : Int32)), (.int (100 : Int32)), (.int (1000 : Int32)), (.int (10000 : Int32)), (.int (100000 : Int32)), (.int (1000000 : Int32)), (.int (10000000 : Int32)), (.int (100000000 : Int32)), (.int (1000000000 : Int32))] (.int (0 : Int32))) :
    MetFree l x (head1 (Jvm.Cond.code x code maxLocals ret :: ws) room_1) (fun a U => a = #[(.int p1), (.int p2)] ∧ Z.Warmed39 U.vm ∧ U.heap = h0) (fun _ _ _ _ _ => True) (fun _ U o U' => ∃ v L, o = .returned v ∧ Q_own_law Z p1 p2 pt kp h0 n0 v U'.heap L ∧ FrameEnd U o U' L room_1.cells room_1.slots) := by
  refine MetFree.of_bodySF (plainFor_of_name own_pn0) hisR ?_
  intro p e s m args below meth c s₁ Bd hml0 hP hK
  obtain ⟨rfl, hZ, hh⟩ := hP
  have hx := Bd.exec
  have hby := Bd.bytes
  have hml : c.maxLocals = 5 := hml0
  have hown : s.vm.findClass "com/example/ianus/ianus/data/DatetimesFractionDigitsPinLaw" = some m.cls := findClass_of_methodNamed Bd.named
  have hnm := (name_of_methodNamed Bd.named Bd.method).1
  have X0 : Stand p l e room_1 s m #[(.int p1), (.int p2)] below meth c s₁ [] 0 0 := Stand.of_body Bd
  have e0 : s₁.heap = h0 := by rw [← hh, Bd.state]; rfl
  have N0 := Fr.nil n0
  show own_Fin p.tables e below _ (s₁.setTop (entryFrame m #[(.int p1), (.int p2)] maxLocals))
  refine own_go (fun _ k => castTop (ef_own_law m p1 p2) k) ?_
  show own_Fin p.tables e below _ (s₁.setTop (mkF m 0 #[.val (.int p1), .val (.int p2), .unset, .unset, .unset] []))
  refine own_go (fun _ k => XS.iloadN X0.here hx rfl (hb hby at_0) rfl k) ?_
  show own_Fin p.tables e below _ (s₁.setTop (mkF m 1 #[.val (.int p1), .val (.int p2), .unset, .unset, .unset] [(.int p2)]))
  refine own_go (X0.ldcInt hx hown (mvT hZ (hw _ (List.mem_of_getElem? (i := 0) rfl))) (g := (mkF m 1 #[.val (.int p1), .val (.int p2), .unset, .unset, .unset] [(.int p2)])) rfl (hb hby at_1)) ?_
  show own_Fin p.tables e below _ (s₁.setTop (mkF m 3 #[.val (.int p1), .val (.int p2), .unset, .unset, .unset] [(.int (2147483647 : Int32)), (.int p2)]))
  refine own_go (fun _ k => XS.iand X0.here hx rfl (hb hby at_3) rfl k) ?_
  show own_Fin p.tables e below _ (s₁.setTop (mkF m 4 #[.val (.int p1), .val (.int p2), .unset, .unset, .unset] [(.int (p2 &&& (2147483647 : Int32)))]))
  refine own_go (fun _ k => XS.bipush X0.here hx rfl (hb hby at_4) k) ?_
  show own_Fin p.tables e below _ (s₁.setTop (mkF m 6 #[.val (.int p1), .val (.int p2), .unset, .unset, .unset] [(.int (10 : Int32)), (.int (p2 &&& (2147483647 : Int32)))]))
  refine own_go (fun _ k => iremM X0 hx rfl (hb hby at_6) rfl (by decide) k) ?_
  show own_Fin p.tables e below _ (s₁.setTop (mkF m 7 #[.val (.int p1), .val (.int p2), .unset, .unset, .unset] [(.int ((p2 &&& (2147483647 : Int32)) % (10 : Int32)))]))
  refine own_go (fun _ k => XS.istoreN X0.here hx rfl (hb hby at_7) rfl (l' := #[.val (.int p1), .val (.int p2), .val (.int ((p2 &&& (2147483647 : Int32)) % (10 : Int32))), .unset, .unset]) rfl k) ?_
  show own_Fin p.tables e below _ (s₁.setTop (mkF m 8 #[.val (.int p1), .val (.int p2), .val (.int ((p2 &&& (2147483647 : Int32)) % (10 : Int32))), .unset, .unset] []))
  refine own_go (fun _ k => XS.iloadN X0.here hx rfl (hb hby at_8) rfl k) ?_
  show own_Fin p.tables e below _ (s₁.setTop (mkF m 9 #[.val (.int p1), .val (.int p2), .val (.int ((p2 &&& (2147483647 : Int32)) % (10 : Int32))), .unset, .unset] [(.int p1)]))
  refine own_go (X0.ldcInt hx hown (mvT hZ (hw _ (List.mem_of_getElem? (i := 0) rfl))) (g := (mkF m 9 #[.val (.int p1), .val (.int p2), .val (.int ((p2 &&& (2147483647 : Int32)) % (10 : Int32))), .unset, .unset] [(.int p1)])) rfl (hb hby at_9)) ?_
  show own_Fin p.tables e below _ (s₁.setTop (mkF m 11 #[.val (.int p1), .val (.int p2), .val (.int ((p2 &&& (2147483647 : Int32)) % (10 : Int32))), .unset, .unset] [(.int (2147483647 : Int32)), (.int p1)]))
  refine own_go (fun _ k => XS.iand X0.here hx rfl (hb hby at_11) rfl k) ?_
  show own_Fin p.tables e below _ (s₁.setTop (mkF m 12 #[.val (.int p1), .val (.int p2), .val (.int ((p2 &&& (2147483647 : Int32)) % (10 : Int32))), .unset, .unset] [(.int (p1 &&& (2147483647 : Int32)))]))
  refine own_go (fun _ k => XS.bipush X0.here hx rfl (hb hby at_12) k) ?_
  show own_Fin p.tables e below _ (s₁.setTop (mkF m 14 #[.val (.int p1), .val (.int p2), .val (.int ((p2 &&& (2147483647 : Int32)) % (10 : Int32))), .unset, .unset] [(.int (9 : Int32)), (.int (p1 &&& (2147483647 : Int32)))]))
  refine own_go (fun _ k => XS.iloadN X0.here hx rfl (hb hby at_14) rfl k) ?_
  show own_Fin p.tables e below _ (s₁.setTop (mkF m 15 #[.val (.int p1), .val (.int p2), .val (.int ((p2 &&& (2147483647 : Int32)) % (10 : Int32))), .unset, .unset] [(.int ((p2 &&& (2147483647 : Int32)) % (10 : Int32))), (.int (9 : Int32)), (.int (p1 &&& (2147483647 : Int32)))]))
  refine own_go (fun _ k => XS.isub X0.here hx rfl (hb hby at_15) rfl k) ?_
  show own_Fin p.tables e below _ (s₁.setTop (mkF m 16 #[.val (.int p1), .val (.int p2), .val (.int ((p2 &&& (2147483647 : Int32)) % (10 : Int32))), .unset, .unset] [(.int ((9 : Int32) - ((p2 &&& (2147483647 : Int32)) % (10 : Int32)))), (.int (p1 &&& (2147483647 : Int32)))]))
  obtain ⟨_, _, ⟨T1, L1, k1, n1⟩, -, X1, ⟨Lc1, hQ1, l1, y1, z1⟩, st1⟩ := Jvm.LawKit.callS X0 hx (y := (⟨"com/example/ianus/ianus/data/DatetimesFractionDigitsPinLaw", "pow", "(I)I"⟩ : MethodName)) hown (mvT hZ (hw _ (List.mem_of_getElem? (i := 1) rfl))) (mvT hZ (hw _ (List.mem_of_getElem? (i := 2) rfl))) (mvT hZ (hw _ (List.mem_of_getElem? (i := 3) rfl))) (mvT hZ (hw _ (List.mem_of_getElem? (i := 4) rfl))) (by decide) (backOf (W := 1) (own_pow l Z a0 hw [] ((9 : Int32) - ((p2 &&& (2147483647 : Int32)) % (10 : Int32))) h0 n0 Z0 O0 (own_kpin' (own_kpin p2))) hZ (hw _ (List.mem_of_getElem? (i := 4) rfl)) (hw _ (List.mem_of_getElem? (i := 3) rfl)) (by decide) (by decide)) (g := (mkF m 16 #[.val (.int p1), .val (.int p2), .val (.int ((p2 &&& (2147483647 : Int32)) % (10 : Int32))), .unset, .unset] [(.int ((9 : Int32) - ((p2 &&& (2147483647 : Int32)) % (10 : Int32)))), (.int (p1 &&& (2147483647 : Int32)))])) rfl (by rw [hml]; rfl) (argsL := [(.int ((9 : Int32) - ((p2 &&& (2147483647 : Int32)) % (10 : Int32))))]) (rest := [(.int (p1 &&& (2147483647 : Int32)))]) (lenOf own_pd0 rfl) rfl (by show 2 * 0 + _ ≤ _; exact Nat.le_of_eq rfl) (hb hby at_16) (fun _ _ => ⟨rfl, e0, (by decide : 0 + 1 ≤ _), (by decide : 0 + 10 ≤ _)⟩)
  dsimp only [Pt.U, Pt.locs, Pt.cells, Pt.slots] at X1 l1 y1 z1 st1 hQ1
  subst l1 y1 z1
  obtain ⟨hv1, N1q, o1_0⟩ := hQ1
  subst hv1
  have N1 := Fr.app N0 N1q
  refine own_go st1 ?_
  have f2_0 : Old Z n0 T1.heap := O0.keep o1_0 all0
  have Z3 : n0 ≤ T1.heap.size := Nat.le_trans Z0 o1_0.1
  show own_Fin p.tables e below _ (T1.setTop (mkF m 19 #[.val (.int p1), .val (.int p2), .val (.int ((p2 &&& (2147483647 : Int32)) % (10 : Int32))), .unset, .unset] [(.int (own_p10 ((9 : Int32) - ((p2 &&& (2147483647 : Int32)) % (10 : Int32))))), (.int (p1 &&& (2147483647 : Int32)))]))
  refine own_go (fun _ k => iremM X1 hx rfl (hb hby at_19) rfl (own_pin_p (own_kpin' (own_kpin p2))).1 k) ?_
  show own_Fin p.tables e below _ (T1.setTop (mkF m 20 #[.val (.int p1), .val (.int p2), .val (.int ((p2 &&& (2147483647 : Int32)) % (10 : Int32))), .unset, .unset] [(.int ((p1 &&& (2147483647 : Int32)) % (own_p10 ((9 : Int32) - ((p2 &&& (2147483647 : Int32)) % (10 : Int32))))))]))
  refine own_go (fun _ k => XS.iloadN X1.here hx rfl (hb hby at_20) rfl k) ?_
  show own_Fin p.tables e below _ (T1.setTop (mkF m 21 #[.val (.int p1), .val (.int p2), .val (.int ((p2 &&& (2147483647 : Int32)) % (10 : Int32))), .unset, .unset] [(.int ((p2 &&& (2147483647 : Int32)) % (10 : Int32))), (.int ((p1 &&& (2147483647 : Int32)) % (own_p10 ((9 : Int32) - ((p2 &&& (2147483647 : Int32)) % (10 : Int32))))))]))
  obtain ⟨_, _, ⟨T4, L4, k4, n4⟩, -, X4, ⟨Lc4, hQ4, l4, y4, z4⟩, st4⟩ := Jvm.LawKit.callS X1 hx (y := (⟨"com/example/ianus/ianus/data/DatetimesFractionDigitsPinLaw", "pow", "(I)I"⟩ : MethodName)) hown (mvT hZ (hw _ (List.mem_of_getElem? (i := 1) rfl))) (mvT hZ (hw _ (List.mem_of_getElem? (i := 2) rfl))) (mvT hZ (hw _ (List.mem_of_getElem? (i := 3) rfl))) (mvT hZ (hw _ (List.mem_of_getElem? (i := 4) rfl))) (by decide) (backOf (W := 1) (own_pow l Z a0 hw [] ((p2 &&& (2147483647 : Int32)) % (10 : Int32)) T1.heap n0 Z3 f2_0 (own_kpin p2)) hZ (hw _ (List.mem_of_getElem? (i := 4) rfl)) (hw _ (List.mem_of_getElem? (i := 3) rfl)) (by decide) (by decide)) (g := (mkF m 21 #[.val (.int p1), .val (.int p2), .val (.int ((p2 &&& (2147483647 : Int32)) % (10 : Int32))), .unset, .unset] [(.int ((p2 &&& (2147483647 : Int32)) % (10 : Int32))), (.int ((p1 &&& (2147483647 : Int32)) % (own_p10 ((9 : Int32) - ((p2 &&& (2147483647 : Int32)) % (10 : Int32))))))])) rfl (by rw [hml]; rfl) (argsL := [(.int ((p2 &&& (2147483647 : Int32)) % (10 : Int32)))]) (rest := [(.int ((p1 &&& (2147483647 : Int32)) % (own_p10 ((9 : Int32) - ((p2 &&& (2147483647 : Int32)) % (10 : Int32))))))]) (lenOf own_pd0 rfl) rfl (by show 2 * 0 + _ ≤ _; exact Nat.le_of_eq rfl) (hb hby at_21) (fun _ _ => ⟨rfl, rfl, (by decide : 1 + 1 ≤ _), (by decide : 10 + 10 ≤ _)⟩)
  dsimp only [Pt.U, Pt.locs, Pt.cells, Pt.slots] at X4 l4 y4 z4 st4 hQ4
  subst l4 y4 z4
  obtain ⟨hv4, N4q, o4_0⟩ := hQ4
  subst hv4
  have N4 := Fr.app N1 N4q
  refine own_go st4 ?_
  have f5_0 : Old Z n0 T4.heap := f2_0.keep o4_0 all0
  have Z6 : n0 ≤ T4.heap.size := Nat.le_trans Z3 o4_0.1
  show own_Fin p.tables e below _ (T4.setTop (mkF m 24 #[.val (.int p1), .val (.int p2), .val (.int ((p2 &&& (2147483647 : Int32)) % (10 : Int32))), .unset, .unset] [(.int (own_p10 ((p2 &&& (2147483647 : Int32)) % (10 : Int32)))), (.int ((p1 &&& (2147483647 : Int32)) % (own_p10 ((9 : Int32) - ((p2 &&& (2147483647 : Int32)) % (10 : Int32))))))]))
  refine own_go (fun _ k => XS.imul X4.here hx rfl (hb hby at_24) rfl k) ?_
  show own_Fin p.tables e below _ (T4.setTop (mkF m 25 #[.val (.int p1), .val (.int p2), .val (.int ((p2 &&& (2147483647 : Int32)) % (10 : Int32))), .unset, .unset] [(.int (((p1 &&& (2147483647 : Int32)) % (own_p10 ((9 : Int32) - ((p2 &&& (2147483647 : Int32)) % (10 : Int32))))) * (own_p10 ((p2 &&& (2147483647 : Int32)) % (10 : Int32)))))]))
  refine own_go (fun _ k => XS.istoreN X4.here hx rfl (hb hby at_25) rfl (l' := #[.val (.int p1), .val (.int p2), .val (.int ((p2 &&& (2147483647 : Int32)) % (10 : Int32))), .val (.int (((p1 &&& (2147483647 : Int32)) % (own_p10 ((9 : Int32) - ((p2 &&& (2147483647 : Int32)) % (10 : Int32))))) * (own_p10 ((p2 &&& (2147483647 : Int32)) % (10 : Int32))))), .unset]) rfl k) ?_
  show own_Fin p.tables e below _ (T4.setTop (mkF m 26 #[.val (.int p1), .val (.int p2), .val (.int ((p2 &&& (2147483647 : Int32)) % (10 : Int32))), .val (.int (((p1 &&& (2147483647 : Int32)) % (own_p10 ((9 : Int32) - ((p2 &&& (2147483647 : Int32)) % (10 : Int32))))) * (own_p10 ((p2 &&& (2147483647 : Int32)) % (10 : Int32))))), .unset] []))
  by_cases hN : (((p1 &&& (2147483647 : Int32)) % (own_p10 ((9 : Int32) - ((p2 &&& (2147483647 : Int32)) % (10 : Int32))))) * (own_p10 ((p2 &&& (2147483647 : Int32)) % (10 : Int32)))) = (0 : Int32)
  · refine own_go (fun _ k => XS.iloadN X4.here hx rfl (hb hby at_26) rfl k) ?_
    show own_Fin p.tables e below _ (T4.setTop (mkF m 27 #[.val (.int p1), .val (.int p2), .val (.int ((p2 &&& (2147483647 : Int32)) % (10 : Int32))), .val (.int (((p1 &&& (2147483647 : Int32)) % (own_p10 ((9 : Int32) - ((p2 &&& (2147483647 : Int32)) % (10 : Int32))))) * (own_p10 ((p2 &&& (2147483647 : Int32)) % (10 : Int32))))), .unset] [(.int (((p1 &&& (2147483647 : Int32)) % (own_p10 ((9 : Int32) - ((p2 &&& (2147483647 : Int32)) % (10 : Int32))))) * (own_p10 ((p2 &&& (2147483647 : Int32)) % (10 : Int32)))))]))
    obtain ⟨_, _, ⟨T7, L7, k7, n7⟩, -, X7, ⟨Lc7, hQ7, l7, y7, z7⟩, st7⟩ := Jvm.LawKit.callS X4 hx (y := (⟨"com/example/ianus/ianus/data/Datetimes", "fractionDigits", "(I)I"⟩ : MethodName)) hown (mvT hZ (hw _ (List.mem_of_getElem? (i := 11) rfl))) (mvT hZ (hw _ (List.mem_of_getElem? (i := 12) rfl))) (mvT hZ (hw _ (List.mem_of_getElem? (i := 13) rfl))) (mvT hZ (hw _ (List.mem_of_getElem? (i := 14) rfl))) (by decide) (backOf (W := 0) (own_fd0 l Z a0 hw [] (((p1 &&& (2147483647 : Int32)) % (own_p10 ((9 : Int32) - ((p2 &&& (2147483647 : Int32)) % (10 : Int32))))) * (own_p10 ((p2 &&& (2147483647 : Int32)) % (10 : Int32)))) T4.heap n0 Z6 hN) hZ (hw _ (List.mem_of_getElem? (i := 14) rfl)) (hw _ (List.mem_of_getElem? (i := 13) rfl)) (by decide) (by decide)) (g := (mkF m 27 #[.val (.int p1), .val (.int p2), .val (.int ((p2 &&& (2147483647 : Int32)) % (10 : Int32))), .val (.int (((p1 &&& (2147483647 : Int32)) % (own_p10 ((9 : Int32) - ((p2 &&& (2147483647 : Int32)) % (10 : Int32))))) * (own_p10 ((p2 &&& (2147483647 : Int32)) % (10 : Int32))))), .unset] [(.int (((p1 &&& (2147483647 : Int32)) % (own_p10 ((9 : Int32) - ((p2 &&& (2147483647 : Int32)) % (10 : Int32))))) * (own_p10 ((p2 &&& (2147483647 : Int32)) % (10 : Int32)))))])) rfl (by rw [hml]; rfl) (argsL := [(.int (((p1 &&& (2147483647 : Int32)) % (own_p10 ((9 : Int32) - ((p2 &&& (2147483647 : Int32)) % (10 : Int32))))) * (own_p10 ((p2 &&& (2147483647 : Int32)) % (10 : Int32)))))]) (rest := []) (lenOf own_pd0 rfl) rfl (by show 2 * 0 + _ ≤ _; exact Nat.le_of_eq rfl) (hb hby at_27) (fun _ _ => ⟨rfl, rfl, (by decide : 2 + 0 ≤ _), (by decide : 20 + 0 ≤ _)⟩)
    dsimp only [Pt.U, Pt.locs, Pt.cells, Pt.slots] at X7 l7 y7 z7 st7 hQ7
    subst l7 y7 z7
    obtain ⟨hv7, N7q, eh7⟩ := hQ7
    subst hv7
    have N7 := Fr.app N4 N7q
    refine own_go st7 ?_
    show own_Fin p.tables e below _ (T7.setTop (mkF m 30 #[.val (.int p1), .val (.int p2), .val (.int ((p2 &&& (2147483647 : Int32)) % (10 : Int32))), .val (.int (((p1 &&& (2147483647 : Int32)) % (own_p10 ((9 : Int32) - ((p2 &&& (2147483647 : Int32)) % (10 : Int32))))) * (own_p10 ((p2 &&& (2147483647 : Int32)) % (10 : Int32))))), .unset] [(.int (0 : Int32))]))
    refine own_go (fun _ k => XS.istore X7.here hx rfl (hb hby at_30) rfl (l' := #[.val (.int p1), .val (.int p2), .val (.int ((p2 &&& (2147483647 : Int32)) % (10 : Int32))), .val (.int (((p1 &&& (2147483647 : Int32)) % (own_p10 ((9 : Int32) - ((p2 &&& (2147483647 : Int32)) % (10 : Int32))))) * (own_p10 ((p2 &&& (2147483647 : Int32)) % (10 : Int32))))), .val (.int (0 : Int32))]) rfl k) ?_
    show own_Fin p.tables e below _ (T7.setTop (mkF m 32 #[.val (.int p1), .val (.int p2), .val (.int ((p2 &&& (2147483647 : Int32)) % (10 : Int32))), .val (.int (((p1 &&& (2147483647 : Int32)) % (own_p10 ((9 : Int32) - ((p2 &&& (2147483647 : Int32)) % (10 : Int32))))) * (own_p10 ((p2 &&& (2147483647 : Int32)) % (10 : Int32))))), .val (.int (0 : Int32))] []))
    refine own_go (fun _ k => XS.iloadN X7.here hx rfl (hb hby at_32) rfl k) ?_
    show own_Fin p.tables e below _ (T7.setTop (mkF m 33 #[.val (.int p1), .val (.int p2), .val (.int ((p2 &&& (2147483647 : Int32)) % (10 : Int32))), .val (.int (((p1 &&& (2147483647 : Int32)) % (own_p10 ((9 : Int32) - ((p2 &&& (2147483647 : Int32)) % (10 : Int32))))) * (own_p10 ((p2 &&& (2147483647 : Int32)) % (10 : Int32))))), .val (.int (0 : Int32))] [(.int (((p1 &&& (2147483647 : Int32)) % (own_p10 ((9 : Int32) - ((p2 &&& (2147483647 : Int32)) % (10 : Int32))))) * (own_p10 ((p2 &&& (2147483647 : Int32)) % (10 : Int32)))))]))
    refine own_go (fun _ k => XS.ifNo X7.here hx rfl (hb hby at_33) rfl ((if0 _ _).trans (teq hN).2) k) ?_
    show own_Fin p.tables e below _ (T7.setTop (mkF m 36 #[.val (.int p1), .val (.int p2), .val (.int ((p2 &&& (2147483647 : Int32)) % (10 : Int32))), .val (.int (((p1 &&& (2147483647 : Int32)) % (own_p10 ((9 : Int32) - ((p2 &&& (2147483647 : Int32)) % (10 : Int32))))) * (own_p10 ((p2 &&& (2147483647 : Int32)) % (10 : Int32))))), .val (.int (0 : Int32))] []))
    refine own_go (fun _ k => XS.iload X7.here hx rfl (hb hby at_36) rfl k) ?_
    show own_Fin p.tables e below _ (T7.setTop (mkF m 38 #[.val (.int p1), .val (.int p2), .val (.int ((p2 &&& (2147483647 : Int32)) % (10 : Int32))), .val (.int (((p1 &&& (2147483647 : Int32)) % (own_p10 ((9 : Int32) - ((p2 &&& (2147483647 : Int32)) % (10 : Int32))))) * (own_p10 ((p2 &&& (2147483647 : Int32)) % (10 : Int32))))), .val (.int (0 : Int32))] [(.int (0 : Int32))]))
    refine own_go (fun _ k => XS.ifNo X7.here hx rfl (hb hby at_38) rfl ((if0 _ _).trans (teq (by decide : ((0 : Int32) = (0 : Int32)))).2) k) ?_
    show own_Fin p.tables e below _ (T7.setTop (mkF m 41 #[.val (.int p1), .val (.int p2), .val (.int ((p2 &&& (2147483647 : Int32)) % (10 : Int32))), .val (.int (((p1 &&& (2147483647 : Int32)) % (own_p10 ((9 : Int32) - ((p2 &&& (2147483647 : Int32)) % (10 : Int32))))) * (own_p10 ((p2 &&& (2147483647 : Int32)) % (10 : Int32))))), .val (.int (0 : Int32))] []))
    refine own_go (fun _ k => XS.iconst X7.here hx rfl (hb hby at_41) k) ?_
    show own_Fin p.tables e below _ (T7.setTop (mkF m 42 #[.val (.int p1), .val (.int p2), .val (.int ((p2 &&& (2147483647 : Int32)) % (10 : Int32))), .val (.int (((p1 &&& (2147483647 : Int32)) % (own_p10 ((9 : Int32) - ((p2 &&& (2147483647 : Int32)) % (10 : Int32))))) * (own_p10 ((p2 &&& (2147483647 : Int32)) % (10 : Int32))))), .val (.int (0 : Int32))] [(.int (1 : Int32))]))
    refine own_go (fun _ k => XS.goto X7.here hx rfl (pc0 := 42) (pc' := 46) rfl (hb hby at_42) (by decide) (by decide) k) ?_
    show own_Fin p.tables e below _ (T7.setTop (mkF m 46 #[.val (.int p1), .val (.int p2), .val (.int ((p2 &&& (2147483647 : Int32)) % (10 : Int32))), .val (.int (((p1 &&& (2147483647 : Int32)) % (own_p10 ((9 : Int32) - ((p2 &&& (2147483647 : Int32)) % (10 : Int32))))) * (own_p10 ((p2 &&& (2147483647 : Int32)) % (10 : Int32))))), .val (.int (0 : Int32))] [(.int (1 : Int32))]))
    obtain ⟨fs, hr, hrun, hended, hW, hsame⟩ := X7.leave (v := some (.int (1 : Int32))) (fun h => by rw [Bd.returns] at h; cases h)
    refine ⟨_, _, ?_, hrun, hended, _, _, rfl, ?_, ⟨_, rfl⟩, hW, hsame.mono (by decide) (by decide)⟩
    · exact retN X7 hx (t := .boolean) Bd.returns (by simp) (hb hby at_46) hr
    · show Q_own_law Z p1 p2 pt kp h0 n0 _ T7.heap _
      rw [eh7]
      exact ⟨rfl, N7⟩
  · refine own_go (fun _ k => XS.iloadN X4.here hx rfl (hb hby at_26) rfl k) ?_
    show own_Fin p.tables e below _ (T4.setTop (mkF m 27 #[.val (.int p1), .val (.int p2), .val (.int ((p2 &&& (2147483647 : Int32)) % (10 : Int32))), .val (.int (((p1 &&& (2147483647 : Int32)) % (own_p10 ((9 : Int32) - ((p2 &&& (2147483647 : Int32)) % (10 : Int32))))) * (own_p10 ((p2 &&& (2147483647 : Int32)) % (10 : Int32))))), .unset] [(.int (((p1 &&& (2147483647 : Int32)) % (own_p10 ((9 : Int32) - ((p2 &&& (2147483647 : Int32)) % (10 : Int32))))) * (own_p10 ((p2 &&& (2147483647 : Int32)) % (10 : Int32)))))]))
    obtain ⟨_, _, ⟨T8, L8, k8, n8⟩, -, X8, ⟨Lc8, hQ8, l8, y8, z8⟩, st8⟩ := Jvm.LawKit.callS X4 hx (y := (⟨"com/example/ianus/ianus/data/Datetimes", "fractionDigits", "(I)I"⟩ : MethodName)) hown (mvT hZ (hw _ (List.mem_of_getElem? (i := 11) rfl))) (mvT hZ (hw _ (List.mem_of_getElem? (i := 12) rfl))) (mvT hZ (hw _ (List.mem_of_getElem? (i := 13) rfl))) (mvT hZ (hw _ (List.mem_of_getElem? (i := 14) rfl))) (by decide) (backOf (W := 0) (own_fd1 l Z a0 hw [] (((p1 &&& (2147483647 : Int32)) % (own_p10 ((9 : Int32) - ((p2 &&& (2147483647 : Int32)) % (10 : Int32))))) * (own_p10 ((p2 &&& (2147483647 : Int32)) % (10 : Int32)))) pt kp T4.heap n0 Z6 f5_0 SP VP hN (own_nb (own_kpin p2) (c_and p1 (2147483647 : Int32) (by decide)).1).1 (own_nb (own_kpin p2) (c_and p1 (2147483647 : Int32) (by decide)).1).2) hZ (hw _ (List.mem_of_getElem? (i := 14) rfl)) (hw _ (List.mem_of_getElem? (i := 13) rfl)) (by decide) (by decide)) (g := (mkF m 27 #[.val (.int p1), .val (.int p2), .val (.int ((p2 &&& (2147483647 : Int32)) % (10 : Int32))), .val (.int (((p1 &&& (2147483647 : Int32)) % (own_p10 ((9 : Int32) - ((p2 &&& (2147483647 : Int32)) % (10 : Int32))))) * (own_p10 ((p2 &&& (2147483647 : Int32)) % (10 : Int32))))), .unset] [(.int (((p1 &&& (2147483647 : Int32)) % (own_p10 ((9 : Int32) - ((p2 &&& (2147483647 : Int32)) % (10 : Int32))))) * (own_p10 ((p2 &&& (2147483647 : Int32)) % (10 : Int32)))))])) rfl (by rw [hml]; rfl) (argsL := [(.int (((p1 &&& (2147483647 : Int32)) % (own_p10 ((9 : Int32) - ((p2 &&& (2147483647 : Int32)) % (10 : Int32))))) * (own_p10 ((p2 &&& (2147483647 : Int32)) % (10 : Int32)))))]) (rest := []) (lenOf own_pd0 rfl) rfl (by show 2 * 0 + _ ≤ _; exact Nat.le_of_eq rfl) (hb hby at_27) (fun _ _ => ⟨rfl, rfl, (by decide : 2 + 0 ≤ _), (by decide : 20 + 0 ≤ _)⟩)
    dsimp only [Pt.U, Pt.locs, Pt.cells, Pt.slots] at X8 l8 y8 z8 st8 hQ8
    subst l8 y8 z8
    obtain ⟨d8, hv8, N8q, eh8, o8_0⟩ := hQ8
    subst hv8
    have N8 := Fr.app N4 N8q
    refine own_go st8 ?_
    rcases o8_0 with ⟨rfl, hm, hk⟩ | ⟨rfl, hm, hk⟩ | ⟨rfl, hm, hk⟩ | ⟨rfl, hm, hk⟩ | ⟨rfl, hm, hk⟩ | ⟨rfl, hm, hk⟩ | ⟨rfl, hm, hk⟩ | ⟨rfl, hm, hk⟩ | ⟨rfl, hm, hk⟩
    · show own_Fin p.tables e below _ (T8.setTop (mkF m 30 #[.val (.int p1), .val (.int p2), .val (.int ((p2 &&& (2147483647 : Int32)) % (10 : Int32))), .val (.int (((p1 &&& (2147483647 : Int32)) % (own_p10 ((9 : Int32) - ((p2 &&& (2147483647 : Int32)) % (10 : Int32))))) * (own_p10 ((p2 &&& (2147483647 : Int32)) % (10 : Int32))))), .unset] [(.int (1 : Int32))]))
      refine own_go (fun _ k => XS.istore X8.here hx rfl (hb hby at_30) rfl (l' := #[.val (.int p1), .val (.int p2), .val (.int ((p2 &&& (2147483647 : Int32)) % (10 : Int32))), .val (.int (((p1 &&& (2147483647 : Int32)) % (own_p10 ((9 : Int32) - ((p2 &&& (2147483647 : Int32)) % (10 : Int32))))) * (own_p10 ((p2 &&& (2147483647 : Int32)) % (10 : Int32))))), .val (.int (1 : Int32))]) rfl k) ?_
      show own_Fin p.tables e below _ (T8.setTop (mkF m 32 #[.val (.int p1), .val (.int p2), .val (.int ((p2 &&& (2147483647 : Int32)) % (10 : Int32))), .val (.int (((p1 &&& (2147483647 : Int32)) % (own_p10 ((9 : Int32) - ((p2 &&& (2147483647 : Int32)) % (10 : Int32))))) * (own_p10 ((p2 &&& (2147483647 : Int32)) % (10 : Int32))))), .val (.int (1 : Int32))] []))
      refine own_go (fun _ k => XS.iloadN X8.here hx rfl (hb hby at_32) rfl k) ?_
      show own_Fin p.tables e below _ (T8.setTop (mkF m 33 #[.val (.int p1), .val (.int p2), .val (.int ((p2 &&& (2147483647 : Int32)) % (10 : Int32))), .val (.int (((p1 &&& (2147483647 : Int32)) % (own_p10 ((9 : Int32) - ((p2 &&& (2147483647 : Int32)) % (10 : Int32))))) * (own_p10 ((p2 &&& (2147483647 : Int32)) % (10 : Int32))))), .val (.int (1 : Int32))] [(.int (((p1 &&& (2147483647 : Int32)) % (own_p10 ((9 : Int32) - ((p2 &&& (2147483647 : Int32)) % (10 : Int32))))) * (own_p10 ((p2 &&& (2147483647 : Int32)) % (10 : Int32)))))]))
      refine own_go (fun _ k => XS.ifYes X8.here hx rfl (pc0 := 33) (pc' := 47) rfl (hb hby at_33) rfl ((if0 _ _).trans (feq hN).2) (by decide) (by decide) k) ?_
      show own_Fin p.tables e below _ (T8.setTop (mkF m 47 #[.val (.int p1), .val (.int p2), .val (.int ((p2 &&& (2147483647 : Int32)) % (10 : Int32))), .val (.int (((p1 &&& (2147483647 : Int32)) % (own_p10 ((9 : Int32) - ((p2 &&& (2147483647 : Int32)) % (10 : Int32))))) * (own_p10 ((p2 &&& (2147483647 : Int32)) % (10 : Int32))))), .val (.int (1 : Int32))] []))
      refine own_go (fun _ k => XS.iload X8.here hx rfl (hb hby at_47) rfl k) ?_
      show own_Fin p.tables e below _ (T8.setTop (mkF m 49 #[.val (.int p1), .val (.int p2), .val (.int ((p2 &&& (2147483647 : Int32)) % (10 : Int32))), .val (.int (((p1 &&& (2147483647 : Int32)) % (own_p10 ((9 : Int32) - ((p2 &&& (2147483647 : Int32)) % (10 : Int32))))) * (own_p10 ((p2 &&& (2147483647 : Int32)) % (10 : Int32))))), .val (.int (1 : Int32))] [(.int (1 : Int32))]))
      refine own_go (fun _ k => XS.iconst X8.here hx rfl (hb hby at_49) k) ?_
      show own_Fin p.tables e below _ (T8.setTop (mkF m 50 #[.val (.int p1), .val (.int p2), .val (.int ((p2 &&& (2147483647 : Int32)) % (10 : Int32))), .val (.int (((p1 &&& (2147483647 : Int32)) % (own_p10 ((9 : Int32) - ((p2 &&& (2147483647 : Int32)) % (10 : Int32))))) * (own_p10 ((p2 &&& (2147483647 : Int32)) % (10 : Int32))))), .val (.int (1 : Int32))] [(.int (1 : Int32)), (.int (1 : Int32))]))
      refine own_go (fun _ k => XS.icmpNo X8.here hx rfl (hb hby at_50) rfl (flt (by decide : ¬ ((1 : Int32) < (1 : Int32)))).1 k) ?_
      show own_Fin p.tables e below _ (T8.setTop (mkF m 53 #[.val (.int p1), .val (.int p2), .val (.int ((p2 &&& (2147483647 : Int32)) % (10 : Int32))), .val (.int (((p1 &&& (2147483647 : Int32)) % (own_p10 ((9 : Int32) - ((p2 &&& (2147483647 : Int32)) % (10 : Int32))))) * (own_p10 ((p2 &&& (2147483647 : Int32)) % (10 : Int32))))), .val (.int (1 : Int32))] []))
      refine own_go (fun _ k => XS.iload X8.here hx rfl (hb hby at_53) rfl k) ?_
      show own_Fin p.tables e below _ (T8.setTop (mkF m 55 #[.val (.int p1), .val (.int p2), .val (.int ((p2 &&& (2147483647 : Int32)) % (10 : Int32))), .val (.int (((p1 &&& (2147483647 : Int32)) % (own_p10 ((9 : Int32) - ((p2 &&& (2147483647 : Int32)) % (10 : Int32))))) * (own_p10 ((p2 &&& (2147483647 : Int32)) % (10 : Int32))))), .val (.int (1 : Int32))] [(.int (1 : Int32))]))
      refine own_go (fun _ k => XS.bipush X8.here hx rfl (hb hby at_55) k) ?_
      show own_Fin p.tables e below _ (T8.setTop (mkF m 57 #[.val (.int p1), .val (.int p2), .val (.int ((p2 &&& (2147483647 : Int32)) % (10 : Int32))), .val (.int (((p1 &&& (2147483647 : Int32)) % (own_p10 ((9 : Int32) - ((p2 &&& (2147483647 : Int32)) % (10 : Int32))))) * (own_p10 ((p2 &&& (2147483647 : Int32)) % (10 : Int32))))), .val (.int (1 : Int32))] [(.int (9 : Int32)), (.int (1 : Int32))]))
      refine own_go (fun _ k => XS.icmpYes X8.here hx rfl (pc0 := 57) (pc' := 62) rfl (hb hby at_57) rfl (flt (by decide : ¬ ((9 : Int32) < (1 : Int32)))).2.2.2 (by decide) (by decide) k) ?_
      show own_Fin p.tables e below _ (T8.setTop (mkF m 62 #[.val (.int p1), .val (.int p2), .val (.int ((p2 &&& (2147483647 : Int32)) % (10 : Int32))), .val (.int (((p1 &&& (2147483647 : Int32)) % (own_p10 ((9 : Int32) - ((p2 &&& (2147483647 : Int32)) % (10 : Int32))))) * (own_p10 ((p2 &&& (2147483647 : Int32)) % (10 : Int32))))), .val (.int (1 : Int32))] []))
      refine own_go (fun _ k => XS.iloadN X8.here hx rfl (hb hby at_62) rfl k) ?_
      show own_Fin p.tables e below _ (T8.setTop (mkF m 63 #[.val (.int p1), .val (.int p2), .val (.int ((p2 &&& (2147483647 : Int32)) % (10 : Int32))), .val (.int (((p1 &&& (2147483647 : Int32)) % (own_p10 ((9 : Int32) - ((p2 &&& (2147483647 : Int32)) % (10 : Int32))))) * (own_p10 ((p2 &&& (2147483647 : Int32)) % (10 : Int32))))), .val (.int (1 : Int32))] [(.int (((p1 &&& (2147483647 : Int32)) % (own_p10 ((9 : Int32) - ((p2 &&& (2147483647 : Int32)) % (10 : Int32))))) * (own_p10 ((p2 &&& (2147483647 : Int32)) % (10 : Int32)))))]))
      refine own_go (fun _ k => XS.bipush X8.here hx rfl (hb hby at_63) k) ?_
      show own_Fin p.tables e below _ (T8.setTop (mkF m 65 #[.val (.int p1), .val (.int p2), .val (.int ((p2 &&& (2147483647 : Int32)) % (10 : Int32))), .val (.int (((p1 &&& (2147483647 : Int32)) % (own_p10 ((9 : Int32) - ((p2 &&& (2147483647 : Int32)) % (10 : Int32))))) * (own_p10 ((p2 &&& (2147483647 : Int32)) % (10 : Int32))))), .val (.int (1 : Int32))] [(.int (9 : Int32)), (.int (((p1 &&& (2147483647 : Int32)) % (own_p10 ((9 : Int32) - ((p2 &&& (2147483647 : Int32)) % (10 : Int32))))) * (own_p10 ((p2 &&& (2147483647 : Int32)) % (10 : Int32)))))]))
      refine own_go (fun _ k => XS.iload X8.here hx rfl (hb hby at_65) rfl k) ?_
      show own_Fin p.tables e below _ (T8.setTop (mkF m 67 #[.val (.int p1), .val (.int p2), .val (.int ((p2 &&& (2147483647 : Int32)) % (10 : Int32))), .val (.int (((p1 &&& (2147483647 : Int32)) % (own_p10 ((9 : Int32) - ((p2 &&& (2147483647 : Int32)) % (10 : Int32))))) * (own_p10 ((p2 &&& (2147483647 : Int32)) % (10 : Int32))))), .val (.int (1 : Int32))] [(.int (1 : Int32)), (.int (9 : Int32)), (.int (((p1 &&& (2147483647 : Int32)) % (own_p10 ((9 : Int32) - ((p2 &&& (2147483647 : Int32)) % (10 : Int32))))) * (own_p10 ((p2 &&& (2147483647 : Int32)) % (10 : Int32)))))]))
      refine own_go (fun _ k => XS.isub X8.here hx rfl (hb hby at_67) rfl k) ?_
      show own_Fin p.tables e below _ (T8.setTop (mkF m 68 #[.val (.int p1), .val (.int p2), .val (.int ((p2 &&& (2147483647 : Int32)) % (10 : Int32))), .val (.int (((p1 &&& (2147483647 : Int32)) % (own_p10 ((9 : Int32) - ((p2 &&& (2147483647 : Int32)) % (10 : Int32))))) * (own_p10 ((p2 &&& (2147483647 : Int32)) % (10 : Int32))))), .val (.int (1 : Int32))] [(.int ((9 : Int32) - (1 : Int32))), (.int (((p1 &&& (2147483647 : Int32)) % (own_p10 ((9 : Int32) - ((p2 &&& (2147483647 : Int32)) % (10 : Int32))))) * (own_p10 ((p2 &&& (2147483647 : Int32)) % (10 : Int32)))))]))
      rw [show ((9 : Int32) - (1 : Int32)) = (8 : Int32) from by decide]
      show own_Fin p.tables e below _ (T8.setTop (mkF m 68 #[.val (.int p1), .val (.int p2), .val (.int ((p2 &&& (2147483647 : Int32)) % (10 : Int32))), .val (.int (((p1 &&& (2147483647 : Int32)) % (own_p10 ((9 : Int32) - ((p2 &&& (2147483647 : Int32)) % (10 : Int32))))) * (own_p10 ((p2 &&& (2147483647 : Int32)) % (10 : Int32))))), .val (.int (1 : Int32))] [(.int (8 : Int32)), (.int (((p1 &&& (2147483647 : Int32)) % (own_p10 ((9 : Int32) - ((p2 &&& (2147483647 : Int32)) % (10 : Int32))))) * (own_p10 ((p2 &&& (2147483647 : Int32)) % (10 : Int32)))))]))
      obtain ⟨_, _, ⟨T9, L9, k9, n9⟩, -, X9, ⟨Lc9, hQ9, l9, y9, z9⟩, st9⟩ := Jvm.LawKit.callS X8 hx (y := (⟨"com/example/ianus/ianus/data/DatetimesFractionDigitsPinLaw", "pow", "(I)I"⟩ : MethodName)) hown (mvT hZ (hw _ (List.mem_of_getElem? (i := 1) rfl))) (mvT hZ (hw _ (List.mem_of_getElem? (i := 2) rfl))) (mvT hZ (hw _ (List.mem_of_getElem? (i := 3) rfl))) (mvT hZ (hw _ (List.mem_of_getElem? (i := 4) rfl))) (by decide) (backOf (W := 1) (own_pow l Z a0 hw [] (8 : Int32) T4.heap n0 Z6 f5_0 (by unfold own_pin; decide)) hZ (hw _ (List.mem_of_getElem? (i := 4) rfl)) (hw _ (List.mem_of_getElem? (i := 3) rfl)) (by decide) (by decide)) (g := (mkF m 68 #[.val (.int p1), .val (.int p2), .val (.int ((p2 &&& (2147483647 : Int32)) % (10 : Int32))), .val (.int (((p1 &&& (2147483647 : Int32)) % (own_p10 ((9 : Int32) - ((p2 &&& (2147483647 : Int32)) % (10 : Int32))))) * (own_p10 ((p2 &&& (2147483647 : Int32)) % (10 : Int32))))), .val (.int (1 : Int32))] [(.int (8 : Int32)), (.int (((p1 &&& (2147483647 : Int32)) % (own_p10 ((9 : Int32) - ((p2 &&& (2147483647 : Int32)) % (10 : Int32))))) * (own_p10 ((p2 &&& (2147483647 : Int32)) % (10 : Int32)))))])) rfl (by rw [hml]; rfl) (argsL := [(.int (8 : Int32))]) (rest := [(.int (((p1 &&& (2147483647 : Int32)) % (own_p10 ((9 : Int32) - ((p2 &&& (2147483647 : Int32)) % (10 : Int32))))) * (own_p10 ((p2 &&& (2147483647 : Int32)) % (10 : Int32)))))]) (lenOf own_pd0 rfl) rfl (by show 2 * 0 + _ ≤ _; exact Nat.le_of_eq rfl) (hb hby at_68) (fun _ _ => ⟨rfl, eh8, (by decide : 2 + 1 ≤ _), (by decide : 20 + 10 ≤ _)⟩)
      dsimp only [Pt.U, Pt.locs, Pt.cells, Pt.slots] at X9 l9 y9 z9 st9 hQ9
      subst l9 y9 z9
      obtain ⟨hv9, N9q, o9_0⟩ := hQ9
      obtain rfl := hv9.trans (by rfl : (some (.int (own_p10 (8 : Int32))) : Option Value) = some (.int (100000000 : Int32)))
      have N9 := Fr.app N8 N9q
      refine own_go st9 ?_
      have f10_0 : Old Z n0 T9.heap := f5_0.keep o9_0 all0
      have Z11 : n0 ≤ T9.heap.size := Nat.le_trans Z6 o9_0.1
      show own_Fin p.tables e below _ (T9.setTop (mkF m 71 #[.val (.int p1), .val (.int p2), .val (.int ((p2 &&& (2147483647 : Int32)) % (10 : Int32))), .val (.int (((p1 &&& (2147483647 : Int32)) % (own_p10 ((9 : Int32) - ((p2 &&& (2147483647 : Int32)) % (10 : Int32))))) * (own_p10 ((p2 &&& (2147483647 : Int32)) % (10 : Int32))))), .val (.int (1 : Int32))] [(.int (100000000 : Int32)), (.int (((p1 &&& (2147483647 : Int32)) % (own_p10 ((9 : Int32) - ((p2 &&& (2147483647 : Int32)) % (10 : Int32))))) * (own_p10 ((p2 &&& (2147483647 : Int32)) % (10 : Int32)))))]))
      refine own_go (fun _ k => iremM X9 hx rfl (hb hby at_71) rfl (by decide) k) ?_
      show own_Fin p.tables e below _ (T9.setTop (mkF m 72 #[.val (.int p1), .val (.int p2), .val (.int ((p2 &&& (2147483647 : Int32)) % (10 : Int32))), .val (.int (((p1 &&& (2147483647 : Int32)) % (own_p10 ((9 : Int32) - ((p2 &&& (2147483647 : Int32)) % (10 : Int32))))) * (own_p10 ((p2 &&& (2147483647 : Int32)) % (10 : Int32))))), .val (.int (1 : Int32))] [(.int ((((p1 &&& (2147483647 : Int32)) % (own_p10 ((9 : Int32) - ((p2 &&& (2147483647 : Int32)) % (10 : Int32))))) * (own_p10 ((p2 &&& (2147483647 : Int32)) % (10 : Int32)))) % (100000000 : Int32)))]))
      refine own_go (fun _ k => XS.ifNo X9.here hx rfl (hb hby at_72) rfl ((if0 _ _).trans (teq hm).2) k) ?_
      show own_Fin p.tables e below _ (T9.setTop (mkF m 75 #[.val (.int p1), .val (.int p2), .val (.int ((p2 &&& (2147483647 : Int32)) % (10 : Int32))), .val (.int (((p1 &&& (2147483647 : Int32)) % (own_p10 ((9 : Int32) - ((p2 &&& (2147483647 : Int32)) % (10 : Int32))))) * (own_p10 ((p2 &&& (2147483647 : Int32)) % (10 : Int32))))), .val (.int (1 : Int32))] []))
      refine own_go (fun _ k => XS.iloadN X9.here hx rfl (hb hby at_75) rfl k) ?_
      show own_Fin p.tables e below _ (T9.setTop (mkF m 76 #[.val (.int p1), .val (.int p2), .val (.int ((p2 &&& (2147483647 : Int32)) % (10 : Int32))), .val (.int (((p1 &&& (2147483647 : Int32)) % (own_p10 ((9 : Int32) - ((p2 &&& (2147483647 : Int32)) % (10 : Int32))))) * (own_p10 ((p2 &&& (2147483647 : Int32)) % (10 : Int32))))), .val (.int (1 : Int32))] [(.int (((p1 &&& (2147483647 : Int32)) % (own_p10 ((9 : Int32) - ((p2 &&& (2147483647 : Int32)) % (10 : Int32))))) * (own_p10 ((p2 &&& (2147483647 : Int32)) % (10 : Int32)))))]))
      refine own_go (fun _ k => XS.bipush X9.here hx rfl (hb hby at_76) k) ?_
      show own_Fin p.tables e below _ (T9.setTop (mkF m 78 #[.val (.int p1), .val (.int p2), .val (.int ((p2 &&& (2147483647 : Int32)) % (10 : Int32))), .val (.int (((p1 &&& (2147483647 : Int32)) % (own_p10 ((9 : Int32) - ((p2 &&& (2147483647 : Int32)) % (10 : Int32))))) * (own_p10 ((p2 &&& (2147483647 : Int32)) % (10 : Int32))))), .val (.int (1 : Int32))] [(.int (10 : Int32)), (.int (((p1 &&& (2147483647 : Int32)) % (own_p10 ((9 : Int32) - ((p2 &&& (2147483647 : Int32)) % (10 : Int32))))) * (own_p10 ((p2 &&& (2147483647 : Int32)) % (10 : Int32)))))]))
      refine own_go (fun _ k => XS.iload X9.here hx rfl (hb hby at_78) rfl k) ?_
      show own_Fin p.tables e below _ (T9.setTop (mkF m 80 #[.val (.int p1), .val (.int p2), .val (.int ((p2 &&& (2147483647 : Int32)) % (10 : Int32))), .val (.int (((p1 &&& (2147483647 : Int32)) % (own_p10 ((9 : Int32) - ((p2 &&& (2147483647 : Int32)) % (10 : Int32))))) * (own_p10 ((p2 &&& (2147483647 : Int32)) % (10 : Int32))))), .val (.int (1 : Int32))] [(.int (1 : Int32)), (.int (10 : Int32)), (.int (((p1 &&& (2147483647 : Int32)) % (own_p10 ((9 : Int32) - ((p2 &&& (2147483647 : Int32)) % (10 : Int32))))) * (own_p10 ((p2 &&& (2147483647 : Int32)) % (10 : Int32)))))]))
      refine own_go (fun _ k => XS.isub X9.here hx rfl (hb hby at_80) rfl k) ?_
      show own_Fin p.tables e below _ (T9.setTop (mkF m 81 #[.val (.int p1), .val (.int p2), .val (.int ((p2 &&& (2147483647 : Int32)) % (10 : Int32))), .val (.int (((p1 &&& (2147483647 : Int32)) % (own_p10 ((9 : Int32) - ((p2 &&& (2147483647 : Int32)) % (10 : Int32))))) * (own_p10 ((p2 &&& (2147483647 : Int32)) % (10 : Int32))))), .val (.int (1 : Int32))] [(.int ((10 : Int32) - (1 : Int32))), (.int (((p1 &&& (2147483647 : Int32)) % (own_p10 ((9 : Int32) - ((p2 &&& (2147483647 : Int32)) % (10 : Int32))))) * (own_p10 ((p2 &&& (2147483647 : Int32)) % (10 : Int32)))))]))
      rw [show ((10 : Int32) - (1 : Int32)) = (9 : Int32) from by decide]
      show own_Fin p.tables e below _ (T9.setTop (mkF m 81 #[.val (.int p1), .val (.int p2), .val (.int ((p2 &&& (2147483647 : Int32)) % (10 : Int32))), .val (.int (((p1 &&& (2147483647 : Int32)) % (own_p10 ((9 : Int32) - ((p2 &&& (2147483647 : Int32)) % (10 : Int32))))) * (own_p10 ((p2 &&& (2147483647 : Int32)) % (10 : Int32))))), .val (.int (1 : Int32))] [(.int (9 : Int32)), (.int (((p1 &&& (2147483647 : Int32)) % (own_p10 ((9 : Int32) - ((p2 &&& (2147483647 : Int32)) % (10 : Int32))))) * (own_p10 ((p2 &&& (2147483647 : Int32)) % (10 : Int32)))))]))
      obtain ⟨_, _, ⟨T12, L12, k12, n12⟩, -, X12, ⟨Lc12, hQ12, l12, y12, z12⟩, st12⟩ := Jvm.LawKit.callS X9 hx (y := (⟨"com/example/ianus/ianus/data/DatetimesFractionDigitsPinLaw", "pow", "(I)I"⟩ : MethodName)) hown (mvT hZ (hw _ (List.mem_of_getElem? (i := 1) rfl))) (mvT hZ (hw _ (List.mem_of_getElem? (i := 2) rfl))) (mvT hZ (hw _ (List.mem_of_getElem? (i := 3) rfl))) (mvT hZ (hw _ (List.mem_of_getElem? (i := 4) rfl))) (by decide) (backOf (W := 1) (own_pow l Z a0 hw [] (9 : Int32) T9.heap n0 Z11 f10_0 (by unfold own_pin; decide)) hZ (hw _ (List.mem_of_getElem? (i := 4) rfl)) (hw _ (List.mem_of_getElem? (i := 3) rfl)) (by decide) (by decide)) (g := (mkF m 81 #[.val (.int p1), .val (.int p2), .val (.int ((p2 &&& (2147483647 : Int32)) % (10 : Int32))), .val (.int (((p1 &&& (2147483647 : Int32)) % (own_p10 ((9 : Int32) - ((p2 &&& (2147483647 : Int32)) % (10 : Int32))))) * (own_p10 ((p2 &&& (2147483647 : Int32)) % (10 : Int32))))), .val (.int (1 : Int32))] [(.int (9 : Int32)), (.int (((p1 &&& (2147483647 : Int32)) % (own_p10 ((9 : Int32) - ((p2 &&& (2147483647 : Int32)) % (10 : Int32))))) * (own_p10 ((p2 &&& (2147483647 : Int32)) % (10 : Int32)))))])) rfl (by rw [hml]; rfl) (argsL := [(.int (9 : Int32))]) (rest := [(.int (((p1 &&& (2147483647 : Int32)) % (own_p10 ((9 : Int32) - ((p2 &&& (2147483647 : Int32)) % (10 : Int32))))) * (own_p10 ((p2 &&& (2147483647 : Int32)) % (10 : Int32)))))]) (lenOf own_pd0 rfl) rfl (by show 2 * 0 + _ ≤ _; exact Nat.le_of_eq rfl) (hb hby at_81) (fun _ _ => ⟨rfl, rfl, (by decide : 3 + 1 ≤ _), (by decide : 30 + 10 ≤ _)⟩)
      dsimp only [Pt.U, Pt.locs, Pt.cells, Pt.slots] at X12 l12 y12 z12 st12 hQ12
      subst l12 y12 z12
      obtain ⟨hv12, N12q, o12_0⟩ := hQ12
      obtain rfl := hv12.trans (by rfl : (some (.int (own_p10 (9 : Int32))) : Option Value) = some (.int (1000000000 : Int32)))
      have N12 := Fr.app N9 N12q
      refine own_go st12 ?_
      have f13_0 : Old Z n0 T12.heap := f10_0.keep o12_0 all0
      have Z14 : n0 ≤ T12.heap.size := Nat.le_trans Z11 o12_0.1
      show own_Fin p.tables e below _ (T12.setTop (mkF m 84 #[.val (.int p1), .val (.int p2), .val (.int ((p2 &&& (2147483647 : Int32)) % (10 : Int32))), .val (.int (((p1 &&& (2147483647 : Int32)) % (own_p10 ((9 : Int32) - ((p2 &&& (2147483647 : Int32)) % (10 : Int32))))) * (own_p10 ((p2 &&& (2147483647 : Int32)) % (10 : Int32))))), .val (.int (1 : Int32))] [(.int (1000000000 : Int32)), (.int (((p1 &&& (2147483647 : Int32)) % (own_p10 ((9 : Int32) - ((p2 &&& (2147483647 : Int32)) % (10 : Int32))))) * (own_p10 ((p2 &&& (2147483647 : Int32)) % (10 : Int32)))))]))
      refine own_go (fun _ k => iremM X12 hx rfl (hb hby at_84) rfl (by decide) k) ?_
      show own_Fin p.tables e below _ (T12.setTop (mkF m 85 #[.val (.int p1), .val (.int p2), .val (.int ((p2 &&& (2147483647 : Int32)) % (10 : Int32))), .val (.int (((p1 &&& (2147483647 : Int32)) % (own_p10 ((9 : Int32) - ((p2 &&& (2147483647 : Int32)) % (10 : Int32))))) * (own_p10 ((p2 &&& (2147483647 : Int32)) % (10 : Int32))))), .val (.int (1 : Int32))] [(.int ((((p1 &&& (2147483647 : Int32)) % (own_p10 ((9 : Int32) - ((p2 &&& (2147483647 : Int32)) % (10 : Int32))))) * (own_p10 ((p2 &&& (2147483647 : Int32)) % (10 : Int32)))) % (1000000000 : Int32)))]))
      refine own_go (fun _ k => XS.ifNo X12.here hx rfl (hb hby at_85) rfl ((if0 _ _).trans (feq hk).1) k) ?_
      show own_Fin p.tables e below _ (T12.setTop (mkF m 88 #[.val (.int p1), .val (.int p2), .val (.int ((p2 &&& (2147483647 : Int32)) % (10 : Int32))), .val (.int (((p1 &&& (2147483647 : Int32)) % (own_p10 ((9 : Int32) - ((p2 &&& (2147483647 : Int32)) % (10 : Int32))))) * (own_p10 ((p2 &&& (2147483647 : Int32)) % (10 : Int32))))), .val (.int (1 : Int32))] []))
      refine own_go (fun _ k => XS.iconst X12.here hx rfl (hb hby at_88) k) ?_
      show own_Fin p.tables e below _ (T12.setTop (mkF m 89 #[.val (.int p1), .val (.int p2), .val (.int ((p2 &&& (2147483647 : Int32)) % (10 : Int32))), .val (.int (((p1 &&& (2147483647 : Int32)) % (own_p10 ((9 : Int32) - ((p2 &&& (2147483647 : Int32)) % (10 : Int32))))) * (own_p10 ((p2 &&& (2147483647 : Int32)) % (10 : Int32))))), .val (.int (1 : Int32))] [(.int (1 : Int32))]))
      refine own_go (fun _ k => XS.goto X12.here hx rfl (pc0 := 89) (pc' := 93) rfl (hb hby at_89) (by decide) (by decide) k) ?_
      show own_Fin p.tables e below _ (T12.setTop (mkF m 93 #[.val (.int p1), .val (.int p2), .val (.int ((p2 &&& (2147483647 : Int32)) % (10 : Int32))), .val (.int (((p1 &&& (2147483647 : Int32)) % (own_p10 ((9 : Int32) - ((p2 &&& (2147483647 : Int32)) % (10 : Int32))))) * (own_p10 ((p2 &&& (2147483647 : Int32)) % (10 : Int32))))), .val (.int (1 : Int32))] [(.int (1 : Int32))]))
      obtain ⟨fs, hr, hrun, hended, hW, hsame⟩ := X12.leave (v := some (.int (1 : Int32))) (fun h => by rw [Bd.returns] at h; cases h)
      refine ⟨_, _, ?_, hrun, hended, _, _, rfl, ?_, ⟨_, rfl⟩, hW, hsame.mono (by decide) (by decide)⟩
      · exact retN X12 hx (t := .boolean) Bd.returns (by simp) (hb hby at_93) hr
      · show Q_own_law Z p1 p2 pt kp h0 n0 _ T12.heap _
        exact ⟨rfl, N12⟩
    · show own_Fin p.tables e below _ (T8.setTop (mkF m 30 #[.val (.int p1), .val (.int p2), .val (.int ((p2 &&& (2147483647 : Int32)) % (10 : Int32))), .val (.int (((p1 &&& (2147483647 : Int32)) % (own_p10 ((9 : Int32) - ((p2 &&& (2147483647 : Int32)) % (10 : Int32))))) * (own_p10 ((p2 &&& (2147483647 : Int32)) % (10 : Int32))))), .unset] [(.int (2 : Int32))]))
      refine own_go (fun _ k => XS.istore X8.here hx rfl (hb hby at_30) rfl (l' := #[.val (.int p1), .val (.int p2), .val (.int ((p2 &&& (2147483647 : Int32)) % (10 : Int32))), .val (.int (((p1 &&& (2147483647 : Int32)) % (own_p10 ((9 : Int32) - ((p2 &&& (2147483647 : Int32)) % (10 : Int32))))) * (own_p10 ((p2 &&& (2147483647 : Int32)) % (10 : Int32))))), .val (.int (2 : Int32))]) rfl k) ?_
      show own_Fin p.tables e below _ (T8.setTop (mkF m 32 #[.val (.int p1), .val (.int p2), .val (.int ((p2 &&& (2147483647 : Int32)) % (10 : Int32))), .val (.int (((p1 &&& (2147483647 : Int32)) % (own_p10 ((9 : Int32) - ((p2 &&& (2147483647 : Int32)) % (10 : Int32))))) * (own_p10 ((p2 &&& (2147483647 : Int32)) % (10 : Int32))))), .val (.int (2 : Int32))] []))
      refine own_go (fun _ k => XS.iloadN X8.here hx rfl (hb hby at_32) rfl k) ?_
      show own_Fin p.tables e below _ (T8.setTop (mkF m 33 #[.val (.int p1), .val (.int p2), .val (.int ((p2 &&& (2147483647 : Int32)) % (10 : Int32))), .val (.int (((p1 &&& (2147483647 : Int32)) % (own_p10 ((9 : Int32) - ((p2 &&& (2147483647 : Int32)) % (10 : Int32))))) * (own_p10 ((p2 &&& (2147483647 : Int32)) % (10 : Int32))))), .val (.int (2 : Int32))] [(.int (((p1 &&& (2147483647 : Int32)) % (own_p10 ((9 : Int32) - ((p2 &&& (2147483647 : Int32)) % (10 : Int32))))) * (own_p10 ((p2 &&& (2147483647 : Int32)) % (10 : Int32)))))]))
      refine own_go (fun _ k => XS.ifYes X8.here hx rfl (pc0 := 33) (pc' := 47) rfl (hb hby at_33) rfl ((if0 _ _).trans (feq hN).2) (by decide) (by decide) k) ?_
      show own_Fin p.tables e below _ (T8.setTop (mkF m 47 #[.val (.int p1), .val (.int p2), .val (.int ((p2 &&& (2147483647 : Int32)) % (10 : Int32))), .val (.int (((p1 &&& (2147483647 : Int32)) % (own_p10 ((9 : Int32) - ((p2 &&& (2147483647 : Int32)) % (10 : Int32))))) * (own_p10 ((p2 &&& (2147483647 : Int32)) % (10 : Int32))))), .val (.int (2 : Int32))] []))
      refine own_go (fun _ k => XS.iload X8.here hx rfl (hb hby at_47) rfl k) ?_
      show own_Fin p.tables e below _ (T8.setTop (mkF m 49 #[.val (.int p1), .val (.int p2), .val (.int ((p2 &&& (2147483647 : Int32)) % (10 : Int32))), .val (.int (((p1 &&& (2147483647 : Int32)) % (own_p10 ((9 : Int32) - ((p2 &&& (2147483647 : Int32)) % (10 : Int32))))) * (own_p10 ((p2 &&& (2147483647 : Int32)) % (10 : Int32))))), .val (.int (2 : Int32))] [(.int (2 : Int32))]))
      refine own_go (fun _ k => XS.iconst X8.here hx rfl (hb hby at_49) k) ?_
      show own_Fin p.tables e below _ (T8.setTop (mkF m 50 #[.val (.int p1), .val (.int p2), .val (.int ((p2 &&& (2147483647 : Int32)) % (10 : Int32))), .val (.int (((p1 &&& (2147483647 : Int32)) % (own_p10 ((9 : Int32) - ((p2 &&& (2147483647 : Int32)) % (10 : Int32))))) * (own_p10 ((p2 &&& (2147483647 : Int32)) % (10 : Int32))))), .val (.int (2 : Int32))] [(.int (1 : Int32)), (.int (2 : Int32))]))
      refine own_go (fun _ k => XS.icmpNo X8.here hx rfl (hb hby at_50) rfl (flt (by decide : ¬ ((2 : Int32) < (1 : Int32)))).1 k) ?_
      show own_Fin p.tables e below _ (T8.setTop (mkF m 53 #[.val (.int p1), .val (.int p2), .val (.int ((p2 &&& (2147483647 : Int32)) % (10 : Int32))), .val (.int (((p1 &&& (2147483647 : Int32)) % (own_p10 ((9 : Int32) - ((p2 &&& (2147483647 : Int32)) % (10 : Int32))))) * (own_p10 ((p2 &&& (2147483647 : Int32)) % (10 : Int32))))), .val (.int (2 : Int32))] []))
      refine own_go (fun _ k => XS.iload X8.here hx rfl (hb hby at_53) rfl k) ?_
      show own_Fin p.tables e below _ (T8.setTop (mkF m 55 #[.val (.int p1), .val (.int p2), .val (.int ((p2 &&& (2147483647 : Int32)) % (10 : Int32))), .val (.int (((p1 &&& (2147483647 : Int32)) % (own_p10 ((9 : Int32) - ((p2 &&& (2147483647 : Int32)) % (10 : Int32))))) * (own_p10 ((p2 &&& (2147483647 : Int32)) % (10 : Int32))))), .val (.int (2 : Int32))] [(.int (2 : Int32))]))
      refine own_go (fun _ k => XS.bipush X8.here hx rfl (hb hby at_55) k) ?_
      show own_Fin p.tables e below _ (T8.setTop (mkF m 57 #[.val (.int p1), .val (.int p2), .val (.int ((p2 &&& (2147483647 : Int32)) % (10 : Int32))), .val (.int (((p1 &&& (2147483647 : Int32)) % (own_p10 ((9 : Int32) - ((p2 &&& (2147483647 : Int32)) % (10 : Int32))))) * (own_p10 ((p2 &&& (2147483647 : Int32)) % (10 : Int32))))), .val (.int (2 : Int32))] [(.int (9 : Int32)), (.int (2 : Int32))]))
      refine own_go (fun _ k => XS.icmpYes X8.here hx rfl (pc0 := 57) (pc' := 62) rfl (hb hby at_57) rfl (flt (by decide : ¬ ((9 : Int32) < (2 : Int32)))).2.2.2 (by decide) (by decide) k) ?_
      show own_Fin p.tables e below _ (T8.setTop (mkF m 62 #[.val (.int p1), .val (.int p2), .val (.int ((p2 &&& (2147483647 : Int32)) % (10 : Int32))), .val (.int (((p1 &&& (2147483647 : Int32)) % (own_p10 ((9 : Int32) - ((p2 &&& (2147483647 : Int32)) % (10 : Int32))))) * (own_p10 ((p2 &&& (2147483647 : Int32)) % (10 : Int32))))), .val (.int (2 : Int32))] []))
      refine own_go (fun _ k => XS.iloadN X8.here hx rfl (hb hby at_62) rfl k) ?_
      show own_Fin p.tables e below _ (T8.setTop (mkF m 63 #[.val (.int p1), .val (.int p2), .val (.int ((p2 &&& (2147483647 : Int32)) % (10 : Int32))), .val (.int (((p1 &&& (2147483647 : Int32)) % (own_p10 ((9 : Int32) - ((p2 &&& (2147483647 : Int32)) % (10 : Int32))))) * (own_p10 ((p2 &&& (2147483647 : Int32)) % (10 : Int32))))), .val (.int (2 : Int32))] [(.int (((p1 &&& (2147483647 : Int32)) % (own_p10 ((9 : Int32) - ((p2 &&& (2147483647 : Int32)) % (10 : Int32))))) * (own_p10 ((p2 &&& (2147483647 : Int32)) % (10 : Int32)))))]))
      refine own_go (fun _ k => XS.bipush X8.here hx rfl (hb hby at_63) k) ?_
      show own_Fin p.tables e below _ (T8.setTop (mkF m 65 #[.val (.int p1), .val (.int p2), .val (.int ((p2 &&& (2147483647 : Int32)) % (10 : Int32))), .val (.int (((p1 &&& (2147483647 : Int32)) % (own_p10 ((9 : Int32) - ((p2 &&& (2147483647 : Int32)) % (10 : Int32))))) * (own_p10 ((p2 &&& (2147483647 : Int32)) % (10 : Int32))))), .val (.int (2 : Int32))] [(.int (9 : Int32)), (.int (((p1 &&& (2147483647 : Int32)) % (own_p10 ((9 : Int32) - ((p2 &&& (2147483647 : Int32)) % (10 : Int32))))) * (own_p10 ((p2 &&& (2147483647 : Int32)) % (10 : Int32)))))]))
      refine own_go (fun _ k => XS.iload X8.here hx rfl (hb hby at_65) rfl k) ?_
      show own_Fin p.tables e below _ (T8.setTop (mkF m 67 #[.val (.int p1), .val (.int p2), .val (.int ((p2 &&& (2147483647 : Int32)) % (10 : Int32))), .val (.int (((p1 &&& (2147483647 : Int32)) % (own_p10 ((9 : Int32) - ((p2 &&& (2147483647 : Int32)) % (10 : Int32))))) * (own_p10 ((p2 &&& (2147483647 : Int32)) % (10 : Int32))))), .val (.int (2 : Int32))] [(.int (2 : Int32)), (.int (9 : Int32)), (.int (((p1 &&& (2147483647 : Int32)) % (own_p10 ((9 : Int32) - ((p2 &&& (2147483647 : Int32)) % (10 : Int32))))) * (own_p10 ((p2 &&& (2147483647 : Int32)) % (10 : Int32)))))]))
      refine own_go (fun _ k => XS.isub X8.here hx rfl (hb hby at_67) rfl k) ?_
      show own_Fin p.tables e below _ (T8.setTop (mkF m 68 #[.val (.int p1), .val (.int p2), .val (.int ((p2 &&& (2147483647 : Int32)) % (10 : Int32))), .val (.int (((p1 &&& (2147483647 : Int32)) % (own_p10 ((9 : Int32) - ((p2 &&& (2147483647 : Int32)) % (10 : Int32))))) * (own_p10 ((p2 &&& (2147483647 : Int32)) % (10 : Int32))))), .val (.int (2 : Int32))] [(.int ((9 : Int32) - (2 : Int32))), (.int (((p1 &&& (2147483647 : Int32)) % (own_p10 ((9 : Int32) - ((p2 &&& (2147483647 : Int32)) % (10 : Int32))))) * (own_p10 ((p2 &&& (2147483647 : Int32)) % (10 : Int32)))))]))
      rw [show ((9 : Int32) - (2 : Int32)) = (7 : Int32) from by decide]
      show own_Fin p.tables e below _ (T8.setTop (mkF m 68 #[.val (.int p1), .val (.int p2), .val (.int ((p2 &&& (2147483647 : Int32)) % (10 : Int32))), .val (.int (((p1 &&& (2147483647 : Int32)) % (own_p10 ((9 : Int32) - ((p2 &&& (2147483647 : Int32)) % (10 : Int32))))) * (own_p10 ((p2 &&& (2147483647 : Int32)) % (10 : Int32))))), .val (.int (2 : Int32))] [(.int (7 : Int32)), (.int (((p1 &&& (2147483647 : Int32)) % (own_p10 ((9 : Int32) - ((p2 &&& (2147483647 : Int32)) % (10 : Int32))))) * (own_p10 ((p2 &&& (2147483647 : Int32)) % (10 : Int32)))))]))
      obtain ⟨_, _, ⟨T15, L15, k15, n15⟩, -, X15, ⟨Lc15, hQ15, l15, y15, z15⟩, st15⟩ := Jvm.LawKit.callS X8 hx (y := (⟨"com/example/ianus/ianus/data/DatetimesFractionDigitsPinLaw", "pow", "(I)I"⟩ : MethodName)) hown (mvT hZ (hw _ (List.mem_of_getElem? (i := 1) rfl))) (mvT hZ (hw _ (List.mem_of_getElem? (i := 2) rfl))) (mvT hZ (hw _ (List.mem_of_getElem? (i := 3) rfl))) (mvT hZ (hw _ (List.mem_of_getElem? (i := 4) rfl))) (by decide) (backOf (W := 1) (own_pow l Z a0 hw [] (7 : Int32) T4.heap n0 Z6 f5_0 (by unfold own_pin; decide)) hZ (hw _ (List.mem_of_getElem? (i := 4) rfl)) (hw _ (List.mem_of_getElem? (i := 3) rfl)) (by decide) (by decide)) (g := (mkF m 68 #[.val (.int p1), .val (.int p2), .val (.int ((p2 &&& (2147483647 : Int32)) % (10 : Int32))), .val (.int (((p1 &&& (2147483647 : Int32)) % (own_p10 ((9 : Int32) - ((p2 &&& (2147483647 : Int32)) % (10 : Int32))))) * (own_p10 ((p2 &&& (2147483647 : Int32)) % (10 : Int32))))), .val (.int (2 : Int32))] [(.int (7 : Int32)), (.int (((p1 &&& (2147483647 : Int32)) % (own_p10 ((9 : Int32) - ((p2 &&& (2147483647 : Int32)) % (10 : Int32))))) * (own_p10 ((p2 &&& (2147483647 : Int32)) % (10 : Int32)))))])) rfl (by rw [hml]; rfl) (argsL := [(.int (7 : Int32))]) (rest := [(.int (((p1 &&& (2147483647 : Int32)) % (own_p10 ((9 : Int32) - ((p2 &&& (2147483647 : Int32)) % (10 : Int32))))) * (own_p10 ((p2 &&& (2147483647 : Int32)) % (10 : Int32)))))]) (lenOf own_pd0 rfl) rfl (by show 2 * 0 + _ ≤ _; exact Nat.le_of_eq rfl) (hb hby at_68) (fun _ _ => ⟨rfl, eh8, (by decide : 2 + 1 ≤ _), (by decide : 20 + 10 ≤ _)⟩)
      dsimp only [Pt.U, Pt.locs, Pt.cells, Pt.slots] at X15 l15 y15 z15 st15 hQ15
      subst l15 y15 z15
      obtain ⟨hv15, N15q, o15_0⟩ := hQ15
      obtain rfl := hv15.trans (by rfl : (some (.int (own_p10 (7 : Int32))) : Option Value) = some (.int (10000000 : Int32)))
      have N15 := Fr.app N8 N15q
      refine own_go st15 ?_
      have f16_0 : Old Z n0 T15.heap := f5_0.keep o15_0 all0
      have Z17 : n0 ≤ T15.heap.size := Nat.le_trans Z6 o15_0.1
      show own_Fin p.tables e below _ (T15.setTop (mkF m 71 #[.val (.int p1), .val (.int p2), .val (.int ((p2 &&& (2147483647 : Int32)) % (10 : Int32))), .val (.int (((p1 &&& (2147483647 : Int32)) % (own_p10 ((9 : Int32) - ((p2 &&& (2147483647 : Int32)) % (10 : Int32))))) * (own_p10 ((p2 &&& (2147483647 : Int32)) % (10 : Int32))))), .val (.int (2 : Int32))] [(.int (10000000 : Int32)), (.int (((p1 &&& (2147483647 : Int32)) % (own_p10 ((9 : Int32) - ((p2 &&& (2147483647 : Int32)) % (10 : Int32))))) * (own_p10 ((p2 &&& (2147483647 : Int32)) % (10 : Int32)))))]))
      refine own_go (fun _ k => iremM X15 hx rfl (hb hby at_71) rfl (by decide) k) ?_
      show own_Fin p.tables e below _ (T15.setTop (mkF m 72 #[.val (.int p1), .val (.int p2), .val (.int ((p2 &&& (2147483647 : Int32)) % (10 : Int32))), .val (.int (((p1 &&& (2147483647 : Int32)) % (own_p10 ((9 : Int32) - ((p2 &&& (2147483647 : Int32)) % (10 : Int32))))) * (own_p10 ((p2 &&& (2147483647 : Int32)) % (10 : Int32))))), .val (.int (2 : Int32))] [(.int ((((p1 &&& (2147483647 : Int32)) % (own_p10 ((9 : Int32) - ((p2 &&& (2147483647 : Int32)) % (10 : Int32))))) * (own_p10 ((p2 &&& (2147483647 : Int32)) % (10 : Int32)))) % (10000000 : Int32)))]))
      refine own_go (fun _ k => XS.ifNo X15.here hx rfl (hb hby at_72) rfl ((if0 _ _).trans (teq hm).2) k) ?_
      show own_Fin p.tables e below _ (T15.setTop (mkF m 75 #[.val (.int p1), .val (.int p2), .val (.int ((p2 &&& (2147483647 : Int32)) % (10 : Int32))), .val (.int (((p1 &&& (2147483647 : Int32)) % (own_p10 ((9 : Int32) - ((p2 &&& (2147483647 : Int32)) % (10 : Int32))))) * (own_p10 ((p2 &&& (2147483647 : Int32)) % (10 : Int32))))), .val (.int (2 : Int32))] []))
      refine own_go (fun _ k => XS.iloadN X15.here hx rfl (hb hby at_75) rfl k) ?_
      show own_Fin p.tables e below _ (T15.setTop (mkF m 76 #[.val (.int p1), .val (.int p2), .val (.int ((p2 &&& (2147483647 : Int32)) % (10 : Int32))), .val (.int (((p1 &&& (2147483647 : Int32)) % (own_p10 ((9 : Int32) - ((p2 &&& (2147483647 : Int32)) % (10 : Int32))))) * (own_p10 ((p2 &&& (2147483647 : Int32)) % (10 : Int32))))), .val (.int (2 : Int32))] [(.int (((p1 &&& (2147483647 : Int32)) % (own_p10 ((9 : Int32) - ((p2 &&& (2147483647 : Int32)) % (10 : Int32))))) * (own_p10 ((p2 &&& (2147483647 : Int32)) % (10 : Int32)))))]))
      refine own_go (fun _ k => XS.bipush X15.here hx rfl (hb hby at_76) k) ?_
      show own_Fin p.tables e below _ (T15.setTop (mkF m 78 #[.val (.int p1), .val (.int p2), .val (.int ((p2 &&& (2147483647 : Int32)) % (10 : Int32))), .val (.int (((p1 &&& (2147483647 : Int32)) % (own_p10 ((9 : Int32) - ((p2 &&& (2147483647 : Int32)) % (10 : Int32))))) * (own_p10 ((p2 &&& (2147483647 : Int32)) % (10 : Int32))))), .val (.int (2 : Int32))] [(.int (10 : Int32)), (.int (((p1 &&& (2147483647 : Int32)) % (own_p10 ((9 : Int32) - ((p2 &&& (2147483647 : Int32)) % (10 : Int32))))) * (own_p10 ((p2 &&& (2147483647 : Int32)) % (10 : Int32)))))]))
      refine own_go (fun _ k => XS.iload X15.here hx rfl (hb hby at_78) rfl k) ?_
      show own_Fin p.tables e below _ (T15.setTop (mkF m 80 #[.val (.int p1), .val (.int p2), .val (.int ((p2 &&& (2147483647 : Int32)) % (10 : Int32))), .val (.int (((p1 &&& (2147483647 : Int32)) % (own_p10 ((9 : Int32) - ((p2 &&& (2147483647 : Int32)) % (10 : Int32))))) * (own_p10 ((p2 &&& (2147483647 : Int32)) % (10 : Int32))))), .val (.int (2 : Int32))] [(.int (2 : Int32)), (.int (10 : Int32)), (.int (((p1 &&& (2147483647 : Int32)) % (own_p10 ((9 : Int32) - ((p2 &&& (2147483647 : Int32)) % (10 : Int32))))) * (own_p10 ((p2 &&& (2147483647 : Int32)) % (10 : Int32)))))]))
      refine own_go (fun _ k => XS.isub X15.here hx rfl (hb hby at_80) rfl k) ?_
      show own_Fin p.tables e below _ (T15.setTop (mkF m 81 #[.val (.int p1), .val (.int p2), .val (.int ((p2 &&& (2147483647 : Int32)) % (10 : Int32))), .val (.int (((p1 &&& (2147483647 : Int32)) % (own_p10 ((9 : Int32) - ((p2 &&& (2147483647 : Int32)) % (10 : Int32))))) * (own_p10 ((p2 &&& (2147483647 : Int32)) % (10 : Int32))))), .val (.int (2 : Int32))] [(.int ((10 : Int32) - (2 : Int32))), (.int (((p1 &&& (2147483647 : Int32)) % (own_p10 ((9 : Int32) - ((p2 &&& (2147483647 : Int32)) % (10 : Int32))))) * (own_p10 ((p2 &&& (2147483647 : Int32)) % (10 : Int32)))))]))
      rw [show ((10 : Int32) - (2 : Int32)) = (8 : Int32) from by decide]
      show own_Fin p.tables e below _ (T15.setTop (mkF m 81 #[.val (.int p1), .val (.int p2), .val (.int ((p2 &&& (2147483647 : Int32)) % (10 : Int32))), .val (.int (((p1 &&& (2147483647 : Int32)) % (own_p10 ((9 : Int32) - ((p2 &&& (2147483647 : Int32)) % (10 : Int32))))) * (own_p10 ((p2 &&& (2147483647 : Int32)) % (10 : Int32))))), .val (.int (2 : Int32))] [(.int (8 : Int32)), (.int (((p1 &&& (2147483647 : Int32)) % (own_p10 ((9 : Int32) - ((p2 &&& (2147483647 : Int32)) % (10 : Int32))))) * (own_p10 ((p2 &&& (2147483647 : Int32)) % (10 : Int32)))))]))
      obtain ⟨_, _, ⟨T18, L18, k18, n18⟩, -, X18, ⟨Lc18, hQ18, l18, y18, z18⟩, st18⟩ := Jvm.LawKit.callS X15 hx (y := (⟨"com/example/ianus/ianus/data/DatetimesFractionDigitsPinLaw", "pow", "(I)I"⟩ : MethodName)) hown (mvT hZ (hw _ (List.mem_of_getElem? (i := 1) rfl))) (mvT hZ (hw _ (List.mem_of_getElem? (i := 2) rfl))) (mvT hZ (hw _ (List.mem_of_getElem? (i := 3) rfl))) (mvT hZ (hw _ (List.mem_of_getElem? (i := 4) rfl))) (by decide) (backOf (W := 1) (own_pow l Z a0 hw [] (8 : Int32) T15.heap n0 Z17 f16_0 (by unfold own_pin; decide)) hZ (hw _ (List.mem_of_getElem? (i := 4) rfl)) (hw _ (List.mem_of_getElem? (i := 3) rfl)) (by decide) (by decide)) (g := (mkF m 81 #[.val (.int p1), .val (.int p2), .val (.int ((p2 &&& (2147483647 : Int32)) % (10 : Int32))), .val (.int (((p1 &&& (2147483647 : Int32)) % (own_p10 ((9 : Int32) - ((p2 &&& (2147483647 : Int32)) % (10 : Int32))))) * (own_p10 ((p2 &&& (2147483647 : Int32)) % (10 : Int32))))), .val (.int (2 : Int32))] [(.int (8 : Int32)), (.int (((p1 &&& (2147483647 : Int32)) % (own_p10 ((9 : Int32) - ((p2 &&& (2147483647 : Int32)) % (10 : Int32))))) * (own_p10 ((p2 &&& (2147483647 : Int32)) % (10 : Int32)))))])) rfl (by rw [hml]; rfl) (argsL := [(.int (8 : Int32))]) (rest := [(.int (((p1 &&& (2147483647 : Int32)) % (own_p10 ((9 : Int32) - ((p2 &&& (2147483647 : Int32)) % (10 : Int32))))) * (own_p10 ((p2 &&& (2147483647 : Int32)) % (10 : Int32)))))]) (lenOf own_pd0 rfl) rfl (by show 2 * 0 + _ ≤ _; exact Nat.le_of_eq rfl) (hb hby at_81) (fun _ _ => ⟨rfl, rfl, (by decide : 3 + 1 ≤ _), (by decide : 30 + 10 ≤ _)⟩)
      dsimp only [Pt.U, Pt.locs, Pt.cells, Pt.slots] at X18 l18 y18 z18 st18 hQ18
      subst l18 y18 z18
      obtain ⟨hv18, N18q, o18_0⟩ := hQ18
      obtain rfl := hv18.trans (by rfl : (some (.int (own_p10 (8 : Int32))) : Option Value) = some (.int (100000000 : Int32)))
      have N18 := Fr.app N15 N18q
      refine own_go st18 ?_
      have f19_0 : Old Z n0 T18.heap := f16_0.keep o18_0 all0
      have Z20 : n0 ≤ T18.heap.size := Nat.le_trans Z17 o18_0.1
      show own_Fin p.tables e below _ (T18.setTop (mkF m 84 #[.val (.int p1), .val (.int p2), .val (.int ((p2 &&& (2147483647 : Int32)) % (10 : Int32))), .val (.int (((p1 &&& (2147483647 : Int32)) % (own_p10 ((9 : Int32) - ((p2 &&& (2147483647 : Int32)) % (10 : Int32))))) * (own_p10 ((p2 &&& (2147483647 : Int32)) % (10 : Int32))))), .val (.int (2 : Int32))] [(.int (100000000 : Int32)), (.int (((p1 &&& (2147483647 : Int32)) % (own_p10 ((9 : Int32) - ((p2 &&& (2147483647 : Int32)) % (10 : Int32))))) * (own_p10 ((p2 &&& (2147483647 : Int32)) % (10 : Int32)))))]))
      refine own_go (fun _ k => iremM X18 hx rfl (hb hby at_84) rfl (by decide) k) ?_
      show own_Fin p.tables e below _ (T18.setTop (mkF m 85 #[.val (.int p1), .val (.int p2), .val (.int ((p2 &&& (2147483647 : Int32)) % (10 : Int32))), .val (.int (((p1 &&& (2147483647 : Int32)) % (own_p10 ((9 : Int32) - ((p2 &&& (2147483647 : Int32)) % (10 : Int32))))) * (own_p10 ((p2 &&& (2147483647 : Int32)) % (10 : Int32))))), .val (.int (2 : Int32))] [(.int ((((p1 &&& (2147483647 : Int32)) % (own_p10 ((9 : Int32) - ((p2 &&& (2147483647 : Int32)) % (10 : Int32))))) * (own_p10 ((p2 &&& (2147483647 : Int32)) % (10 : Int32)))) % (100000000 : Int32)))]))
      refine own_go (fun _ k => XS.ifNo X18.here hx rfl (hb hby at_85) rfl ((if0 _ _).trans (feq hk).1) k) ?_
      show own_Fin p.tables e below _ (T18.setTop (mkF m 88 #[.val (.int p1), .val (.int p2), .val (.int ((p2 &&& (2147483647 : Int32)) % (10 : Int32))), .val (.int (((p1 &&& (2147483647 : Int32)) % (own_p10 ((9 : Int32) - ((p2 &&& (2147483647 : Int32)) % (10 : Int32))))) * (own_p10 ((p2 &&& (2147483647 : Int32)) % (10 : Int32))))), .val (.int (2 : Int32))] []))
      refine own_go (fun _ k => XS.iconst X18.here hx rfl (hb hby at_88) k) ?_
      show own_Fin p.tables e below _ (T18.setTop (mkF m 89 #[.val (.int p1), .val (.int p2), .val (.int ((p2 &&& (2147483647 : Int32)) % (10 : Int32))), .val (.int (((p1 &&& (2147483647 : Int32)) % (own_p10 ((9 : Int32) - ((p2 &&& (2147483647 : Int32)) % (10 : Int32))))) * (own_p10 ((p2 &&& (2147483647 : Int32)) % (10 : Int32))))), .val (.int (2 : Int32))] [(.int (1 : Int32))]))
      refine own_go (fun _ k => XS.goto X18.here hx rfl (pc0 := 89) (pc' := 93) rfl (hb hby at_89) (by decide) (by decide) k) ?_
      show own_Fin p.tables e below _ (T18.setTop (mkF m 93 #[.val (.int p1), .val (.int p2), .val (.int ((p2 &&& (2147483647 : Int32)) % (10 : Int32))), .val (.int (((p1 &&& (2147483647 : Int32)) % (own_p10 ((9 : Int32) - ((p2 &&& (2147483647 : Int32)) % (10 : Int32))))) * (own_p10 ((p2 &&& (2147483647 : Int32)) % (10 : Int32))))), .val (.int (2 : Int32))] [(.int (1 : Int32))]))
      obtain ⟨fs, hr, hrun, hended, hW, hsame⟩ := X18.leave (v := some (.int (1 : Int32))) (fun h => by rw [Bd.returns] at h; cases h)
      refine ⟨_, _, ?_, hrun, hended, _, _, rfl, ?_, ⟨_, rfl⟩, hW, hsame.mono (by decide) (by decide)⟩
      · exact retN X18 hx (t := .boolean) Bd.returns (by simp) (hb hby at_93) hr
      · show Q_own_law Z p1 p2 pt kp h0 n0 _ T18.heap _
        exact ⟨rfl, N18⟩
    · show own_Fin p.tables e below _ (T8.setTop (mkF m 30 #[.val (.int p1), .val (.int p2), .val (.int ((p2 &&& (2147483647 : Int32)) % (10 : Int32))), .val (.int (((p1 &&& (2147483647 : Int32)) % (own_p10 ((9 : Int32) - ((p2 &&& (2147483647 : Int32)) % (10 : Int32))))) * (own_p10 ((p2 &&& (2147483647 : Int32)) % (10 : Int32))))), .unset] [(.int (3 : Int32))]))
      refine own_go (fun _ k => XS.istore X8.here hx rfl (hb hby at_30) rfl (l' := #[.val (.int p1), .val (.int p2), .val (.int ((p2 &&& (2147483647 : Int32)) % (10 : Int32))), .val (.int (((p1 &&& (2147483647 : Int32)) % (own_p10 ((9 : Int32) - ((p2 &&& (2147483647 : Int32)) % (10 : Int32))))) * (own_p10 ((p2 &&& (2147483647 : Int32)) % (10 : Int32))))), .val (.int (3 : Int32))]) rfl k) ?_
      show own_Fin p.tables e below _ (T8.setTop (mkF m 32 #[.val (.int p1), .val (.int p2), .val (.int ((p2 &&& (2147483647 : Int32)) % (10 : Int32))), .val (.int (((p1 &&& (2147483647 : Int32)) % (own_p10 ((9 : Int32) - ((p2 &&& (2147483647 : Int32)) % (10 : Int32))))) * (own_p10 ((p2 &&& (2147483647 : Int32)) % (10 : Int32))))), .val (.int (3 : Int32))] []))
      refine own_go (fun _ k => XS.iloadN X8.here hx rfl (hb hby at_32) rfl k) ?_
      show own_Fin p.tables e below _ (T8.setTop (mkF m 33 #[.val (.int p1), .val (.int p2), .val (.int ((p2 &&& (2147483647 : Int32)) % (10 : Int32))), .val (.int (((p1 &&& (2147483647 : Int32)) % (own_p10 ((9 : Int32) - ((p2 &&& (2147483647 : Int32)) % (10 : Int32))))) * (own_p10 ((p2 &&& (2147483647 : Int32)) % (10 : Int32))))), .val (.int (3 : Int32))] [(.int (((p1 &&& (2147483647 : Int32)) % (own_p10 ((9 : Int32) - ((p2 &&& (2147483647 : Int32)) % (10 : Int32))))) * (own_p10 ((p2 &&& (2147483647 : Int32)) % (10 : Int32)))))]))
      refine own_go (fun _ k => XS.ifYes X8.here hx rfl (pc0 := 33) (pc' := 47) rfl (hb hby at_33) rfl ((if0 _ _).trans (feq hN).2) (by decide) (by decide) k) ?_
      show own_Fin p.tables e below _ (T8.setTop (mkF m 47 #[.val (.int p1), .val (.int p2), .val (.int ((p2 &&& (2147483647 : Int32)) % (10 : Int32))), .val (.int (((p1 &&& (2147483647 : Int32)) % (own_p10 ((9 : Int32) - ((p2 &&& (2147483647 : Int32)) % (10 : Int32))))) * (own_p10 ((p2 &&& (2147483647 : Int32)) % (10 : Int32))))), .val (.int (3 : Int32))] []))
      refine own_go (fun _ k => XS.iload X8.here hx rfl (hb hby at_47) rfl k) ?_
      show own_Fin p.tables e below _ (T8.setTop (mkF m 49 #[.val (.int p1), .val (.int p2), .val (.int ((p2 &&& (2147483647 : Int32)) % (10 : Int32))), .val (.int (((p1 &&& (2147483647 : Int32)) % (own_p10 ((9 : Int32) - ((p2 &&& (2147483647 : Int32)) % (10 : Int32))))) * (own_p10 ((p2 &&& (2147483647 : Int32)) % (10 : Int32))))), .val (.int (3 : Int32))] [(.int (3 : Int32))]))
      refine own_go (fun _ k => XS.iconst X8.here hx rfl (hb hby at_49) k) ?_
      show own_Fin p.tables e below _ (T8.setTop (mkF m 50 #[.val (.int p1), .val (.int p2), .val (.int ((p2 &&& (2147483647 : Int32)) % (10 : Int32))), .val (.int (((p1 &&& (2147483647 : Int32)) % (own_p10 ((9 : Int32) - ((p2 &&& (2147483647 : Int32)) % (10 : Int32))))) * (own_p10 ((p2 &&& (2147483647 : Int32)) % (10 : Int32))))), .val (.int (3 : Int32))] [(.int (1 : Int32)), (.int (3 : Int32))]))
      refine own_go (fun _ k => XS.icmpNo X8.here hx rfl (hb hby at_50) rfl (flt (by decide : ¬ ((3 : Int32) < (1 : Int32)))).1 k) ?_
      show own_Fin p.tables e below _ (T8.setTop (mkF m 53 #[.val (.int p1), .val (.int p2), .val (.int ((p2 &&& (2147483647 : Int32)) % (10 : Int32))), .val (.int (((p1 &&& (2147483647 : Int32)) % (own_p10 ((9 : Int32) - ((p2 &&& (2147483647 : Int32)) % (10 : Int32))))) * (own_p10 ((p2 &&& (2147483647 : Int32)) % (10 : Int32))))), .val (.int (3 : Int32))] []))
      refine own_go (fun _ k => XS.iload X8.here hx rfl (hb hby at_53) rfl k) ?_
      show own_Fin p.tables e below _ (T8.setTop (mkF m 55 #[.val (.int p1), .val (.int p2), .val (.int ((p2 &&& (2147483647 : Int32)) % (10 : Int32))), .val (.int (((p1 &&& (2147483647 : Int32)) % (own_p10 ((9 : Int32) - ((p2 &&& (2147483647 : Int32)) % (10 : Int32))))) * (own_p10 ((p2 &&& (2147483647 : Int32)) % (10 : Int32))))), .val (.int (3 : Int32))] [(.int (3 : Int32))]))
      refine own_go (fun _ k => XS.bipush X8.here hx rfl (hb hby at_55) k) ?_
      show own_Fin p.tables e below _ (T8.setTop (mkF m 57 #[.val (.int p1), .val (.int p2), .val (.int ((p2 &&& (2147483647 : Int32)) % (10 : Int32))), .val (.int (((p1 &&& (2147483647 : Int32)) % (own_p10 ((9 : Int32) - ((p2 &&& (2147483647 : Int32)) % (10 : Int32))))) * (own_p10 ((p2 &&& (2147483647 : Int32)) % (10 : Int32))))), .val (.int (3 : Int32))] [(.int (9 : Int32)), (.int (3 : Int32))]))
      refine own_go (fun _ k => XS.icmpYes X8.here hx rfl (pc0 := 57) (pc' := 62) rfl (hb hby at_57) rfl (flt (by decide : ¬ ((9 : Int32) < (3 : Int32)))).2.2.2 (by decide) (by decide) k) ?_
      show own_Fin p.tables e below _ (T8.setTop (mkF m 62 #[.val (.int p1), .val (.int p2), .val (.int ((p2 &&& (2147483647 : Int32)) % (10 : Int32))), .val (.int (((p1 &&& (2147483647 : Int32)) % (own_p10 ((9 : Int32) - ((p2 &&& (2147483647 : Int32)) % (10 : Int32))))) * (own_p10 ((p2 &&& (2147483647 : Int32)) % (10 : Int32))))), .val (.int (3 : Int32))] []))
      refine own_go (fun _ k => XS.iloadN X8.here hx rfl (hb hby at_62) rfl k) ?_
      show own_Fin p.tables e below _ (T8.setTop (mkF m 63 #[.val (.int p1), .val (.int p2), .val (.int ((p2 &&& (2147483647 : Int32)) % (10 : Int32))), .val (.int (((p1 &&& (2147483647 : Int32)) % (own_p10 ((9 : Int32) - ((p2 &&& (2147483647 : Int32)) % (10 : Int32))))) * (own_p10 ((p2 &&& (2147483647 : Int32)) % (10 : Int32))))), .val (.int (3 : Int32))] [(.int (((p1 &&& (2147483647 : Int32)) % (own_p10 ((9 : Int32) - ((p2 &&& (2147483647 : Int32)) % (10 : Int32))))) * (own_p10 ((p2 &&& (2147483647 : Int32)) % (10 : Int32)))))]))
      refine own_go (fun _ k => XS.bipush X8.here hx rfl (hb hby at_63) k) ?_
      show own_Fin p.tables e below _ (T8.setTop (mkF m 65 #[.val (.int p1), .val (.int p2), .val (.int ((p2 &&& (2147483647 : Int32)) % (10 : Int32))), .val (.int (((p1 &&& (2147483647 : Int32)) % (own_p10 ((9 : Int32) - ((p2 &&& (2147483647 : Int32)) % (10 : Int32))))) * (own_p10 ((p2 &&& (2147483647 : Int32)) % (10 : Int32))))), .val (.int (3 : Int32))] [(.int (9 : Int32)), (.int (((p1 &&& (2147483647 : Int32)) % (own_p10 ((9 : Int32) - ((p2 &&& (2147483647 : Int32)) % (10 : Int32))))) * (own_p10 ((p2 &&& (2147483647 : Int32)) % (10 : Int32)))))]))
      refine own_go (fun _ k => XS.iload X8.here hx rfl (hb hby at_65) rfl k) ?_
      show own_Fin p.tables e below _ (T8.setTop (mkF m 67 #[.val (.int p1), .val (.int p2), .val (.int ((p2 &&& (2147483647 : Int32)) % (10 : Int32))), .val (.int (((p1 &&& (2147483647 : Int32)) % (own_p10 ((9 : Int32) - ((p2 &&& (2147483647 : Int32)) % (10 : Int32))))) * (own_p10 ((p2 &&& (2147483647 : Int32)) % (10 : Int32))))), .val (.int (3 : Int32))] [(.int (3 : Int32)), (.int (9 : Int32)), (.int (((p1 &&& (2147483647 : Int32)) % (own_p10 ((9 : Int32) - ((p2 &&& (2147483647 : Int32)) % (10 : Int32))))) * (own_p10 ((p2 &&& (2147483647 : Int32)) % (10 : Int32)))))]))
      refine own_go (fun _ k => XS.isub X8.here hx rfl (hb hby at_67) rfl k) ?_
      show own_Fin p.tables e below _ (T8.setTop (mkF m 68 #[.val (.int p1), .val (.int p2), .val (.int ((p2 &&& (2147483647 : Int32)) % (10 : Int32))), .val (.int (((p1 &&& (2147483647 : Int32)) % (own_p10 ((9 : Int32) - ((p2 &&& (2147483647 : Int32)) % (10 : Int32))))) * (own_p10 ((p2 &&& (2147483647 : Int32)) % (10 : Int32))))), .val (.int (3 : Int32))] [(.int ((9 : Int32) - (3 : Int32))), (.int (((p1 &&& (2147483647 : Int32)) % (own_p10 ((9 : Int32) - ((p2 &&& (2147483647 : Int32)) % (10 : Int32))))) * (own_p10 ((p2 &&& (2147483647 : Int32)) % (10 : Int32)))))]))
      rw [show ((9 : Int32) - (3 : Int32)) = (6 : Int32) from by decide]
      show own_Fin p.tables e below _ (T8.setTop (mkF m 68 #[.val (.int p1), .val (.int p2), .val (.int ((p2 &&& (2147483647 : Int32)) % (10 : Int32))), .val (.int (((p1 &&& (2147483647 : Int32)) % (own_p10 ((9 : Int32) - ((p2 &&& (2147483647 : Int32)) % (10 : Int32))))) * (own_p10 ((p2 &&& (2147483647 : Int32)) % (10 : Int32))))), .val (.int (3 : Int32))] [(.int (6 : Int32)), (.int (((p1 &&& (2147483647 : Int32)) % (own_p10 ((9 : Int32) - ((p2 &&& (2147483647 : Int32)) % (10 : Int32))))) * (own_p10 ((p2 &&& (2147483647 : Int32)) % (10 : Int32)))))]))
      obtain ⟨_, _, ⟨T21, L21, k21, n21⟩, -, X21, ⟨Lc21, hQ21, l21, y21, z21⟩, st21⟩ := Jvm.LawKit.callS X8 hx (y := (⟨"com/example/ianus/ianus/data/DatetimesFractionDigitsPinLaw", "pow", "(I)I"⟩ : MethodName)) hown (mvT hZ (hw _ (List.mem_of_getElem? (i := 1) rfl))) (mvT hZ (hw _ (List.mem_of_getElem? (i := 2) rfl))) (mvT hZ (hw _ (List.mem_of_getElem? (i := 3) rfl))) (mvT hZ (hw _ (List.mem_of_getElem? (i := 4) rfl))) (by decide) (backOf (W := 1) (own_pow l Z a0 hw [] (6 : Int32) T4.heap n0 Z6 f5_0 (by unfold own_pin; decide)) hZ (hw _ (List.mem_of_getElem? (i := 4) rfl)) (hw _ (List.mem_of_getElem? (i := 3) rfl)) (by decide) (by decide)) (g := (mkF m 68 #[.val (.int p1), .val (.int p2), .val (.int ((p2 &&& (2147483647 : Int32)) % (10 : Int32))), .val (.int (((p1 &&& (2147483647 : Int32)) % (own_p10 ((9 : Int32) - ((p2 &&& (2147483647 : Int32)) % (10 : Int32))))) * (own_p10 ((p2 &&& (2147483647 : Int32)) % (10 : Int32))))), .val (.int (3 : Int32))] [(.int (6 : Int32)), (.int (((p1 &&& (2147483647 : Int32)) % (own_p10 ((9 : Int32) - ((p2 &&& (2147483647 : Int32)) % (10 : Int32))))) * (own_p10 ((p2 &&& (2147483647 : Int32)) % (10 : Int32)))))])) rfl (by rw [hml]; rfl) (argsL := [(.int (6 : Int32))]) (rest := [(.int (((p1 &&& (2147483647 : Int32)) % (own_p10 ((9 : Int32) - ((p2 &&& (2147483647 : Int32)) % (10 : Int32))))) * (own_p10 ((p2 &&& (2147483647 : Int32)) % (10 : Int32)))))]) (lenOf own_pd0 rfl) rfl (by show 2 * 0 + _ ≤ _; exact Nat.le_of_eq rfl) (hb hby at_68) (fun _ _ => ⟨rfl, eh8, (by decide : 2 + 1 ≤ _), (by decide : 20 + 10 ≤ _)⟩)
      dsimp only [Pt.U, Pt.locs, Pt.cells, Pt.slots] at X21 l21 y21 z21 st21 hQ21
      subst l21 y21 z21
      obtain ⟨hv21, N21q, o21_0⟩ := hQ21
      obtain rfl := hv21.trans (by rfl : (some (.int (own_p10 (6 : Int32))) : Option Value) = some (.int (1000000 : Int32)))
      have N21 := Fr.app N8 N21q
      refine own_go st21 ?_
      have f22_0 : Old Z n0 T21.heap := f5_0.keep o21_0 all0
      have Z23 : n0 ≤ T21.heap.size := Nat.le_trans Z6 o21_0.1
      show own_Fin p.tables e below _ (T21.setTop (mkF m 71 #[.val (.int p1), .val (.int p2), .val (.int ((p2 &&& (2147483647 : Int32)) % (10 : Int32))), .val (.int (((p1 &&& (2147483647 : Int32)) % (own_p10 ((9 : Int32) - ((p2 &&& (2147483647 : Int32)) % (10 : Int32))))) * (own_p10 ((p2 &&& (2147483647 : Int32)) % (10 : Int32))))), .val (.int (3 : Int32))] [(.int (1000000 : Int32)), (.int (((p1 &&& (2147483647 : Int32)) % (own_p10 ((9 : Int32) - ((p2 &&& (2147483647 : Int32)) % (10 : Int32))))) * (own_p10 ((p2 &&& (2147483647 : Int32)) % (10 : Int32)))))]))
      refine own_go (fun _ k => iremM X21 hx rfl (hb hby at_71) rfl (by decide) k) ?_
      show own_Fin p.tables e below _ (T21.setTop (mkF m 72 #[.val (.int p1), .val (.int p2), .val (.int ((p2 &&& (2147483647 : Int32)) % (10 : Int32))), .val (.int (((p1 &&& (2147483647 : Int32)) % (own_p10 ((9 : Int32) - ((p2 &&& (2147483647 : Int32)) % (10 : Int32))))) * (own_p10 ((p2 &&& (2147483647 : Int32)) % (10 : Int32))))), .val (.int (3 : Int32))] [(.int ((((p1 &&& (2147483647 : Int32)) % (own_p10 ((9 : Int32) - ((p2 &&& (2147483647 : Int32)) % (10 : Int32))))) * (own_p10 ((p2 &&& (2147483647 : Int32)) % (10 : Int32)))) % (1000000 : Int32)))]))
      refine own_go (fun _ k => XS.ifNo X21.here hx rfl (hb hby at_72) rfl ((if0 _ _).trans (teq hm).2) k) ?_
      show own_Fin p.tables e below _ (T21.setTop (mkF m 75 #[.val (.int p1), .val (.int p2), .val (.int ((p2 &&& (2147483647 : Int32)) % (10 : Int32))), .val (.int (((p1 &&& (2147483647 : Int32)) % (own_p10 ((9 : Int32) - ((p2 &&& (2147483647 : Int32)) % (10 : Int32))))) * (own_p10 ((p2 &&& (2147483647 : Int32)) % (10 : Int32))))), .val (.int (3 : Int32))] []))
      refine own_go (fun _ k => XS.iloadN X21.here hx rfl (hb hby at_75) rfl k) ?_
      show own_Fin p.tables e below _ (T21.setTop (mkF m 76 #[.val (.int p1), .val (.int p2), .val (.int ((p2 &&& (2147483647 : Int32)) % (10 : Int32))), .val (.int (((p1 &&& (2147483647 : Int32)) % (own_p10 ((9 : Int32) - ((p2 &&& (2147483647 : Int32)) % (10 : Int32))))) * (own_p10 ((p2 &&& (2147483647 : Int32)) % (10 : Int32))))), .val (.int (3 : Int32))] [(.int (((p1 &&& (2147483647 : Int32)) % (own_p10 ((9 : Int32) - ((p2 &&& (2147483647 : Int32)) % (10 : Int32))))) * (own_p10 ((p2 &&& (2147483647 : Int32)) % (10 : Int32)))))]))
      refine own_go (fun _ k => XS.bipush X21.here hx rfl (hb hby at_76) k) ?_
      show own_Fin p.tables e below _ (T21.setTop (mkF m 78 #[.val (.int p1), .val (.int p2), .val (.int ((p2 &&& (2147483647 : Int32)) % (10 : Int32))), .val (.int (((p1 &&& (2147483647 : Int32)) % (own_p10 ((9 : Int32) - ((p2 &&& (2147483647 : Int32)) % (10 : Int32))))) * (own_p10 ((p2 &&& (2147483647 : Int32)) % (10 : Int32))))), .val (.int (3 : Int32))] [(.int (10 : Int32)), (.int (((p1 &&& (2147483647 : Int32)) % (own_p10 ((9 : Int32) - ((p2 &&& (2147483647 : Int32)) % (10 : Int32))))) * (own_p10 ((p2 &&& (2147483647 : Int32)) % (10 : Int32)))))]))
      refine own_go (fun _ k => XS.iload X21.here hx rfl (hb hby at_78) rfl k) ?_
      show own_Fin p.tables e below _ (T21.setTop (mkF m 80 #[.val (.int p1), .val (.int p2), .val (.int ((p2 &&& (2147483647 : Int32)) % (10 : Int32))), .val (.int (((p1 &&& (2147483647 : Int32)) % (own_p10 ((9 : Int32) - ((p2 &&& (2147483647 : Int32)) % (10 : Int32))))) * (own_p10 ((p2 &&& (2147483647 : Int32)) % (10 : Int32))))), .val (.int (3 : Int32))] [(.int (3 : Int32)), (.int (10 : Int32)), (.int (((p1 &&& (2147483647 : Int32)) % (own_p10 ((9 : Int32) - ((p2 &&& (2147483647 : Int32)) % (10 : Int32))))) * (own_p10 ((p2 &&& (2147483647 : Int32)) % (10 : Int32)))))]))
      refine own_go (fun _ k => XS.isub X21.here hx rfl (hb hby at_80) rfl k) ?_
      show own_Fin p.tables e below _ (T21.setTop (mkF m 81 #[.val (.int p1), .val (.int p2), .val (.int ((p2 &&& (2147483647 : Int32)) % (10 : Int32))), .val (.int (((p1 &&& (2147483647 : Int32)) % (own_p10 ((9 : Int32) - ((p2 &&& (2147483647 : Int32)) % (10 : Int32))))) * (own_p10 ((p2 &&& (2147483647 : Int32)) % (10 : Int32))))), .val (.int (3 : Int32))] [(.int ((10 : Int32) - (3 : Int32))), (.int (((p1 &&& (2147483647 : Int32)) % (own_p10 ((9 : Int32) - ((p2 &&& (2147483647 : Int32)) % (10 : Int32))))) * (own_p10 ((p2 &&& (2147483647 : Int32)) % (10 : Int32)))))]))
      rw [show ((10 : Int32) - (3 : Int32)) = (7 : Int32) from by decide]
      show own_Fin p.tables e below _ (T21.setTop (mkF m 81 #[.val (.int p1), .val (.int p2), .val (.int ((p2 &&& (2147483647 : Int32)) % (10 : Int32))), .val (.int (((p1 &&& (2147483647 : Int32)) % (own_p10 ((9 : Int32) - ((p2 &&& (2147483647 : Int32)) % (10 : Int32))))) * (own_p10 ((p2 &&& (2147483647 : Int32)) % (10 : Int32))))), .val (.int (3 : Int32))] [(.int (7 : Int32)), (.int (((p1 &&& (2147483647 : Int32)) % (own_p10 ((9 : Int32) - ((p2 &&& (2147483647 : Int32)) % (10 : Int32))))) * (own_p10 ((p2 &&& (2147483647 : Int32)) % (10 : Int32)))))]))
      obtain ⟨_, _, ⟨T24, L24, k24, n24⟩, -, X24, ⟨Lc24, hQ24, l24, y24, z24⟩, st24⟩ := Jvm.LawKit.callS X21 hx (y := (⟨"com/example/ianus/ianus/data/DatetimesFractionDigitsPinLaw", "pow", "(I)I"⟩ : MethodName)) hown (mvT hZ (hw _ (List.mem_of_getElem? (i := 1) rfl))) (mvT hZ (hw _ (List.mem_of_getElem? (i := 2) rfl))) (mvT hZ (hw _ (List.mem_of_getElem? (i := 3) rfl))) (mvT hZ (hw _ (List.mem_of_getElem? (i := 4) rfl))) (by decide) (backOf (W := 1) (own_pow l Z a0 hw [] (7 : Int32) T21.heap n0 Z23 f22_0 (by unfold own_pin; decide)) hZ (hw _ (List.mem_of_getElem? (i := 4) rfl)) (hw _ (List.mem_of_getElem? (i := 3) rfl)) (by decide) (by decide)) (g := (mkF m 81 #[.val (.int p1), .val (.int p2), .val (.int ((p2 &&& (2147483647 : Int32)) % (10 : Int32))), .val (.int (((p1 &&& (2147483647 : Int32)) % (own_p10 ((9 : Int32) - ((p2 &&& (2147483647 : Int32)) % (10 : Int32))))) * (own_p10 ((p2 &&& (2147483647 : Int32)) % (10 : Int32))))), .val (.int (3 : Int32))] [(.int (7 : Int32)), (.int (((p1 &&& (2147483647 : Int32)) % (own_p10 ((9 : Int32) - ((p2 &&& (2147483647 : Int32)) % (10 : Int32))))) * (own_p10 ((p2 &&& (2147483647 : Int32)) % (10 : Int32)))))])) rfl (by rw [hml]; rfl) (argsL := [(.int (7 : Int32))]) (rest := [(.int (((p1 &&& (2147483647 : Int32)) % (own_p10 ((9 : Int32) - ((p2 &&& (2147483647 : Int32)) % (10 : Int32))))) * (own_p10 ((p2 &&& (2147483647 : Int32)) % (10 : Int32)))))]) (lenOf own_pd0 rfl) rfl (by show 2 * 0 + _ ≤ _; exact Nat.le_of_eq rfl) (hb hby at_81) (fun _ _ => ⟨rfl, rfl, (by decide : 3 + 1 ≤ _), (by decide : 30 + 10 ≤ _)⟩)
      dsimp only [Pt.U, Pt.locs, Pt.cells, Pt.slots] at X24 l24 y24 z24 st24 hQ24
      subst l24 y24 z24
      obtain ⟨hv24, N24q, o24_0⟩ := hQ24
      obtain rfl := hv24.trans (by rfl : (some (.int (own_p10 (7 : Int32))) : Option Value) = some (.int (10000000 : Int32)))
      have N24 := Fr.app N21 N24q
      refine own_go st24 ?_
      have f25_0 : Old Z n0 T24.heap := f22_0.keep o24_0 all0
      have Z26 : n0 ≤ T24.heap.size := Nat.le_trans Z23 o24_0.1
      show own_Fin p.tables e below _ (T24.setTop (mkF m 84 #[.val (.int p1), .val (.int p2), .val (.int ((p2 &&& (2147483647 : Int32)) % (10 : Int32))), .val (.int (((p1 &&& (2147483647 : Int32)) % (own_p10 ((9 : Int32) - ((p2 &&& (2147483647 : Int32)) % (10 : Int32))))) * (own_p10 ((p2 &&& (2147483647 : Int32)) % (10 : Int32))))), .val (.int (3 : Int32))] [(.int (10000000 : Int32)), (.int (((p1 &&& (2147483647 : Int32)) % (own_p10 ((9 : Int32) - ((p2 &&& (2147483647 : Int32)) % (10 : Int32))))) * (own_p10 ((p2 &&& (2147483647 : Int32)) % (10 : Int32)))))]))
      refine own_go (fun _ k => iremM X24 hx rfl (hb hby at_84) rfl (by decide) k) ?_
      show own_Fin p.tables e below _ (T24.setTop (mkF m 85 #[.val (.int p1), .val (.int p2), .val (.int ((p2 &&& (2147483647 : Int32)) % (10 : Int32))), .val (.int (((p1 &&& (2147483647 : Int32)) % (own_p10 ((9 : Int32) - ((p2 &&& (2147483647 : Int32)) % (10 : Int32))))) * (own_p10 ((p2 &&& (2147483647 : Int32)) % (10 : Int32))))), .val (.int (3 : Int32))] [(.int ((((p1 &&& (2147483647 : Int32)) % (own_p10 ((9 : Int32) - ((p2 &&& (2147483647 : Int32)) % (10 : Int32))))) * (own_p10 ((p2 &&& (2147483647 : Int32)) % (10 : Int32)))) % (10000000 : Int32)))]))
      refine own_go (fun _ k => XS.ifNo X24.here hx rfl (hb hby at_85) rfl ((if0 _ _).trans (feq hk).1) k) ?_
      show own_Fin p.tables e below _ (T24.setTop (mkF m 88 #[.val (.int p1), .val (.int p2), .val (.int ((p2 &&& (2147483647 : Int32)) % (10 : Int32))), .val (.int (((p1 &&& (2147483647 : Int32)) % (own_p10 ((9 : Int32) - ((p2 &&& (2147483647 : Int32)) % (10 : Int32))))) * (own_p10 ((p2 &&& (2147483647 : Int32)) % (10 : Int32))))), .val (.int (3 : Int32))] []))
      refine own_go (fun _ k => XS.iconst X24.here hx rfl (hb hby at_88) k) ?_
      show own_Fin p.tables e below _ (T24.setTop (mkF m 89 #[.val (.int p1), .val (.int p2), .val (.int ((p2 &&& (2147483647 : Int32)) % (10 : Int32))), .val (.int (((p1 &&& (2147483647 : Int32)) % (own_p10 ((9 : Int32) - ((p2 &&& (2147483647 : Int32)) % (10 : Int32))))) * (own_p10 ((p2 &&& (2147483647 : Int32)) % (10 : Int32))))), .val (.int (3 : Int32))] [(.int (1 : Int32))]))
      refine own_go (fun _ k => XS.goto X24.here hx rfl (pc0 := 89) (pc' := 93) rfl (hb hby at_89) (by decide) (by decide) k) ?_
      show own_Fin p.tables e below _ (T24.setTop (mkF m 93 #[.val (.int p1), .val (.int p2), .val (.int ((p2 &&& (2147483647 : Int32)) % (10 : Int32))), .val (.int (((p1 &&& (2147483647 : Int32)) % (own_p10 ((9 : Int32) - ((p2 &&& (2147483647 : Int32)) % (10 : Int32))))) * (own_p10 ((p2 &&& (2147483647 : Int32)) % (10 : Int32))))), .val (.int (3 : Int32))] [(.int (1 : Int32))]))
      obtain ⟨fs, hr, hrun, hended, hW, hsame⟩ := X24.leave (v := some (.int (1 : Int32))) (fun h => by rw [Bd.returns] at h; cases h)
      refine ⟨_, _, ?_, hrun, hended, _, _, rfl, ?_, ⟨_, rfl⟩, hW, hsame.mono (by decide) (by decide)⟩
      · exact retN X24 hx (t := .boolean) Bd.returns (by simp) (hb hby at_93) hr
      · show Q_own_law Z p1 p2 pt kp h0 n0 _ T24.heap _
        exact ⟨rfl, N24⟩
    · show own_Fin p.tables e below _ (T8.setTop (mkF m 30 #[.val (.int p1), .val (.int p2), .val (.int ((p2 &&& (2147483647 : Int32)) % (10 : Int32))), .val (.int (((p1 &&& (2147483647 : Int32)) % (own_p10 ((9 : Int32) - ((p2 &&& (2147483647 : Int32)) % (10 : Int32))))) * (own_p10 ((p2 &&& (2147483647 : Int32)) % (10 : Int32))))), .unset] [(.int (4 : Int32))]))
      refine own_go (fun _ k => XS.istore X8.here hx rfl (hb hby at_30) rfl (l' := #[.val (.int p1), .val (.int p2), .val (.int ((p2 &&& (2147483647 : Int32)) % (10 : Int32))), .val (.int (((p1 &&& (2147483647 : Int32)) % (own_p10 ((9 : Int32) - ((p2 &&& (2147483647 : Int32)) % (10 : Int32))))) * (own_p10 ((p2 &&& (2147483647 : Int32)) % (10 : Int32))))), .val (.int (4 : Int32))]) rfl k) ?_
      show own_Fin p.tables e below _ (T8.setTop (mkF m 32 #[.val (.int p1), .val (.int p2), .val (.int ((p2 &&& (2147483647 : Int32)) % (10 : Int32))), .val (.int (((p1 &&& (2147483647 : Int32)) % (own_p10 ((9 : Int32) - ((p2 &&& (2147483647 : Int32)) % (10 : Int32))))) * (own_p10 ((p2 &&& (2147483647 : Int32)) % (10 : Int32))))), .val (.int (4 : Int32))] []))
      refine own_go (fun _ k => XS.iloadN X8.here hx rfl (hb hby at_32) rfl k) ?_
      show own_Fin p.tables e below _ (T8.setTop (mkF m 33 #[.val (.int p1), .val (.int p2), .val (.int ((p2 &&& (2147483647 : Int32)) % (10 : Int32))), .val (.int (((p1 &&& (2147483647 : Int32)) % (own_p10 ((9 : Int32) - ((p2 &&& (2147483647 : Int32)) % (10 : Int32))))) * (own_p10 ((p2 &&& (2147483647 : Int32)) % (10 : Int32))))), .val (.int (4 : Int32))] [(.int (((p1 &&& (2147483647 : Int32)) % (own_p10 ((9 : Int32) - ((p2 &&& (2147483647 : Int32)) % (10 : Int32))))) * (own_p10 ((p2 &&& (2147483647 : Int32)) % (10 : Int32)))))]))
      refine own_go (fun _ k => XS.ifYes X8.here hx rfl (pc0 := 33) (pc' := 47) rfl (hb hby at_33) rfl ((if0 _ _).trans (feq hN).2) (by decide) (by decide) k) ?_
      show own_Fin p.tables e below _ (T8.setTop (mkF m 47 #[.val (.int p1), .val (.int p2), .val (.int ((p2 &&& (2147483647 : Int32)) % (10 : Int32))), .val (.int (((p1 &&& (2147483647 : Int32)) % (own_p10 ((9 : Int32) - ((p2 &&& (2147483647 : Int32)) % (10 : Int32))))) * (own_p10 ((p2 &&& (2147483647 : Int32)) % (10 : Int32))))), .val (.int (4 : Int32))] []))
      refine own_go (fun _ k => XS.iload X8.here hx rfl (hb hby at_47) rfl k) ?_
      show own_Fin p.tables e below _ (T8.setTop (mkF m 49 #[.val (.int p1), .val (.int p2), .val (.int ((p2 &&& (2147483647 : Int32)) % (10 : Int32))), .val (.int (((p1 &&& (2147483647 : Int32)) % (own_p10 ((9 : Int32) - ((p2 &&& (2147483647 : Int32)) % (10 : Int32))))) * (own_p10 ((p2 &&& (2147483647 : Int32)) % (10 : Int32))))), .val (.int (4 : Int32))] [(.int (4 : Int32))]))
      refine own_go (fun _ k => XS.iconst X8.here hx rfl (hb hby at_49) k) ?_
      show own_Fin p.tables e below _ (T8.setTop (mkF m 50 #[.val (.int p1), .val (.int p2), .val (.int ((p2 &&& (2147483647 : Int32)) % (10 : Int32))), .val (.int (((p1 &&& (2147483647 : Int32)) % (own_p10 ((9 : Int32) - ((p2 &&& (2147483647 : Int32)) % (10 : Int32))))) * (own_p10 ((p2 &&& (2147483647 : Int32)) % (10 : Int32))))), .val (.int (4 : Int32))] [(.int (1 : Int32)), (.int (4 : Int32))]))
      refine own_go (fun _ k => XS.icmpNo X8.here hx rfl (hb hby at_50) rfl (flt (by decide : ¬ ((4 : Int32) < (1 : Int32)))).1 k) ?_
      show own_Fin p.tables e below _ (T8.setTop (mkF m 53 #[.val (.int p1), .val (.int p2), .val (.int ((p2 &&& (2147483647 : Int32)) % (10 : Int32))), .val (.int (((p1 &&& (2147483647 : Int32)) % (own_p10 ((9 : Int32) - ((p2 &&& (2147483647 : Int32)) % (10 : Int32))))) * (own_p10 ((p2 &&& (2147483647 : Int32)) % (10 : Int32))))), .val (.int (4 : Int32))] []))
      refine own_go (fun _ k => XS.iload X8.here hx rfl (hb hby at_53) rfl k) ?_
      show own_Fin p.tables e below _ (T8.setTop (mkF m 55 #[.val (.int p1), .val (.int p2), .val (.int ((p2 &&& (2147483647 : Int32)) % (10 : Int32))), .val (.int (((p1 &&& (2147483647 : Int32)) % (own_p10 ((9 : Int32) - ((p2 &&& (2147483647 : Int32)) % (10 : Int32))))) * (own_p10 ((p2 &&& (2147483647 : Int32)) % (10 : Int32))))), .val (.int (4 : Int32))] [(.int (4 : Int32))]))
      refine own_go (fun _ k => XS.bipush X8.here hx rfl (hb hby at_55) k) ?_
      show own_Fin p.tables e below _ (T8.setTop (mkF m 57 #[.val (.int p1), .val (.int p2), .val (.int ((p2 &&& (2147483647 : Int32)) % (10 : Int32))), .val (.int (((p1 &&& (2147483647 : Int32)) % (own_p10 ((9 : Int32) - ((p2 &&& (2147483647 : Int32)) % (10 : Int32))))) * (own_p10 ((p2 &&& (2147483647 : Int32)) % (10 : Int32))))), .val (.int (4 : Int32))] [(.int (9 : Int32)), (.int (4 : Int32))]))
      refine own_go (fun _ k => XS.icmpYes X8.here hx rfl (pc0 := 57) (pc' := 62) rfl (hb hby at_57) rfl (flt (by decide : ¬ ((9 : Int32) < (4 : Int32)))).2.2.2 (by decide) (by decide) k) ?_
      show own_Fin p.tables e below _ (T8.setTop (mkF m 62 #[.val (.int p1), .val (.int p2), .val (.int ((p2 &&& (2147483647 : Int32)) % (10 : Int32))), .val (.int (((p1 &&& (2147483647 : Int32)) % (own_p10 ((9 : Int32) - ((p2 &&& (2147483647 : Int32)) % (10 : Int32))))) * (own_p10 ((p2 &&& (2147483647 : Int32)) % (10 : Int32))))), .val (.int (4 : Int32))] []))
      refine own_go (fun _ k => XS.iloadN X8.here hx rfl (hb hby at_62) rfl k) ?_
      show own_Fin p.tables e below _ (T8.setTop (mkF m 63 #[.val (.int p1), .val (.int p2), .val (.int ((p2 &&& (2147483647 : Int32)) % (10 : Int32))), .val (.int (((p1 &&& (2147483647 : Int32)) % (own_p10 ((9 : Int32) - ((p2 &&& (2147483647 : Int32)) % (10 : Int32))))) * (own_p10 ((p2 &&& (2147483647 : Int32)) % (10 : Int32))))), .val (.int (4 : Int32))] [(.int (((p1 &&& (2147483647 : Int32)) % (own_p10 ((9 : Int32) - ((p2 &&& (2147483647 : Int32)) % (10 : Int32))))) * (own_p10 ((p2 &&& (2147483647 : Int32)) % (10 : Int32)))))]))
      refine own_go (fun _ k => XS.bipush X8.here hx rfl (hb hby at_63) k) ?_
      show own_Fin p.tables e below _ (T8.setTop (mkF m 65 #[.val (.int p1), .val (.int p2), .val (.int ((p2 &&& (2147483647 : Int32)) % (10 : Int32))), .val (.int (((p1 &&& (2147483647 : Int32)) % (own_p10 ((9 : Int32) - ((p2 &&& (2147483647 : Int32)) % (10 : Int32))))) * (own_p10 ((p2 &&& (2147483647 : Int32)) % (10 : Int32))))), .val (.int (4 : Int32))] [(.int (9 : Int32)), (.int (((p1 &&& (2147483647 : Int32)) % (own_p10 ((9 : Int32) - ((p2 &&& (2147483647 : Int32)) % (10 : Int32))))) * (own_p10 ((p2 &&& (2147483647 : Int32)) % (10 : Int32)))))]))
      refine own_go (fun _ k => XS.iload X8.here hx rfl (hb hby at_65) rfl k) ?_
      show own_Fin p.tables e below _ (T8.setTop (mkF m 67 #[.val (.int p1), .val (.int p2), .val (.int ((p2 &&& (2147483647 : Int32)) % (10 : Int32))), .val (.int (((p1 &&& (2147483647 : Int32)) % (own_p10 ((9 : Int32) - ((p2 &&& (2147483647 : Int32)) % (10 : Int32))))) * (own_p10 ((p2 &&& (2147483647 : Int32)) % (10 : Int32))))), .val (.int (4 : Int32))] [(.int (4 : Int32)), (.int (9 : Int32)), (.int (((p1 &&& (2147483647 : Int32)) % (own_p10 ((9 : Int32) - ((p2 &&& (2147483647 : Int32)) % (10 : Int32))))) * (own_p10 ((p2 &&& (2147483647 : Int32)) % (10 : Int32)))))]))
      refine own_go (fun _ k => XS.isub X8.here hx rfl (hb hby at_67) rfl k) ?_
      show own_Fin p.tables e below _ (T8.setTop (mkF m 68 #[.val (.int p1), .val (.int p2), .val (.int ((p2 &&& (2147483647 : Int32)) % (10 : Int32))), .val (.int (((p1 &&& (2147483647 : Int32)) % (own_p10 ((9 : Int32) - ((p2 &&& (2147483647 : Int32)) % (10 : Int32))))) * (own_p10 ((p2 &&& (2147483647 : Int32)) % (10 : Int32))))), .val (.int (4 : Int32))] [(.int ((9 : Int32) - (4 : Int32))), (.int (((p1 &&& (2147483647 : Int32)) % (own_p10 ((9 : Int32) - ((p2 &&& (2147483647 : Int32)) % (10 : Int32))))) * (own_p10 ((p2 &&& (2147483647 : Int32)) % (10 : Int32)))))]))
      rw [show ((9 : Int32) - (4 : Int32)) = (5 : Int32) from by decide]
      show own_Fin p.tables e below _ (T8.setTop (mkF m 68 #[.val (.int p1), .val (.int p2), .val (.int ((p2 &&& (2147483647 : Int32)) % (10 : Int32))), .val (.int (((p1 &&& (2147483647 : Int32)) % (own_p10 ((9 : Int32) - ((p2 &&& (2147483647 : Int32)) % (10 : Int32))))) * (own_p10 ((p2 &&& (2147483647 : Int32)) % (10 : Int32))))), .val (.int (4 : Int32))] [(.int (5 : Int32)), (.int (((p1 &&& (2147483647 : Int32)) % (own_p10 ((9 : Int32) - ((p2 &&& (2147483647 : Int32)) % (10 : Int32))))) * (own_p10 ((p2 &&& (2147483647 : Int32)) % (10 : Int32)))))]))
      obtain ⟨_, _, ⟨T27, L27, k27, n27⟩, -, X27, ⟨Lc27, hQ27, l27, y27, z27⟩, st27⟩ := Jvm.LawKit.callS X8 hx (y := (⟨"com/example/ianus/ianus/data/DatetimesFractionDigitsPinLaw", "pow", "(I)I"⟩ : MethodName)) hown (mvT hZ (hw _ (List.mem_of_getElem? (i := 1) rfl))) (mvT hZ (hw _ (List.mem_of_getElem? (i := 2) rfl))) (mvT hZ (hw _ (List.mem_of_getElem? (i := 3) rfl))) (mvT hZ (hw _ (List.mem_of_getElem? (i := 4) rfl))) (by decide) (backOf (W := 1) (own_pow l Z a0 hw [] (5 : Int32) T4.heap n0 Z6 f5_0 (by unfold own_pin; decide)) hZ (hw _ (List.mem_of_getElem? (i := 4) rfl)) (hw _ (List.mem_of_getElem? (i := 3) rfl)) (by decide) (by decide)) (g := (mkF m 68 #[.val (.int p1), .val (.int p2), .val (.int ((p2 &&& (2147483647 : Int32)) % (10 : Int32))), .val (.int (((p1 &&& (2147483647 : Int32)) % (own_p10 ((9 : Int32) - ((p2 &&& (2147483647 : Int32)) % (10 : Int32))))) * (own_p10 ((p2 &&& (2147483647 : Int32)) % (10 : Int32))))), .val (.int (4 : Int32))] [(.int (5 : Int32)), (.int (((p1 &&& (2147483647 : Int32)) % (own_p10 ((9 : Int32) - ((p2 &&& (2147483647 : Int32)) % (10 : Int32))))) * (own_p10 ((p2 &&& (2147483647 : Int32)) % (10 : Int32)))))])) rfl (by rw [hml]; rfl) (argsL := [(.int (5 : Int32))]) (rest := [(.int (((p1 &&& (2147483647 : Int32)) % (own_p10 ((9 : Int32) - ((p2 &&& (2147483647 : Int32)) % (10 : Int32))))) * (own_p10 ((p2 &&& (2147483647 : Int32)) % (10 : Int32)))))]) (lenOf own_pd0 rfl) rfl (by show 2 * 0 + _ ≤ _; exact Nat.le_of_eq rfl) (hb hby at_68) (fun _ _ => ⟨rfl, eh8, (by decide : 2 + 1 ≤ _), (by decide : 20 + 10 ≤ _)⟩)
      dsimp only [Pt.U, Pt.locs, Pt.cells, Pt.slots] at X27 l27 y27 z27 st27 hQ27
      subst l27 y27 z27
      obtain ⟨hv27, N27q, o27_0⟩ := hQ27
      obtain rfl := hv27.trans (by rfl : (some (.int (own_p10 (5 : Int32))) : Option Value) = some (.int (100000 : Int32)))
      have N27 := Fr.app N8 N27q
      refine own_go st27 ?_
      have f28_0 : Old Z n0 T27.heap := f5_0.keep o27_0 all0
      have Z29 : n0 ≤ T27.heap.size := Nat.le_trans Z6 o27_0.1
      show own_Fin p.tables e below _ (T27.setTop (mkF m 71 #[.val (.int p1), .val (.int p2), .val (.int ((p2 &&& (2147483647 : Int32)) % (10 : Int32))), .val (.int (((p1 &&& (2147483647 : Int32)) % (own_p10 ((9 : Int32) - ((p2 &&& (2147483647 : Int32)) % (10 : Int32))))) * (own_p10 ((p2 &&& (2147483647 : Int32)) % (10 : Int32))))), .val (.int (4 : Int32))] [(.int (100000 : Int32)), (.int (((p1 &&& (2147483647 : Int32)) % (own_p10 ((9 : Int32) - ((p2 &&& (2147483647 : Int32)) % (10 : Int32))))) * (own_p10 ((p2 &&& (2147483647 : Int32)) % (10 : Int32)))))]))
      refine own_go (fun _ k => iremM X27 hx rfl (hb hby at_71) rfl (by decide) k) ?_
      show own_Fin p.tables e below _ (T27.setTop (mkF m 72 #[.val (.int p1), .val (.int p2), .val (.int ((p2 &&& (2147483647 : Int32)) % (10 : Int32))), .val (.int (((p1 &&& (2147483647 : Int32)) % (own_p10 ((9 : Int32) - ((p2 &&& (2147483647 : Int32)) % (10 : Int32))))) * (own_p10 ((p2 &&& (2147483647 : Int32)) % (10 : Int32))))), .val (.int (4 : Int32))] [(.int ((((p1 &&& (2147483647 : Int32)) % (own_p10 ((9 : Int32) - ((p2 &&& (2147483647 : Int32)) % (10 : Int32))))) * (own_p10 ((p2 &&& (2147483647 : Int32)) % (10 : Int32)))) % (100000 : Int32)))]))
      refine own_go (fun _ k => XS.ifNo X27.here hx rfl (hb hby at_72) rfl ((if0 _ _).trans (teq hm).2) k) ?_
      show own_Fin p.tables e below _ (T27.setTop (mkF m 75 #[.val (.int p1), .val (.int p2), .val (.int ((p2 &&& (2147483647 : Int32)) % (10 : Int32))), .val (.int (((p1 &&& (2147483647 : Int32)) % (own_p10 ((9 : Int32) - ((p2 &&& (2147483647 : Int32)) % (10 : Int32))))) * (own_p10 ((p2 &&& (2147483647 : Int32)) % (10 : Int32))))), .val (.int (4 : Int32))] []))
      refine own_go (fun _ k => XS.iloadN X27.here hx rfl (hb hby at_75) rfl k) ?_
      show own_Fin p.tables e below _ (T27.setTop (mkF m 76 #[.val (.int p1), .val (.int p2), .val (.int ((p2 &&& (2147483647 : Int32)) % (10 : Int32))), .val (.int (((p1 &&& (2147483647 : Int32)) % (own_p10 ((9 : Int32) - ((p2 &&& (2147483647 : Int32)) % (10 : Int32))))) * (own_p10 ((p2 &&& (2147483647 : Int32)) % (10 : Int32))))), .val (.int (4 : Int32))] [(.int (((p1 &&& (2147483647 : Int32)) % (own_p10 ((9 : Int32) - ((p2 &&& (2147483647 : Int32)) % (10 : Int32))))) * (own_p10 ((p2 &&& (2147483647 : Int32)) % (10 : Int32)))))]))
      refine own_go (fun _ k => XS.bipush X27.here hx rfl (hb hby at_76) k) ?_
      show own_Fin p.tables e below _ (T27.setTop (mkF m 78 #[.val (.int p1), .val (.int p2), .val (.int ((p2 &&& (2147483647 : Int32)) % (10 : Int32))), .val (.int (((p1 &&& (2147483647 : Int32)) % (own_p10 ((9 : Int32) - ((p2 &&& (2147483647 : Int32)) % (10 : Int32))))) * (own_p10 ((p2 &&& (2147483647 : Int32)) % (10 : Int32))))), .val (.int (4 : Int32))] [(.int (10 : Int32)), (.int (((p1 &&& (2147483647 : Int32)) % (own_p10 ((9 : Int32) - ((p2 &&& (2147483647 : Int32)) % (10 : Int32))))) * (own_p10 ((p2 &&& (2147483647 : Int32)) % (10 : Int32)))))]))
      refine own_go (fun _ k => XS.iload X27.here hx rfl (hb hby at_78) rfl k) ?_
      show own_Fin p.tables e below _ (T27.setTop (mkF m 80 #[.val (.int p1), .val (.int p2), .val (.int ((p2 &&& (2147483647 : Int32)) % (10 : Int32))), .val (.int (((p1 &&& (2147483647 : Int32)) % (own_p10 ((9 : Int32) - ((p2 &&& (2147483647 : Int32)) % (10 : Int32))))) * (own_p10 ((p2 &&& (2147483647 : Int32)) % (10 : Int32))))), .val (.int (4 : Int32))] [(.int (4 : Int32)), (.int (10 : Int32)), (.int (((p1 &&& (2147483647 : Int32)) % (own_p10 ((9 : Int32) - ((p2 &&& (2147483647 : Int32)) % (10 : Int32))))) * (own_p10 ((p2 &&& (2147483647 : Int32)) % (10 : Int32)))))]))
      refine own_go (fun _ k => XS.isub X27.here hx rfl (hb hby at_80) rfl k) ?_
      show own_Fin p.tables e below _ (T27.setTop (mkF m 81 #[.val (.int p1), .val (.int p2), .val (.int ((p2 &&& (2147483647 : Int32)) % (10 : Int32))), .val (.int (((p1 &&& (2147483647 : Int32)) % (own_p10 ((9 : Int32) - ((p2 &&& (2147483647 : Int32)) % (10 : Int32))))) * (own_p10 ((p2 &&& (2147483647 : Int32)) % (10 : Int32))))), .val (.int (4 : Int32))] [(.int ((10 : Int32) - (4 : Int32))), (.int (((p1 &&& (2147483647 : Int32)) % (own_p10 ((9 : Int32) - ((p2 &&& (2147483647 : Int32)) % (10 : Int32))))) * (own_p10 ((p2 &&& (2147483647 : Int32)) % (10 : Int32)))))]))
      rw [show ((10 : Int32) - (4 : Int32)) = (6 : Int32) from by decide]
      show own_Fin p.tables e below _ (T27.setTop (mkF m 81 #[.val (.int p1), .val (.int p2), .val (.int ((p2 &&& (2147483647 : Int32)) % (10 : Int32))), .val (.int (((p1 &&& (2147483647 : Int32)) % (own_p10 ((9 : Int32) - ((p2 &&& (2147483647 : Int32)) % (10 : Int32))))) * (own_p10 ((p2 &&& (2147483647 : Int32)) % (10 : Int32))))), .val (.int (4 : Int32))] [(.int (6 : Int32)), (.int (((p1 &&& (2147483647 : Int32)) % (own_p10 ((9 : Int32) - ((p2 &&& (2147483647 : Int32)) % (10 : Int32))))) * (own_p10 ((p2 &&& (2147483647 : Int32)) % (10 : Int32)))))]))
      obtain ⟨_, _, ⟨T30, L30, k30, n30⟩, -, X30, ⟨Lc30, hQ30, l30, y30, z30⟩, st30⟩ := Jvm.LawKit.callS X27 hx (y := (⟨"com/example/ianus/ianus/data/DatetimesFractionDigitsPinLaw", "pow", "(I)I"⟩ : MethodName)) hown (mvT hZ (hw _ (List.mem_of_getElem? (i := 1) rfl))) (mvT hZ (hw _ (List.mem_of_getElem? (i := 2) rfl))) (mvT hZ (hw _ (List.mem_of_getElem? (i := 3) rfl))) (mvT hZ (hw _ (List.mem_of_getElem? (i := 4) rfl))) (by decide) (backOf (W := 1) (own_pow l Z a0 hw [] (6 : Int32) T27.heap n0 Z29 f28_0 (by unfold own_pin; decide)) hZ (hw _ (List.mem_of_getElem? (i := 4) rfl)) (hw _ (List.mem_of_getElem? (i := 3) rfl)) (by decide) (by decide)) (g := (mkF m 81 #[.val (.int p1), .val (.int p2), .val (.int ((p2 &&& (2147483647 : Int32)) % (10 : Int32))), .val (.int (((p1 &&& (2147483647 : Int32)) % (own_p10 ((9 : Int32) - ((p2 &&& (2147483647 : Int32)) % (10 : Int32))))) * (own_p10 ((p2 &&& (2147483647 : Int32)) % (10 : Int32))))), .val (.int (4 : Int32))] [(.int (6 : Int32)), (.int (((p1 &&& (2147483647 : Int32)) % (own_p10 ((9 : Int32) - ((p2 &&& (2147483647 : Int32)) % (10 : Int32))))) * (own_p10 ((p2 &&& (2147483647 : Int32)) % (10 : Int32)))))])) rfl (by rw [hml]; rfl) (argsL := [(.int (6 : Int32))]) (rest := [(.int (((p1 &&& (2147483647 : Int32)) % (own_p10 ((9 : Int32) - ((p2 &&& (2147483647 : Int32)) % (10 : Int32))))) * (own_p10 ((p2 &&& (2147483647 : Int32)) % (10 : Int32)))))]) (lenOf own_pd0 rfl) rfl (by show 2 * 0 + _ ≤ _; exact Nat.le_of_eq rfl) (hb hby at_81) (fun _ _ => ⟨rfl, rfl, (by decide : 3 + 1 ≤ _), (by decide : 30 + 10 ≤ _)⟩)
      dsimp only [Pt.U, Pt.locs, Pt.cells, Pt.slots] at X30 l30 y30 z30 st30 hQ30
      subst l30 y30 z30
      obtain ⟨hv30, N30q, o30_0⟩ := hQ30
      obtain rfl := hv30.trans (by rfl : (some (.int (own_p10 (6 : Int32))) : Option Value) = some (.int (1000000 : Int32)))
      have N30 := Fr.app N27 N30q
      refine own_go st30 ?_
      have f31_0 : Old Z n0 T30.heap := f28_0.keep o30_0 all0
      have Z32 : n0 ≤ T30.heap.size := Nat.le_trans Z29 o30_0.1
      show own_Fin p.tables e below _ (T30.setTop (mkF m 84 #[.val (.int p1), .val (.int p2), .val (.int ((p2 &&& (2147483647 : Int32)) % (10 : Int32))), .val (.int (((p1 &&& (2147483647 : Int32)) % (own_p10 ((9 : Int32) - ((p2 &&& (2147483647 : Int32)) % (10 : Int32))))) * (own_p10 ((p2 &&& (2147483647 : Int32)) % (10 : Int32))))), .val (.int (4 : Int32))] [(.int (1000000 : Int32)), (.int (((p1 &&& (2147483647 : Int32)) % (own_p10 ((9 : Int32) - ((p2 &&& (2147483647 : Int32)) % (10 : Int32))))) * (own_p10 ((p2 &&& (2147483647 : Int32)) % (10 : Int32)))))]))
      refine own_go (fun _ k => iremM X30 hx rfl (hb hby at_84) rfl (by decide) k) ?_
      show own_Fin p.tables e below _ (T30.setTop (mkF m 85 #[.val (.int p1), .val (.int p2), .val (.int ((p2 &&& (2147483647 : Int32)) % (10 : Int32))), .val (.int (((p1 &&& (2147483647 : Int32)) % (own_p10 ((9 : Int32) - ((p2 &&& (2147483647 : Int32)) % (10 : Int32))))) * (own_p10 ((p2 &&& (2147483647 : Int32)) % (10 : Int32))))), .val (.int (4 : Int32))] [(.int ((((p1 &&& (2147483647 : Int32)) % (own_p10 ((9 : Int32) - ((p2 &&& (2147483647 : Int32)) % (10 : Int32))))) * (own_p10 ((p2 &&& (2147483647 : Int32)) % (10 : Int32)))) % (1000000 : Int32)))]))
      refine own_go (fun _ k => XS.ifNo X30.here hx rfl (hb hby at_85) rfl ((if0 _ _).trans (feq hk).1) k) ?_
      show own_Fin p.tables e below _ (T30.setTop (mkF m 88 #[.val (.int p1), .val (.int p2), .val (.int ((p2 &&& (2147483647 : Int32)) % (10 : Int32))), .val (.int (((p1 &&& (2147483647 : Int32)) % (own_p10 ((9 : Int32) - ((p2 &&& (2147483647 : Int32)) % (10 : Int32))))) * (own_p10 ((p2 &&& (2147483647 : Int32)) % (10 : Int32))))), .val (.int (4 : Int32))] []))
      refine own_go (fun _ k => XS.iconst X30.here hx rfl (hb hby at_88) k) ?_
      show own_Fin p.tables e below _ (T30.setTop (mkF m 89 #[.val (.int p1), .val (.int p2), .val (.int ((p2 &&& (2147483647 : Int32)) % (10 : Int32))), .val (.int (((p1 &&& (2147483647 : Int32)) % (own_p10 ((9 : Int32) - ((p2 &&& (2147483647 : Int32)) % (10 : Int32))))) * (own_p10 ((p2 &&& (2147483647 : Int32)) % (10 : Int32))))), .val (.int (4 : Int32))] [(.int (1 : Int32))]))
      refine own_go (fun _ k => XS.goto X30.here hx rfl (pc0 := 89) (pc' := 93) rfl (hb hby at_89) (by decide) (by decide) k) ?_
      show own_Fin p.tables e below _ (T30.setTop (mkF m 93 #[.val (.int p1), .val (.int p2), .val (.int ((p2 &&& (2147483647 : Int32)) % (10 : Int32))), .val (.int (((p1 &&& (2147483647 : Int32)) % (own_p10 ((9 : Int32) - ((p2 &&& (2147483647 : Int32)) % (10 : Int32))))) * (own_p10 ((p2 &&& (2147483647 : Int32)) % (10 : Int32))))), .val (.int (4 : Int32))] [(.int (1 : Int32))]))
      obtain ⟨fs, hr, hrun, hended, hW, hsame⟩ := X30.leave (v := some (.int (1 : Int32))) (fun h => by rw [Bd.returns] at h; cases h)
      refine ⟨_, _, ?_, hrun, hended, _, _, rfl, ?_, ⟨_, rfl⟩, hW, hsame.mono (by decide) (by decide)⟩
      · exact retN X30 hx (t := .boolean) Bd.returns (by simp) (hb hby at_93) hr
      · show Q_own_law Z p1 p2 pt kp h0 n0 _ T30.heap _
        exact ⟨rfl, N30⟩
    · show own_Fin p.tables e below _ (T8.setTop (mkF m 30 #[.val (.int p1), .val (.int p2), .val (.int ((p2 &&& (2147483647 : Int32)) % (10 : Int32))), .val (.int (((p1 &&& (2147483647 : Int32)) % (own_p10 ((9 : Int32) - ((p2 &&& (2147483647 : Int32)) % (10 : Int32))))) * (own_p10 ((p2 &&& (2147483647 : Int32)) % (10 : Int32))))), .unset] [(.int (5 : Int32))]))
      refine own_go (fun _ k => XS.istore X8.here hx rfl (hb hby at_30) rfl (l' := #[.val (.int p1), .val (.int p2), .val (.int ((p2 &&& (2147483647 : Int32)) % (10 : Int32))), .val (.int (((p1 &&& (2147483647 : Int32)) % (own_p10 ((9 : Int32) - ((p2 &&& (2147483647 : Int32)) % (10 : Int32))))) * (own_p10 ((p2 &&& (2147483647 : Int32)) % (10 : Int32))))), .val (.int (5 : Int32))]) rfl k) ?_
      show own_Fin p.tables e below _ (T8.setTop (mkF m 32 #[.val (.int p1), .val (.int p2), .val (.int ((p2 &&& (2147483647 : Int32)) % (10 : Int32))), .val (.int (((p1 &&& (2147483647 : Int32)) % (own_p10 ((9 : Int32) - ((p2 &&& (2147483647 : Int32)) % (10 : Int32))))) * (own_p10 ((p2 &&& (2147483647 : Int32)) % (10 : Int32))))), .val (.int (5 : Int32))] []))
      refine own_go (fun _ k => XS.iloadN X8.here hx rfl (hb hby at_32) rfl k) ?_
      show own_Fin p.tables e below _ (T8.setTop (mkF m 33 #[.val (.int p1), .val (.int p2), .val (.int ((p2 &&& (2147483647 : Int32)) % (10 : Int32))), .val (.int (((p1 &&& (2147483647 : Int32)) % (own_p10 ((9 : Int32) - ((p2 &&& (2147483647 : Int32)) % (10 : Int32))))) * (own_p10 ((p2 &&& (2147483647 : Int32)) % (10 : Int32))))), .val (.int (5 : Int32))] [(.int (((p1 &&& (2147483647 : Int32)) % (own_p10 ((9 : Int32) - ((p2 &&& (2147483647 : Int32)) % (10 : Int32))))) * (own_p10 ((p2 &&& (2147483647 : Int32)) % (10 : Int32)))))]))
      refine own_go (fun _ k => XS.ifYes X8.here hx rfl (pc0 := 33) (pc' := 47) rfl (hb hby at_33) rfl ((if0 _ _).trans (feq hN).2) (by decide) (by decide) k) ?_
      show own_Fin p.tables e below _ (T8.setTop (mkF m 47 #[.val (.int p1), .val (.int p2), .val (.int ((p2 &&& (2147483647 : Int32)) % (10 : Int32))), .val (.int (((p1 &&& (2147483647 : Int32)) % (own_p10 ((9 : Int32) - ((p2 &&& (2147483647 : Int32)) % (10 : Int32))))) * (own_p10 ((p2 &&& (2147483647 : Int32)) % (10 : Int32))))), .val (.int (5 : Int32))] []))
      refine own_go (fun _ k => XS.iload X8.here hx rfl (hb hby at_47) rfl k) ?_
      show own_Fin p.tables e below _ (T8.setTop (mkF m 49 #[.val (.int p1), .val (.int p2), .val (.int ((p2 &&& (2147483647 : Int32)) % (10 : Int32))), .val (.int (((p1 &&& (2147483647 : Int32)) % (own_p10 ((9 : Int32) - ((p2 &&& (2147483647 : Int32)) % (10 : Int32))))) * (own_p10 ((p2 &&& (2147483647 : Int32)) % (10 : Int32))))), .val (.int (5 : Int32))] [(.int (5 : Int32))]))
      refine own_go (fun _ k => XS.iconst X8.here hx rfl (hb hby at_49) k) ?_
      show own_Fin p.tables e below _ (T8.setTop (mkF m 50 #[.val (.int p1), .val (.int p2), .val (.int ((p2 &&& (2147483647 : Int32)) % (10 : Int32))), .val (.int (((p1 &&& (2147483647 : Int32)) % (own_p10 ((9 : Int32) - ((p2 &&& (2147483647 : Int32)) % (10 : Int32))))) * (own_p10 ((p2 &&& (2147483647 : Int32)) % (10 : Int32))))), .val (.int (5 : Int32))] [(.int (1 : Int32)), (.int (5 : Int32))]))
      refine own_go (fun _ k => XS.icmpNo X8.here hx rfl (hb hby at_50) rfl (flt (by decide : ¬ ((5 : Int32) < (1 : Int32)))).1 k) ?_
      show own_Fin p.tables e below _ (T8.setTop (mkF m 53 #[.val (.int p1), .val (.int p2), .val (.int ((p2 &&& (2147483647 : Int32)) % (10 : Int32))), .val (.int (((p1 &&& (2147483647 : Int32)) % (own_p10 ((9 : Int32) - ((p2 &&& (2147483647 : Int32)) % (10 : Int32))))) * (own_p10 ((p2 &&& (2147483647 : Int32)) % (10 : Int32))))), .val (.int (5 : Int32))] []))
      refine own_go (fun _ k => XS.iload X8.here hx rfl (hb hby at_53) rfl k) ?_
      show own_Fin p.tables e below _ (T8.setTop (mkF m 55 #[.val (.int p1), .val (.int p2), .val (.int ((p2 &&& (2147483647 : Int32)) % (10 : Int32))), .val (.int (((p1 &&& (2147483647 : Int32)) % (own_p10 ((9 : Int32) - ((p2 &&& (2147483647 : Int32)) % (10 : Int32))))) * (own_p10 ((p2 &&& (2147483647 : Int32)) % (10 : Int32))))), .val (.int (5 : Int32))] [(.int (5 : Int32))]))
      refine own_go (fun _ k => XS.bipush X8.here hx rfl (hb hby at_55) k) ?_
      show own_Fin p.tables e below _ (T8.setTop (mkF m 57 #[.val (.int p1), .val (.int p2), .val (.int ((p2 &&& (2147483647 : Int32)) % (10 : Int32))), .val (.int (((p1 &&& (2147483647 : Int32)) % (own_p10 ((9 : Int32) - ((p2 &&& (2147483647 : Int32)) % (10 : Int32))))) * (own_p10 ((p2 &&& (2147483647 : Int32)) % (10 : Int32))))), .val (.int (5 : Int32))] [(.int (9 : Int32)), (.int (5 : Int32))]))
      refine own_go (fun _ k => XS.icmpYes X8.here hx rfl (pc0 := 57) (pc' := 62) rfl (hb hby at_57) rfl (flt (by decide : ¬ ((9 : Int32) < (5 : Int32)))).2.2.2 (by decide) (by decide) k) ?_
      show own_Fin p.tables e below _ (T8.setTop (mkF m 62 #[.val (.int p1), .val (.int p2), .val (.int ((p2 &&& (2147483647 : Int32)) % (10 : Int32))), .val (.int (((p1 &&& (2147483647 : Int32)) % (own_p10 ((9 : Int32) - ((p2 &&& (2147483647 : Int32)) % (10 : Int32))))) * (own_p10 ((p2 &&& (2147483647 : Int32)) % (10 : Int32))))), .val (.int (5 : Int32))] []))
      refine own_go (fun _ k => XS.iloadN X8.here hx rfl (hb hby at_62) rfl k) ?_
      show own_Fin p.tables e below _ (T8.setTop (mkF m 63 #[.val (.int p1), .val (.int p2), .val (.int ((p2 &&& (2147483647 : Int32)) % (10 : Int32))), .val (.int (((p1 &&& (2147483647 : Int32)) % (own_p10 ((9 : Int32) - ((p2 &&& (2147483647 : Int32)) % (10 : Int32))))) * (own_p10 ((p2 &&& (2147483647 : Int32)) % (10 : Int32))))), .val (.int (5 : Int32))] [(.int (((p1 &&& (2147483647 : Int32)) % (own_p10 ((9 : Int32) - ((p2 &&& (2147483647 : Int32)) % (10 : Int32))))) * (own_p10 ((p2 &&& (2147483647 : Int32)) % (10 : Int32)))))]))
      refine own_go (fun _ k => XS.bipush X8.here hx rfl (hb hby at_63) k) ?_
      show own_Fin p.tables e below _ (T8.setTop (mkF m 65 #[.val (.int p1), .val (.int p2), .val (.int ((p2 &&& (2147483647 : Int32)) % (10 : Int32))), .val (.int (((p1 &&& (2147483647 : Int32)) % (own_p10 ((9 : Int32) - ((p2 &&& (2147483647 : Int32)) % (10 : Int32))))) * (own_p10 ((p2 &&& (2147483647 : Int32)) % (10 : Int32))))), .val (.int (5 : Int32))] [(.int (9 : Int32)), (.int (((p1 &&& (2147483647 : Int32)) % (own_p10 ((9 : Int32) - ((p2 &&& (2147483647 : Int32)) % (10 : Int32))))) * (own_p10 ((p2 &&& (2147483647 : Int32)) % (10 : Int32)))))]))
      refine own_go (fun _ k => XS.iload X8.here hx rfl (hb hby at_65) rfl k) ?_
      show own_Fin p.tables e below _ (T8.setTop (mkF m 67 #[.val (.int p1), .val (.int p2), .val (.int ((p2 &&& (2147483647 : Int32)) % (10 : Int32))), .val (.int (((p1 &&& (2147483647 : Int32)) % (own_p10 ((9 : Int32) - ((p2 &&& (2147483647 : Int32)) % (10 : Int32))))) * (own_p10 ((p2 &&& (2147483647 : Int32)) % (10 : Int32))))), .val (.int (5 : Int32))] [(.int (5 : Int32)), (.int (9 : Int32)), (.int (((p1 &&& (2147483647 : Int32)) % (own_p10 ((9 : Int32) - ((p2 &&& (2147483647 : Int32)) % (10 : Int32))))) * (own_p10 ((p2 &&& (2147483647 : Int32)) % (10 : Int32)))))]))
      refine own_go (fun _ k => XS.isub X8.here hx rfl (hb hby at_67) rfl k) ?_
      show own_Fin p.tables e below _ (T8.setTop (mkF m 68 #[.val (.int p1), .val (.int p2), .val (.int ((p2 &&& (2147483647 : Int32)) % (10 : Int32))), .val (.int (((p1 &&& (2147483647 : Int32)) % (own_p10 ((9 : Int32) - ((p2 &&& (2147483647 : Int32)) % (10 : Int32))))) * (own_p10 ((p2 &&& (2147483647 : Int32)) % (10 : Int32))))), .val (.int (5 : Int32))] [(.int ((9 : Int32) - (5 : Int32))), (.int (((p1 &&& (2147483647 : Int32)) % (own_p10 ((9 : Int32) - ((p2 &&& (2147483647 : Int32)) % (10 : Int32))))) * (own_p10 ((p2 &&& (2147483647 : Int32)) % (10 : Int32)))))]))
      rw [show ((9 : Int32) - (5 : Int32)) = (4 : Int32) from by decide]
      show own_Fin p.tables e below _ (T8.setTop (mkF m 68 #[.val (.int p1), .val (.int p2), .val (.int ((p2 &&& (2147483647 : Int32)) % (10 : Int32))), .val (.int (((p1 &&& (2147483647 : Int32)) % (own_p10 ((9 : Int32) - ((p2 &&& (2147483647 : Int32)) % (10 : Int32))))) * (own_p10 ((p2 &&& (2147483647 : Int32)) % (10 : Int32))))), .val (.int (5 : Int32))] [(.int (4 : Int32)), (.int (((p1 &&& (2147483647 : Int32)) % (own_p10 ((9 : Int32) - ((p2 &&& (2147483647 : Int32)) % (10 : Int32))))) * (own_p10 ((p2 &&& (2147483647 : Int32)) % (10 : Int32)))))]))
      obtain ⟨_, _, ⟨T33, L33, k33, n33⟩, -, X33, ⟨Lc33, hQ33, l33, y33, z33⟩, st33⟩ := Jvm.LawKit.callS X8 hx (y := (⟨"com/example/ianus/ianus/data/DatetimesFractionDigitsPinLaw", "pow", "(I)I"⟩ : MethodName)) hown (mvT hZ (hw _ (List.mem_of_getElem? (i := 1) rfl))) (mvT hZ (hw _ (List.mem_of_getElem? (i := 2) rfl))) (mvT hZ (hw _ (List.mem_of_getElem? (i := 3) rfl))) (mvT hZ (hw _ (List.mem_of_getElem? (i := 4) rfl))) (by decide) (backOf (W := 1) (own_pow l Z a0 hw [] (4 : Int32) T4.heap n0 Z6 f5_0 (by unfold own_pin; decide)) hZ (hw _ (List.mem_of_getElem? (i := 4) rfl)) (hw _ (List.mem_of_getElem? (i := 3) rfl)) (by decide) (by decide)) (g := (mkF m 68 #[.val (.int p1), .val (.int p2), .val (.int ((p2 &&& (2147483647 : Int32)) % (10 : Int32))), .val (.int (((p1 &&& (2147483647 : Int32)) % (own_p10 ((9 : Int32) - ((p2 &&& (2147483647 : Int32)) % (10 : Int32))))) * (own_p10 ((p2 &&& (2147483647 : Int32)) % (10 : Int32))))), .val (.int (5 : Int32))] [(.int (4 : Int32)), (.int (((p1 &&& (2147483647 : Int32)) % (own_p10 ((9 : Int32) - ((p2 &&& (2147483647 : Int32)) % (10 : Int32))))) * (own_p10 ((p2 &&& (2147483647 : Int32)) % (10 : Int32)))))])) rfl (by rw [hml]; rfl) (argsL := [(.int (4 : Int32))]) (rest := [(.int (((p1 &&& (2147483647 : Int32)) % (own_p10 ((9 : Int32) - ((p2 &&& (2147483647 : Int32)) % (10 : Int32))))) * (own_p10 ((p2 &&& (2147483647 : Int32)) % (10 : Int32)))))]) (lenOf own_pd0 rfl) rfl (by show 2 * 0 + _ ≤ _; exact Nat.le_of_eq rfl) (hb hby at_68) (fun _ _ => ⟨rfl, eh8, (by decide : 2 + 1 ≤ _), (by decide : 20 + 10 ≤ _)⟩)
      dsimp only [Pt.U, Pt.locs, Pt.cells, Pt.slots] at X33 l33 y33 z33 st33 hQ33
      subst l33 y33 z33
      obtain ⟨hv33, N33q, o33_0⟩ := hQ33
      obtain rfl := hv33.trans (by rfl : (some (.int (own_p10 (4 : Int32))) : Option Value) = some (.int (10000 : Int32)))
      have N33 := Fr.app N8 N33q
      refine own_go st33 ?_
      have f34_0 : Old Z n0 T33.heap := f5_0.keep o33_0 all0
      have Z35 : n0 ≤ T33.heap.size := Nat.le_trans Z6 o33_0.1
      show own_Fin p.tables e below _ (T33.setTop (mkF m 71 #[.val (.int p1), .val (.int p2), .val (.int ((p2 &&& (2147483647 : Int32)) % (10 : Int32))), .val (.int (((p1 &&& (2147483647 : Int32)) % (own_p10 ((9 : Int32) - ((p2 &&& (2147483647 : Int32)) % (10 : Int32))))) * (own_p10 ((p2 &&& (2147483647 : Int32)) % (10 : Int32))))), .val (.int (5 : Int32))] [(.int (10000 : Int32)), (.int (((p1 &&& (2147483647 : Int32)) % (own_p10 ((9 : Int32) - ((p2 &&& (2147483647 : Int32)) % (10 : Int32))))) * (own_p10 ((p2 &&& (2147483647 : Int32)) % (10 : Int32)))))]))
      refine own_go (fun _ k => iremM X33 hx rfl (hb hby at_71) rfl (by decide) k) ?_
      show own_Fin p.tables e below _ (T33.setTop (mkF m 72 #[.val (.int p1), .val (.int p2), .val (.int ((p2 &&& (2147483647 : Int32)) % (10 : Int32))), .val (.int (((p1 &&& (2147483647 : Int32)) % (own_p10 ((9 : Int32) - ((p2 &&& (2147483647 : Int32)) % (10 : Int32))))) * (own_p10 ((p2 &&& (2147483647 : Int32)) % (10 : Int32))))), .val (.int (5 : Int32))] [(.int ((((p1 &&& (2147483647 : Int32)) % (own_p10 ((9 : Int32) - ((p2 &&& (2147483647 : Int32)) % (10 : Int32))))) * (own_p10 ((p2 &&& (2147483647 : Int32)) % (10 : Int32)))) % (10000 : Int32)))]))
      refine own_go (fun _ k => XS.ifNo X33.here hx rfl (hb hby at_72) rfl ((if0 _ _).trans (teq hm).2) k) ?_
      show own_Fin p.tables e below _ (T33.setTop (mkF m 75 #[.val (.int p1), .val (.int p2), .val (.int ((p2 &&& (2147483647 : Int32)) % (10 : Int32))), .val (.int (((p1 &&& (2147483647 : Int32)) % (own_p10 ((9 : Int32) - ((p2 &&& (2147483647 : Int32)) % (10 : Int32))))) * (own_p10 ((p2 &&& (2147483647 : Int32)) % (10 : Int32))))), .val (.int (5 : Int32))] []))
      refine own_go (fun _ k => XS.iloadN X33.here hx rfl (hb hby at_75) rfl k) ?_
      show own_Fin p.tables e below _ (T33.setTop (mkF m 76 #[.val (.int p1), .val (.int p2), .val (.int ((p2 &&& (2147483647 : Int32)) % (10 : Int32))), .val (.int (((p1 &&& (2147483647 : Int32)) % (own_p10 ((9 : Int32) - ((p2 &&& (2147483647 : Int32)) % (10 : Int32))))) * (own_p10 ((p2 &&& (2147483647 : Int32)) % (10 : Int32))))), .val (.int (5 : Int32))] [(.int (((p1 &&& (2147483647 : Int32)) % (own_p10 ((9 : Int32) - ((p2 &&& (2147483647 : Int32)) % (10 : Int32))))) * (own_p10 ((p2 &&& (2147483647 : Int32)) % (10 : Int32)))))]))
      refine own_go (fun _ k => XS.bipush X33.here hx rfl (hb hby at_76) k) ?_
      show own_Fin p.tables e below _ (T33.setTop (mkF m 78 #[.val (.int p1), .val (.int p2), .val (.int ((p2 &&& (2147483647 : Int32)) % (10 : Int32))), .val (.int (((p1 &&& (2147483647 : Int32)) % (own_p10 ((9 : Int32) - ((p2 &&& (2147483647 : Int32)) % (10 : Int32))))) * (own_p10 ((p2 &&& (2147483647 : Int32)) % (10 : Int32))))), .val (.int (5 : Int32))] [(.int (10 : Int32)), (.int (((p1 &&& (2147483647 : Int32)) % (own_p10 ((9 : Int32) - ((p2 &&& (2147483647 : Int32)) % (10 : Int32))))) * (own_p10 ((p2 &&& (2147483647 : Int32)) % (10 : Int32)))))]))
      refine own_go (fun _ k => XS.iload X33.here hx rfl (hb hby at_78) rfl k) ?_
      show own_Fin p.tables e below _ (T33.setTop (mkF m 80 #[.val (.int p1), .val (.int p2), .val (.int ((p2 &&& (2147483647 : Int32)) % (10 : Int32))), .val (.int (((p1 &&& (2147483647 : Int32)) % (own_p10 ((9 : Int32) - ((p2 &&& (2147483647 : Int32)) % (10 : Int32))))) * (own_p10 ((p2 &&& (2147483647 : Int32)) % (10 : Int32))))), .val (.int (5 : Int32))] [(.int (5 : Int32)), (.int (10 : Int32)), (.int (((p1 &&& (2147483647 : Int32)) % (own_p10 ((9 : Int32) - ((p2 &&& (2147483647 : Int32)) % (10 : Int32))))) * (own_p10 ((p2 &&& (2147483647 : Int32)) % (10 : Int32)))))]))
      refine own_go (fun _ k => XS.isub X33.here hx rfl (hb hby at_80) rfl k) ?_
      show own_Fin p.tables e below _ (T33.setTop (mkF m 81 #[.val (.int p1), .val (.int p2), .val (.int ((p2 &&& (2147483647 : Int32)) % (10 : Int32))), .val (.int (((p1 &&& (2147483647 : Int32)) % (own_p10 ((9 : Int32) - ((p2 &&& (2147483647 : Int32)) % (10 : Int32))))) * (own_p10 ((p2 &&& (2147483647 : Int32)) % (10 : Int32))))), .val (.int (5 : Int32))] [(.int ((10 : Int32) - (5 : Int32))), (.int (((p1 &&& (2147483647 : Int32)) % (own_p10 ((9 : Int32) - ((p2 &&& (2147483647 : Int32)) % (10 : Int32))))) * (own_p10 ((p2 &&& (2147483647 : Int32)) % (10 : Int32)))))]))
      rw [show ((10 : Int32) - (5 : Int32)) = (5 : Int32) from by decide]
      show own_Fin p.tables e below _ (T33.setTop (mkF m 81 #[.val (.int p1), .val (.int p2), .val (.int ((p2 &&& (2147483647 : Int32)) % (10 : Int32))), .val (.int (((p1 &&& (2147483647 : Int32)) % (own_p10 ((9 : Int32) - ((p2 &&& (2147483647 : Int32)) % (10 : Int32))))) * (own_p10 ((p2 &&& (2147483647 : Int32)) % (10 : Int32))))), .val (.int (5 : Int32))] [(.int (5 : Int32)), (.int (((p1 &&& (2147483647 : Int32)) % (own_p10 ((9 : Int32) - ((p2 &&& (2147483647 : Int32)) % (10 : Int32))))) * (own_p10 ((p2 &&& (2147483647 : Int32)) % (10 : Int32)))))]))
      obtain ⟨_, _, ⟨T36, L36, k36, n36⟩, -, X36, ⟨Lc36, hQ36, l36, y36, z36⟩, st36⟩ := Jvm.LawKit.callS X33 hx (y := (⟨"com/example/ianus/ianus/data/DatetimesFractionDigitsPinLaw", "pow", "(I)I"⟩ : MethodName)) hown (mvT hZ (hw _ (List.mem_of_getElem? (i := 1) rfl))) (mvT hZ (hw _ (List.mem_of_getElem? (i := 2) rfl))) (mvT hZ (hw _ (List.mem_of_getElem? (i := 3) rfl))) (mvT hZ (hw _ (List.mem_of_getElem? (i := 4) rfl))) (by decide) (backOf (W := 1) (own_pow l Z a0 hw [] (5 : Int32) T33.heap n0 Z35 f34_0 (by unfold own_pin; decide)) hZ (hw _ (List.mem_of_getElem? (i := 4) rfl)) (hw _ (List.mem_of_getElem? (i := 3) rfl)) (by decide) (by decide)) (g := (mkF m 81 #[.val (.int p1), .val (.int p2), .val (.int ((p2 &&& (2147483647 : Int32)) % (10 : Int32))), .val (.int (((p1 &&& (2147483647 : Int32)) % (own_p10 ((9 : Int32) - ((p2 &&& (2147483647 : Int32)) % (10 : Int32))))) * (own_p10 ((p2 &&& (2147483647 : Int32)) % (10 : Int32))))), .val (.int (5 : Int32))] [(.int (5 : Int32)), (.int (((p1 &&& (2147483647 : Int32)) % (own_p10 ((9 : Int32) - ((p2 &&& (2147483647 : Int32)) % (10 : Int32))))) * (own_p10 ((p2 &&& (2147483647 : Int32)) % (10 : Int32)))))])) rfl (by rw [hml]; rfl) (argsL := [(.int (5 : Int32))]) (rest := [(.int (((p1 &&& (2147483647 : Int32)) % (own_p10 ((9 : Int32) - ((p2 &&& (2147483647 : Int32)) % (10 : Int32))))) * (own_p10 ((p2 &&& (2147483647 : Int32)) % (10 : Int32)))))]) (lenOf own_pd0 rfl) rfl (by show 2 * 0 + _ ≤ _; exact Nat.le_of_eq rfl) (hb hby at_81) (fun _ _ => ⟨rfl, rfl, (by decide : 3 + 1 ≤ _), (by decide : 30 + 10 ≤ _)⟩)
      dsimp only [Pt.U, Pt.locs, Pt.cells, Pt.slots] at X36 l36 y36 z36 st36 hQ36
      subst l36 y36 z36
      obtain ⟨hv36, N36q, o36_0⟩ := hQ36
      obtain rfl := hv36.trans (by rfl : (some (.int (own_p10 (5 : Int32))) : Option Value) = some (.int (100000 : Int32)))
      have N36 := Fr.app N33 N36q
      refine own_go st36 ?_
      have f37_0 : Old Z n0 T36.heap := f34_0.keep o36_0 all0
      have Z38 : n0 ≤ T36.heap.size := Nat.le_trans Z35 o36_0.1
      show own_Fin p.tables e below _ (T36.setTop (mkF m 84 #[.val (.int p1), .val (.int p2), .val (.int ((p2 &&& (2147483647 : Int32)) % (10 : Int32))), .val (.int (((p1 &&& (2147483647 : Int32)) % (own_p10 ((9 : Int32) - ((p2 &&& (2147483647 : Int32)) % (10 : Int32))))) * (own_p10 ((p2 &&& (2147483647 : Int32)) % (10 : Int32))))), .val (.int (5 : Int32))] [(.int (100000 : Int32)), (.int (((p1 &&& (2147483647 : Int32)) % (own_p10 ((9 : Int32) - ((p2 &&& (2147483647 : Int32)) % (10 : Int32))))) * (own_p10 ((p2 &&& (2147483647 : Int32)) % (10 : Int32)))))]))
      refine own_go (fun _ k => iremM X36 hx rfl (hb hby at_84) rfl (by decide) k) ?_
      show own_Fin p.tables e below _ (T36.setTop (mkF m 85 #[.val (.int p1), .val (.int p2), .val (.int ((p2 &&& (2147483647 : Int32)) % (10 : Int32))), .val (.int (((p1 &&& (2147483647 : Int32)) % (own_p10 ((9 : Int32) - ((p2 &&& (2147483647 : Int32)) % (10 : Int32))))) * (own_p10 ((p2 &&& (2147483647 : Int32)) % (10 : Int32))))), .val (.int (5 : Int32))] [(.int ((((p1 &&& (2147483647 : Int32)) % (own_p10 ((9 : Int32) - ((p2 &&& (2147483647 : Int32)) % (10 : Int32))))) * (own_p10 ((p2 &&& (2147483647 : Int32)) % (10 : Int32)))) % (100000 : Int32)))]))
      refine own_go (fun _ k => XS.ifNo X36.here hx rfl (hb hby at_85) rfl ((if0 _ _).trans (feq hk).1) k) ?_
      show own_Fin p.tables e below _ (T36.setTop (mkF m 88 #[.val (.int p1), .val (.int p2), .val (.int ((p2 &&& (2147483647 : Int32)) % (10 : Int32))), .val (.int (((p1 &&& (2147483647 : Int32)) % (own_p10 ((9 : Int32) - ((p2 &&& (2147483647 : Int32)) % (10 : Int32))))) * (own_p10 ((p2 &&& (2147483647 : Int32)) % (10 : Int32))))), .val (.int (5 : Int32))] []))
      refine own_go (fun _ k => XS.iconst X36.here hx rfl (hb hby at_88) k) ?_
      show own_Fin p.tables e below _ (T36.setTop (mkF m 89 #[.val (.int p1), .val (.int p2), .val (.int ((p2 &&& (2147483647 : Int32)) % (10 : Int32))), .val (.int (((p1 &&& (2147483647 : Int32)) % (own_p10 ((9 : Int32) - ((p2 &&& (2147483647 : Int32)) % (10 : Int32))))) * (own_p10 ((p2 &&& (2147483647 : Int32)) % (10 : Int32))))), .val (.int (5 : Int32))] [(.int (1 : Int32))]))
      refine own_go (fun _ k => XS.goto X36.here hx rfl (pc0 := 89) (pc' := 93) rfl (hb hby at_89) (by decide) (by decide) k) ?_
      show own_Fin p.tables e below _ (T36.setTop (mkF m 93 #[.val (.int p1), .val (.int p2), .val (.int ((p2 &&& (2147483647 : Int32)) % (10 : Int32))), .val (.int (((p1 &&& (2147483647 : Int32)) % (own_p10 ((9 : Int32) - ((p2 &&& (2147483647 : Int32)) % (10 : Int32))))) * (own_p10 ((p2 &&& (2147483647 : Int32)) % (10 : Int32))))), .val (.int (5 : Int32))] [(.int (1 : Int32))]))
      obtain ⟨fs, hr, hrun, hended, hW, hsame⟩ := X36.leave (v := some (.int (1 : Int32))) (fun h => by rw [Bd.returns] at h; cases h)
      refine ⟨_, _, ?_, hrun, hended, _, _, rfl, ?_, ⟨_, rfl⟩, hW, hsame.mono (by decide) (by decide)⟩
      · exact retN X36 hx (t := .boolean) Bd.returns (by simp) (hb hby at_93) hr
      · show Q_own_law Z p1 p2 pt kp h0 n0 _ T36.heap _
        exact ⟨rfl, N36⟩
    · show own_Fin p.tables e below _ (T8.setTop (mkF m 30 #[.val (.int p1), .val (.int p2), .val (.int ((p2 &&& (2147483647 : Int32)) % (10 : Int32))), .val (.int (((p1 &&& (2147483647 : Int32)) % (own_p10 ((9 : Int32) - ((p2 &&& (2147483647 : Int32)) % (10 : Int32))))) * (own_p10 ((p2 &&& (2147483647 : Int32)) % (10 : Int32))))), .unset] [(.int (6 : Int32))]))
      refine own_go (fun _ k => XS.istore X8.here hx rfl (hb hby at_30) rfl (l' := #[.val (.int p1), .val (.int p2), .val (.int ((p2 &&& (2147483647 : Int32)) % (10 : Int32))), .val (.int (((p1 &&& (2147483647 : Int32)) % (own_p10 ((9 : Int32) - ((p2 &&& (2147483647 : Int32)) % (10 : Int32))))) * (own_p10 ((p2 &&& (2147483647 : Int32)) % (10 : Int32))))), .val (.int (6 : Int32))]) rfl k) ?_
      show own_Fin p.tables e below _ (T8.setTop (mkF m 32 #[.val (.int p1), .val (.int p2), .val (.int ((p2 &&& (2147483647 : Int32)) % (10 : Int32))), .val (.int (((p1 &&& (2147483647 : Int32)) % (own_p10 ((9 : Int32) - ((p2 &&& (2147483647 : Int32)) % (10 : Int32))))) * (own_p10 ((p2 &&& (2147483647 : Int32)) % (10 : Int32))))), .val (.int (6 : Int32))] []))
      refine own_go (fun _ k => XS.iloadN X8.here hx rfl (hb hby at_32) rfl k) ?_
      show own_Fin p.tables e below _ (T8.setTop (mkF m 33 #[.val (.int p1), .val (.int p2), .val (.int ((p2 &&& (2147483647 : Int32)) % (10 : Int32))), .val (.int (((p1 &&& (2147483647 : Int32)) % (own_p10 ((9 : Int32) - ((p2 &&& (2147483647 : Int32)) % (10 : Int32))))) * (own_p10 ((p2 &&& (2147483647 : Int32)) % (10 : Int32))))), .val (.int (6 : Int32))] [(.int (((p1 &&& (2147483647 : Int32)) % (own_p10 ((9 : Int32) - ((p2 &&& (2147483647 : Int32)) % (10 : Int32))))) * (own_p10 ((p2 &&& (2147483647 : Int32)) % (10 : Int32)))))]))
      refine own_go (fun _ k => XS.ifYes X8.here hx rfl (pc0 := 33) (pc' := 47) rfl (hb hby at_33) rfl ((if0 _ _).trans (feq hN).2) (by decide) (by decide) k) ?_
      show own_Fin p.tables e below _ (T8.setTop (mkF m 47 #[.val (.int p1), .val (.int p2), .val (.int ((p2 &&& (2147483647 : Int32)) % (10 : Int32))), .val (.int (((p1 &&& (2147483647 : Int32)) % (own_p10 ((9 : Int32) - ((p2 &&& (2147483647 : Int32)) % (10 : Int32))))) * (own_p10 ((p2 &&& (2147483647 : Int32)) % (10 : Int32))))), .val (.int (6 : Int32))] []))
      refine own_go (fun _ k => XS.iload X8.here hx rfl (hb hby at_47) rfl k) ?_
      show own_Fin p.tables e below _ (T8.setTop (mkF m 49 #[.val (.int p1), .val (.int p2), .val (.int ((p2 &&& (2147483647 : Int32)) % (10 : Int32))), .val (.int (((p1 &&& (2147483647 : Int32)) % (own_p10 ((9 : Int32) - ((p2 &&& (2147483647 : Int32)) % (10 : Int32))))) * (own_p10 ((p2 &&& (2147483647 : Int32)) % (10 : Int32))))), .val (.int (6 : Int32))] [(.int (6 : Int32))]))
      refine own_go (fun _ k => XS.iconst X8.here hx rfl (hb hby at_49) k) ?_
      show own_Fin p.tables e below _ (T8.setTop (mkF m 50 #[.val (.int p1), .val (.int p2), .val (.int ((p2 &&& (2147483647 : Int32)) % (10 : Int32))), .val (.int (((p1 &&& (2147483647 : Int32)) % (own_p10 ((9 : Int32) - ((p2 &&& (2147483647 : Int32)) % (10 : Int32))))) * (own_p10 ((p2 &&& (2147483647 : Int32)) % (10 : Int32))))), .val (.int (6 : Int32))] [(.int (1 : Int32)), (.int (6 : Int32))]))
      refine own_go (fun _ k => XS.icmpNo X8.here hx rfl (hb hby at_50) rfl (flt (by decide : ¬ ((6 : Int32) < (1 : Int32)))).1 k) ?_
      show own_Fin p.tables e below _ (T8.setTop (mkF m 53 #[.val (.int p1), .val (.int p2), .val (.int ((p2 &&& (2147483647 : Int32)) % (10 : Int32))), .val (.int (((p1 &&& (2147483647 : Int32)) % (own_p10 ((9 : Int32) - ((p2 &&& (2147483647 : Int32)) % (10 : Int32))))) * (own_p10 ((p2 &&& (2147483647 : Int32)) % (10 : Int32))))), .val (.int (6 : Int32))] []))
      refine own_go (fun _ k => XS.iload X8.here hx rfl (hb hby at_53) rfl k) ?_
      show own_Fin p.tables e below _ (T8.setTop (mkF m 55 #[.val (.int p1), .val (.int p2), .val (.int ((p2 &&& (2147483647 : Int32)) % (10 : Int32))), .val (.int (((p1 &&& (2147483647 : Int32)) % (own_p10 ((9 : Int32) - ((p2 &&& (2147483647 : Int32)) % (10 : Int32))))) * (own_p10 ((p2 &&& (2147483647 : Int32)) % (10 : Int32))))), .val (.int (6 : Int32))] [(.int (6 : Int32))]))
      refine own_go (fun _ k => XS.bipush X8.here hx rfl (hb hby at_55) k) ?_
      show own_Fin p.tables e below _ (T8.setTop (mkF m 57 #[.val (.int p1), .val (.int p2), .val (.int ((p2 &&& (2147483647 : Int32)) % (10 : Int32))), .val (.int (((p1 &&& (2147483647 : Int32)) % (own_p10 ((9 : Int32) - ((p2 &&& (2147483647 : Int32)) % (10 : Int32))))) * (own_p10 ((p2 &&& (2147483647 : Int32)) % (10 : Int32))))), .val (.int (6 : Int32))] [(.int (9 : Int32)), (.int (6 : Int32))]))
      refine own_go (fun _ k => XS.icmpYes X8.here hx rfl (pc0 := 57) (pc' := 62) rfl (hb hby at_57) rfl (flt (by decide : ¬ ((9 : Int32) < (6 : Int32)))).2.2.2 (by decide) (by decide) k) ?_
      show own_Fin p.tables e below _ (T8.setTop (mkF m 62 #[.val (.int p1), .val (.int p2), .val (.int ((p2 &&& (2147483647 : Int32)) % (10 : Int32))), .val (.int (((p1 &&& (2147483647 : Int32)) % (own_p10 ((9 : Int32) - ((p2 &&& (2147483647 : Int32)) % (10 : Int32))))) * (own_p10 ((p2 &&& (2147483647 : Int32)) % (10 : Int32))))), .val (.int (6 : Int32))] []))
      refine own_go (fun _ k => XS.iloadN X8.here hx rfl (hb hby at_62) rfl k) ?_
      show own_Fin p.tables e below _ (T8.setTop (mkF m 63 #[.val (.int p1), .val (.int p2), .val (.int ((p2 &&& (2147483647 : Int32)) % (10 : Int32))), .val (.int (((p1 &&& (2147483647 : Int32)) % (own_p10 ((9 : Int32) - ((p2 &&& (2147483647 : Int32)) % (10 : Int32))))) * (own_p10 ((p2 &&& (2147483647 : Int32)) % (10 : Int32))))), .val (.int (6 : Int32))] [(.int (((p1 &&& (2147483647 : Int32)) % (own_p10 ((9 : Int32) - ((p2 &&& (2147483647 : Int32)) % (10 : Int32))))) * (own_p10 ((p2 &&& (2147483647 : Int32)) % (10 : Int32)))))]))
      refine own_go (fun _ k => XS.bipush X8.here hx rfl (hb hby at_63) k) ?_
      show own_Fin p.tables e below _ (T8.setTop (mkF m 65 #[.val (.int p1), .val (.int p2), .val (.int ((p2 &&& (2147483647 : Int32)) % (10 : Int32))), .val (.int (((p1 &&& (2147483647 : Int32)) % (own_p10 ((9 : Int32) - ((p2 &&& (2147483647 : Int32)) % (10 : Int32))))) * (own_p10 ((p2 &&& (2147483647 : Int32)) % (10 : Int32))))), .val (.int (6 : Int32))] [(.int (9 : Int32)), (.int (((p1 &&& (2147483647 : Int32)) % (own_p10 ((9 : Int32) - ((p2 &&& (2147483647 : Int32)) % (10 : Int32))))) * (own_p10 ((p2 &&& (2147483647 : Int32)) % (10 : Int32)))))]))
      refine own_go (fun _ k => XS.iload X8.here hx rfl (hb hby at_65) rfl k) ?_
      show own_Fin p.tables e below _ (T8.setTop (mkF m 67 #[.val (.int p1), .val (.int p2), .val (.int ((p2 &&& (2147483647 : Int32)) % (10 : Int32))), .val (.int (((p1 &&& (2147483647 : Int32)) % (own_p10 ((9 : Int32) - ((p2 &&& (2147483647 : Int32)) % (10 : Int32))))) * (own_p10 ((p2 &&& (2147483647 : Int32)) % (10 : Int32))))), .val (.int (6 : Int32))] [(.int (6 : Int32)), (.int (9 : Int32)), (.int (((p1 &&& (2147483647 : Int32)) % (own_p10 ((9 : Int32) - ((p2 &&& (2147483647 : Int32)) % (10 : Int32))))) * (own_p10 ((p2 &&& (2147483647 : Int32)) % (10 : Int32)))))]))
      refine own_go (fun _ k => XS.isub X8.here hx rfl (hb hby at_67) rfl k) ?_
      show own_Fin p.tables e below _ (T8.setTop (mkF m 68 #[.val (.int p1), .val (.int p2), .val (.int ((p2 &&& (2147483647 : Int32)) % (10 : Int32))), .val (.int (((p1 &&& (2147483647 : Int32)) % (own_p10 ((9 : Int32) - ((p2 &&& (2147483647 : Int32)) % (10 : Int32))))) * (own_p10 ((p2 &&& (2147483647 : Int32)) % (10 : Int32))))), .val (.int (6 : Int32))] [(.int ((9 : Int32) - (6 : Int32))), (.int (((p1 &&& (2147483647 : Int32)) % (own_p10 ((9 : Int32) - ((p2 &&& (2147483647 : Int32)) % (10 : Int32))))) * (own_p10 ((p2 &&& (2147483647 : Int32)) % (10 : Int32)))))]))
      rw [show ((9 : Int32) - (6 : Int32)) = (3 : Int32) from by decide]
      show own_Fin p.tables e below _ (T8.setTop (mkF m 68 #[.val (.int p1), .val (.int p2), .val (.int ((p2 &&& (2147483647 : Int32)) % (10 : Int32))), .val (.int (((p1 &&& (2147483647 : Int32)) % (own_p10 ((9 : Int32) - ((p2 &&& (2147483647 : Int32)) % (10 : Int32))))) * (own_p10 ((p2 &&& (2147483647 : Int32)) % (10 : Int32))))), .val (.int (6 : Int32))] [(.int (3 : Int32)), (.int (((p1 &&& (2147483647 : Int32)) % (own_p10 ((9 : Int32) - ((p2 &&& (2147483647 : Int32)) % (10 : Int32))))) * (own_p10 ((p2 &&& (2147483647 : Int32)) % (10 : Int32)))))]))
      obtain ⟨_, _, ⟨T39, L39, k39, n39⟩, -, X39, ⟨Lc39, hQ39, l39, y39, z39⟩, st39⟩ := Jvm.LawKit.callS X8 hx (y := (⟨"com/example/ianus/ianus/data/DatetimesFractionDigitsPinLaw", "pow", "(I)I"⟩ : MethodName)) hown (mvT hZ (hw _ (List.mem_of_getElem? (i := 1) rfl))) (mvT hZ (hw _ (List.mem_of_getElem? (i := 2) rfl))) (mvT hZ (hw _ (List.mem_of_getElem? (i := 3) rfl))) (mvT hZ (hw _ (List.mem_of_getElem? (i := 4) rfl))) (by decide) (backOf (W := 1) (own_pow l Z a0 hw [] (3 : Int32) T4.heap n0 Z6 f5_0 (by unfold own_pin; decide)) hZ (hw _ (List.mem_of_getElem? (i := 4) rfl)) (hw _ (List.mem_of_getElem? (i := 3) rfl)) (by decide) (by decide)) (g := (mkF m 68 #[.val (.int p1), .val (.int p2), .val (.int ((p2 &&& (2147483647 : Int32)) % (10 : Int32))), .val (.int (((p1 &&& (2147483647 : Int32)) % (own_p10 ((9 : Int32) - ((p2 &&& (2147483647 : Int32)) % (10 : Int32))))) * (own_p10 ((p2 &&& (2147483647 : Int32)) % (10 : Int32))))), .val (.int (6 : Int32))] [(.int (3 : Int32)), (.int (((p1 &&& (2147483647 : Int32)) % (own_p10 ((9 : Int32) - ((p2 &&& (2147483647 : Int32)) % (10 : Int32))))) * (own_p10 ((p2 &&& (2147483647 : Int32)) % (10 : Int32)))))])) rfl (by rw [hml]; rfl) (argsL := [(.int (3 : Int32))]) (rest := [(.int (((p1 &&& (2147483647 : Int32)) % (own_p10 ((9 : Int32) - ((p2 &&& (2147483647 : Int32)) % (10 : Int32))))) * (own_p10 ((p2 &&& (2147483647 : Int32)) % (10 : Int32)))))]) (lenOf own_pd0 rfl) rfl (by show 2 * 0 + _ ≤ _; exact Nat.le_of_eq rfl) (hb hby at_68) (fun _ _ => ⟨rfl, eh8, (by decide : 2 + 1 ≤ _), (by decide : 20 + 10 ≤ _)⟩)
      dsimp only [Pt.U, Pt.locs, Pt.cells, Pt.slots] at X39 l39 y39 z39 st39 hQ39
      subst l39 y39 z39
      obtain ⟨hv39, N39q, o39_0⟩ := hQ39
      obtain rfl := hv39.trans (by rfl : (some (.int (own_p10 (3 : Int32))) : Option Value) = some (.int (1000 : Int32)))
      have N39 := Fr.app N8 N39q
      refine own_go st39 ?_
      have f40_0 : Old Z n0 T39.heap := f5_0.keep o39_0 all0
      have Z41 : n0 ≤ T39.heap.size := Nat.le_trans Z6 o39_0.1
      show own_Fin p.tables e below _ (T39.setTop (mkF m 71 #[.val (.int p1), .val (.int p2), .val (.int ((p2 &&& (2147483647 : Int32)) % (10 : Int32))), .val (.int (((p1 &&& (2147483647 : Int32)) % (own_p10 ((9 : Int32) - ((p2 &&& (2147483647 : Int32)) % (10 : Int32))))) * (own_p10 ((p2 &&& (2147483647 : Int32)) % (10 : Int32))))), .val (.int (6 : Int32))] [(.int (1000 : Int32)), (.int (((p1 &&& (2147483647 : Int32)) % (own_p10 ((9 : Int32) - ((p2 &&& (2147483647 : Int32)) % (10 : Int32))))) * (own_p10 ((p2 &&& (2147483647 : Int32)) % (10 : Int32)))))]))
      refine own_go (fun _ k => iremM X39 hx rfl (hb hby at_71) rfl (by decide) k) ?_
      show own_Fin p.tables e below _ (T39.setTop (mkF m 72 #[.val (.int p1), .val (.int p2), .val (.int ((p2 &&& (2147483647 : Int32)) % (10 : Int32))), .val (.int (((p1 &&& (2147483647 : Int32)) % (own_p10 ((9 : Int32) - ((p2 &&& (2147483647 : Int32)) % (10 : Int32))))) * (own_p10 ((p2 &&& (2147483647 : Int32)) % (10 : Int32))))), .val (.int (6 : Int32))] [(.int ((((p1 &&& (2147483647 : Int32)) % (own_p10 ((9 : Int32) - ((p2 &&& (2147483647 : Int32)) % (10 : Int32))))) * (own_p10 ((p2 &&& (2147483647 : Int32)) % (10 : Int32)))) % (1000 : Int32)))]))
      refine own_go (fun _ k => XS.ifNo X39.here hx rfl (hb hby at_72) rfl ((if0 _ _).trans (teq hm).2) k) ?_
      show own_Fin p.tables e below _ (T39.setTop (mkF m 75 #[.val (.int p1), .val (.int p2), .val (.int ((p2 &&& (2147483647 : Int32)) % (10 : Int32))), .val (.int (((p1 &&& (2147483647 : Int32)) % (own_p10 ((9 : Int32) - ((p2 &&& (2147483647 : Int32)) % (10 : Int32))))) * (own_p10 ((p2 &&& (2147483647 : Int32)) % (10 : Int32))))), .val (.int (6 : Int32))] []))
      refine own_go (fun _ k => XS.iloadN X39.here hx rfl (hb hby at_75) rfl k) ?_
      show own_Fin p.tables e below _ (T39.setTop (mkF m 76 #[.val (.int p1), .val (.int p2), .val (.int ((p2 &&& (2147483647 : Int32)) % (10 : Int32))), .val (.int (((p1 &&& (2147483647 : Int32)) % (own_p10 ((9 : Int32) - ((p2 &&& (2147483647 : Int32)) % (10 : Int32))))) * (own_p10 ((p2 &&& (2147483647 : Int32)) % (10 : Int32))))), .val (.int (6 : Int32))] [(.int (((p1 &&& (2147483647 : Int32)) % (own_p10 ((9 : Int32) - ((p2 &&& (2147483647 : Int32)) % (10 : Int32))))) * (own_p10 ((p2 &&& (2147483647 : Int32)) % (10 : Int32)))))]))
      refine own_go (fun _ k => XS.bipush X39.here hx rfl (hb hby at_76) k) ?_
      show own_Fin p.tables e below _ (T39.setTop (mkF m 78 #[.val (.int p1), .val (.int p2), .val (.int ((p2 &&& (2147483647 : Int32)) % (10 : Int32))), .val (.int (((p1 &&& (2147483647 : Int32)) % (own_p10 ((9 : Int32) - ((p2 &&& (2147483647 : Int32)) % (10 : Int32))))) * (own_p10 ((p2 &&& (2147483647 : Int32)) % (10 : Int32))))), .val (.int (6 : Int32))] [(.int (10 : Int32)), (.int (((p1 &&& (2147483647 : Int32)) % (own_p10 ((9 : Int32) - ((p2 &&& (2147483647 : Int32)) % (10 : Int32))))) * (own_p10 ((p2 &&& (2147483647 : Int32)) % (10 : Int32)))))]))
      refine own_go (fun _ k => XS.iload X39.here hx rfl (hb hby at_78) rfl k) ?_
      show own_Fin p.tables e below _ (T39.setTop (mkF m 80 #[.val (.int p1), .val (.int p2), .val (.int ((p2 &&& (2147483647 : Int32)) % (10 : Int32))), .val (.int (((p1 &&& (2147483647 : Int32)) % (own_p10 ((9 : Int32) - ((p2 &&& (2147483647 : Int32)) % (10 : Int32))))) * (own_p10 ((p2 &&& (2147483647 : Int32)) % (10 : Int32))))), .val (.int (6 : Int32))] [(.int (6 : Int32)), (.int (10 : Int32)), (.int (((p1 &&& (2147483647 : Int32)) % (own_p10 ((9 : Int32) - ((p2 &&& (2147483647 : Int32)) % (10 : Int32))))) * (own_p10 ((p2 &&& (2147483647 : Int32)) % (10 : Int32)))))]))
      refine own_go (fun _ k => XS.isub X39.here hx rfl (hb hby at_80) rfl k) ?_
      show own_Fin p.tables e below _ (T39.setTop (mkF m 81 #[.val (.int p1), .val (.int p2), .val (.int ((p2 &&& (2147483647 : Int32)) % (10 : Int32))), .val (.int (((p1 &&& (2147483647 : Int32)) % (own_p10 ((9 : Int32) - ((p2 &&& (2147483647 : Int32)) % (10 : Int32))))) * (own_p10 ((p2 &&& (2147483647 : Int32)) % (10 : Int32))))), .val (.int (6 : Int32))] [(.int ((10 : Int32) - (6 : Int32))), (.int (((p1 &&& (2147483647 : Int32)) % (own_p10 ((9 : Int32) - ((p2 &&& (2147483647 : Int32)) % (10 : Int32))))) * (own_p10 ((p2 &&& (2147483647 : Int32)) % (10 : Int32)))))]))
      rw [show ((10 : Int32) - (6 : Int32)) = (4 : Int32) from by decide]
      show own_Fin p.tables e below _ (T39.setTop (mkF m 81 #[.val (.int p1), .val (.int p2), .val (.int ((p2 &&& (2147483647 : Int32)) % (10 : Int32))), .val (.int (((p1 &&& (2147483647 : Int32)) % (own_p10 ((9 : Int32) - ((p2 &&& (2147483647 : Int32)) % (10 : Int32))))) * (own_p10 ((p2 &&& (2147483647 : Int32)) % (10 : Int32))))), .val (.int (6 : Int32))] [(.int (4 : Int32)), (.int (((p1 &&& (2147483647 : Int32)) % (own_p10 ((9 : Int32) - ((p2 &&& (2147483647 : Int32)) % (10 : Int32))))) * (own_p10 ((p2 &&& (2147483647 : Int32)) % (10 : Int32)))))]))
      obtain ⟨_, _, ⟨T42, L42, k42, n42⟩, -, X42, ⟨Lc42, hQ42, l42, y42, z42⟩, st42⟩ := Jvm.LawKit.callS X39 hx (y := (⟨"com/example/ianus/ianus/data/DatetimesFractionDigitsPinLaw", "pow", "(I)I"⟩ : MethodName)) hown (mvT hZ (hw _ (List.mem_of_getElem? (i := 1) rfl))) (mvT hZ (hw _ (List.mem_of_getElem? (i := 2) rfl))) (mvT hZ (hw _ (List.mem_of_getElem? (i := 3) rfl))) (mvT hZ (hw _ (List.mem_of_getElem? (i := 4) rfl))) (by decide) (backOf (W := 1) (own_pow l Z a0 hw [] (4 : Int32) T39.heap n0 Z41 f40_0 (by unfold own_pin; decide)) hZ (hw _ (List.mem_of_getElem? (i := 4) rfl)) (hw _ (List.mem_of_getElem? (i := 3) rfl)) (by decide) (by decide)) (g := (mkF m 81 #[.val (.int p1), .val (.int p2), .val (.int ((p2 &&& (2147483647 : Int32)) % (10 : Int32))), .val (.int (((p1 &&& (2147483647 : Int32)) % (own_p10 ((9 : Int32) - ((p2 &&& (2147483647 : Int32)) % (10 : Int32))))) * (own_p10 ((p2 &&& (2147483647 : Int32)) % (10 : Int32))))), .val (.int (6 : Int32))] [(.int (4 : Int32)), (.int (((p1 &&& (2147483647 : Int32)) % (own_p10 ((9 : Int32) - ((p2 &&& (2147483647 : Int32)) % (10 : Int32))))) * (own_p10 ((p2 &&& (2147483647 : Int32)) % (10 : Int32)))))])) rfl (by rw [hml]; rfl) (argsL := [(.int (4 : Int32))]) (rest := [(.int (((p1 &&& (2147483647 : Int32)) % (own_p10 ((9 : Int32) - ((p2 &&& (2147483647 : Int32)) % (10 : Int32))))) * (own_p10 ((p2 &&& (2147483647 : Int32)) % (10 : Int32)))))]) (lenOf own_pd0 rfl) rfl (by show 2 * 0 + _ ≤ _; exact Nat.le_of_eq rfl) (hb hby at_81) (fun _ _ => ⟨rfl, rfl, (by decide : 3 + 1 ≤ _), (by decide : 30 + 10 ≤ _)⟩)
      dsimp only [Pt.U, Pt.locs, Pt.cells, Pt.slots] at X42 l42 y42 z42 st42 hQ42
      subst l42 y42 z42
      obtain ⟨hv42, N42q, o42_0⟩ := hQ42
      obtain rfl := hv42.trans (by rfl : (some (.int (own_p10 (4 : Int32))) : Option Value) = some (.int (10000 : Int32)))
      have N42 := Fr.app N39 N42q
      refine own_go st42 ?_
      have f43_0 : Old Z n0 T42.heap := f40_0.keep o42_0 all0
      have Z44 : n0 ≤ T42.heap.size := Nat.le_trans Z41 o42_0.1
      show own_Fin p.tables e below _ (T42.setTop (mkF m 84 #[.val (.int p1), .val (.int p2), .val (.int ((p2 &&& (2147483647 : Int32)) % (10 : Int32))), .val (.int (((p1 &&& (2147483647 : Int32)) % (own_p10 ((9 : Int32) - ((p2 &&& (2147483647 : Int32)) % (10 : Int32))))) * (own_p10 ((p2 &&& (2147483647 : Int32)) % (10 : Int32))))), .val (.int (6 : Int32))] [(.int (10000 : Int32)), (.int (((p1 &&& (2147483647 : Int32)) % (own_p10 ((9 : Int32) - ((p2 &&& (2147483647 : Int32)) % (10 : Int32))))) * (own_p10 ((p2 &&& (2147483647 : Int32)) % (10 : Int32)))))]))
      refine own_go (fun _ k => iremM X42 hx rfl (hb hby at_84) rfl (by decide) k) ?_
      show own_Fin p.tables e below _ (T42.setTop (mkF m 85 #[.val (.int p1), .val (.int p2), .val (.int ((p2 &&& (2147483647 : Int32)) % (10 : Int32))), .val (.int (((p1 &&& (2147483647 : Int32)) % (own_p10 ((9 : Int32) - ((p2 &&& (2147483647 : Int32)) % (10 : Int32))))) * (own_p10 ((p2 &&& (2147483647 : Int32)) % (10 : Int32))))), .val (.int (6 : Int32))] [(.int ((((p1 &&& (2147483647 : Int32)) % (own_p10 ((9 : Int32) - ((p2 &&& (2147483647 : Int32)) % (10 : Int32))))) * (own_p10 ((p2 &&& (2147483647 : Int32)) % (10 : Int32)))) % (10000 : Int32)))]))
      refine own_go (fun _ k => XS.ifNo X42.here hx rfl (hb hby at_85) rfl ((if0 _ _).trans (feq hk).1) k) ?_
      show own_Fin p.tables e below _ (T42.setTop (mkF m 88 #[.val (.int p1), .val (.int p2), .val (.int ((p2 &&& (2147483647 : Int32)) % (10 : Int32))), .val (.int (((p1 &&& (2147483647 : Int32)) % (own_p10 ((9 : Int32) - ((p2 &&& (2147483647 : Int32)) % (10 : Int32))))) * (own_p10 ((p2 &&& (2147483647 : Int32)) % (10 : Int32))))), .val (.int (6 : Int32))] []))
      refine own_go (fun _ k => XS.iconst X42.here hx rfl (hb hby at_88) k) ?_
      show own_Fin p.tables e below _ (T42.setTop (mkF m 89 #[.val (.int p1), .val (.int p2), .val (.int ((p2 &&& (2147483647 : Int32)) % (10 : Int32))), .val (.int (((p1 &&& (2147483647 : Int32)) % (own_p10 ((9 : Int32) - ((p2 &&& (2147483647 : Int32)) % (10 : Int32))))) * (own_p10 ((p2 &&& (2147483647 : Int32)) % (10 : Int32))))), .val (.int (6 : Int32))] [(.int (1 : Int32))]))
      refine own_go (fun _ k => XS.goto X42.here hx rfl (pc0 := 89) (pc' := 93) rfl (hb hby at_89) (by decide) (by decide) k) ?_
      show own_Fin p.tables e below _ (T42.setTop (mkF m 93 #[.val (.int p1), .val (.int p2), .val (.int ((p2 &&& (2147483647 : Int32)) % (10 : Int32))), .val (.int (((p1 &&& (2147483647 : Int32)) % (own_p10 ((9 : Int32) - ((p2 &&& (2147483647 : Int32)) % (10 : Int32))))) * (own_p10 ((p2 &&& (2147483647 : Int32)) % (10 : Int32))))), .val (.int (6 : Int32))] [(.int (1 : Int32))]))
      obtain ⟨fs, hr, hrun, hended, hW, hsame⟩ := X42.leave (v := some (.int (1 : Int32))) (fun h => by rw [Bd.returns] at h; cases h)
      refine ⟨_, _, ?_, hrun, hended, _, _, rfl, ?_, ⟨_, rfl⟩, hW, hsame.mono (by decide) (by decide)⟩
      · exact retN X42 hx (t := .boolean) Bd.returns (by simp) (hb hby at_93) hr
      · show Q_own_law Z p1 p2 pt kp h0 n0 _ T42.heap _
        exact ⟨rfl, N42⟩
    · show own_Fin p.tables e below _ (T8.setTop (mkF m 30 #[.val (.int p1), .val (.int p2), .val (.int ((p2 &&& (2147483647 : Int32)) % (10 : Int32))), .val (.int (((p1 &&& (2147483647 : Int32)) % (own_p10 ((9 : Int32) - ((p2 &&& (2147483647 : Int32)) % (10 : Int32))))) * (own_p10 ((p2 &&& (2147483647 : Int32)) % (10 : Int32))))), .unset] [(.int (7 : Int32))]))
      refine own_go (fun _ k => XS.istore X8.here hx rfl (hb hby at_30) rfl (l' := #[.val (.int p1), .val (.int p2), .val (.int ((p2 &&& (2147483647 : Int32)) % (10 : Int32))), .val (.int (((p1 &&& (2147483647 : Int32)) % (own_p10 ((9 : Int32) - ((p2 &&& (2147483647 : Int32)) % (10 : Int32))))) * (own_p10 ((p2 &&& (2147483647 : Int32)) % (10 : Int32))))), .val (.int (7 : Int32))]) rfl k) ?_
      show own_Fin p.tables e below _ (T8.setTop (mkF m 32 #[.val (.int p1), .val (.int p2), .val (.int ((p2 &&& (2147483647 : Int32)) % (10 : Int32))), .val (.int (((p1 &&& (2147483647 : Int32)) % (own_p10 ((9 : Int32) - ((p2 &&& (2147483647 : Int32)) % (10 : Int32))))) * (own_p10 ((p2 &&& (2147483647 : Int32)) % (10 : Int32))))), .val (.int (7 : Int32))] []))
      refine own_go (fun _ k => XS.iloadN X8.here hx rfl (hb hby at_32) rfl k) ?_
      show own_Fin p.tables e below _ (T8.setTop (mkF m 33 #[.val (.int p1), .val (.int p2), .val (.int ((p2 &&& (2147483647 : Int32)) % (10 : Int32))), .val (.int (((p1 &&& (2147483647 : Int32)) % (own_p10 ((9 : Int32) - ((p2 &&& (2147483647 : Int32)) % (10 : Int32))))) * (own_p10 ((p2 &&& (2147483647 : Int32)) % (10 : Int32))))), .val (.int (7 : Int32))] [(.int (((p1 &&& (2147483647 : Int32)) % (own_p10 ((9 : Int32) - ((p2 &&& (2147483647 : Int32)) % (10 : Int32))))) * (own_p10 ((p2 &&& (2147483647 : Int32)) % (10 : Int32)))))]))
      refine own_go (fun _ k => XS.ifYes X8.here hx rfl (pc0 := 33) (pc' := 47) rfl (hb hby at_33) rfl ((if0 _ _).trans (feq hN).2) (by decide) (by decide) k) ?_
      show own_Fin p.tables e below _ (T8.setTop (mkF m 47 #[.val (.int p1), .val (.int p2), .val (.int ((p2 &&& (2147483647 : Int32)) % (10 : Int32))), .val (.int (((p1 &&& (2147483647 : Int32)) % (own_p10 ((9 : Int32) - ((p2 &&& (2147483647 : Int32)) % (10 : Int32))))) * (own_p10 ((p2 &&& (2147483647 : Int32)) % (10 : Int32))))), .val (.int (7 : Int32))] []))
      refine own_go (fun _ k => XS.iload X8.here hx rfl (hb hby at_47) rfl k) ?_
      show own_Fin p.tables e below _ (T8.setTop (mkF m 49 #[.val (.int p1), .val (.int p2), .val (.int ((p2 &&& (2147483647 : Int32)) % (10 : Int32))), .val (.int (((p1 &&& (2147483647 : Int32)) % (own_p10 ((9 : Int32) - ((p2 &&& (2147483647 : Int32)) % (10 : Int32))))) * (own_p10 ((p2 &&& (2147483647 : Int32)) % (10 : Int32))))), .val (.int (7 : Int32))] [(.int (7 : Int32))]))
      refine own_go (fun _ k => XS.iconst X8.here hx rfl (hb hby at_49) k) ?_
      show own_Fin p.tables e below _ (T8.setTop (mkF m 50 #[.val (.int p1), .val (.int p2), .val (.int ((p2 &&& (2147483647 : Int32)) % (10 : Int32))), .val (.int (((p1 &&& (2147483647 : Int32)) % (own_p10 ((9 : Int32) - ((p2 &&& (2147483647 : Int32)) % (10 : Int32))))) * (own_p10 ((p2 &&& (2147483647 : Int32)) % (10 : Int32))))), .val (.int (7 : Int32))] [(.int (1 : Int32)), (.int (7 : Int32))]))
      refine own_go (fun _ k => XS.icmpNo X8.here hx rfl (hb hby at_50) rfl (flt (by decide : ¬ ((7 : Int32) < (1 : Int32)))).1 k) ?_
      show own_Fin p.tables e below _ (T8.setTop (mkF m 53 #[.val (.int p1), .val (.int p2), .val (.int ((p2 &&& (2147483647 : Int32)) % (10 : Int32))), .val (.int (((p1 &&& (2147483647 : Int32)) % (own_p10 ((9 : Int32) - ((p2 &&& (2147483647 : Int32)) % (10 : Int32))))) * (own_p10 ((p2 &&& (2147483647 : Int32)) % (10 : Int32))))), .val (.int (7 : Int32))] []))
      refine own_go (fun _ k => XS.iload X8.here hx rfl (hb hby at_53) rfl k) ?_
      show own_Fin p.tables e below _ (T8.setTop (mkF m 55 #[.val (.int p1), .val (.int p2), .val (.int ((p2 &&& (2147483647 : Int32)) % (10 : Int32))), .val (.int (((p1 &&& (2147483647 : Int32)) % (own_p10 ((9 : Int32) - ((p2 &&& (2147483647 : Int32)) % (10 : Int32))))) * (own_p10 ((p2 &&& (2147483647 : Int32)) % (10 : Int32))))), .val (.int (7 : Int32))] [(.int (7 : Int32))]))
      refine own_go (fun _ k => XS.bipush X8.here hx rfl (hb hby at_55) k) ?_
      show own_Fin p.tables e below _ (T8.setTop (mkF m 57 #[.val (.int p1), .val (.int p2), .val (.int ((p2 &&& (2147483647 : Int32)) % (10 : Int32))), .val (.int (((p1 &&& (2147483647 : Int32)) % (own_p10 ((9 : Int32) - ((p2 &&& (2147483647 : Int32)) % (10 : Int32))))) * (own_p10 ((p2 &&& (2147483647 : Int32)) % (10 : Int32))))), .val (.int (7 : Int32))] [(.int (9 : Int32)), (.int (7 : Int32))]))
      refine own_go (fun _ k => XS.icmpYes X8.here hx rfl (pc0 := 57) (pc' := 62) rfl (hb hby at_57) rfl (flt (by decide : ¬ ((9 : Int32) < (7 : Int32)))).2.2.2 (by decide) (by decide) k) ?_
      show own_Fin p.tables e below _ (T8.setTop (mkF m 62 #[.val (.int p1), .val (.int p2), .val (.int ((p2 &&& (2147483647 : Int32)) % (10 : Int32))), .val (.int (((p1 &&& (2147483647 : Int32)) % (own_p10 ((9 : Int32) - ((p2 &&& (2147483647 : Int32)) % (10 : Int32))))) * (own_p10 ((p2 &&& (2147483647 : Int32)) % (10 : Int32))))), .val (.int (7 : Int32))] []))
      refine own_go (fun _ k => XS.iloadN X8.here hx rfl (hb hby at_62) rfl k) ?_
      show own_Fin p.tables e below _ (T8.setTop (mkF m 63 #[.val (.int p1), .val (.int p2), .val (.int ((p2 &&& (2147483647 : Int32)) % (10 : Int32))), .val (.int (((p1 &&& (2147483647 : Int32)) % (own_p10 ((9 : Int32) - ((p2 &&& (2147483647 : Int32)) % (10 : Int32))))) * (own_p10 ((p2 &&& (2147483647 : Int32)) % (10 : Int32))))), .val (.int (7 : Int32))] [(.int (((p1 &&& (2147483647 : Int32)) % (own_p10 ((9 : Int32) - ((p2 &&& (2147483647 : Int32)) % (10 : Int32))))) * (own_p10 ((p2 &&& (2147483647 : Int32)) % (10 : Int32)))))]))
      refine own_go (fun _ k => XS.bipush X8.here hx rfl (hb hby at_63) k) ?_
      show own_Fin p.tables e below _ (T8.setTop (mkF m 65 #[.val (.int p1), .val (.int p2), .val (.int ((p2 &&& (2147483647 : Int32)) % (10 : Int32))), .val (.int (((p1 &&& (2147483647 : Int32)) % (own_p10 ((9 : Int32) - ((p2 &&& (2147483647 : Int32)) % (10 : Int32))))) * (own_p10 ((p2 &&& (2147483647 : Int32)) % (10 : Int32))))), .val (.int (7 : Int32))] [(.int (9 : Int32)), (.int (((p1 &&& (2147483647 : Int32)) % (own_p10 ((9 : Int32) - ((p2 &&& (2147483647 : Int32)) % (10 : Int32))))) * (own_p10 ((p2 &&& (2147483647 : Int32)) % (10 : Int32)))))]))
      refine own_go (fun _ k => XS.iload X8.here hx rfl (hb hby at_65) rfl k) ?_
      show own_Fin p.tables e below _ (T8.setTop (mkF m 67 #[.val (.int p1), .val (.int p2), .val (.int ((p2 &&& (2147483647 : Int32)) % (10 : Int32))), .val (.int (((p1 &&& (2147483647 : Int32)) % (own_p10 ((9 : Int32) - ((p2 &&& (2147483647 : Int32)) % (10 : Int32))))) * (own_p10 ((p2 &&& (2147483647 : Int32)) % (10 : Int32))))), .val (.int (7 : Int32))] [(.int (7 : Int32)), (.int (9 : Int32)), (.int (((p1 &&& (2147483647 : Int32)) % (own_p10 ((9 : Int32) - ((p2 &&& (2147483647 : Int32)) % (10 : Int32))))) * (own_p10 ((p2 &&& (2147483647 : Int32)) % (10 : Int32)))))]))
      refine own_go (fun _ k => XS.isub X8.here hx rfl (hb hby at_67) rfl k) ?_
      show own_Fin p.tables e below _ (T8.setTop (mkF m 68 #[.val (.int p1), .val (.int p2), .val (.int ((p2 &&& (2147483647 : Int32)) % (10 : Int32))), .val (.int (((p1 &&& (2147483647 : Int32)) % (own_p10 ((9 : Int32) - ((p2 &&& (2147483647 : Int32)) % (10 : Int32))))) * (own_p10 ((p2 &&& (2147483647 : Int32)) % (10 : Int32))))), .val (.int (7 : Int32))] [(.int ((9 : Int32) - (7 : Int32))), (.int (((p1 &&& (2147483647 : Int32)) % (own_p10 ((9 : Int32) - ((p2 &&& (2147483647 : Int32)) % (10 : Int32))))) * (own_p10 ((p2 &&& (2147483647 : Int32)) % (10 : Int32)))))]))
      rw [show ((9 : Int32) - (7 : Int32)) = (2 : Int32) from by decide]
      show own_Fin p.tables e below _ (T8.setTop (mkF m 68 #[.val (.int p1), .val (.int p2), .val (.int ((p2 &&& (2147483647 : Int32)) % (10 : Int32))), .val (.int (((p1 &&& (2147483647 : Int32)) % (own_p10 ((9 : Int32) - ((p2 &&& (2147483647 : Int32)) % (10 : Int32))))) * (own_p10 ((p2 &&& (2147483647 : Int32)) % (10 : Int32))))), .val (.int (7 : Int32))] [(.int (2 : Int32)), (.int (((p1 &&& (2147483647 : Int32)) % (own_p10 ((9 : Int32) - ((p2 &&& (2147483647 : Int32)) % (10 : Int32))))) * (own_p10 ((p2 &&& (2147483647 : Int32)) % (10 : Int32)))))]))
      obtain ⟨_, _, ⟨T45, L45, k45, n45⟩, -, X45, ⟨Lc45, hQ45, l45, y45, z45⟩, st45⟩ := Jvm.LawKit.callS X8 hx (y := (⟨"com/example/ianus/ianus/data/DatetimesFractionDigitsPinLaw", "pow", "(I)I"⟩ : MethodName)) hown (mvT hZ (hw _ (List.mem_of_getElem? (i := 1) rfl))) (mvT hZ (hw _ (List.mem_of_getElem? (i := 2) rfl))) (mvT hZ (hw _ (List.mem_of_getElem? (i := 3) rfl))) (mvT hZ (hw _ (List.mem_of_getElem? (i := 4) rfl))) (by decide) (backOf (W := 1) (own_pow l Z a0 hw [] (2 : Int32) T4.heap n0 Z6 f5_0 (by unfold own_pin; decide)) hZ (hw _ (List.mem_of_getElem? (i := 4) rfl)) (hw _ (List.mem_of_getElem? (i := 3) rfl)) (by decide) (by decide)) (g := (mkF m 68 #[.val (.int p1), .val (.int p2), .val (.int ((p2 &&& (2147483647 : Int32)) % (10 : Int32))), .val (.int (((p1 &&& (2147483647 : Int32)) % (own_p10 ((9 : Int32) - ((p2 &&& (2147483647 : Int32)) % (10 : Int32))))) * (own_p10 ((p2 &&& (2147483647 : Int32)) % (10 : Int32))))), .val (.int (7 : Int32))] [(.int (2 : Int32)), (.int (((p1 &&& (2147483647 : Int32)) % (own_p10 ((9 : Int32) - ((p2 &&& (2147483647 : Int32)) % (10 : Int32))))) * (own_p10 ((p2 &&& (2147483647 : Int32)) % (10 : Int32)))))])) rfl (by rw [hml]; rfl) (argsL := [(.int (2 : Int32))]) (rest := [(.int (((p1 &&& (2147483647 : Int32)) % (own_p10 ((9 : Int32) - ((p2 &&& (2147483647 : Int32)) % (10 : Int32))))) * (own_p10 ((p2 &&& (2147483647 : Int32)) % (10 : Int32)))))]) (lenOf own_pd0 rfl) rfl (by show 2 * 0 + _ ≤ _; exact Nat.le_of_eq rfl) (hb hby at_68) (fun _ _ => ⟨rfl, eh8, (by decide : 2 + 1 ≤ _), (by decide : 20 + 10 ≤ _)⟩)
      dsimp only [Pt.U, Pt.locs, Pt.cells, Pt.slots] at X45 l45 y45 z45 st45 hQ45
      subst l45 y45 z45
      obtain ⟨hv45, N45q, o45_0⟩ := hQ45
      obtain rfl := hv45.trans (by rfl : (some (.int (own_p10 (2 : Int32))) : Option Value) = some (.int (100 : Int32)))
      have N45 := Fr.app N8 N45q
      refine own_go st45 ?_
      have f46_0 : Old Z n0 T45.heap := f5_0.keep o45_0 all0
      have Z47 : n0 ≤ T45.heap.size := Nat.le_trans Z6 o45_0.1
      show own_Fin p.tables e below _ (T45.setTop (mkF m 71 #[.val (.int p1), .val (.int p2), .val (.int ((p2 &&& (2147483647 : Int32)) % (10 : Int32))), .val (.int (((p1 &&& (2147483647 : Int32)) % (own_p10 ((9 : Int32) - ((p2 &&& (2147483647 : Int32)) % (10 : Int32))))) * (own_p10 ((p2 &&& (2147483647 : Int32)) % (10 : Int32))))), .val (.int (7 : Int32))] [(.int (100 : Int32)), (.int (((p1 &&& (2147483647 : Int32)) % (own_p10 ((9 : Int32) - ((p2 &&& (2147483647 : Int32)) % (10 : Int32))))) * (own_p10 ((p2 &&& (2147483647 : Int32)) % (10 : Int32)))))]))
      refine own_go (fun _ k => iremM X45 hx rfl (hb hby at_71) rfl (by decide) k) ?_
      show own_Fin p.tables e below _ (T45.setTop (mkF m 72 #[.val (.int p1), .val (.int p2), .val (.int ((p2 &&& (2147483647 : Int32)) % (10 : Int32))), .val (.int (((p1 &&& (2147483647 : Int32)) % (own_p10 ((9 : Int32) - ((p2 &&& (2147483647 : Int32)) % (10 : Int32))))) * (own_p10 ((p2 &&& (2147483647 : Int32)) % (10 : Int32))))), .val (.int (7 : Int32))] [(.int ((((p1 &&& (2147483647 : Int32)) % (own_p10 ((9 : Int32) - ((p2 &&& (2147483647 : Int32)) % (10 : Int32))))) * (own_p10 ((p2 &&& (2147483647 : Int32)) % (10 : Int32)))) % (100 : Int32)))]))
      refine own_go (fun _ k => XS.ifNo X45.here hx rfl (hb hby at_72) rfl ((if0 _ _).trans (teq hm).2) k) ?_
      show own_Fin p.tables e below _ (T45.setTop (mkF m 75 #[.val (.int p1), .val (.int p2), .val (.int ((p2 &&& (2147483647 : Int32)) % (10 : Int32))), .val (.int (((p1 &&& (2147483647 : Int32)) % (own_p10 ((9 : Int32) - ((p2 &&& (2147483647 : Int32)) % (10 : Int32))))) * (own_p10 ((p2 &&& (2147483647 : Int32)) % (10 : Int32))))), .val (.int (7 : Int32))] []))
      refine own_go (fun _ k => XS.iloadN X45.here hx rfl (hb hby at_75) rfl k) ?_
      show own_Fin p.tables e below _ (T45.setTop (mkF m 76 #[.val (.int p1), .val (.int p2), .val (.int ((p2 &&& (2147483647 : Int32)) % (10 : Int32))), .val (.int (((p1 &&& (2147483647 : Int32)) % (own_p10 ((9 : Int32) - ((p2 &&& (2147483647 : Int32)) % (10 : Int32))))) * (own_p10 ((p2 &&& (2147483647 : Int32)) % (10 : Int32))))), .val (.int (7 : Int32))] [(.int (((p1 &&& (2147483647 : Int32)) % (own_p10 ((9 : Int32) - ((p2 &&& (2147483647 : Int32)) % (10 : Int32))))) * (own_p10 ((p2 &&& (2147483647 : Int32)) % (10 : Int32)))))]))
      refine own_go (fun _ k => XS.bipush X45.here hx rfl (hb hby at_76) k) ?_
      show own_Fin p.tables e below _ (T45.setTop (mkF m 78 #[.val (.int p1), .val (.int p2), .val (.int ((p2 &&& (2147483647 : Int32)) % (10 : Int32))), .val (.int (((p1 &&& (2147483647 : Int32)) % (own_p10 ((9 : Int32) - ((p2 &&& (2147483647 : Int32)) % (10 : Int32))))) * (own_p10 ((p2 &&& (2147483647 : Int32)) % (10 : Int32))))), .val (.int (7 : Int32))] [(.int (10 : Int32)), (.int (((p1 &&& (2147483647 : Int32)) % (own_p10 ((9 : Int32) - ((p2 &&& (2147483647 : Int32)) % (10 : Int32))))) * (own_p10 ((p2 &&& (2147483647 : Int32)) % (10 : Int32)))))]))
      refine own_go (fun _ k => XS.iload X45.here hx rfl (hb hby at_78) rfl k) ?_
      show own_Fin p.tables e below _ (T45.setTop (mkF m 80 #[.val (.int p1), .val (.int p2), .val (.int ((p2 &&& (2147483647 : Int32)) % (10 : Int32))), .val (.int (((p1 &&& (2147483647 : Int32)) % (own_p10 ((9 : Int32) - ((p2 &&& (2147483647 : Int32)) % (10 : Int32))))) * (own_p10 ((p2 &&& (2147483647 : Int32)) % (10 : Int32))))), .val (.int (7 : Int32))] [(.int (7 : Int32)), (.int (10 : Int32)), (.int (((p1 &&& (2147483647 : Int32)) % (own_p10 ((9 : Int32) - ((p2 &&& (2147483647 : Int32)) % (10 : Int32))))) * (own_p10 ((p2 &&& (2147483647 : Int32)) % (10 : Int32)))))]))
      refine own_go (fun _ k => XS.isub X45.here hx rfl (hb hby at_80) rfl k) ?_
      show own_Fin p.tables e below _ (T45.setTop (mkF m 81 #[.val (.int p1), .val (.int p2), .val (.int ((p2 &&& (2147483647 : Int32)) % (10 : Int32))), .val (.int (((p1 &&& (2147483647 : Int32)) % (own_p10 ((9 : Int32) - ((p2 &&& (2147483647 : Int32)) % (10 : Int32))))) * (own_p10 ((p2 &&& (2147483647 : Int32)) % (10 : Int32))))), .val (.int (7 : Int32))] [(.int ((10 : Int32) - (7 : Int32))), (.int (((p1 &&& (2147483647 : Int32)) % (own_p10 ((9 : Int32) - ((p2 &&& (2147483647 : Int32)) % (10 : Int32))))) * (own_p10 ((p2 &&& (2147483647 : Int32)) % (10 : Int32)))))]))
      rw [show ((10 : Int32) - (7 : Int32)) = (3 : Int32) from by decide]
      show own_Fin p.tables e below _ (T45.setTop (mkF m 81 #[.val (.int p1), .val (.int p2), .val (.int ((p2 &&& (2147483647 : Int32)) % (10 : Int32))), .val (.int (((p1 &&& (2147483647 : Int32)) % (own_p10 ((9 : Int32) - ((p2 &&& (2147483647 : Int32)) % (10 : Int32))))) * (own_p10 ((p2 &&& (2147483647 : Int32)) % (10 : Int32))))), .val (.int (7 : Int32))] [(.int (3 : Int32)), (.int (((p1 &&& (2147483647 : Int32)) % (own_p10 ((9 : Int32) - ((p2 &&& (2147483647 : Int32)) % (10 : Int32))))) * (own_p10 ((p2 &&& (2147483647 : Int32)) % (10 : Int32)))))]))
      obtain ⟨_, _, ⟨T48, L48, k48, n48⟩, -, X48, ⟨Lc48, hQ48, l48, y48, z48⟩, st48⟩ := Jvm.LawKit.callS X45 hx (y := (⟨"com/example/ianus/ianus/data/DatetimesFractionDigitsPinLaw", "pow", "(I)I"⟩ : MethodName)) hown (mvT hZ (hw _ (List.mem_of_getElem? (i := 1) rfl))) (mvT hZ (hw _ (List.mem_of_getElem? (i := 2) rfl))) (mvT hZ (hw _ (List.mem_of_getElem? (i := 3) rfl))) (mvT hZ (hw _ (List.mem_of_getElem? (i := 4) rfl))) (by decide) (backOf (W := 1) (own_pow l Z a0 hw [] (3 : Int32) T45.heap n0 Z47 f46_0 (by unfold own_pin; decide)) hZ (hw _ (List.mem_of_getElem? (i := 4) rfl)) (hw _ (List.mem_of_getElem? (i := 3) rfl)) (by decide) (by decide)) (g := (mkF m 81 #[.val (.int p1), .val (.int p2), .val (.int ((p2 &&& (2147483647 : Int32)) % (10 : Int32))), .val (.int (((p1 &&& (2147483647 : Int32)) % (own_p10 ((9 : Int32) - ((p2 &&& (2147483647 : Int32)) % (10 : Int32))))) * (own_p10 ((p2 &&& (2147483647 : Int32)) % (10 : Int32))))), .val (.int (7 : Int32))] [(.int (3 : Int32)), (.int (((p1 &&& (2147483647 : Int32)) % (own_p10 ((9 : Int32) - ((p2 &&& (2147483647 : Int32)) % (10 : Int32))))) * (own_p10 ((p2 &&& (2147483647 : Int32)) % (10 : Int32)))))])) rfl (by rw [hml]; rfl) (argsL := [(.int (3 : Int32))]) (rest := [(.int (((p1 &&& (2147483647 : Int32)) % (own_p10 ((9 : Int32) - ((p2 &&& (2147483647 : Int32)) % (10 : Int32))))) * (own_p10 ((p2 &&& (2147483647 : Int32)) % (10 : Int32)))))]) (lenOf own_pd0 rfl) rfl (by show 2 * 0 + _ ≤ _; exact Nat.le_of_eq rfl) (hb hby at_81) (fun _ _ => ⟨rfl, rfl, (by decide : 3 + 1 ≤ _), (by decide : 30 + 10 ≤ _)⟩)
      dsimp only [Pt.U, Pt.locs, Pt.cells, Pt.slots] at X48 l48 y48 z48 st48 hQ48
      subst l48 y48 z48
      obtain ⟨hv48, N48q, o48_0⟩ := hQ48
      obtain rfl := hv48.trans (by rfl : (some (.int (own_p10 (3 : Int32))) : Option Value) = some (.int (1000 : Int32)))
      have N48 := Fr.app N45 N48q
      refine own_go st48 ?_
      have f49_0 : Old Z n0 T48.heap := f46_0.keep o48_0 all0
      have Z50 : n0 ≤ T48.heap.size := Nat.le_trans Z47 o48_0.1
      show own_Fin p.tables e below _ (T48.setTop (mkF m 84 #[.val (.int p1), .val (.int p2), .val (.int ((p2 &&& (2147483647 : Int32)) % (10 : Int32))), .val (.int (((p1 &&& (2147483647 : Int32)) % (own_p10 ((9 : Int32) - ((p2 &&& (2147483647 : Int32)) % (10 : Int32))))) * (own_p10 ((p2 &&& (2147483647 : Int32)) % (10 : Int32))))), .val (.int (7 : Int32))] [(.int (1000 : Int32)), (.int (((p1 &&& (2147483647 : Int32)) % (own_p10 ((9 : Int32) - ((p2 &&& (2147483647 : Int32)) % (10 : Int32))))) * (own_p10 ((p2 &&& (2147483647 : Int32)) % (10 : Int32)))))]))
      refine own_go (fun _ k => iremM X48 hx rfl (hb hby at_84) rfl (by decide) k) ?_
      show own_Fin p.tables e below _ (T48.setTop (mkF m 85 #[.val (.int p1), .val (.int p2), .val (.int ((p2 &&& (2147483647 : Int32)) % (10 : Int32))), .val (.int (((p1 &&& (2147483647 : Int32)) % (own_p10 ((9 : Int32) - ((p2 &&& (2147483647 : Int32)) % (10 : Int32))))) * (own_p10 ((p2 &&& (2147483647 : Int32)) % (10 : Int32))))), .val (.int (7 : Int32))] [(.int ((((p1 &&& (2147483647 : Int32)) % (own_p10 ((9 : Int32) - ((p2 &&& (2147483647 : Int32)) % (10 : Int32))))) * (own_p10 ((p2 &&& (2147483647 : Int32)) % (10 : Int32)))) % (1000 : Int32)))]))
      refine own_go (fun _ k => XS.ifNo X48.here hx rfl (hb hby at_85) rfl ((if0 _ _).trans (feq hk).1) k) ?_
      show own_Fin p.tables e below _ (T48.setTop (mkF m 88 #[.val (.int p1), .val (.int p2), .val (.int ((p2 &&& (2147483647 : Int32)) % (10 : Int32))), .val (.int (((p1 &&& (2147483647 : Int32)) % (own_p10 ((9 : Int32) - ((p2 &&& (2147483647 : Int32)) % (10 : Int32))))) * (own_p10 ((p2 &&& (2147483647 : Int32)) % (10 : Int32))))), .val (.int (7 : Int32))] []))
      refine own_go (fun _ k => XS.iconst X48.here hx rfl (hb hby at_88) k) ?_
      show own_Fin p.tables e below _ (T48.setTop (mkF m 89 #[.val (.int p1), .val (.int p2), .val (.int ((p2 &&& (2147483647 : Int32)) % (10 : Int32))), .val (.int (((p1 &&& (2147483647 : Int32)) % (own_p10 ((9 : Int32) - ((p2 &&& (2147483647 : Int32)) % (10 : Int32))))) * (own_p10 ((p2 &&& (2147483647 : Int32)) % (10 : Int32))))), .val (.int (7 : Int32))] [(.int (1 : Int32))]))
      refine own_go (fun _ k => XS.goto X48.here hx rfl (pc0 := 89) (pc' := 93) rfl (hb hby at_89) (by decide) (by decide) k) ?_
      show own_Fin p.tables e below _ (T48.setTop (mkF m 93 #[.val (.int p1), .val (.int p2), .val (.int ((p2 &&& (2147483647 : Int32)) % (10 : Int32))), .val (.int (((p1 &&& (2147483647 : Int32)) % (own_p10 ((9 : Int32) - ((p2 &&& (2147483647 : Int32)) % (10 : Int32))))) * (own_p10 ((p2 &&& (2147483647 : Int32)) % (10 : Int32))))), .val (.int (7 : Int32))] [(.int (1 : Int32))]))
      obtain ⟨fs, hr, hrun, hended, hW, hsame⟩ := X48.leave (v := some (.int (1 : Int32))) (fun h => by rw [Bd.returns] at h; cases h)
      refine ⟨_, _, ?_, hrun, hended, _, _, rfl, ?_, ⟨_, rfl⟩, hW, hsame.mono (by decide) (by decide)⟩
      · exact retN X48 hx (t := .boolean) Bd.returns (by simp) (hb hby at_93) hr
      · show Q_own_law Z p1 p2 pt kp h0 n0 _ T48.heap _
        exact ⟨rfl, N48⟩
    · show own_Fin p.tables e below _ (T8.setTop (mkF m 30 #[.val (.int p1), .val (.int p2), .val (.int ((p2 &&& (2147483647 : Int32)) % (10 : Int32))), .val (.int (((p1 &&& (2147483647 : Int32)) % (own_p10 ((9 : Int32) - ((p2 &&& (2147483647 : Int32)) % (10 : Int32))))) * (own_p10 ((p2 &&& (2147483647 : Int32)) % (10 : Int32))))), .unset] [(.int (8 : Int32))]))
      refine own_go (fun _ k => XS.istore X8.here hx rfl (hb hby at_30) rfl (l' := #[.val (.int p1), .val (.int p2), .val (.int ((p2 &&& (2147483647 : Int32)) % (10 : Int32))), .val (.int (((p1 &&& (2147483647 : Int32)) % (own_p10 ((9 : Int32) - ((p2 &&& (2147483647 : Int32)) % (10 : Int32))))) * (own_p10 ((p2 &&& (2147483647 : Int32)) % (10 : Int32))))), .val (.int (8 : Int32))]) rfl k) ?_
      show own_Fin p.tables e below _ (T8.setTop (mkF m 32 #[.val (.int p1), .val (.int p2), .val (.int ((p2 &&& (2147483647 : Int32)) % (10 : Int32))), .val (.int (((p1 &&& (2147483647 : Int32)) % (own_p10 ((9 : Int32) - ((p2 &&& (2147483647 : Int32)) % (10 : Int32))))) * (own_p10 ((p2 &&& (2147483647 : Int32)) % (10 : Int32))))), .val (.int (8 : Int32))] []))
      refine own_go (fun _ k => XS.iloadN X8.here hx rfl (hb hby at_32) rfl k) ?_
      show own_Fin p.tables e below _ (T8.setTop (mkF m 33 #[.val (.int p1), .val (.int p2), .val (.int ((p2 &&& (2147483647 : Int32)) % (10 : Int32))), .val (.int (((p1 &&& (2147483647 : Int32)) % (own_p10 ((9 : Int32) - ((p2 &&& (2147483647 : Int32)) % (10 : Int32))))) * (own_p10 ((p2 &&& (2147483647 : Int32)) % (10 : Int32))))), .val (.int (8 : Int32))] [(.int (((p1 &&& (2147483647 : Int32)) % (own_p10 ((9 : Int32) - ((p2 &&& (2147483647 : Int32)) % (10 : Int32))))) * (own_p10 ((p2 &&& (2147483647 : Int32)) % (10 : Int32)))))]))
      refine own_go (fun _ k => XS.ifYes X8.here hx rfl (pc0 := 33) (pc' := 47) rfl (hb hby at_33) rfl ((if0 _ _).trans (feq hN).2) (by decide) (by decide) k) ?_
      show own_Fin p.tables e below _ (T8.setTop (mkF m 47 #[.val (.int p1), .val (.int p2), .val (.int ((p2 &&& (2147483647 : Int32)) % (10 : Int32))), .val (.int (((p1 &&& (2147483647 : Int32)) % (own_p10 ((9 : Int32) - ((p2 &&& (2147483647 : Int32)) % (10 : Int32))))) * (own_p10 ((p2 &&& (2147483647 : Int32)) % (10 : Int32))))), .val (.int (8 : Int32))] []))
      refine own_go (fun _ k => XS.iload X8.here hx rfl (hb hby at_47) rfl k) ?_
      show own_Fin p.tables e below _ (T8.setTop (mkF m 49 #[.val (.int p1), .val (.int p2), .val (.int ((p2 &&& (2147483647 : Int32)) % (10 : Int32))), .val (.int (((p1 &&& (2147483647 : Int32)) % (own_p10 ((9 : Int32) - ((p2 &&& (2147483647 : Int32)) % (10 : Int32))))) * (own_p10 ((p2 &&& (2147483647 : Int32)) % (10 : Int32))))), .val (.int (8 : Int32))] [(.int (8 : Int32))]))
      refine own_go (fun _ k => XS.iconst X8.here hx rfl (hb hby at_49) k) ?_
      show own_Fin p.tables e below _ (T8.setTop (mkF m 50 #[.val (.int p1), .val (.int p2), .val (.int ((p2 &&& (2147483647 : Int32)) % (10 : Int32))), .val (.int (((p1 &&& (2147483647 : Int32)) % (own_p10 ((9 : Int32) - ((p2 &&& (2147483647 : Int32)) % (10 : Int32))))) * (own_p10 ((p2 &&& (2147483647 : Int32)) % (10 : Int32))))), .val (.int (8 : Int32))] [(.int (1 : Int32)), (.int (8 : Int32))]))
      refine own_go (fun _ k => XS.icmpNo X8.here hx rfl (hb hby at_50) rfl (flt (by decide : ¬ ((8 : Int32) < (1 : Int32)))).1 k) ?_
      show own_Fin p.tables e below _ (T8.setTop (mkF m 53 #[.val (.int p1), .val (.int p2), .val (.int ((p2 &&& (2147483647 : Int32)) % (10 : Int32))), .val (.int (((p1 &&& (2147483647 : Int32)) % (own_p10 ((9 : Int32) - ((p2 &&& (2147483647 : Int32)) % (10 : Int32))))) * (own_p10 ((p2 &&& (2147483647 : Int32)) % (10 : Int32))))), .val (.int (8 : Int32))] []))
      refine own_go (fun _ k => XS.iload X8.here hx rfl (hb hby at_53) rfl k) ?_
      show own_Fin p.tables e below _ (T8.setTop (mkF m 55 #[.val (.int p1), .val (.int p2), .val (.int ((p2 &&& (2147483647 : Int32)) % (10 : Int32))), .val (.int (((p1 &&& (2147483647 : Int32)) % (own_p10 ((9 : Int32) - ((p2 &&& (2147483647 : Int32)) % (10 : Int32))))) * (own_p10 ((p2 &&& (2147483647 : Int32)) % (10 : Int32))))), .val (.int (8 : Int32))] [(.int (8 : Int32))]))
      refine own_go (fun _ k => XS.bipush X8.here hx rfl (hb hby at_55) k) ?_
      show own_Fin p.tables e below _ (T8.setTop (mkF m 57 #[.val (.int p1), .val (.int p2), .val (.int ((p2 &&& (2147483647 : Int32)) % (10 : Int32))), .val (.int (((p1 &&& (2147483647 : Int32)) % (own_p10 ((9 : Int32) - ((p2 &&& (2147483647 : Int32)) % (10 : Int32))))) * (own_p10 ((p2 &&& (2147483647 : Int32)) % (10 : Int32))))), .val (.int (8 : Int32))] [(.int (9 : Int32)), (.int (8 : Int32))]))
      refine own_go (fun _ k => XS.icmpYes X8.here hx rfl (pc0 := 57) (pc' := 62) rfl (hb hby at_57) rfl (flt (by decide : ¬ ((9 : Int32) < (8 : Int32)))).2.2.2 (by decide) (by decide) k) ?_
      show own_Fin p.tables e below _ (T8.setTop (mkF m 62 #[.val (.int p1), .val (.int p2), .val (.int ((p2 &&& (2147483647 : Int32)) % (10 : Int32))), .val (.int (((p1 &&& (2147483647 : Int32)) % (own_p10 ((9 : Int32) - ((p2 &&& (2147483647 : Int32)) % (10 : Int32))))) * (own_p10 ((p2 &&& (2147483647 : Int32)) % (10 : Int32))))), .val (.int (8 : Int32))] []))
      refine own_go (fun _ k => XS.iloadN X8.here hx rfl (hb hby at_62) rfl k) ?_
      show own_Fin p.tables e below _ (T8.setTop (mkF m 63 #[.val (.int p1), .val (.int p2), .val (.int ((p2 &&& (2147483647 : Int32)) % (10 : Int32))), .val (.int (((p1 &&& (2147483647 : Int32)) % (own_p10 ((9 : Int32) - ((p2 &&& (2147483647 : Int32)) % (10 : Int32))))) * (own_p10 ((p2 &&& (2147483647 : Int32)) % (10 : Int32))))), .val (.int (8 : Int32))] [(.int (((p1 &&& (2147483647 : Int32)) % (own_p10 ((9 : Int32) - ((p2 &&& (2147483647 : Int32)) % (10 : Int32))))) * (own_p10 ((p2 &&& (2147483647 : Int32)) % (10 : Int32)))))]))
      refine own_go (fun _ k => XS.bipush X8.here hx rfl (hb hby at_63) k) ?_
      show own_Fin p.tables e below _ (T8.setTop (mkF m 65 #[.val (.int p1), .val (.int p2), .val (.int ((p2 &&& (2147483647 : Int32)) % (10 : Int32))), .val (.int (((p1 &&& (2147483647 : Int32)) % (own_p10 ((9 : Int32) - ((p2 &&& (2147483647 : Int32)) % (10 : Int32))))) * (own_p10 ((p2 &&& (2147483647 : Int32)) % (10 : Int32))))), .val (.int (8 : Int32))] [(.int (9 : Int32)), (.int (((p1 &&& (2147483647 : Int32)) % (own_p10 ((9 : Int32) - ((p2 &&& (2147483647 : Int32)) % (10 : Int32))))) * (own_p10 ((p2 &&& (2147483647 : Int32)) % (10 : Int32)))))]))
      refine own_go (fun _ k => XS.iload X8.here hx rfl (hb hby at_65) rfl k) ?_
      show own_Fin p.tables e below _ (T8.setTop (mkF m 67 #[.val (.int p1), .val (.int p2), .val (.int ((p2 &&& (2147483647 : Int32)) % (10 : Int32))), .val (.int (((p1 &&& (2147483647 : Int32)) % (own_p10 ((9 : Int32) - ((p2 &&& (2147483647 : Int32)) % (10 : Int32))))) * (own_p10 ((p2 &&& (2147483647 : Int32)) % (10 : Int32))))), .val (.int (8 : Int32))] [(.int (8 : Int32)), (.int (9 : Int32)), (.int (((p1 &&& (2147483647 : Int32)) % (own_p10 ((9 : Int32) - ((p2 &&& (2147483647 : Int32)) % (10 : Int32))))) * (own_p10 ((p2 &&& (2147483647 : Int32)) % (10 : Int32)))))]))
      refine own_go (fun _ k => XS.isub X8.here hx rfl (hb hby at_67) rfl k) ?_
      show own_Fin p.tables e below _ (T8.setTop (mkF m 68 #[.val (.int p1), .val (.int p2), .val (.int ((p2 &&& (2147483647 : Int32)) % (10 : Int32))), .val (.int (((p1 &&& (2147483647 : Int32)) % (own_p10 ((9 : Int32) - ((p2 &&& (2147483647 : Int32)) % (10 : Int32))))) * (own_p10 ((p2 &&& (2147483647 : Int32)) % (10 : Int32))))), .val (.int (8 : Int32))] [(.int ((9 : Int32) - (8 : Int32))), (.int (((p1 &&& (2147483647 : Int32)) % (own_p10 ((9 : Int32) - ((p2 &&& (2147483647 : Int32)) % (10 : Int32))))) * (own_p10 ((p2 &&& (2147483647 : Int32)) % (10 : Int32)))))]))
      rw [show ((9 : Int32) - (8 : Int32)) = (1 : Int32) from by decide]
      show own_Fin p.tables e below _ (T8.setTop (mkF m 68 #[.val (.int p1), .val (.int p2), .val (.int ((p2 &&& (2147483647 : Int32)) % (10 : Int32))), .val (.int (((p1 &&& (2147483647 : Int32)) % (own_p10 ((9 : Int32) - ((p2 &&& (2147483647 : Int32)) % (10 : Int32))))) * (own_p10 ((p2 &&& (2147483647 : Int32)) % (10 : Int32))))), .val (.int (8 : Int32))] [(.int (1 : Int32)), (.int (((p1 &&& (2147483647 : Int32)) % (own_p10 ((9 : Int32) - ((p2 &&& (2147483647 : Int32)) % (10 : Int32))))) * (own_p10 ((p2 &&& (2147483647 : Int32)) % (10 : Int32)))))]))
      obtain ⟨_, _, ⟨T51, L51, k51, n51⟩, -, X51, ⟨Lc51, hQ51, l51, y51, z51⟩, st51⟩ := Jvm.LawKit.callS X8 hx (y := (⟨"com/example/ianus/ianus/data/DatetimesFractionDigitsPinLaw", "pow", "(I)I"⟩ : MethodName)) hown (mvT hZ (hw _ (List.mem_of_getElem? (i := 1) rfl))) (mvT hZ (hw _ (List.mem_of_getElem? (i := 2) rfl))) (mvT hZ (hw _ (List.mem_of_getElem? (i := 3) rfl))) (mvT hZ (hw _ (List.mem_of_getElem? (i := 4) rfl))) (by decide) (backOf (W := 1) (own_pow l Z a0 hw [] (1 : Int32) T4.heap n0 Z6 f5_0 (by unfold own_pin; decide)) hZ (hw _ (List.mem_of_getElem? (i := 4) rfl)) (hw _ (List.mem_of_getElem? (i := 3) rfl)) (by decide) (by decide)) (g := (mkF m 68 #[.val (.int p1), .val (.int p2), .val (.int ((p2 &&& (2147483647 : Int32)) % (10 : Int32))), .val (.int (((p1 &&& (2147483647 : Int32)) % (own_p10 ((9 : Int32) - ((p2 &&& (2147483647 : Int32)) % (10 : Int32))))) * (own_p10 ((p2 &&& (2147483647 : Int32)) % (10 : Int32))))), .val (.int (8 : Int32))] [(.int (1 : Int32)), (.int (((p1 &&& (2147483647 : Int32)) % (own_p10 ((9 : Int32) - ((p2 &&& (2147483647 : Int32)) % (10 : Int32))))) * (own_p10 ((p2 &&& (2147483647 : Int32)) % (10 : Int32)))))])) rfl (by rw [hml]; rfl) (argsL := [(.int (1 : Int32))]) (rest := [(.int (((p1 &&& (2147483647 : Int32)) % (own_p10 ((9 : Int32) - ((p2 &&& (2147483647 : Int32)) % (10 : Int32))))) * (own_p10 ((p2 &&& (2147483647 : Int32)) % (10 : Int32)))))]) (lenOf own_pd0 rfl) rfl (by show 2 * 0 + _ ≤ _; exact Nat.le_of_eq rfl) (hb hby at_68) (fun _ _ => ⟨rfl, eh8, (by decide : 2 + 1 ≤ _), (by decide : 20 + 10 ≤ _)⟩)
      dsimp only [Pt.U, Pt.locs, Pt.cells, Pt.slots] at X51 l51 y51 z51 st51 hQ51
      subst l51 y51 z51
      obtain ⟨hv51, N51q, o51_0⟩ := hQ51
      obtain rfl := hv51.trans (by rfl : (some (.int (own_p10 (1 : Int32))) : Option Value) = some (.int (10 : Int32)))
      have N51 := Fr.app N8 N51q
      refine own_go st51 ?_
      have f52_0 : Old Z n0 T51.heap := f5_0.keep o51_0 all0
      have Z53 : n0 ≤ T51.heap.size := Nat.le_trans Z6 o51_0.1
      show own_Fin p.tables e below _ (T51.setTop (mkF m 71 #[.val (.int p1), .val (.int p2), .val (.int ((p2 &&& (2147483647 : Int32)) % (10 : Int32))), .val (.int (((p1 &&& (2147483647 : Int32)) % (own_p10 ((9 : Int32) - ((p2 &&& (2147483647 : Int32)) % (10 : Int32))))) * (own_p10 ((p2 &&& (2147483647 : Int32)) % (10 : Int32))))), .val (.int (8 : Int32))] [(.int (10 : Int32)), (.int (((p1 &&& (2147483647 : Int32)) % (own_p10 ((9 : Int32) - ((p2 &&& (2147483647 : Int32)) % (10 : Int32))))) * (own_p10 ((p2 &&& (2147483647 : Int32)) % (10 : Int32)))))]))
      refine own_go (fun _ k => iremM X51 hx rfl (hb hby at_71) rfl (by decide) k) ?_
      show own_Fin p.tables e below _ (T51.setTop (mkF m 72 #[.val (.int p1), .val (.int p2), .val (.int ((p2 &&& (2147483647 : Int32)) % (10 : Int32))), .val (.int (((p1 &&& (2147483647 : Int32)) % (own_p10 ((9 : Int32) - ((p2 &&& (2147483647 : Int32)) % (10 : Int32))))) * (own_p10 ((p2 &&& (2147483647 : Int32)) % (10 : Int32))))), .val (.int (8 : Int32))] [(.int ((((p1 &&& (2147483647 : Int32)) % (own_p10 ((9 : Int32) - ((p2 &&& (2147483647 : Int32)) % (10 : Int32))))) * (own_p10 ((p2 &&& (2147483647 : Int32)) % (10 : Int32)))) % (10 : Int32)))]))
      refine own_go (fun _ k => XS.ifNo X51.here hx rfl (hb hby at_72) rfl ((if0 _ _).trans (teq hm).2) k) ?_
      show own_Fin p.tables e below _ (T51.setTop (mkF m 75 #[.val (.int p1), .val (.int p2), .val (.int ((p2 &&& (2147483647 : Int32)) % (10 : Int32))), .val (.int (((p1 &&& (2147483647 : Int32)) % (own_p10 ((9 : Int32) - ((p2 &&& (2147483647 : Int32)) % (10 : Int32))))) * (own_p10 ((p2 &&& (2147483647 : Int32)) % (10 : Int32))))), .val (.int (8 : Int32))] []))
      refine own_go (fun _ k => XS.iloadN X51.here hx rfl (hb hby at_75) rfl k) ?_
      show own_Fin p.tables e below _ (T51.setTop (mkF m 76 #[.val (.int p1), .val (.int p2), .val (.int ((p2 &&& (2147483647 : Int32)) % (10 : Int32))), .val (.int (((p1 &&& (2147483647 : Int32)) % (own_p10 ((9 : Int32) - ((p2 &&& (2147483647 : Int32)) % (10 : Int32))))) * (own_p10 ((p2 &&& (2147483647 : Int32)) % (10 : Int32))))), .val (.int (8 : Int32))] [(.int (((p1 &&& (2147483647 : Int32)) % (own_p10 ((9 : Int32) - ((p2 &&& (2147483647 : Int32)) % (10 : Int32))))) * (own_p10 ((p2 &&& (2147483647 : Int32)) % (10 : Int32)))))]))
      refine own_go (fun _ k => XS.bipush X51.here hx rfl (hb hby at_76) k) ?_
      show own_Fin p.tables e below _ (T51.setTop (mkF m 78 #[.val (.int p1), .val (.int p2), .val (.int ((p2 &&& (2147483647 : Int32)) % (10 : Int32))), .val (.int (((p1 &&& (2147483647 : Int32)) % (own_p10 ((9 : Int32) - ((p2 &&& (2147483647 : Int32)) % (10 : Int32))))) * (own_p10 ((p2 &&& (2147483647 : Int32)) % (10 : Int32))))), .val (.int (8 : Int32))] [(.int (10 : Int32)), (.int (((p1 &&& (2147483647 : Int32)) % (own_p10 ((9 : Int32) - ((p2 &&& (2147483647 : Int32)) % (10 : Int32))))) * (own_p10 ((p2 &&& (2147483647 : Int32)) % (10 : Int32)))))]))
      refine own_go (fun _ k => XS.iload X51.here hx rfl (hb hby at_78) rfl k) ?_
      show own_Fin p.tables e below _ (T51.setTop (mkF m 80 #[.val (.int p1), .val (.int p2), .val (.int ((p2 &&& (2147483647 : Int32)) % (10 : Int32))), .val (.int (((p1 &&& (2147483647 : Int32)) % (own_p10 ((9 : Int32) - ((p2 &&& (2147483647 : Int32)) % (10 : Int32))))) * (own_p10 ((p2 &&& (2147483647 : Int32)) % (10 : Int32))))), .val (.int (8 : Int32))] [(.int (8 : Int32)), (.int (10 : Int32)), (.int (((p1 &&& (2147483647 : Int32)) % (own_p10 ((9 : Int32) - ((p2 &&& (2147483647 : Int32)) % (10 : Int32))))) * (own_p10 ((p2 &&& (2147483647 : Int32)) % (10 : Int32)))))]))
      refine own_go (fun _ k => XS.isub X51.here hx rfl (hb hby at_80) rfl k) ?_
      show own_Fin p.tables e below _ (T51.setTop (mkF m 81 #[.val (.int p1), .val (.int p2), .val (.int ((p2 &&& (2147483647 : Int32)) % (10 : Int32))), .val (.int (((p1 &&& (2147483647 : Int32)) % (own_p10 ((9 : Int32) - ((p2 &&& (2147483647 : Int32)) % (10 : Int32))))) * (own_p10 ((p2 &&& (2147483647 : Int32)) % (10 : Int32))))), .val (.int (8 : Int32))] [(.int ((10 : Int32) - (8 : Int32))), (.int (((p1 &&& (2147483647 : Int32)) % (own_p10 ((9 : Int32) - ((p2 &&& (2147483647 : Int32)) % (10 : Int32))))) * (own_p10 ((p2 &&& (2147483647 : Int32)) % (10 : Int32)))))]))
      rw [show ((10 : Int32) - (8 : Int32)) = (2 : Int32) from by decide]
      show own_Fin p.tables e below _ (T51.setTop (mkF m 81 #[.val (.int p1), .val (.int p2), .val (.int ((p2 &&& (2147483647 : Int32)) % (10 : Int32))), .val (.int (((p1 &&& (2147483647 : Int32)) % (own_p10 ((9 : Int32) - ((p2 &&& (2147483647 : Int32)) % (10 : Int32))))) * (own_p10 ((p2 &&& (2147483647 : Int32)) % (10 : Int32))))), .val (.int (8 : Int32))] [(.int (2 : Int32)), (.int (((p1 &&& (2147483647 : Int32)) % (own_p10 ((9 : Int32) - ((p2 &&& (2147483647 : Int32)) % (10 : Int32))))) * (own_p10 ((p2 &&& (2147483647 : Int32)) % (10 : Int32)))))]))
      obtain ⟨_, _, ⟨T54, L54, k54, n54⟩, -, X54, ⟨Lc54, hQ54, l54, y54, z54⟩, st54⟩ := Jvm.LawKit.callS X51 hx (y := (⟨"com/example/ianus/ianus/data/DatetimesFractionDigitsPinLaw", "pow", "(I)I"⟩ : MethodName)) hown (mvT hZ (hw _ (List.mem_of_getElem? (i := 1) rfl))) (mvT hZ (hw _ (List.mem_of_getElem? (i := 2) rfl))) (mvT hZ (hw _ (List.mem_of_getElem? (i := 3) rfl))) (mvT hZ (hw _ (List.mem_of_getElem? (i := 4) rfl))) (by decide) (backOf (W := 1) (own_pow l Z a0 hw [] (2 : Int32) T51.heap n0 Z53 f52_0 (by unfold own_pin; decide)) hZ (hw _ (List.mem_of_getElem? (i := 4) rfl)) (hw _ (List.mem_of_getElem? (i := 3) rfl)) (by decide) (by decide)) (g := (mkF m 81 #[.val (.int p1), .val (.int p2), .val (.int ((p2 &&& (2147483647 : Int32)) % (10 : Int32))), .val (.int (((p1 &&& (2147483647 : Int32)) % (own_p10 ((9 : Int32) - ((p2 &&& (2147483647 : Int32)) % (10 : Int32))))) * (own_p10 ((p2 &&& (2147483647 : Int32)) % (10 : Int32))))), .val (.int (8 : Int32))] [(.int (2 : Int32)), (.int (((p1 &&& (2147483647 : Int32)) % (own_p10 ((9 : Int32) - ((p2 &&& (2147483647 : Int32)) % (10 : Int32))))) * (own_p10 ((p2 &&& (2147483647 : Int32)) % (10 : Int32)))))])) rfl (by rw [hml]; rfl) (argsL := [(.int (2 : Int32))]) (rest := [(.int (((p1 &&& (2147483647 : Int32)) % (own_p10 ((9 : Int32) - ((p2 &&& (2147483647 : Int32)) % (10 : Int32))))) * (own_p10 ((p2 &&& (2147483647 : Int32)) % (10 : Int32)))))]) (lenOf own_pd0 rfl) rfl (by show 2 * 0 + _ ≤ _; exact Nat.le_of_eq rfl) (hb hby at_81) (fun _ _ => ⟨rfl, rfl, (by decide : 3 + 1 ≤ _), (by decide : 30 + 10 ≤ _)⟩)
      dsimp only [Pt.U, Pt.locs, Pt.cells, Pt.slots] at X54 l54 y54 z54 st54 hQ54
      subst l54 y54 z54
      obtain ⟨hv54, N54q, o54_0⟩ := hQ54
      obtain rfl := hv54.trans (by rfl : (some (.int (own_p10 (2 : Int32))) : Option Value) = some (.int (100 : Int32)))
      have N54 := Fr.app N51 N54q
      refine own_go st54 ?_
      have f55_0 : Old Z n0 T54.heap := f52_0.keep o54_0 all0
      have Z56 : n0 ≤ T54.heap.size := Nat.le_trans Z53 o54_0.1
      show own_Fin p.tables e below _ (T54.setTop (mkF m 84 #[.val (.int p1), .val (.int p2), .val (.int ((p2 &&& (2147483647 : Int32)) % (10 : Int32))), .val (.int (((p1 &&& (2147483647 : Int32)) % (own_p10 ((9 : Int32) - ((p2 &&& (2147483647 : Int32)) % (10 : Int32))))) * (own_p10 ((p2 &&& (2147483647 : Int32)) % (10 : Int32))))), .val (.int (8 : Int32))] [(.int (100 : Int32)), (.int (((p1 &&& (2147483647 : Int32)) % (own_p10 ((9 : Int32) - ((p2 &&& (2147483647 : Int32)) % (10 : Int32))))) * (own_p10 ((p2 &&& (2147483647 : Int32)) % (10 : Int32)))))]))
      refine own_go (fun _ k => iremM X54 hx rfl (hb hby at_84) rfl (by decide) k) ?_
      show own_Fin p.tables e below _ (T54.setTop (mkF m 85 #[.val (.int p1), .val (.int p2), .val (.int ((p2 &&& (2147483647 : Int32)) % (10 : Int32))), .val (.int (((p1 &&& (2147483647 : Int32)) % (own_p10 ((9 : Int32) - ((p2 &&& (2147483647 : Int32)) % (10 : Int32))))) * (own_p10 ((p2 &&& (2147483647 : Int32)) % (10 : Int32))))), .val (.int (8 : Int32))] [(.int ((((p1 &&& (2147483647 : Int32)) % (own_p10 ((9 : Int32) - ((p2 &&& (2147483647 : Int32)) % (10 : Int32))))) * (own_p10 ((p2 &&& (2147483647 : Int32)) % (10 : Int32)))) % (100 : Int32)))]))
      refine own_go (fun _ k => XS.ifNo X54.here hx rfl (hb hby at_85) rfl ((if0 _ _).trans (feq hk).1) k) ?_
      show own_Fin p.tables e below _ (T54.setTop (mkF m 88 #[.val (.int p1), .val (.int p2), .val (.int ((p2 &&& (2147483647 : Int32)) % (10 : Int32))), .val (.int (((p1 &&& (2147483647 : Int32)) % (own_p10 ((9 : Int32) - ((p2 &&& (2147483647 : Int32)) % (10 : Int32))))) * (own_p10 ((p2 &&& (2147483647 : Int32)) % (10 : Int32))))), .val (.int (8 : Int32))] []))
      refine own_go (fun _ k => XS.iconst X54.here hx rfl (hb hby at_88) k) ?_
      show own_Fin p.tables e below _ (T54.setTop (mkF m 89 #[.val (.int p1), .val (.int p2), .val (.int ((p2 &&& (2147483647 : Int32)) % (10 : Int32))), .val (.int (((p1 &&& (2147483647 : Int32)) % (own_p10 ((9 : Int32) - ((p2 &&& (2147483647 : Int32)) % (10 : Int32))))) * (own_p10 ((p2 &&& (2147483647 : Int32)) % (10 : Int32))))), .val (.int (8 : Int32))] [(.int (1 : Int32))]))
      refine own_go (fun _ k => XS.goto X54.here hx rfl (pc0 := 89) (pc' := 93) rfl (hb hby at_89) (by decide) (by decide) k) ?_
      show own_Fin p.tables e below _ (T54.setTop (mkF m 93 #[.val (.int p1), .val (.int p2), .val (.int ((p2 &&& (2147483647 : Int32)) % (10 : Int32))), .val (.int (((p1 &&& (2147483647 : Int32)) % (own_p10 ((9 : Int32) - ((p2 &&& (2147483647 : Int32)) % (10 : Int32))))) * (own_p10 ((p2 &&& (2147483647 : Int32)) % (10 : Int32))))), .val (.int (8 : Int32))] [(.int (1 : Int32))]))
      obtain ⟨fs, hr, hrun, hended, hW, hsame⟩ := X54.leave (v := some (.int (1 : Int32))) (fun h => by rw [Bd.returns] at h; cases h)
      refine ⟨_, _, ?_, hrun, hended, _, _, rfl, ?_, ⟨_, rfl⟩, hW, hsame.mono (by decide) (by decide)⟩
      · exact retN X54 hx (t := .boolean) Bd.returns (by simp) (hb hby at_93) hr
      · show Q_own_law Z p1 p2 pt kp h0 n0 _ T54.heap _
        exact ⟨rfl, N54⟩
    · show own_Fin p.tables e below _ (T8.setTop (mkF m 30 #[.val (.int p1), .val (.int p2), .val (.int ((p2 &&& (2147483647 : Int32)) % (10 : Int32))), .val (.int (((p1 &&& (2147483647 : Int32)) % (own_p10 ((9 : Int32) - ((p2 &&& (2147483647 : Int32)) % (10 : Int32))))) * (own_p10 ((p2 &&& (2147483647 : Int32)) % (10 : Int32))))), .unset] [(.int (9 : Int32))]))
      refine own_go (fun _ k => XS.istore X8.here hx rfl (hb hby at_30) rfl (l' := #[.val (.int p1), .val (.int p2), .val (.int ((p2 &&& (2147483647 : Int32)) % (10 : Int32))), .val (.int (((p1 &&& (2147483647 : Int32)) % (own_p10 ((9 : Int32) - ((p2 &&& (2147483647 : Int32)) % (10 : Int32))))) * (own_p10 ((p2 &&& (2147483647 : Int32)) % (10 : Int32))))), .val (.int (9 : Int32))]) rfl k) ?_
      show own_Fin p.tables e below _ (T8.setTop (mkF m 32 #[.val (.int p1), .val (.int p2), .val (.int ((p2 &&& (2147483647 : Int32)) % (10 : Int32))), .val (.int (((p1 &&& (2147483647 : Int32)) % (own_p10 ((9 : Int32) - ((p2 &&& (2147483647 : Int32)) % (10 : Int32))))) * (own_p10 ((p2 &&& (2147483647 : Int32)) % (10 : Int32))))), .val (.int (9 : Int32))] []))
      refine own_go (fun _ k => XS.iloadN X8.here hx rfl (hb hby at_32) rfl k) ?_
      show own_Fin p.tables e below _ (T8.setTop (mkF m 33 #[.val (.int p1), .val (.int p2), .val (.int ((p2 &&& (2147483647 : Int32)) % (10 : Int32))), .val (.int (((p1 &&& (2147483647 : Int32)) % (own_p10 ((9 : Int32) - ((p2 &&& (2147483647 : Int32)) % (10 : Int32))))) * (own_p10 ((p2 &&& (2147483647 : Int32)) % (10 : Int32))))), .val (.int (9 : Int32))] [(.int (((p1 &&& (2147483647 : Int32)) % (own_p10 ((9 : Int32) - ((p2 &&& (2147483647 : Int32)) % (10 : Int32))))) * (own_p10 ((p2 &&& (2147483647 : Int32)) % (10 : Int32)))))]))
      refine own_go (fun _ k => XS.ifYes X8.here hx rfl (pc0 := 33) (pc' := 47) rfl (hb hby at_33) rfl ((if0 _ _).trans (feq hN).2) (by decide) (by decide) k) ?_
      show own_Fin p.tables e below _ (T8.setTop (mkF m 47 #[.val (.int p1), .val (.int p2), .val (.int ((p2 &&& (2147483647 : Int32)) % (10 : Int32))), .val (.int (((p1 &&& (2147483647 : Int32)) % (own_p10 ((9 : Int32) - ((p2 &&& (2147483647 : Int32)) % (10 : Int32))))) * (own_p10 ((p2 &&& (2147483647 : Int32)) % (10 : Int32))))), .val (.int (9 : Int32))] []))
      refine own_go (fun _ k => XS.iload X8.here hx rfl (hb hby at_47) rfl k) ?_
      show own_Fin p.tables e below _ (T8.setTop (mkF m 49 #[.val (.int p1), .val (.int p2), .val (.int ((p2 &&& (2147483647 : Int32)) % (10 : Int32))), .val (.int (((p1 &&& (2147483647 : Int32)) % (own_p10 ((9 : Int32) - ((p2 &&& (2147483647 : Int32)) % (10 : Int32))))) * (own_p10 ((p2 &&& (2147483647 : Int32)) % (10 : Int32))))), .val (.int (9 : Int32))] [(.int (9 : Int32))]))
      refine own_go (fun _ k => XS.iconst X8.here hx rfl (hb hby at_49) k) ?_
      show own_Fin p.tables e below _ (T8.setTop (mkF m 50 #[.val (.int p1), .val (.int p2), .val (.int ((p2 &&& (2147483647 : Int32)) % (10 : Int32))), .val (.int (((p1 &&& (2147483647 : Int32)) % (own_p10 ((9 : Int32) - ((p2 &&& (2147483647 : Int32)) % (10 : Int32))))) * (own_p10 ((p2 &&& (2147483647 : Int32)) % (10 : Int32))))), .val (.int (9 : Int32))] [(.int (1 : Int32)), (.int (9 : Int32))]))
      refine own_go (fun _ k => XS.icmpNo X8.here hx rfl (hb hby at_50) rfl (flt (by decide : ¬ ((9 : Int32) < (1 : Int32)))).1 k) ?_
      show own_Fin p.tables e below _ (T8.setTop (mkF m 53 #[.val (.int p1), .val (.int p2), .val (.int ((p2 &&& (2147483647 : Int32)) % (10 : Int32))), .val (.int (((p1 &&& (2147483647 : Int32)) % (own_p10 ((9 : Int32) - ((p2 &&& (2147483647 : Int32)) % (10 : Int32))))) * (own_p10 ((p2 &&& (2147483647 : Int32)) % (10 : Int32))))), .val (.int (9 : Int32))] []))
      refine own_go (fun _ k => XS.iload X8.here hx rfl (hb hby at_53) rfl k) ?_
      show own_Fin p.tables e below _ (T8.setTop (mkF m 55 #[.val (.int p1), .val (.int p2), .val (.int ((p2 &&& (2147483647 : Int32)) % (10 : Int32))), .val (.int (((p1 &&& (2147483647 : Int32)) % (own_p10 ((9 : Int32) - ((p2 &&& (2147483647 : Int32)) % (10 : Int32))))) * (own_p10 ((p2 &&& (2147483647 : Int32)) % (10 : Int32))))), .val (.int (9 : Int32))] [(.int (9 : Int32))]))
      refine own_go (fun _ k => XS.bipush X8.here hx rfl (hb hby at_55) k) ?_
      show own_Fin p.tables e below _ (T8.setTop (mkF m 57 #[.val (.int p1), .val (.int p2), .val (.int ((p2 &&& (2147483647 : Int32)) % (10 : Int32))), .val (.int (((p1 &&& (2147483647 : Int32)) % (own_p10 ((9 : Int32) - ((p2 &&& (2147483647 : Int32)) % (10 : Int32))))) * (own_p10 ((p2 &&& (2147483647 : Int32)) % (10 : Int32))))), .val (.int (9 : Int32))] [(.int (9 : Int32)), (.int (9 : Int32))]))
      refine own_go (fun _ k => XS.icmpYes X8.here hx rfl (pc0 := 57) (pc' := 62) rfl (hb hby at_57) rfl (flt (by decide : ¬ ((9 : Int32) < (9 : Int32)))).2.2.2 (by decide) (by decide) k) ?_
      show own_Fin p.tables e below _ (T8.setTop (mkF m 62 #[.val (.int p1), .val (.int p2), .val (.int ((p2 &&& (2147483647 : Int32)) % (10 : Int32))), .val (.int (((p1 &&& (2147483647 : Int32)) % (own_p10 ((9 : Int32) - ((p2 &&& (2147483647 : Int32)) % (10 : Int32))))) * (own_p10 ((p2 &&& (2147483647 : Int32)) % (10 : Int32))))), .val (.int (9 : Int32))] []))
      refine own_go (fun _ k => XS.iloadN X8.here hx rfl (hb hby at_62) rfl k) ?_
      show own_Fin p.tables e below _ (T8.setTop (mkF m 63 #[.val (.int p1), .val (.int p2), .val (.int ((p2 &&& (2147483647 : Int32)) % (10 : Int32))), .val (.int (((p1 &&& (2147483647 : Int32)) % (own_p10 ((9 : Int32) - ((p2 &&& (2147483647 : Int32)) % (10 : Int32))))) * (own_p10 ((p2 &&& (2147483647 : Int32)) % (10 : Int32))))), .val (.int (9 : Int32))] [(.int (((p1 &&& (2147483647 : Int32)) % (own_p10 ((9 : Int32) - ((p2 &&& (2147483647 : Int32)) % (10 : Int32))))) * (own_p10 ((p2 &&& (2147483647 : Int32)) % (10 : Int32)))))]))
      refine own_go (fun _ k => XS.bipush X8.here hx rfl (hb hby at_63) k) ?_
      show own_Fin p.tables e below _ (T8.setTop (mkF m 65 #[.val (.int p1), .val (.int p2), .val (.int ((p2 &&& (2147483647 : Int32)) % (10 : Int32))), .val (.int (((p1 &&& (2147483647 : Int32)) % (own_p10 ((9 : Int32) - ((p2 &&& (2147483647 : Int32)) % (10 : Int32))))) * (own_p10 ((p2 &&& (2147483647 : Int32)) % (10 : Int32))))), .val (.int (9 : Int32))] [(.int (9 : Int32)), (.int (((p1 &&& (2147483647 : Int32)) % (own_p10 ((9 : Int32) - ((p2 &&& (2147483647 : Int32)) % (10 : Int32))))) * (own_p10 ((p2 &&& (2147483647 : Int32)) % (10 : Int32)))))]))
      refine own_go (fun _ k => XS.iload X8.here hx rfl (hb hby at_65) rfl k) ?_
      show own_Fin p.tables e below _ (T8.setTop (mkF m 67 #[.val (.int p1), .val (.int p2), .val (.int ((p2 &&& (2147483647 : Int32)) % (10 : Int32))), .val (.int (((p1 &&& (2147483647 : Int32)) % (own_p10 ((9 : Int32) - ((p2 &&& (2147483647 : Int32)) % (10 : Int32))))) * (own_p10 ((p2 &&& (2147483647 : Int32)) % (10 : Int32))))), .val (.int (9 : Int32))] [(.int (9 : Int32)), (.int (9 : Int32)), (.int (((p1 &&& (2147483647 : Int32)) % (own_p10 ((9 : Int32) - ((p2 &&& (2147483647 : Int32)) % (10 : Int32))))) * (own_p10 ((p2 &&& (2147483647 : Int32)) % (10 : Int32)))))]))
      refine own_go (fun _ k => XS.isub X8.here hx rfl (hb hby at_67) rfl k) ?_
      show own_Fin p.tables e below _ (T8.setTop (mkF m 68 #[.val (.int p1), .val (.int p2), .val (.int ((p2 &&& (2147483647 : Int32)) % (10 : Int32))), .val (.int (((p1 &&& (2147483647 : Int32)) % (own_p10 ((9 : Int32) - ((p2 &&& (2147483647 : Int32)) % (10 : Int32))))) * (own_p10 ((p2 &&& (2147483647 : Int32)) % (10 : Int32))))), .val (.int (9 : Int32))] [(.int ((9 : Int32) - (9 : Int32))), (.int (((p1 &&& (2147483647 : Int32)) % (own_p10 ((9 : Int32) - ((p2 &&& (2147483647 : Int32)) % (10 : Int32))))) * (own_p10 ((p2 &&& (2147483647 : Int32)) % (10 : Int32)))))]))
      rw [show ((9 : Int32) - (9 : Int32)) = (0 : Int32) from by decide]
      show own_Fin p.tables e below _ (T8.setTop (mkF m 68 #[.val (.int p1), .val (.int p2), .val (.int ((p2 &&& (2147483647 : Int32)) % (10 : Int32))), .val (.int (((p1 &&& (2147483647 : Int32)) % (own_p10 ((9 : Int32) - ((p2 &&& (2147483647 : Int32)) % (10 : Int32))))) * (own_p10 ((p2 &&& (2147483647 : Int32)) % (10 : Int32))))), .val (.int (9 : Int32))] [(.int (0 : Int32)), (.int (((p1 &&& (2147483647 : Int32)) % (own_p10 ((9 : Int32) - ((p2 &&& (2147483647 : Int32)) % (10 : Int32))))) * (own_p10 ((p2 &&& (2147483647 : Int32)) % (10 : Int32)))))]))
      obtain ⟨_, _, ⟨T57, L57, k57, n57⟩, -, X57, ⟨Lc57, hQ57, l57, y57, z57⟩, st57⟩ := Jvm.LawKit.callS X8 hx (y := (⟨"com/example/ianus/ianus/data/DatetimesFractionDigitsPinLaw", "pow", "(I)I"⟩ : MethodName)) hown (mvT hZ (hw _ (List.mem_of_getElem? (i := 1) rfl))) (mvT hZ (hw _ (List.mem_of_getElem? (i := 2) rfl))) (mvT hZ (hw _ (List.mem_of_getElem? (i := 3) rfl))) (mvT hZ (hw _ (List.mem_of_getElem? (i := 4) rfl))) (by decide) (backOf (W := 1) (own_pow l Z a0 hw [] (0 : Int32) T4.heap n0 Z6 f5_0 (by unfold own_pin; decide)) hZ (hw _ (List.mem_of_getElem? (i := 4) rfl)) (hw _ (List.mem_of_getElem? (i := 3) rfl)) (by decide) (by decide)) (g := (mkF m 68 #[.val (.int p1), .val (.int p2), .val (.int ((p2 &&& (2147483647 : Int32)) % (10 : Int32))), .val (.int (((p1 &&& (2147483647 : Int32)) % (own_p10 ((9 : Int32) - ((p2 &&& (2147483647 : Int32)) % (10 : Int32))))) * (own_p10 ((p2 &&& (2147483647 : Int32)) % (10 : Int32))))), .val (.int (9 : Int32))] [(.int (0 : Int32)), (.int (((p1 &&& (2147483647 : Int32)) % (own_p10 ((9 : Int32) - ((p2 &&& (2147483647 : Int32)) % (10 : Int32))))) * (own_p10 ((p2 &&& (2147483647 : Int32)) % (10 : Int32)))))])) rfl (by rw [hml]; rfl) (argsL := [(.int (0 : Int32))]) (rest := [(.int (((p1 &&& (2147483647 : Int32)) % (own_p10 ((9 : Int32) - ((p2 &&& (2147483647 : Int32)) % (10 : Int32))))) * (own_p10 ((p2 &&& (2147483647 : Int32)) % (10 : Int32)))))]) (lenOf own_pd0 rfl) rfl (by show 2 * 0 + _ ≤ _; exact Nat.le_of_eq rfl) (hb hby at_68) (fun _ _ => ⟨rfl, eh8, (by decide : 2 + 1 ≤ _), (by decide : 20 + 10 ≤ _)⟩)
      dsimp only [Pt.U, Pt.locs, Pt.cells, Pt.slots] at X57 l57 y57 z57 st57 hQ57
      subst l57 y57 z57
      obtain ⟨hv57, N57q, o57_0⟩ := hQ57
      obtain rfl := hv57.trans (by rfl : (some (.int (own_p10 (0 : Int32))) : Option Value) = some (.int (1 : Int32)))
      have N57 := Fr.app N8 N57q
      refine own_go st57 ?_
      have f58_0 : Old Z n0 T57.heap := f5_0.keep o57_0 all0
      have Z59 : n0 ≤ T57.heap.size := Nat.le_trans Z6 o57_0.1
      show own_Fin p.tables e below _ (T57.setTop (mkF m 71 #[.val (.int p1), .val (.int p2), .val (.int ((p2 &&& (2147483647 : Int32)) % (10 : Int32))), .val (.int (((p1 &&& (2147483647 : Int32)) % (own_p10 ((9 : Int32) - ((p2 &&& (2147483647 : Int32)) % (10 : Int32))))) * (own_p10 ((p2 &&& (2147483647 : Int32)) % (10 : Int32))))), .val (.int (9 : Int32))] [(.int (1 : Int32)), (.int (((p1 &&& (2147483647 : Int32)) % (own_p10 ((9 : Int32) - ((p2 &&& (2147483647 : Int32)) % (10 : Int32))))) * (own_p10 ((p2 &&& (2147483647 : Int32)) % (10 : Int32)))))]))
      refine own_go (fun _ k => iremM X57 hx rfl (hb hby at_71) rfl (by decide) k) ?_
      show own_Fin p.tables e below _ (T57.setTop (mkF m 72 #[.val (.int p1), .val (.int p2), .val (.int ((p2 &&& (2147483647 : Int32)) % (10 : Int32))), .val (.int (((p1 &&& (2147483647 : Int32)) % (own_p10 ((9 : Int32) - ((p2 &&& (2147483647 : Int32)) % (10 : Int32))))) * (own_p10 ((p2 &&& (2147483647 : Int32)) % (10 : Int32))))), .val (.int (9 : Int32))] [(.int ((((p1 &&& (2147483647 : Int32)) % (own_p10 ((9 : Int32) - ((p2 &&& (2147483647 : Int32)) % (10 : Int32))))) * (own_p10 ((p2 &&& (2147483647 : Int32)) % (10 : Int32)))) % (1 : Int32)))]))
      refine own_go (fun _ k => XS.ifNo X57.here hx rfl (hb hby at_72) rfl ((if0 _ _).trans (teq hm).2) k) ?_
      show own_Fin p.tables e below _ (T57.setTop (mkF m 75 #[.val (.int p1), .val (.int p2), .val (.int ((p2 &&& (2147483647 : Int32)) % (10 : Int32))), .val (.int (((p1 &&& (2147483647 : Int32)) % (own_p10 ((9 : Int32) - ((p2 &&& (2147483647 : Int32)) % (10 : Int32))))) * (own_p10 ((p2 &&& (2147483647 : Int32)) % (10 : Int32))))), .val (.int (9 : Int32))] []))
      refine own_go (fun _ k => XS.iloadN X57.here hx rfl (hb hby at_75) rfl k) ?_
      show own_Fin p.tables e below _ (T57.setTop (mkF m 76 #[.val (.int p1), .val (.int p2), .val (.int ((p2 &&& (2147483647 : Int32)) % (10 : Int32))), .val (.int (((p1 &&& (2147483647 : Int32)) % (own_p10 ((9 : Int32) - ((p2 &&& (2147483647 : Int32)) % (10 : Int32))))) * (own_p10 ((p2 &&& (2147483647 : Int32)) % (10 : Int32))))), .val (.int (9 : Int32))] [(.int (((p1 &&& (2147483647 : Int32)) % (own_p10 ((9 : Int32) - ((p2 &&& (2147483647 : Int32)) % (10 : Int32))))) * (own_p10 ((p2 &&& (2147483647 : Int32)) % (10 : Int32)))))]))
      refine own_go (fun _ k => XS.bipush X57.here hx rfl (hb hby at_76) k) ?_
      show own_Fin p.tables e below _ (T57.setTop (mkF m 78 #[.val (.int p1), .val (.int p2), .val (.int ((p2 &&& (2147483647 : Int32)) % (10 : Int32))), .val (.int (((p1 &&& (2147483647 : Int32)) % (own_p10 ((9 : Int32) - ((p2 &&& (2147483647 : Int32)) % (10 : Int32))))) * (own_p10 ((p2 &&& (2147483647 : Int32)) % (10 : Int32))))), .val (.int (9 : Int32))] [(.int (10 : Int32)), (.int (((p1 &&& (2147483647 : Int32)) % (own_p10 ((9 : Int32) - ((p2 &&& (2147483647 : Int32)) % (10 : Int32))))) * (own_p10 ((p2 &&& (2147483647 : Int32)) % (10 : Int32)))))]))
      refine own_go (fun _ k => XS.iload X57.here hx rfl (hb hby at_78) rfl k) ?_
      show own_Fin p.tables e below _ (T57.setTop (mkF m 80 #[.val (.int p1), .val (.int p2), .val (.int ((p2 &&& (2147483647 : Int32)) % (10 : Int32))), .val (.int (((p1 &&& (2147483647 : Int32)) % (own_p10 ((9 : Int32) - ((p2 &&& (2147483647 : Int32)) % (10 : Int32))))) * (own_p10 ((p2 &&& (2147483647 : Int32)) % (10 : Int32))))), .val (.int (9 : Int32))] [(.int (9 : Int32)), (.int (10 : Int32)), (.int (((p1 &&& (2147483647 : Int32)) % (own_p10 ((9 : Int32) - ((p2 &&& (2147483647 : Int32)) % (10 : Int32))))) * (own_p10 ((p2 &&& (2147483647 : Int32)) % (10 : Int32)))))]))
      refine own_go (fun _ k => XS.isub X57.here hx rfl (hb hby at_80) rfl k) ?_
      show own_Fin p.tables e below _ (T57.setTop (mkF m 81 #[.val (.int p1), .val (.int p2), .val (.int ((p2 &&& (2147483647 : Int32)) % (10 : Int32))), .val (.int (((p1 &&& (2147483647 : Int32)) % (own_p10 ((9 : Int32) - ((p2 &&& (2147483647 : Int32)) % (10 : Int32))))) * (own_p10 ((p2 &&& (2147483647 : Int32)) % (10 : Int32))))), .val (.int (9 : Int32))] [(.int ((10 : Int32) - (9 : Int32))), (.int (((p1 &&& (2147483647 : Int32)) % (own_p10 ((9 : Int32) - ((p2 &&& (2147483647 : Int32)) % (10 : Int32))))) * (own_p10 ((p2 &&& (2147483647 : Int32)) % (10 : Int32)))))]))
      rw [show ((10 : Int32) - (9 : Int32)) = (1 : Int32) from by decide]
      show own_Fin p.tables e below _ (T57.setTop (mkF m 81 #[.val (.int p1), .val (.int p2), .val (.int ((p2 &&& (2147483647 : Int32)) % (10 : Int32))), .val (.int (((p1 &&& (2147483647 : Int32)) % (own_p10 ((9 : Int32) - ((p2 &&& (2147483647 : Int32)) % (10 : Int32))))) * (own_p10 ((p2 &&& (2147483647 : Int32)) % (10 : Int32))))), .val (.int (9 : Int32))] [(.int (1 : Int32)), (.int (((p1 &&& (2147483647 : Int32)) % (own_p10 ((9 : Int32) - ((p2 &&& (2147483647 : Int32)) % (10 : Int32))))) * (own_p10 ((p2 &&& (2147483647 : Int32)) % (10 : Int32)))))]))
      obtain ⟨_, _, ⟨T60, L60, k60, n60⟩, -, X60, ⟨Lc60, hQ60, l60, y60, z60⟩, st60⟩ := Jvm.LawKit.callS X57 hx (y := (⟨"com/example/ianus/ianus/data/DatetimesFractionDigitsPinLaw", "pow", "(I)I"⟩ : MethodName)) hown (mvT hZ (hw _ (List.mem_of_getElem? (i := 1) rfl))) (mvT hZ (hw _ (List.mem_of_getElem? (i := 2) rfl))) (mvT hZ (hw _ (List.mem_of_getElem? (i := 3) rfl))) (mvT hZ (hw _ (List.mem_of_getElem? (i := 4) rfl))) (by decide) (backOf (W := 1) (own_pow l Z a0 hw [] (1 : Int32) T57.heap n0 Z59 f58_0 (by unfold own_pin; decide)) hZ (hw _ (List.mem_of_getElem? (i := 4) rfl)) (hw _ (List.mem_of_getElem? (i := 3) rfl)) (by decide) (by decide)) (g := (mkF m 81 #[.val (.int p1), .val (.int p2), .val (.int ((p2 &&& (2147483647 : Int32)) % (10 : Int32))), .val (.int (((p1 &&& (2147483647 : Int32)) % (own_p10 ((9 : Int32) - ((p2 &&& (2147483647 : Int32)) % (10 : Int32))))) * (own_p10 ((p2 &&& (2147483647 : Int32)) % (10 : Int32))))), .val (.int (9 : Int32))] [(.int (1 : Int32)), (.int (((p1 &&& (2147483647 : Int32)) % (own_p10 ((9 : Int32) - ((p2 &&& (2147483647 : Int32)) % (10 : Int32))))) * (own_p10 ((p2 &&& (2147483647 : Int32)) % (10 : Int32)))))])) rfl (by rw [hml]; rfl) (argsL := [(.int (1 : Int32))]) (rest := [(.int (((p1 &&& (2147483647 : Int32)) % (own_p10 ((9 : Int32) - ((p2 &&& (2147483647 : Int32)) % (10 : Int32))))) * (own_p10 ((p2 &&& (2147483647 : Int32)) % (10 : Int32)))))]) (lenOf own_pd0 rfl) rfl (by show 2 * 0 + _ ≤ _; exact Nat.le_of_eq rfl) (hb hby at_81) (fun _ _ => ⟨rfl, rfl, (by decide : 3 + 1 ≤ _), (by decide : 30 + 10 ≤ _)⟩)
      dsimp only [Pt.U, Pt.locs, Pt.cells, Pt.slots] at X60 l60 y60 z60 st60 hQ60
      subst l60 y60 z60
      obtain ⟨hv60, N60q, o60_0⟩ := hQ60
      obtain rfl := hv60.trans (by rfl : (some (.int (own_p10 (1 : Int32))) : Option Value) = some (.int (10 : Int32)))
      have N60 := Fr.app N57 N60q
      refine own_go st60 ?_
      have f61_0 : Old Z n0 T60.heap := f58_0.keep o60_0 all0
      have Z62 : n0 ≤ T60.heap.size := Nat.le_trans Z59 o60_0.1
      show own_Fin p.tables e below _ (T60.setTop (mkF m 84 #[.val (.int p1), .val (.int p2), .val (.int ((p2 &&& (2147483647 : Int32)) % (10 : Int32))), .val (.int (((p1 &&& (2147483647 : Int32)) % (own_p10 ((9 : Int32) - ((p2 &&& (2147483647 : Int32)) % (10 : Int32))))) * (own_p10 ((p2 &&& (2147483647 : Int32)) % (10 : Int32))))), .val (.int (9 : Int32))] [(.int (10 : Int32)), (.int (((p1 &&& (2147483647 : Int32)) % (own_p10 ((9 : Int32) - ((p2 &&& (2147483647 : Int32)) % (10 : Int32))))) * (own_p10 ((p2 &&& (2147483647 : Int32)) % (10 : Int32)))))]))
      refine own_go (fun _ k => iremM X60 hx rfl (hb hby at_84) rfl (by decide) k) ?_
      show own_Fin p.tables e below _ (T60.setTop (mkF m 85 #[.val (.int p1), .val (.int p2), .val (.int ((p2 &&& (2147483647 : Int32)) % (10 : Int32))), .val (.int (((p1 &&& (2147483647 : Int32)) % (own_p10 ((9 : Int32) - ((p2 &&& (2147483647 : Int32)) % (10 : Int32))))) * (own_p10 ((p2 &&& (2147483647 : Int32)) % (10 : Int32))))), .val (.int (9 : Int32))] [(.int ((((p1 &&& (2147483647 : Int32)) % (own_p10 ((9 : Int32) - ((p2 &&& (2147483647 : Int32)) % (10 : Int32))))) * (own_p10 ((p2 &&& (2147483647 : Int32)) % (10 : Int32)))) % (10 : Int32)))]))
      refine own_go (fun _ k => XS.ifNo X60.here hx rfl (hb hby at_85) rfl ((if0 _ _).trans (feq hk).1) k) ?_
      show own_Fin p.tables e below _ (T60.setTop (mkF m 88 #[.val (.int p1), .val (.int p2), .val (.int ((p2 &&& (2147483647 : Int32)) % (10 : Int32))), .val (.int (((p1 &&& (2147483647 : Int32)) % (own_p10 ((9 : Int32) - ((p2 &&& (2147483647 : Int32)) % (10 : Int32))))) * (own_p10 ((p2 &&& (2147483647 : Int32)) % (10 : Int32))))), .val (.int (9 : Int32))] []))
      refine own_go (fun _ k => XS.iconst X60.here hx rfl (hb hby at_88) k) ?_
      show own_Fin p.tables e below _ (T60.setTop (mkF m 89 #[.val (.int p1), .val (.int p2), .val (.int ((p2 &&& (2147483647 : Int32)) % (10 : Int32))), .val (.int (((p1 &&& (2147483647 : Int32)) % (own_p10 ((9 : Int32) - ((p2 &&& (2147483647 : Int32)) % (10 : Int32))))) * (own_p10 ((p2 &&& (2147483647 : Int32)) % (10 : Int32))))), .val (.int (9 : Int32))] [(.int (1 : Int32))]))
      refine own_go (fun _ k => XS.goto X60.here hx rfl (pc0 := 89) (pc' := 93) rfl (hb hby at_89) (by decide) (by decide) k) ?_
      show own_Fin p.tables e below _ (T60.setTop (mkF m 93 #[.val (.int p1), .val (.int p2), .val (.int ((p2 &&& (2147483647 : Int32)) % (10 : Int32))), .val (.int (((p1 &&& (2147483647 : Int32)) % (own_p10 ((9 : Int32) - ((p2 &&& (2147483647 : Int32)) % (10 : Int32))))) * (own_p10 ((p2 &&& (2147483647 : Int32)) % (10 : Int32))))), .val (.int (9 : Int32))] [(.int (1 : Int32))]))
      obtain ⟨fs, hr, hrun, hended, hW, hsame⟩ := X60.leave (v := some (.int (1 : Int32))) (fun h => by rw [Bd.returns] at h; cases h)
      refine ⟨_, _, ?_, hrun, hended, _, _, rfl, ?_, ⟨_, rfl⟩, hW, hsame.mono (by decide) (by decide)⟩
      · exact retN X60 hx (t := .boolean) Bd.returns (by simp) (hb hby at_93) hr
      · show Q_own_law Z p1 p2 pt kp h0 n0 _ T60.heap _
        exact ⟨rfl, N60⟩
set_option maxRecDepth 65536 in
set_option maxHeartbeats 40000000 in
theorem comes_1 {Post : Tables → Env → Array Value → State → Outcome → State → Prop} (hpost : ∀ tb e args s v u, (limb_1_1.after args s (.returned v) u = true ∧ limb_1_2.after args s (.returned v) u = true ∧ True) → FrameEnd s (.returned v) u (Jvm.fieldLocs frame_1_writes args s ++ Jvm.arrayLocs frame_1_arrays args s ++ Jvm.staticLocs frame_1_statics s) 16 192 → Post tb e args s (.returned v) u) :
    ArmFor flags0 classFile x code maxLocals ret World_1 tables_1 room_1 Calls_1 rest_1 Pre_1 Post := by
  intro l hfl _ _ p e ha hc hk s m args below hf hA hF happ hP
  obtain ⟨hcalls, hrest, hpre⟩ := hP
  obtain ⟨-, -, -, hnamed, -, -, -, hat⟩ := (Spec.applies_iff hf).mp happ
  obtain ⟨hg, hn⟩ := and_e (Cond.before_iff.mp (show (Jvm.Cond.and given_1 narrow_1).before args s = true from hpre))
  obtain ⟨gcount, gr0⟩ := and_e hg
  obtain ⟨ga0, gr1⟩ := and_e gr0
  obtain ⟨w0, w1, rfl⟩ : ∃ w0 w1 : Value, args = #[w0, w1] := by
    have hs : args.size = 2 := by simpa [Cond.value, given_1] using gcount
    obtain ⟨L⟩ := args
    match L, hs with
    | [w0, w1], _ => exact ⟨w0, w1, rfl⟩
  have hw := fun d (hd : d ∈ tables_1) => atoms_spec (ws := Jvm.Cond.code x code maxLocals ret :: tables_1) hat d (List.mem_cons_of_mem _ hd)
  have hfit : Fit s := fun {y c} hc i hi => by
    obtain ⟨ha, rfl⟩ := Array.getElem?_eq_some_iff.mp hc
    have q := List.all_eq_true.mp ((Array.all_eq_true_iff_forall_mem.mp hF) _ (Array.getElem_mem ha)) i (List.mem_range.mpr hi)
    simpa [Array.getElem?_eq_getElem hi] using q
  obtain ⟨i0, ei0⟩ := is_v ga0
  obtain rfl : w0 = (.int i0) := Option.some.inj ei0
  obtain ⟨i1, ei1⟩ := is_v gr1
  obtain rfl : w1 = (.int i1) := Option.some.inj ei1
  obtain ⟨n0, r0⟩ := and_e hn
  obtain ⟨n1, r1⟩ := and_e r0
  obtain ⟨n2, r2⟩ := and_e r1
  obtain ⟨n3, r3⟩ := and_e r2
  obtain ⟨n4, r4⟩ := and_e r3
  obtain ⟨n5, r5⟩ := and_e r4
  obtain ⟨n6, r6⟩ := and_e r5
  obtain ⟨n7, r7⟩ := and_e r6
  obtain ⟨n8, r8⟩ := and_e r7
  obtain ⟨n9, r9⟩ := and_e r8
  obtain ⟨n10, r10⟩ := and_e r9
  have n11 := r10
  obtain ⟨pt, ep⟩ := arr_v n0
  obtain ⟨cl, Ar⟩ := Arr.start ep n0
  obtain ⟨l1, l2⟩ := own_len (own_eqI n1) ep (Arr.fin (Vm.Alike.refl _) Ar)
  have VP : Arv s s.heap pt cl.cls .int (10 : Int32) [(.int (1 : Int32)), (.int (10 : Int32)), (.int (100 : Int32)), (.int (1000 : Int32)), (.int (10000 : Int32)), (.int (100000 : Int32)), (.int (1000000 : Int32)), (.int (10000000 : Int32)), (.int (100000000 : Int32)), (.int (1000000000 : Int32))] (.int (0 : Int32)) := Arv.start hfit Ar l1 l2 (by decide) (by decide) ⟨(elem_in (own_eqI n2) ep (Term.int_eval _) Ar.1).2, (elem_in (own_eqI n3) ep (Term.int_eval _) Ar.1).2, (elem_in (own_eqI n4) ep (Term.int_eval _) Ar.1).2, (elem_in (own_eqI n5) ep (Term.int_eval _) Ar.1).2, (elem_in (own_eqI n6) ep (Term.int_eval _) Ar.1).2, (elem_in (own_eqI n7) ep (Term.int_eval _) Ar.1).2, (elem_in (own_eqI n8) ep (Term.int_eval _) Ar.1).2, (elem_in (own_eqI n9) ep (Term.int_eval _) Ar.1).2, (elem_in (own_eqI n10) ep (Term.int_eval _) Ar.1).2, (elem_in (own_eqI n11) ep (Term.int_eval _) Ar.1).2, trivial⟩
  obtain ⟨n, o, h1, h2, h3, _, L, rfl, ⟨rfl, N⟩, hq⟩ := own_law l s _ hw tables_1 i0 i1 pt cl.cls s.heap s.heap.size (Nat.le_refl _) (Old.start s) (Sta.start ep (Or.inr ⟨(hw _ (List.mem_of_getElem? (i := 13) rfl)), (hw _ (List.mem_of_getElem? (i := 16) rfl))⟩)) VP p e ha hc hk s m _ below hf ((Spec.applies_iff_loose hf).mp happ).1 ⟨rfl, State.Warmed39.refl s, rfl⟩ trivial
  refine ⟨n, _, h1, h2, h3, hpost _ _ _ _ _ _ ⟨Cond.after_iff.mpr rfl, Cond.after_iff.mpr (eq_i res_at (Term.int_eval (1)) rfl), trivial⟩ ⟨hq.1, hq.2.1, (hq.2.2.sift fun y hy => Or.inr (N y hy)).mono (by decide) (by decide)⟩⟩
theorem main_1_1 : Claimed_1_1 := comes_1 fun _ _ _ _ _ _ h hF => ⟨h.1, hF⟩
theorem main_1_2 : Claimed_1_2 := comes_1 fun _ _ _ _ _ _ h hF => ⟨h.2.1, hF⟩
end Jvm.Pilot.@@N@@
namespace Jvm.Pilot.@@N@@
open Jvm Jvm.ClassFile Sem Op Lib Jvm.Free Jvm.Stand Jvm.Pilot.@@N@@.Jvm.D
/-! MADE BY PROGRAM (witnessworld.py) out of the Statement's table words and the real class files: 9 classes; the members and pool entries that the words name. The judged class is class 1, her method 2. -/
namespace start1
open Jvm.ClassFile
def u (s : String) : CpInfo := .utf8 (stringToUtf16 s)
/-- a pool by its gaps: so many unusable entries, then the entry; so many at the end -/
def gap : Nat → List CpInfo → List CpInfo
  | 0, r => r
  | n + 1, r => .unusable :: gap n r
def poolList (es : List (Nat × CpInfo)) (last : Nat) : List CpInfo := es.foldr (fun e r => gap e.1 (e.2 :: r)) (gap last [])
def pool (es : List (Nat × CpInfo)) (last : Nat) : Array CpInfo := ⟨poolList es last⟩
def fileOf (pool : Array CpInfo) (this : Nat) (attrs : Array Attribute := #[]) (ms : Array MethodInfo := #[]) (fl : Nat := 33) (sup : Nat := 0) (ifs : Array Nat := #[]) (fds : Array FieldInfo := #[]) : ClassFile where
  minorVersion := 0
  majorVersion := 65
  constantPool := pool
  accessFlags := fl
  thisClass := this
  superClass := sup
  interfaces := ifs
  fields := fds
  methods := ms
  attributes := attrs
def plain (name : String) (sup : Option ClassId) : Class where
  name := name
  kind := .ordinary
  loader := none
  accessFlags := 33
  super := sup
  interfaces := #[]
  cf := none
  fields := #[]
  methods := #[]
  instanceTypes := #[]
  staticTypes := #[]
  resolved := #[]
  callSites := []
  init := .initialized
  statics := none
  mirror := none

def pool0 : Array CpInfo := pool [(5, u "<init>"), (0, u "()V"), (1, .class_ 10), (1, u "java/lang/Object")] 113

def k0m0 : Method := { name := "<init>", desc := "()V", sig := { parameters := [], returnType := none }, accessFlags := 1, code := none }
/-- java/lang/Object -/
def k0 : Class := { plain "java/lang/Object" none with
  accessFlags := 33
  interfaces := #[]
  cf := some (fileOf pool0 8 #[] #[{ accessFlags := 1, nameIndex := 5, descriptorIndex := 6, attributes := #[] }] 33 0 #[] #[])
  fields := #[]
  methods := #[k0m0]
  instanceTypes := #[]
  staticTypes := #[]
  resolved := Array.replicate 124 none
  statics := none }

def pool1 : Array CpInfo := pool [(2, .class_ 4), (1, u "java/lang/Object"), (0, u "<init>"), (0, u "()V"), (0, .integer 100000), (0, .integer 1000000), (0, .integer 10000000), (0, .integer 100000000), (0, .integer 1000000000), (0, .integer 2147483647), (0, .methodref 14 15), (0, .class_ 16), (0, .nameAndType 17 18), (0, u "com/example/ianus/ianus/data/DatetimesFractionDigitsPinLaw"), (0, u "pow"), (0, u "(I)I"), (0, .methodref 20 21), (0, .class_ 22), (0, .nameAndType 23 18), (0, u "com/example/ianus/ianus/data/Datetimes"), (0, u "fractionDigits"), (2, u "law"), (0, u "(II)Z")] 3

def k1m0 : Method := { name := "<init>", desc := "()V", sig := { parameters := [], returnType := none }, accessFlags := 2, code := none }
def k1c1 : Code := { maxStack := 4, maxLocals := 2, code := method_2_code, exceptionTable := #[], attributes := #[] }
def k1m1 : Method := { name := "pow", desc := "(I)I", sig := { parameters := [.int], returnType := some .int }, accessFlags := 10, code := some k1c1 }
def k1c2 : Code := { maxStack := 3, maxLocals := 5, code := code, exceptionTable := #[], attributes := #[] }
def k1m2 : Method := { name := "law", desc := "(II)Z", sig := { parameters := [.int, .int], returnType := some .boolean }, accessFlags := 9, code := some k1c2 }
/-- com/example/ianus/ianus/data/DatetimesFractionDigitsPinLaw -/
def k1 : Class := { plain "com/example/ianus/ianus/data/DatetimesFractionDigitsPinLaw" (some 0) with
  accessFlags := 49
  interfaces := #[]
  cf := some (fileOf pool1 14 #[] #[{ accessFlags := 2, nameIndex := 5, descriptorIndex := 6, attributes := #[] }, { accessFlags := 10, nameIndex := 17, descriptorIndex := 18, attributes := #[] }, { accessFlags := 9, nameIndex := 26, descriptorIndex := 27, attributes := #[] }] 49 2 #[] #[])
  fields := #[]
  methods := #[k1m0, k1m1, k1m2]
  instanceTypes := #[]
  staticTypes := #[]
  resolved := Array.replicate 31 none
  statics := none }

def pool2 : Array CpInfo := pool [(2, .class_ 4), (1, u "java/lang/Object"), (0, u "<init>"), (0, u "()V"), (1, .class_ 10), (1, u "com/example/ianus/ianus/data/Datetimes"), (6, u "DATE"), (3, u "Ljava/util/regex/Pattern;"), (15, u "TIME"), (13, u "TIMESTAMP"), (110, .fieldref 8 163), (0, .nameAndType 164 165), (0, u "POWERS_OF_TEN"), (0, u "[I"), (45, u "fractionDigits"), (0, u "(I)I"), (83, u "MAX_FRACTION_DIGITS"), (0, u "I"), (2, u "DATE_FORM"), (0, u "Ljava/lang/String;"), (0, u "TIME_FORM"), (0, u "FIRST_YEAR"), (1, u "LAST_YEAR")] 41

def k2m0 : Method := { name := "<init>", desc := "()V", sig := { parameters := [], returnType := none }, accessFlags := 2, code := none }
def k2c1 : Code := { maxStack := 4, maxLocals := 2, code := prog_18_method_9_code, exceptionTable := #[], attributes := #[] }
def k2m1 : Method := { name := "fractionDigits", desc := "(I)I", sig := { parameters := [.int], returnType := some .int }, accessFlags := 9, code := some k2c1 }
/-- com/example/ianus/ianus/data/Datetimes -/
def k2 : Class := { plain "com/example/ianus/ianus/data/Datetimes" (some 0) with
  accessFlags := 33
  interfaces := #[]
  cf := some (fileOf pool2 8 #[] #[{ accessFlags := 2, nameIndex := 5, descriptorIndex := 6, attributes := #[] }, { accessFlags := 9, nameIndex := 211, descriptorIndex := 212, attributes := #[] }] 33 2 #[] #[{ accessFlags := 25, nameIndex := 296, descriptorIndex := 297, attributes := #[] }, { accessFlags := 26, nameIndex := 300, descriptorIndex := 301, attributes := #[] }, { accessFlags := 26, nameIndex := 302, descriptorIndex := 301, attributes := #[] }, { accessFlags := 26, nameIndex := 17, descriptorIndex := 21, attributes := #[] }, { accessFlags := 26, nameIndex := 37, descriptorIndex := 21, attributes := #[] }, { accessFlags := 26, nameIndex := 51, descriptorIndex := 21, attributes := #[] }, { accessFlags := 26, nameIndex := 303, descriptorIndex := 297, attributes := #[] }, { accessFlags := 26, nameIndex := 305, descriptorIndex := 297, attributes := #[] }, { accessFlags := 26, nameIndex := 164, descriptorIndex := 165, attributes := #[] }])
  fields := #[{ name := "MAX_FRACTION_DIGITS", type := .int, accessFlags := 25, slot := 0, constantValue := 0 }, { name := "DATE_FORM", type := (.object "java/lang/String"), accessFlags := 26, slot := 1, constantValue := 0 }, { name := "TIME_FORM", type := (.object "java/lang/String"), accessFlags := 26, slot := 2, constantValue := 0 }, { name := "DATE", type := (.object "java/util/regex/Pattern"), accessFlags := 26, slot := 3, constantValue := 0 }, { name := "TIME", type := (.object "java/util/regex/Pattern"), accessFlags := 26, slot := 4, constantValue := 0 }, { name := "TIMESTAMP", type := (.object "java/util/regex/Pattern"), accessFlags := 26, slot := 5, constantValue := 0 }, { name := "FIRST_YEAR", type := .int, accessFlags := 26, slot := 6, constantValue := 0 }, { name := "LAST_YEAR", type := .int, accessFlags := 26, slot := 7, constantValue := 0 }, { name := "POWERS_OF_TEN", type := (.array .int), accessFlags := 26, slot := 8, constantValue := 0 }]
  methods := #[k2m0, k2m1]
  instanceTypes := #[]
  staticTypes := #[.int, (.object "java/lang/String"), (.object "java/lang/String"), (.object "java/util/regex/Pattern"), (.object "java/util/regex/Pattern"), (.object "java/util/regex/Pattern"), .int, .int, (.array .int)]
  resolved := Array.replicate 347 none
  statics := some 0 }

def pool3 : Array CpInfo := pool [(1, u "java/lang/Cloneable"), (0, .class_ 1), (0, u "java/lang/Object"), (0, .class_ 3)] 3

/-- java/lang/Cloneable -/
def k3 : Class := { plain "java/lang/Cloneable" (some 0) with
  accessFlags := 1537
  interfaces := #[]
  cf := some (fileOf pool3 2 #[] #[] 1537 4 #[] #[])
  fields := #[]
  methods := #[]
  instanceTypes := #[]
  staticTypes := #[]
  resolved := Array.replicate 8 none
  statics := none }

def pool4 : Array CpInfo := pool [(1, u "java/io/Serializable"), (0, .class_ 1), (0, u "java/lang/Object"), (0, .class_ 3)] 3

/-- java/io/Serializable -/
def k4 : Class := { plain "java/io/Serializable" (some 0) with
  accessFlags := 1537
  interfaces := #[]
  cf := some (fileOf pool4 2 #[] #[] 1537 4 #[] #[])
  fields := #[]
  methods := #[]
  instanceTypes := #[]
  staticTypes := #[]
  resolved := Array.replicate 8 none
  statics := none }

/-- the primitive byte -/
def k5 : Class := { plain "byte" none with kind := .primitive 'B', accessFlags := 0x411 }
/-- [B -/
def k6 : Class := { plain "[B" (some 0) with kind := .array 5 .byte, interfaces := #[3, 4], accessFlags := 1041 }

/-- the primitive int -/
def k7 : Class := { plain "int" none with kind := .primitive 'I', accessFlags := 0x411 }
/-- [I -/
def k8 : Class := { plain "[I" (some 0) with kind := .array 7 .int, interfaces := #[3, 4], accessFlags := 1041 }

def heap : Heap := #[{ cls := 2, slots := #[.int 0, .null, .null, .null, .null, .null, .int 0, .int 0, .ref 1], vm := .statics 2 },
  { cls := 8, slots := #[.int 1, .int 10, .int 100, .int 1000, .int 10000, .int 100000, .int 1000000, .int 10000000, .int 100000000, .int 1000000000], vm := .none }]
def classes : Array Class := #[k0, k1, k2, k3, k4, k5, k6, k7, k8]
def interned : List (Array UInt16 × Addr) := []
def slotsUsed : Nat := 19
def theMethod : MethodId := ⟨1, 2⟩
def args0 : Array Value := #[.int 3, .int 1]
def aboutOver (below : List Frame) : State where
  vm := { classes := classes, interned := interned.toArray }
  heap := heap
  slotsUsed := slotsUsed
  threads := #[{ frames := .invoking theMethod args0 :: below }]
def below0 : List Frame := [.native { method := ⟨0, 0⟩, args := #[] }]
def about1 : State := aboutOver below0
def p0 : Program := .bare "" "" ""
def e0 : Env := launch0.env 0 0 0
theorem w_frames : about1.frames = Frame.invoking theMethod args0 :: below0 := rfl
set_option maxRecDepth 65536 in
theorem w_args : argsFit about1.vm theMethod args0 = true := by decide +kernel
set_option maxRecDepth 65536 in
theorem w_heap : heapFits about1 = true := by decide +kernel
set_option maxRecDepth 65536 in
theorem w_runnable : about1.curStatus? = some .runnable := by decide +kernel
set_option maxRecDepth 65536 in
theorem w_alone : about1.alone = true := by decide +kernel
set_option maxRecDepth 65536 in
theorem w_named : about1.methodNamed? x = some theMethod := by decide +kernel
set_option maxRecDepth 65536 in
theorem w_hears : about1.hears theMethod below0 = true := by decide +kernel
set_option maxRecDepth 65536 in
theorem w_ripe : about1.ripe theMethod args0 below0 = true := by decide +kernel
theorem w_running : about1.status = .running := rfl
set_option maxRecDepth 65536 in
theorem w_room : about1.hasRoom e0.platform room_1 = true :=
  launch0.hasRoom_least _ room_1 (by decide +kernel) (by decide +kernel) (by decide +kernel) (by decide +kernel) (by decide +kernel) (by decide +kernel)
theorem allAtoms_all (ts : List Jvm.Cond) (a : Array Jvm.Value) (st : Jvm.State) : (allAtoms ts).before a st = ts.all (fun c => c.before a st) := by
  induction ts with
  | nil => rfl
  | cons c t ih =>
    show (Jvm.Cond.and c (allAtoms t)).before a st = _
    rw [Jvm.Cond.before_and, ih, List.all_cons]
def words1 : List Jvm.Cond := Jvm.Cond.code x code maxLocals ret :: tables_1
/-- a 'code' word, met by the world's own term for the bytes: nothing is compared byte by byte -/
theorem code_word {y : MethodName} {bytes : ByteArray} {mx : Nat} {rt : Option FieldType} {a : Array Value} {s : State} {m : MethodId} {meth : Method} {c : Code} (h1 : s.methodNamed? y = some m) (h2 : s.vm.method? m = some meth) (h3 : meth.code = some c) (h4 : c.code = bytes)
    (h5 : (c.maxLocals == mx && c.exceptionTable.isEmpty && decide (c.maxStack ≤ mostOperands) && decide (meth.sig.returnType = rt) && !meth.locks && decide (parseMethodDescriptor y.desc = some meth.sig)) = true) : (Jvm.Cond.code y bytes mx rt).before a s = true := by
  simp only [Bool.and_eq_true, beq_iff_eq, Bool.not_eq_true', decide_eq_true_eq] at h5
  obtain ⟨⟨⟨⟨⟨g1, g2⟩, g3⟩, g4⟩, g5⟩, g6⟩ := h5
  simp [Cond.before, Cond.holds, Cond.value, h1, h2, h3, h4, g1, g2, g3, g4, g5, g6]
def isCode : Jvm.Cond → Bool
  | .code _ _ _ _ => true
  | _ => false
theorem all_split {L : List Jvm.Cond} {P : Jvm.Cond → Bool} (h1 : L.all (fun c => isCode c || P c) = true) (h2 : ∀ c ∈ L.filter isCode, P c = true) : L.all P = true := by
  refine List.all_eq_true.mpr fun c hc => ?_
  have h := List.all_eq_true.mp h1 c hc
  rcases Bool.eq_false_or_eq_true (isCode c) with hi | hi
  · exact h2 c (List.mem_filter.mpr ⟨hc, hi⟩)
  · simpa [hi] using h
set_option maxRecDepth 65536 in
theorem w_c0 : (Jvm.Cond.code x code maxLocals ret).before args0 about1 = true := code_word (m := ⟨1, 2⟩) (meth := k1m2) (c := k1c2) (by decide +kernel) rfl rfl rfl (by decide +kernel)
set_option maxRecDepth 65536 in
theorem w_c1 : (Jvm.Cond.code ({ cls := "com/example/ianus/ianus/data/DatetimesFractionDigitsPinLaw", name := "pow", desc := "(I)I" } : Jvm.MethodName) method_2_code (2 : Nat) (Option.some Jvm.ClassFile.FieldType.int)).before args0 about1 = true := code_word (m := ⟨1, 1⟩) (meth := k1m1) (c := k1c1) (by decide +kernel) rfl rfl rfl (by decide +kernel)
set_option maxRecDepth 65536 in
theorem w_c2 : (Jvm.Cond.code ({ cls := "com/example/ianus/ianus/data/Datetimes", name := "fractionDigits", desc := "(I)I" } : Jvm.MethodName) prog_18_method_9_code (2 : Nat) (Option.some Jvm.ClassFile.FieldType.int)).before args0 about1 = true := code_word (m := ⟨2, 1⟩) (meth := k2m1) (c := k2c1) (by decide +kernel) rfl rfl rfl (by decide +kernel)
def codes1 : List Jvm.Cond := [Jvm.Cond.code x code maxLocals ret, Jvm.Cond.code ({ cls := "com/example/ianus/ianus/data/DatetimesFractionDigitsPinLaw", name := "pow", desc := "(I)I" } : Jvm.MethodName) method_2_code (2 : Nat) (Option.some Jvm.ClassFile.FieldType.int), Jvm.Cond.code ({ cls := "com/example/ianus/ianus/data/Datetimes", name := "fractionDigits", desc := "(I)I" } : Jvm.MethodName) prog_18_method_9_code (2 : Nat) (Option.some Jvm.ClassFile.FieldType.int)]
set_option maxRecDepth 65536 in
theorem codes_eq : words1.filter isCode = codes1 := rfl
theorem w_codes : ∀ c ∈ words1.filter isCode, c.before args0 about1 = true := by
  rw [codes_eq]
  intro c hc
  simp only [codes1, List.mem_cons, List.not_mem_nil, or_false] at hc
  rcases hc with rfl | rfl | rfl
  · exact w_c0
  · exact w_c1
  · exact w_c2
set_option maxRecDepth 65536 in
theorem w_t1 : words1.all (fun c => isCode c || c.before args0 about1) = true := by decide +kernel
theorem w_tables : (allAtoms (Jvm.Cond.code x code maxLocals ret :: tables_1)).before args0 about1 = true := by
  rw [allAtoms_all]
  show words1.all (fun c => c.before args0 about1) = true
  refine all_split ?_ w_codes
  rw [w_t1]
set_option maxRecDepth 65536 in
theorem w_case : (Jvm.Cond.and given_1 narrow_1).before args0 about1 = true := by decide +kernel
theorem w_applies : (headSpec (Jvm.Cond.code x code maxLocals ret :: tables_1) room_1).applies x e0.platform about1 = true :=
  (Spec.applies_iff w_frames).mpr ⟨w_running, w_runnable, w_alone, w_named, w_hears, w_ripe, w_room, w_tables⟩
theorem atStart : AtStart classFile x code maxLocals ret World_1 tables_1 room_1 Calls_1 rest_1 Pre_1 launch0 p0 e0 about1 theMethod args0 below0 :=
  ⟨lists_1, trivial, launch0.admits_env _ _ _, launch0.least_env, fairChoices_fair.cas, fairChoices_fair.clock, w_frames, w_args, w_heap, w_applies, trivial, trivial, w_case⟩
end start1
theorem witness_1 : WitnessClaimed_1 := ⟨start1.p0, start1.e0, start1.about1, start1.theMethod, start1.args0, start1.below0, start1.atStart⟩
end Jvm.Pilot.@@N@@
