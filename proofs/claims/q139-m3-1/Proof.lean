import JvmDerived
import JvmDerived.Pilot.@@N@@Statement
import JvmDerived.Pilot.@@N@@Code
set_option linter.unusedVariables false
set_option linter.unusedSimpArgs false
namespace Jvm.Pilot.@@N@@
open Jvm Jvm.ClassFile Sem Op Lib Jvm.Free Jvm.Stand Jvm.LawKit Jvm.RoadKit Bundle Jvm.Pilot.@@N@@.Jvm.D
section OwnHead
variable {p : Program} {l : Launch} {e : Env} {R : Room} {s : State} {m : MethodId} {args : Array Value} {below : List Frame} {meth : Method} {c : Code} {T : State} {locs : List Loc} {cells slots : Nat}
theorem own_retI (X : Stand p l e R s m args below meth c T locs cells slots) (hx : p.tables.exec = Jvm.exec) {pc : Nat} {Ls : Array Slot} {z : Int32} {rest : List Value} (hret : meth.sig.returnType = some .int) (hd : decode c.code pc = .ok (.ireturn, 1)) {fs : List Frame}
    (hl : ∀ (f : JFrame) (acts : List Action), f.method = m → f.locked = none → f.entered = [] → (doReturn e (T.setTop f) acts (some (.int z))).1 = T.setFrames fs) : Steps p.tables e below (T.setTop (mkF m pc Ls (.int z :: rest))) (T.setFrames fs) := by
  have hm' : T.vm.method? m = some meth := X.method'
  have hn : narrow .int (.int z) = .int z := rfl
  show Steps p.tables e below (T.setTop { method := m, pc := pc, locals := Ls, stack := _ :: rest, locked := none }) _
  jvm_step X.here [X.here.top, hx, hd, hm', hret, hn]
  first | (intro acts; rw [hl _ acts rfl rfl rfl]) | rw [hl _ _ rfl rfl rfl]
  exact Steps.refl _
/-- the run comes to an end that P speaks of -/
abbrev own_Fin (tb : Tables) (e : Env) (below : List Frame) (P : Outcome → State → Prop) (F : State) : Prop := ∃ s₂ o, Steps tb e below F s₂ ∧ s₂.status = .running ∧ Ended s₂ below o ∧ P o s₂
theorem own_go {tb : Tables} {P : Outcome → State → Prop} {F F' : State} (h : ∀ t, Steps tb e below F' t → Steps tb e below F t) (k : own_Fin tb e below P F') : own_Fin tb e below P F := by
  obtain ⟨s₂, o, h1, h2⟩ := k
  exact ⟨s₂, o, h _ h1, h2⟩
theorem own_eqI {args : Array Value} {first s : State} {o : Option Outcome} {idx : List Nat} {a : Term} {k : Int32} (h : (Cond.eq a (.int k)).value args first o s idx = some true) : a.eval args first o idx s = some (.int k) := by
  simp only [Cond.value, Term.eval] at h
  cases ht : a.eval args first o idx s with
  | none => simp [ht] at h
  | some x => cases x <;> simp [ht] at h ⊢; exact h
theorem own_eqJ {args : Array Value} {first s : State} {o : Option Outcome} {idx : List Nat} {a : Term} {k : Int64} (h : (Cond.eq a (.long k)).value args first o s idx = some true) : a.eval args first o idx s = some (.long k) := by
  simp only [Cond.value, Term.eval] at h
  cases ht : a.eval args first o idx s with
  | none => simp [ht] at h
  | some x => cases x <;> simp [ht] at h ⊢; exact h
theorem own_fld {args : Array Value} {Z : State} {t : Term} {a : Addr} {C n d : String} {v : Value} (ht : t.eval args Z none [] Z = some (.ref a)) (h : (Term.field t C n d).eval args Z none [] Z = some v) : Fld Z Z.heap a C n d v := Fld.start ((fld_at ht).symm.trans h)
theorem own_selp {s : State} {args : Array Value} {y : MethodName} {n : Nat} (wi : (Cond.instantiable y.cls n).before args s = true) (hpriv : s.PrivateAt y) (hinst : (Cond.instanceMethod y).before args s = true) (hy : y.cls ≠ "java/lang/invoke/MethodHandle" ∧ y.cls ≠ "java/lang/invoke/VarHandle") : (Cond.selects y.cls y y).before args s = true := by
  obtain ⟨c, k, h1, h2, -, h4, -⟩ := Cond.instantiable_spec wi
  exact selects_self_of_private h1 h2 (Bool.or_eq_false_iff.mp h4).1 hpriv hinst hy
theorem own_len {args : Array Value} {first s : State} {o : Option Outcome} {idx : List Nat} {t : Term} {a : Addr} {cl : Cell} {n : Int32} (h : (Term.length t).eval args first o idx s = some (.int n)) (ht : t.eval args first o idx s = some (.ref a)) (hc : s.arrayAt? a = some cl) : cl.slots.size < 2 ^ 31 ∧ cl.slots.size.toInt32 = n := by
  simp only [Term.eval, ht, hc, Option.bind_eq_bind, Option.bind_some] at h
  split at h
  · rename_i q
    exact ⟨q, by simpa using h⟩
  · simp at h
end OwnHead
theorem d1_0 : decode prog_29_method_2_code 0 = .ok (.iload_n 0, 1) := by decide +kernel
theorem d1_1 : decode prog_29_method_2_code 1 = .ok (.sipush 8192, 3) := by decide +kernel
theorem d1_4 : decode prog_29_method_2_code 4 = .ok (.iadd, 1) := by decide +kernel
theorem d1_5 : decode prog_29_method_2_code 5 = .ok (.iconst 1, 1) := by decide +kernel
theorem d1_6 : decode prog_29_method_2_code 6 = .ok (.isub, 1) := by decide +kernel
theorem d1_7 : decode prog_29_method_2_code 7 = .ok (.getstatic 31, 3) := by decide +kernel
theorem d1_10 : decode prog_29_method_2_code 10 = .ok (.iushr, 1) := by decide +kernel
theorem d1_11 : decode prog_29_method_2_code 11 = .ok (.istore_n 1, 1) := by decide +kernel
theorem d1_12 : decode prog_29_method_2_code 12 = .ok (.bipush 32, 2) := by decide +kernel
theorem d1_14 : decode prog_29_method_2_code 14 = .ok (.iload_n 1, 1) := by decide +kernel
theorem d1_15 : decode prog_29_method_2_code 15 = .ok (.iconst 1, 1) := by decide +kernel
theorem d1_16 : decode prog_29_method_2_code 16 = .ok (.isub, 1) := by decide +kernel
theorem d1_17 : decode prog_29_method_2_code 17 = .ok (.invokestatic 36, 3) := by decide +kernel
theorem d1_20 : decode prog_29_method_2_code 20 = .ok (.isub, 1) := by decide +kernel
theorem d1_21 : decode prog_29_method_2_code 21 = .ok (.ireturn, 1) := by decide +kernel
theorem d2_0 : decode jdk_33_method_47_code 0 = .ok (.iload_n 0, 1) := by decide +kernel
theorem d2_1 : decode jdk_33_method_47_code 1 = .ok (.ifCond .gt 14, 3) := by decide +kernel
theorem d2_4 : decode jdk_33_method_47_code 4 = .ok (.iload_n 0, 1) := by decide +kernel
theorem d2_5 : decode jdk_33_method_47_code 5 = .ok (.ifCond .ne 8, 3) := by decide +kernel
theorem d2_8 : decode jdk_33_method_47_code 8 = .ok (.bipush 32, 2) := by decide +kernel
theorem d2_10 : decode jdk_33_method_47_code 10 = .ok (.goto 4, 3) := by decide +kernel
theorem d2_13 : decode jdk_33_method_47_code 13 = .ok (.iconst 0, 1) := by decide +kernel
theorem d2_14 : decode jdk_33_method_47_code 14 = .ok (.ireturn, 1) := by decide +kernel
theorem d2_15 : decode jdk_33_method_47_code 15 = .ok (.bipush 31, 2) := by decide +kernel
theorem d2_17 : decode jdk_33_method_47_code 17 = .ok (.istore_n 1, 1) := by decide +kernel
theorem d2_18 : decode jdk_33_method_47_code 18 = .ok (.iload_n 0, 1) := by decide +kernel
theorem d2_19 : decode jdk_33_method_47_code 19 = .ok (.ldc_w 264, 3) := by decide +kernel
theorem d2_22 : decode jdk_33_method_47_code 22 = .ok (.if_icmp .lt 11, 3) := by decide +kernel
theorem d2_33 : decode jdk_33_method_47_code 33 = .ok (.iload_n 0, 1) := by decide +kernel
theorem d2_34 : decode jdk_33_method_47_code 34 = .ok (.sipush 256, 3) := by decide +kernel
theorem d2_37 : decode jdk_33_method_47_code 37 = .ok (.if_icmp .lt 11, 3) := by decide +kernel
theorem d2_40 : decode jdk_33_method_47_code 40 = .ok (.iinc 1 (-8), 3) := by decide +kernel
theorem d2_43 : decode jdk_33_method_47_code 43 = .ok (.iload_n 0, 1) := by decide +kernel
theorem d2_44 : decode jdk_33_method_47_code 44 = .ok (.bipush 8, 2) := by decide +kernel
theorem d2_46 : decode jdk_33_method_47_code 46 = .ok (.iushr, 1) := by decide +kernel
theorem d2_47 : decode jdk_33_method_47_code 47 = .ok (.istore_n 0, 1) := by decide +kernel
theorem d2_48 : decode jdk_33_method_47_code 48 = .ok (.iload_n 0, 1) := by decide +kernel
theorem d2_49 : decode jdk_33_method_47_code 49 = .ok (.bipush 16, 2) := by decide +kernel
theorem d2_51 : decode jdk_33_method_47_code 51 = .ok (.if_icmp .lt 10, 3) := by decide +kernel
theorem d2_54 : decode jdk_33_method_47_code 54 = .ok (.iinc 1 (-4), 3) := by decide +kernel
theorem d2_57 : decode jdk_33_method_47_code 57 = .ok (.iload_n 0, 1) := by decide +kernel
theorem d2_58 : decode jdk_33_method_47_code 58 = .ok (.iconst 4, 1) := by decide +kernel
theorem d2_59 : decode jdk_33_method_47_code 59 = .ok (.iushr, 1) := by decide +kernel
theorem d2_60 : decode jdk_33_method_47_code 60 = .ok (.istore_n 0, 1) := by decide +kernel
theorem d2_61 : decode jdk_33_method_47_code 61 = .ok (.iload_n 0, 1) := by decide +kernel
theorem d2_62 : decode jdk_33_method_47_code 62 = .ok (.iconst 4, 1) := by decide +kernel
theorem d2_63 : decode jdk_33_method_47_code 63 = .ok (.if_icmp .lt 10, 3) := by decide +kernel
theorem d2_66 : decode jdk_33_method_47_code 66 = .ok (.iinc 1 (-2), 3) := by decide +kernel
theorem d2_69 : decode jdk_33_method_47_code 69 = .ok (.iload_n 0, 1) := by decide +kernel
theorem d2_70 : decode jdk_33_method_47_code 70 = .ok (.iconst 2, 1) := by decide +kernel
theorem d2_71 : decode jdk_33_method_47_code 71 = .ok (.iushr, 1) := by decide +kernel
theorem d2_72 : decode jdk_33_method_47_code 72 = .ok (.istore_n 0, 1) := by decide +kernel
theorem d2_73 : decode jdk_33_method_47_code 73 = .ok (.iload_n 1, 1) := by decide +kernel
theorem d2_74 : decode jdk_33_method_47_code 74 = .ok (.iload_n 0, 1) := by decide +kernel
theorem d2_75 : decode jdk_33_method_47_code 75 = .ok (.iconst 1, 1) := by decide +kernel
theorem d2_76 : decode jdk_33_method_47_code 76 = .ok (.iushr, 1) := by decide +kernel
theorem d2_77 : decode jdk_33_method_47_code 77 = .ok (.isub, 1) := by decide +kernel
theorem d2_78 : decode jdk_33_method_47_code 78 = .ok (.ireturn, 1) := by decide +kernel
theorem own_pn0 : plainName "java/lang/Integer" = true := by first | (simp [plainName, overriddenIn]; done) | decide +kernel
theorem own_pn1 : plainName "org/bufwarden/PoolChunk" = true := by first | (simp [plainName, overriddenIn]; done) | decide +kernel
theorem own_pn2 : plainName "org/bufwarden/PoolChunkRunOrderPinLaw" = true := by first | (simp [plainName, overriddenIn]; done) | decide +kernel
theorem own_pd0 : parseMethodDescriptor "(I)I" = some ⟨[.int], some .int⟩ := by decide +kernel
def own_bits (n : Nat) : Nat := if n < 1 then 0 else if n < 2 then 1 else if n < 4 then 2 else if n < 8 then 3 else if n < 16 then 4 else if n < 32 then 5 else if n < 64 then 6 else if n < 128 then 7 else if n < 256 then 8 else 9
def own_nl (x : Int32) : Int32 := Int32.ofNat (32 - own_bits x.toNatClampNeg)
theorem own_fin {x : Int32} (h1 : 0 ≤ x.toInt) (h2 : x.toInt ≤ 511) : ∃ k : Fin 512, x = Int32.ofNat k.val := by
  refine ⟨⟨x.toInt.toNat, by omega⟩, ?_⟩
  apply Int32.toInt_inj.mp
  show x.toInt = (Int32.ofNat x.toInt.toNat).toInt
  rw [Int32.toInt_ofNat_of_lt (by omega)]
  omega
theorem own_lt16 {x : Int32} (h : x.toInt ≤ 511) : x < (65536 : Int32) := by rw [Int32.lt_iff_toInt_lt]; have e : (65536 : Int32).toInt = 65536 := rfl; omega
set_option maxRecDepth 65536 in
theorem own_leaf1 : ∀ k : Fin 512, ((0 : Int32) < (Int32.ofNat k.val)) → ((Int32.ofNat k.val) < (256 : Int32)) → ((Int32.ofNat k.val) < (16 : Int32)) → ((Int32.ofNat k.val) < (4 : Int32)) → ((31 : Int32) - (((Int32.ofNat k.val).toUInt32 >>> ((1 : Int32) &&& 31).toUInt32).toInt32)) = own_nl (Int32.ofNat k.val) := by decide +kernel
set_option maxRecDepth 65536 in
theorem own_leaf2 : ∀ k : Fin 512, ((0 : Int32) < (Int32.ofNat k.val)) → ((Int32.ofNat k.val) < (256 : Int32)) → ((Int32.ofNat k.val) < (16 : Int32)) → (¬ ((Int32.ofNat k.val) < (4 : Int32))) → (((31 : Int32) + (-2 : Int32)) - (((((Int32.ofNat k.val).toUInt32 >>> ((2 : Int32) &&& 31).toUInt32).toInt32).toUInt32 >>> ((1 : Int32) &&& 31).toUInt32).toInt32)) = own_nl (Int32.ofNat k.val) := by decide +kernel
set_option maxRecDepth 65536 in
theorem own_leaf3 : ∀ k : Fin 512, ((0 : Int32) < (Int32.ofNat k.val)) → ((Int32.ofNat k.val) < (256 : Int32)) → (¬ ((Int32.ofNat k.val) < (16 : Int32))) → ((((Int32.ofNat k.val).toUInt32 >>> ((4 : Int32) &&& 31).toUInt32).toInt32) < (4 : Int32)) → (((31 : Int32) + (-4 : Int32)) - (((((Int32.ofNat k.val).toUInt32 >>> ((4 : Int32) &&& 31).toUInt32).toInt32).toUInt32 >>> ((1 : Int32) &&& 31).toUInt32).toInt32)) = own_nl (Int32.ofNat k.val) := by decide +kernel
set_option maxRecDepth 65536 in
theorem own_leaf4 : ∀ k : Fin 512, ((0 : Int32) < (Int32.ofNat k.val)) → ((Int32.ofNat k.val) < (256 : Int32)) → (¬ ((Int32.ofNat k.val) < (16 : Int32))) → (¬ ((((Int32.ofNat k.val).toUInt32 >>> ((4 : Int32) &&& 31).toUInt32).toInt32) < (4 : Int32))) → ((((31 : Int32) + (-4 : Int32)) + (-2 : Int32)) - (((((((Int32.ofNat k.val).toUInt32 >>> ((4 : Int32) &&& 31).toUInt32).toInt32).toUInt32 >>> ((2 : Int32) &&& 31).toUInt32).toInt32).toUInt32 >>> ((1 : Int32) &&& 31).toUInt32).toInt32)) = own_nl (Int32.ofNat k.val) := by decide +kernel
set_option maxRecDepth 65536 in
theorem own_leaf5 : ∀ k : Fin 512, ((0 : Int32) < (Int32.ofNat k.val)) → (¬ ((Int32.ofNat k.val) < (256 : Int32))) → ((((Int32.ofNat k.val).toUInt32 >>> ((8 : Int32) &&& 31).toUInt32).toInt32) < (16 : Int32)) → ((((Int32.ofNat k.val).toUInt32 >>> ((8 : Int32) &&& 31).toUInt32).toInt32) < (4 : Int32)) → (((31 : Int32) + (-8 : Int32)) - (((((Int32.ofNat k.val).toUInt32 >>> ((8 : Int32) &&& 31).toUInt32).toInt32).toUInt32 >>> ((1 : Int32) &&& 31).toUInt32).toInt32)) = own_nl (Int32.ofNat k.val) := by decide +kernel
set_option maxRecDepth 65536 in
theorem own_leaf6 : ∀ k : Fin 512, ((0 : Int32) < (Int32.ofNat k.val)) → (¬ ((Int32.ofNat k.val) < (256 : Int32))) → ((((Int32.ofNat k.val).toUInt32 >>> ((8 : Int32) &&& 31).toUInt32).toInt32) < (16 : Int32)) → (¬ ((((Int32.ofNat k.val).toUInt32 >>> ((8 : Int32) &&& 31).toUInt32).toInt32) < (4 : Int32))) → ((((31 : Int32) + (-8 : Int32)) + (-2 : Int32)) - (((((((Int32.ofNat k.val).toUInt32 >>> ((8 : Int32) &&& 31).toUInt32).toInt32).toUInt32 >>> ((2 : Int32) &&& 31).toUInt32).toInt32).toUInt32 >>> ((1 : Int32) &&& 31).toUInt32).toInt32)) = own_nl (Int32.ofNat k.val) := by decide +kernel
set_option maxRecDepth 65536 in
theorem own_leaf7 : ∀ k : Fin 512, ((0 : Int32) < (Int32.ofNat k.val)) → (¬ ((Int32.ofNat k.val) < (256 : Int32))) → (¬ ((((Int32.ofNat k.val).toUInt32 >>> ((8 : Int32) &&& 31).toUInt32).toInt32) < (16 : Int32))) → ((((((Int32.ofNat k.val).toUInt32 >>> ((8 : Int32) &&& 31).toUInt32).toInt32).toUInt32 >>> ((4 : Int32) &&& 31).toUInt32).toInt32) < (4 : Int32)) → ((((31 : Int32) + (-8 : Int32)) + (-4 : Int32)) - (((((((Int32.ofNat k.val).toUInt32 >>> ((8 : Int32) &&& 31).toUInt32).toInt32).toUInt32 >>> ((4 : Int32) &&& 31).toUInt32).toInt32).toUInt32 >>> ((1 : Int32) &&& 31).toUInt32).toInt32)) = own_nl (Int32.ofNat k.val) := by decide +kernel
set_option maxRecDepth 65536 in
theorem own_leaf8 : ∀ k : Fin 512, ((0 : Int32) < (Int32.ofNat k.val)) → (¬ ((Int32.ofNat k.val) < (256 : Int32))) → (¬ ((((Int32.ofNat k.val).toUInt32 >>> ((8 : Int32) &&& 31).toUInt32).toInt32) < (16 : Int32))) → (¬ ((((((Int32.ofNat k.val).toUInt32 >>> ((8 : Int32) &&& 31).toUInt32).toInt32).toUInt32 >>> ((4 : Int32) &&& 31).toUInt32).toInt32) < (4 : Int32))) → (((((31 : Int32) + (-8 : Int32)) + (-4 : Int32)) + (-2 : Int32)) - (((((((((Int32.ofNat k.val).toUInt32 >>> ((8 : Int32) &&& 31).toUInt32).toInt32).toUInt32 >>> ((4 : Int32) &&& 31).toUInt32).toInt32).toUInt32 >>> ((2 : Int32) &&& 31).toUInt32).toInt32).toUInt32 >>> ((1 : Int32) &&& 31).toUInt32).toInt32)) = own_nl (Int32.ofNat k.val) := by decide +kernel
set_option maxRecDepth 65536 in
theorem own_leaf9 : ∀ k : Fin 512, (¬ ((0 : Int32) < (Int32.ofNat k.val))) → ((Int32.ofNat k.val) = (0 : Int32)) → (32 : Int32) = own_nl (Int32.ofNat k.val) := by decide +kernel
set_option maxRecDepth 65536 in
theorem own_leaf10 : ∀ k : Fin 512, (¬ ((0 : Int32) < (Int32.ofNat k.val))) → (¬ ((Int32.ofNat k.val) = (0 : Int32))) → (0 : Int32) = own_nl (Int32.ofNat k.val) := by decide +kernel
def Q_own_nlz (Z : State) (p1 : Int32) (h0 : Heap) (n0 : Nat) (v : Option Value) (h : Heap) (L : List Loc) : Prop := v = some (.int (own_nl p1)) ∧ Fr n0 L ∧ h = h0
theorem ef_own_nlz (m : MethodId) (x0 : Int32) : entryFrame m #[(.int x0)] 2 = mkF m 0 #[.val (.int x0), .unset] [] := by first | (simp [entryFrame, mkF, argsToLocals, Value.category]; done) | rfl
set_option maxRecDepth 65536 in
set_option maxHeartbeats 40000000 in
theorem own_nlz (l : Launch) (Z : State) (a0 : Array Value) (hw : ∀ d ∈ tables_1, d.before a0 Z = true) (ws : List Jvm.Cond) (p1 : Int32) (h0 : Heap) (n0 : Nat) (Z0 : n0 ≤ h0.size) (hlo : 0 ≤ p1.toInt) (hhi : p1.toInt ≤ 511) :
    MetFree l (⟨"java/lang/Integer", "numberOfLeadingZeros", "(I)I"⟩ : MethodName) (head1 (Jvm.Cond.code (⟨"java/lang/Integer", "numberOfLeadingZeros", "(I)I"⟩ : MethodName) jdk_33_method_47_code 2 (some .int) :: ws) ({ frames := 0, cells := 0, slots := 0, locals := 0 } : Room)) (fun a U => a = #[(.int p1)] ∧ Z.Warmed39 U.vm ∧ U.heap = h0) (fun _ _ _ _ _ => True) (fun _ U o U' => ∃ v L, o = .returned v ∧ Q_own_nlz Z p1 h0 n0 v U'.heap L ∧ FrameEnd U o U' L ({ frames := 0, cells := 0, slots := 0, locals := 0 } : Room).cells ({ frames := 0, cells := 0, slots := 0, locals := 0 } : Room).slots) := by
  refine MetFree.of_bodySF (plainFor_of_name own_pn0) hisR ?_
  intro p e s m args below meth c s₁ Bd hml0 hP hK
  obtain ⟨rfl, hZ, hh⟩ := hP
  have hx := Bd.exec
  have hby := Bd.bytes
  have hml : c.maxLocals = 2 := hml0
  have hown : s.vm.findClass "java/lang/Integer" = some m.cls := findClass_of_methodNamed Bd.named
  have hnm := (name_of_methodNamed Bd.named Bd.method).1
  have X0 : Stand p l e ({ frames := 0, cells := 0, slots := 0, locals := 0 } : Room) s m #[(.int p1)] below meth c s₁ [] 0 0 := Stand.of_body Bd
  have e0 : s₁.heap = h0 := by rw [← hh, Bd.state]; rfl
  have N0 := Fr.nil n0
  show own_Fin p.tables e below _ (s₁.setTop (entryFrame m #[(.int p1)] 2))
  refine own_go (fun _ k => castTop (ef_own_nlz m p1) k) ?_
  show own_Fin p.tables e below _ (s₁.setTop (mkF m 0 #[.val (.int p1), .unset] []))
  refine own_go (fun _ k => XS.iloadN X0.here hx rfl (hb hby d2_0) rfl k) ?_
  show own_Fin p.tables e below _ (s₁.setTop (mkF m 1 #[.val (.int p1), .unset] [(.int p1)]))
  by_cases hc1 : (0 : Int32) < p1
  · refine own_go (fun _ k => XS.ifYes X0.here hx rfl (pc0 := 1) (pc' := 15) rfl (hb hby d2_1) rfl ((if0 _ _).trans (tlt hc1).2.2.1) (by decide) (by decide) k) ?_
    show own_Fin p.tables e below _ (s₁.setTop (mkF m 15 #[.val (.int p1), .unset] []))
    refine own_go (fun _ k => XS.bipush X0.here hx rfl (hb hby d2_15) k) ?_
    show own_Fin p.tables e below _ (s₁.setTop (mkF m 17 #[.val (.int p1), .unset] [(.int (31 : Int32))]))
    refine own_go (fun _ k => XS.istoreN X0.here hx rfl (hb hby d2_17) rfl (l' := #[.val (.int p1), .val (.int (31 : Int32))]) rfl k) ?_
    show own_Fin p.tables e below _ (s₁.setTop (mkF m 18 #[.val (.int p1), .val (.int (31 : Int32))] []))
    refine own_go (fun _ k => XS.iloadN X0.here hx rfl (hb hby d2_18) rfl k) ?_
    show own_Fin p.tables e below _ (s₁.setTop (mkF m 19 #[.val (.int p1), .val (.int (31 : Int32))] [(.int p1)]))
    refine own_go (X0.ldcwInt hx hown (mvT hZ (hw _ (List.mem_of_getElem? (i := 13) rfl))) (g := (mkF m 19 #[.val (.int p1), .val (.int (31 : Int32))] [(.int p1)])) rfl (hb hby d2_19)) ?_
    show own_Fin p.tables e below _ (s₁.setTop (mkF m 22 #[.val (.int p1), .val (.int (31 : Int32))] [(.int (65536 : Int32)), (.int p1)]))
    refine own_go (fun _ k => XS.icmpYes X0.here hx rfl (pc0 := 22) (pc' := 33) rfl (hb hby d2_22) rfl (tlt (own_lt16 hhi)).1 (by decide) (by decide) k) ?_
    show own_Fin p.tables e below _ (s₁.setTop (mkF m 33 #[.val (.int p1), .val (.int (31 : Int32))] []))
    refine own_go (fun _ k => XS.iloadN X0.here hx rfl (hb hby d2_33) rfl k) ?_
    show own_Fin p.tables e below _ (s₁.setTop (mkF m 34 #[.val (.int p1), .val (.int (31 : Int32))] [(.int p1)]))
    refine own_go (fun _ k => XS.sipush X0.here hx rfl (hb hby d2_34) k) ?_
    show own_Fin p.tables e below _ (s₁.setTop (mkF m 37 #[.val (.int p1), .val (.int (31 : Int32))] [(.int (256 : Int32)), (.int p1)]))
    by_cases hc37 : p1 < (256 : Int32)
    · refine own_go (fun _ k => XS.icmpYes X0.here hx rfl (pc0 := 37) (pc' := 48) rfl (hb hby d2_37) rfl (tlt hc37).1 (by decide) (by decide) k) ?_
      show own_Fin p.tables e below _ (s₁.setTop (mkF m 48 #[.val (.int p1), .val (.int (31 : Int32))] []))
      refine own_go (fun _ k => XS.iloadN X0.here hx rfl (hb hby d2_48) rfl k) ?_
      show own_Fin p.tables e below _ (s₁.setTop (mkF m 49 #[.val (.int p1), .val (.int (31 : Int32))] [(.int p1)]))
      refine own_go (fun _ k => XS.bipush X0.here hx rfl (hb hby d2_49) k) ?_
      show own_Fin p.tables e below _ (s₁.setTop (mkF m 51 #[.val (.int p1), .val (.int (31 : Int32))] [(.int (16 : Int32)), (.int p1)]))
      by_cases hc51 : p1 < (16 : Int32)
      · refine own_go (fun _ k => XS.icmpYes X0.here hx rfl (pc0 := 51) (pc' := 61) rfl (hb hby d2_51) rfl (tlt hc51).1 (by decide) (by decide) k) ?_
        show own_Fin p.tables e below _ (s₁.setTop (mkF m 61 #[.val (.int p1), .val (.int (31 : Int32))] []))
        refine own_go (fun _ k => XS.iloadN X0.here hx rfl (hb hby d2_61) rfl k) ?_
        show own_Fin p.tables e below _ (s₁.setTop (mkF m 62 #[.val (.int p1), .val (.int (31 : Int32))] [(.int p1)]))
        refine own_go (fun _ k => XS.iconst X0.here hx rfl (hb hby d2_62) k) ?_
        show own_Fin p.tables e below _ (s₁.setTop (mkF m 63 #[.val (.int p1), .val (.int (31 : Int32))] [(.int (4 : Int32)), (.int p1)]))
        by_cases hc63 : p1 < (4 : Int32)
        · refine own_go (fun _ k => XS.icmpYes X0.here hx rfl (pc0 := 63) (pc' := 73) rfl (hb hby d2_63) rfl (tlt hc63).1 (by decide) (by decide) k) ?_
          show own_Fin p.tables e below _ (s₁.setTop (mkF m 73 #[.val (.int p1), .val (.int (31 : Int32))] []))
          refine own_go (fun _ k => XS.iloadN X0.here hx rfl (hb hby d2_73) rfl k) ?_
          show own_Fin p.tables e below _ (s₁.setTop (mkF m 74 #[.val (.int p1), .val (.int (31 : Int32))] [(.int (31 : Int32))]))
          refine own_go (fun _ k => XS.iloadN X0.here hx rfl (hb hby d2_74) rfl k) ?_
          show own_Fin p.tables e below _ (s₁.setTop (mkF m 75 #[.val (.int p1), .val (.int (31 : Int32))] [(.int p1), (.int (31 : Int32))]))
          refine own_go (fun _ k => XS.iconst X0.here hx rfl (hb hby d2_75) k) ?_
          show own_Fin p.tables e below _ (s₁.setTop (mkF m 76 #[.val (.int p1), .val (.int (31 : Int32))] [(.int (1 : Int32)), (.int p1), (.int (31 : Int32))]))
          refine own_go (fun _ k => XS.iushr X0.here hx rfl (hb hby d2_76) rfl k) ?_
          show own_Fin p.tables e below _ (s₁.setTop (mkF m 77 #[.val (.int p1), .val (.int (31 : Int32))] [(.int ((p1.toUInt32 >>> ((1 : Int32) &&& 31).toUInt32).toInt32)), (.int (31 : Int32))]))
          refine own_go (fun _ k => XS.isub X0.here hx rfl (hb hby d2_77) rfl k) ?_
          show own_Fin p.tables e below _ (s₁.setTop (mkF m 78 #[.val (.int p1), .val (.int (31 : Int32))] [(.int ((31 : Int32) - ((p1.toUInt32 >>> ((1 : Int32) &&& 31).toUInt32).toInt32)))]))
          obtain ⟨fs, hr, hrun, hended, hW, hsame⟩ := X0.leave (v := some (.int ((31 : Int32) - ((p1.toUInt32 >>> ((1 : Int32) &&& 31).toUInt32).toInt32)))) (fun h => by rw [Bd.returns] at h; cases h)
          refine ⟨_, _, ?_, hrun, hended, _, _, rfl, ?_, ⟨_, rfl⟩, hW, hsame.mono (by decide) (by decide)⟩
          · exact own_retI X0 hx Bd.returns (hb hby d2_78) hr
          · show Q_own_nlz Z p1 h0 n0 _ s₁.heap _
            rw [e0]
            exact ⟨(by obtain ⟨k, rfl⟩ := own_fin hlo hhi; exact congrArg (fun z => some (Value.int z)) (own_leaf1 k hc1 hc37 hc51 hc63)), N0, rfl⟩
        · refine own_go (fun _ k => XS.icmpNo X0.here hx rfl (hb hby d2_63) rfl (flt hc63).1 k) ?_
          show own_Fin p.tables e below _ (s₁.setTop (mkF m 66 #[.val (.int p1), .val (.int (31 : Int32))] []))
          refine own_go (fun _ k => XS.iinc X0.here hx rfl (hb hby d2_66) rfl (l' := #[.val (.int p1), .val (.int ((31 : Int32) + (-2 : Int32)))]) rfl k) ?_
          show own_Fin p.tables e below _ (s₁.setTop (mkF m 69 #[.val (.int p1), .val (.int ((31 : Int32) + (-2 : Int32)))] []))
          refine own_go (fun _ k => XS.iloadN X0.here hx rfl (hb hby d2_69) rfl k) ?_
          show own_Fin p.tables e below _ (s₁.setTop (mkF m 70 #[.val (.int p1), .val (.int ((31 : Int32) + (-2 : Int32)))] [(.int p1)]))
          refine own_go (fun _ k => XS.iconst X0.here hx rfl (hb hby d2_70) k) ?_
          show own_Fin p.tables e below _ (s₁.setTop (mkF m 71 #[.val (.int p1), .val (.int ((31 : Int32) + (-2 : Int32)))] [(.int (2 : Int32)), (.int p1)]))
          refine own_go (fun _ k => XS.iushr X0.here hx rfl (hb hby d2_71) rfl k) ?_
          show own_Fin p.tables e below _ (s₁.setTop (mkF m 72 #[.val (.int p1), .val (.int ((31 : Int32) + (-2 : Int32)))] [(.int ((p1.toUInt32 >>> ((2 : Int32) &&& 31).toUInt32).toInt32))]))
          refine own_go (fun _ k => XS.istoreN X0.here hx rfl (hb hby d2_72) rfl (l' := #[.val (.int ((p1.toUInt32 >>> ((2 : Int32) &&& 31).toUInt32).toInt32)), .val (.int ((31 : Int32) + (-2 : Int32)))]) rfl k) ?_
          show own_Fin p.tables e below _ (s₁.setTop (mkF m 73 #[.val (.int ((p1.toUInt32 >>> ((2 : Int32) &&& 31).toUInt32).toInt32)), .val (.int ((31 : Int32) + (-2 : Int32)))] []))
          refine own_go (fun _ k => XS.iloadN X0.here hx rfl (hb hby d2_73) rfl k) ?_
          show own_Fin p.tables e below _ (s₁.setTop (mkF m 74 #[.val (.int ((p1.toUInt32 >>> ((2 : Int32) &&& 31).toUInt32).toInt32)), .val (.int ((31 : Int32) + (-2 : Int32)))] [(.int ((31 : Int32) + (-2 : Int32)))]))
          refine own_go (fun _ k => XS.iloadN X0.here hx rfl (hb hby d2_74) rfl k) ?_
          show own_Fin p.tables e below _ (s₁.setTop (mkF m 75 #[.val (.int ((p1.toUInt32 >>> ((2 : Int32) &&& 31).toUInt32).toInt32)), .val (.int ((31 : Int32) + (-2 : Int32)))] [(.int ((p1.toUInt32 >>> ((2 : Int32) &&& 31).toUInt32).toInt32)), (.int ((31 : Int32) + (-2 : Int32)))]))
          refine own_go (fun _ k => XS.iconst X0.here hx rfl (hb hby d2_75) k) ?_
          show own_Fin p.tables e below _ (s₁.setTop (mkF m 76 #[.val (.int ((p1.toUInt32 >>> ((2 : Int32) &&& 31).toUInt32).toInt32)), .val (.int ((31 : Int32) + (-2 : Int32)))] [(.int (1 : Int32)), (.int ((p1.toUInt32 >>> ((2 : Int32) &&& 31).toUInt32).toInt32)), (.int ((31 : Int32) + (-2 : Int32)))]))
          refine own_go (fun _ k => XS.iushr X0.here hx rfl (hb hby d2_76) rfl k) ?_
          show own_Fin p.tables e below _ (s₁.setTop (mkF m 77 #[.val (.int ((p1.toUInt32 >>> ((2 : Int32) &&& 31).toUInt32).toInt32)), .val (.int ((31 : Int32) + (-2 : Int32)))] [(.int ((((p1.toUInt32 >>> ((2 : Int32) &&& 31).toUInt32).toInt32).toUInt32 >>> ((1 : Int32) &&& 31).toUInt32).toInt32)), (.int ((31 : Int32) + (-2 : Int32)))]))
          refine own_go (fun _ k => XS.isub X0.here hx rfl (hb hby d2_77) rfl k) ?_
          show own_Fin p.tables e below _ (s₁.setTop (mkF m 78 #[.val (.int ((p1.toUInt32 >>> ((2 : Int32) &&& 31).toUInt32).toInt32)), .val (.int ((31 : Int32) + (-2 : Int32)))] [(.int (((31 : Int32) + (-2 : Int32)) - ((((p1.toUInt32 >>> ((2 : Int32) &&& 31).toUInt32).toInt32).toUInt32 >>> ((1 : Int32) &&& 31).toUInt32).toInt32)))]))
          obtain ⟨fs, hr, hrun, hended, hW, hsame⟩ := X0.leave (v := some (.int (((31 : Int32) + (-2 : Int32)) - ((((p1.toUInt32 >>> ((2 : Int32) &&& 31).toUInt32).toInt32).toUInt32 >>> ((1 : Int32) &&& 31).toUInt32).toInt32)))) (fun h => by rw [Bd.returns] at h; cases h)
          refine ⟨_, _, ?_, hrun, hended, _, _, rfl, ?_, ⟨_, rfl⟩, hW, hsame.mono (by decide) (by decide)⟩
          · exact own_retI X0 hx Bd.returns (hb hby d2_78) hr
          · show Q_own_nlz Z p1 h0 n0 _ s₁.heap _
            rw [e0]
            exact ⟨(by obtain ⟨k, rfl⟩ := own_fin hlo hhi; exact congrArg (fun z => some (Value.int z)) (own_leaf2 k hc1 hc37 hc51 hc63)), N0, rfl⟩
      · refine own_go (fun _ k => XS.icmpNo X0.here hx rfl (hb hby d2_51) rfl (flt hc51).1 k) ?_
        show own_Fin p.tables e below _ (s₁.setTop (mkF m 54 #[.val (.int p1), .val (.int (31 : Int32))] []))
        refine own_go (fun _ k => XS.iinc X0.here hx rfl (hb hby d2_54) rfl (l' := #[.val (.int p1), .val (.int ((31 : Int32) + (-4 : Int32)))]) rfl k) ?_
        show own_Fin p.tables e below _ (s₁.setTop (mkF m 57 #[.val (.int p1), .val (.int ((31 : Int32) + (-4 : Int32)))] []))
        refine own_go (fun _ k => XS.iloadN X0.here hx rfl (hb hby d2_57) rfl k) ?_
        show own_Fin p.tables e below _ (s₁.setTop (mkF m 58 #[.val (.int p1), .val (.int ((31 : Int32) + (-4 : Int32)))] [(.int p1)]))
        refine own_go (fun _ k => XS.iconst X0.here hx rfl (hb hby d2_58) k) ?_
        show own_Fin p.tables e below _ (s₁.setTop (mkF m 59 #[.val (.int p1), .val (.int ((31 : Int32) + (-4 : Int32)))] [(.int (4 : Int32)), (.int p1)]))
        refine own_go (fun _ k => XS.iushr X0.here hx rfl (hb hby d2_59) rfl k) ?_
        show own_Fin p.tables e below _ (s₁.setTop (mkF m 60 #[.val (.int p1), .val (.int ((31 : Int32) + (-4 : Int32)))] [(.int ((p1.toUInt32 >>> ((4 : Int32) &&& 31).toUInt32).toInt32))]))
        refine own_go (fun _ k => XS.istoreN X0.here hx rfl (hb hby d2_60) rfl (l' := #[.val (.int ((p1.toUInt32 >>> ((4 : Int32) &&& 31).toUInt32).toInt32)), .val (.int ((31 : Int32) + (-4 : Int32)))]) rfl k) ?_
        show own_Fin p.tables e below _ (s₁.setTop (mkF m 61 #[.val (.int ((p1.toUInt32 >>> ((4 : Int32) &&& 31).toUInt32).toInt32)), .val (.int ((31 : Int32) + (-4 : Int32)))] []))
        refine own_go (fun _ k => XS.iloadN X0.here hx rfl (hb hby d2_61) rfl k) ?_
        show own_Fin p.tables e below _ (s₁.setTop (mkF m 62 #[.val (.int ((p1.toUInt32 >>> ((4 : Int32) &&& 31).toUInt32).toInt32)), .val (.int ((31 : Int32) + (-4 : Int32)))] [(.int ((p1.toUInt32 >>> ((4 : Int32) &&& 31).toUInt32).toInt32))]))
        refine own_go (fun _ k => XS.iconst X0.here hx rfl (hb hby d2_62) k) ?_
        show own_Fin p.tables e below _ (s₁.setTop (mkF m 63 #[.val (.int ((p1.toUInt32 >>> ((4 : Int32) &&& 31).toUInt32).toInt32)), .val (.int ((31 : Int32) + (-4 : Int32)))] [(.int (4 : Int32)), (.int ((p1.toUInt32 >>> ((4 : Int32) &&& 31).toUInt32).toInt32))]))
        by_cases hc63 : ((p1.toUInt32 >>> ((4 : Int32) &&& 31).toUInt32).toInt32) < (4 : Int32)
        · refine own_go (fun _ k => XS.icmpYes X0.here hx rfl (pc0 := 63) (pc' := 73) rfl (hb hby d2_63) rfl (tlt hc63).1 (by decide) (by decide) k) ?_
          show own_Fin p.tables e below _ (s₁.setTop (mkF m 73 #[.val (.int ((p1.toUInt32 >>> ((4 : Int32) &&& 31).toUInt32).toInt32)), .val (.int ((31 : Int32) + (-4 : Int32)))] []))
          refine own_go (fun _ k => XS.iloadN X0.here hx rfl (hb hby d2_73) rfl k) ?_
          show own_Fin p.tables e below _ (s₁.setTop (mkF m 74 #[.val (.int ((p1.toUInt32 >>> ((4 : Int32) &&& 31).toUInt32).toInt32)), .val (.int ((31 : Int32) + (-4 : Int32)))] [(.int ((31 : Int32) + (-4 : Int32)))]))
          refine own_go (fun _ k => XS.iloadN X0.here hx rfl (hb hby d2_74) rfl k) ?_
          show own_Fin p.tables e below _ (s₁.setTop (mkF m 75 #[.val (.int ((p1.toUInt32 >>> ((4 : Int32) &&& 31).toUInt32).toInt32)), .val (.int ((31 : Int32) + (-4 : Int32)))] [(.int ((p1.toUInt32 >>> ((4 : Int32) &&& 31).toUInt32).toInt32)), (.int ((31 : Int32) + (-4 : Int32)))]))
          refine own_go (fun _ k => XS.iconst X0.here hx rfl (hb hby d2_75) k) ?_
          show own_Fin p.tables e below _ (s₁.setTop (mkF m 76 #[.val (.int ((p1.toUInt32 >>> ((4 : Int32) &&& 31).toUInt32).toInt32)), .val (.int ((31 : Int32) + (-4 : Int32)))] [(.int (1 : Int32)), (.int ((p1.toUInt32 >>> ((4 : Int32) &&& 31).toUInt32).toInt32)), (.int ((31 : Int32) + (-4 : Int32)))]))
          refine own_go (fun _ k => XS.iushr X0.here hx rfl (hb hby d2_76) rfl k) ?_
          show own_Fin p.tables e below _ (s₁.setTop (mkF m 77 #[.val (.int ((p1.toUInt32 >>> ((4 : Int32) &&& 31).toUInt32).toInt32)), .val (.int ((31 : Int32) + (-4 : Int32)))] [(.int ((((p1.toUInt32 >>> ((4 : Int32) &&& 31).toUInt32).toInt32).toUInt32 >>> ((1 : Int32) &&& 31).toUInt32).toInt32)), (.int ((31 : Int32) + (-4 : Int32)))]))
          refine own_go (fun _ k => XS.isub X0.here hx rfl (hb hby d2_77) rfl k) ?_
          show own_Fin p.tables e below _ (s₁.setTop (mkF m 78 #[.val (.int ((p1.toUInt32 >>> ((4 : Int32) &&& 31).toUInt32).toInt32)), .val (.int ((31 : Int32) + (-4 : Int32)))] [(.int (((31 : Int32) + (-4 : Int32)) - ((((p1.toUInt32 >>> ((4 : Int32) &&& 31).toUInt32).toInt32).toUInt32 >>> ((1 : Int32) &&& 31).toUInt32).toInt32)))]))
          obtain ⟨fs, hr, hrun, hended, hW, hsame⟩ := X0.leave (v := some (.int (((31 : Int32) + (-4 : Int32)) - ((((p1.toUInt32 >>> ((4 : Int32) &&& 31).toUInt32).toInt32).toUInt32 >>> ((1 : Int32) &&& 31).toUInt32).toInt32)))) (fun h => by rw [Bd.returns] at h; cases h)
          refine ⟨_, _, ?_, hrun, hended, _, _, rfl, ?_, ⟨_, rfl⟩, hW, hsame.mono (by decide) (by decide)⟩
          · exact own_retI X0 hx Bd.returns (hb hby d2_78) hr
          · show Q_own_nlz Z p1 h0 n0 _ s₁.heap _
            rw [e0]
            exact ⟨(by obtain ⟨k, rfl⟩ := own_fin hlo hhi; exact congrArg (fun z => some (Value.int z)) (own_leaf3 k hc1 hc37 hc51 hc63)), N0, rfl⟩
        · refine own_go (fun _ k => XS.icmpNo X0.here hx rfl (hb hby d2_63) rfl (flt hc63).1 k) ?_
          show own_Fin p.tables e below _ (s₁.setTop (mkF m 66 #[.val (.int ((p1.toUInt32 >>> ((4 : Int32) &&& 31).toUInt32).toInt32)), .val (.int ((31 : Int32) + (-4 : Int32)))] []))
          refine own_go (fun _ k => XS.iinc X0.here hx rfl (hb hby d2_66) rfl (l' := #[.val (.int ((p1.toUInt32 >>> ((4 : Int32) &&& 31).toUInt32).toInt32)), .val (.int (((31 : Int32) + (-4 : Int32)) + (-2 : Int32)))]) rfl k) ?_
          show own_Fin p.tables e below _ (s₁.setTop (mkF m 69 #[.val (.int ((p1.toUInt32 >>> ((4 : Int32) &&& 31).toUInt32).toInt32)), .val (.int (((31 : Int32) + (-4 : Int32)) + (-2 : Int32)))] []))
          refine own_go (fun _ k => XS.iloadN X0.here hx rfl (hb hby d2_69) rfl k) ?_
          show own_Fin p.tables e below _ (s₁.setTop (mkF m 70 #[.val (.int ((p1.toUInt32 >>> ((4 : Int32) &&& 31).toUInt32).toInt32)), .val (.int (((31 : Int32) + (-4 : Int32)) + (-2 : Int32)))] [(.int ((p1.toUInt32 >>> ((4 : Int32) &&& 31).toUInt32).toInt32))]))
          refine own_go (fun _ k => XS.iconst X0.here hx rfl (hb hby d2_70) k) ?_
          show own_Fin p.tables e below _ (s₁.setTop (mkF m 71 #[.val (.int ((p1.toUInt32 >>> ((4 : Int32) &&& 31).toUInt32).toInt32)), .val (.int (((31 : Int32) + (-4 : Int32)) + (-2 : Int32)))] [(.int (2 : Int32)), (.int ((p1.toUInt32 >>> ((4 : Int32) &&& 31).toUInt32).toInt32))]))
          refine own_go (fun _ k => XS.iushr X0.here hx rfl (hb hby d2_71) rfl k) ?_
          show own_Fin p.tables e below _ (s₁.setTop (mkF m 72 #[.val (.int ((p1.toUInt32 >>> ((4 : Int32) &&& 31).toUInt32).toInt32)), .val (.int (((31 : Int32) + (-4 : Int32)) + (-2 : Int32)))] [(.int ((((p1.toUInt32 >>> ((4 : Int32) &&& 31).toUInt32).toInt32).toUInt32 >>> ((2 : Int32) &&& 31).toUInt32).toInt32))]))
          refine own_go (fun _ k => XS.istoreN X0.here hx rfl (hb hby d2_72) rfl (l' := #[.val (.int ((((p1.toUInt32 >>> ((4 : Int32) &&& 31).toUInt32).toInt32).toUInt32 >>> ((2 : Int32) &&& 31).toUInt32).toInt32)), .val (.int (((31 : Int32) + (-4 : Int32)) + (-2 : Int32)))]) rfl k) ?_
          show own_Fin p.tables e below _ (s₁.setTop (mkF m 73 #[.val (.int ((((p1.toUInt32 >>> ((4 : Int32) &&& 31).toUInt32).toInt32).toUInt32 >>> ((2 : Int32) &&& 31).toUInt32).toInt32)), .val (.int (((31 : Int32) + (-4 : Int32)) + (-2 : Int32)))] []))
          refine own_go (fun _ k => XS.iloadN X0.here hx rfl (hb hby d2_73) rfl k) ?_
          show own_Fin p.tables e below _ (s₁.setTop (mkF m 74 #[.val (.int ((((p1.toUInt32 >>> ((4 : Int32) &&& 31).toUInt32).toInt32).toUInt32 >>> ((2 : Int32) &&& 31).toUInt32).toInt32)), .val (.int (((31 : Int32) + (-4 : Int32)) + (-2 : Int32)))] [(.int (((31 : Int32) + (-4 : Int32)) + (-2 : Int32)))]))
          refine own_go (fun _ k => XS.iloadN X0.here hx rfl (hb hby d2_74) rfl k) ?_
          show own_Fin p.tables e below _ (s₁.setTop (mkF m 75 #[.val (.int ((((p1.toUInt32 >>> ((4 : Int32) &&& 31).toUInt32).toInt32).toUInt32 >>> ((2 : Int32) &&& 31).toUInt32).toInt32)), .val (.int (((31 : Int32) + (-4 : Int32)) + (-2 : Int32)))] [(.int ((((p1.toUInt32 >>> ((4 : Int32) &&& 31).toUInt32).toInt32).toUInt32 >>> ((2 : Int32) &&& 31).toUInt32).toInt32)), (.int (((31 : Int32) + (-4 : Int32)) + (-2 : Int32)))]))
          refine own_go (fun _ k => XS.iconst X0.here hx rfl (hb hby d2_75) k) ?_
          show own_Fin p.tables e below _ (s₁.setTop (mkF m 76 #[.val (.int ((((p1.toUInt32 >>> ((4 : Int32) &&& 31).toUInt32).toInt32).toUInt32 >>> ((2 : Int32) &&& 31).toUInt32).toInt32)), .val (.int (((31 : Int32) + (-4 : Int32)) + (-2 : Int32)))] [(.int (1 : Int32)), (.int ((((p1.toUInt32 >>> ((4 : Int32) &&& 31).toUInt32).toInt32).toUInt32 >>> ((2 : Int32) &&& 31).toUInt32).toInt32)), (.int (((31 : Int32) + (-4 : Int32)) + (-2 : Int32)))]))
          refine own_go (fun _ k => XS.iushr X0.here hx rfl (hb hby d2_76) rfl k) ?_
          show own_Fin p.tables e below _ (s₁.setTop (mkF m 77 #[.val (.int ((((p1.toUInt32 >>> ((4 : Int32) &&& 31).toUInt32).toInt32).toUInt32 >>> ((2 : Int32) &&& 31).toUInt32).toInt32)), .val (.int (((31 : Int32) + (-4 : Int32)) + (-2 : Int32)))] [(.int ((((((p1.toUInt32 >>> ((4 : Int32) &&& 31).toUInt32).toInt32).toUInt32 >>> ((2 : Int32) &&& 31).toUInt32).toInt32).toUInt32 >>> ((1 : Int32) &&& 31).toUInt32).toInt32)), (.int (((31 : Int32) + (-4 : Int32)) + (-2 : Int32)))]))
          refine own_go (fun _ k => XS.isub X0.here hx rfl (hb hby d2_77) rfl k) ?_
          show own_Fin p.tables e below _ (s₁.setTop (mkF m 78 #[.val (.int ((((p1.toUInt32 >>> ((4 : Int32) &&& 31).toUInt32).toInt32).toUInt32 >>> ((2 : Int32) &&& 31).toUInt32).toInt32)), .val (.int (((31 : Int32) + (-4 : Int32)) + (-2 : Int32)))] [(.int ((((31 : Int32) + (-4 : Int32)) + (-2 : Int32)) - ((((((p1.toUInt32 >>> ((4 : Int32) &&& 31).toUInt32).toInt32).toUInt32 >>> ((2 : Int32) &&& 31).toUInt32).toInt32).toUInt32 >>> ((1 : Int32) &&& 31).toUInt32).toInt32)))]))
          obtain ⟨fs, hr, hrun, hended, hW, hsame⟩ := X0.leave (v := some (.int ((((31 : Int32) + (-4 : Int32)) + (-2 : Int32)) - ((((((p1.toUInt32 >>> ((4 : Int32) &&& 31).toUInt32).toInt32).toUInt32 >>> ((2 : Int32) &&& 31).toUInt32).toInt32).toUInt32 >>> ((1 : Int32) &&& 31).toUInt32).toInt32)))) (fun h => by rw [Bd.returns] at h; cases h)
          refine ⟨_, _, ?_, hrun, hended, _, _, rfl, ?_, ⟨_, rfl⟩, hW, hsame.mono (by decide) (by decide)⟩
          · exact own_retI X0 hx Bd.returns (hb hby d2_78) hr
          · show Q_own_nlz Z p1 h0 n0 _ s₁.heap _
            rw [e0]
            exact ⟨(by obtain ⟨k, rfl⟩ := own_fin hlo hhi; exact congrArg (fun z => some (Value.int z)) (own_leaf4 k hc1 hc37 hc51 hc63)), N0, rfl⟩
    · refine own_go (fun _ k => XS.icmpNo X0.here hx rfl (hb hby d2_37) rfl (flt hc37).1 k) ?_
      show own_Fin p.tables e below _ (s₁.setTop (mkF m 40 #[.val (.int p1), .val (.int (31 : Int32))] []))
      refine own_go (fun _ k => XS.iinc X0.here hx rfl (hb hby d2_40) rfl (l' := #[.val (.int p1), .val (.int ((31 : Int32) + (-8 : Int32)))]) rfl k) ?_
      show own_Fin p.tables e below _ (s₁.setTop (mkF m 43 #[.val (.int p1), .val (.int ((31 : Int32) + (-8 : Int32)))] []))
      refine own_go (fun _ k => XS.iloadN X0.here hx rfl (hb hby d2_43) rfl k) ?_
      show own_Fin p.tables e below _ (s₁.setTop (mkF m 44 #[.val (.int p1), .val (.int ((31 : Int32) + (-8 : Int32)))] [(.int p1)]))
      refine own_go (fun _ k => XS.bipush X0.here hx rfl (hb hby d2_44) k) ?_
      show own_Fin p.tables e below _ (s₁.setTop (mkF m 46 #[.val (.int p1), .val (.int ((31 : Int32) + (-8 : Int32)))] [(.int (8 : Int32)), (.int p1)]))
      refine own_go (fun _ k => XS.iushr X0.here hx rfl (hb hby d2_46) rfl k) ?_
      show own_Fin p.tables e below _ (s₁.setTop (mkF m 47 #[.val (.int p1), .val (.int ((31 : Int32) + (-8 : Int32)))] [(.int ((p1.toUInt32 >>> ((8 : Int32) &&& 31).toUInt32).toInt32))]))
      refine own_go (fun _ k => XS.istoreN X0.here hx rfl (hb hby d2_47) rfl (l' := #[.val (.int ((p1.toUInt32 >>> ((8 : Int32) &&& 31).toUInt32).toInt32)), .val (.int ((31 : Int32) + (-8 : Int32)))]) rfl k) ?_
      show own_Fin p.tables e below _ (s₁.setTop (mkF m 48 #[.val (.int ((p1.toUInt32 >>> ((8 : Int32) &&& 31).toUInt32).toInt32)), .val (.int ((31 : Int32) + (-8 : Int32)))] []))
      refine own_go (fun _ k => XS.iloadN X0.here hx rfl (hb hby d2_48) rfl k) ?_
      show own_Fin p.tables e below _ (s₁.setTop (mkF m 49 #[.val (.int ((p1.toUInt32 >>> ((8 : Int32) &&& 31).toUInt32).toInt32)), .val (.int ((31 : Int32) + (-8 : Int32)))] [(.int ((p1.toUInt32 >>> ((8 : Int32) &&& 31).toUInt32).toInt32))]))
      refine own_go (fun _ k => XS.bipush X0.here hx rfl (hb hby d2_49) k) ?_
      show own_Fin p.tables e below _ (s₁.setTop (mkF m 51 #[.val (.int ((p1.toUInt32 >>> ((8 : Int32) &&& 31).toUInt32).toInt32)), .val (.int ((31 : Int32) + (-8 : Int32)))] [(.int (16 : Int32)), (.int ((p1.toUInt32 >>> ((8 : Int32) &&& 31).toUInt32).toInt32))]))
      by_cases hc51 : ((p1.toUInt32 >>> ((8 : Int32) &&& 31).toUInt32).toInt32) < (16 : Int32)
      · refine own_go (fun _ k => XS.icmpYes X0.here hx rfl (pc0 := 51) (pc' := 61) rfl (hb hby d2_51) rfl (tlt hc51).1 (by decide) (by decide) k) ?_
        show own_Fin p.tables e below _ (s₁.setTop (mkF m 61 #[.val (.int ((p1.toUInt32 >>> ((8 : Int32) &&& 31).toUInt32).toInt32)), .val (.int ((31 : Int32) + (-8 : Int32)))] []))
        refine own_go (fun _ k => XS.iloadN X0.here hx rfl (hb hby d2_61) rfl k) ?_
        show own_Fin p.tables e below _ (s₁.setTop (mkF m 62 #[.val (.int ((p1.toUInt32 >>> ((8 : Int32) &&& 31).toUInt32).toInt32)), .val (.int ((31 : Int32) + (-8 : Int32)))] [(.int ((p1.toUInt32 >>> ((8 : Int32) &&& 31).toUInt32).toInt32))]))
        refine own_go (fun _ k => XS.iconst X0.here hx rfl (hb hby d2_62) k) ?_
        show own_Fin p.tables e below _ (s₁.setTop (mkF m 63 #[.val (.int ((p1.toUInt32 >>> ((8 : Int32) &&& 31).toUInt32).toInt32)), .val (.int ((31 : Int32) + (-8 : Int32)))] [(.int (4 : Int32)), (.int ((p1.toUInt32 >>> ((8 : Int32) &&& 31).toUInt32).toInt32))]))
        by_cases hc63 : ((p1.toUInt32 >>> ((8 : Int32) &&& 31).toUInt32).toInt32) < (4 : Int32)
        · refine own_go (fun _ k => XS.icmpYes X0.here hx rfl (pc0 := 63) (pc' := 73) rfl (hb hby d2_63) rfl (tlt hc63).1 (by decide) (by decide) k) ?_
          show own_Fin p.tables e below _ (s₁.setTop (mkF m 73 #[.val (.int ((p1.toUInt32 >>> ((8 : Int32) &&& 31).toUInt32).toInt32)), .val (.int ((31 : Int32) + (-8 : Int32)))] []))
          refine own_go (fun _ k => XS.iloadN X0.here hx rfl (hb hby d2_73) rfl k) ?_
          show own_Fin p.tables e below _ (s₁.setTop (mkF m 74 #[.val (.int ((p1.toUInt32 >>> ((8 : Int32) &&& 31).toUInt32).toInt32)), .val (.int ((31 : Int32) + (-8 : Int32)))] [(.int ((31 : Int32) + (-8 : Int32)))]))
          refine own_go (fun _ k => XS.iloadN X0.here hx rfl (hb hby d2_74) rfl k) ?_
          show own_Fin p.tables e below _ (s₁.setTop (mkF m 75 #[.val (.int ((p1.toUInt32 >>> ((8 : Int32) &&& 31).toUInt32).toInt32)), .val (.int ((31 : Int32) + (-8 : Int32)))] [(.int ((p1.toUInt32 >>> ((8 : Int32) &&& 31).toUInt32).toInt32)), (.int ((31 : Int32) + (-8 : Int32)))]))
          refine own_go (fun _ k => XS.iconst X0.here hx rfl (hb hby d2_75) k) ?_
          show own_Fin p.tables e below _ (s₁.setTop (mkF m 76 #[.val (.int ((p1.toUInt32 >>> ((8 : Int32) &&& 31).toUInt32).toInt32)), .val (.int ((31 : Int32) + (-8 : Int32)))] [(.int (1 : Int32)), (.int ((p1.toUInt32 >>> ((8 : Int32) &&& 31).toUInt32).toInt32)), (.int ((31 : Int32) + (-8 : Int32)))]))
          refine own_go (fun _ k => XS.iushr X0.here hx rfl (hb hby d2_76) rfl k) ?_
          show own_Fin p.tables e below _ (s₁.setTop (mkF m 77 #[.val (.int ((p1.toUInt32 >>> ((8 : Int32) &&& 31).toUInt32).toInt32)), .val (.int ((31 : Int32) + (-8 : Int32)))] [(.int ((((p1.toUInt32 >>> ((8 : Int32) &&& 31).toUInt32).toInt32).toUInt32 >>> ((1 : Int32) &&& 31).toUInt32).toInt32)), (.int ((31 : Int32) + (-8 : Int32)))]))
          refine own_go (fun _ k => XS.isub X0.here hx rfl (hb hby d2_77) rfl k) ?_
          show own_Fin p.tables e below _ (s₁.setTop (mkF m 78 #[.val (.int ((p1.toUInt32 >>> ((8 : Int32) &&& 31).toUInt32).toInt32)), .val (.int ((31 : Int32) + (-8 : Int32)))] [(.int (((31 : Int32) + (-8 : Int32)) - ((((p1.toUInt32 >>> ((8 : Int32) &&& 31).toUInt32).toInt32).toUInt32 >>> ((1 : Int32) &&& 31).toUInt32).toInt32)))]))
          obtain ⟨fs, hr, hrun, hended, hW, hsame⟩ := X0.leave (v := some (.int (((31 : Int32) + (-8 : Int32)) - ((((p1.toUInt32 >>> ((8 : Int32) &&& 31).toUInt32).toInt32).toUInt32 >>> ((1 : Int32) &&& 31).toUInt32).toInt32)))) (fun h => by rw [Bd.returns] at h; cases h)
          refine ⟨_, _, ?_, hrun, hended, _, _, rfl, ?_, ⟨_, rfl⟩, hW, hsame.mono (by decide) (by decide)⟩
          · exact own_retI X0 hx Bd.returns (hb hby d2_78) hr
          · show Q_own_nlz Z p1 h0 n0 _ s₁.heap _
            rw [e0]
            exact ⟨(by obtain ⟨k, rfl⟩ := own_fin hlo hhi; exact congrArg (fun z => some (Value.int z)) (own_leaf5 k hc1 hc37 hc51 hc63)), N0, rfl⟩
        · refine own_go (fun _ k => XS.icmpNo X0.here hx rfl (hb hby d2_63) rfl (flt hc63).1 k) ?_
          show own_Fin p.tables e below _ (s₁.setTop (mkF m 66 #[.val (.int ((p1.toUInt32 >>> ((8 : Int32) &&& 31).toUInt32).toInt32)), .val (.int ((31 : Int32) + (-8 : Int32)))] []))
          refine own_go (fun _ k => XS.iinc X0.here hx rfl (hb hby d2_66) rfl (l' := #[.val (.int ((p1.toUInt32 >>> ((8 : Int32) &&& 31).toUInt32).toInt32)), .val (.int (((31 : Int32) + (-8 : Int32)) + (-2 : Int32)))]) rfl k) ?_
          show own_Fin p.tables e below _ (s₁.setTop (mkF m 69 #[.val (.int ((p1.toUInt32 >>> ((8 : Int32) &&& 31).toUInt32).toInt32)), .val (.int (((31 : Int32) + (-8 : Int32)) + (-2 : Int32)))] []))
          refine own_go (fun _ k => XS.iloadN X0.here hx rfl (hb hby d2_69) rfl k) ?_
          show own_Fin p.tables e below _ (s₁.setTop (mkF m 70 #[.val (.int ((p1.toUInt32 >>> ((8 : Int32) &&& 31).toUInt32).toInt32)), .val (.int (((31 : Int32) + (-8 : Int32)) + (-2 : Int32)))] [(.int ((p1.toUInt32 >>> ((8 : Int32) &&& 31).toUInt32).toInt32))]))
          refine own_go (fun _ k => XS.iconst X0.here hx rfl (hb hby d2_70) k) ?_
          show own_Fin p.tables e below _ (s₁.setTop (mkF m 71 #[.val (.int ((p1.toUInt32 >>> ((8 : Int32) &&& 31).toUInt32).toInt32)), .val (.int (((31 : Int32) + (-8 : Int32)) + (-2 : Int32)))] [(.int (2 : Int32)), (.int ((p1.toUInt32 >>> ((8 : Int32) &&& 31).toUInt32).toInt32))]))
          refine own_go (fun _ k => XS.iushr X0.here hx rfl (hb hby d2_71) rfl k) ?_
          show own_Fin p.tables e below _ (s₁.setTop (mkF m 72 #[.val (.int ((p1.toUInt32 >>> ((8 : Int32) &&& 31).toUInt32).toInt32)), .val (.int (((31 : Int32) + (-8 : Int32)) + (-2 : Int32)))] [(.int ((((p1.toUInt32 >>> ((8 : Int32) &&& 31).toUInt32).toInt32).toUInt32 >>> ((2 : Int32) &&& 31).toUInt32).toInt32))]))
          refine own_go (fun _ k => XS.istoreN X0.here hx rfl (hb hby d2_72) rfl (l' := #[.val (.int ((((p1.toUInt32 >>> ((8 : Int32) &&& 31).toUInt32).toInt32).toUInt32 >>> ((2 : Int32) &&& 31).toUInt32).toInt32)), .val (.int (((31 : Int32) + (-8 : Int32)) + (-2 : Int32)))]) rfl k) ?_
          show own_Fin p.tables e below _ (s₁.setTop (mkF m 73 #[.val (.int ((((p1.toUInt32 >>> ((8 : Int32) &&& 31).toUInt32).toInt32).toUInt32 >>> ((2 : Int32) &&& 31).toUInt32).toInt32)), .val (.int (((31 : Int32) + (-8 : Int32)) + (-2 : Int32)))] []))
          refine own_go (fun _ k => XS.iloadN X0.here hx rfl (hb hby d2_73) rfl k) ?_
          show own_Fin p.tables e below _ (s₁.setTop (mkF m 74 #[.val (.int ((((p1.toUInt32 >>> ((8 : Int32) &&& 31).toUInt32).toInt32).toUInt32 >>> ((2 : Int32) &&& 31).toUInt32).toInt32)), .val (.int (((31 : Int32) + (-8 : Int32)) + (-2 : Int32)))] [(.int (((31 : Int32) + (-8 : Int32)) + (-2 : Int32)))]))
          refine own_go (fun _ k => XS.iloadN X0.here hx rfl (hb hby d2_74) rfl k) ?_
          show own_Fin p.tables e below _ (s₁.setTop (mkF m 75 #[.val (.int ((((p1.toUInt32 >>> ((8 : Int32) &&& 31).toUInt32).toInt32).toUInt32 >>> ((2 : Int32) &&& 31).toUInt32).toInt32)), .val (.int (((31 : Int32) + (-8 : Int32)) + (-2 : Int32)))] [(.int ((((p1.toUInt32 >>> ((8 : Int32) &&& 31).toUInt32).toInt32).toUInt32 >>> ((2 : Int32) &&& 31).toUInt32).toInt32)), (.int (((31 : Int32) + (-8 : Int32)) + (-2 : Int32)))]))
          refine own_go (fun _ k => XS.iconst X0.here hx rfl (hb hby d2_75) k) ?_
          show own_Fin p.tables e below _ (s₁.setTop (mkF m 76 #[.val (.int ((((p1.toUInt32 >>> ((8 : Int32) &&& 31).toUInt32).toInt32).toUInt32 >>> ((2 : Int32) &&& 31).toUInt32).toInt32)), .val (.int (((31 : Int32) + (-8 : Int32)) + (-2 : Int32)))] [(.int (1 : Int32)), (.int ((((p1.toUInt32 >>> ((8 : Int32) &&& 31).toUInt32).toInt32).toUInt32 >>> ((2 : Int32) &&& 31).toUInt32).toInt32)), (.int (((31 : Int32) + (-8 : Int32)) + (-2 : Int32)))]))
          refine own_go (fun _ k => XS.iushr X0.here hx rfl (hb hby d2_76) rfl k) ?_
          show own_Fin p.tables e below _ (s₁.setTop (mkF m 77 #[.val (.int ((((p1.toUInt32 >>> ((8 : Int32) &&& 31).toUInt32).toInt32).toUInt32 >>> ((2 : Int32) &&& 31).toUInt32).toInt32)), .val (.int (((31 : Int32) + (-8 : Int32)) + (-2 : Int32)))] [(.int ((((((p1.toUInt32 >>> ((8 : Int32) &&& 31).toUInt32).toInt32).toUInt32 >>> ((2 : Int32) &&& 31).toUInt32).toInt32).toUInt32 >>> ((1 : Int32) &&& 31).toUInt32).toInt32)), (.int (((31 : Int32) + (-8 : Int32)) + (-2 : Int32)))]))
          refine own_go (fun _ k => XS.isub X0.here hx rfl (hb hby d2_77) rfl k) ?_
          show own_Fin p.tables e below _ (s₁.setTop (mkF m 78 #[.val (.int ((((p1.toUInt32 >>> ((8 : Int32) &&& 31).toUInt32).toInt32).toUInt32 >>> ((2 : Int32) &&& 31).toUInt32).toInt32)), .val (.int (((31 : Int32) + (-8 : Int32)) + (-2 : Int32)))] [(.int ((((31 : Int32) + (-8 : Int32)) + (-2 : Int32)) - ((((((p1.toUInt32 >>> ((8 : Int32) &&& 31).toUInt32).toInt32).toUInt32 >>> ((2 : Int32) &&& 31).toUInt32).toInt32).toUInt32 >>> ((1 : Int32) &&& 31).toUInt32).toInt32)))]))
          obtain ⟨fs, hr, hrun, hended, hW, hsame⟩ := X0.leave (v := some (.int ((((31 : Int32) + (-8 : Int32)) + (-2 : Int32)) - ((((((p1.toUInt32 >>> ((8 : Int32) &&& 31).toUInt32).toInt32).toUInt32 >>> ((2 : Int32) &&& 31).toUInt32).toInt32).toUInt32 >>> ((1 : Int32) &&& 31).toUInt32).toInt32)))) (fun h => by rw [Bd.returns] at h; cases h)
          refine ⟨_, _, ?_, hrun, hended, _, _, rfl, ?_, ⟨_, rfl⟩, hW, hsame.mono (by decide) (by decide)⟩
          · exact own_retI X0 hx Bd.returns (hb hby d2_78) hr
          · show Q_own_nlz Z p1 h0 n0 _ s₁.heap _
            rw [e0]
            exact ⟨(by obtain ⟨k, rfl⟩ := own_fin hlo hhi; exact congrArg (fun z => some (Value.int z)) (own_leaf6 k hc1 hc37 hc51 hc63)), N0, rfl⟩
      · refine own_go (fun _ k => XS.icmpNo X0.here hx rfl (hb hby d2_51) rfl (flt hc51).1 k) ?_
        show own_Fin p.tables e below _ (s₁.setTop (mkF m 54 #[.val (.int ((p1.toUInt32 >>> ((8 : Int32) &&& 31).toUInt32).toInt32)), .val (.int ((31 : Int32) + (-8 : Int32)))] []))
        refine own_go (fun _ k => XS.iinc X0.here hx rfl (hb hby d2_54) rfl (l' := #[.val (.int ((p1.toUInt32 >>> ((8 : Int32) &&& 31).toUInt32).toInt32)), .val (.int (((31 : Int32) + (-8 : Int32)) + (-4 : Int32)))]) rfl k) ?_
        show own_Fin p.tables e below _ (s₁.setTop (mkF m 57 #[.val (.int ((p1.toUInt32 >>> ((8 : Int32) &&& 31).toUInt32).toInt32)), .val (.int (((31 : Int32) + (-8 : Int32)) + (-4 : Int32)))] []))
        refine own_go (fun _ k => XS.iloadN X0.here hx rfl (hb hby d2_57) rfl k) ?_
        show own_Fin p.tables e below _ (s₁.setTop (mkF m 58 #[.val (.int ((p1.toUInt32 >>> ((8 : Int32) &&& 31).toUInt32).toInt32)), .val (.int (((31 : Int32) + (-8 : Int32)) + (-4 : Int32)))] [(.int ((p1.toUInt32 >>> ((8 : Int32) &&& 31).toUInt32).toInt32))]))
        refine own_go (fun _ k => XS.iconst X0.here hx rfl (hb hby d2_58) k) ?_
        show own_Fin p.tables e below _ (s₁.setTop (mkF m 59 #[.val (.int ((p1.toUInt32 >>> ((8 : Int32) &&& 31).toUInt32).toInt32)), .val (.int (((31 : Int32) + (-8 : Int32)) + (-4 : Int32)))] [(.int (4 : Int32)), (.int ((p1.toUInt32 >>> ((8 : Int32) &&& 31).toUInt32).toInt32))]))
        refine own_go (fun _ k => XS.iushr X0.here hx rfl (hb hby d2_59) rfl k) ?_
        show own_Fin p.tables e below _ (s₁.setTop (mkF m 60 #[.val (.int ((p1.toUInt32 >>> ((8 : Int32) &&& 31).toUInt32).toInt32)), .val (.int (((31 : Int32) + (-8 : Int32)) + (-4 : Int32)))] [(.int ((((p1.toUInt32 >>> ((8 : Int32) &&& 31).toUInt32).toInt32).toUInt32 >>> ((4 : Int32) &&& 31).toUInt32).toInt32))]))
        refine own_go (fun _ k => XS.istoreN X0.here hx rfl (hb hby d2_60) rfl (l' := #[.val (.int ((((p1.toUInt32 >>> ((8 : Int32) &&& 31).toUInt32).toInt32).toUInt32 >>> ((4 : Int32) &&& 31).toUInt32).toInt32)), .val (.int (((31 : Int32) + (-8 : Int32)) + (-4 : Int32)))]) rfl k) ?_
        show own_Fin p.tables e below _ (s₁.setTop (mkF m 61 #[.val (.int ((((p1.toUInt32 >>> ((8 : Int32) &&& 31).toUInt32).toInt32).toUInt32 >>> ((4 : Int32) &&& 31).toUInt32).toInt32)), .val (.int (((31 : Int32) + (-8 : Int32)) + (-4 : Int32)))] []))
        refine own_go (fun _ k => XS.iloadN X0.here hx rfl (hb hby d2_61) rfl k) ?_
        show own_Fin p.tables e below _ (s₁.setTop (mkF m 62 #[.val (.int ((((p1.toUInt32 >>> ((8 : Int32) &&& 31).toUInt32).toInt32).toUInt32 >>> ((4 : Int32) &&& 31).toUInt32).toInt32)), .val (.int (((31 : Int32) + (-8 : Int32)) + (-4 : Int32)))] [(.int ((((p1.toUInt32 >>> ((8 : Int32) &&& 31).toUInt32).toInt32).toUInt32 >>> ((4 : Int32) &&& 31).toUInt32).toInt32))]))
        refine own_go (fun _ k => XS.iconst X0.here hx rfl (hb hby d2_62) k) ?_
        show own_Fin p.tables e below _ (s₁.setTop (mkF m 63 #[.val (.int ((((p1.toUInt32 >>> ((8 : Int32) &&& 31).toUInt32).toInt32).toUInt32 >>> ((4 : Int32) &&& 31).toUInt32).toInt32)), .val (.int (((31 : Int32) + (-8 : Int32)) + (-4 : Int32)))] [(.int (4 : Int32)), (.int ((((p1.toUInt32 >>> ((8 : Int32) &&& 31).toUInt32).toInt32).toUInt32 >>> ((4 : Int32) &&& 31).toUInt32).toInt32))]))
        by_cases hc63 : ((((p1.toUInt32 >>> ((8 : Int32) &&& 31).toUInt32).toInt32).toUInt32 >>> ((4 : Int32) &&& 31).toUInt32).toInt32) < (4 : Int32)
        · refine own_go (fun _ k => XS.icmpYes X0.here hx rfl (pc0 := 63) (pc' := 73) rfl (hb hby d2_63) rfl (tlt hc63).1 (by decide) (by decide) k) ?_
          show own_Fin p.tables e below _ (s₁.setTop (mkF m 73 #[.val (.int ((((p1.toUInt32 >>> ((8 : Int32) &&& 31).toUInt32).toInt32).toUInt32 >>> ((4 : Int32) &&& 31).toUInt32).toInt32)), .val (.int (((31 : Int32) + (-8 : Int32)) + (-4 : Int32)))] []))
          refine own_go (fun _ k => XS.iloadN X0.here hx rfl (hb hby d2_73) rfl k) ?_
          show own_Fin p.tables e below _ (s₁.setTop (mkF m 74 #[.val (.int ((((p1.toUInt32 >>> ((8 : Int32) &&& 31).toUInt32).toInt32).toUInt32 >>> ((4 : Int32) &&& 31).toUInt32).toInt32)), .val (.int (((31 : Int32) + (-8 : Int32)) + (-4 : Int32)))] [(.int (((31 : Int32) + (-8 : Int32)) + (-4 : Int32)))]))
          refine own_go (fun _ k => XS.iloadN X0.here hx rfl (hb hby d2_74) rfl k) ?_
          show own_Fin p.tables e below _ (s₁.setTop (mkF m 75 #[.val (.int ((((p1.toUInt32 >>> ((8 : Int32) &&& 31).toUInt32).toInt32).toUInt32 >>> ((4 : Int32) &&& 31).toUInt32).toInt32)), .val (.int (((31 : Int32) + (-8 : Int32)) + (-4 : Int32)))] [(.int ((((p1.toUInt32 >>> ((8 : Int32) &&& 31).toUInt32).toInt32).toUInt32 >>> ((4 : Int32) &&& 31).toUInt32).toInt32)), (.int (((31 : Int32) + (-8 : Int32)) + (-4 : Int32)))]))
          refine own_go (fun _ k => XS.iconst X0.here hx rfl (hb hby d2_75) k) ?_
          show own_Fin p.tables e below _ (s₁.setTop (mkF m 76 #[.val (.int ((((p1.toUInt32 >>> ((8 : Int32) &&& 31).toUInt32).toInt32).toUInt32 >>> ((4 : Int32) &&& 31).toUInt32).toInt32)), .val (.int (((31 : Int32) + (-8 : Int32)) + (-4 : Int32)))] [(.int (1 : Int32)), (.int ((((p1.toUInt32 >>> ((8 : Int32) &&& 31).toUInt32).toInt32).toUInt32 >>> ((4 : Int32) &&& 31).toUInt32).toInt32)), (.int (((31 : Int32) + (-8 : Int32)) + (-4 : Int32)))]))
          refine own_go (fun _ k => XS.iushr X0.here hx rfl (hb hby d2_76) rfl k) ?_
          show own_Fin p.tables e below _ (s₁.setTop (mkF m 77 #[.val (.int ((((p1.toUInt32 >>> ((8 : Int32) &&& 31).toUInt32).toInt32).toUInt32 >>> ((4 : Int32) &&& 31).toUInt32).toInt32)), .val (.int (((31 : Int32) + (-8 : Int32)) + (-4 : Int32)))] [(.int ((((((p1.toUInt32 >>> ((8 : Int32) &&& 31).toUInt32).toInt32).toUInt32 >>> ((4 : Int32) &&& 31).toUInt32).toInt32).toUInt32 >>> ((1 : Int32) &&& 31).toUInt32).toInt32)), (.int (((31 : Int32) + (-8 : Int32)) + (-4 : Int32)))]))
          refine own_go (fun _ k => XS.isub X0.here hx rfl (hb hby d2_77) rfl k) ?_
          show own_Fin p.tables e below _ (s₁.setTop (mkF m 78 #[.val (.int ((((p1.toUInt32 >>> ((8 : Int32) &&& 31).toUInt32).toInt32).toUInt32 >>> ((4 : Int32) &&& 31).toUInt32).toInt32)), .val (.int (((31 : Int32) + (-8 : Int32)) + (-4 : Int32)))] [(.int ((((31 : Int32) + (-8 : Int32)) + (-4 : Int32)) - ((((((p1.toUInt32 >>> ((8 : Int32) &&& 31).toUInt32).toInt32).toUInt32 >>> ((4 : Int32) &&& 31).toUInt32).toInt32).toUInt32 >>> ((1 : Int32) &&& 31).toUInt32).toInt32)))]))
          obtain ⟨fs, hr, hrun, hended, hW, hsame⟩ := X0.leave (v := some (.int ((((31 : Int32) + (-8 : Int32)) + (-4 : Int32)) - ((((((p1.toUInt32 >>> ((8 : Int32) &&& 31).toUInt32).toInt32).toUInt32 >>> ((4 : Int32) &&& 31).toUInt32).toInt32).toUInt32 >>> ((1 : Int32) &&& 31).toUInt32).toInt32)))) (fun h => by rw [Bd.returns] at h; cases h)
          refine ⟨_, _, ?_, hrun, hended, _, _, rfl, ?_, ⟨_, rfl⟩, hW, hsame.mono (by decide) (by decide)⟩
          · exact own_retI X0 hx Bd.returns (hb hby d2_78) hr
          · show Q_own_nlz Z p1 h0 n0 _ s₁.heap _
            rw [e0]
            exact ⟨(by obtain ⟨k, rfl⟩ := own_fin hlo hhi; exact congrArg (fun z => some (Value.int z)) (own_leaf7 k hc1 hc37 hc51 hc63)), N0, rfl⟩
        · refine own_go (fun _ k => XS.icmpNo X0.here hx rfl (hb hby d2_63) rfl (flt hc63).1 k) ?_
          show own_Fin p.tables e below _ (s₁.setTop (mkF m 66 #[.val (.int ((((p1.toUInt32 >>> ((8 : Int32) &&& 31).toUInt32).toInt32).toUInt32 >>> ((4 : Int32) &&& 31).toUInt32).toInt32)), .val (.int (((31 : Int32) + (-8 : Int32)) + (-4 : Int32)))] []))
          refine own_go (fun _ k => XS.iinc X0.here hx rfl (hb hby d2_66) rfl (l' := #[.val (.int ((((p1.toUInt32 >>> ((8 : Int32) &&& 31).toUInt32).toInt32).toUInt32 >>> ((4 : Int32) &&& 31).toUInt32).toInt32)), .val (.int ((((31 : Int32) + (-8 : Int32)) + (-4 : Int32)) + (-2 : Int32)))]) rfl k) ?_
          show own_Fin p.tables e below _ (s₁.setTop (mkF m 69 #[.val (.int ((((p1.toUInt32 >>> ((8 : Int32) &&& 31).toUInt32).toInt32).toUInt32 >>> ((4 : Int32) &&& 31).toUInt32).toInt32)), .val (.int ((((31 : Int32) + (-8 : Int32)) + (-4 : Int32)) + (-2 : Int32)))] []))
          refine own_go (fun _ k => XS.iloadN X0.here hx rfl (hb hby d2_69) rfl k) ?_
          show own_Fin p.tables e below _ (s₁.setTop (mkF m 70 #[.val (.int ((((p1.toUInt32 >>> ((8 : Int32) &&& 31).toUInt32).toInt32).toUInt32 >>> ((4 : Int32) &&& 31).toUInt32).toInt32)), .val (.int ((((31 : Int32) + (-8 : Int32)) + (-4 : Int32)) + (-2 : Int32)))] [(.int ((((p1.toUInt32 >>> ((8 : Int32) &&& 31).toUInt32).toInt32).toUInt32 >>> ((4 : Int32) &&& 31).toUInt32).toInt32))]))
          refine own_go (fun _ k => XS.iconst X0.here hx rfl (hb hby d2_70) k) ?_
          show own_Fin p.tables e below _ (s₁.setTop (mkF m 71 #[.val (.int ((((p1.toUInt32 >>> ((8 : Int32) &&& 31).toUInt32).toInt32).toUInt32 >>> ((4 : Int32) &&& 31).toUInt32).toInt32)), .val (.int ((((31 : Int32) + (-8 : Int32)) + (-4 : Int32)) + (-2 : Int32)))] [(.int (2 : Int32)), (.int ((((p1.toUInt32 >>> ((8 : Int32) &&& 31).toUInt32).toInt32).toUInt32 >>> ((4 : Int32) &&& 31).toUInt32).toInt32))]))
          refine own_go (fun _ k => XS.iushr X0.here hx rfl (hb hby d2_71) rfl k) ?_
          show own_Fin p.tables e below _ (s₁.setTop (mkF m 72 #[.val (.int ((((p1.toUInt32 >>> ((8 : Int32) &&& 31).toUInt32).toInt32).toUInt32 >>> ((4 : Int32) &&& 31).toUInt32).toInt32)), .val (.int ((((31 : Int32) + (-8 : Int32)) + (-4 : Int32)) + (-2 : Int32)))] [(.int ((((((p1.toUInt32 >>> ((8 : Int32) &&& 31).toUInt32).toInt32).toUInt32 >>> ((4 : Int32) &&& 31).toUInt32).toInt32).toUInt32 >>> ((2 : Int32) &&& 31).toUInt32).toInt32))]))
          refine own_go (fun _ k => XS.istoreN X0.here hx rfl (hb hby d2_72) rfl (l' := #[.val (.int ((((((p1.toUInt32 >>> ((8 : Int32) &&& 31).toUInt32).toInt32).toUInt32 >>> ((4 : Int32) &&& 31).toUInt32).toInt32).toUInt32 >>> ((2 : Int32) &&& 31).toUInt32).toInt32)), .val (.int ((((31 : Int32) + (-8 : Int32)) + (-4 : Int32)) + (-2 : Int32)))]) rfl k) ?_
          show own_Fin p.tables e below _ (s₁.setTop (mkF m 73 #[.val (.int ((((((p1.toUInt32 >>> ((8 : Int32) &&& 31).toUInt32).toInt32).toUInt32 >>> ((4 : Int32) &&& 31).toUInt32).toInt32).toUInt32 >>> ((2 : Int32) &&& 31).toUInt32).toInt32)), .val (.int ((((31 : Int32) + (-8 : Int32)) + (-4 : Int32)) + (-2 : Int32)))] []))
          refine own_go (fun _ k => XS.iloadN X0.here hx rfl (hb hby d2_73) rfl k) ?_
          show own_Fin p.tables e below _ (s₁.setTop (mkF m 74 #[.val (.int ((((((p1.toUInt32 >>> ((8 : Int32) &&& 31).toUInt32).toInt32).toUInt32 >>> ((4 : Int32) &&& 31).toUInt32).toInt32).toUInt32 >>> ((2 : Int32) &&& 31).toUInt32).toInt32)), .val (.int ((((31 : Int32) + (-8 : Int32)) + (-4 : Int32)) + (-2 : Int32)))] [(.int ((((31 : Int32) + (-8 : Int32)) + (-4 : Int32)) + (-2 : Int32)))]))
          refine own_go (fun _ k => XS.iloadN X0.here hx rfl (hb hby d2_74) rfl k) ?_
          show own_Fin p.tables e below _ (s₁.setTop (mkF m 75 #[.val (.int ((((((p1.toUInt32 >>> ((8 : Int32) &&& 31).toUInt32).toInt32).toUInt32 >>> ((4 : Int32) &&& 31).toUInt32).toInt32).toUInt32 >>> ((2 : Int32) &&& 31).toUInt32).toInt32)), .val (.int ((((31 : Int32) + (-8 : Int32)) + (-4 : Int32)) + (-2 : Int32)))] [(.int ((((((p1.toUInt32 >>> ((8 : Int32) &&& 31).toUInt32).toInt32).toUInt32 >>> ((4 : Int32) &&& 31).toUInt32).toInt32).toUInt32 >>> ((2 : Int32) &&& 31).toUInt32).toInt32)), (.int ((((31 : Int32) + (-8 : Int32)) + (-4 : Int32)) + (-2 : Int32)))]))
          refine own_go (fun _ k => XS.iconst X0.here hx rfl (hb hby d2_75) k) ?_
          show own_Fin p.tables e below _ (s₁.setTop (mkF m 76 #[.val (.int ((((((p1.toUInt32 >>> ((8 : Int32) &&& 31).toUInt32).toInt32).toUInt32 >>> ((4 : Int32) &&& 31).toUInt32).toInt32).toUInt32 >>> ((2 : Int32) &&& 31).toUInt32).toInt32)), .val (.int ((((31 : Int32) + (-8 : Int32)) + (-4 : Int32)) + (-2 : Int32)))] [(.int (1 : Int32)), (.int ((((((p1.toUInt32 >>> ((8 : Int32) &&& 31).toUInt32).toInt32).toUInt32 >>> ((4 : Int32) &&& 31).toUInt32).toInt32).toUInt32 >>> ((2 : Int32) &&& 31).toUInt32).toInt32)), (.int ((((31 : Int32) + (-8 : Int32)) + (-4 : Int32)) + (-2 : Int32)))]))
          refine own_go (fun _ k => XS.iushr X0.here hx rfl (hb hby d2_76) rfl k) ?_
          show own_Fin p.tables e below _ (s₁.setTop (mkF m 77 #[.val (.int ((((((p1.toUInt32 >>> ((8 : Int32) &&& 31).toUInt32).toInt32).toUInt32 >>> ((4 : Int32) &&& 31).toUInt32).toInt32).toUInt32 >>> ((2 : Int32) &&& 31).toUInt32).toInt32)), .val (.int ((((31 : Int32) + (-8 : Int32)) + (-4 : Int32)) + (-2 : Int32)))] [(.int ((((((((p1.toUInt32 >>> ((8 : Int32) &&& 31).toUInt32).toInt32).toUInt32 >>> ((4 : Int32) &&& 31).toUInt32).toInt32).toUInt32 >>> ((2 : Int32) &&& 31).toUInt32).toInt32).toUInt32 >>> ((1 : Int32) &&& 31).toUInt32).toInt32)), (.int ((((31 : Int32) + (-8 : Int32)) + (-4 : Int32)) + (-2 : Int32)))]))
          refine own_go (fun _ k => XS.isub X0.here hx rfl (hb hby d2_77) rfl k) ?_
          show own_Fin p.tables e below _ (s₁.setTop (mkF m 78 #[.val (.int ((((((p1.toUInt32 >>> ((8 : Int32) &&& 31).toUInt32).toInt32).toUInt32 >>> ((4 : Int32) &&& 31).toUInt32).toInt32).toUInt32 >>> ((2 : Int32) &&& 31).toUInt32).toInt32)), .val (.int ((((31 : Int32) + (-8 : Int32)) + (-4 : Int32)) + (-2 : Int32)))] [(.int (((((31 : Int32) + (-8 : Int32)) + (-4 : Int32)) + (-2 : Int32)) - ((((((((p1.toUInt32 >>> ((8 : Int32) &&& 31).toUInt32).toInt32).toUInt32 >>> ((4 : Int32) &&& 31).toUInt32).toInt32).toUInt32 >>> ((2 : Int32) &&& 31).toUInt32).toInt32).toUInt32 >>> ((1 : Int32) &&& 31).toUInt32).toInt32)))]))
          obtain ⟨fs, hr, hrun, hended, hW, hsame⟩ := X0.leave (v := some (.int (((((31 : Int32) + (-8 : Int32)) + (-4 : Int32)) + (-2 : Int32)) - ((((((((p1.toUInt32 >>> ((8 : Int32) &&& 31).toUInt32).toInt32).toUInt32 >>> ((4 : Int32) &&& 31).toUInt32).toInt32).toUInt32 >>> ((2 : Int32) &&& 31).toUInt32).toInt32).toUInt32 >>> ((1 : Int32) &&& 31).toUInt32).toInt32)))) (fun h => by rw [Bd.returns] at h; cases h)
          refine ⟨_, _, ?_, hrun, hended, _, _, rfl, ?_, ⟨_, rfl⟩, hW, hsame.mono (by decide) (by decide)⟩
          · exact own_retI X0 hx Bd.returns (hb hby d2_78) hr
          · show Q_own_nlz Z p1 h0 n0 _ s₁.heap _
            rw [e0]
            exact ⟨(by obtain ⟨k, rfl⟩ := own_fin hlo hhi; exact congrArg (fun z => some (Value.int z)) (own_leaf8 k hc1 hc37 hc51 hc63)), N0, rfl⟩
  · refine own_go (fun _ k => XS.ifNo X0.here hx rfl (hb hby d2_1) rfl ((if0 _ _).trans (flt hc1).2.2.1) k) ?_
    show own_Fin p.tables e below _ (s₁.setTop (mkF m 4 #[.val (.int p1), .unset] []))
    refine own_go (fun _ k => XS.iloadN X0.here hx rfl (hb hby d2_4) rfl k) ?_
    show own_Fin p.tables e below _ (s₁.setTop (mkF m 5 #[.val (.int p1), .unset] [(.int p1)]))
    by_cases hc5 : p1 = (0 : Int32)
    · refine own_go (fun _ k => XS.ifNo X0.here hx rfl (hb hby d2_5) rfl ((if0 _ _).trans (teq hc5).2) k) ?_
      show own_Fin p.tables e below _ (s₁.setTop (mkF m 8 #[.val (.int p1), .unset] []))
      refine own_go (fun _ k => XS.bipush X0.here hx rfl (hb hby d2_8) k) ?_
      show own_Fin p.tables e below _ (s₁.setTop (mkF m 10 #[.val (.int p1), .unset] [(.int (32 : Int32))]))
      refine own_go (fun _ k => XS.goto X0.here hx rfl (pc0 := 10) (pc' := 14) rfl (hb hby d2_10) (by decide) (by decide) k) ?_
      show own_Fin p.tables e below _ (s₁.setTop (mkF m 14 #[.val (.int p1), .unset] [(.int (32 : Int32))]))
      obtain ⟨fs, hr, hrun, hended, hW, hsame⟩ := X0.leave (v := some (.int (32 : Int32))) (fun h => by rw [Bd.returns] at h; cases h)
      refine ⟨_, _, ?_, hrun, hended, _, _, rfl, ?_, ⟨_, rfl⟩, hW, hsame.mono (by decide) (by decide)⟩
      · exact own_retI X0 hx Bd.returns (hb hby d2_14) hr
      · show Q_own_nlz Z p1 h0 n0 _ s₁.heap _
        rw [e0]
        exact ⟨(by obtain ⟨k, rfl⟩ := own_fin hlo hhi; exact congrArg (fun z => some (Value.int z)) (own_leaf9 k hc1 hc5)), N0, rfl⟩
    · refine own_go (fun _ k => XS.ifYes X0.here hx rfl (pc0 := 5) (pc' := 13) rfl (hb hby d2_5) rfl ((if0 _ _).trans (feq hc5).2) (by decide) (by decide) k) ?_
      show own_Fin p.tables e below _ (s₁.setTop (mkF m 13 #[.val (.int p1), .unset] []))
      refine own_go (fun _ k => XS.iconst X0.here hx rfl (hb hby d2_13) k) ?_
      show own_Fin p.tables e below _ (s₁.setTop (mkF m 14 #[.val (.int p1), .unset] [(.int (0 : Int32))]))
      obtain ⟨fs, hr, hrun, hended, hW, hsame⟩ := X0.leave (v := some (.int (0 : Int32))) (fun h => by rw [Bd.returns] at h; cases h)
      refine ⟨_, _, ?_, hrun, hended, _, _, rfl, ?_, ⟨_, rfl⟩, hW, hsame.mono (by decide) (by decide)⟩
      · exact own_retI X0 hx Bd.returns (hb hby d2_14) hr
      · show Q_own_nlz Z p1 h0 n0 _ s₁.heap _
        rw [e0]
        exact ⟨(by obtain ⟨k, rfl⟩ := own_fin hlo hhi; exact congrArg (fun z => some (Value.int z)) (own_leaf10 k hc1 hc5)), N0, rfl⟩
theorem own_ro (p1 : Int32) (h1 : 1 ≤ p1.toInt) (h2 : p1.toInt ≤ 4194304) : 0 ≤ (((((p1 + (8192 : Int32)) - (1 : Int32)).toUInt32 >>> ((13 : Int32) &&& 31).toUInt32).toInt32) - (1 : Int32)).toInt ∧ (((((p1 + (8192 : Int32)) - (1 : Int32)).toUInt32 >>> ((13 : Int32) &&& 31).toUInt32).toInt32) - (1 : Int32)).toInt ≤ 511 ∧ 8192 * (((((p1 + (8192 : Int32)) - (1 : Int32)).toUInt32 >>> ((13 : Int32) &&& 31).toUInt32).toInt32) - (1 : Int32)).toInt < p1.toInt ∧ p1.toInt ≤ 8192 * ((((((p1 + (8192 : Int32)) - (1 : Int32)).toUInt32 >>> ((13 : Int32) &&& 31).toUInt32).toInt32) - (1 : Int32)).toInt + 1) := by
  have a1 := c_iadd p1 (8192 : Int32)
  have a2 := c_isub (p1 + (8192 : Int32)) (1 : Int32)
  have a3 := c_iushr ((p1 + (8192 : Int32)) - (1 : Int32)) (13 : Int32) 13 rfl (by decide)
  have a4 := c_isub ((((p1 + (8192 : Int32)) - (1 : Int32)).toUInt32 >>> ((13 : Int32) &&& 31).toUInt32).toInt32) (1 : Int32)
  have e1 : (8192 : Int32).toInt = 8192 := rfl
  have e2 : (1 : Int32).toInt = 1 := rfl
  have b1 := Int32.toInt_lt (p1 + (8192 : Int32)); have b2 := Int32.le_toInt (p1 + (8192 : Int32))
  have b3 := Int32.toInt_lt ((p1 + (8192 : Int32)) - (1 : Int32)); have b4 := Int32.le_toInt ((p1 + (8192 : Int32)) - (1 : Int32))
  have b5 := Int32.toInt_lt (((((p1 + (8192 : Int32)) - (1 : Int32)).toUInt32 >>> ((13 : Int32) &&& 31).toUInt32).toInt32) - (1 : Int32)); have b6 := Int32.le_toInt (((((p1 + (8192 : Int32)) - (1 : Int32)).toUInt32 >>> ((13 : Int32) &&& 31).toUInt32).toInt32) - (1 : Int32))
  generalize (((((p1 + (8192 : Int32)) - (1 : Int32)).toUInt32 >>> ((13 : Int32) &&& 31).toUInt32).toInt32) - (1 : Int32)).toInt = q at *
  generalize ((((p1 + (8192 : Int32)) - (1 : Int32)).toUInt32 >>> ((13 : Int32) &&& 31).toUInt32).toInt32).toInt = pg at *
  generalize ((p1 + (8192 : Int32)) - (1 : Int32)).toInt = t at *
  generalize (p1 + (8192 : Int32)).toInt = u at *
  generalize p1.toInt = z at *
  have e3 : ((2 ^ 13 : Nat) : Int) = 8192 := rfl
  rw [e3] at a3
  omega
def Q_own_runOrder (Z : State) (p1 : Int32) (h0 : Heap) (n0 : Nat) (v : Option Value) (h : Heap) (L : List Loc) : Prop := v = some (.int ((32 : Int32) - (own_nl (((((p1 + (8192 : Int32)) - (1 : Int32)).toUInt32 >>> ((13 : Int32) &&& 31).toUInt32).toInt32) - (1 : Int32))))) ∧ Fr n0 L ∧ h = h0
theorem ef_own_runOrder (m : MethodId) (x0 : Int32) : entryFrame m #[(.int x0)] 2 = mkF m 0 #[.val (.int x0), .unset] [] := by first | (simp [entryFrame, mkF, argsToLocals, Value.category]; done) | rfl
set_option maxRecDepth 65536 in
set_option maxHeartbeats 40000000 in
theorem own_runOrder (l : Launch) (Z : State) (a0 : Array Value) (hw : ∀ d ∈ tables_1, d.before a0 Z = true) (ws : List Jvm.Cond) (p1 : Int32) (h0 : Heap) (n0 : Nat) (Z0 : n0 ≤ h0.size) (S1 : Sta Z h0 "org/bufwarden/PoolChunk" "PAGE_SHIFT" "I" (.int (13 : Int32))) (hlo : 1 ≤ p1.toInt) (hhi : p1.toInt ≤ 4194304) :
    MetFree l (⟨"org/bufwarden/PoolChunk", "runOrder", "(I)I"⟩ : MethodName) (head1 (Jvm.Cond.code (⟨"org/bufwarden/PoolChunk", "runOrder", "(I)I"⟩ : MethodName) prog_29_method_2_code 2 (some .int) :: ws) ({ frames := 1, cells := 0, slots := 0, locals := 14 } : Room)) (fun a U => a = #[(.int p1)] ∧ Z.Warmed39 U.vm ∧ U.heap = h0) (fun _ _ _ _ _ => True) (fun _ U o U' => ∃ v L, o = .returned v ∧ Q_own_runOrder Z p1 h0 n0 v U'.heap L ∧ FrameEnd U o U' L ({ frames := 1, cells := 0, slots := 0, locals := 14 } : Room).cells ({ frames := 1, cells := 0, slots := 0, locals := 14 } : Room).slots) := by
  refine MetFree.of_bodySF (plainFor_of_name own_pn1) hisR ?_
  intro p e s m args below meth c s₁ Bd hml0 hP hK
  obtain ⟨rfl, hZ, hh⟩ := hP
  have hx := Bd.exec
  have hby := Bd.bytes
  have hml : c.maxLocals = 2 := hml0
  have hown : s.vm.findClass "org/bufwarden/PoolChunk" = some m.cls := findClass_of_methodNamed Bd.named
  have hnm := (name_of_methodNamed Bd.named Bd.method).1
  have X0 : Stand p l e ({ frames := 1, cells := 0, slots := 0, locals := 14 } : Room) s m #[(.int p1)] below meth c s₁ [] 0 0 := Stand.of_body Bd
  have e0 : s₁.heap = h0 := by rw [← hh, Bd.state]; rfl
  have N0 := Fr.nil n0
  show own_Fin p.tables e below _ (s₁.setTop (entryFrame m #[(.int p1)] 2))
  refine own_go (fun _ k => castTop (ef_own_runOrder m p1) k) ?_
  show own_Fin p.tables e below _ (s₁.setTop (mkF m 0 #[.val (.int p1), .unset] []))
  refine own_go (fun _ k => XS.iloadN X0.here hx rfl (hb hby d1_0) rfl k) ?_
  show own_Fin p.tables e below _ (s₁.setTop (mkF m 1 #[.val (.int p1), .unset] [(.int p1)]))
  refine own_go (fun _ k => XS.sipush X0.here hx rfl (hb hby d1_1) k) ?_
  show own_Fin p.tables e below _ (s₁.setTop (mkF m 4 #[.val (.int p1), .unset] [(.int (8192 : Int32)), (.int p1)]))
  refine own_go (fun _ k => XS.iadd X0.here hx rfl (hb hby d1_4) rfl k) ?_
  show own_Fin p.tables e below _ (s₁.setTop (mkF m 5 #[.val (.int p1), .unset] [(.int (p1 + (8192 : Int32)))]))
  refine own_go (fun _ k => XS.iconst X0.here hx rfl (hb hby d1_5) k) ?_
  show own_Fin p.tables e below _ (s₁.setTop (mkF m 6 #[.val (.int p1), .unset] [(.int (1 : Int32)), (.int (p1 + (8192 : Int32)))]))
  refine own_go (fun _ k => XS.isub X0.here hx rfl (hb hby d1_6) rfl k) ?_
  show own_Fin p.tables e below _ (s₁.setTop (mkF m 7 #[.val (.int p1), .unset] [(.int ((p1 + (8192 : Int32)) - (1 : Int32)))]))
  obtain ⟨T1, X1, e1, st1⟩ := getS2 X0 hx hZ hown (host := "") (Or.inl (hw _ (List.mem_of_getElem? (i := 6) rfl))) Via.refl e0 S1 (g := (mkF m 7 #[.val (.int p1), .unset] [(.int ((p1 + (8192 : Int32)) - (1 : Int32)))])) rfl (hb hby d1_7)
  refine own_go st1 ?_
  show own_Fin p.tables e below _ (T1.setTop (mkF m 10 #[.val (.int p1), .unset] [(.int (13 : Int32)), (.int ((p1 + (8192 : Int32)) - (1 : Int32)))]))
  refine own_go (fun _ k => XS.iushr X1.here hx rfl (hb hby d1_10) rfl k) ?_
  show own_Fin p.tables e below _ (T1.setTop (mkF m 11 #[.val (.int p1), .unset] [(.int ((((p1 + (8192 : Int32)) - (1 : Int32)).toUInt32 >>> ((13 : Int32) &&& 31).toUInt32).toInt32))]))
  refine own_go (fun _ k => XS.istoreN X1.here hx rfl (hb hby d1_11) rfl (l' := #[.val (.int p1), .val (.int ((((p1 + (8192 : Int32)) - (1 : Int32)).toUInt32 >>> ((13 : Int32) &&& 31).toUInt32).toInt32))]) rfl k) ?_
  show own_Fin p.tables e below _ (T1.setTop (mkF m 12 #[.val (.int p1), .val (.int ((((p1 + (8192 : Int32)) - (1 : Int32)).toUInt32 >>> ((13 : Int32) &&& 31).toUInt32).toInt32))] []))
  refine own_go (fun _ k => XS.bipush X1.here hx rfl (hb hby d1_12) k) ?_
  show own_Fin p.tables e below _ (T1.setTop (mkF m 14 #[.val (.int p1), .val (.int ((((p1 + (8192 : Int32)) - (1 : Int32)).toUInt32 >>> ((13 : Int32) &&& 31).toUInt32).toInt32))] [(.int (32 : Int32))]))
  refine own_go (fun _ k => XS.iloadN X1.here hx rfl (hb hby d1_14) rfl k) ?_
  show own_Fin p.tables e below _ (T1.setTop (mkF m 15 #[.val (.int p1), .val (.int ((((p1 + (8192 : Int32)) - (1 : Int32)).toUInt32 >>> ((13 : Int32) &&& 31).toUInt32).toInt32))] [(.int ((((p1 + (8192 : Int32)) - (1 : Int32)).toUInt32 >>> ((13 : Int32) &&& 31).toUInt32).toInt32)), (.int (32 : Int32))]))
  refine own_go (fun _ k => XS.iconst X1.here hx rfl (hb hby d1_15) k) ?_
  show own_Fin p.tables e below _ (T1.setTop (mkF m 16 #[.val (.int p1), .val (.int ((((p1 + (8192 : Int32)) - (1 : Int32)).toUInt32 >>> ((13 : Int32) &&& 31).toUInt32).toInt32))] [(.int (1 : Int32)), (.int ((((p1 + (8192 : Int32)) - (1 : Int32)).toUInt32 >>> ((13 : Int32) &&& 31).toUInt32).toInt32)), (.int (32 : Int32))]))
  refine own_go (fun _ k => XS.isub X1.here hx rfl (hb hby d1_16) rfl k) ?_
  show own_Fin p.tables e below _ (T1.setTop (mkF m 17 #[.val (.int p1), .val (.int ((((p1 + (8192 : Int32)) - (1 : Int32)).toUInt32 >>> ((13 : Int32) &&& 31).toUInt32).toInt32))] [(.int (((((p1 + (8192 : Int32)) - (1 : Int32)).toUInt32 >>> ((13 : Int32) &&& 31).toUInt32).toInt32) - (1 : Int32))), (.int (32 : Int32))]))
  obtain ⟨_, _, ⟨T2, L2, k2, n2⟩, -, X2, ⟨Lc2, hQ2, l2, y2, z2⟩, st2⟩ := Jvm.LawKit.callS X1 hx (y := (⟨"java/lang/Integer", "numberOfLeadingZeros", "(I)I"⟩ : MethodName)) hown (mvT hZ (hw _ (List.mem_of_getElem? (i := 8) rfl))) (mvT hZ (hw _ (List.mem_of_getElem? (i := 9) rfl))) (mvT hZ (hw _ (List.mem_of_getElem? (i := 10) rfl))) (mvT hZ (hw _ (List.mem_of_getElem? (i := 11) rfl))) (by decide) (backOf (W := 1) (own_nlz l Z a0 hw [] (((((p1 + (8192 : Int32)) - (1 : Int32)).toUInt32 >>> ((13 : Int32) &&& 31).toUInt32).toInt32) - (1 : Int32)) h0 n0 Z0 (own_ro p1 hlo hhi).1 (own_ro p1 hlo hhi).2.1) hZ (hw _ (List.mem_of_getElem? (i := 11) rfl)) (hw _ (List.mem_of_getElem? (i := 10) rfl)) (by decide) (by decide)) (g := (mkF m 17 #[.val (.int p1), .val (.int ((((p1 + (8192 : Int32)) - (1 : Int32)).toUInt32 >>> ((13 : Int32) &&& 31).toUInt32).toInt32))] [(.int (((((p1 + (8192 : Int32)) - (1 : Int32)).toUInt32 >>> ((13 : Int32) &&& 31).toUInt32).toInt32) - (1 : Int32))), (.int (32 : Int32))])) rfl (by rw [hml]; rfl) (argsL := [(.int (((((p1 + (8192 : Int32)) - (1 : Int32)).toUInt32 >>> ((13 : Int32) &&& 31).toUInt32).toInt32) - (1 : Int32)))]) (rest := [(.int (32 : Int32))]) (lenOf own_pd0 rfl) rfl (by show 2 * 0 + _ ≤ _; exact Nat.le_of_eq rfl) (hb hby d1_17) (fun _ _ => ⟨rfl, e1, (by decide : 0 + 0 ≤ _), (by decide : 0 + 0 ≤ _)⟩)
  dsimp only [Pt.U, Pt.locs, Pt.cells, Pt.slots] at X2 l2 y2 z2 st2 hQ2
  subst l2 y2 z2
  obtain ⟨hv2, N2q, eh2⟩ := hQ2
  subst hv2
  have N2 := Fr.app N0 N2q
  refine own_go st2 ?_
  show own_Fin p.tables e below _ (T2.setTop (mkF m 20 #[.val (.int p1), .val (.int ((((p1 + (8192 : Int32)) - (1 : Int32)).toUInt32 >>> ((13 : Int32) &&& 31).toUInt32).toInt32))] [(.int (own_nl (((((p1 + (8192 : Int32)) - (1 : Int32)).toUInt32 >>> ((13 : Int32) &&& 31).toUInt32).toInt32) - (1 : Int32)))), (.int (32 : Int32))]))
  refine own_go (fun _ k => XS.isub X2.here hx rfl (hb hby d1_20) rfl k) ?_
  show own_Fin p.tables e below _ (T2.setTop (mkF m 21 #[.val (.int p1), .val (.int ((((p1 + (8192 : Int32)) - (1 : Int32)).toUInt32 >>> ((13 : Int32) &&& 31).toUInt32).toInt32))] [(.int ((32 : Int32) - (own_nl (((((p1 + (8192 : Int32)) - (1 : Int32)).toUInt32 >>> ((13 : Int32) &&& 31).toUInt32).toInt32) - (1 : Int32)))))]))
  obtain ⟨fs, hr, hrun, hended, hW, hsame⟩ := X2.leave (v := some (.int ((32 : Int32) - (own_nl (((((p1 + (8192 : Int32)) - (1 : Int32)).toUInt32 >>> ((13 : Int32) &&& 31).toUInt32).toInt32) - (1 : Int32)))))) (fun h => by rw [Bd.returns] at h; cases h)
  refine ⟨_, _, ?_, hrun, hended, _, _, rfl, ?_, ⟨_, rfl⟩, hW, hsame.mono (by decide) (by decide)⟩
  · exact own_retI X2 hx Bd.returns (hb hby d1_21) hr
  · show Q_own_runOrder Z p1 h0 n0 _ T2.heap _
    rw [eh2]
    exact ⟨rfl, N2, rfl⟩
theorem own_sz (p1 : Int32) : 1 ≤ (((p1 &&& (2147483647 : Int32)) % (4194304 : Int32)) + (1 : Int32)).toInt ∧ (((p1 &&& (2147483647 : Int32)) % (4194304 : Int32)) + (1 : Int32)).toInt ≤ 4194304 := by
  have h1 := c_and p1 (2147483647 : Int32) (by decide)
  have h2 := (c_irem (p1 &&& (2147483647 : Int32)) (4194304 : Int32) 4194304 rfl).1 h1.1
  have h3 := c_iadd ((p1 &&& (2147483647 : Int32)) % (4194304 : Int32)) (1 : Int32)
  have e2 : (1 : Int32).toInt = 1 := rfl
  have b1 := Int32.toInt_lt (((p1 &&& (2147483647 : Int32)) % (4194304 : Int32)) + (1 : Int32)); have b2 := Int32.le_toInt (((p1 &&& (2147483647 : Int32)) % (4194304 : Int32)) + (1 : Int32))
  omega
theorem own_tab : ∀ k : Fin 512, ((32 : Int32) - own_nl (Int32.ofNat k.val) = (0 : Int32) ∧ 0 ≤ k.val ∧ k.val < 1) ∨ ((32 : Int32) - own_nl (Int32.ofNat k.val) = (1 : Int32) ∧ 1 ≤ k.val ∧ k.val < 2) ∨ ((32 : Int32) - own_nl (Int32.ofNat k.val) = (2 : Int32) ∧ 2 ≤ k.val ∧ k.val < 4) ∨ ((32 : Int32) - own_nl (Int32.ofNat k.val) = (3 : Int32) ∧ 4 ≤ k.val ∧ k.val < 8) ∨ ((32 : Int32) - own_nl (Int32.ofNat k.val) = (4 : Int32) ∧ 8 ≤ k.val ∧ k.val < 16) ∨ ((32 : Int32) - own_nl (Int32.ofNat k.val) = (5 : Int32) ∧ 16 ≤ k.val ∧ k.val < 32) ∨ ((32 : Int32) - own_nl (Int32.ofNat k.val) = (6 : Int32) ∧ 32 ≤ k.val ∧ k.val < 64) ∨ ((32 : Int32) - own_nl (Int32.ofNat k.val) = (7 : Int32) ∧ 64 ≤ k.val ∧ k.val < 128) ∨ ((32 : Int32) - own_nl (Int32.ofNat k.val) = (8 : Int32) ∧ 128 ≤ k.val ∧ k.val < 256) ∨ ((32 : Int32) - own_nl (Int32.ofNat k.val) = (9 : Int32) ∧ 256 ≤ k.val ∧ k.val < 512) := by decide +kernel
theorem own_k (p1 : Int32) (h1 : 1 ≤ p1.toInt) (h2 : p1.toInt ≤ 4194304) : (((32 : Int32) - (own_nl (((((p1 + (8192 : Int32)) - (1 : Int32)).toUInt32 >>> ((13 : Int32) &&& 31).toUInt32).toInt32) - (1 : Int32)))) = (0 : Int32) ∧ 0 < p1.toInt ∧ p1.toInt ≤ 8192) ∨ (((32 : Int32) - (own_nl (((((p1 + (8192 : Int32)) - (1 : Int32)).toUInt32 >>> ((13 : Int32) &&& 31).toUInt32).toInt32) - (1 : Int32)))) = (1 : Int32) ∧ 8192 < p1.toInt ∧ p1.toInt ≤ 16384) ∨ (((32 : Int32) - (own_nl (((((p1 + (8192 : Int32)) - (1 : Int32)).toUInt32 >>> ((13 : Int32) &&& 31).toUInt32).toInt32) - (1 : Int32)))) = (2 : Int32) ∧ 16384 < p1.toInt ∧ p1.toInt ≤ 32768) ∨ (((32 : Int32) - (own_nl (((((p1 + (8192 : Int32)) - (1 : Int32)).toUInt32 >>> ((13 : Int32) &&& 31).toUInt32).toInt32) - (1 : Int32)))) = (3 : Int32) ∧ 32768 < p1.toInt ∧ p1.toInt ≤ 65536) ∨ (((32 : Int32) - (own_nl (((((p1 + (8192 : Int32)) - (1 : Int32)).toUInt32 >>> ((13 : Int32) &&& 31).toUInt32).toInt32) - (1 : Int32)))) = (4 : Int32) ∧ 65536 < p1.toInt ∧ p1.toInt ≤ 131072) ∨ (((32 : Int32) - (own_nl (((((p1 + (8192 : Int32)) - (1 : Int32)).toUInt32 >>> ((13 : Int32) &&& 31).toUInt32).toInt32) - (1 : Int32)))) = (5 : Int32) ∧ 131072 < p1.toInt ∧ p1.toInt ≤ 262144) ∨ (((32 : Int32) - (own_nl (((((p1 + (8192 : Int32)) - (1 : Int32)).toUInt32 >>> ((13 : Int32) &&& 31).toUInt32).toInt32) - (1 : Int32)))) = (6 : Int32) ∧ 262144 < p1.toInt ∧ p1.toInt ≤ 524288) ∨ (((32 : Int32) - (own_nl (((((p1 + (8192 : Int32)) - (1 : Int32)).toUInt32 >>> ((13 : Int32) &&& 31).toUInt32).toInt32) - (1 : Int32)))) = (7 : Int32) ∧ 524288 < p1.toInt ∧ p1.toInt ≤ 1048576) ∨ (((32 : Int32) - (own_nl (((((p1 + (8192 : Int32)) - (1 : Int32)).toUInt32 >>> ((13 : Int32) &&& 31).toUInt32).toInt32) - (1 : Int32)))) = (8 : Int32) ∧ 1048576 < p1.toInt ∧ p1.toInt ≤ 2097152) ∨ (((32 : Int32) - (own_nl (((((p1 + (8192 : Int32)) - (1 : Int32)).toUInt32 >>> ((13 : Int32) &&& 31).toUInt32).toInt32) - (1 : Int32)))) = (9 : Int32) ∧ 2097152 < p1.toInt ∧ p1.toInt ≤ 4194304) := by
  obtain ⟨q1, q2, q3, q4⟩ := own_ro p1 h1 h2
  obtain ⟨k, hk⟩ := own_fin q1 q2
  rw [hk] at q3 q4 ⊢
  have e1 : (Int32.ofNat k.val).toInt = k.val := Int32.toInt_ofNat_of_lt (by omega)
  rw [e1] at q3 q4
  rcases own_tab k with ⟨t, l, u⟩ | ⟨t, l, u⟩ | ⟨t, l, u⟩ | ⟨t, l, u⟩ | ⟨t, l, u⟩ | ⟨t, l, u⟩ | ⟨t, l, u⟩ | ⟨t, l, u⟩ | ⟨t, l, u⟩ | ⟨t, l, u⟩
  · exact Or.inl ⟨t, by omega, by omega⟩
  · exact Or.inr (Or.inl ⟨t, by omega, by omega⟩)
  · exact Or.inr (Or.inr (Or.inl ⟨t, by omega, by omega⟩))
  · exact Or.inr (Or.inr (Or.inr (Or.inl ⟨t, by omega, by omega⟩)))
  · exact Or.inr (Or.inr (Or.inr (Or.inr (Or.inl ⟨t, by omega, by omega⟩))))
  · exact Or.inr (Or.inr (Or.inr (Or.inr (Or.inr (Or.inl ⟨t, by omega, by omega⟩)))))
  · exact Or.inr (Or.inr (Or.inr (Or.inr (Or.inr (Or.inr (Or.inl ⟨t, by omega, by omega⟩))))))
  · exact Or.inr (Or.inr (Or.inr (Or.inr (Or.inr (Or.inr (Or.inr (Or.inl ⟨t, by omega, by omega⟩)))))))
  · exact Or.inr (Or.inr (Or.inr (Or.inr (Or.inr (Or.inr (Or.inr (Or.inr (Or.inl ⟨t, by omega, by omega⟩))))))))
  · exact Or.inr (Or.inr (Or.inr (Or.inr (Or.inr (Or.inr (Or.inr (Or.inr (Or.inr (⟨t, by omega, by omega⟩)))))))))
theorem own_ge {a : Int64} {s : Int32} {v : Int} (ha : a.toInt = v) (h : s.toInt ≤ v) : ¬ (a < s.toInt64) := by rw [Int64.lt_iff_toInt_lt, c_i2l]; omega
theorem own_lt {a : Int64} {s : Int32} {v : Int} (ha : a.toInt = v) (h : v < s.toInt) : a < s.toInt64 := by rw [Int64.lt_iff_toInt_lt, c_i2l]; omega
def Q_own_law (Z : State) (p1 : Int32) (h0 : Heap) (n0 : Nat) (v : Option Value) (h : Heap) (L : List Loc) : Prop := v = some (.int (1 : Int32)) ∧ Fr n0 L
theorem ef_own_law (m : MethodId) (x0 : Int32) : entryFrame m #[(.int x0)] maxLocals = mkF m 0 #[.val (.int x0), .unset, .unset, .unset, .unset, .unset, .unset] [] := by first | (simp [entryFrame, mkF, argsToLocals, Value.category, maxLocals]; done) | rfl
set_option maxRecDepth 65536 in
set_option maxHeartbeats 40000000 in
theorem own_law (l : Launch) (Z : State) (a0 : Array Value) (hw : ∀ d ∈ tables_1, d.before a0 Z = true) (ws : List Jvm.Cond) (p1 : Int32) (h0 : Heap) (n0 : Nat) (Z0 : n0 ≤ h0.size) (S1 : Sta Z h0 "org/bufwarden/PoolChunk" "PAGE_SHIFT" "I" (.int (13 : Int32))) :
    MetFree l x (head1 (Jvm.Cond.code x code maxLocals ret :: ws) room_1) (fun a U => a = #[(.int p1)] ∧ Z.Warmed39 U.vm ∧ U.heap = h0) (fun _ _ _ _ _ => True) (fun _ U o U' => ∃ v L, o = .returned v ∧ Q_own_law Z p1 h0 n0 v U'.heap L ∧ FrameEnd U o U' L room_1.cells room_1.slots) := by
  refine MetFree.of_bodySF (plainFor_of_name own_pn2) hisR ?_
  intro p e s m args below meth c s₁ Bd hml0 hP hK
  obtain ⟨rfl, hZ, hh⟩ := hP
  have hx := Bd.exec
  have hby := Bd.bytes
  have hml : c.maxLocals = 7 := hml0
  have hown : s.vm.findClass "org/bufwarden/PoolChunkRunOrderPinLaw" = some m.cls := findClass_of_methodNamed Bd.named
  have hnm := (name_of_methodNamed Bd.named Bd.method).1
  have X0 : Stand p l e room_1 s m #[(.int p1)] below meth c s₁ [] 0 0 := Stand.of_body Bd
  have e0 : s₁.heap = h0 := by rw [← hh, Bd.state]; rfl
  have N0 := Fr.nil n0
  show own_Fin p.tables e below _ (s₁.setTop (entryFrame m #[(.int p1)] maxLocals))
  refine own_go (fun _ k => castTop (ef_own_law m p1) k) ?_
  show own_Fin p.tables e below _ (s₁.setTop (mkF m 0 #[.val (.int p1), .unset, .unset, .unset, .unset, .unset, .unset] []))
  refine own_go (fun _ k => XS.iloadN X0.here hx rfl (hb hby at_0) rfl k) ?_
  show own_Fin p.tables e below _ (s₁.setTop (mkF m 1 #[.val (.int p1), .unset, .unset, .unset, .unset, .unset, .unset] [(.int p1)]))
  refine own_go (X0.ldcInt hx hown (mvT hZ (hw _ (List.mem_of_getElem? (i := 0) rfl))) (g := (mkF m 1 #[.val (.int p1), .unset, .unset, .unset, .unset, .unset, .unset] [(.int p1)])) rfl (hb hby at_1)) ?_
  show own_Fin p.tables e below _ (s₁.setTop (mkF m 3 #[.val (.int p1), .unset, .unset, .unset, .unset, .unset, .unset] [(.int (2147483647 : Int32)), (.int p1)]))
  refine own_go (fun _ k => XS.iand X0.here hx rfl (hb hby at_3) rfl k) ?_
  show own_Fin p.tables e below _ (s₁.setTop (mkF m 4 #[.val (.int p1), .unset, .unset, .unset, .unset, .unset, .unset] [(.int (p1 &&& (2147483647 : Int32)))]))
  refine own_go (X0.ldcInt hx hown (mvT hZ (hw _ (List.mem_of_getElem? (i := 1) rfl))) (g := (mkF m 4 #[.val (.int p1), .unset, .unset, .unset, .unset, .unset, .unset] [(.int (p1 &&& (2147483647 : Int32)))])) rfl (hb hby at_4)) ?_
  show own_Fin p.tables e below _ (s₁.setTop (mkF m 6 #[.val (.int p1), .unset, .unset, .unset, .unset, .unset, .unset] [(.int (4194304 : Int32)), (.int (p1 &&& (2147483647 : Int32)))]))
  refine own_go (fun _ k => iremM X0 hx rfl (hb hby at_6) rfl (by decide) k) ?_
  show own_Fin p.tables e below _ (s₁.setTop (mkF m 7 #[.val (.int p1), .unset, .unset, .unset, .unset, .unset, .unset] [(.int ((p1 &&& (2147483647 : Int32)) % (4194304 : Int32)))]))
  refine own_go (fun _ k => XS.iconst X0.here hx rfl (hb hby at_7) k) ?_
  show own_Fin p.tables e below _ (s₁.setTop (mkF m 8 #[.val (.int p1), .unset, .unset, .unset, .unset, .unset, .unset] [(.int (1 : Int32)), (.int ((p1 &&& (2147483647 : Int32)) % (4194304 : Int32)))]))
  refine own_go (fun _ k => XS.iadd X0.here hx rfl (hb hby at_8) rfl k) ?_
  show own_Fin p.tables e below _ (s₁.setTop (mkF m 9 #[.val (.int p1), .unset, .unset, .unset, .unset, .unset, .unset] [(.int (((p1 &&& (2147483647 : Int32)) % (4194304 : Int32)) + (1 : Int32)))]))
  refine own_go (fun _ k => XS.istoreN X0.here hx rfl (hb hby at_9) rfl (l' := #[.val (.int p1), .val (.int (((p1 &&& (2147483647 : Int32)) % (4194304 : Int32)) + (1 : Int32))), .unset, .unset, .unset, .unset, .unset]) rfl k) ?_
  show own_Fin p.tables e below _ (s₁.setTop (mkF m 10 #[.val (.int p1), .val (.int (((p1 &&& (2147483647 : Int32)) % (4194304 : Int32)) + (1 : Int32))), .unset, .unset, .unset, .unset, .unset] []))
  refine own_go (fun _ k => XS.iloadN X0.here hx rfl (hb hby at_10) rfl k) ?_
  show own_Fin p.tables e below _ (s₁.setTop (mkF m 11 #[.val (.int p1), .val (.int (((p1 &&& (2147483647 : Int32)) % (4194304 : Int32)) + (1 : Int32))), .unset, .unset, .unset, .unset, .unset] [(.int (((p1 &&& (2147483647 : Int32)) % (4194304 : Int32)) + (1 : Int32)))]))
  obtain ⟨_, _, ⟨T1, L1, k1, n1⟩, -, X1, ⟨Lc1, hQ1, l1, y1, z1⟩, st1⟩ := Jvm.LawKit.callS X0 hx (y := (⟨"org/bufwarden/PoolChunk", "runOrder", "(I)I"⟩ : MethodName)) hown (mvT hZ (hw _ (List.mem_of_getElem? (i := 2) rfl))) (mvT hZ (hw _ (List.mem_of_getElem? (i := 3) rfl))) (mvT hZ (hw _ (List.mem_of_getElem? (i := 4) rfl))) (mvT hZ (hw _ (List.mem_of_getElem? (i := 5) rfl))) (by decide) (backOf (W := 0) (own_runOrder l Z a0 hw [] (((p1 &&& (2147483647 : Int32)) % (4194304 : Int32)) + (1 : Int32)) h0 n0 Z0 S1 (own_sz p1).1 (own_sz p1).2) hZ (hw _ (List.mem_of_getElem? (i := 5) rfl)) (hw _ (List.mem_of_getElem? (i := 4) rfl)) (by decide) (by decide)) (g := (mkF m 11 #[.val (.int p1), .val (.int (((p1 &&& (2147483647 : Int32)) % (4194304 : Int32)) + (1 : Int32))), .unset, .unset, .unset, .unset, .unset] [(.int (((p1 &&& (2147483647 : Int32)) % (4194304 : Int32)) + (1 : Int32)))])) rfl (by rw [hml]; rfl) (argsL := [(.int (((p1 &&& (2147483647 : Int32)) % (4194304 : Int32)) + (1 : Int32)))]) (rest := []) (lenOf own_pd0 rfl) rfl (by show 2 * 0 + _ ≤ _; exact Nat.le_of_eq rfl) (hb hby at_11) (fun _ _ => ⟨rfl, e0, (by decide : 0 + 0 ≤ _), (by decide : 0 + 0 ≤ _)⟩)
  dsimp only [Pt.U, Pt.locs, Pt.cells, Pt.slots] at X1 l1 y1 z1 st1 hQ1
  subst l1 y1 z1
  obtain ⟨hv1, N1q, eh1⟩ := hQ1
  subst hv1
  have N1 := Fr.app N0 N1q
  refine own_go st1 ?_
  show own_Fin p.tables e below _ (T1.setTop (mkF m 14 #[.val (.int p1), .val (.int (((p1 &&& (2147483647 : Int32)) % (4194304 : Int32)) + (1 : Int32))), .unset, .unset, .unset, .unset, .unset] [(.int ((32 : Int32) - (own_nl ((((((((p1 &&& (2147483647 : Int32)) % (4194304 : Int32)) + (1 : Int32)) + (8192 : Int32)) - (1 : Int32)).toUInt32 >>> ((13 : Int32) &&& 31).toUInt32).toInt32) - (1 : Int32)))))]))
  refine own_go (fun _ k => XS.istoreN X1.here hx rfl (hb hby at_14) rfl (l' := #[.val (.int p1), .val (.int (((p1 &&& (2147483647 : Int32)) % (4194304 : Int32)) + (1 : Int32))), .val (.int ((32 : Int32) - (own_nl ((((((((p1 &&& (2147483647 : Int32)) % (4194304 : Int32)) + (1 : Int32)) + (8192 : Int32)) - (1 : Int32)).toUInt32 >>> ((13 : Int32) &&& 31).toUInt32).toInt32) - (1 : Int32))))), .unset, .unset, .unset, .unset]) rfl k) ?_
  show own_Fin p.tables e below _ (T1.setTop (mkF m 15 #[.val (.int p1), .val (.int (((p1 &&& (2147483647 : Int32)) % (4194304 : Int32)) + (1 : Int32))), .val (.int ((32 : Int32) - (own_nl ((((((((p1 &&& (2147483647 : Int32)) % (4194304 : Int32)) + (1 : Int32)) + (8192 : Int32)) - (1 : Int32)).toUInt32 >>> ((13 : Int32) &&& 31).toUInt32).toInt32) - (1 : Int32))))), .unset, .unset, .unset, .unset] []))
  rcases own_k (((p1 &&& (2147483647 : Int32)) % (4194304 : Int32)) + (1 : Int32)) (own_sz p1).1 (own_sz p1).2 with ⟨hk, hbd⟩ | ⟨hk, hbd⟩ | ⟨hk, hbd⟩ | ⟨hk, hbd⟩ | ⟨hk, hbd⟩ | ⟨hk, hbd⟩ | ⟨hk, hbd⟩ | ⟨hk, hbd⟩ | ⟨hk, hbd⟩ | ⟨hk, hbd⟩
  · rw [hk]
    show own_Fin p.tables e below _ (T1.setTop (mkF m 15 #[.val (.int p1), .val (.int (((p1 &&& (2147483647 : Int32)) % (4194304 : Int32)) + (1 : Int32))), .val (.int (0 : Int32)), .unset, .unset, .unset, .unset] []))
    refine own_go (fun _ k => XS.iloadN X1.here hx rfl (hb hby at_15) rfl k) ?_
    show own_Fin p.tables e below _ (T1.setTop (mkF m 16 #[.val (.int p1), .val (.int (((p1 &&& (2147483647 : Int32)) % (4194304 : Int32)) + (1 : Int32))), .val (.int (0 : Int32)), .unset, .unset, .unset, .unset] [(.int (0 : Int32))]))
    refine own_go (fun _ k => XS.ifNo X1.here hx rfl (hb hby at_16) rfl ((if0 _ _).trans (flt (by decide : ¬ ((0 : Int32) < (0 : Int32)))).1) k) ?_
    show own_Fin p.tables e below _ (T1.setTop (mkF m 19 #[.val (.int p1), .val (.int (((p1 &&& (2147483647 : Int32)) % (4194304 : Int32)) + (1 : Int32))), .val (.int (0 : Int32)), .unset, .unset, .unset, .unset] []))
    refine own_go (fun _ k => XS.iloadN X1.here hx rfl (hb hby at_19) rfl k) ?_
    show own_Fin p.tables e below _ (T1.setTop (mkF m 20 #[.val (.int p1), .val (.int (((p1 &&& (2147483647 : Int32)) % (4194304 : Int32)) + (1 : Int32))), .val (.int (0 : Int32)), .unset, .unset, .unset, .unset] [(.int (0 : Int32))]))
    refine own_go (fun _ k => XS.bipush X1.here hx rfl (hb hby at_20) k) ?_
    show own_Fin p.tables e below _ (T1.setTop (mkF m 22 #[.val (.int p1), .val (.int (((p1 &&& (2147483647 : Int32)) % (4194304 : Int32)) + (1 : Int32))), .val (.int (0 : Int32)), .unset, .unset, .unset, .unset] [(.int (9 : Int32)), (.int (0 : Int32))]))
    refine own_go (fun _ k => XS.icmpYes X1.here hx rfl (pc0 := 22) (pc' := 27) rfl (hb hby at_22) rfl (flt (by decide : ¬ ((9 : Int32) < (0 : Int32)))).2.2.2 (by decide) (by decide) k) ?_
    show own_Fin p.tables e below _ (T1.setTop (mkF m 27 #[.val (.int p1), .val (.int (((p1 &&& (2147483647 : Int32)) % (4194304 : Int32)) + (1 : Int32))), .val (.int (0 : Int32)), .unset, .unset, .unset, .unset] []))
    refine own_go (X1.ldc2Long hx hown (mvT hZ (hw _ (List.mem_of_getElem? (i := 12) rfl))) (g := (mkF m 27 #[.val (.int p1), .val (.int (((p1 &&& (2147483647 : Int32)) % (4194304 : Int32)) + (1 : Int32))), .val (.int (0 : Int32)), .unset, .unset, .unset, .unset] [])) rfl (hb hby at_27)) ?_
    show own_Fin p.tables e below _ (T1.setTop (mkF m 30 #[.val (.int p1), .val (.int (((p1 &&& (2147483647 : Int32)) % (4194304 : Int32)) + (1 : Int32))), .val (.int (0 : Int32)), .unset, .unset, .unset, .unset] [(.long (8192 : Int64))]))
    refine own_go (fun _ k => XS.iloadN X1.here hx rfl (hb hby at_30) rfl k) ?_
    show own_Fin p.tables e below _ (T1.setTop (mkF m 31 #[.val (.int p1), .val (.int (((p1 &&& (2147483647 : Int32)) % (4194304 : Int32)) + (1 : Int32))), .val (.int (0 : Int32)), .unset, .unset, .unset, .unset] [(.int (0 : Int32)), (.long (8192 : Int64))]))
    refine own_go (fun _ k => XS.lshl X1.here hx rfl (hb hby at_31) rfl k) ?_
    show own_Fin p.tables e below _ (T1.setTop (mkF m 32 #[.val (.int p1), .val (.int (((p1 &&& (2147483647 : Int32)) % (4194304 : Int32)) + (1 : Int32))), .val (.int (0 : Int32)), .unset, .unset, .unset, .unset] [(.long ((8192 : Int64) <<< ((0 : Int32) &&& 0x3f).toInt64))]))
    refine own_go (fun _ k => XS.lstoreN X1.here hx rfl (hb hby at_32) rfl (l' := #[.val (.int p1), .val (.int (((p1 &&& (2147483647 : Int32)) % (4194304 : Int32)) + (1 : Int32))), .val (.int (0 : Int32)), .val (.long ((8192 : Int64) <<< ((0 : Int32) &&& 0x3f).toInt64)), .second, .unset, .unset]) rfl k) ?_
    show own_Fin p.tables e below _ (T1.setTop (mkF m 33 #[.val (.int p1), .val (.int (((p1 &&& (2147483647 : Int32)) % (4194304 : Int32)) + (1 : Int32))), .val (.int (0 : Int32)), .val (.long ((8192 : Int64) <<< ((0 : Int32) &&& 0x3f).toInt64)), .second, .unset, .unset] []))
    refine own_go (fun _ k => XS.lloadN X1.here hx rfl (hb hby at_33) rfl k) ?_
    show own_Fin p.tables e below _ (T1.setTop (mkF m 34 #[.val (.int p1), .val (.int (((p1 &&& (2147483647 : Int32)) % (4194304 : Int32)) + (1 : Int32))), .val (.int (0 : Int32)), .val (.long ((8192 : Int64) <<< ((0 : Int32) &&& 0x3f).toInt64)), .second, .unset, .unset] [(.long ((8192 : Int64) <<< ((0 : Int32) &&& 0x3f).toInt64))]))
    refine own_go (fun _ k => XS.iloadN X1.here hx rfl (hb hby at_34) rfl k) ?_
    show own_Fin p.tables e below _ (T1.setTop (mkF m 35 #[.val (.int p1), .val (.int (((p1 &&& (2147483647 : Int32)) % (4194304 : Int32)) + (1 : Int32))), .val (.int (0 : Int32)), .val (.long ((8192 : Int64) <<< ((0 : Int32) &&& 0x3f).toInt64)), .second, .unset, .unset] [(.int (((p1 &&& (2147483647 : Int32)) % (4194304 : Int32)) + (1 : Int32))), (.long ((8192 : Int64) <<< ((0 : Int32) &&& 0x3f).toInt64))]))
    refine own_go (fun _ k => XS.i2l X1.here hx rfl (hb hby at_35) rfl k) ?_
    show own_Fin p.tables e below _ (T1.setTop (mkF m 36 #[.val (.int p1), .val (.int (((p1 &&& (2147483647 : Int32)) % (4194304 : Int32)) + (1 : Int32))), .val (.int (0 : Int32)), .val (.long ((8192 : Int64) <<< ((0 : Int32) &&& 0x3f).toInt64)), .second, .unset, .unset] [(.long ((((p1 &&& (2147483647 : Int32)) % (4194304 : Int32)) + (1 : Int32)).toInt64)), (.long ((8192 : Int64) <<< ((0 : Int32) &&& 0x3f).toInt64))]))
    refine own_go (fun _ k => XS.lcmp X1.here hx rfl (hb hby at_36) rfl k) ?_
    show own_Fin p.tables e below _ (T1.setTop (mkF m 37 #[.val (.int p1), .val (.int (((p1 &&& (2147483647 : Int32)) % (4194304 : Int32)) + (1 : Int32))), .val (.int (0 : Int32)), .val (.long ((8192 : Int64) <<< ((0 : Int32) &&& 0x3f).toInt64)), .second, .unset, .unset] [(.int (lcmpW ((8192 : Int64) <<< ((0 : Int32) &&& 0x3f).toInt64) ((((p1 &&& (2147483647 : Int32)) % (4194304 : Int32)) + (1 : Int32)).toInt64)))]))
    refine own_go (fun _ k => XS.ifYes X1.here hx rfl (pc0 := 37) (pc' := 42) rfl (hb hby at_37) rfl ((if0 _ _).trans (flt (fun q => (own_ge (v := 8192) (by decide) hbd.2) ((lw_lt _ _).mp q))).2.1) (by decide) (by decide) k) ?_
    show own_Fin p.tables e below _ (T1.setTop (mkF m 42 #[.val (.int p1), .val (.int (((p1 &&& (2147483647 : Int32)) % (4194304 : Int32)) + (1 : Int32))), .val (.int (0 : Int32)), .val (.long ((8192 : Int64) <<< ((0 : Int32) &&& 0x3f).toInt64)), .second, .unset, .unset] []))
    refine own_go (fun _ k => XS.iloadN X1.here hx rfl (hb hby at_42) rfl k) ?_
    show own_Fin p.tables e below _ (T1.setTop (mkF m 43 #[.val (.int p1), .val (.int (((p1 &&& (2147483647 : Int32)) % (4194304 : Int32)) + (1 : Int32))), .val (.int (0 : Int32)), .val (.long ((8192 : Int64) <<< ((0 : Int32) &&& 0x3f).toInt64)), .second, .unset, .unset] [(.int (0 : Int32))]))
    refine own_go (fun _ k => XS.ifNo X1.here hx rfl (hb hby at_43) rfl ((if0 _ _).trans (teq (by decide : ((0 : Int32) = (0 : Int32)))).2) k) ?_
    show own_Fin p.tables e below _ (T1.setTop (mkF m 46 #[.val (.int p1), .val (.int (((p1 &&& (2147483647 : Int32)) % (4194304 : Int32)) + (1 : Int32))), .val (.int (0 : Int32)), .val (.long ((8192 : Int64) <<< ((0 : Int32) &&& 0x3f).toInt64)), .second, .unset, .unset] []))
    refine own_go (fun _ k => XS.iconst X1.here hx rfl (hb hby at_46) k) ?_
    show own_Fin p.tables e below _ (T1.setTop (mkF m 47 #[.val (.int p1), .val (.int (((p1 &&& (2147483647 : Int32)) % (4194304 : Int32)) + (1 : Int32))), .val (.int (0 : Int32)), .val (.long ((8192 : Int64) <<< ((0 : Int32) &&& 0x3f).toInt64)), .second, .unset, .unset] [(.int (1 : Int32))]))
    obtain ⟨fs, hr, hrun, hended, hW, hsame⟩ := X1.leave (v := some (.int (1 : Int32))) (fun h => by rw [Bd.returns] at h; cases h)
    refine ⟨_, _, ?_, hrun, hended, _, _, rfl, ?_, ⟨_, rfl⟩, hW, hsame.mono (by decide) (by decide)⟩
    · exact retN X1 hx (t := .boolean) Bd.returns (by simp) (hb hby at_47) hr
    · show Q_own_law Z p1 h0 n0 _ T1.heap _
      rw [eh1]
      exact ⟨rfl, N1⟩
  · rw [hk]
    show own_Fin p.tables e below _ (T1.setTop (mkF m 15 #[.val (.int p1), .val (.int (((p1 &&& (2147483647 : Int32)) % (4194304 : Int32)) + (1 : Int32))), .val (.int (1 : Int32)), .unset, .unset, .unset, .unset] []))
    refine own_go (fun _ k => XS.iloadN X1.here hx rfl (hb hby at_15) rfl k) ?_
    show own_Fin p.tables e below _ (T1.setTop (mkF m 16 #[.val (.int p1), .val (.int (((p1 &&& (2147483647 : Int32)) % (4194304 : Int32)) + (1 : Int32))), .val (.int (1 : Int32)), .unset, .unset, .unset, .unset] [(.int (1 : Int32))]))
    refine own_go (fun _ k => XS.ifNo X1.here hx rfl (hb hby at_16) rfl ((if0 _ _).trans (flt (by decide : ¬ ((1 : Int32) < (0 : Int32)))).1) k) ?_
    show own_Fin p.tables e below _ (T1.setTop (mkF m 19 #[.val (.int p1), .val (.int (((p1 &&& (2147483647 : Int32)) % (4194304 : Int32)) + (1 : Int32))), .val (.int (1 : Int32)), .unset, .unset, .unset, .unset] []))
    refine own_go (fun _ k => XS.iloadN X1.here hx rfl (hb hby at_19) rfl k) ?_
    show own_Fin p.tables e below _ (T1.setTop (mkF m 20 #[.val (.int p1), .val (.int (((p1 &&& (2147483647 : Int32)) % (4194304 : Int32)) + (1 : Int32))), .val (.int (1 : Int32)), .unset, .unset, .unset, .unset] [(.int (1 : Int32))]))
    refine own_go (fun _ k => XS.bipush X1.here hx rfl (hb hby at_20) k) ?_
    show own_Fin p.tables e below _ (T1.setTop (mkF m 22 #[.val (.int p1), .val (.int (((p1 &&& (2147483647 : Int32)) % (4194304 : Int32)) + (1 : Int32))), .val (.int (1 : Int32)), .unset, .unset, .unset, .unset] [(.int (9 : Int32)), (.int (1 : Int32))]))
    refine own_go (fun _ k => XS.icmpYes X1.here hx rfl (pc0 := 22) (pc' := 27) rfl (hb hby at_22) rfl (flt (by decide : ¬ ((9 : Int32) < (1 : Int32)))).2.2.2 (by decide) (by decide) k) ?_
    show own_Fin p.tables e below _ (T1.setTop (mkF m 27 #[.val (.int p1), .val (.int (((p1 &&& (2147483647 : Int32)) % (4194304 : Int32)) + (1 : Int32))), .val (.int (1 : Int32)), .unset, .unset, .unset, .unset] []))
    refine own_go (X1.ldc2Long hx hown (mvT hZ (hw _ (List.mem_of_getElem? (i := 12) rfl))) (g := (mkF m 27 #[.val (.int p1), .val (.int (((p1 &&& (2147483647 : Int32)) % (4194304 : Int32)) + (1 : Int32))), .val (.int (1 : Int32)), .unset, .unset, .unset, .unset] [])) rfl (hb hby at_27)) ?_
    show own_Fin p.tables e below _ (T1.setTop (mkF m 30 #[.val (.int p1), .val (.int (((p1 &&& (2147483647 : Int32)) % (4194304 : Int32)) + (1 : Int32))), .val (.int (1 : Int32)), .unset, .unset, .unset, .unset] [(.long (8192 : Int64))]))
    refine own_go (fun _ k => XS.iloadN X1.here hx rfl (hb hby at_30) rfl k) ?_
    show own_Fin p.tables e below _ (T1.setTop (mkF m 31 #[.val (.int p1), .val (.int (((p1 &&& (2147483647 : Int32)) % (4194304 : Int32)) + (1 : Int32))), .val (.int (1 : Int32)), .unset, .unset, .unset, .unset] [(.int (1 : Int32)), (.long (8192 : Int64))]))
    refine own_go (fun _ k => XS.lshl X1.here hx rfl (hb hby at_31) rfl k) ?_
    show own_Fin p.tables e below _ (T1.setTop (mkF m 32 #[.val (.int p1), .val (.int (((p1 &&& (2147483647 : Int32)) % (4194304 : Int32)) + (1 : Int32))), .val (.int (1 : Int32)), .unset, .unset, .unset, .unset] [(.long ((8192 : Int64) <<< ((1 : Int32) &&& 0x3f).toInt64))]))
    refine own_go (fun _ k => XS.lstoreN X1.here hx rfl (hb hby at_32) rfl (l' := #[.val (.int p1), .val (.int (((p1 &&& (2147483647 : Int32)) % (4194304 : Int32)) + (1 : Int32))), .val (.int (1 : Int32)), .val (.long ((8192 : Int64) <<< ((1 : Int32) &&& 0x3f).toInt64)), .second, .unset, .unset]) rfl k) ?_
    show own_Fin p.tables e below _ (T1.setTop (mkF m 33 #[.val (.int p1), .val (.int (((p1 &&& (2147483647 : Int32)) % (4194304 : Int32)) + (1 : Int32))), .val (.int (1 : Int32)), .val (.long ((8192 : Int64) <<< ((1 : Int32) &&& 0x3f).toInt64)), .second, .unset, .unset] []))
    refine own_go (fun _ k => XS.lloadN X1.here hx rfl (hb hby at_33) rfl k) ?_
    show own_Fin p.tables e below _ (T1.setTop (mkF m 34 #[.val (.int p1), .val (.int (((p1 &&& (2147483647 : Int32)) % (4194304 : Int32)) + (1 : Int32))), .val (.int (1 : Int32)), .val (.long ((8192 : Int64) <<< ((1 : Int32) &&& 0x3f).toInt64)), .second, .unset, .unset] [(.long ((8192 : Int64) <<< ((1 : Int32) &&& 0x3f).toInt64))]))
    refine own_go (fun _ k => XS.iloadN X1.here hx rfl (hb hby at_34) rfl k) ?_
    show own_Fin p.tables e below _ (T1.setTop (mkF m 35 #[.val (.int p1), .val (.int (((p1 &&& (2147483647 : Int32)) % (4194304 : Int32)) + (1 : Int32))), .val (.int (1 : Int32)), .val (.long ((8192 : Int64) <<< ((1 : Int32) &&& 0x3f).toInt64)), .second, .unset, .unset] [(.int (((p1 &&& (2147483647 : Int32)) % (4194304 : Int32)) + (1 : Int32))), (.long ((8192 : Int64) <<< ((1 : Int32) &&& 0x3f).toInt64))]))
    refine own_go (fun _ k => XS.i2l X1.here hx rfl (hb hby at_35) rfl k) ?_
    show own_Fin p.tables e below _ (T1.setTop (mkF m 36 #[.val (.int p1), .val (.int (((p1 &&& (2147483647 : Int32)) % (4194304 : Int32)) + (1 : Int32))), .val (.int (1 : Int32)), .val (.long ((8192 : Int64) <<< ((1 : Int32) &&& 0x3f).toInt64)), .second, .unset, .unset] [(.long ((((p1 &&& (2147483647 : Int32)) % (4194304 : Int32)) + (1 : Int32)).toInt64)), (.long ((8192 : Int64) <<< ((1 : Int32) &&& 0x3f).toInt64))]))
    refine own_go (fun _ k => XS.lcmp X1.here hx rfl (hb hby at_36) rfl k) ?_
    show own_Fin p.tables e below _ (T1.setTop (mkF m 37 #[.val (.int p1), .val (.int (((p1 &&& (2147483647 : Int32)) % (4194304 : Int32)) + (1 : Int32))), .val (.int (1 : Int32)), .val (.long ((8192 : Int64) <<< ((1 : Int32) &&& 0x3f).toInt64)), .second, .unset, .unset] [(.int (lcmpW ((8192 : Int64) <<< ((1 : Int32) &&& 0x3f).toInt64) ((((p1 &&& (2147483647 : Int32)) % (4194304 : Int32)) + (1 : Int32)).toInt64)))]))
    refine own_go (fun _ k => XS.ifYes X1.here hx rfl (pc0 := 37) (pc' := 42) rfl (hb hby at_37) rfl ((if0 _ _).trans (flt (fun q => (own_ge (v := 16384) (by decide) hbd.2) ((lw_lt _ _).mp q))).2.1) (by decide) (by decide) k) ?_
    show own_Fin p.tables e below _ (T1.setTop (mkF m 42 #[.val (.int p1), .val (.int (((p1 &&& (2147483647 : Int32)) % (4194304 : Int32)) + (1 : Int32))), .val (.int (1 : Int32)), .val (.long ((8192 : Int64) <<< ((1 : Int32) &&& 0x3f).toInt64)), .second, .unset, .unset] []))
    refine own_go (fun _ k => XS.iloadN X1.here hx rfl (hb hby at_42) rfl k) ?_
    show own_Fin p.tables e below _ (T1.setTop (mkF m 43 #[.val (.int p1), .val (.int (((p1 &&& (2147483647 : Int32)) % (4194304 : Int32)) + (1 : Int32))), .val (.int (1 : Int32)), .val (.long ((8192 : Int64) <<< ((1 : Int32) &&& 0x3f).toInt64)), .second, .unset, .unset] [(.int (1 : Int32))]))
    refine own_go (fun _ k => XS.ifYes X1.here hx rfl (pc0 := 43) (pc' := 48) rfl (hb hby at_43) rfl ((if0 _ _).trans (feq (by decide : ¬ ((1 : Int32) = (0 : Int32)))).2) (by decide) (by decide) k) ?_
    show own_Fin p.tables e below _ (T1.setTop (mkF m 48 #[.val (.int p1), .val (.int (((p1 &&& (2147483647 : Int32)) % (4194304 : Int32)) + (1 : Int32))), .val (.int (1 : Int32)), .val (.long ((8192 : Int64) <<< ((1 : Int32) &&& 0x3f).toInt64)), .second, .unset, .unset] []))
    refine own_go (X1.ldc2Long hx hown (mvT hZ (hw _ (List.mem_of_getElem? (i := 12) rfl))) (g := (mkF m 48 #[.val (.int p1), .val (.int (((p1 &&& (2147483647 : Int32)) % (4194304 : Int32)) + (1 : Int32))), .val (.int (1 : Int32)), .val (.long ((8192 : Int64) <<< ((1 : Int32) &&& 0x3f).toInt64)), .second, .unset, .unset] [])) rfl (hb hby at_48)) ?_
    show own_Fin p.tables e below _ (T1.setTop (mkF m 51 #[.val (.int p1), .val (.int (((p1 &&& (2147483647 : Int32)) % (4194304 : Int32)) + (1 : Int32))), .val (.int (1 : Int32)), .val (.long ((8192 : Int64) <<< ((1 : Int32) &&& 0x3f).toInt64)), .second, .unset, .unset] [(.long (8192 : Int64))]))
    refine own_go (fun _ k => XS.iloadN X1.here hx rfl (hb hby at_51) rfl k) ?_
    show own_Fin p.tables e below _ (T1.setTop (mkF m 52 #[.val (.int p1), .val (.int (((p1 &&& (2147483647 : Int32)) % (4194304 : Int32)) + (1 : Int32))), .val (.int (1 : Int32)), .val (.long ((8192 : Int64) <<< ((1 : Int32) &&& 0x3f).toInt64)), .second, .unset, .unset] [(.int (1 : Int32)), (.long (8192 : Int64))]))
    refine own_go (fun _ k => XS.iconst X1.here hx rfl (hb hby at_52) k) ?_
    show own_Fin p.tables e below _ (T1.setTop (mkF m 53 #[.val (.int p1), .val (.int (((p1 &&& (2147483647 : Int32)) % (4194304 : Int32)) + (1 : Int32))), .val (.int (1 : Int32)), .val (.long ((8192 : Int64) <<< ((1 : Int32) &&& 0x3f).toInt64)), .second, .unset, .unset] [(.int (1 : Int32)), (.int (1 : Int32)), (.long (8192 : Int64))]))
    refine own_go (fun _ k => XS.isub X1.here hx rfl (hb hby at_53) rfl k) ?_
    show own_Fin p.tables e below _ (T1.setTop (mkF m 54 #[.val (.int p1), .val (.int (((p1 &&& (2147483647 : Int32)) % (4194304 : Int32)) + (1 : Int32))), .val (.int (1 : Int32)), .val (.long ((8192 : Int64) <<< ((1 : Int32) &&& 0x3f).toInt64)), .second, .unset, .unset] [(.int ((1 : Int32) - (1 : Int32))), (.long (8192 : Int64))]))
    refine own_go (fun _ k => XS.lshl X1.here hx rfl (hb hby at_54) rfl k) ?_
    show own_Fin p.tables e below _ (T1.setTop (mkF m 55 #[.val (.int p1), .val (.int (((p1 &&& (2147483647 : Int32)) % (4194304 : Int32)) + (1 : Int32))), .val (.int (1 : Int32)), .val (.long ((8192 : Int64) <<< ((1 : Int32) &&& 0x3f).toInt64)), .second, .unset, .unset] [(.long ((8192 : Int64) <<< (((1 : Int32) - (1 : Int32)) &&& 0x3f).toInt64))]))
    refine own_go (fun _ k => XS.lstore X1.here hx rfl (hb hby at_55) rfl (l' := #[.val (.int p1), .val (.int (((p1 &&& (2147483647 : Int32)) % (4194304 : Int32)) + (1 : Int32))), .val (.int (1 : Int32)), .val (.long ((8192 : Int64) <<< ((1 : Int32) &&& 0x3f).toInt64)), .second, .val (.long ((8192 : Int64) <<< (((1 : Int32) - (1 : Int32)) &&& 0x3f).toInt64)), .second]) rfl k) ?_
    show own_Fin p.tables e below _ (T1.setTop (mkF m 57 #[.val (.int p1), .val (.int (((p1 &&& (2147483647 : Int32)) % (4194304 : Int32)) + (1 : Int32))), .val (.int (1 : Int32)), .val (.long ((8192 : Int64) <<< ((1 : Int32) &&& 0x3f).toInt64)), .second, .val (.long ((8192 : Int64) <<< (((1 : Int32) - (1 : Int32)) &&& 0x3f).toInt64)), .second] []))
    refine own_go (fun _ k => XS.lload X1.here hx rfl (hb hby at_57) rfl k) ?_
    show own_Fin p.tables e below _ (T1.setTop (mkF m 59 #[.val (.int p1), .val (.int (((p1 &&& (2147483647 : Int32)) % (4194304 : Int32)) + (1 : Int32))), .val (.int (1 : Int32)), .val (.long ((8192 : Int64) <<< ((1 : Int32) &&& 0x3f).toInt64)), .second, .val (.long ((8192 : Int64) <<< (((1 : Int32) - (1 : Int32)) &&& 0x3f).toInt64)), .second] [(.long ((8192 : Int64) <<< (((1 : Int32) - (1 : Int32)) &&& 0x3f).toInt64))]))
    refine own_go (fun _ k => XS.iloadN X1.here hx rfl (hb hby at_59) rfl k) ?_
    show own_Fin p.tables e below _ (T1.setTop (mkF m 60 #[.val (.int p1), .val (.int (((p1 &&& (2147483647 : Int32)) % (4194304 : Int32)) + (1 : Int32))), .val (.int (1 : Int32)), .val (.long ((8192 : Int64) <<< ((1 : Int32) &&& 0x3f).toInt64)), .second, .val (.long ((8192 : Int64) <<< (((1 : Int32) - (1 : Int32)) &&& 0x3f).toInt64)), .second] [(.int (((p1 &&& (2147483647 : Int32)) % (4194304 : Int32)) + (1 : Int32))), (.long ((8192 : Int64) <<< (((1 : Int32) - (1 : Int32)) &&& 0x3f).toInt64))]))
    refine own_go (fun _ k => XS.i2l X1.here hx rfl (hb hby at_60) rfl k) ?_
    show own_Fin p.tables e below _ (T1.setTop (mkF m 61 #[.val (.int p1), .val (.int (((p1 &&& (2147483647 : Int32)) % (4194304 : Int32)) + (1 : Int32))), .val (.int (1 : Int32)), .val (.long ((8192 : Int64) <<< ((1 : Int32) &&& 0x3f).toInt64)), .second, .val (.long ((8192 : Int64) <<< (((1 : Int32) - (1 : Int32)) &&& 0x3f).toInt64)), .second] [(.long ((((p1 &&& (2147483647 : Int32)) % (4194304 : Int32)) + (1 : Int32)).toInt64)), (.long ((8192 : Int64) <<< (((1 : Int32) - (1 : Int32)) &&& 0x3f).toInt64))]))
    refine own_go (fun _ k => XS.lcmp X1.here hx rfl (hb hby at_61) rfl k) ?_
    show own_Fin p.tables e below _ (T1.setTop (mkF m 62 #[.val (.int p1), .val (.int (((p1 &&& (2147483647 : Int32)) % (4194304 : Int32)) + (1 : Int32))), .val (.int (1 : Int32)), .val (.long ((8192 : Int64) <<< ((1 : Int32) &&& 0x3f).toInt64)), .second, .val (.long ((8192 : Int64) <<< (((1 : Int32) - (1 : Int32)) &&& 0x3f).toInt64)), .second] [(.int (lcmpW ((8192 : Int64) <<< (((1 : Int32) - (1 : Int32)) &&& 0x3f).toInt64) ((((p1 &&& (2147483647 : Int32)) % (4194304 : Int32)) + (1 : Int32)).toInt64)))]))
    refine own_go (fun _ k => XS.ifNo X1.here hx rfl (hb hby at_62) rfl ((if0 _ _).trans (tlt ((lw_lt _ _).mpr (own_lt (v := 8192) (by decide) hbd.1))).2.1) k) ?_
    show own_Fin p.tables e below _ (T1.setTop (mkF m 65 #[.val (.int p1), .val (.int (((p1 &&& (2147483647 : Int32)) % (4194304 : Int32)) + (1 : Int32))), .val (.int (1 : Int32)), .val (.long ((8192 : Int64) <<< ((1 : Int32) &&& 0x3f).toInt64)), .second, .val (.long ((8192 : Int64) <<< (((1 : Int32) - (1 : Int32)) &&& 0x3f).toInt64)), .second] []))
    refine own_go (fun _ k => XS.iconst X1.here hx rfl (hb hby at_65) k) ?_
    show own_Fin p.tables e below _ (T1.setTop (mkF m 66 #[.val (.int p1), .val (.int (((p1 &&& (2147483647 : Int32)) % (4194304 : Int32)) + (1 : Int32))), .val (.int (1 : Int32)), .val (.long ((8192 : Int64) <<< ((1 : Int32) &&& 0x3f).toInt64)), .second, .val (.long ((8192 : Int64) <<< (((1 : Int32) - (1 : Int32)) &&& 0x3f).toInt64)), .second] [(.int (1 : Int32))]))
    refine own_go (fun _ k => XS.goto X1.here hx rfl (pc0 := 66) (pc' := 70) rfl (hb hby at_66) (by decide) (by decide) k) ?_
    show own_Fin p.tables e below _ (T1.setTop (mkF m 70 #[.val (.int p1), .val (.int (((p1 &&& (2147483647 : Int32)) % (4194304 : Int32)) + (1 : Int32))), .val (.int (1 : Int32)), .val (.long ((8192 : Int64) <<< ((1 : Int32) &&& 0x3f).toInt64)), .second, .val (.long ((8192 : Int64) <<< (((1 : Int32) - (1 : Int32)) &&& 0x3f).toInt64)), .second] [(.int (1 : Int32))]))
    obtain ⟨fs, hr, hrun, hended, hW, hsame⟩ := X1.leave (v := some (.int (1 : Int32))) (fun h => by rw [Bd.returns] at h; cases h)
    refine ⟨_, _, ?_, hrun, hended, _, _, rfl, ?_, ⟨_, rfl⟩, hW, hsame.mono (by decide) (by decide)⟩
    · exact retN X1 hx (t := .boolean) Bd.returns (by simp) (hb hby at_70) hr
    · show Q_own_law Z p1 h0 n0 _ T1.heap _
      rw [eh1]
      exact ⟨rfl, N1⟩
  · rw [hk]
    show own_Fin p.tables e below _ (T1.setTop (mkF m 15 #[.val (.int p1), .val (.int (((p1 &&& (2147483647 : Int32)) % (4194304 : Int32)) + (1 : Int32))), .val (.int (2 : Int32)), .unset, .unset, .unset, .unset] []))
    refine own_go (fun _ k => XS.iloadN X1.here hx rfl (hb hby at_15) rfl k) ?_
    show own_Fin p.tables e below _ (T1.setTop (mkF m 16 #[.val (.int p1), .val (.int (((p1 &&& (2147483647 : Int32)) % (4194304 : Int32)) + (1 : Int32))), .val (.int (2 : Int32)), .unset, .unset, .unset, .unset] [(.int (2 : Int32))]))
    refine own_go (fun _ k => XS.ifNo X1.here hx rfl (hb hby at_16) rfl ((if0 _ _).trans (flt (by decide : ¬ ((2 : Int32) < (0 : Int32)))).1) k) ?_
    show own_Fin p.tables e below _ (T1.setTop (mkF m 19 #[.val (.int p1), .val (.int (((p1 &&& (2147483647 : Int32)) % (4194304 : Int32)) + (1 : Int32))), .val (.int (2 : Int32)), .unset, .unset, .unset, .unset] []))
    refine own_go (fun _ k => XS.iloadN X1.here hx rfl (hb hby at_19) rfl k) ?_
    show own_Fin p.tables e below _ (T1.setTop (mkF m 20 #[.val (.int p1), .val (.int (((p1 &&& (2147483647 : Int32)) % (4194304 : Int32)) + (1 : Int32))), .val (.int (2 : Int32)), .unset, .unset, .unset, .unset] [(.int (2 : Int32))]))
    refine own_go (fun _ k => XS.bipush X1.here hx rfl (hb hby at_20) k) ?_
    show own_Fin p.tables e below _ (T1.setTop (mkF m 22 #[.val (.int p1), .val (.int (((p1 &&& (2147483647 : Int32)) % (4194304 : Int32)) + (1 : Int32))), .val (.int (2 : Int32)), .unset, .unset, .unset, .unset] [(.int (9 : Int32)), (.int (2 : Int32))]))
    refine own_go (fun _ k => XS.icmpYes X1.here hx rfl (pc0 := 22) (pc' := 27) rfl (hb hby at_22) rfl (flt (by decide : ¬ ((9 : Int32) < (2 : Int32)))).2.2.2 (by decide) (by decide) k) ?_
    show own_Fin p.tables e below _ (T1.setTop (mkF m 27 #[.val (.int p1), .val (.int (((p1 &&& (2147483647 : Int32)) % (4194304 : Int32)) + (1 : Int32))), .val (.int (2 : Int32)), .unset, .unset, .unset, .unset] []))
    refine own_go (X1.ldc2Long hx hown (mvT hZ (hw _ (List.mem_of_getElem? (i := 12) rfl))) (g := (mkF m 27 #[.val (.int p1), .val (.int (((p1 &&& (2147483647 : Int32)) % (4194304 : Int32)) + (1 : Int32))), .val (.int (2 : Int32)), .unset, .unset, .unset, .unset] [])) rfl (hb hby at_27)) ?_
    show own_Fin p.tables e below _ (T1.setTop (mkF m 30 #[.val (.int p1), .val (.int (((p1 &&& (2147483647 : Int32)) % (4194304 : Int32)) + (1 : Int32))), .val (.int (2 : Int32)), .unset, .unset, .unset, .unset] [(.long (8192 : Int64))]))
    refine own_go (fun _ k => XS.iloadN X1.here hx rfl (hb hby at_30) rfl k) ?_
    show own_Fin p.tables e below _ (T1.setTop (mkF m 31 #[.val (.int p1), .val (.int (((p1 &&& (2147483647 : Int32)) % (4194304 : Int32)) + (1 : Int32))), .val (.int (2 : Int32)), .unset, .unset, .unset, .unset] [(.int (2 : Int32)), (.long (8192 : Int64))]))
    refine own_go (fun _ k => XS.lshl X1.here hx rfl (hb hby at_31) rfl k) ?_
    show own_Fin p.tables e below _ (T1.setTop (mkF m 32 #[.val (.int p1), .val (.int (((p1 &&& (2147483647 : Int32)) % (4194304 : Int32)) + (1 : Int32))), .val (.int (2 : Int32)), .unset, .unset, .unset, .unset] [(.long ((8192 : Int64) <<< ((2 : Int32) &&& 0x3f).toInt64))]))
    refine own_go (fun _ k => XS.lstoreN X1.here hx rfl (hb hby at_32) rfl (l' := #[.val (.int p1), .val (.int (((p1 &&& (2147483647 : Int32)) % (4194304 : Int32)) + (1 : Int32))), .val (.int (2 : Int32)), .val (.long ((8192 : Int64) <<< ((2 : Int32) &&& 0x3f).toInt64)), .second, .unset, .unset]) rfl k) ?_
    show own_Fin p.tables e below _ (T1.setTop (mkF m 33 #[.val (.int p1), .val (.int (((p1 &&& (2147483647 : Int32)) % (4194304 : Int32)) + (1 : Int32))), .val (.int (2 : Int32)), .val (.long ((8192 : Int64) <<< ((2 : Int32) &&& 0x3f).toInt64)), .second, .unset, .unset] []))
    refine own_go (fun _ k => XS.lloadN X1.here hx rfl (hb hby at_33) rfl k) ?_
    show own_Fin p.tables e below _ (T1.setTop (mkF m 34 #[.val (.int p1), .val (.int (((p1 &&& (2147483647 : Int32)) % (4194304 : Int32)) + (1 : Int32))), .val (.int (2 : Int32)), .val (.long ((8192 : Int64) <<< ((2 : Int32) &&& 0x3f).toInt64)), .second, .unset, .unset] [(.long ((8192 : Int64) <<< ((2 : Int32) &&& 0x3f).toInt64))]))
    refine own_go (fun _ k => XS.iloadN X1.here hx rfl (hb hby at_34) rfl k) ?_
    show own_Fin p.tables e below _ (T1.setTop (mkF m 35 #[.val (.int p1), .val (.int (((p1 &&& (2147483647 : Int32)) % (4194304 : Int32)) + (1 : Int32))), .val (.int (2 : Int32)), .val (.long ((8192 : Int64) <<< ((2 : Int32) &&& 0x3f).toInt64)), .second, .unset, .unset] [(.int (((p1 &&& (2147483647 : Int32)) % (4194304 : Int32)) + (1 : Int32))), (.long ((8192 : Int64) <<< ((2 : Int32) &&& 0x3f).toInt64))]))
    refine own_go (fun _ k => XS.i2l X1.here hx rfl (hb hby at_35) rfl k) ?_
    show own_Fin p.tables e below _ (T1.setTop (mkF m 36 #[.val (.int p1), .val (.int (((p1 &&& (2147483647 : Int32)) % (4194304 : Int32)) + (1 : Int32))), .val (.int (2 : Int32)), .val (.long ((8192 : Int64) <<< ((2 : Int32) &&& 0x3f).toInt64)), .second, .unset, .unset] [(.long ((((p1 &&& (2147483647 : Int32)) % (4194304 : Int32)) + (1 : Int32)).toInt64)), (.long ((8192 : Int64) <<< ((2 : Int32) &&& 0x3f).toInt64))]))
    refine own_go (fun _ k => XS.lcmp X1.here hx rfl (hb hby at_36) rfl k) ?_
    show own_Fin p.tables e below _ (T1.setTop (mkF m 37 #[.val (.int p1), .val (.int (((p1 &&& (2147483647 : Int32)) % (4194304 : Int32)) + (1 : Int32))), .val (.int (2 : Int32)), .val (.long ((8192 : Int64) <<< ((2 : Int32) &&& 0x3f).toInt64)), .second, .unset, .unset] [(.int (lcmpW ((8192 : Int64) <<< ((2 : Int32) &&& 0x3f).toInt64) ((((p1 &&& (2147483647 : Int32)) % (4194304 : Int32)) + (1 : Int32)).toInt64)))]))
    refine own_go (fun _ k => XS.ifYes X1.here hx rfl (pc0 := 37) (pc' := 42) rfl (hb hby at_37) rfl ((if0 _ _).trans (flt (fun q => (own_ge (v := 32768) (by decide) hbd.2) ((lw_lt _ _).mp q))).2.1) (by decide) (by decide) k) ?_
    show own_Fin p.tables e below _ (T1.setTop (mkF m 42 #[.val (.int p1), .val (.int (((p1 &&& (2147483647 : Int32)) % (4194304 : Int32)) + (1 : Int32))), .val (.int (2 : Int32)), .val (.long ((8192 : Int64) <<< ((2 : Int32) &&& 0x3f).toInt64)), .second, .unset, .unset] []))
    refine own_go (fun _ k => XS.iloadN X1.here hx rfl (hb hby at_42) rfl k) ?_
    show own_Fin p.tables e below _ (T1.setTop (mkF m 43 #[.val (.int p1), .val (.int (((p1 &&& (2147483647 : Int32)) % (4194304 : Int32)) + (1 : Int32))), .val (.int (2 : Int32)), .val (.long ((8192 : Int64) <<< ((2 : Int32) &&& 0x3f).toInt64)), .second, .unset, .unset] [(.int (2 : Int32))]))
    refine own_go (fun _ k => XS.ifYes X1.here hx rfl (pc0 := 43) (pc' := 48) rfl (hb hby at_43) rfl ((if0 _ _).trans (feq (by decide : ¬ ((2 : Int32) = (0 : Int32)))).2) (by decide) (by decide) k) ?_
    show own_Fin p.tables e below _ (T1.setTop (mkF m 48 #[.val (.int p1), .val (.int (((p1 &&& (2147483647 : Int32)) % (4194304 : Int32)) + (1 : Int32))), .val (.int (2 : Int32)), .val (.long ((8192 : Int64) <<< ((2 : Int32) &&& 0x3f).toInt64)), .second, .unset, .unset] []))
    refine own_go (X1.ldc2Long hx hown (mvT hZ (hw _ (List.mem_of_getElem? (i := 12) rfl))) (g := (mkF m 48 #[.val (.int p1), .val (.int (((p1 &&& (2147483647 : Int32)) % (4194304 : Int32)) + (1 : Int32))), .val (.int (2 : Int32)), .val (.long ((8192 : Int64) <<< ((2 : Int32) &&& 0x3f).toInt64)), .second, .unset, .unset] [])) rfl (hb hby at_48)) ?_
    show own_Fin p.tables e below _ (T1.setTop (mkF m 51 #[.val (.int p1), .val (.int (((p1 &&& (2147483647 : Int32)) % (4194304 : Int32)) + (1 : Int32))), .val (.int (2 : Int32)), .val (.long ((8192 : Int64) <<< ((2 : Int32) &&& 0x3f).toInt64)), .second, .unset, .unset] [(.long (8192 : Int64))]))
    refine own_go (fun _ k => XS.iloadN X1.here hx rfl (hb hby at_51) rfl k) ?_
    show own_Fin p.tables e below _ (T1.setTop (mkF m 52 #[.val (.int p1), .val (.int (((p1 &&& (2147483647 : Int32)) % (4194304 : Int32)) + (1 : Int32))), .val (.int (2 : Int32)), .val (.long ((8192 : Int64) <<< ((2 : Int32) &&& 0x3f).toInt64)), .second, .unset, .unset] [(.int (2 : Int32)), (.long (8192 : Int64))]))
    refine own_go (fun _ k => XS.iconst X1.here hx rfl (hb hby at_52) k) ?_
    show own_Fin p.tables e below _ (T1.setTop (mkF m 53 #[.val (.int p1), .val (.int (((p1 &&& (2147483647 : Int32)) % (4194304 : Int32)) + (1 : Int32))), .val (.int (2 : Int32)), .val (.long ((8192 : Int64) <<< ((2 : Int32) &&& 0x3f).toInt64)), .second, .unset, .unset] [(.int (1 : Int32)), (.int (2 : Int32)), (.long (8192 : Int64))]))
    refine own_go (fun _ k => XS.isub X1.here hx rfl (hb hby at_53) rfl k) ?_
    show own_Fin p.tables e below _ (T1.setTop (mkF m 54 #[.val (.int p1), .val (.int (((p1 &&& (2147483647 : Int32)) % (4194304 : Int32)) + (1 : Int32))), .val (.int (2 : Int32)), .val (.long ((8192 : Int64) <<< ((2 : Int32) &&& 0x3f).toInt64)), .second, .unset, .unset] [(.int ((2 : Int32) - (1 : Int32))), (.long (8192 : Int64))]))
    refine own_go (fun _ k => XS.lshl X1.here hx rfl (hb hby at_54) rfl k) ?_
    show own_Fin p.tables e below _ (T1.setTop (mkF m 55 #[.val (.int p1), .val (.int (((p1 &&& (2147483647 : Int32)) % (4194304 : Int32)) + (1 : Int32))), .val (.int (2 : Int32)), .val (.long ((8192 : Int64) <<< ((2 : Int32) &&& 0x3f).toInt64)), .second, .unset, .unset] [(.long ((8192 : Int64) <<< (((2 : Int32) - (1 : Int32)) &&& 0x3f).toInt64))]))
    refine own_go (fun _ k => XS.lstore X1.here hx rfl (hb hby at_55) rfl (l' := #[.val (.int p1), .val (.int (((p1 &&& (2147483647 : Int32)) % (4194304 : Int32)) + (1 : Int32))), .val (.int (2 : Int32)), .val (.long ((8192 : Int64) <<< ((2 : Int32) &&& 0x3f).toInt64)), .second, .val (.long ((8192 : Int64) <<< (((2 : Int32) - (1 : Int32)) &&& 0x3f).toInt64)), .second]) rfl k) ?_
    show own_Fin p.tables e below _ (T1.setTop (mkF m 57 #[.val (.int p1), .val (.int (((p1 &&& (2147483647 : Int32)) % (4194304 : Int32)) + (1 : Int32))), .val (.int (2 : Int32)), .val (.long ((8192 : Int64) <<< ((2 : Int32) &&& 0x3f).toInt64)), .second, .val (.long ((8192 : Int64) <<< (((2 : Int32) - (1 : Int32)) &&& 0x3f).toInt64)), .second] []))
    refine own_go (fun _ k => XS.lload X1.here hx rfl (hb hby at_57) rfl k) ?_
    show own_Fin p.tables e below _ (T1.setTop (mkF m 59 #[.val (.int p1), .val (.int (((p1 &&& (2147483647 : Int32)) % (4194304 : Int32)) + (1 : Int32))), .val (.int (2 : Int32)), .val (.long ((8192 : Int64) <<< ((2 : Int32) &&& 0x3f).toInt64)), .second, .val (.long ((8192 : Int64) <<< (((2 : Int32) - (1 : Int32)) &&& 0x3f).toInt64)), .second] [(.long ((8192 : Int64) <<< (((2 : Int32) - (1 : Int32)) &&& 0x3f).toInt64))]))
    refine own_go (fun _ k => XS.iloadN X1.here hx rfl (hb hby at_59) rfl k) ?_
    show own_Fin p.tables e below _ (T1.setTop (mkF m 60 #[.val (.int p1), .val (.int (((p1 &&& (2147483647 : Int32)) % (4194304 : Int32)) + (1 : Int32))), .val (.int (2 : Int32)), .val (.long ((8192 : Int64) <<< ((2 : Int32) &&& 0x3f).toInt64)), .second, .val (.long ((8192 : Int64) <<< (((2 : Int32) - (1 : Int32)) &&& 0x3f).toInt64)), .second] [(.int (((p1 &&& (2147483647 : Int32)) % (4194304 : Int32)) + (1 : Int32))), (.long ((8192 : Int64) <<< (((2 : Int32) - (1 : Int32)) &&& 0x3f).toInt64))]))
    refine own_go (fun _ k => XS.i2l X1.here hx rfl (hb hby at_60) rfl k) ?_
    show own_Fin p.tables e below _ (T1.setTop (mkF m 61 #[.val (.int p1), .val (.int (((p1 &&& (2147483647 : Int32)) % (4194304 : Int32)) + (1 : Int32))), .val (.int (2 : Int32)), .val (.long ((8192 : Int64) <<< ((2 : Int32) &&& 0x3f).toInt64)), .second, .val (.long ((8192 : Int64) <<< (((2 : Int32) - (1 : Int32)) &&& 0x3f).toInt64)), .second] [(.long ((((p1 &&& (2147483647 : Int32)) % (4194304 : Int32)) + (1 : Int32)).toInt64)), (.long ((8192 : Int64) <<< (((2 : Int32) - (1 : Int32)) &&& 0x3f).toInt64))]))
    refine own_go (fun _ k => XS.lcmp X1.here hx rfl (hb hby at_61) rfl k) ?_
    show own_Fin p.tables e below _ (T1.setTop (mkF m 62 #[.val (.int p1), .val (.int (((p1 &&& (2147483647 : Int32)) % (4194304 : Int32)) + (1 : Int32))), .val (.int (2 : Int32)), .val (.long ((8192 : Int64) <<< ((2 : Int32) &&& 0x3f).toInt64)), .second, .val (.long ((8192 : Int64) <<< (((2 : Int32) - (1 : Int32)) &&& 0x3f).toInt64)), .second] [(.int (lcmpW ((8192 : Int64) <<< (((2 : Int32) - (1 : Int32)) &&& 0x3f).toInt64) ((((p1 &&& (2147483647 : Int32)) % (4194304 : Int32)) + (1 : Int32)).toInt64)))]))
    refine own_go (fun _ k => XS.ifNo X1.here hx rfl (hb hby at_62) rfl ((if0 _ _).trans (tlt ((lw_lt _ _).mpr (own_lt (v := 16384) (by decide) hbd.1))).2.1) k) ?_
    show own_Fin p.tables e below _ (T1.setTop (mkF m 65 #[.val (.int p1), .val (.int (((p1 &&& (2147483647 : Int32)) % (4194304 : Int32)) + (1 : Int32))), .val (.int (2 : Int32)), .val (.long ((8192 : Int64) <<< ((2 : Int32) &&& 0x3f).toInt64)), .second, .val (.long ((8192 : Int64) <<< (((2 : Int32) - (1 : Int32)) &&& 0x3f).toInt64)), .second] []))
    refine own_go (fun _ k => XS.iconst X1.here hx rfl (hb hby at_65) k) ?_
    show own_Fin p.tables e below _ (T1.setTop (mkF m 66 #[.val (.int p1), .val (.int (((p1 &&& (2147483647 : Int32)) % (4194304 : Int32)) + (1 : Int32))), .val (.int (2 : Int32)), .val (.long ((8192 : Int64) <<< ((2 : Int32) &&& 0x3f).toInt64)), .second, .val (.long ((8192 : Int64) <<< (((2 : Int32) - (1 : Int32)) &&& 0x3f).toInt64)), .second] [(.int (1 : Int32))]))
    refine own_go (fun _ k => XS.goto X1.here hx rfl (pc0 := 66) (pc' := 70) rfl (hb hby at_66) (by decide) (by decide) k) ?_
    show own_Fin p.tables e below _ (T1.setTop (mkF m 70 #[.val (.int p1), .val (.int (((p1 &&& (2147483647 : Int32)) % (4194304 : Int32)) + (1 : Int32))), .val (.int (2 : Int32)), .val (.long ((8192 : Int64) <<< ((2 : Int32) &&& 0x3f).toInt64)), .second, .val (.long ((8192 : Int64) <<< (((2 : Int32) - (1 : Int32)) &&& 0x3f).toInt64)), .second] [(.int (1 : Int32))]))
    obtain ⟨fs, hr, hrun, hended, hW, hsame⟩ := X1.leave (v := some (.int (1 : Int32))) (fun h => by rw [Bd.returns] at h; cases h)
    refine ⟨_, _, ?_, hrun, hended, _, _, rfl, ?_, ⟨_, rfl⟩, hW, hsame.mono (by decide) (by decide)⟩
    · exact retN X1 hx (t := .boolean) Bd.returns (by simp) (hb hby at_70) hr
    · show Q_own_law Z p1 h0 n0 _ T1.heap _
      rw [eh1]
      exact ⟨rfl, N1⟩
  · rw [hk]
    show own_Fin p.tables e below _ (T1.setTop (mkF m 15 #[.val (.int p1), .val (.int (((p1 &&& (2147483647 : Int32)) % (4194304 : Int32)) + (1 : Int32))), .val (.int (3 : Int32)), .unset, .unset, .unset, .unset] []))
    refine own_go (fun _ k => XS.iloadN X1.here hx rfl (hb hby at_15) rfl k) ?_
    show own_Fin p.tables e below _ (T1.setTop (mkF m 16 #[.val (.int p1), .val (.int (((p1 &&& (2147483647 : Int32)) % (4194304 : Int32)) + (1 : Int32))), .val (.int (3 : Int32)), .unset, .unset, .unset, .unset] [(.int (3 : Int32))]))
    refine own_go (fun _ k => XS.ifNo X1.here hx rfl (hb hby at_16) rfl ((if0 _ _).trans (flt (by decide : ¬ ((3 : Int32) < (0 : Int32)))).1) k) ?_
    show own_Fin p.tables e below _ (T1.setTop (mkF m 19 #[.val (.int p1), .val (.int (((p1 &&& (2147483647 : Int32)) % (4194304 : Int32)) + (1 : Int32))), .val (.int (3 : Int32)), .unset, .unset, .unset, .unset] []))
    refine own_go (fun _ k => XS.iloadN X1.here hx rfl (hb hby at_19) rfl k) ?_
    show own_Fin p.tables e below _ (T1.setTop (mkF m 20 #[.val (.int p1), .val (.int (((p1 &&& (2147483647 : Int32)) % (4194304 : Int32)) + (1 : Int32))), .val (.int (3 : Int32)), .unset, .unset, .unset, .unset] [(.int (3 : Int32))]))
    refine own_go (fun _ k => XS.bipush X1.here hx rfl (hb hby at_20) k) ?_
    show own_Fin p.tables e below _ (T1.setTop (mkF m 22 #[.val (.int p1), .val (.int (((p1 &&& (2147483647 : Int32)) % (4194304 : Int32)) + (1 : Int32))), .val (.int (3 : Int32)), .unset, .unset, .unset, .unset] [(.int (9 : Int32)), (.int (3 : Int32))]))
    refine own_go (fun _ k => XS.icmpYes X1.here hx rfl (pc0 := 22) (pc' := 27) rfl (hb hby at_22) rfl (flt (by decide : ¬ ((9 : Int32) < (3 : Int32)))).2.2.2 (by decide) (by decide) k) ?_
    show own_Fin p.tables e below _ (T1.setTop (mkF m 27 #[.val (.int p1), .val (.int (((p1 &&& (2147483647 : Int32)) % (4194304 : Int32)) + (1 : Int32))), .val (.int (3 : Int32)), .unset, .unset, .unset, .unset] []))
    refine own_go (X1.ldc2Long hx hown (mvT hZ (hw _ (List.mem_of_getElem? (i := 12) rfl))) (g := (mkF m 27 #[.val (.int p1), .val (.int (((p1 &&& (2147483647 : Int32)) % (4194304 : Int32)) + (1 : Int32))), .val (.int (3 : Int32)), .unset, .unset, .unset, .unset] [])) rfl (hb hby at_27)) ?_
    show own_Fin p.tables e below _ (T1.setTop (mkF m 30 #[.val (.int p1), .val (.int (((p1 &&& (2147483647 : Int32)) % (4194304 : Int32)) + (1 : Int32))), .val (.int (3 : Int32)), .unset, .unset, .unset, .unset] [(.long (8192 : Int64))]))
    refine own_go (fun _ k => XS.iloadN X1.here hx rfl (hb hby at_30) rfl k) ?_
    show own_Fin p.tables e below _ (T1.setTop (mkF m 31 #[.val (.int p1), .val (.int (((p1 &&& (2147483647 : Int32)) % (4194304 : Int32)) + (1 : Int32))), .val (.int (3 : Int32)), .unset, .unset, .unset, .unset] [(.int (3 : Int32)), (.long (8192 : Int64))]))
    refine own_go (fun _ k => XS.lshl X1.here hx rfl (hb hby at_31) rfl k) ?_
    show own_Fin p.tables e below _ (T1.setTop (mkF m 32 #[.val (.int p1), .val (.int (((p1 &&& (2147483647 : Int32)) % (4194304 : Int32)) + (1 : Int32))), .val (.int (3 : Int32)), .unset, .unset, .unset, .unset] [(.long ((8192 : Int64) <<< ((3 : Int32) &&& 0x3f).toInt64))]))
    refine own_go (fun _ k => XS.lstoreN X1.here hx rfl (hb hby at_32) rfl (l' := #[.val (.int p1), .val (.int (((p1 &&& (2147483647 : Int32)) % (4194304 : Int32)) + (1 : Int32))), .val (.int (3 : Int32)), .val (.long ((8192 : Int64) <<< ((3 : Int32) &&& 0x3f).toInt64)), .second, .unset, .unset]) rfl k) ?_
    show own_Fin p.tables e below _ (T1.setTop (mkF m 33 #[.val (.int p1), .val (.int (((p1 &&& (2147483647 : Int32)) % (4194304 : Int32)) + (1 : Int32))), .val (.int (3 : Int32)), .val (.long ((8192 : Int64) <<< ((3 : Int32) &&& 0x3f).toInt64)), .second, .unset, .unset] []))
    refine own_go (fun _ k => XS.lloadN X1.here hx rfl (hb hby at_33) rfl k) ?_
    show own_Fin p.tables e below _ (T1.setTop (mkF m 34 #[.val (.int p1), .val (.int (((p1 &&& (2147483647 : Int32)) % (4194304 : Int32)) + (1 : Int32))), .val (.int (3 : Int32)), .val (.long ((8192 : Int64) <<< ((3 : Int32) &&& 0x3f).toInt64)), .second, .unset, .unset] [(.long ((8192 : Int64) <<< ((3 : Int32) &&& 0x3f).toInt64))]))
    refine own_go (fun _ k => XS.iloadN X1.here hx rfl (hb hby at_34) rfl k) ?_
    show own_Fin p.tables e below _ (T1.setTop (mkF m 35 #[.val (.int p1), .val (.int (((p1 &&& (2147483647 : Int32)) % (4194304 : Int32)) + (1 : Int32))), .val (.int (3 : Int32)), .val (.long ((8192 : Int64) <<< ((3 : Int32) &&& 0x3f).toInt64)), .second, .unset, .unset] [(.int (((p1 &&& (2147483647 : Int32)) % (4194304 : Int32)) + (1 : Int32))), (.long ((8192 : Int64) <<< ((3 : Int32) &&& 0x3f).toInt64))]))
    refine own_go (fun _ k => XS.i2l X1.here hx rfl (hb hby at_35) rfl k) ?_
    show own_Fin p.tables e below _ (T1.setTop (mkF m 36 #[.val (.int p1), .val (.int (((p1 &&& (2147483647 : Int32)) % (4194304 : Int32)) + (1 : Int32))), .val (.int (3 : Int32)), .val (.long ((8192 : Int64) <<< ((3 : Int32) &&& 0x3f).toInt64)), .second, .unset, .unset] [(.long ((((p1 &&& (2147483647 : Int32)) % (4194304 : Int32)) + (1 : Int32)).toInt64)), (.long ((8192 : Int64) <<< ((3 : Int32) &&& 0x3f).toInt64))]))
    refine own_go (fun _ k => XS.lcmp X1.here hx rfl (hb hby at_36) rfl k) ?_
    show own_Fin p.tables e below _ (T1.setTop (mkF m 37 #[.val (.int p1), .val (.int (((p1 &&& (2147483647 : Int32)) % (4194304 : Int32)) + (1 : Int32))), .val (.int (3 : Int32)), .val (.long ((8192 : Int64) <<< ((3 : Int32) &&& 0x3f).toInt64)), .second, .unset, .unset] [(.int (lcmpW ((8192 : Int64) <<< ((3 : Int32) &&& 0x3f).toInt64) ((((p1 &&& (2147483647 : Int32)) % (4194304 : Int32)) + (1 : Int32)).toInt64)))]))
    refine own_go (fun _ k => XS.ifYes X1.here hx rfl (pc0 := 37) (pc' := 42) rfl (hb hby at_37) rfl ((if0 _ _).trans (flt (fun q => (own_ge (v := 65536) (by decide) hbd.2) ((lw_lt _ _).mp q))).2.1) (by decide) (by decide) k) ?_
    show own_Fin p.tables e below _ (T1.setTop (mkF m 42 #[.val (.int p1), .val (.int (((p1 &&& (2147483647 : Int32)) % (4194304 : Int32)) + (1 : Int32))), .val (.int (3 : Int32)), .val (.long ((8192 : Int64) <<< ((3 : Int32) &&& 0x3f).toInt64)), .second, .unset, .unset] []))
    refine own_go (fun _ k => XS.iloadN X1.here hx rfl (hb hby at_42) rfl k) ?_
    show own_Fin p.tables e below _ (T1.setTop (mkF m 43 #[.val (.int p1), .val (.int (((p1 &&& (2147483647 : Int32)) % (4194304 : Int32)) + (1 : Int32))), .val (.int (3 : Int32)), .val (.long ((8192 : Int64) <<< ((3 : Int32) &&& 0x3f).toInt64)), .second, .unset, .unset] [(.int (3 : Int32))]))
    refine own_go (fun _ k => XS.ifYes X1.here hx rfl (pc0 := 43) (pc' := 48) rfl (hb hby at_43) rfl ((if0 _ _).trans (feq (by decide : ¬ ((3 : Int32) = (0 : Int32)))).2) (by decide) (by decide) k) ?_
    show own_Fin p.tables e below _ (T1.setTop (mkF m 48 #[.val (.int p1), .val (.int (((p1 &&& (2147483647 : Int32)) % (4194304 : Int32)) + (1 : Int32))), .val (.int (3 : Int32)), .val (.long ((8192 : Int64) <<< ((3 : Int32) &&& 0x3f).toInt64)), .second, .unset, .unset] []))
    refine own_go (X1.ldc2Long hx hown (mvT hZ (hw _ (List.mem_of_getElem? (i := 12) rfl))) (g := (mkF m 48 #[.val (.int p1), .val (.int (((p1 &&& (2147483647 : Int32)) % (4194304 : Int32)) + (1 : Int32))), .val (.int (3 : Int32)), .val (.long ((8192 : Int64) <<< ((3 : Int32) &&& 0x3f).toInt64)), .second, .unset, .unset] [])) rfl (hb hby at_48)) ?_
    show own_Fin p.tables e below _ (T1.setTop (mkF m 51 #[.val (.int p1), .val (.int (((p1 &&& (2147483647 : Int32)) % (4194304 : Int32)) + (1 : Int32))), .val (.int (3 : Int32)), .val (.long ((8192 : Int64) <<< ((3 : Int32) &&& 0x3f).toInt64)), .second, .unset, .unset] [(.long (8192 : Int64))]))
    refine own_go (fun _ k => XS.iloadN X1.here hx rfl (hb hby at_51) rfl k) ?_
    show own_Fin p.tables e below _ (T1.setTop (mkF m 52 #[.val (.int p1), .val (.int (((p1 &&& (2147483647 : Int32)) % (4194304 : Int32)) + (1 : Int32))), .val (.int (3 : Int32)), .val (.long ((8192 : Int64) <<< ((3 : Int32) &&& 0x3f).toInt64)), .second, .unset, .unset] [(.int (3 : Int32)), (.long (8192 : Int64))]))
    refine own_go (fun _ k => XS.iconst X1.here hx rfl (hb hby at_52) k) ?_
    show own_Fin p.tables e below _ (T1.setTop (mkF m 53 #[.val (.int p1), .val (.int (((p1 &&& (2147483647 : Int32)) % (4194304 : Int32)) + (1 : Int32))), .val (.int (3 : Int32)), .val (.long ((8192 : Int64) <<< ((3 : Int32) &&& 0x3f).toInt64)), .second, .unset, .unset] [(.int (1 : Int32)), (.int (3 : Int32)), (.long (8192 : Int64))]))
    refine own_go (fun _ k => XS.isub X1.here hx rfl (hb hby at_53) rfl k) ?_
    show own_Fin p.tables e below _ (T1.setTop (mkF m 54 #[.val (.int p1), .val (.int (((p1 &&& (2147483647 : Int32)) % (4194304 : Int32)) + (1 : Int32))), .val (.int (3 : Int32)), .val (.long ((8192 : Int64) <<< ((3 : Int32) &&& 0x3f).toInt64)), .second, .unset, .unset] [(.int ((3 : Int32) - (1 : Int32))), (.long (8192 : Int64))]))
    refine own_go (fun _ k => XS.lshl X1.here hx rfl (hb hby at_54) rfl k) ?_
    show own_Fin p.tables e below _ (T1.setTop (mkF m 55 #[.val (.int p1), .val (.int (((p1 &&& (2147483647 : Int32)) % (4194304 : Int32)) + (1 : Int32))), .val (.int (3 : Int32)), .val (.long ((8192 : Int64) <<< ((3 : Int32) &&& 0x3f).toInt64)), .second, .unset, .unset] [(.long ((8192 : Int64) <<< (((3 : Int32) - (1 : Int32)) &&& 0x3f).toInt64))]))
    refine own_go (fun _ k => XS.lstore X1.here hx rfl (hb hby at_55) rfl (l' := #[.val (.int p1), .val (.int (((p1 &&& (2147483647 : Int32)) % (4194304 : Int32)) + (1 : Int32))), .val (.int (3 : Int32)), .val (.long ((8192 : Int64) <<< ((3 : Int32) &&& 0x3f).toInt64)), .second, .val (.long ((8192 : Int64) <<< (((3 : Int32) - (1 : Int32)) &&& 0x3f).toInt64)), .second]) rfl k) ?_
    show own_Fin p.tables e below _ (T1.setTop (mkF m 57 #[.val (.int p1), .val (.int (((p1 &&& (2147483647 : Int32)) % (4194304 : Int32)) + (1 : Int32))), .val (.int (3 : Int32)), .val (.long ((8192 : Int64) <<< ((3 : Int32) &&& 0x3f).toInt64)), .second, .val (.long ((8192 : Int64) <<< (((3 : Int32) - (1 : Int32)) &&& 0x3f).toInt64)), .second] []))
    refine own_go (fun _ k => XS.lload X1.here hx rfl (hb hby at_57) rfl k) ?_
    show own_Fin p.tables e below _ (T1.setTop (mkF m 59 #[.val (.int p1), .val (.int (((p1 &&& (2147483647 : Int32)) % (4194304 : Int32)) + (1 : Int32))), .val (.int (3 : Int32)), .val (.long ((8192 : Int64) <<< ((3 : Int32) &&& 0x3f).toInt64)), .second, .val (.long ((8192 : Int64) <<< (((3 : Int32) - (1 : Int32)) &&& 0x3f).toInt64)), .second] [(.long ((8192 : Int64) <<< (((3 : Int32) - (1 : Int32)) &&& 0x3f).toInt64))]))
    refine own_go (fun _ k => XS.iloadN X1.here hx rfl (hb hby at_59) rfl k) ?_
    show own_Fin p.tables e below _ (T1.setTop (mkF m 60 #[.val (.int p1), .val (.int (((p1 &&& (2147483647 : Int32)) % (4194304 : Int32)) + (1 : Int32))), .val (.int (3 : Int32)), .val (.long ((8192 : Int64) <<< ((3 : Int32) &&& 0x3f).toInt64)), .second, .val (.long ((8192 : Int64) <<< (((3 : Int32) - (1 : Int32)) &&& 0x3f).toInt64)), .second] [(.int (((p1 &&& (2147483647 : Int32)) % (4194304 : Int32)) + (1 : Int32))), (.long ((8192 : Int64) <<< (((3 : Int32) - (1 : Int32)) &&& 0x3f).toInt64))]))
    refine own_go (fun _ k => XS.i2l X1.here hx rfl (hb hby at_60) rfl k) ?_
    show own_Fin p.tables e below _ (T1.setTop (mkF m 61 #[.val (.int p1), .val (.int (((p1 &&& (2147483647 : Int32)) % (4194304 : Int32)) + (1 : Int32))), .val (.int (3 : Int32)), .val (.long ((8192 : Int64) <<< ((3 : Int32) &&& 0x3f).toInt64)), .second, .val (.long ((8192 : Int64) <<< (((3 : Int32) - (1 : Int32)) &&& 0x3f).toInt64)), .second] [(.long ((((p1 &&& (2147483647 : Int32)) % (4194304 : Int32)) + (1 : Int32)).toInt64)), (.long ((8192 : Int64) <<< (((3 : Int32) - (1 : Int32)) &&& 0x3f).toInt64))]))
    refine own_go (fun _ k => XS.lcmp X1.here hx rfl (hb hby at_61) rfl k) ?_
    show own_Fin p.tables e below _ (T1.setTop (mkF m 62 #[.val (.int p1), .val (.int (((p1 &&& (2147483647 : Int32)) % (4194304 : Int32)) + (1 : Int32))), .val (.int (3 : Int32)), .val (.long ((8192 : Int64) <<< ((3 : Int32) &&& 0x3f).toInt64)), .second, .val (.long ((8192 : Int64) <<< (((3 : Int32) - (1 : Int32)) &&& 0x3f).toInt64)), .second] [(.int (lcmpW ((8192 : Int64) <<< (((3 : Int32) - (1 : Int32)) &&& 0x3f).toInt64) ((((p1 &&& (2147483647 : Int32)) % (4194304 : Int32)) + (1 : Int32)).toInt64)))]))
    refine own_go (fun _ k => XS.ifNo X1.here hx rfl (hb hby at_62) rfl ((if0 _ _).trans (tlt ((lw_lt _ _).mpr (own_lt (v := 32768) (by decide) hbd.1))).2.1) k) ?_
    show own_Fin p.tables e below _ (T1.setTop (mkF m 65 #[.val (.int p1), .val (.int (((p1 &&& (2147483647 : Int32)) % (4194304 : Int32)) + (1 : Int32))), .val (.int (3 : Int32)), .val (.long ((8192 : Int64) <<< ((3 : Int32) &&& 0x3f).toInt64)), .second, .val (.long ((8192 : Int64) <<< (((3 : Int32) - (1 : Int32)) &&& 0x3f).toInt64)), .second] []))
    refine own_go (fun _ k => XS.iconst X1.here hx rfl (hb hby at_65) k) ?_
    show own_Fin p.tables e below _ (T1.setTop (mkF m 66 #[.val (.int p1), .val (.int (((p1 &&& (2147483647 : Int32)) % (4194304 : Int32)) + (1 : Int32))), .val (.int (3 : Int32)), .val (.long ((8192 : Int64) <<< ((3 : Int32) &&& 0x3f).toInt64)), .second, .val (.long ((8192 : Int64) <<< (((3 : Int32) - (1 : Int32)) &&& 0x3f).toInt64)), .second] [(.int (1 : Int32))]))
    refine own_go (fun _ k => XS.goto X1.here hx rfl (pc0 := 66) (pc' := 70) rfl (hb hby at_66) (by decide) (by decide) k) ?_
    show own_Fin p.tables e below _ (T1.setTop (mkF m 70 #[.val (.int p1), .val (.int (((p1 &&& (2147483647 : Int32)) % (4194304 : Int32)) + (1 : Int32))), .val (.int (3 : Int32)), .val (.long ((8192 : Int64) <<< ((3 : Int32) &&& 0x3f).toInt64)), .second, .val (.long ((8192 : Int64) <<< (((3 : Int32) - (1 : Int32)) &&& 0x3f).toInt64)), .second] [(.int (1 : Int32))]))
    obtain ⟨fs, hr, hrun, hended, hW, hsame⟩ := X1.leave (v := some (.int (1 : Int32))) (fun h => by rw [Bd.returns] at h; cases h)
    refine ⟨_, _, ?_, hrun, hended, _, _, rfl, ?_, ⟨_, rfl⟩, hW, hsame.mono (by decide) (by decide)⟩
    · exact retN X1 hx (t := .boolean) Bd.returns (by simp) (hb hby at_70) hr
    · show Q_own_law Z p1 h0 n0 _ T1.heap _
      rw [eh1]
      exact ⟨rfl, N1⟩
  · rw [hk]
    show own_Fin p.tables e below _ (T1.setTop (mkF m 15 #[.val (.int p1), .val (.int (((p1 &&& (2147483647 : Int32)) % (4194304 : Int32)) + (1 : Int32))), .val (.int (4 : Int32)), .unset, .unset, .unset, .unset] []))
    refine own_go (fun _ k => XS.iloadN X1.here hx rfl (hb hby at_15) rfl k) ?_
    show own_Fin p.tables e below _ (T1.setTop (mkF m 16 #[.val (.int p1), .val (.int (((p1 &&& (2147483647 : Int32)) % (4194304 : Int32)) + (1 : Int32))), .val (.int (4 : Int32)), .unset, .unset, .unset, .unset] [(.int (4 : Int32))]))
    refine own_go (fun _ k => XS.ifNo X1.here hx rfl (hb hby at_16) rfl ((if0 _ _).trans (flt (by decide : ¬ ((4 : Int32) < (0 : Int32)))).1) k) ?_
    show own_Fin p.tables e below _ (T1.setTop (mkF m 19 #[.val (.int p1), .val (.int (((p1 &&& (2147483647 : Int32)) % (4194304 : Int32)) + (1 : Int32))), .val (.int (4 : Int32)), .unset, .unset, .unset, .unset] []))
    refine own_go (fun _ k => XS.iloadN X1.here hx rfl (hb hby at_19) rfl k) ?_
    show own_Fin p.tables e below _ (T1.setTop (mkF m 20 #[.val (.int p1), .val (.int (((p1 &&& (2147483647 : Int32)) % (4194304 : Int32)) + (1 : Int32))), .val (.int (4 : Int32)), .unset, .unset, .unset, .unset] [(.int (4 : Int32))]))
    refine own_go (fun _ k => XS.bipush X1.here hx rfl (hb hby at_20) k) ?_
    show own_Fin p.tables e below _ (T1.setTop (mkF m 22 #[.val (.int p1), .val (.int (((p1 &&& (2147483647 : Int32)) % (4194304 : Int32)) + (1 : Int32))), .val (.int (4 : Int32)), .unset, .unset, .unset, .unset] [(.int (9 : Int32)), (.int (4 : Int32))]))
    refine own_go (fun _ k => XS.icmpYes X1.here hx rfl (pc0 := 22) (pc' := 27) rfl (hb hby at_22) rfl (flt (by decide : ¬ ((9 : Int32) < (4 : Int32)))).2.2.2 (by decide) (by decide) k) ?_
    show own_Fin p.tables e below _ (T1.setTop (mkF m 27 #[.val (.int p1), .val (.int (((p1 &&& (2147483647 : Int32)) % (4194304 : Int32)) + (1 : Int32))), .val (.int (4 : Int32)), .unset, .unset, .unset, .unset] []))
    refine own_go (X1.ldc2Long hx hown (mvT hZ (hw _ (List.mem_of_getElem? (i := 12) rfl))) (g := (mkF m 27 #[.val (.int p1), .val (.int (((p1 &&& (2147483647 : Int32)) % (4194304 : Int32)) + (1 : Int32))), .val (.int (4 : Int32)), .unset, .unset, .unset, .unset] [])) rfl (hb hby at_27)) ?_
    show own_Fin p.tables e below _ (T1.setTop (mkF m 30 #[.val (.int p1), .val (.int (((p1 &&& (2147483647 : Int32)) % (4194304 : Int32)) + (1 : Int32))), .val (.int (4 : Int32)), .unset, .unset, .unset, .unset] [(.long (8192 : Int64))]))
    refine own_go (fun _ k => XS.iloadN X1.here hx rfl (hb hby at_30) rfl k) ?_
    show own_Fin p.tables e below _ (T1.setTop (mkF m 31 #[.val (.int p1), .val (.int (((p1 &&& (2147483647 : Int32)) % (4194304 : Int32)) + (1 : Int32))), .val (.int (4 : Int32)), .unset, .unset, .unset, .unset] [(.int (4 : Int32)), (.long (8192 : Int64))]))
    refine own_go (fun _ k => XS.lshl X1.here hx rfl (hb hby at_31) rfl k) ?_
    show own_Fin p.tables e below _ (T1.setTop (mkF m 32 #[.val (.int p1), .val (.int (((p1 &&& (2147483647 : Int32)) % (4194304 : Int32)) + (1 : Int32))), .val (.int (4 : Int32)), .unset, .unset, .unset, .unset] [(.long ((8192 : Int64) <<< ((4 : Int32) &&& 0x3f).toInt64))]))
    refine own_go (fun _ k => XS.lstoreN X1.here hx rfl (hb hby at_32) rfl (l' := #[.val (.int p1), .val (.int (((p1 &&& (2147483647 : Int32)) % (4194304 : Int32)) + (1 : Int32))), .val (.int (4 : Int32)), .val (.long ((8192 : Int64) <<< ((4 : Int32) &&& 0x3f).toInt64)), .second, .unset, .unset]) rfl k) ?_
    show own_Fin p.tables e below _ (T1.setTop (mkF m 33 #[.val (.int p1), .val (.int (((p1 &&& (2147483647 : Int32)) % (4194304 : Int32)) + (1 : Int32))), .val (.int (4 : Int32)), .val (.long ((8192 : Int64) <<< ((4 : Int32) &&& 0x3f).toInt64)), .second, .unset, .unset] []))
    refine own_go (fun _ k => XS.lloadN X1.here hx rfl (hb hby at_33) rfl k) ?_
    show own_Fin p.tables e below _ (T1.setTop (mkF m 34 #[.val (.int p1), .val (.int (((p1 &&& (2147483647 : Int32)) % (4194304 : Int32)) + (1 : Int32))), .val (.int (4 : Int32)), .val (.long ((8192 : Int64) <<< ((4 : Int32) &&& 0x3f).toInt64)), .second, .unset, .unset] [(.long ((8192 : Int64) <<< ((4 : Int32) &&& 0x3f).toInt64))]))
    refine own_go (fun _ k => XS.iloadN X1.here hx rfl (hb hby at_34) rfl k) ?_
    show own_Fin p.tables e below _ (T1.setTop (mkF m 35 #[.val (.int p1), .val (.int (((p1 &&& (2147483647 : Int32)) % (4194304 : Int32)) + (1 : Int32))), .val (.int (4 : Int32)), .val (.long ((8192 : Int64) <<< ((4 : Int32) &&& 0x3f).toInt64)), .second, .unset, .unset] [(.int (((p1 &&& (2147483647 : Int32)) % (4194304 : Int32)) + (1 : Int32))), (.long ((8192 : Int64) <<< ((4 : Int32) &&& 0x3f).toInt64))]))
    refine own_go (fun _ k => XS.i2l X1.here hx rfl (hb hby at_35) rfl k) ?_
    show own_Fin p.tables e below _ (T1.setTop (mkF m 36 #[.val (.int p1), .val (.int (((p1 &&& (2147483647 : Int32)) % (4194304 : Int32)) + (1 : Int32))), .val (.int (4 : Int32)), .val (.long ((8192 : Int64) <<< ((4 : Int32) &&& 0x3f).toInt64)), .second, .unset, .unset] [(.long ((((p1 &&& (2147483647 : Int32)) % (4194304 : Int32)) + (1 : Int32)).toInt64)), (.long ((8192 : Int64) <<< ((4 : Int32) &&& 0x3f).toInt64))]))
    refine own_go (fun _ k => XS.lcmp X1.here hx rfl (hb hby at_36) rfl k) ?_
    show own_Fin p.tables e below _ (T1.setTop (mkF m 37 #[.val (.int p1), .val (.int (((p1 &&& (2147483647 : Int32)) % (4194304 : Int32)) + (1 : Int32))), .val (.int (4 : Int32)), .val (.long ((8192 : Int64) <<< ((4 : Int32) &&& 0x3f).toInt64)), .second, .unset, .unset] [(.int (lcmpW ((8192 : Int64) <<< ((4 : Int32) &&& 0x3f).toInt64) ((((p1 &&& (2147483647 : Int32)) % (4194304 : Int32)) + (1 : Int32)).toInt64)))]))
    refine own_go (fun _ k => XS.ifYes X1.here hx rfl (pc0 := 37) (pc' := 42) rfl (hb hby at_37) rfl ((if0 _ _).trans (flt (fun q => (own_ge (v := 131072) (by decide) hbd.2) ((lw_lt _ _).mp q))).2.1) (by decide) (by decide) k) ?_
    show own_Fin p.tables e below _ (T1.setTop (mkF m 42 #[.val (.int p1), .val (.int (((p1 &&& (2147483647 : Int32)) % (4194304 : Int32)) + (1 : Int32))), .val (.int (4 : Int32)), .val (.long ((8192 : Int64) <<< ((4 : Int32) &&& 0x3f).toInt64)), .second, .unset, .unset] []))
    refine own_go (fun _ k => XS.iloadN X1.here hx rfl (hb hby at_42) rfl k) ?_
    show own_Fin p.tables e below _ (T1.setTop (mkF m 43 #[.val (.int p1), .val (.int (((p1 &&& (2147483647 : Int32)) % (4194304 : Int32)) + (1 : Int32))), .val (.int (4 : Int32)), .val (.long ((8192 : Int64) <<< ((4 : Int32) &&& 0x3f).toInt64)), .second, .unset, .unset] [(.int (4 : Int32))]))
    refine own_go (fun _ k => XS.ifYes X1.here hx rfl (pc0 := 43) (pc' := 48) rfl (hb hby at_43) rfl ((if0 _ _).trans (feq (by decide : ¬ ((4 : Int32) = (0 : Int32)))).2) (by decide) (by decide) k) ?_
    show own_Fin p.tables e below _ (T1.setTop (mkF m 48 #[.val (.int p1), .val (.int (((p1 &&& (2147483647 : Int32)) % (4194304 : Int32)) + (1 : Int32))), .val (.int (4 : Int32)), .val (.long ((8192 : Int64) <<< ((4 : Int32) &&& 0x3f).toInt64)), .second, .unset, .unset] []))
    refine own_go (X1.ldc2Long hx hown (mvT hZ (hw _ (List.mem_of_getElem? (i := 12) rfl))) (g := (mkF m 48 #[.val (.int p1), .val (.int (((p1 &&& (2147483647 : Int32)) % (4194304 : Int32)) + (1 : Int32))), .val (.int (4 : Int32)), .val (.long ((8192 : Int64) <<< ((4 : Int32) &&& 0x3f).toInt64)), .second, .unset, .unset] [])) rfl (hb hby at_48)) ?_
    show own_Fin p.tables e below _ (T1.setTop (mkF m 51 #[.val (.int p1), .val (.int (((p1 &&& (2147483647 : Int32)) % (4194304 : Int32)) + (1 : Int32))), .val (.int (4 : Int32)), .val (.long ((8192 : Int64) <<< ((4 : Int32) &&& 0x3f).toInt64)), .second, .unset, .unset] [(.long (8192 : Int64))]))
    refine own_go (fun _ k => XS.iloadN X1.here hx rfl (hb hby at_51) rfl k) ?_
    show own_Fin p.tables e below _ (T1.setTop (mkF m 52 #[.val (.int p1), .val (.int (((p1 &&& (2147483647 : Int32)) % (4194304 : Int32)) + (1 : Int32))), .val (.int (4 : Int32)), .val (.long ((8192 : Int64) <<< ((4 : Int32) &&& 0x3f).toInt64)), .second, .unset, .unset] [(.int (4 : Int32)), (.long (8192 : Int64))]))
    refine own_go (fun _ k => XS.iconst X1.here hx rfl (hb hby at_52) k) ?_
    show own_Fin p.tables e below _ (T1.setTop (mkF m 53 #[.val (.int p1), .val (.int (((p1 &&& (2147483647 : Int32)) % (4194304 : Int32)) + (1 : Int32))), .val (.int (4 : Int32)), .val (.long ((8192 : Int64) <<< ((4 : Int32) &&& 0x3f).toInt64)), .second, .unset, .unset] [(.int (1 : Int32)), (.int (4 : Int32)), (.long (8192 : Int64))]))
    refine own_go (fun _ k => XS.isub X1.here hx rfl (hb hby at_53) rfl k) ?_
    show own_Fin p.tables e below _ (T1.setTop (mkF m 54 #[.val (.int p1), .val (.int (((p1 &&& (2147483647 : Int32)) % (4194304 : Int32)) + (1 : Int32))), .val (.int (4 : Int32)), .val (.long ((8192 : Int64) <<< ((4 : Int32) &&& 0x3f).toInt64)), .second, .unset, .unset] [(.int ((4 : Int32) - (1 : Int32))), (.long (8192 : Int64))]))
    refine own_go (fun _ k => XS.lshl X1.here hx rfl (hb hby at_54) rfl k) ?_
    show own_Fin p.tables e below _ (T1.setTop (mkF m 55 #[.val (.int p1), .val (.int (((p1 &&& (2147483647 : Int32)) % (4194304 : Int32)) + (1 : Int32))), .val (.int (4 : Int32)), .val (.long ((8192 : Int64) <<< ((4 : Int32) &&& 0x3f).toInt64)), .second, .unset, .unset] [(.long ((8192 : Int64) <<< (((4 : Int32) - (1 : Int32)) &&& 0x3f).toInt64))]))
    refine own_go (fun _ k => XS.lstore X1.here hx rfl (hb hby at_55) rfl (l' := #[.val (.int p1), .val (.int (((p1 &&& (2147483647 : Int32)) % (4194304 : Int32)) + (1 : Int32))), .val (.int (4 : Int32)), .val (.long ((8192 : Int64) <<< ((4 : Int32) &&& 0x3f).toInt64)), .second, .val (.long ((8192 : Int64) <<< (((4 : Int32) - (1 : Int32)) &&& 0x3f).toInt64)), .second]) rfl k) ?_
    show own_Fin p.tables e below _ (T1.setTop (mkF m 57 #[.val (.int p1), .val (.int (((p1 &&& (2147483647 : Int32)) % (4194304 : Int32)) + (1 : Int32))), .val (.int (4 : Int32)), .val (.long ((8192 : Int64) <<< ((4 : Int32) &&& 0x3f).toInt64)), .second, .val (.long ((8192 : Int64) <<< (((4 : Int32) - (1 : Int32)) &&& 0x3f).toInt64)), .second] []))
    refine own_go (fun _ k => XS.lload X1.here hx rfl (hb hby at_57) rfl k) ?_
    show own_Fin p.tables e below _ (T1.setTop (mkF m 59 #[.val (.int p1), .val (.int (((p1 &&& (2147483647 : Int32)) % (4194304 : Int32)) + (1 : Int32))), .val (.int (4 : Int32)), .val (.long ((8192 : Int64) <<< ((4 : Int32) &&& 0x3f).toInt64)), .second, .val (.long ((8192 : Int64) <<< (((4 : Int32) - (1 : Int32)) &&& 0x3f).toInt64)), .second] [(.long ((8192 : Int64) <<< (((4 : Int32) - (1 : Int32)) &&& 0x3f).toInt64))]))
    refine own_go (fun _ k => XS.iloadN X1.here hx rfl (hb hby at_59) rfl k) ?_
    show own_Fin p.tables e below _ (T1.setTop (mkF m 60 #[.val (.int p1), .val (.int (((p1 &&& (2147483647 : Int32)) % (4194304 : Int32)) + (1 : Int32))), .val (.int (4 : Int32)), .val (.long ((8192 : Int64) <<< ((4 : Int32) &&& 0x3f).toInt64)), .second, .val (.long ((8192 : Int64) <<< (((4 : Int32) - (1 : Int32)) &&& 0x3f).toInt64)), .second] [(.int (((p1 &&& (2147483647 : Int32)) % (4194304 : Int32)) + (1 : Int32))), (.long ((8192 : Int64) <<< (((4 : Int32) - (1 : Int32)) &&& 0x3f).toInt64))]))
    refine own_go (fun _ k => XS.i2l X1.here hx rfl (hb hby at_60) rfl k) ?_
    show own_Fin p.tables e below _ (T1.setTop (mkF m 61 #[.val (.int p1), .val (.int (((p1 &&& (2147483647 : Int32)) % (4194304 : Int32)) + (1 : Int32))), .val (.int (4 : Int32)), .val (.long ((8192 : Int64) <<< ((4 : Int32) &&& 0x3f).toInt64)), .second, .val (.long ((8192 : Int64) <<< (((4 : Int32) - (1 : Int32)) &&& 0x3f).toInt64)), .second] [(.long ((((p1 &&& (2147483647 : Int32)) % (4194304 : Int32)) + (1 : Int32)).toInt64)), (.long ((8192 : Int64) <<< (((4 : Int32) - (1 : Int32)) &&& 0x3f).toInt64))]))
    refine own_go (fun _ k => XS.lcmp X1.here hx rfl (hb hby at_61) rfl k) ?_
    show own_Fin p.tables e below _ (T1.setTop (mkF m 62 #[.val (.int p1), .val (.int (((p1 &&& (2147483647 : Int32)) % (4194304 : Int32)) + (1 : Int32))), .val (.int (4 : Int32)), .val (.long ((8192 : Int64) <<< ((4 : Int32) &&& 0x3f).toInt64)), .second, .val (.long ((8192 : Int64) <<< (((4 : Int32) - (1 : Int32)) &&& 0x3f).toInt64)), .second] [(.int (lcmpW ((8192 : Int64) <<< (((4 : Int32) - (1 : Int32)) &&& 0x3f).toInt64) ((((p1 &&& (2147483647 : Int32)) % (4194304 : Int32)) + (1 : Int32)).toInt64)))]))
    refine own_go (fun _ k => XS.ifNo X1.here hx rfl (hb hby at_62) rfl ((if0 _ _).trans (tlt ((lw_lt _ _).mpr (own_lt (v := 65536) (by decide) hbd.1))).2.1) k) ?_
    show own_Fin p.tables e below _ (T1.setTop (mkF m 65 #[.val (.int p1), .val (.int (((p1 &&& (2147483647 : Int32)) % (4194304 : Int32)) + (1 : Int32))), .val (.int (4 : Int32)), .val (.long ((8192 : Int64) <<< ((4 : Int32) &&& 0x3f).toInt64)), .second, .val (.long ((8192 : Int64) <<< (((4 : Int32) - (1 : Int32)) &&& 0x3f).toInt64)), .second] []))
    refine own_go (fun _ k => XS.iconst X1.here hx rfl (hb hby at_65) k) ?_
    show own_Fin p.tables e below _ (T1.setTop (mkF m 66 #[.val (.int p1), .val (.int (((p1 &&& (2147483647 : Int32)) % (4194304 : Int32)) + (1 : Int32))), .val (.int (4 : Int32)), .val (.long ((8192 : Int64) <<< ((4 : Int32) &&& 0x3f).toInt64)), .second, .val (.long ((8192 : Int64) <<< (((4 : Int32) - (1 : Int32)) &&& 0x3f).toInt64)), .second] [(.int (1 : Int32))]))
    refine own_go (fun _ k => XS.goto X1.here hx rfl (pc0 := 66) (pc' := 70) rfl (hb hby at_66) (by decide) (by decide) k) ?_
    show own_Fin p.tables e below _ (T1.setTop (mkF m 70 #[.val (.int p1), .val (.int (((p1 &&& (2147483647 : Int32)) % (4194304 : Int32)) + (1 : Int32))), .val (.int (4 : Int32)), .val (.long ((8192 : Int64) <<< ((4 : Int32) &&& 0x3f).toInt64)), .second, .val (.long ((8192 : Int64) <<< (((4 : Int32) - (1 : Int32)) &&& 0x3f).toInt64)), .second] [(.int (1 : Int32))]))
    obtain ⟨fs, hr, hrun, hended, hW, hsame⟩ := X1.leave (v := some (.int (1 : Int32))) (fun h => by rw [Bd.returns] at h; cases h)
    refine ⟨_, _, ?_, hrun, hended, _, _, rfl, ?_, ⟨_, rfl⟩, hW, hsame.mono (by decide) (by decide)⟩
    · exact retN X1 hx (t := .boolean) Bd.returns (by simp) (hb hby at_70) hr
    · show Q_own_law Z p1 h0 n0 _ T1.heap _
      rw [eh1]
      exact ⟨rfl, N1⟩
  · rw [hk]
    show own_Fin p.tables e below _ (T1.setTop (mkF m 15 #[.val (.int p1), .val (.int (((p1 &&& (2147483647 : Int32)) % (4194304 : Int32)) + (1 : Int32))), .val (.int (5 : Int32)), .unset, .unset, .unset, .unset] []))
    refine own_go (fun _ k => XS.iloadN X1.here hx rfl (hb hby at_15) rfl k) ?_
    show own_Fin p.tables e below _ (T1.setTop (mkF m 16 #[.val (.int p1), .val (.int (((p1 &&& (2147483647 : Int32)) % (4194304 : Int32)) + (1 : Int32))), .val (.int (5 : Int32)), .unset, .unset, .unset, .unset] [(.int (5 : Int32))]))
    refine own_go (fun _ k => XS.ifNo X1.here hx rfl (hb hby at_16) rfl ((if0 _ _).trans (flt (by decide : ¬ ((5 : Int32) < (0 : Int32)))).1) k) ?_
    show own_Fin p.tables e below _ (T1.setTop (mkF m 19 #[.val (.int p1), .val (.int (((p1 &&& (2147483647 : Int32)) % (4194304 : Int32)) + (1 : Int32))), .val (.int (5 : Int32)), .unset, .unset, .unset, .unset] []))
    refine own_go (fun _ k => XS.iloadN X1.here hx rfl (hb hby at_19) rfl k) ?_
    show own_Fin p.tables e below _ (T1.setTop (mkF m 20 #[.val (.int p1), .val (.int (((p1 &&& (2147483647 : Int32)) % (4194304 : Int32)) + (1 : Int32))), .val (.int (5 : Int32)), .unset, .unset, .unset, .unset] [(.int (5 : Int32))]))
    refine own_go (fun _ k => XS.bipush X1.here hx rfl (hb hby at_20) k) ?_
    show own_Fin p.tables e below _ (T1.setTop (mkF m 22 #[.val (.int p1), .val (.int (((p1 &&& (2147483647 : Int32)) % (4194304 : Int32)) + (1 : Int32))), .val (.int (5 : Int32)), .unset, .unset, .unset, .unset] [(.int (9 : Int32)), (.int (5 : Int32))]))
    refine own_go (fun _ k => XS.icmpYes X1.here hx rfl (pc0 := 22) (pc' := 27) rfl (hb hby at_22) rfl (flt (by decide : ¬ ((9 : Int32) < (5 : Int32)))).2.2.2 (by decide) (by decide) k) ?_
    show own_Fin p.tables e below _ (T1.setTop (mkF m 27 #[.val (.int p1), .val (.int (((p1 &&& (2147483647 : Int32)) % (4194304 : Int32)) + (1 : Int32))), .val (.int (5 : Int32)), .unset, .unset, .unset, .unset] []))
    refine own_go (X1.ldc2Long hx hown (mvT hZ (hw _ (List.mem_of_getElem? (i := 12) rfl))) (g := (mkF m 27 #[.val (.int p1), .val (.int (((p1 &&& (2147483647 : Int32)) % (4194304 : Int32)) + (1 : Int32))), .val (.int (5 : Int32)), .unset, .unset, .unset, .unset] [])) rfl (hb hby at_27)) ?_
    show own_Fin p.tables e below _ (T1.setTop (mkF m 30 #[.val (.int p1), .val (.int (((p1 &&& (2147483647 : Int32)) % (4194304 : Int32)) + (1 : Int32))), .val (.int (5 : Int32)), .unset, .unset, .unset, .unset] [(.long (8192 : Int64))]))
    refine own_go (fun _ k => XS.iloadN X1.here hx rfl (hb hby at_30) rfl k) ?_
    show own_Fin p.tables e below _ (T1.setTop (mkF m 31 #[.val (.int p1), .val (.int (((p1 &&& (2147483647 : Int32)) % (4194304 : Int32)) + (1 : Int32))), .val (.int (5 : Int32)), .unset, .unset, .unset, .unset] [(.int (5 : Int32)), (.long (8192 : Int64))]))
    refine own_go (fun _ k => XS.lshl X1.here hx rfl (hb hby at_31) rfl k) ?_
    show own_Fin p.tables e below _ (T1.setTop (mkF m 32 #[.val (.int p1), .val (.int (((p1 &&& (2147483647 : Int32)) % (4194304 : Int32)) + (1 : Int32))), .val (.int (5 : Int32)), .unset, .unset, .unset, .unset] [(.long ((8192 : Int64) <<< ((5 : Int32) &&& 0x3f).toInt64))]))
    refine own_go (fun _ k => XS.lstoreN X1.here hx rfl (hb hby at_32) rfl (l' := #[.val (.int p1), .val (.int (((p1 &&& (2147483647 : Int32)) % (4194304 : Int32)) + (1 : Int32))), .val (.int (5 : Int32)), .val (.long ((8192 : Int64) <<< ((5 : Int32) &&& 0x3f).toInt64)), .second, .unset, .unset]) rfl k) ?_
    show own_Fin p.tables e below _ (T1.setTop (mkF m 33 #[.val (.int p1), .val (.int (((p1 &&& (2147483647 : Int32)) % (4194304 : Int32)) + (1 : Int32))), .val (.int (5 : Int32)), .val (.long ((8192 : Int64) <<< ((5 : Int32) &&& 0x3f).toInt64)), .second, .unset, .unset] []))
    refine own_go (fun _ k => XS.lloadN X1.here hx rfl (hb hby at_33) rfl k) ?_
    show own_Fin p.tables e below _ (T1.setTop (mkF m 34 #[.val (.int p1), .val (.int (((p1 &&& (2147483647 : Int32)) % (4194304 : Int32)) + (1 : Int32))), .val (.int (5 : Int32)), .val (.long ((8192 : Int64) <<< ((5 : Int32) &&& 0x3f).toInt64)), .second, .unset, .unset] [(.long ((8192 : Int64) <<< ((5 : Int32) &&& 0x3f).toInt64))]))
    refine own_go (fun _ k => XS.iloadN X1.here hx rfl (hb hby at_34) rfl k) ?_
    show own_Fin p.tables e below _ (T1.setTop (mkF m 35 #[.val (.int p1), .val (.int (((p1 &&& (2147483647 : Int32)) % (4194304 : Int32)) + (1 : Int32))), .val (.int (5 : Int32)), .val (.long ((8192 : Int64) <<< ((5 : Int32) &&& 0x3f).toInt64)), .second, .unset, .unset] [(.int (((p1 &&& (2147483647 : Int32)) % (4194304 : Int32)) + (1 : Int32))), (.long ((8192 : Int64) <<< ((5 : Int32) &&& 0x3f).toInt64))]))
    refine own_go (fun _ k => XS.i2l X1.here hx rfl (hb hby at_35) rfl k) ?_
    show own_Fin p.tables e below _ (T1.setTop (mkF m 36 #[.val (.int p1), .val (.int (((p1 &&& (2147483647 : Int32)) % (4194304 : Int32)) + (1 : Int32))), .val (.int (5 : Int32)), .val (.long ((8192 : Int64) <<< ((5 : Int32) &&& 0x3f).toInt64)), .second, .unset, .unset] [(.long ((((p1 &&& (2147483647 : Int32)) % (4194304 : Int32)) + (1 : Int32)).toInt64)), (.long ((8192 : Int64) <<< ((5 : Int32) &&& 0x3f).toInt64))]))
    refine own_go (fun _ k => XS.lcmp X1.here hx rfl (hb hby at_36) rfl k) ?_
    show own_Fin p.tables e below _ (T1.setTop (mkF m 37 #[.val (.int p1), .val (.int (((p1 &&& (2147483647 : Int32)) % (4194304 : Int32)) + (1 : Int32))), .val (.int (5 : Int32)), .val (.long ((8192 : Int64) <<< ((5 : Int32) &&& 0x3f).toInt64)), .second, .unset, .unset] [(.int (lcmpW ((8192 : Int64) <<< ((5 : Int32) &&& 0x3f).toInt64) ((((p1 &&& (2147483647 : Int32)) % (4194304 : Int32)) + (1 : Int32)).toInt64)))]))
    refine own_go (fun _ k => XS.ifYes X1.here hx rfl (pc0 := 37) (pc' := 42) rfl (hb hby at_37) rfl ((if0 _ _).trans (flt (fun q => (own_ge (v := 262144) (by decide) hbd.2) ((lw_lt _ _).mp q))).2.1) (by decide) (by decide) k) ?_
    show own_Fin p.tables e below _ (T1.setTop (mkF m 42 #[.val (.int p1), .val (.int (((p1 &&& (2147483647 : Int32)) % (4194304 : Int32)) + (1 : Int32))), .val (.int (5 : Int32)), .val (.long ((8192 : Int64) <<< ((5 : Int32) &&& 0x3f).toInt64)), .second, .unset, .unset] []))
    refine own_go (fun _ k => XS.iloadN X1.here hx rfl (hb hby at_42) rfl k) ?_
    show own_Fin p.tables e below _ (T1.setTop (mkF m 43 #[.val (.int p1), .val (.int (((p1 &&& (2147483647 : Int32)) % (4194304 : Int32)) + (1 : Int32))), .val (.int (5 : Int32)), .val (.long ((8192 : Int64) <<< ((5 : Int32) &&& 0x3f).toInt64)), .second, .unset, .unset] [(.int (5 : Int32))]))
    refine own_go (fun _ k => XS.ifYes X1.here hx rfl (pc0 := 43) (pc' := 48) rfl (hb hby at_43) rfl ((if0 _ _).trans (feq (by decide : ¬ ((5 : Int32) = (0 : Int32)))).2) (by decide) (by decide) k) ?_
    show own_Fin p.tables e below _ (T1.setTop (mkF m 48 #[.val (.int p1), .val (.int (((p1 &&& (2147483647 : Int32)) % (4194304 : Int32)) + (1 : Int32))), .val (.int (5 : Int32)), .val (.long ((8192 : Int64) <<< ((5 : Int32) &&& 0x3f).toInt64)), .second, .unset, .unset] []))
    refine own_go (X1.ldc2Long hx hown (mvT hZ (hw _ (List.mem_of_getElem? (i := 12) rfl))) (g := (mkF m 48 #[.val (.int p1), .val (.int (((p1 &&& (2147483647 : Int32)) % (4194304 : Int32)) + (1 : Int32))), .val (.int (5 : Int32)), .val (.long ((8192 : Int64) <<< ((5 : Int32) &&& 0x3f).toInt64)), .second, .unset, .unset] [])) rfl (hb hby at_48)) ?_
    show own_Fin p.tables e below _ (T1.setTop (mkF m 51 #[.val (.int p1), .val (.int (((p1 &&& (2147483647 : Int32)) % (4194304 : Int32)) + (1 : Int32))), .val (.int (5 : Int32)), .val (.long ((8192 : Int64) <<< ((5 : Int32) &&& 0x3f).toInt64)), .second, .unset, .unset] [(.long (8192 : Int64))]))
    refine own_go (fun _ k => XS.iloadN X1.here hx rfl (hb hby at_51) rfl k) ?_
    show own_Fin p.tables e below _ (T1.setTop (mkF m 52 #[.val (.int p1), .val (.int (((p1 &&& (2147483647 : Int32)) % (4194304 : Int32)) + (1 : Int32))), .val (.int (5 : Int32)), .val (.long ((8192 : Int64) <<< ((5 : Int32) &&& 0x3f).toInt64)), .second, .unset, .unset] [(.int (5 : Int32)), (.long (8192 : Int64))]))
    refine own_go (fun _ k => XS.iconst X1.here hx rfl (hb hby at_52) k) ?_
    show own_Fin p.tables e below _ (T1.setTop (mkF m 53 #[.val (.int p1), .val (.int (((p1 &&& (2147483647 : Int32)) % (4194304 : Int32)) + (1 : Int32))), .val (.int (5 : Int32)), .val (.long ((8192 : Int64) <<< ((5 : Int32) &&& 0x3f).toInt64)), .second, .unset, .unset] [(.int (1 : Int32)), (.int (5 : Int32)), (.long (8192 : Int64))]))
    refine own_go (fun _ k => XS.isub X1.here hx rfl (hb hby at_53) rfl k) ?_
    show own_Fin p.tables e below _ (T1.setTop (mkF m 54 #[.val (.int p1), .val (.int (((p1 &&& (2147483647 : Int32)) % (4194304 : Int32)) + (1 : Int32))), .val (.int (5 : Int32)), .val (.long ((8192 : Int64) <<< ((5 : Int32) &&& 0x3f).toInt64)), .second, .unset, .unset] [(.int ((5 : Int32) - (1 : Int32))), (.long (8192 : Int64))]))
    refine own_go (fun _ k => XS.lshl X1.here hx rfl (hb hby at_54) rfl k) ?_
    show own_Fin p.tables e below _ (T1.setTop (mkF m 55 #[.val (.int p1), .val (.int (((p1 &&& (2147483647 : Int32)) % (4194304 : Int32)) + (1 : Int32))), .val (.int (5 : Int32)), .val (.long ((8192 : Int64) <<< ((5 : Int32) &&& 0x3f).toInt64)), .second, .unset, .unset] [(.long ((8192 : Int64) <<< (((5 : Int32) - (1 : Int32)) &&& 0x3f).toInt64))]))
    refine own_go (fun _ k => XS.lstore X1.here hx rfl (hb hby at_55) rfl (l' := #[.val (.int p1), .val (.int (((p1 &&& (2147483647 : Int32)) % (4194304 : Int32)) + (1 : Int32))), .val (.int (5 : Int32)), .val (.long ((8192 : Int64) <<< ((5 : Int32) &&& 0x3f).toInt64)), .second, .val (.long ((8192 : Int64) <<< (((5 : Int32) - (1 : Int32)) &&& 0x3f).toInt64)), .second]) rfl k) ?_
    show own_Fin p.tables e below _ (T1.setTop (mkF m 57 #[.val (.int p1), .val (.int (((p1 &&& (2147483647 : Int32)) % (4194304 : Int32)) + (1 : Int32))), .val (.int (5 : Int32)), .val (.long ((8192 : Int64) <<< ((5 : Int32) &&& 0x3f).toInt64)), .second, .val (.long ((8192 : Int64) <<< (((5 : Int32) - (1 : Int32)) &&& 0x3f).toInt64)), .second] []))
    refine own_go (fun _ k => XS.lload X1.here hx rfl (hb hby at_57) rfl k) ?_
    show own_Fin p.tables e below _ (T1.setTop (mkF m 59 #[.val (.int p1), .val (.int (((p1 &&& (2147483647 : Int32)) % (4194304 : Int32)) + (1 : Int32))), .val (.int (5 : Int32)), .val (.long ((8192 : Int64) <<< ((5 : Int32) &&& 0x3f).toInt64)), .second, .val (.long ((8192 : Int64) <<< (((5 : Int32) - (1 : Int32)) &&& 0x3f).toInt64)), .second] [(.long ((8192 : Int64) <<< (((5 : Int32) - (1 : Int32)) &&& 0x3f).toInt64))]))
    refine own_go (fun _ k => XS.iloadN X1.here hx rfl (hb hby at_59) rfl k) ?_
    show own_Fin p.tables e below _ (T1.setTop (mkF m 60 #[.val (.int p1), .val (.int (((p1 &&& (2147483647 : Int32)) % (4194304 : Int32)) + (1 : Int32))), .val (.int (5 : Int32)), .val (.long ((8192 : Int64) <<< ((5 : Int32) &&& 0x3f).toInt64)), .second, .val (.long ((8192 : Int64) <<< (((5 : Int32) - (1 : Int32)) &&& 0x3f).toInt64)), .second] [(.int (((p1 &&& (2147483647 : Int32)) % (4194304 : Int32)) + (1 : Int32))), (.long ((8192 : Int64) <<< (((5 : Int32) - (1 : Int32)) &&& 0x3f).toInt64))]))
    refine own_go (fun _ k => XS.i2l X1.here hx rfl (hb hby at_60) rfl k) ?_
    show own_Fin p.tables e below _ (T1.setTop (mkF m 61 #[.val (.int p1), .val (.int (((p1 &&& (2147483647 : Int32)) % (4194304 : Int32)) + (1 : Int32))), .val (.int (5 : Int32)), .val (.long ((8192 : Int64) <<< ((5 : Int32) &&& 0x3f).toInt64)), .second, .val (.long ((8192 : Int64) <<< (((5 : Int32) - (1 : Int32)) &&& 0x3f).toInt64)), .second] [(.long ((((p1 &&& (2147483647 : Int32)) % (4194304 : Int32)) + (1 : Int32)).toInt64)), (.long ((8192 : Int64) <<< (((5 : Int32) - (1 : Int32)) &&& 0x3f).toInt64))]))
    refine own_go (fun _ k => XS.lcmp X1.here hx rfl (hb hby at_61) rfl k) ?_
    show own_Fin p.tables e below _ (T1.setTop (mkF m 62 #[.val (.int p1), .val (.int (((p1 &&& (2147483647 : Int32)) % (4194304 : Int32)) + (1 : Int32))), .val (.int (5 : Int32)), .val (.long ((8192 : Int64) <<< ((5 : Int32) &&& 0x3f).toInt64)), .second, .val (.long ((8192 : Int64) <<< (((5 : Int32) - (1 : Int32)) &&& 0x3f).toInt64)), .second] [(.int (lcmpW ((8192 : Int64) <<< (((5 : Int32) - (1 : Int32)) &&& 0x3f).toInt64) ((((p1 &&& (2147483647 : Int32)) % (4194304 : Int32)) + (1 : Int32)).toInt64)))]))
    refine own_go (fun _ k => XS.ifNo X1.here hx rfl (hb hby at_62) rfl ((if0 _ _).trans (tlt ((lw_lt _ _).mpr (own_lt (v := 131072) (by decide) hbd.1))).2.1) k) ?_
    show own_Fin p.tables e below _ (T1.setTop (mkF m 65 #[.val (.int p1), .val (.int (((p1 &&& (2147483647 : Int32)) % (4194304 : Int32)) + (1 : Int32))), .val (.int (5 : Int32)), .val (.long ((8192 : Int64) <<< ((5 : Int32) &&& 0x3f).toInt64)), .second, .val (.long ((8192 : Int64) <<< (((5 : Int32) - (1 : Int32)) &&& 0x3f).toInt64)), .second] []))
    refine own_go (fun _ k => XS.iconst X1.here hx rfl (hb hby at_65) k) ?_
    show own_Fin p.tables e below _ (T1.setTop (mkF m 66 #[.val (.int p1), .val (.int (((p1 &&& (2147483647 : Int32)) % (4194304 : Int32)) + (1 : Int32))), .val (.int (5 : Int32)), .val (.long ((8192 : Int64) <<< ((5 : Int32) &&& 0x3f).toInt64)), .second, .val (.long ((8192 : Int64) <<< (((5 : Int32) - (1 : Int32)) &&& 0x3f).toInt64)), .second] [(.int (1 : Int32))]))
    refine own_go (fun _ k => XS.goto X1.here hx rfl (pc0 := 66) (pc' := 70) rfl (hb hby at_66) (by decide) (by decide) k) ?_
    show own_Fin p.tables e below _ (T1.setTop (mkF m 70 #[.val (.int p1), .val (.int (((p1 &&& (2147483647 : Int32)) % (4194304 : Int32)) + (1 : Int32))), .val (.int (5 : Int32)), .val (.long ((8192 : Int64) <<< ((5 : Int32) &&& 0x3f).toInt64)), .second, .val (.long ((8192 : Int64) <<< (((5 : Int32) - (1 : Int32)) &&& 0x3f).toInt64)), .second] [(.int (1 : Int32))]))
    obtain ⟨fs, hr, hrun, hended, hW, hsame⟩ := X1.leave (v := some (.int (1 : Int32))) (fun h => by rw [Bd.returns] at h; cases h)
    refine ⟨_, _, ?_, hrun, hended, _, _, rfl, ?_, ⟨_, rfl⟩, hW, hsame.mono (by decide) (by decide)⟩
    · exact retN X1 hx (t := .boolean) Bd.returns (by simp) (hb hby at_70) hr
    · show Q_own_law Z p1 h0 n0 _ T1.heap _
      rw [eh1]
      exact ⟨rfl, N1⟩
  · rw [hk]
    show own_Fin p.tables e below _ (T1.setTop (mkF m 15 #[.val (.int p1), .val (.int (((p1 &&& (2147483647 : Int32)) % (4194304 : Int32)) + (1 : Int32))), .val (.int (6 : Int32)), .unset, .unset, .unset, .unset] []))
    refine own_go (fun _ k => XS.iloadN X1.here hx rfl (hb hby at_15) rfl k) ?_
    show own_Fin p.tables e below _ (T1.setTop (mkF m 16 #[.val (.int p1), .val (.int (((p1 &&& (2147483647 : Int32)) % (4194304 : Int32)) + (1 : Int32))), .val (.int (6 : Int32)), .unset, .unset, .unset, .unset] [(.int (6 : Int32))]))
    refine own_go (fun _ k => XS.ifNo X1.here hx rfl (hb hby at_16) rfl ((if0 _ _).trans (flt (by decide : ¬ ((6 : Int32) < (0 : Int32)))).1) k) ?_
    show own_Fin p.tables e below _ (T1.setTop (mkF m 19 #[.val (.int p1), .val (.int (((p1 &&& (2147483647 : Int32)) % (4194304 : Int32)) + (1 : Int32))), .val (.int (6 : Int32)), .unset, .unset, .unset, .unset] []))
    refine own_go (fun _ k => XS.iloadN X1.here hx rfl (hb hby at_19) rfl k) ?_
    show own_Fin p.tables e below _ (T1.setTop (mkF m 20 #[.val (.int p1), .val (.int (((p1 &&& (2147483647 : Int32)) % (4194304 : Int32)) + (1 : Int32))), .val (.int (6 : Int32)), .unset, .unset, .unset, .unset] [(.int (6 : Int32))]))
    refine own_go (fun _ k => XS.bipush X1.here hx rfl (hb hby at_20) k) ?_
    show own_Fin p.tables e below _ (T1.setTop (mkF m 22 #[.val (.int p1), .val (.int (((p1 &&& (2147483647 : Int32)) % (4194304 : Int32)) + (1 : Int32))), .val (.int (6 : Int32)), .unset, .unset, .unset, .unset] [(.int (9 : Int32)), (.int (6 : Int32))]))
    refine own_go (fun _ k => XS.icmpYes X1.here hx rfl (pc0 := 22) (pc' := 27) rfl (hb hby at_22) rfl (flt (by decide : ¬ ((9 : Int32) < (6 : Int32)))).2.2.2 (by decide) (by decide) k) ?_
    show own_Fin p.tables e below _ (T1.setTop (mkF m 27 #[.val (.int p1), .val (.int (((p1 &&& (2147483647 : Int32)) % (4194304 : Int32)) + (1 : Int32))), .val (.int (6 : Int32)), .unset, .unset, .unset, .unset] []))
    refine own_go (X1.ldc2Long hx hown (mvT hZ (hw _ (List.mem_of_getElem? (i := 12) rfl))) (g := (mkF m 27 #[.val (.int p1), .val (.int (((p1 &&& (2147483647 : Int32)) % (4194304 : Int32)) + (1 : Int32))), .val (.int (6 : Int32)), .unset, .unset, .unset, .unset] [])) rfl (hb hby at_27)) ?_
    show own_Fin p.tables e below _ (T1.setTop (mkF m 30 #[.val (.int p1), .val (.int (((p1 &&& (2147483647 : Int32)) % (4194304 : Int32)) + (1 : Int32))), .val (.int (6 : Int32)), .unset, .unset, .unset, .unset] [(.long (8192 : Int64))]))
    refine own_go (fun _ k => XS.iloadN X1.here hx rfl (hb hby at_30) rfl k) ?_
    show own_Fin p.tables e below _ (T1.setTop (mkF m 31 #[.val (.int p1), .val (.int (((p1 &&& (2147483647 : Int32)) % (4194304 : Int32)) + (1 : Int32))), .val (.int (6 : Int32)), .unset, .unset, .unset, .unset] [(.int (6 : Int32)), (.long (8192 : Int64))]))
    refine own_go (fun _ k => XS.lshl X1.here hx rfl (hb hby at_31) rfl k) ?_
    show own_Fin p.tables e below _ (T1.setTop (mkF m 32 #[.val (.int p1), .val (.int (((p1 &&& (2147483647 : Int32)) % (4194304 : Int32)) + (1 : Int32))), .val (.int (6 : Int32)), .unset, .unset, .unset, .unset] [(.long ((8192 : Int64) <<< ((6 : Int32) &&& 0x3f).toInt64))]))
    refine own_go (fun _ k => XS.lstoreN X1.here hx rfl (hb hby at_32) rfl (l' := #[.val (.int p1), .val (.int (((p1 &&& (2147483647 : Int32)) % (4194304 : Int32)) + (1 : Int32))), .val (.int (6 : Int32)), .val (.long ((8192 : Int64) <<< ((6 : Int32) &&& 0x3f).toInt64)), .second, .unset, .unset]) rfl k) ?_
    show own_Fin p.tables e below _ (T1.setTop (mkF m 33 #[.val (.int p1), .val (.int (((p1 &&& (2147483647 : Int32)) % (4194304 : Int32)) + (1 : Int32))), .val (.int (6 : Int32)), .val (.long ((8192 : Int64) <<< ((6 : Int32) &&& 0x3f).toInt64)), .second, .unset, .unset] []))
    refine own_go (fun _ k => XS.lloadN X1.here hx rfl (hb hby at_33) rfl k) ?_
    show own_Fin p.tables e below _ (T1.setTop (mkF m 34 #[.val (.int p1), .val (.int (((p1 &&& (2147483647 : Int32)) % (4194304 : Int32)) + (1 : Int32))), .val (.int (6 : Int32)), .val (.long ((8192 : Int64) <<< ((6 : Int32) &&& 0x3f).toInt64)), .second, .unset, .unset] [(.long ((8192 : Int64) <<< ((6 : Int32) &&& 0x3f).toInt64))]))
    refine own_go (fun _ k => XS.iloadN X1.here hx rfl (hb hby at_34) rfl k) ?_
    show own_Fin p.tables e below _ (T1.setTop (mkF m 35 #[.val (.int p1), .val (.int (((p1 &&& (2147483647 : Int32)) % (4194304 : Int32)) + (1 : Int32))), .val (.int (6 : Int32)), .val (.long ((8192 : Int64) <<< ((6 : Int32) &&& 0x3f).toInt64)), .second, .unset, .unset] [(.int (((p1 &&& (2147483647 : Int32)) % (4194304 : Int32)) + (1 : Int32))), (.long ((8192 : Int64) <<< ((6 : Int32) &&& 0x3f).toInt64))]))
    refine own_go (fun _ k => XS.i2l X1.here hx rfl (hb hby at_35) rfl k) ?_
    show own_Fin p.tables e below _ (T1.setTop (mkF m 36 #[.val (.int p1), .val (.int (((p1 &&& (2147483647 : Int32)) % (4194304 : Int32)) + (1 : Int32))), .val (.int (6 : Int32)), .val (.long ((8192 : Int64) <<< ((6 : Int32) &&& 0x3f).toInt64)), .second, .unset, .unset] [(.long ((((p1 &&& (2147483647 : Int32)) % (4194304 : Int32)) + (1 : Int32)).toInt64)), (.long ((8192 : Int64) <<< ((6 : Int32) &&& 0x3f).toInt64))]))
    refine own_go (fun _ k => XS.lcmp X1.here hx rfl (hb hby at_36) rfl k) ?_
    show own_Fin p.tables e below _ (T1.setTop (mkF m 37 #[.val (.int p1), .val (.int (((p1 &&& (2147483647 : Int32)) % (4194304 : Int32)) + (1 : Int32))), .val (.int (6 : Int32)), .val (.long ((8192 : Int64) <<< ((6 : Int32) &&& 0x3f).toInt64)), .second, .unset, .unset] [(.int (lcmpW ((8192 : Int64) <<< ((6 : Int32) &&& 0x3f).toInt64) ((((p1 &&& (2147483647 : Int32)) % (4194304 : Int32)) + (1 : Int32)).toInt64)))]))
    refine own_go (fun _ k => XS.ifYes X1.here hx rfl (pc0 := 37) (pc' := 42) rfl (hb hby at_37) rfl ((if0 _ _).trans (flt (fun q => (own_ge (v := 524288) (by decide) hbd.2) ((lw_lt _ _).mp q))).2.1) (by decide) (by decide) k) ?_
    show own_Fin p.tables e below _ (T1.setTop (mkF m 42 #[.val (.int p1), .val (.int (((p1 &&& (2147483647 : Int32)) % (4194304 : Int32)) + (1 : Int32))), .val (.int (6 : Int32)), .val (.long ((8192 : Int64) <<< ((6 : Int32) &&& 0x3f).toInt64)), .second, .unset, .unset] []))
    refine own_go (fun _ k => XS.iloadN X1.here hx rfl (hb hby at_42) rfl k) ?_
    show own_Fin p.tables e below _ (T1.setTop (mkF m 43 #[.val (.int p1), .val (.int (((p1 &&& (2147483647 : Int32)) % (4194304 : Int32)) + (1 : Int32))), .val (.int (6 : Int32)), .val (.long ((8192 : Int64) <<< ((6 : Int32) &&& 0x3f).toInt64)), .second, .unset, .unset] [(.int (6 : Int32))]))
    refine own_go (fun _ k => XS.ifYes X1.here hx rfl (pc0 := 43) (pc' := 48) rfl (hb hby at_43) rfl ((if0 _ _).trans (feq (by decide : ¬ ((6 : Int32) = (0 : Int32)))).2) (by decide) (by decide) k) ?_
    show own_Fin p.tables e below _ (T1.setTop (mkF m 48 #[.val (.int p1), .val (.int (((p1 &&& (2147483647 : Int32)) % (4194304 : Int32)) + (1 : Int32))), .val (.int (6 : Int32)), .val (.long ((8192 : Int64) <<< ((6 : Int32) &&& 0x3f).toInt64)), .second, .unset, .unset] []))
    refine own_go (X1.ldc2Long hx hown (mvT hZ (hw _ (List.mem_of_getElem? (i := 12) rfl))) (g := (mkF m 48 #[.val (.int p1), .val (.int (((p1 &&& (2147483647 : Int32)) % (4194304 : Int32)) + (1 : Int32))), .val (.int (6 : Int32)), .val (.long ((8192 : Int64) <<< ((6 : Int32) &&& 0x3f).toInt64)), .second, .unset, .unset] [])) rfl (hb hby at_48)) ?_
    show own_Fin p.tables e below _ (T1.setTop (mkF m 51 #[.val (.int p1), .val (.int (((p1 &&& (2147483647 : Int32)) % (4194304 : Int32)) + (1 : Int32))), .val (.int (6 : Int32)), .val (.long ((8192 : Int64) <<< ((6 : Int32) &&& 0x3f).toInt64)), .second, .unset, .unset] [(.long (8192 : Int64))]))
    refine own_go (fun _ k => XS.iloadN X1.here hx rfl (hb hby at_51) rfl k) ?_
    show own_Fin p.tables e below _ (T1.setTop (mkF m 52 #[.val (.int p1), .val (.int (((p1 &&& (2147483647 : Int32)) % (4194304 : Int32)) + (1 : Int32))), .val (.int (6 : Int32)), .val (.long ((8192 : Int64) <<< ((6 : Int32) &&& 0x3f).toInt64)), .second, .unset, .unset] [(.int (6 : Int32)), (.long (8192 : Int64))]))
    refine own_go (fun _ k => XS.iconst X1.here hx rfl (hb hby at_52) k) ?_
    show own_Fin p.tables e below _ (T1.setTop (mkF m 53 #[.val (.int p1), .val (.int (((p1 &&& (2147483647 : Int32)) % (4194304 : Int32)) + (1 : Int32))), .val (.int (6 : Int32)), .val (.long ((8192 : Int64) <<< ((6 : Int32) &&& 0x3f).toInt64)), .second, .unset, .unset] [(.int (1 : Int32)), (.int (6 : Int32)), (.long (8192 : Int64))]))
    refine own_go (fun _ k => XS.isub X1.here hx rfl (hb hby at_53) rfl k) ?_
    show own_Fin p.tables e below _ (T1.setTop (mkF m 54 #[.val (.int p1), .val (.int (((p1 &&& (2147483647 : Int32)) % (4194304 : Int32)) + (1 : Int32))), .val (.int (6 : Int32)), .val (.long ((8192 : Int64) <<< ((6 : Int32) &&& 0x3f).toInt64)), .second, .unset, .unset] [(.int ((6 : Int32) - (1 : Int32))), (.long (8192 : Int64))]))
    refine own_go (fun _ k => XS.lshl X1.here hx rfl (hb hby at_54) rfl k) ?_
    show own_Fin p.tables e below _ (T1.setTop (mkF m 55 #[.val (.int p1), .val (.int (((p1 &&& (2147483647 : Int32)) % (4194304 : Int32)) + (1 : Int32))), .val (.int (6 : Int32)), .val (.long ((8192 : Int64) <<< ((6 : Int32) &&& 0x3f).toInt64)), .second, .unset, .unset] [(.long ((8192 : Int64) <<< (((6 : Int32) - (1 : Int32)) &&& 0x3f).toInt64))]))
    refine own_go (fun _ k => XS.lstore X1.here hx rfl (hb hby at_55) rfl (l' := #[.val (.int p1), .val (.int (((p1 &&& (2147483647 : Int32)) % (4194304 : Int32)) + (1 : Int32))), .val (.int (6 : Int32)), .val (.long ((8192 : Int64) <<< ((6 : Int32) &&& 0x3f).toInt64)), .second, .val (.long ((8192 : Int64) <<< (((6 : Int32) - (1 : Int32)) &&& 0x3f).toInt64)), .second]) rfl k) ?_
    show own_Fin p.tables e below _ (T1.setTop (mkF m 57 #[.val (.int p1), .val (.int (((p1 &&& (2147483647 : Int32)) % (4194304 : Int32)) + (1 : Int32))), .val (.int (6 : Int32)), .val (.long ((8192 : Int64) <<< ((6 : Int32) &&& 0x3f).toInt64)), .second, .val (.long ((8192 : Int64) <<< (((6 : Int32) - (1 : Int32)) &&& 0x3f).toInt64)), .second] []))
    refine own_go (fun _ k => XS.lload X1.here hx rfl (hb hby at_57) rfl k) ?_
    show own_Fin p.tables e below _ (T1.setTop (mkF m 59 #[.val (.int p1), .val (.int (((p1 &&& (2147483647 : Int32)) % (4194304 : Int32)) + (1 : Int32))), .val (.int (6 : Int32)), .val (.long ((8192 : Int64) <<< ((6 : Int32) &&& 0x3f).toInt64)), .second, .val (.long ((8192 : Int64) <<< (((6 : Int32) - (1 : Int32)) &&& 0x3f).toInt64)), .second] [(.long ((8192 : Int64) <<< (((6 : Int32) - (1 : Int32)) &&& 0x3f).toInt64))]))
    refine own_go (fun _ k => XS.iloadN X1.here hx rfl (hb hby at_59) rfl k) ?_
    show own_Fin p.tables e below _ (T1.setTop (mkF m 60 #[.val (.int p1), .val (.int (((p1 &&& (2147483647 : Int32)) % (4194304 : Int32)) + (1 : Int32))), .val (.int (6 : Int32)), .val (.long ((8192 : Int64) <<< ((6 : Int32) &&& 0x3f).toInt64)), .second, .val (.long ((8192 : Int64) <<< (((6 : Int32) - (1 : Int32)) &&& 0x3f).toInt64)), .second] [(.int (((p1 &&& (2147483647 : Int32)) % (4194304 : Int32)) + (1 : Int32))), (.long ((8192 : Int64) <<< (((6 : Int32) - (1 : Int32)) &&& 0x3f).toInt64))]))
    refine own_go (fun _ k => XS.i2l X1.here hx rfl (hb hby at_60) rfl k) ?_
    show own_Fin p.tables e below _ (T1.setTop (mkF m 61 #[.val (.int p1), .val (.int (((p1 &&& (2147483647 : Int32)) % (4194304 : Int32)) + (1 : Int32))), .val (.int (6 : Int32)), .val (.long ((8192 : Int64) <<< ((6 : Int32) &&& 0x3f).toInt64)), .second, .val (.long ((8192 : Int64) <<< (((6 : Int32) - (1 : Int32)) &&& 0x3f).toInt64)), .second] [(.long ((((p1 &&& (2147483647 : Int32)) % (4194304 : Int32)) + (1 : Int32)).toInt64)), (.long ((8192 : Int64) <<< (((6 : Int32) - (1 : Int32)) &&& 0x3f).toInt64))]))
    refine own_go (fun _ k => XS.lcmp X1.here hx rfl (hb hby at_61) rfl k) ?_
    show own_Fin p.tables e below _ (T1.setTop (mkF m 62 #[.val (.int p1), .val (.int (((p1 &&& (2147483647 : Int32)) % (4194304 : Int32)) + (1 : Int32))), .val (.int (6 : Int32)), .val (.long ((8192 : Int64) <<< ((6 : Int32) &&& 0x3f).toInt64)), .second, .val (.long ((8192 : Int64) <<< (((6 : Int32) - (1 : Int32)) &&& 0x3f).toInt64)), .second] [(.int (lcmpW ((8192 : Int64) <<< (((6 : Int32) - (1 : Int32)) &&& 0x3f).toInt64) ((((p1 &&& (2147483647 : Int32)) % (4194304 : Int32)) + (1 : Int32)).toInt64)))]))
    refine own_go (fun _ k => XS.ifNo X1.here hx rfl (hb hby at_62) rfl ((if0 _ _).trans (tlt ((lw_lt _ _).mpr (own_lt (v := 262144) (by decide) hbd.1))).2.1) k) ?_
    show own_Fin p.tables e below _ (T1.setTop (mkF m 65 #[.val (.int p1), .val (.int (((p1 &&& (2147483647 : Int32)) % (4194304 : Int32)) + (1 : Int32))), .val (.int (6 : Int32)), .val (.long ((8192 : Int64) <<< ((6 : Int32) &&& 0x3f).toInt64)), .second, .val (.long ((8192 : Int64) <<< (((6 : Int32) - (1 : Int32)) &&& 0x3f).toInt64)), .second] []))
    refine own_go (fun _ k => XS.iconst X1.here hx rfl (hb hby at_65) k) ?_
    show own_Fin p.tables e below _ (T1.setTop (mkF m 66 #[.val (.int p1), .val (.int (((p1 &&& (2147483647 : Int32)) % (4194304 : Int32)) + (1 : Int32))), .val (.int (6 : Int32)), .val (.long ((8192 : Int64) <<< ((6 : Int32) &&& 0x3f).toInt64)), .second, .val (.long ((8192 : Int64) <<< (((6 : Int32) - (1 : Int32)) &&& 0x3f).toInt64)), .second] [(.int (1 : Int32))]))
    refine own_go (fun _ k => XS.goto X1.here hx rfl (pc0 := 66) (pc' := 70) rfl (hb hby at_66) (by decide) (by decide) k) ?_
    show own_Fin p.tables e below _ (T1.setTop (mkF m 70 #[.val (.int p1), .val (.int (((p1 &&& (2147483647 : Int32)) % (4194304 : Int32)) + (1 : Int32))), .val (.int (6 : Int32)), .val (.long ((8192 : Int64) <<< ((6 : Int32) &&& 0x3f).toInt64)), .second, .val (.long ((8192 : Int64) <<< (((6 : Int32) - (1 : Int32)) &&& 0x3f).toInt64)), .second] [(.int (1 : Int32))]))
    obtain ⟨fs, hr, hrun, hended, hW, hsame⟩ := X1.leave (v := some (.int (1 : Int32))) (fun h => by rw [Bd.returns] at h; cases h)
    refine ⟨_, _, ?_, hrun, hended, _, _, rfl, ?_, ⟨_, rfl⟩, hW, hsame.mono (by decide) (by decide)⟩
    · exact retN X1 hx (t := .boolean) Bd.returns (by simp) (hb hby at_70) hr
    · show Q_own_law Z p1 h0 n0 _ T1.heap _
      rw [eh1]
      exact ⟨rfl, N1⟩
  · rw [hk]
    show own_Fin p.tables e below _ (T1.setTop (mkF m 15 #[.val (.int p1), .val (.int (((p1 &&& (2147483647 : Int32)) % (4194304 : Int32)) + (1 : Int32))), .val (.int (7 : Int32)), .unset, .unset, .unset, .unset] []))
    refine own_go (fun _ k => XS.iloadN X1.here hx rfl (hb hby at_15) rfl k) ?_
    show own_Fin p.tables e below _ (T1.setTop (mkF m 16 #[.val (.int p1), .val (.int (((p1 &&& (2147483647 : Int32)) % (4194304 : Int32)) + (1 : Int32))), .val (.int (7 : Int32)), .unset, .unset, .unset, .unset] [(.int (7 : Int32))]))
    refine own_go (fun _ k => XS.ifNo X1.here hx rfl (hb hby at_16) rfl ((if0 _ _).trans (flt (by decide : ¬ ((7 : Int32) < (0 : Int32)))).1) k) ?_
    show own_Fin p.tables e below _ (T1.setTop (mkF m 19 #[.val (.int p1), .val (.int (((p1 &&& (2147483647 : Int32)) % (4194304 : Int32)) + (1 : Int32))), .val (.int (7 : Int32)), .unset, .unset, .unset, .unset] []))
    refine own_go (fun _ k => XS.iloadN X1.here hx rfl (hb hby at_19) rfl k) ?_
    show own_Fin p.tables e below _ (T1.setTop (mkF m 20 #[.val (.int p1), .val (.int (((p1 &&& (2147483647 : Int32)) % (4194304 : Int32)) + (1 : Int32))), .val (.int (7 : Int32)), .unset, .unset, .unset, .unset] [(.int (7 : Int32))]))
    refine own_go (fun _ k => XS.bipush X1.here hx rfl (hb hby at_20) k) ?_
    show own_Fin p.tables e below _ (T1.setTop (mkF m 22 #[.val (.int p1), .val (.int (((p1 &&& (2147483647 : Int32)) % (4194304 : Int32)) + (1 : Int32))), .val (.int (7 : Int32)), .unset, .unset, .unset, .unset] [(.int (9 : Int32)), (.int (7 : Int32))]))
    refine own_go (fun _ k => XS.icmpYes X1.here hx rfl (pc0 := 22) (pc' := 27) rfl (hb hby at_22) rfl (flt (by decide : ¬ ((9 : Int32) < (7 : Int32)))).2.2.2 (by decide) (by decide) k) ?_
    show own_Fin p.tables e below _ (T1.setTop (mkF m 27 #[.val (.int p1), .val (.int (((p1 &&& (2147483647 : Int32)) % (4194304 : Int32)) + (1 : Int32))), .val (.int (7 : Int32)), .unset, .unset, .unset, .unset] []))
    refine own_go (X1.ldc2Long hx hown (mvT hZ (hw _ (List.mem_of_getElem? (i := 12) rfl))) (g := (mkF m 27 #[.val (.int p1), .val (.int (((p1 &&& (2147483647 : Int32)) % (4194304 : Int32)) + (1 : Int32))), .val (.int (7 : Int32)), .unset, .unset, .unset, .unset] [])) rfl (hb hby at_27)) ?_
    show own_Fin p.tables e below _ (T1.setTop (mkF m 30 #[.val (.int p1), .val (.int (((p1 &&& (2147483647 : Int32)) % (4194304 : Int32)) + (1 : Int32))), .val (.int (7 : Int32)), .unset, .unset, .unset, .unset] [(.long (8192 : Int64))]))
    refine own_go (fun _ k => XS.iloadN X1.here hx rfl (hb hby at_30) rfl k) ?_
    show own_Fin p.tables e below _ (T1.setTop (mkF m 31 #[.val (.int p1), .val (.int (((p1 &&& (2147483647 : Int32)) % (4194304 : Int32)) + (1 : Int32))), .val (.int (7 : Int32)), .unset, .unset, .unset, .unset] [(.int (7 : Int32)), (.long (8192 : Int64))]))
    refine own_go (fun _ k => XS.lshl X1.here hx rfl (hb hby at_31) rfl k) ?_
    show own_Fin p.tables e below _ (T1.setTop (mkF m 32 #[.val (.int p1), .val (.int (((p1 &&& (2147483647 : Int32)) % (4194304 : Int32)) + (1 : Int32))), .val (.int (7 : Int32)), .unset, .unset, .unset, .unset] [(.long ((8192 : Int64) <<< ((7 : Int32) &&& 0x3f).toInt64))]))
    refine own_go (fun _ k => XS.lstoreN X1.here hx rfl (hb hby at_32) rfl (l' := #[.val (.int p1), .val (.int (((p1 &&& (2147483647 : Int32)) % (4194304 : Int32)) + (1 : Int32))), .val (.int (7 : Int32)), .val (.long ((8192 : Int64) <<< ((7 : Int32) &&& 0x3f).toInt64)), .second, .unset, .unset]) rfl k) ?_
    show own_Fin p.tables e below _ (T1.setTop (mkF m 33 #[.val (.int p1), .val (.int (((p1 &&& (2147483647 : Int32)) % (4194304 : Int32)) + (1 : Int32))), .val (.int (7 : Int32)), .val (.long ((8192 : Int64) <<< ((7 : Int32) &&& 0x3f).toInt64)), .second, .unset, .unset] []))
    refine own_go (fun _ k => XS.lloadN X1.here hx rfl (hb hby at_33) rfl k) ?_
    show own_Fin p.tables e below _ (T1.setTop (mkF m 34 #[.val (.int p1), .val (.int (((p1 &&& (2147483647 : Int32)) % (4194304 : Int32)) + (1 : Int32))), .val (.int (7 : Int32)), .val (.long ((8192 : Int64) <<< ((7 : Int32) &&& 0x3f).toInt64)), .second, .unset, .unset] [(.long ((8192 : Int64) <<< ((7 : Int32) &&& 0x3f).toInt64))]))
    refine own_go (fun _ k => XS.iloadN X1.here hx rfl (hb hby at_34) rfl k) ?_
    show own_Fin p.tables e below _ (T1.setTop (mkF m 35 #[.val (.int p1), .val (.int (((p1 &&& (2147483647 : Int32)) % (4194304 : Int32)) + (1 : Int32))), .val (.int (7 : Int32)), .val (.long ((8192 : Int64) <<< ((7 : Int32) &&& 0x3f).toInt64)), .second, .unset, .unset] [(.int (((p1 &&& (2147483647 : Int32)) % (4194304 : Int32)) + (1 : Int32))), (.long ((8192 : Int64) <<< ((7 : Int32) &&& 0x3f).toInt64))]))
    refine own_go (fun _ k => XS.i2l X1.here hx rfl (hb hby at_35) rfl k) ?_
    show own_Fin p.tables e below _ (T1.setTop (mkF m 36 #[.val (.int p1), .val (.int (((p1 &&& (2147483647 : Int32)) % (4194304 : Int32)) + (1 : Int32))), .val (.int (7 : Int32)), .val (.long ((8192 : Int64) <<< ((7 : Int32) &&& 0x3f).toInt64)), .second, .unset, .unset] [(.long ((((p1 &&& (2147483647 : Int32)) % (4194304 : Int32)) + (1 : Int32)).toInt64)), (.long ((8192 : Int64) <<< ((7 : Int32) &&& 0x3f).toInt64))]))
    refine own_go (fun _ k => XS.lcmp X1.here hx rfl (hb hby at_36) rfl k) ?_
    show own_Fin p.tables e below _ (T1.setTop (mkF m 37 #[.val (.int p1), .val (.int (((p1 &&& (2147483647 : Int32)) % (4194304 : Int32)) + (1 : Int32))), .val (.int (7 : Int32)), .val (.long ((8192 : Int64) <<< ((7 : Int32) &&& 0x3f).toInt64)), .second, .unset, .unset] [(.int (lcmpW ((8192 : Int64) <<< ((7 : Int32) &&& 0x3f).toInt64) ((((p1 &&& (2147483647 : Int32)) % (4194304 : Int32)) + (1 : Int32)).toInt64)))]))
    refine own_go (fun _ k => XS.ifYes X1.here hx rfl (pc0 := 37) (pc' := 42) rfl (hb hby at_37) rfl ((if0 _ _).trans (flt (fun q => (own_ge (v := 1048576) (by decide) hbd.2) ((lw_lt _ _).mp q))).2.1) (by decide) (by decide) k) ?_
    show own_Fin p.tables e below _ (T1.setTop (mkF m 42 #[.val (.int p1), .val (.int (((p1 &&& (2147483647 : Int32)) % (4194304 : Int32)) + (1 : Int32))), .val (.int (7 : Int32)), .val (.long ((8192 : Int64) <<< ((7 : Int32) &&& 0x3f).toInt64)), .second, .unset, .unset] []))
    refine own_go (fun _ k => XS.iloadN X1.here hx rfl (hb hby at_42) rfl k) ?_
    show own_Fin p.tables e below _ (T1.setTop (mkF m 43 #[.val (.int p1), .val (.int (((p1 &&& (2147483647 : Int32)) % (4194304 : Int32)) + (1 : Int32))), .val (.int (7 : Int32)), .val (.long ((8192 : Int64) <<< ((7 : Int32) &&& 0x3f).toInt64)), .second, .unset, .unset] [(.int (7 : Int32))]))
    refine own_go (fun _ k => XS.ifYes X1.here hx rfl (pc0 := 43) (pc' := 48) rfl (hb hby at_43) rfl ((if0 _ _).trans (feq (by decide : ¬ ((7 : Int32) = (0 : Int32)))).2) (by decide) (by decide) k) ?_
    show own_Fin p.tables e below _ (T1.setTop (mkF m 48 #[.val (.int p1), .val (.int (((p1 &&& (2147483647 : Int32)) % (4194304 : Int32)) + (1 : Int32))), .val (.int (7 : Int32)), .val (.long ((8192 : Int64) <<< ((7 : Int32) &&& 0x3f).toInt64)), .second, .unset, .unset] []))
    refine own_go (X1.ldc2Long hx hown (mvT hZ (hw _ (List.mem_of_getElem? (i := 12) rfl))) (g := (mkF m 48 #[.val (.int p1), .val (.int (((p1 &&& (2147483647 : Int32)) % (4194304 : Int32)) + (1 : Int32))), .val (.int (7 : Int32)), .val (.long ((8192 : Int64) <<< ((7 : Int32) &&& 0x3f).toInt64)), .second, .unset, .unset] [])) rfl (hb hby at_48)) ?_
    show own_Fin p.tables e below _ (T1.setTop (mkF m 51 #[.val (.int p1), .val (.int (((p1 &&& (2147483647 : Int32)) % (4194304 : Int32)) + (1 : Int32))), .val (.int (7 : Int32)), .val (.long ((8192 : Int64) <<< ((7 : Int32) &&& 0x3f).toInt64)), .second, .unset, .unset] [(.long (8192 : Int64))]))
    refine own_go (fun _ k => XS.iloadN X1.here hx rfl (hb hby at_51) rfl k) ?_
    show own_Fin p.tables e below _ (T1.setTop (mkF m 52 #[.val (.int p1), .val (.int (((p1 &&& (2147483647 : Int32)) % (4194304 : Int32)) + (1 : Int32))), .val (.int (7 : Int32)), .val (.long ((8192 : Int64) <<< ((7 : Int32) &&& 0x3f).toInt64)), .second, .unset, .unset] [(.int (7 : Int32)), (.long (8192 : Int64))]))
    refine own_go (fun _ k => XS.iconst X1.here hx rfl (hb hby at_52) k) ?_
    show own_Fin p.tables e below _ (T1.setTop (mkF m 53 #[.val (.int p1), .val (.int (((p1 &&& (2147483647 : Int32)) % (4194304 : Int32)) + (1 : Int32))), .val (.int (7 : Int32)), .val (.long ((8192 : Int64) <<< ((7 : Int32) &&& 0x3f).toInt64)), .second, .unset, .unset] [(.int (1 : Int32)), (.int (7 : Int32)), (.long (8192 : Int64))]))
    refine own_go (fun _ k => XS.isub X1.here hx rfl (hb hby at_53) rfl k) ?_
    show own_Fin p.tables e below _ (T1.setTop (mkF m 54 #[.val (.int p1), .val (.int (((p1 &&& (2147483647 : Int32)) % (4194304 : Int32)) + (1 : Int32))), .val (.int (7 : Int32)), .val (.long ((8192 : Int64) <<< ((7 : Int32) &&& 0x3f).toInt64)), .second, .unset, .unset] [(.int ((7 : Int32) - (1 : Int32))), (.long (8192 : Int64))]))
    refine own_go (fun _ k => XS.lshl X1.here hx rfl (hb hby at_54) rfl k) ?_
    show own_Fin p.tables e below _ (T1.setTop (mkF m 55 #[.val (.int p1), .val (.int (((p1 &&& (2147483647 : Int32)) % (4194304 : Int32)) + (1 : Int32))), .val (.int (7 : Int32)), .val (.long ((8192 : Int64) <<< ((7 : Int32) &&& 0x3f).toInt64)), .second, .unset, .unset] [(.long ((8192 : Int64) <<< (((7 : Int32) - (1 : Int32)) &&& 0x3f).toInt64))]))
    refine own_go (fun _ k => XS.lstore X1.here hx rfl (hb hby at_55) rfl (l' := #[.val (.int p1), .val (.int (((p1 &&& (2147483647 : Int32)) % (4194304 : Int32)) + (1 : Int32))), .val (.int (7 : Int32)), .val (.long ((8192 : Int64) <<< ((7 : Int32) &&& 0x3f).toInt64)), .second, .val (.long ((8192 : Int64) <<< (((7 : Int32) - (1 : Int32)) &&& 0x3f).toInt64)), .second]) rfl k) ?_
    show own_Fin p.tables e below _ (T1.setTop (mkF m 57 #[.val (.int p1), .val (.int (((p1 &&& (2147483647 : Int32)) % (4194304 : Int32)) + (1 : Int32))), .val (.int (7 : Int32)), .val (.long ((8192 : Int64) <<< ((7 : Int32) &&& 0x3f).toInt64)), .second, .val (.long ((8192 : Int64) <<< (((7 : Int32) - (1 : Int32)) &&& 0x3f).toInt64)), .second] []))
    refine own_go (fun _ k => XS.lload X1.here hx rfl (hb hby at_57) rfl k) ?_
    show own_Fin p.tables e below _ (T1.setTop (mkF m 59 #[.val (.int p1), .val (.int (((p1 &&& (2147483647 : Int32)) % (4194304 : Int32)) + (1 : Int32))), .val (.int (7 : Int32)), .val (.long ((8192 : Int64) <<< ((7 : Int32) &&& 0x3f).toInt64)), .second, .val (.long ((8192 : Int64) <<< (((7 : Int32) - (1 : Int32)) &&& 0x3f).toInt64)), .second] [(.long ((8192 : Int64) <<< (((7 : Int32) - (1 : Int32)) &&& 0x3f).toInt64))]))
    refine own_go (fun _ k => XS.iloadN X1.here hx rfl (hb hby at_59) rfl k) ?_
    show own_Fin p.tables e below _ (T1.setTop (mkF m 60 #[.val (.int p1), .val (.int (((p1 &&& (2147483647 : Int32)) % (4194304 : Int32)) + (1 : Int32))), .val (.int (7 : Int32)), .val (.long ((8192 : Int64) <<< ((7 : Int32) &&& 0x3f).toInt64)), .second, .val (.long ((8192 : Int64) <<< (((7 : Int32) - (1 : Int32)) &&& 0x3f).toInt64)), .second] [(.int (((p1 &&& (2147483647 : Int32)) % (4194304 : Int32)) + (1 : Int32))), (.long ((8192 : Int64) <<< (((7 : Int32) - (1 : Int32)) &&& 0x3f).toInt64))]))
    refine own_go (fun _ k => XS.i2l X1.here hx rfl (hb hby at_60) rfl k) ?_
    show own_Fin p.tables e below _ (T1.setTop (mkF m 61 #[.val (.int p1), .val (.int (((p1 &&& (2147483647 : Int32)) % (4194304 : Int32)) + (1 : Int32))), .val (.int (7 : Int32)), .val (.long ((8192 : Int64) <<< ((7 : Int32) &&& 0x3f).toInt64)), .second, .val (.long ((8192 : Int64) <<< (((7 : Int32) - (1 : Int32)) &&& 0x3f).toInt64)), .second] [(.long ((((p1 &&& (2147483647 : Int32)) % (4194304 : Int32)) + (1 : Int32)).toInt64)), (.long ((8192 : Int64) <<< (((7 : Int32) - (1 : Int32)) &&& 0x3f).toInt64))]))
    refine own_go (fun _ k => XS.lcmp X1.here hx rfl (hb hby at_61) rfl k) ?_
    show own_Fin p.tables e below _ (T1.setTop (mkF m 62 #[.val (.int p1), .val (.int (((p1 &&& (2147483647 : Int32)) % (4194304 : Int32)) + (1 : Int32))), .val (.int (7 : Int32)), .val (.long ((8192 : Int64) <<< ((7 : Int32) &&& 0x3f).toInt64)), .second, .val (.long ((8192 : Int64) <<< (((7 : Int32) - (1 : Int32)) &&& 0x3f).toInt64)), .second] [(.int (lcmpW ((8192 : Int64) <<< (((7 : Int32) - (1 : Int32)) &&& 0x3f).toInt64) ((((p1 &&& (2147483647 : Int32)) % (4194304 : Int32)) + (1 : Int32)).toInt64)))]))
    refine own_go (fun _ k => XS.ifNo X1.here hx rfl (hb hby at_62) rfl ((if0 _ _).trans (tlt ((lw_lt _ _).mpr (own_lt (v := 524288) (by decide) hbd.1))).2.1) k) ?_
    show own_Fin p.tables e below _ (T1.setTop (mkF m 65 #[.val (.int p1), .val (.int (((p1 &&& (2147483647 : Int32)) % (4194304 : Int32)) + (1 : Int32))), .val (.int (7 : Int32)), .val (.long ((8192 : Int64) <<< ((7 : Int32) &&& 0x3f).toInt64)), .second, .val (.long ((8192 : Int64) <<< (((7 : Int32) - (1 : Int32)) &&& 0x3f).toInt64)), .second] []))
    refine own_go (fun _ k => XS.iconst X1.here hx rfl (hb hby at_65) k) ?_
    show own_Fin p.tables e below _ (T1.setTop (mkF m 66 #[.val (.int p1), .val (.int (((p1 &&& (2147483647 : Int32)) % (4194304 : Int32)) + (1 : Int32))), .val (.int (7 : Int32)), .val (.long ((8192 : Int64) <<< ((7 : Int32) &&& 0x3f).toInt64)), .second, .val (.long ((8192 : Int64) <<< (((7 : Int32) - (1 : Int32)) &&& 0x3f).toInt64)), .second] [(.int (1 : Int32))]))
    refine own_go (fun _ k => XS.goto X1.here hx rfl (pc0 := 66) (pc' := 70) rfl (hb hby at_66) (by decide) (by decide) k) ?_
    show own_Fin p.tables e below _ (T1.setTop (mkF m 70 #[.val (.int p1), .val (.int (((p1 &&& (2147483647 : Int32)) % (4194304 : Int32)) + (1 : Int32))), .val (.int (7 : Int32)), .val (.long ((8192 : Int64) <<< ((7 : Int32) &&& 0x3f).toInt64)), .second, .val (.long ((8192 : Int64) <<< (((7 : Int32) - (1 : Int32)) &&& 0x3f).toInt64)), .second] [(.int (1 : Int32))]))
    obtain ⟨fs, hr, hrun, hended, hW, hsame⟩ := X1.leave (v := some (.int (1 : Int32))) (fun h => by rw [Bd.returns] at h; cases h)
    refine ⟨_, _, ?_, hrun, hended, _, _, rfl, ?_, ⟨_, rfl⟩, hW, hsame.mono (by decide) (by decide)⟩
    · exact retN X1 hx (t := .boolean) Bd.returns (by simp) (hb hby at_70) hr
    · show Q_own_law Z p1 h0 n0 _ T1.heap _
      rw [eh1]
      exact ⟨rfl, N1⟩
  · rw [hk]
    show own_Fin p.tables e below _ (T1.setTop (mkF m 15 #[.val (.int p1), .val (.int (((p1 &&& (2147483647 : Int32)) % (4194304 : Int32)) + (1 : Int32))), .val (.int (8 : Int32)), .unset, .unset, .unset, .unset] []))
    refine own_go (fun _ k => XS.iloadN X1.here hx rfl (hb hby at_15) rfl k) ?_
    show own_Fin p.tables e below _ (T1.setTop (mkF m 16 #[.val (.int p1), .val (.int (((p1 &&& (2147483647 : Int32)) % (4194304 : Int32)) + (1 : Int32))), .val (.int (8 : Int32)), .unset, .unset, .unset, .unset] [(.int (8 : Int32))]))
    refine own_go (fun _ k => XS.ifNo X1.here hx rfl (hb hby at_16) rfl ((if0 _ _).trans (flt (by decide : ¬ ((8 : Int32) < (0 : Int32)))).1) k) ?_
    show own_Fin p.tables e below _ (T1.setTop (mkF m 19 #[.val (.int p1), .val (.int (((p1 &&& (2147483647 : Int32)) % (4194304 : Int32)) + (1 : Int32))), .val (.int (8 : Int32)), .unset, .unset, .unset, .unset] []))
    refine own_go (fun _ k => XS.iloadN X1.here hx rfl (hb hby at_19) rfl k) ?_
    show own_Fin p.tables e below _ (T1.setTop (mkF m 20 #[.val (.int p1), .val (.int (((p1 &&& (2147483647 : Int32)) % (4194304 : Int32)) + (1 : Int32))), .val (.int (8 : Int32)), .unset, .unset, .unset, .unset] [(.int (8 : Int32))]))
    refine own_go (fun _ k => XS.bipush X1.here hx rfl (hb hby at_20) k) ?_
    show own_Fin p.tables e below _ (T1.setTop (mkF m 22 #[.val (.int p1), .val (.int (((p1 &&& (2147483647 : Int32)) % (4194304 : Int32)) + (1 : Int32))), .val (.int (8 : Int32)), .unset, .unset, .unset, .unset] [(.int (9 : Int32)), (.int (8 : Int32))]))
    refine own_go (fun _ k => XS.icmpYes X1.here hx rfl (pc0 := 22) (pc' := 27) rfl (hb hby at_22) rfl (flt (by decide : ¬ ((9 : Int32) < (8 : Int32)))).2.2.2 (by decide) (by decide) k) ?_
    show own_Fin p.tables e below _ (T1.setTop (mkF m 27 #[.val (.int p1), .val (.int (((p1 &&& (2147483647 : Int32)) % (4194304 : Int32)) + (1 : Int32))), .val (.int (8 : Int32)), .unset, .unset, .unset, .unset] []))
    refine own_go (X1.ldc2Long hx hown (mvT hZ (hw _ (List.mem_of_getElem? (i := 12) rfl))) (g := (mkF m 27 #[.val (.int p1), .val (.int (((p1 &&& (2147483647 : Int32)) % (4194304 : Int32)) + (1 : Int32))), .val (.int (8 : Int32)), .unset, .unset, .unset, .unset] [])) rfl (hb hby at_27)) ?_
    show own_Fin p.tables e below _ (T1.setTop (mkF m 30 #[.val (.int p1), .val (.int (((p1 &&& (2147483647 : Int32)) % (4194304 : Int32)) + (1 : Int32))), .val (.int (8 : Int32)), .unset, .unset, .unset, .unset] [(.long (8192 : Int64))]))
    refine own_go (fun _ k => XS.iloadN X1.here hx rfl (hb hby at_30) rfl k) ?_
    show own_Fin p.tables e below _ (T1.setTop (mkF m 31 #[.val (.int p1), .val (.int (((p1 &&& (2147483647 : Int32)) % (4194304 : Int32)) + (1 : Int32))), .val (.int (8 : Int32)), .unset, .unset, .unset, .unset] [(.int (8 : Int32)), (.long (8192 : Int64))]))
    refine own_go (fun _ k => XS.lshl X1.here hx rfl (hb hby at_31) rfl k) ?_
    show own_Fin p.tables e below _ (T1.setTop (mkF m 32 #[.val (.int p1), .val (.int (((p1 &&& (2147483647 : Int32)) % (4194304 : Int32)) + (1 : Int32))), .val (.int (8 : Int32)), .unset, .unset, .unset, .unset] [(.long ((8192 : Int64) <<< ((8 : Int32) &&& 0x3f).toInt64))]))
    refine own_go (fun _ k => XS.lstoreN X1.here hx rfl (hb hby at_32) rfl (l' := #[.val (.int p1), .val (.int (((p1 &&& (2147483647 : Int32)) % (4194304 : Int32)) + (1 : Int32))), .val (.int (8 : Int32)), .val (.long ((8192 : Int64) <<< ((8 : Int32) &&& 0x3f).toInt64)), .second, .unset, .unset]) rfl k) ?_
    show own_Fin p.tables e below _ (T1.setTop (mkF m 33 #[.val (.int p1), .val (.int (((p1 &&& (2147483647 : Int32)) % (4194304 : Int32)) + (1 : Int32))), .val (.int (8 : Int32)), .val (.long ((8192 : Int64) <<< ((8 : Int32) &&& 0x3f).toInt64)), .second, .unset, .unset] []))
    refine own_go (fun _ k => XS.lloadN X1.here hx rfl (hb hby at_33) rfl k) ?_
    show own_Fin p.tables e below _ (T1.setTop (mkF m 34 #[.val (.int p1), .val (.int (((p1 &&& (2147483647 : Int32)) % (4194304 : Int32)) + (1 : Int32))), .val (.int (8 : Int32)), .val (.long ((8192 : Int64) <<< ((8 : Int32) &&& 0x3f).toInt64)), .second, .unset, .unset] [(.long ((8192 : Int64) <<< ((8 : Int32) &&& 0x3f).toInt64))]))
    refine own_go (fun _ k => XS.iloadN X1.here hx rfl (hb hby at_34) rfl k) ?_
    show own_Fin p.tables e below _ (T1.setTop (mkF m 35 #[.val (.int p1), .val (.int (((p1 &&& (2147483647 : Int32)) % (4194304 : Int32)) + (1 : Int32))), .val (.int (8 : Int32)), .val (.long ((8192 : Int64) <<< ((8 : Int32) &&& 0x3f).toInt64)), .second, .unset, .unset] [(.int (((p1 &&& (2147483647 : Int32)) % (4194304 : Int32)) + (1 : Int32))), (.long ((8192 : Int64) <<< ((8 : Int32) &&& 0x3f).toInt64))]))
    refine own_go (fun _ k => XS.i2l X1.here hx rfl (hb hby at_35) rfl k) ?_
    show own_Fin p.tables e below _ (T1.setTop (mkF m 36 #[.val (.int p1), .val (.int (((p1 &&& (2147483647 : Int32)) % (4194304 : Int32)) + (1 : Int32))), .val (.int (8 : Int32)), .val (.long ((8192 : Int64) <<< ((8 : Int32) &&& 0x3f).toInt64)), .second, .unset, .unset] [(.long ((((p1 &&& (2147483647 : Int32)) % (4194304 : Int32)) + (1 : Int32)).toInt64)), (.long ((8192 : Int64) <<< ((8 : Int32) &&& 0x3f).toInt64))]))
    refine own_go (fun _ k => XS.lcmp X1.here hx rfl (hb hby at_36) rfl k) ?_
    show own_Fin p.tables e below _ (T1.setTop (mkF m 37 #[.val (.int p1), .val (.int (((p1 &&& (2147483647 : Int32)) % (4194304 : Int32)) + (1 : Int32))), .val (.int (8 : Int32)), .val (.long ((8192 : Int64) <<< ((8 : Int32) &&& 0x3f).toInt64)), .second, .unset, .unset] [(.int (lcmpW ((8192 : Int64) <<< ((8 : Int32) &&& 0x3f).toInt64) ((((p1 &&& (2147483647 : Int32)) % (4194304 : Int32)) + (1 : Int32)).toInt64)))]))
    refine own_go (fun _ k => XS.ifYes X1.here hx rfl (pc0 := 37) (pc' := 42) rfl (hb hby at_37) rfl ((if0 _ _).trans (flt (fun q => (own_ge (v := 2097152) (by decide) hbd.2) ((lw_lt _ _).mp q))).2.1) (by decide) (by decide) k) ?_
    show own_Fin p.tables e below _ (T1.setTop (mkF m 42 #[.val (.int p1), .val (.int (((p1 &&& (2147483647 : Int32)) % (4194304 : Int32)) + (1 : Int32))), .val (.int (8 : Int32)), .val (.long ((8192 : Int64) <<< ((8 : Int32) &&& 0x3f).toInt64)), .second, .unset, .unset] []))
    refine own_go (fun _ k => XS.iloadN X1.here hx rfl (hb hby at_42) rfl k) ?_
    show own_Fin p.tables e below _ (T1.setTop (mkF m 43 #[.val (.int p1), .val (.int (((p1 &&& (2147483647 : Int32)) % (4194304 : Int32)) + (1 : Int32))), .val (.int (8 : Int32)), .val (.long ((8192 : Int64) <<< ((8 : Int32) &&& 0x3f).toInt64)), .second, .unset, .unset] [(.int (8 : Int32))]))
    refine own_go (fun _ k => XS.ifYes X1.here hx rfl (pc0 := 43) (pc' := 48) rfl (hb hby at_43) rfl ((if0 _ _).trans (feq (by decide : ¬ ((8 : Int32) = (0 : Int32)))).2) (by decide) (by decide) k) ?_
    show own_Fin p.tables e below _ (T1.setTop (mkF m 48 #[.val (.int p1), .val (.int (((p1 &&& (2147483647 : Int32)) % (4194304 : Int32)) + (1 : Int32))), .val (.int (8 : Int32)), .val (.long ((8192 : Int64) <<< ((8 : Int32) &&& 0x3f).toInt64)), .second, .unset, .unset] []))
    refine own_go (X1.ldc2Long hx hown (mvT hZ (hw _ (List.mem_of_getElem? (i := 12) rfl))) (g := (mkF m 48 #[.val (.int p1), .val (.int (((p1 &&& (2147483647 : Int32)) % (4194304 : Int32)) + (1 : Int32))), .val (.int (8 : Int32)), .val (.long ((8192 : Int64) <<< ((8 : Int32) &&& 0x3f).toInt64)), .second, .unset, .unset] [])) rfl (hb hby at_48)) ?_
    show own_Fin p.tables e below _ (T1.setTop (mkF m 51 #[.val (.int p1), .val (.int (((p1 &&& (2147483647 : Int32)) % (4194304 : Int32)) + (1 : Int32))), .val (.int (8 : Int32)), .val (.long ((8192 : Int64) <<< ((8 : Int32) &&& 0x3f).toInt64)), .second, .unset, .unset] [(.long (8192 : Int64))]))
    refine own_go (fun _ k => XS.iloadN X1.here hx rfl (hb hby at_51) rfl k) ?_
    show own_Fin p.tables e below _ (T1.setTop (mkF m 52 #[.val (.int p1), .val (.int (((p1 &&& (2147483647 : Int32)) % (4194304 : Int32)) + (1 : Int32))), .val (.int (8 : Int32)), .val (.long ((8192 : Int64) <<< ((8 : Int32) &&& 0x3f).toInt64)), .second, .unset, .unset] [(.int (8 : Int32)), (.long (8192 : Int64))]))
    refine own_go (fun _ k => XS.iconst X1.here hx rfl (hb hby at_52) k) ?_
    show own_Fin p.tables e below _ (T1.setTop (mkF m 53 #[.val (.int p1), .val (.int (((p1 &&& (2147483647 : Int32)) % (4194304 : Int32)) + (1 : Int32))), .val (.int (8 : Int32)), .val (.long ((8192 : Int64) <<< ((8 : Int32) &&& 0x3f).toInt64)), .second, .unset, .unset] [(.int (1 : Int32)), (.int (8 : Int32)), (.long (8192 : Int64))]))
    refine own_go (fun _ k => XS.isub X1.here hx rfl (hb hby at_53) rfl k) ?_
    show own_Fin p.tables e below _ (T1.setTop (mkF m 54 #[.val (.int p1), .val (.int (((p1 &&& (2147483647 : Int32)) % (4194304 : Int32)) + (1 : Int32))), .val (.int (8 : Int32)), .val (.long ((8192 : Int64) <<< ((8 : Int32) &&& 0x3f).toInt64)), .second, .unset, .unset] [(.int ((8 : Int32) - (1 : Int32))), (.long (8192 : Int64))]))
    refine own_go (fun _ k => XS.lshl X1.here hx rfl (hb hby at_54) rfl k) ?_
    show own_Fin p.tables e below _ (T1.setTop (mkF m 55 #[.val (.int p1), .val (.int (((p1 &&& (2147483647 : Int32)) % (4194304 : Int32)) + (1 : Int32))), .val (.int (8 : Int32)), .val (.long ((8192 : Int64) <<< ((8 : Int32) &&& 0x3f).toInt64)), .second, .unset, .unset] [(.long ((8192 : Int64) <<< (((8 : Int32) - (1 : Int32)) &&& 0x3f).toInt64))]))
    refine own_go (fun _ k => XS.lstore X1.here hx rfl (hb hby at_55) rfl (l' := #[.val (.int p1), .val (.int (((p1 &&& (2147483647 : Int32)) % (4194304 : Int32)) + (1 : Int32))), .val (.int (8 : Int32)), .val (.long ((8192 : Int64) <<< ((8 : Int32) &&& 0x3f).toInt64)), .second, .val (.long ((8192 : Int64) <<< (((8 : Int32) - (1 : Int32)) &&& 0x3f).toInt64)), .second]) rfl k) ?_
    show own_Fin p.tables e below _ (T1.setTop (mkF m 57 #[.val (.int p1), .val (.int (((p1 &&& (2147483647 : Int32)) % (4194304 : Int32)) + (1 : Int32))), .val (.int (8 : Int32)), .val (.long ((8192 : Int64) <<< ((8 : Int32) &&& 0x3f).toInt64)), .second, .val (.long ((8192 : Int64) <<< (((8 : Int32) - (1 : Int32)) &&& 0x3f).toInt64)), .second] []))
    refine own_go (fun _ k => XS.lload X1.here hx rfl (hb hby at_57) rfl k) ?_
    show own_Fin p.tables e below _ (T1.setTop (mkF m 59 #[.val (.int p1), .val (.int (((p1 &&& (2147483647 : Int32)) % (4194304 : Int32)) + (1 : Int32))), .val (.int (8 : Int32)), .val (.long ((8192 : Int64) <<< ((8 : Int32) &&& 0x3f).toInt64)), .second, .val (.long ((8192 : Int64) <<< (((8 : Int32) - (1 : Int32)) &&& 0x3f).toInt64)), .second] [(.long ((8192 : Int64) <<< (((8 : Int32) - (1 : Int32)) &&& 0x3f).toInt64))]))
    refine own_go (fun _ k => XS.iloadN X1.here hx rfl (hb hby at_59) rfl k) ?_
    show own_Fin p.tables e below _ (T1.setTop (mkF m 60 #[.val (.int p1), .val (.int (((p1 &&& (2147483647 : Int32)) % (4194304 : Int32)) + (1 : Int32))), .val (.int (8 : Int32)), .val (.long ((8192 : Int64) <<< ((8 : Int32) &&& 0x3f).toInt64)), .second, .val (.long ((8192 : Int64) <<< (((8 : Int32) - (1 : Int32)) &&& 0x3f).toInt64)), .second] [(.int (((p1 &&& (2147483647 : Int32)) % (4194304 : Int32)) + (1 : Int32))), (.long ((8192 : Int64) <<< (((8 : Int32) - (1 : Int32)) &&& 0x3f).toInt64))]))
    refine own_go (fun _ k => XS.i2l X1.here hx rfl (hb hby at_60) rfl k) ?_
    show own_Fin p.tables e below _ (T1.setTop (mkF m 61 #[.val (.int p1), .val (.int (((p1 &&& (2147483647 : Int32)) % (4194304 : Int32)) + (1 : Int32))), .val (.int (8 : Int32)), .val (.long ((8192 : Int64) <<< ((8 : Int32) &&& 0x3f).toInt64)), .second, .val (.long ((8192 : Int64) <<< (((8 : Int32) - (1 : Int32)) &&& 0x3f).toInt64)), .second] [(.long ((((p1 &&& (2147483647 : Int32)) % (4194304 : Int32)) + (1 : Int32)).toInt64)), (.long ((8192 : Int64) <<< (((8 : Int32) - (1 : Int32)) &&& 0x3f).toInt64))]))
    refine own_go (fun _ k => XS.lcmp X1.here hx rfl (hb hby at_61) rfl k) ?_
    show own_Fin p.tables e below _ (T1.setTop (mkF m 62 #[.val (.int p1), .val (.int (((p1 &&& (2147483647 : Int32)) % (4194304 : Int32)) + (1 : Int32))), .val (.int (8 : Int32)), .val (.long ((8192 : Int64) <<< ((8 : Int32) &&& 0x3f).toInt64)), .second, .val (.long ((8192 : Int64) <<< (((8 : Int32) - (1 : Int32)) &&& 0x3f).toInt64)), .second] [(.int (lcmpW ((8192 : Int64) <<< (((8 : Int32) - (1 : Int32)) &&& 0x3f).toInt64) ((((p1 &&& (2147483647 : Int32)) % (4194304 : Int32)) + (1 : Int32)).toInt64)))]))
    refine own_go (fun _ k => XS.ifNo X1.here hx rfl (hb hby at_62) rfl ((if0 _ _).trans (tlt ((lw_lt _ _).mpr (own_lt (v := 1048576) (by decide) hbd.1))).2.1) k) ?_
    show own_Fin p.tables e below _ (T1.setTop (mkF m 65 #[.val (.int p1), .val (.int (((p1 &&& (2147483647 : Int32)) % (4194304 : Int32)) + (1 : Int32))), .val (.int (8 : Int32)), .val (.long ((8192 : Int64) <<< ((8 : Int32) &&& 0x3f).toInt64)), .second, .val (.long ((8192 : Int64) <<< (((8 : Int32) - (1 : Int32)) &&& 0x3f).toInt64)), .second] []))
    refine own_go (fun _ k => XS.iconst X1.here hx rfl (hb hby at_65) k) ?_
    show own_Fin p.tables e below _ (T1.setTop (mkF m 66 #[.val (.int p1), .val (.int (((p1 &&& (2147483647 : Int32)) % (4194304 : Int32)) + (1 : Int32))), .val (.int (8 : Int32)), .val (.long ((8192 : Int64) <<< ((8 : Int32) &&& 0x3f).toInt64)), .second, .val (.long ((8192 : Int64) <<< (((8 : Int32) - (1 : Int32)) &&& 0x3f).toInt64)), .second] [(.int (1 : Int32))]))
    refine own_go (fun _ k => XS.goto X1.here hx rfl (pc0 := 66) (pc' := 70) rfl (hb hby at_66) (by decide) (by decide) k) ?_
    show own_Fin p.tables e below _ (T1.setTop (mkF m 70 #[.val (.int p1), .val (.int (((p1 &&& (2147483647 : Int32)) % (4194304 : Int32)) + (1 : Int32))), .val (.int (8 : Int32)), .val (.long ((8192 : Int64) <<< ((8 : Int32) &&& 0x3f).toInt64)), .second, .val (.long ((8192 : Int64) <<< (((8 : Int32) - (1 : Int32)) &&& 0x3f).toInt64)), .second] [(.int (1 : Int32))]))
    obtain ⟨fs, hr, hrun, hended, hW, hsame⟩ := X1.leave (v := some (.int (1 : Int32))) (fun h => by rw [Bd.returns] at h; cases h)
    refine ⟨_, _, ?_, hrun, hended, _, _, rfl, ?_, ⟨_, rfl⟩, hW, hsame.mono (by decide) (by decide)⟩
    · exact retN X1 hx (t := .boolean) Bd.returns (by simp) (hb hby at_70) hr
    · show Q_own_law Z p1 h0 n0 _ T1.heap _
      rw [eh1]
      exact ⟨rfl, N1⟩
  · rw [hk]
    show own_Fin p.tables e below _ (T1.setTop (mkF m 15 #[.val (.int p1), .val (.int (((p1 &&& (2147483647 : Int32)) % (4194304 : Int32)) + (1 : Int32))), .val (.int (9 : Int32)), .unset, .unset, .unset, .unset] []))
    refine own_go (fun _ k => XS.iloadN X1.here hx rfl (hb hby at_15) rfl k) ?_
    show own_Fin p.tables e below _ (T1.setTop (mkF m 16 #[.val (.int p1), .val (.int (((p1 &&& (2147483647 : Int32)) % (4194304 : Int32)) + (1 : Int32))), .val (.int (9 : Int32)), .unset, .unset, .unset, .unset] [(.int (9 : Int32))]))
    refine own_go (fun _ k => XS.ifNo X1.here hx rfl (hb hby at_16) rfl ((if0 _ _).trans (flt (by decide : ¬ ((9 : Int32) < (0 : Int32)))).1) k) ?_
    show own_Fin p.tables e below _ (T1.setTop (mkF m 19 #[.val (.int p1), .val (.int (((p1 &&& (2147483647 : Int32)) % (4194304 : Int32)) + (1 : Int32))), .val (.int (9 : Int32)), .unset, .unset, .unset, .unset] []))
    refine own_go (fun _ k => XS.iloadN X1.here hx rfl (hb hby at_19) rfl k) ?_
    show own_Fin p.tables e below _ (T1.setTop (mkF m 20 #[.val (.int p1), .val (.int (((p1 &&& (2147483647 : Int32)) % (4194304 : Int32)) + (1 : Int32))), .val (.int (9 : Int32)), .unset, .unset, .unset, .unset] [(.int (9 : Int32))]))
    refine own_go (fun _ k => XS.bipush X1.here hx rfl (hb hby at_20) k) ?_
    show own_Fin p.tables e below _ (T1.setTop (mkF m 22 #[.val (.int p1), .val (.int (((p1 &&& (2147483647 : Int32)) % (4194304 : Int32)) + (1 : Int32))), .val (.int (9 : Int32)), .unset, .unset, .unset, .unset] [(.int (9 : Int32)), (.int (9 : Int32))]))
    refine own_go (fun _ k => XS.icmpYes X1.here hx rfl (pc0 := 22) (pc' := 27) rfl (hb hby at_22) rfl (flt (by decide : ¬ ((9 : Int32) < (9 : Int32)))).2.2.2 (by decide) (by decide) k) ?_
    show own_Fin p.tables e below _ (T1.setTop (mkF m 27 #[.val (.int p1), .val (.int (((p1 &&& (2147483647 : Int32)) % (4194304 : Int32)) + (1 : Int32))), .val (.int (9 : Int32)), .unset, .unset, .unset, .unset] []))
    refine own_go (X1.ldc2Long hx hown (mvT hZ (hw _ (List.mem_of_getElem? (i := 12) rfl))) (g := (mkF m 27 #[.val (.int p1), .val (.int (((p1 &&& (2147483647 : Int32)) % (4194304 : Int32)) + (1 : Int32))), .val (.int (9 : Int32)), .unset, .unset, .unset, .unset] [])) rfl (hb hby at_27)) ?_
    show own_Fin p.tables e below _ (T1.setTop (mkF m 30 #[.val (.int p1), .val (.int (((p1 &&& (2147483647 : Int32)) % (4194304 : Int32)) + (1 : Int32))), .val (.int (9 : Int32)), .unset, .unset, .unset, .unset] [(.long (8192 : Int64))]))
    refine own_go (fun _ k => XS.iloadN X1.here hx rfl (hb hby at_30) rfl k) ?_
    show own_Fin p.tables e below _ (T1.setTop (mkF m 31 #[.val (.int p1), .val (.int (((p1 &&& (2147483647 : Int32)) % (4194304 : Int32)) + (1 : Int32))), .val (.int (9 : Int32)), .unset, .unset, .unset, .unset] [(.int (9 : Int32)), (.long (8192 : Int64))]))
    refine own_go (fun _ k => XS.lshl X1.here hx rfl (hb hby at_31) rfl k) ?_
    show own_Fin p.tables e below _ (T1.setTop (mkF m 32 #[.val (.int p1), .val (.int (((p1 &&& (2147483647 : Int32)) % (4194304 : Int32)) + (1 : Int32))), .val (.int (9 : Int32)), .unset, .unset, .unset, .unset] [(.long ((8192 : Int64) <<< ((9 : Int32) &&& 0x3f).toInt64))]))
    refine own_go (fun _ k => XS.lstoreN X1.here hx rfl (hb hby at_32) rfl (l' := #[.val (.int p1), .val (.int (((p1 &&& (2147483647 : Int32)) % (4194304 : Int32)) + (1 : Int32))), .val (.int (9 : Int32)), .val (.long ((8192 : Int64) <<< ((9 : Int32) &&& 0x3f).toInt64)), .second, .unset, .unset]) rfl k) ?_
    show own_Fin p.tables e below _ (T1.setTop (mkF m 33 #[.val (.int p1), .val (.int (((p1 &&& (2147483647 : Int32)) % (4194304 : Int32)) + (1 : Int32))), .val (.int (9 : Int32)), .val (.long ((8192 : Int64) <<< ((9 : Int32) &&& 0x3f).toInt64)), .second, .unset, .unset] []))
    refine own_go (fun _ k => XS.lloadN X1.here hx rfl (hb hby at_33) rfl k) ?_
    show own_Fin p.tables e below _ (T1.setTop (mkF m 34 #[.val (.int p1), .val (.int (((p1 &&& (2147483647 : Int32)) % (4194304 : Int32)) + (1 : Int32))), .val (.int (9 : Int32)), .val (.long ((8192 : Int64) <<< ((9 : Int32) &&& 0x3f).toInt64)), .second, .unset, .unset] [(.long ((8192 : Int64) <<< ((9 : Int32) &&& 0x3f).toInt64))]))
    refine own_go (fun _ k => XS.iloadN X1.here hx rfl (hb hby at_34) rfl k) ?_
    show own_Fin p.tables e below _ (T1.setTop (mkF m 35 #[.val (.int p1), .val (.int (((p1 &&& (2147483647 : Int32)) % (4194304 : Int32)) + (1 : Int32))), .val (.int (9 : Int32)), .val (.long ((8192 : Int64) <<< ((9 : Int32) &&& 0x3f).toInt64)), .second, .unset, .unset] [(.int (((p1 &&& (2147483647 : Int32)) % (4194304 : Int32)) + (1 : Int32))), (.long ((8192 : Int64) <<< ((9 : Int32) &&& 0x3f).toInt64))]))
    refine own_go (fun _ k => XS.i2l X1.here hx rfl (hb hby at_35) rfl k) ?_
    show own_Fin p.tables e below _ (T1.setTop (mkF m 36 #[.val (.int p1), .val (.int (((p1 &&& (2147483647 : Int32)) % (4194304 : Int32)) + (1 : Int32))), .val (.int (9 : Int32)), .val (.long ((8192 : Int64) <<< ((9 : Int32) &&& 0x3f).toInt64)), .second, .unset, .unset] [(.long ((((p1 &&& (2147483647 : Int32)) % (4194304 : Int32)) + (1 : Int32)).toInt64)), (.long ((8192 : Int64) <<< ((9 : Int32) &&& 0x3f).toInt64))]))
    refine own_go (fun _ k => XS.lcmp X1.here hx rfl (hb hby at_36) rfl k) ?_
    show own_Fin p.tables e below _ (T1.setTop (mkF m 37 #[.val (.int p1), .val (.int (((p1 &&& (2147483647 : Int32)) % (4194304 : Int32)) + (1 : Int32))), .val (.int (9 : Int32)), .val (.long ((8192 : Int64) <<< ((9 : Int32) &&& 0x3f).toInt64)), .second, .unset, .unset] [(.int (lcmpW ((8192 : Int64) <<< ((9 : Int32) &&& 0x3f).toInt64) ((((p1 &&& (2147483647 : Int32)) % (4194304 : Int32)) + (1 : Int32)).toInt64)))]))
    refine own_go (fun _ k => XS.ifYes X1.here hx rfl (pc0 := 37) (pc' := 42) rfl (hb hby at_37) rfl ((if0 _ _).trans (flt (fun q => (own_ge (v := 4194304) (by decide) hbd.2) ((lw_lt _ _).mp q))).2.1) (by decide) (by decide) k) ?_
    show own_Fin p.tables e below _ (T1.setTop (mkF m 42 #[.val (.int p1), .val (.int (((p1 &&& (2147483647 : Int32)) % (4194304 : Int32)) + (1 : Int32))), .val (.int (9 : Int32)), .val (.long ((8192 : Int64) <<< ((9 : Int32) &&& 0x3f).toInt64)), .second, .unset, .unset] []))
    refine own_go (fun _ k => XS.iloadN X1.here hx rfl (hb hby at_42) rfl k) ?_
    show own_Fin p.tables e below _ (T1.setTop (mkF m 43 #[.val (.int p1), .val (.int (((p1 &&& (2147483647 : Int32)) % (4194304 : Int32)) + (1 : Int32))), .val (.int (9 : Int32)), .val (.long ((8192 : Int64) <<< ((9 : Int32) &&& 0x3f).toInt64)), .second, .unset, .unset] [(.int (9 : Int32))]))
    refine own_go (fun _ k => XS.ifYes X1.here hx rfl (pc0 := 43) (pc' := 48) rfl (hb hby at_43) rfl ((if0 _ _).trans (feq (by decide : ¬ ((9 : Int32) = (0 : Int32)))).2) (by decide) (by decide) k) ?_
    show own_Fin p.tables e below _ (T1.setTop (mkF m 48 #[.val (.int p1), .val (.int (((p1 &&& (2147483647 : Int32)) % (4194304 : Int32)) + (1 : Int32))), .val (.int (9 : Int32)), .val (.long ((8192 : Int64) <<< ((9 : Int32) &&& 0x3f).toInt64)), .second, .unset, .unset] []))
    refine own_go (X1.ldc2Long hx hown (mvT hZ (hw _ (List.mem_of_getElem? (i := 12) rfl))) (g := (mkF m 48 #[.val (.int p1), .val (.int (((p1 &&& (2147483647 : Int32)) % (4194304 : Int32)) + (1 : Int32))), .val (.int (9 : Int32)), .val (.long ((8192 : Int64) <<< ((9 : Int32) &&& 0x3f).toInt64)), .second, .unset, .unset] [])) rfl (hb hby at_48)) ?_
    show own_Fin p.tables e below _ (T1.setTop (mkF m 51 #[.val (.int p1), .val (.int (((p1 &&& (2147483647 : Int32)) % (4194304 : Int32)) + (1 : Int32))), .val (.int (9 : Int32)), .val (.long ((8192 : Int64) <<< ((9 : Int32) &&& 0x3f).toInt64)), .second, .unset, .unset] [(.long (8192 : Int64))]))
    refine own_go (fun _ k => XS.iloadN X1.here hx rfl (hb hby at_51) rfl k) ?_
    show own_Fin p.tables e below _ (T1.setTop (mkF m 52 #[.val (.int p1), .val (.int (((p1 &&& (2147483647 : Int32)) % (4194304 : Int32)) + (1 : Int32))), .val (.int (9 : Int32)), .val (.long ((8192 : Int64) <<< ((9 : Int32) &&& 0x3f).toInt64)), .second, .unset, .unset] [(.int (9 : Int32)), (.long (8192 : Int64))]))
    refine own_go (fun _ k => XS.iconst X1.here hx rfl (hb hby at_52) k) ?_
    show own_Fin p.tables e below _ (T1.setTop (mkF m 53 #[.val (.int p1), .val (.int (((p1 &&& (2147483647 : Int32)) % (4194304 : Int32)) + (1 : Int32))), .val (.int (9 : Int32)), .val (.long ((8192 : Int64) <<< ((9 : Int32) &&& 0x3f).toInt64)), .second, .unset, .unset] [(.int (1 : Int32)), (.int (9 : Int32)), (.long (8192 : Int64))]))
    refine own_go (fun _ k => XS.isub X1.here hx rfl (hb hby at_53) rfl k) ?_
    show own_Fin p.tables e below _ (T1.setTop (mkF m 54 #[.val (.int p1), .val (.int (((p1 &&& (2147483647 : Int32)) % (4194304 : Int32)) + (1 : Int32))), .val (.int (9 : Int32)), .val (.long ((8192 : Int64) <<< ((9 : Int32) &&& 0x3f).toInt64)), .second, .unset, .unset] [(.int ((9 : Int32) - (1 : Int32))), (.long (8192 : Int64))]))
    refine own_go (fun _ k => XS.lshl X1.here hx rfl (hb hby at_54) rfl k) ?_
    show own_Fin p.tables e below _ (T1.setTop (mkF m 55 #[.val (.int p1), .val (.int (((p1 &&& (2147483647 : Int32)) % (4194304 : Int32)) + (1 : Int32))), .val (.int (9 : Int32)), .val (.long ((8192 : Int64) <<< ((9 : Int32) &&& 0x3f).toInt64)), .second, .unset, .unset] [(.long ((8192 : Int64) <<< (((9 : Int32) - (1 : Int32)) &&& 0x3f).toInt64))]))
    refine own_go (fun _ k => XS.lstore X1.here hx rfl (hb hby at_55) rfl (l' := #[.val (.int p1), .val (.int (((p1 &&& (2147483647 : Int32)) % (4194304 : Int32)) + (1 : Int32))), .val (.int (9 : Int32)), .val (.long ((8192 : Int64) <<< ((9 : Int32) &&& 0x3f).toInt64)), .second, .val (.long ((8192 : Int64) <<< (((9 : Int32) - (1 : Int32)) &&& 0x3f).toInt64)), .second]) rfl k) ?_
    show own_Fin p.tables e below _ (T1.setTop (mkF m 57 #[.val (.int p1), .val (.int (((p1 &&& (2147483647 : Int32)) % (4194304 : Int32)) + (1 : Int32))), .val (.int (9 : Int32)), .val (.long ((8192 : Int64) <<< ((9 : Int32) &&& 0x3f).toInt64)), .second, .val (.long ((8192 : Int64) <<< (((9 : Int32) - (1 : Int32)) &&& 0x3f).toInt64)), .second] []))
    refine own_go (fun _ k => XS.lload X1.here hx rfl (hb hby at_57) rfl k) ?_
    show own_Fin p.tables e below _ (T1.setTop (mkF m 59 #[.val (.int p1), .val (.int (((p1 &&& (2147483647 : Int32)) % (4194304 : Int32)) + (1 : Int32))), .val (.int (9 : Int32)), .val (.long ((8192 : Int64) <<< ((9 : Int32) &&& 0x3f).toInt64)), .second, .val (.long ((8192 : Int64) <<< (((9 : Int32) - (1 : Int32)) &&& 0x3f).toInt64)), .second] [(.long ((8192 : Int64) <<< (((9 : Int32) - (1 : Int32)) &&& 0x3f).toInt64))]))
    refine own_go (fun _ k => XS.iloadN X1.here hx rfl (hb hby at_59) rfl k) ?_
    show own_Fin p.tables e below _ (T1.setTop (mkF m 60 #[.val (.int p1), .val (.int (((p1 &&& (2147483647 : Int32)) % (4194304 : Int32)) + (1 : Int32))), .val (.int (9 : Int32)), .val (.long ((8192 : Int64) <<< ((9 : Int32) &&& 0x3f).toInt64)), .second, .val (.long ((8192 : Int64) <<< (((9 : Int32) - (1 : Int32)) &&& 0x3f).toInt64)), .second] [(.int (((p1 &&& (2147483647 : Int32)) % (4194304 : Int32)) + (1 : Int32))), (.long ((8192 : Int64) <<< (((9 : Int32) - (1 : Int32)) &&& 0x3f).toInt64))]))
    refine own_go (fun _ k => XS.i2l X1.here hx rfl (hb hby at_60) rfl k) ?_
    show own_Fin p.tables e below _ (T1.setTop (mkF m 61 #[.val (.int p1), .val (.int (((p1 &&& (2147483647 : Int32)) % (4194304 : Int32)) + (1 : Int32))), .val (.int (9 : Int32)), .val (.long ((8192 : Int64) <<< ((9 : Int32) &&& 0x3f).toInt64)), .second, .val (.long ((8192 : Int64) <<< (((9 : Int32) - (1 : Int32)) &&& 0x3f).toInt64)), .second] [(.long ((((p1 &&& (2147483647 : Int32)) % (4194304 : Int32)) + (1 : Int32)).toInt64)), (.long ((8192 : Int64) <<< (((9 : Int32) - (1 : Int32)) &&& 0x3f).toInt64))]))
    refine own_go (fun _ k => XS.lcmp X1.here hx rfl (hb hby at_61) rfl k) ?_
    show own_Fin p.tables e below _ (T1.setTop (mkF m 62 #[.val (.int p1), .val (.int (((p1 &&& (2147483647 : Int32)) % (4194304 : Int32)) + (1 : Int32))), .val (.int (9 : Int32)), .val (.long ((8192 : Int64) <<< ((9 : Int32) &&& 0x3f).toInt64)), .second, .val (.long ((8192 : Int64) <<< (((9 : Int32) - (1 : Int32)) &&& 0x3f).toInt64)), .second] [(.int (lcmpW ((8192 : Int64) <<< (((9 : Int32) - (1 : Int32)) &&& 0x3f).toInt64) ((((p1 &&& (2147483647 : Int32)) % (4194304 : Int32)) + (1 : Int32)).toInt64)))]))
    refine own_go (fun _ k => XS.ifNo X1.here hx rfl (hb hby at_62) rfl ((if0 _ _).trans (tlt ((lw_lt _ _).mpr (own_lt (v := 2097152) (by decide) hbd.1))).2.1) k) ?_
    show own_Fin p.tables e below _ (T1.setTop (mkF m 65 #[.val (.int p1), .val (.int (((p1 &&& (2147483647 : Int32)) % (4194304 : Int32)) + (1 : Int32))), .val (.int (9 : Int32)), .val (.long ((8192 : Int64) <<< ((9 : Int32) &&& 0x3f).toInt64)), .second, .val (.long ((8192 : Int64) <<< (((9 : Int32) - (1 : Int32)) &&& 0x3f).toInt64)), .second] []))
    refine own_go (fun _ k => XS.iconst X1.here hx rfl (hb hby at_65) k) ?_
    show own_Fin p.tables e below _ (T1.setTop (mkF m 66 #[.val (.int p1), .val (.int (((p1 &&& (2147483647 : Int32)) % (4194304 : Int32)) + (1 : Int32))), .val (.int (9 : Int32)), .val (.long ((8192 : Int64) <<< ((9 : Int32) &&& 0x3f).toInt64)), .second, .val (.long ((8192 : Int64) <<< (((9 : Int32) - (1 : Int32)) &&& 0x3f).toInt64)), .second] [(.int (1 : Int32))]))
    refine own_go (fun _ k => XS.goto X1.here hx rfl (pc0 := 66) (pc' := 70) rfl (hb hby at_66) (by decide) (by decide) k) ?_
    show own_Fin p.tables e below _ (T1.setTop (mkF m 70 #[.val (.int p1), .val (.int (((p1 &&& (2147483647 : Int32)) % (4194304 : Int32)) + (1 : Int32))), .val (.int (9 : Int32)), .val (.long ((8192 : Int64) <<< ((9 : Int32) &&& 0x3f).toInt64)), .second, .val (.long ((8192 : Int64) <<< (((9 : Int32) - (1 : Int32)) &&& 0x3f).toInt64)), .second] [(.int (1 : Int32))]))
    obtain ⟨fs, hr, hrun, hended, hW, hsame⟩ := X1.leave (v := some (.int (1 : Int32))) (fun h => by rw [Bd.returns] at h; cases h)
    refine ⟨_, _, ?_, hrun, hended, _, _, rfl, ?_, ⟨_, rfl⟩, hW, hsame.mono (by decide) (by decide)⟩
    · exact retN X1 hx (t := .boolean) Bd.returns (by simp) (hb hby at_70) hr
    · show Q_own_law Z p1 h0 n0 _ T1.heap _
      rw [eh1]
      exact ⟨rfl, N1⟩
set_option maxRecDepth 65536 in
set_option maxHeartbeats 40000000 in
theorem comes_1 {Post : Tables → Env → Array Value → State → Outcome → State → Prop} (hpost : ∀ tb e args s v u, (limb_1_1.after args s (.returned v) u = true ∧ limb_1_2.after args s (.returned v) u = true ∧ True) → FrameEnd s (.returned v) u (Jvm.fieldLocs frame_1_writes args s ++ Jvm.arrayLocs frame_1_arrays args s ++ Jvm.staticLocs frame_1_statics s) 0 0 → Post tb e args s (.returned v) u) :
    ArmFor flags0 classFile x code maxLocals ret World_1 tables_1 room_1 Calls_1 rest_1 Pre_1 Post := by
  intro l hfl _ _ p e ha hc hk s m args below hf hA hF happ hP
  obtain ⟨hcalls, hrest, hpre⟩ := hP
  obtain ⟨-, -, -, hnamed, -, -, -, hat⟩ := (Spec.applies_iff hf).mp happ
  obtain ⟨hg, hn⟩ := and_e (Cond.before_iff.mp (show (Jvm.Cond.and given_1 narrow_1).before args s = true from hpre))
  obtain ⟨gcount, gr0⟩ := and_e hg
  obtain ⟨w0, rfl⟩ : ∃ w0 : Value, args = #[w0] := by
    have hs : args.size = 1 := by simpa [Cond.value, given_1] using gcount
    obtain ⟨L⟩ := args
    match L, hs with
    | [w0], _ => exact ⟨w0, rfl⟩
  have hw := fun d (hd : d ∈ tables_1) => atoms_spec (ws := Jvm.Cond.code x code maxLocals ret :: tables_1) hat d (List.mem_cons_of_mem _ hd)
  have hfit : Fit s := fun {y c} hc i hi => by
    obtain ⟨ha, rfl⟩ := Array.getElem?_eq_some_iff.mp hc
    have q := List.all_eq_true.mp ((Array.all_eq_true_iff_forall_mem.mp hF) _ (Array.getElem_mem ha)) i (List.mem_range.mpr hi)
    simpa [Array.getElem?_eq_getElem hi] using q
  obtain ⟨i0, ei0⟩ := is_v gr0
  obtain rfl : w0 = (.int i0) := Option.some.inj ei0
  have eS := own_eqI hn
  obtain ⟨n, o, h1, h2, h3, _, L, rfl, ⟨rfl, N⟩, hq⟩ := own_law l s _ hw tables_1 i0 s.heap s.heap.size (Nat.le_refl _) (Sta.start eS (Or.inr ⟨(hw _ (List.mem_of_getElem? (i := 4) rfl)), (hw _ (List.mem_of_getElem? (i := 7) rfl))⟩)) p e ha hc hk s m _ below hf ((Spec.applies_iff_loose hf).mp happ).1 ⟨rfl, State.Warmed39.refl s, rfl⟩ trivial
  refine ⟨n, _, h1, h2, h3, hpost _ _ _ _ _ _ ⟨Cond.after_iff.mpr rfl, Cond.after_iff.mpr (eq_i res_at (Term.int_eval (1)) rfl), trivial⟩ ⟨hq.1, hq.2.1, (hq.2.2.sift fun y hy => Or.inr (N y hy)).mono (by decide) (by decide)⟩⟩
theorem main_1_1 : Claimed_1_1 := comes_1 fun _ _ _ _ _ _ h hF => ⟨h.1, hF⟩
theorem main_1_2 : Claimed_1_2 := comes_1 fun _ _ _ _ _ _ h hF => ⟨h.2.1, hF⟩
end Jvm.Pilot.@@N@@
namespace Jvm.Pilot.@@N@@
open Jvm Jvm.ClassFile Sem Op Lib Jvm.Free Jvm.Stand Jvm.Pilot.@@N@@.Jvm.D
/-! MADE BY PROGRAM (witnessworld.py) out of the Statement's table words and the real class files: 14 classes; the members and pool entries that the words name. The judged class is class 1, her method 1. -/
namespace start1
open Jvm.ClassFile
def u (s : String) : CpInfo := .utf8 (stringToUtf16 s)
/-- a pool by its gaps: so many unusable entries, then the entry; so many at the end -/
def gap : Nat → List CpInfo → List CpInfo
  | 0, r => r
  | n + 1, r => .unusable :: gap n r
def poolList (es : List (Nat × CpInfo)) (last : Nat) : List CpInfo := es.foldr (fun e r => gap e.1 (e.2 :: r)) (gap last [])
def pool (es : List (Nat × CpInfo)) (last : Nat) : Array CpInfo := ⟨poolList es last⟩
def fileOf (pool : Array CpInfo) (this : Nat) (attrs : Array Attribute := #[]) (ms : Array MethodInfo := #[]) (fl : Nat := 33) (sup : Nat := 0) (ifs : Array Nat := #[]) (fds : Array FieldInfo := #[]) : ClassFile where
  minorVersion := 0
  majorVersion := 65
  constantPool := pool
  accessFlags := fl
  thisClass := this
  superClass := sup
  interfaces := ifs
  fields := fds
  methods := ms
  attributes := attrs
def plain (name : String) (sup : Option ClassId) : Class where
  name := name
  kind := .ordinary
  loader := none
  accessFlags := 33
  super := sup
  interfaces := #[]
  cf := none
  fields := #[]
  methods := #[]
  instanceTypes := #[]
  staticTypes := #[]
  resolved := #[]
  callSites := []
  init := .initialized
  statics := none
  mirror := none

def pool0 : Array CpInfo := pool [(5, u "<init>"), (0, u "()V"), (1, .class_ 10), (1, u "java/lang/Object")] 113

def k0m0 : Method := { name := "<init>", desc := "()V", sig := { parameters := [], returnType := none }, accessFlags := 1, code := none }
/-- java/lang/Object -/
def k0 : Class := { plain "java/lang/Object" none with
  accessFlags := 33
  interfaces := #[]
  cf := some (fileOf pool0 8 #[] #[{ accessFlags := 1, nameIndex := 5, descriptorIndex := 6, attributes := #[] }] 33 0 #[] #[])
  fields := #[]
  methods := #[k0m0]
  instanceTypes := #[]
  staticTypes := #[]
  resolved := Array.replicate 124 none
  statics := none }

def pool1 : Array CpInfo := pool [(2, .class_ 4), (1, u "java/lang/Object"), (0, u "<init>"), (0, u "()V"), (0, .integer 2147483647), (0, .integer 4194304), (0, .methodref 10 11), (0, .class_ 12), (0, .nameAndType 13 14), (0, u "org/bufwarden/PoolChunk"), (0, u "runOrder"), (0, u "(I)I"), (0, .long 8192), (1, .class_ 18), (0, u "org/bufwarden/PoolChunkRunOrderPinLaw"), (2, u "law"), (0, u "(I)Z")] 3

def k1m0 : Method := { name := "<init>", desc := "()V", sig := { parameters := [], returnType := none }, accessFlags := 1, code := none }
def k1c1 : Code := { maxStack := 4, maxLocals := 7, code := code, exceptionTable := #[], attributes := #[] }
def k1m1 : Method := { name := "law", desc := "(I)Z", sig := { parameters := [.int], returnType := some .boolean }, accessFlags := 9, code := some k1c1 }
/-- org/bufwarden/PoolChunkRunOrderPinLaw -/
def k1 : Class := { plain "org/bufwarden/PoolChunkRunOrderPinLaw" (some 0) with
  accessFlags := 49
  interfaces := #[]
  cf := some (fileOf pool1 17 #[] #[{ accessFlags := 1, nameIndex := 5, descriptorIndex := 6, attributes := #[] }, { accessFlags := 9, nameIndex := 21, descriptorIndex := 22, attributes := #[] }] 49 2 #[] #[])
  fields := #[]
  methods := #[k1m0, k1m1]
  instanceTypes := #[]
  staticTypes := #[]
  resolved := Array.replicate 26 none
  statics := none }

def pool2 : Array CpInfo := pool [(1, .class_ 2), (0, u "org/bufwarden/PoolChunk"), (1, .class_ 6), (1, u "java/lang/Object"), (4, u "largestFree"), (0, u "[B"), (2, u "memory"), (0, u "Ljava/nio/ByteBuffer;"), (12, u "firstLine"), (0, u "I"), (0, .fieldref 1 32), (0, .nameAndType 33 30), (0, u "PAGE_SHIFT"), (0, .class_ 35), (0, u "java/lang/Integer"), (0, .methodref 34 37), (0, .nameAndType 38 39), (0, u "numberOfLeadingZeros"), (0, u "(I)I"), (2, u "draining"), (0, u "Z"), (21, u "PAGE_SIZE"), (2, u "MAX_ORDER"), (1, u "PAGES"), (1, u "SIZE"), (1, u "CACHE_LINE"), (5, u "runOrder")] 30

def k2c0 : Code := { maxStack := 3, maxLocals := 2, code := prog_29_method_2_code, exceptionTable := #[], attributes := #[] }
def k2m0 : Method := { name := "runOrder", desc := "(I)I", sig := { parameters := [.int], returnType := some .int }, accessFlags := 8, code := some k2c0 }
/-- org/bufwarden/PoolChunk -/
def k2 : Class := { plain "org/bufwarden/PoolChunk" (some 0) with
  accessFlags := 48
  interfaces := #[]
  cf := some (fileOf pool2 1 #[] #[{ accessFlags := 8, nameIndex := 80, descriptorIndex := 39, attributes := #[] }] 48 4 #[] #[{ accessFlags := 24, nameIndex := 65, descriptorIndex := 30, attributes := #[] }, { accessFlags := 24, nameIndex := 68, descriptorIndex := 30, attributes := #[] }, { accessFlags := 24, nameIndex := 70, descriptorIndex := 30, attributes := #[] }, { accessFlags := 24, nameIndex := 72, descriptorIndex := 30, attributes := #[] }, { accessFlags := 24, nameIndex := 74, descriptorIndex := 30, attributes := #[] }, { accessFlags := 26, nameIndex := 33, descriptorIndex := 30, attributes := #[] }, { accessFlags := 18, nameIndex := 15, descriptorIndex := 16, attributes := #[] }, { accessFlags := 18, nameIndex := 29, descriptorIndex := 30, attributes := #[] }, { accessFlags := 18, nameIndex := 11, descriptorIndex := 12, attributes := #[] }, { accessFlags := 66, nameIndex := 42, descriptorIndex := 43, attributes := #[] }])
  fields := #[{ name := "PAGE_SIZE", type := .int, accessFlags := 24, slot := 0, constantValue := 0 }, { name := "MAX_ORDER", type := .int, accessFlags := 24, slot := 1, constantValue := 0 }, { name := "PAGES", type := .int, accessFlags := 24, slot := 2, constantValue := 0 }, { name := "SIZE", type := .int, accessFlags := 24, slot := 3, constantValue := 0 }, { name := "CACHE_LINE", type := .int, accessFlags := 24, slot := 4, constantValue := 0 }, { name := "PAGE_SHIFT", type := .int, accessFlags := 26, slot := 5, constantValue := 0 }, { name := "memory", type := (.object "java/nio/ByteBuffer"), accessFlags := 18, slot := 0, constantValue := 0 }, { name := "firstLine", type := .int, accessFlags := 18, slot := 1, constantValue := 0 }, { name := "largestFree", type := (.array .byte), accessFlags := 18, slot := 2, constantValue := 0 }, { name := "draining", type := .boolean, accessFlags := 66, slot := 3, constantValue := 0 }]
  methods := #[k2m0]
  instanceTypes := #[(.object "java/nio/ByteBuffer"), .int, (.array .byte), .boolean]
  staticTypes := #[.int, .int, .int, .int, .int, .int]
  resolved := Array.replicate 111 none
  statics := some 0 }

def pool3 : Array CpInfo := pool [(1, .class_ 2), (0, u "java/io/Serializable"), (0, .class_ 4), (0, u "java/lang/Object")] 2

/-- java/io/Serializable -/
def k3 : Class := { plain "java/io/Serializable" (some 0) with
  accessFlags := 1537
  interfaces := #[]
  cf := some (fileOf pool3 1 #[] #[] 1537 3 #[] #[])
  fields := #[]
  methods := #[]
  instanceTypes := #[]
  staticTypes := #[]
  resolved := Array.replicate 7 none
  statics := none }

def pool4 : Array CpInfo := pool [(2, .class_ 4), (1, u "java/lang/Object"), (0, u "<init>"), (0, u "()V"), (1, .class_ 10), (1, u "java/lang/Number"), (2, .class_ 14), (0, u "java/io/Serializable"), (0, u "serialVersionUID"), (0, u "J")] 20

def k4m0 : Method := { name := "<init>", desc := "()V", sig := { parameters := [], returnType := none }, accessFlags := 1, code := none }
/-- java/lang/Number -/
def k4 : Class := { plain "java/lang/Number" (some 0) with
  accessFlags := 1057
  interfaces := #[3]
  cf := some (fileOf pool4 8 #[] #[{ accessFlags := 1, nameIndex := 5, descriptorIndex := 6, attributes := #[] }] 1057 2 #[13] #[{ accessFlags := 26, nameIndex := 15, descriptorIndex := 16, attributes := #[] }])
  fields := #[{ name := "serialVersionUID", type := .long, accessFlags := 26, slot := 0, constantValue := 0 }]
  methods := #[k4m0]
  instanceTypes := #[]
  staticTypes := #[.long]
  resolved := Array.replicate 37 none
  statics := none }

def pool5 : Array CpInfo := pool [(1, .class_ 2), (0, u "java/lang/Comparable"), (0, .class_ 4), (0, u "java/lang/Object")] 7

/-- java/lang/Comparable -/
def k5 : Class := { plain "java/lang/Comparable" (some 0) with
  accessFlags := 1537
  interfaces := #[]
  cf := some (fileOf pool5 1 #[] #[] 1537 3 #[] #[])
  fields := #[]
  methods := #[]
  instanceTypes := #[]
  staticTypes := #[]
  resolved := Array.replicate 12 none
  statics := none }

def pool6 : Array CpInfo := pool [(1, .class_ 2), (0, u "java/lang/constant/Constable"), (0, .class_ 4), (0, u "java/lang/Object")] 6

/-- java/lang/constant/Constable -/
def k6 : Class := { plain "java/lang/constant/Constable" (some 0) with
  accessFlags := 1537
  interfaces := #[]
  cf := some (fileOf pool6 1 #[] #[] 1537 3 #[] #[])
  fields := #[]
  methods := #[]
  instanceTypes := #[]
  staticTypes := #[]
  resolved := Array.replicate 11 none
  statics := none }

def pool7 : Array CpInfo := pool [(1, .class_ 2), (0, u "java/lang/constant/ConstantDesc"), (0, .class_ 4), (0, u "java/lang/Object")] 32

/-- java/lang/constant/ConstantDesc -/
def k7 : Class := { plain "java/lang/constant/ConstantDesc" (some 0) with
  accessFlags := 1537
  interfaces := #[]
  cf := some (fileOf pool7 1 #[] #[] 1537 3 #[] #[])
  fields := #[]
  methods := #[]
  instanceTypes := #[]
  staticTypes := #[]
  resolved := Array.replicate 37 none
  statics := none }

def pool8 : Array CpInfo := pool [(1, .class_ 2), (0, u "java/lang/Integer"), (16, u "digits"), (0, u "[C"), (32, u "numberOfLeadingZeros"), (0, u "(I)I"), (30, u "DigitOnes"), (0, u "[B"), (2, u "DigitTens"), (99, .class_ 190), (0, u "java/lang/Integer$IntegerCache"), (3, u "I"), (8, .class_ 204), (0, u "java/lang/Number"), (2, u "value"), (56, .integer 65536), (37, u "TYPE"), (0, u "Ljava/lang/Class;"), (0, .class_ 305), (0, u "java/lang/Comparable"), (0, .class_ 307), (0, u "java/lang/constant/Constable"), (0, .class_ 309), (0, u "java/lang/constant/ConstantDesc"), (0, u "MIN_VALUE"), (1, u "MAX_VALUE"), (3, u "SIZE"), (1, u "BYTES"), (1, u "serialVersionUID"), (0, u "J")] 131

def k8c0 : Code := { maxStack := 3, maxLocals := 2, code := jdk_33_method_47_code, exceptionTable := #[], attributes := #[] }
def k8m0 : Method := { name := "numberOfLeadingZeros", desc := "(I)I", sig := { parameters := [.int], returnType := some .int }, accessFlags := 9, code := some k8c0 }
/-- java/lang/Integer -/
def k8 : Class := { plain "java/lang/Integer" (some 4) with
  accessFlags := 49
  interfaces := #[5, 6, 7]
  cf := some (fileOf pool8 1 #[.nestMembers #[189]] #[{ accessFlags := 9, nameIndex := 53, descriptorIndex := 54, attributes := #[] }] 49 203 #[304, 306, 308] #[{ accessFlags := 25, nameIndex := 310, descriptorIndex := 194, attributes := #[] }, { accessFlags := 25, nameIndex := 312, descriptorIndex := 194, attributes := #[] }, { accessFlags := 25, nameIndex := 302, descriptorIndex := 303, attributes := #[] }, { accessFlags := 24, nameIndex := 19, descriptorIndex := 20, attributes := #[] }, { accessFlags := 24, nameIndex := 89, descriptorIndex := 86, attributes := #[] }, { accessFlags := 24, nameIndex := 85, descriptorIndex := 86, attributes := #[] }, { accessFlags := 18, nameIndex := 207, descriptorIndex := 194, attributes := #[] }, { accessFlags := 25, nameIndex := 316, descriptorIndex := 194, attributes := #[] }, { accessFlags := 25, nameIndex := 318, descriptorIndex := 194, attributes := #[] }, { accessFlags := 26, nameIndex := 320, descriptorIndex := 321, attributes := #[] }])
  fields := #[{ name := "MIN_VALUE", type := .int, accessFlags := 25, slot := 0, constantValue := 0 }, { name := "MAX_VALUE", type := .int, accessFlags := 25, slot := 1, constantValue := 0 }, { name := "TYPE", type := (.object "java/lang/Class"), accessFlags := 25, slot := 2, constantValue := 0 }, { name := "digits", type := (.array .char), accessFlags := 24, slot := 3, constantValue := 0 }, { name := "DigitTens", type := (.array .byte), accessFlags := 24, slot := 4, constantValue := 0 }, { name := "DigitOnes", type := (.array .byte), accessFlags := 24, slot := 5, constantValue := 0 }, { name := "value", type := .int, accessFlags := 18, slot := 0, constantValue := 0 }, { name := "SIZE", type := .int, accessFlags := 25, slot := 6, constantValue := 0 }, { name := "BYTES", type := .int, accessFlags := 25, slot := 7, constantValue := 0 }, { name := "serialVersionUID", type := .long, accessFlags := 26, slot := 8, constantValue := 0 }]
  methods := #[k8m0]
  instanceTypes := #[.int]
  staticTypes := #[.int, .int, (.object "java/lang/Class"), (.array .char), (.array .byte), (.array .byte), .int, .int, .long]
  resolved := Array.replicate 453 none
  statics := none }

def pool9 : Array CpInfo := pool [(1, u "java/lang/Cloneable"), (0, .class_ 1), (0, u "java/lang/Object"), (0, .class_ 3)] 3

/-- java/lang/Cloneable -/
def k9 : Class := { plain "java/lang/Cloneable" (some 0) with
  accessFlags := 1537
  interfaces := #[]
  cf := some (fileOf pool9 2 #[] #[] 1537 4 #[] #[])
  fields := #[]
  methods := #[]
  instanceTypes := #[]
  staticTypes := #[]
  resolved := Array.replicate 8 none
  statics := none }

/-- the primitive byte -/
def k10 : Class := { plain "byte" none with kind := .primitive 'B', accessFlags := 0x411 }
/-- [B -/
def k11 : Class := { plain "[B" (some 0) with kind := .array 10 .byte, interfaces := #[9, 3], accessFlags := 1041 }

/-- the primitive int -/
def k12 : Class := { plain "int" none with kind := .primitive 'I', accessFlags := 0x411 }
/-- [I -/
def k13 : Class := { plain "[I" (some 0) with kind := .array 12 .int, interfaces := #[9, 3], accessFlags := 1041 }

def heap : Heap := #[{ cls := 2, slots := #[.int 0, .int 0, .int 0, .int 0, .int 0, .int 13], vm := .statics 2 }]
def classes : Array Class := #[k0, k1, k2, k3, k4, k5, k6, k7, k8, k9, k10, k11, k12, k13]
def interned : List (Array UInt16 × Addr) := []
def slotsUsed : Nat := 6
def theMethod : MethodId := ⟨1, 1⟩
def args0 : Array Value := #[.int 5]
def aboutOver (below : List Frame) : State where
  vm := { classes := classes, interned := interned.toArray }
  heap := heap
  slotsUsed := slotsUsed
  threads := #[{ frames := .invoking theMethod args0 :: below }]
def below0 : List Frame := [.native { method := ⟨0, 0⟩, args := #[] }]
def about1 : State := aboutOver below0
def p0 : Program := .bare "" "" ""
def e0 : Env := launch0.env 0 0 0
theorem w_frames : about1.frames = Frame.invoking theMethod args0 :: below0 := rfl
set_option maxRecDepth 65536 in
theorem w_args : argsFit about1.vm theMethod args0 = true := by decide +kernel
set_option maxRecDepth 65536 in
theorem w_heap : heapFits about1 = true := by decide +kernel
set_option maxRecDepth 65536 in
theorem w_runnable : about1.curStatus? = some .runnable := by decide +kernel
set_option maxRecDepth 65536 in
theorem w_alone : about1.alone = true := by decide +kernel
set_option maxRecDepth 65536 in
theorem w_named : about1.methodNamed? x = some theMethod := by decide +kernel
set_option maxRecDepth 65536 in
theorem w_hears : about1.hears theMethod below0 = true := by decide +kernel
set_option maxRecDepth 65536 in
theorem w_ripe : about1.ripe theMethod args0 below0 = true := by decide +kernel
theorem w_running : about1.status = .running := rfl
set_option maxRecDepth 65536 in
theorem w_room : about1.hasRoom e0.platform room_1 = true :=
  launch0.hasRoom_least _ room_1 (by decide +kernel) (by decide +kernel) (by decide +kernel) (by decide +kernel) (by decide +kernel) (by decide +kernel)
theorem allAtoms_all (ts : List Jvm.Cond) (a : Array Jvm.Value) (st : Jvm.State) : (allAtoms ts).before a st = ts.all (fun c => c.before a st) := by
  induction ts with
  | nil => rfl
  | cons c t ih =>
    show (Jvm.Cond.and c (allAtoms t)).before a st = _
    rw [Jvm.Cond.before_and, ih, List.all_cons]
def words1 : List Jvm.Cond := Jvm.Cond.code x code maxLocals ret :: tables_1
/-- a 'code' word, met by the world's own term for the bytes: nothing is compared byte by byte -/
theorem code_word {y : MethodName} {bytes : ByteArray} {mx : Nat} {rt : Option FieldType} {a : Array Value} {s : State} {m : MethodId} {meth : Method} {c : Code} (h1 : s.methodNamed? y = some m) (h2 : s.vm.method? m = some meth) (h3 : meth.code = some c) (h4 : c.code = bytes)
    (h5 : (c.maxLocals == mx && c.exceptionTable.isEmpty && decide (c.maxStack ≤ mostOperands) && decide (meth.sig.returnType = rt) && !meth.locks && decide (parseMethodDescriptor y.desc = some meth.sig)) = true) : (Jvm.Cond.code y bytes mx rt).before a s = true := by
  simp only [Bool.and_eq_true, beq_iff_eq, Bool.not_eq_true', decide_eq_true_eq] at h5
  obtain ⟨⟨⟨⟨⟨g1, g2⟩, g3⟩, g4⟩, g5⟩, g6⟩ := h5
  simp [Cond.before, Cond.holds, Cond.value, h1, h2, h3, h4, g1, g2, g3, g4, g5, g6]
def isCode : Jvm.Cond → Bool
  | .code _ _ _ _ => true
  | _ => false
theorem all_split {L : List Jvm.Cond} {P : Jvm.Cond → Bool} (h1 : L.all (fun c => isCode c || P c) = true) (h2 : ∀ c ∈ L.filter isCode, P c = true) : L.all P = true := by
  refine List.all_eq_true.mpr fun c hc => ?_
  have h := List.all_eq_true.mp h1 c hc
  rcases Bool.eq_false_or_eq_true (isCode c) with hi | hi
  · exact h2 c (List.mem_filter.mpr ⟨hc, hi⟩)
  · simpa [hi] using h
set_option maxRecDepth 65536 in
theorem w_c0 : (Jvm.Cond.code x code maxLocals ret).before args0 about1 = true := code_word (m := ⟨1, 1⟩) (meth := k1m1) (c := k1c1) (by decide +kernel) rfl rfl rfl (by decide +kernel)
set_option maxRecDepth 65536 in
theorem w_c1 : (Jvm.Cond.code ({ cls := "org/bufwarden/PoolChunk", name := "runOrder", desc := "(I)I" } : Jvm.MethodName) prog_29_method_2_code (2 : Nat) (Option.some Jvm.ClassFile.FieldType.int)).before args0 about1 = true := code_word (m := ⟨2, 0⟩) (meth := k2m0) (c := k2c0) (by decide +kernel) rfl rfl rfl (by decide +kernel)
set_option maxRecDepth 65536 in
theorem w_c2 : (Jvm.Cond.code ({ cls := "java/lang/Integer", name := "numberOfLeadingZeros", desc := "(I)I" } : Jvm.MethodName) jdk_33_method_47_code (2 : Nat) (Option.some Jvm.ClassFile.FieldType.int)).before args0 about1 = true := code_word (m := ⟨8, 0⟩) (meth := k8m0) (c := k8c0) (by decide +kernel) rfl rfl rfl (by decide +kernel)
def codes1 : List Jvm.Cond := [Jvm.Cond.code x code maxLocals ret, Jvm.Cond.code ({ cls := "org/bufwarden/PoolChunk", name := "runOrder", desc := "(I)I" } : Jvm.MethodName) prog_29_method_2_code (2 : Nat) (Option.some Jvm.ClassFile.FieldType.int), Jvm.Cond.code ({ cls := "java/lang/Integer", name := "numberOfLeadingZeros", desc := "(I)I" } : Jvm.MethodName) jdk_33_method_47_code (2 : Nat) (Option.some Jvm.ClassFile.FieldType.int)]
set_option maxRecDepth 65536 in
theorem codes_eq : words1.filter isCode = codes1 := rfl
theorem w_codes : ∀ c ∈ words1.filter isCode, c.before args0 about1 = true := by
  rw [codes_eq]
  intro c hc
  simp only [codes1, List.mem_cons, List.not_mem_nil, or_false] at hc
  rcases hc with rfl | rfl | rfl
  · exact w_c0
  · exact w_c1
  · exact w_c2
set_option maxRecDepth 65536 in
theorem w_t1 : words1.all (fun c => isCode c || c.before args0 about1) = true := by decide +kernel
theorem w_tables : (allAtoms (Jvm.Cond.code x code maxLocals ret :: tables_1)).before args0 about1 = true := by
  rw [allAtoms_all]
  show words1.all (fun c => c.before args0 about1) = true
  refine all_split ?_ w_codes
  rw [w_t1]
set_option maxRecDepth 65536 in
theorem w_case : (Jvm.Cond.and given_1 narrow_1).before args0 about1 = true := by decide +kernel
theorem w_applies : (headSpec (Jvm.Cond.code x code maxLocals ret :: tables_1) room_1).applies x e0.platform about1 = true :=
  (Spec.applies_iff w_frames).mpr ⟨w_running, w_runnable, w_alone, w_named, w_hears, w_ripe, w_room, w_tables⟩
theorem atStart : AtStart classFile x code maxLocals ret World_1 tables_1 room_1 Calls_1 rest_1 Pre_1 launch0 p0 e0 about1 theMethod args0 below0 :=
  ⟨lists_1, trivial, launch0.admits_env _ _ _, launch0.least_env, fairChoices_fair.cas, fairChoices_fair.clock, w_frames, w_args, w_heap, w_applies, trivial, trivial, w_case⟩
end start1
theorem witness_1 : WitnessClaimed_1 := ⟨start1.p0, start1.e0, start1.about1, start1.theMethod, start1.args0, start1.below0, start1.atStart⟩
end Jvm.Pilot.@@N@@
