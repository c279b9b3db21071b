import JvmDerived
import JvmDerived.Pilot.@@N@@Statement
import JvmDerived.Pilot.@@N@@Code
set_option linter.unusedVariables false
set_option linter.unusedSimpArgs false
namespace Jvm.Pilot.@@N@@
open Jvm Jvm.ClassFile Sem Op Lib Jvm.Free Jvm.Stand Jvm.LawKit Jvm.RoadKit Bundle Jvm.Pilot.@@N@@.Jvm.D
section OwnHead
variable {p : Program} {l : Launch} {e : Env} {R : Room} {s : State} {m : MethodId} {args : Array Value} {below : List Frame} {meth : Method} {c : Code} {T : State} {locs : List Loc} {cells slots : Nat}
theorem own_retI (X : Stand p l e R s m args below meth c T locs cells slots) (hx : p.tables.exec = Jvm.exec) {pc : Nat} {Ls : Array Slot} {z : Int32} {rest : List Value} (hret : meth.sig.returnType = some .int) (hd : decode c.code pc = .ok (.ireturn, 1)) {fs : List Frame}
    (hl : ∀ (f : JFrame) (acts : List Action), f.method = m → f.locked = none → f.entered = [] → (doReturn e (T.setTop f) acts (some (.int z))).1 = T.setFrames fs) : Steps p.tables e below (T.setTop (mkF m pc Ls (.int z :: rest))) (T.setFrames fs) := by
  have hm' : T.vm.method? m = some meth := X.method'
  have hn : narrow .int (.int z) = .int z := rfl
  show Steps p.tables e below (T.setTop { method := m, pc := pc, locals := Ls, stack := _ :: rest, locked := none }) _
  jvm_step X.here [X.here.top, hx, hd, hm', hret, hn]
  first | (intro acts; rw [hl _ acts rfl rfl rfl]) | rw [hl _ _ rfl rfl rfl]
  exact Steps.refl _
/-- the run comes to an end that P speaks of -/
abbrev own_Fin (tb : Tables) (e : Env) (below : List Frame) (P : Outcome → State → Prop) (F : State) : Prop := ∃ s₂ o, Steps tb e below F s₂ ∧ s₂.status = .running ∧ Ended s₂ below o ∧ P o s₂
theorem own_go {tb : Tables} {P : Outcome → State → Prop} {F F' : State} (h : ∀ t, Steps tb e below F' t → Steps tb e below F t) (k : own_Fin tb e below P F') : own_Fin tb e below P F := by
  obtain ⟨s₂, o, h1, h2⟩ := k
  exact ⟨s₂, o, h _ h1, h2⟩
theorem own_eqI {args : Array Value} {first s : State} {o : Option Outcome} {idx : List Nat} {a : Term} {k : Int32} (h : (Cond.eq a (.int k)).value args first o s idx = some true) : a.eval args first o idx s = some (.int k) := by
  simp only [Cond.value, Term.eval] at h
  cases ht : a.eval args first o idx s with
  | none => simp [ht] at h
  | some x => cases x <;> simp [ht] at h ⊢; exact h
theorem own_eqJ {args : Array Value} {first s : State} {o : Option Outcome} {idx : List Nat} {a : Term} {k : Int64} (h : (Cond.eq a (.long k)).value args first o s idx = some true) : a.eval args first o idx s = some (.long k) := by
  simp only [Cond.value, Term.eval] at h
  cases ht : a.eval args first o idx s with
  | none => simp [ht] at h
  | some x => cases x <;> simp [ht] at h ⊢; exact h
theorem own_fld {args : Array Value} {Z : State} {t : Term} {a : Addr} {C n d : String} {v : Value} (ht : t.eval args Z none [] Z = some (.ref a)) (h : (Term.field t C n d).eval args Z none [] Z = some v) : Fld Z Z.heap a C n d v := Fld.start ((fld_at ht).symm.trans h)
theorem own_selp {s : State} {args : Array Value} {y : MethodName} {n : Nat} (wi : (Cond.instantiable y.cls n).before args s = true) (hpriv : s.PrivateAt y) (hinst : (Cond.instanceMethod y).before args s = true) (hy : y.cls ≠ "java/lang/invoke/MethodHandle" ∧ y.cls ≠ "java/lang/invoke/VarHandle") : (Cond.selects y.cls y y).before args s = true := by
  obtain ⟨c, k, h1, h2, -, h4, -⟩ := Cond.instantiable_spec wi
  exact selects_self_of_private h1 h2 (Bool.or_eq_false_iff.mp h4).1 hpriv hinst hy
theorem own_len {args : Array Value} {first s : State} {o : Option Outcome} {idx : List Nat} {t : Term} {a : Addr} {cl : Cell} {n : Int32} (h : (Term.length t).eval args first o idx s = some (.int n)) (ht : t.eval args first o idx s = some (.ref a)) (hc : s.arrayAt? a = some cl) : cl.slots.size < 2 ^ 31 ∧ cl.slots.size.toInt32 = n := by
  simp only [Term.eval, ht, hc, Option.bind_eq_bind, Option.bind_some] at h
  split at h
  · rename_i q
    exact ⟨q, by simpa using h⟩
  · simp at h
end OwnHead
theorem d1_0 : decode prog_41_method_1_code 0 = .ok (.aload_n 0, 1) := by decide +kernel
theorem d1_1 : decode prog_41_method_1_code 1 = .ok (.invokespecial 1, 3) := by decide +kernel
theorem d1_4 : decode prog_41_method_1_code 4 = .ok (.aload_n 0, 1) := by decide +kernel
theorem d1_5 : decode prog_41_method_1_code 5 = .ok (.iconst 0, 1) := by decide +kernel
theorem d1_6 : decode prog_41_method_1_code 6 = .ok (.newarray .long, 2) := by decide +kernel
theorem d1_8 : decode prog_41_method_1_code 8 = .ok (.putfield 7, 3) := by decide +kernel
theorem d1_11 : decode prog_41_method_1_code 11 = .ok (.aload_n 0, 1) := by decide +kernel
theorem d1_12 : decode prog_41_method_1_code 12 = .ok (.iload_n 1, 1) := by decide +kernel
theorem d1_13 : decode prog_41_method_1_code 13 = .ok (.putfield 13, 3) := by decide +kernel
theorem d1_16 : decode prog_41_method_1_code 16 = .ok (.return_, 1) := by decide +kernel
theorem d3_0 : decode method_6_code 0 = .ok (.iload_n 3, 1) := by decide +kernel
theorem d3_1 : decode method_6_code 1 = .ok (.iload 4, 2) := by decide +kernel
theorem d3_3 : decode method_6_code 3 = .ok (.iload 5, 2) := by decide +kernel
theorem d3_5 : decode method_6_code 5 = .ok (.invokestatic 24, 3) := by decide +kernel
theorem d3_8 : decode method_6_code 8 = .ok (.istore 10, 2) := by decide +kernel
theorem d3_10 : decode method_6_code 10 = .ok (.iload_n 3, 1) := by decide +kernel
theorem d3_11 : decode method_6_code 11 = .ok (.iload 4, 2) := by decide +kernel
theorem d3_13 : decode method_6_code 13 = .ok (.lload 6, 2) := by decide +kernel
theorem d3_15 : decode method_6_code 15 = .ok (.invokestatic 28, 3) := by decide +kernel
theorem d3_18 : decode method_6_code 18 = .ok (.lstore 11, 2) := by decide +kernel
theorem d3_20 : decode method_6_code 20 = .ok (.aload_n 1, 1) := by decide +kernel
theorem d3_21 : decode method_6_code 21 = .ok (.aload_n 2, 1) := by decide +kernel
theorem d3_22 : decode method_6_code 22 = .ok (.iload 10, 2) := by decide +kernel
theorem d3_24 : decode method_6_code 24 = .ok (.lload 11, 2) := by decide +kernel
theorem d3_26 : decode method_6_code 26 = .ok (.lload 8, 2) := by decide +kernel
theorem d3_28 : decode method_6_code 28 = .ok (.invokestatic 32, 3) := by decide +kernel
theorem d3_31 : decode method_6_code 31 = .ok (.istore 13, 2) := by decide +kernel
theorem d3_33 : decode method_6_code 33 = .ok (.aload_n 0, 1) := by decide +kernel
theorem d3_34 : decode method_6_code 34 = .ok (.iload 10, 2) := by decide +kernel
theorem d3_36 : decode method_6_code 36 = .ok (.lload 11, 2) := by decide +kernel
theorem d3_38 : decode method_6_code 38 = .ok (.lload 8, 2) := by decide +kernel
theorem d3_40 : decode method_6_code 40 = .ok (.invokevirtual 36, 3) := by decide +kernel
theorem d3_43 : decode method_6_code 43 = .ok (.istore 14, 2) := by decide +kernel
theorem d3_45 : decode method_6_code 45 = .ok (.iload 14, 2) := by decide +kernel
theorem d3_47 : decode method_6_code 47 = .ok (.iload 13, 2) := by decide +kernel
theorem d3_49 : decode method_6_code 49 = .ok (.if_icmp .ne 7, 3) := by decide +kernel
theorem d3_52 : decode method_6_code 52 = .ok (.iconst 1, 1) := by decide +kernel
theorem d3_53 : decode method_6_code 53 = .ok (.goto 4, 3) := by decide +kernel
theorem d3_57 : decode method_6_code 57 = .ok (.ireturn, 1) := by decide +kernel
theorem d4_0 : decode method_4_code 0 = .ok (.iconst 2, 1) := by decide +kernel
theorem d4_1 : decode method_4_code 1 = .ok (.iconst 5, 1) := by decide +kernel
theorem d4_2 : decode method_4_code 2 = .ok (.iload_n 1, 1) := by decide +kernel
theorem d4_3 : decode method_4_code 3 = .ok (.imul, 1) := by decide +kernel
theorem d4_4 : decode method_4_code 4 = .ok (.iadd, 1) := by decide +kernel
theorem d4_5 : decode method_4_code 5 = .ok (.istore_n 3, 1) := by decide +kernel
theorem d4_6 : decode method_4_code 6 = .ok (.iload_n 0, 1) := by decide +kernel
theorem d4_7 : decode method_4_code 7 = .ok (.iload_n 3, 1) := by decide +kernel
theorem d4_8 : decode method_4_code 8 = .ok (.iushr, 1) := by decide +kernel
theorem d4_9 : decode method_4_code 9 = .ok (.bipush 7, 2) := by decide +kernel
theorem d4_11 : decode method_4_code 11 = .ok (.iand, 1) := by decide +kernel
theorem d4_12 : decode method_4_code 12 = .ok (.iload_n 2, 1) := by decide +kernel
theorem d4_13 : decode method_4_code 13 = .ok (.iconst 2, 1) := by decide +kernel
theorem d4_14 : decode method_4_code 14 = .ok (.iadd, 1) := by decide +kernel
theorem d4_15 : decode method_4_code 15 = .ok (.irem, 1) := by decide +kernel
theorem d4_16 : decode method_4_code 16 = .ok (.iconst 1, 1) := by decide +kernel
theorem d4_17 : decode method_4_code 17 = .ok (.isub, 1) := by decide +kernel
theorem d4_18 : decode method_4_code 18 = .ok (.istore 4, 2) := by decide +kernel
theorem d4_20 : decode method_4_code 20 = .ok (.iload 4, 2) := by decide +kernel
theorem d4_22 : decode method_4_code 22 = .ok (.iconst (-1), 1) := by decide +kernel
theorem d4_23 : decode method_4_code 23 = .ok (.if_icmp .ne 17, 3) := by decide +kernel
theorem d4_26 : decode method_4_code 26 = .ok (.iload_n 0, 1) := by decide +kernel
theorem d4_27 : decode method_4_code 27 = .ok (.iload_n 3, 1) := by decide +kernel
theorem d4_28 : decode method_4_code 28 = .ok (.iconst 3, 1) := by decide +kernel
theorem d4_29 : decode method_4_code 29 = .ok (.iadd, 1) := by decide +kernel
theorem d4_30 : decode method_4_code 30 = .ok (.iushr, 1) := by decide +kernel
theorem d4_31 : decode method_4_code 31 = .ok (.iconst 1, 1) := by decide +kernel
theorem d4_32 : decode method_4_code 32 = .ok (.iand, 1) := by decide +kernel
theorem d4_33 : decode method_4_code 33 = .ok (.ifCond .eq 7, 3) := by decide +kernel
theorem d4_36 : decode method_4_code 36 = .ok (.ldc 23, 2) := by decide +kernel
theorem d4_38 : decode method_4_code 38 = .ok (.istore 4, 2) := by decide +kernel
theorem d4_40 : decode method_4_code 40 = .ok (.iload 4, 2) := by decide +kernel
theorem d4_42 : decode method_4_code 42 = .ok (.ireturn, 1) := by decide +kernel
theorem d5_0 : decode method_5_code 0 = .ok (.iload_n 0, 1) := by decide +kernel
theorem d5_1 : decode method_5_code 1 = .ok (.iconst 2, 1) := by decide +kernel
theorem d5_2 : decode method_5_code 2 = .ok (.iconst 5, 1) := by decide +kernel
theorem d5_3 : decode method_5_code 3 = .ok (.iload_n 1, 1) := by decide +kernel
theorem d5_4 : decode method_5_code 4 = .ok (.imul, 1) := by decide +kernel
theorem d5_5 : decode method_5_code 5 = .ok (.iadd, 1) := by decide +kernel
theorem d5_6 : decode method_5_code 6 = .ok (.iconst 4, 1) := by decide +kernel
theorem d5_7 : decode method_5_code 7 = .ok (.iadd, 1) := by decide +kernel
theorem d5_8 : decode method_5_code 8 = .ok (.iushr, 1) := by decide +kernel
theorem d5_9 : decode method_5_code 9 = .ok (.iconst 1, 1) := by decide +kernel
theorem d5_10 : decode method_5_code 10 = .ok (.iand, 1) := by decide +kernel
theorem d5_11 : decode method_5_code 11 = .ok (.ifCond .eq 7, 3) := by decide +kernel
theorem d5_14 : decode method_5_code 14 = .ok (.lconst 0, 1) := by decide +kernel
theorem d5_15 : decode method_5_code 15 = .ok (.goto 4, 3) := by decide +kernel
theorem d5_18 : decode method_5_code 18 = .ok (.lload_n 2, 1) := by decide +kernel
theorem d5_19 : decode method_5_code 19 = .ok (.lreturn, 1) := by decide +kernel
theorem d6_0 : decode method_3_code 0 = .ok (.aload_n 1, 1) := by decide +kernel
theorem d6_1 : decode method_3_code 1 = .ok (.iconst 0, 1) := by decide +kernel
theorem d6_2 : decode method_3_code 2 = .ok (.iaload, 1) := by decide +kernel
theorem d6_3 : decode method_3_code 3 = .ok (.istore 7, 2) := by decide +kernel
theorem d6_5 : decode method_3_code 5 = .ok (.iload_n 2, 1) := by decide +kernel
theorem d6_6 : decode method_3_code 6 = .ok (.ifCond .lt 9, 3) := by decide +kernel
theorem d6_9 : decode method_3_code 9 = .ok (.iload 7, 2) := by decide +kernel
theorem d6_11 : decode method_3_code 11 = .ok (.iload_n 2, 1) := by decide +kernel
theorem d6_12 : decode method_3_code 12 = .ok (.if_icmp .ge 9, 3) := by decide +kernel
theorem d6_15 : decode method_3_code 15 = .ok (.iconst 1, 1) := by decide +kernel
theorem d6_16 : decode method_3_code 16 = .ok (.istore 8, 2) := by decide +kernel
theorem d6_18 : decode method_3_code 18 = .ok (.goto 43, 3) := by decide +kernel
theorem d6_21 : decode method_3_code 21 = .ok (.iload_n 2, 1) := by decide +kernel
theorem d6_22 : decode method_3_code 22 = .ok (.ifCond .eq 9, 3) := by decide +kernel
theorem d6_25 : decode method_3_code 25 = .ok (.lload_n 3, 1) := by decide +kernel
theorem d6_26 : decode method_3_code 26 = .ok (.lconst 0, 1) := by decide +kernel
theorem d6_27 : decode method_3_code 27 = .ok (.lcmp, 1) := by decide +kernel
theorem d6_28 : decode method_3_code 28 = .ok (.ifCond .ne 9, 3) := by decide +kernel
theorem d6_31 : decode method_3_code 31 = .ok (.iconst 0, 1) := by decide +kernel
theorem d6_32 : decode method_3_code 32 = .ok (.istore 8, 2) := by decide +kernel
theorem d6_34 : decode method_3_code 34 = .ok (.goto 27, 3) := by decide +kernel
theorem d6_37 : decode method_3_code 37 = .ok (.lload 5, 2) := by decide +kernel
theorem d6_39 : decode method_3_code 39 = .ok (.aload_n 0, 1) := by decide +kernel
theorem d6_40 : decode method_3_code 40 = .ok (.iload 7, 2) := by decide +kernel
theorem d6_42 : decode method_3_code 42 = .ok (.iload_n 2, 1) := by decide +kernel
theorem d6_43 : decode method_3_code 43 = .ok (.isub, 1) := by decide +kernel
theorem d6_44 : decode method_3_code 44 = .ok (.laload, 1) := by decide +kernel
theorem d6_45 : decode method_3_code 45 = .ok (.lsub, 1) := by decide +kernel
theorem d6_46 : decode method_3_code 46 = .ok (.lload_n 3, 1) := by decide +kernel
theorem d6_47 : decode method_3_code 47 = .ok (.invokestatic 15, 3) := by decide +kernel
theorem d6_50 : decode method_3_code 50 = .ok (.lcmp, 1) := by decide +kernel
theorem d6_51 : decode method_3_code 51 = .ok (.ifCond .le 7, 3) := by decide +kernel
theorem d6_54 : decode method_3_code 54 = .ok (.iconst 1, 1) := by decide +kernel
theorem d6_55 : decode method_3_code 55 = .ok (.goto 4, 3) := by decide +kernel
theorem d6_58 : decode method_3_code 58 = .ok (.iconst 0, 1) := by decide +kernel
theorem d6_59 : decode method_3_code 59 = .ok (.istore 8, 2) := by decide +kernel
theorem d6_61 : decode method_3_code 61 = .ok (.iload 8, 2) := by decide +kernel
theorem d6_63 : decode method_3_code 63 = .ok (.ifCond .eq 16, 3) := by decide +kernel
theorem d6_66 : decode method_3_code 66 = .ok (.aload_n 0, 1) := by decide +kernel
theorem d6_67 : decode method_3_code 67 = .ok (.iload 7, 2) := by decide +kernel
theorem d6_69 : decode method_3_code 69 = .ok (.lload 5, 2) := by decide +kernel
theorem d6_71 : decode method_3_code 71 = .ok (.lastore, 1) := by decide +kernel
theorem d6_72 : decode method_3_code 72 = .ok (.aload_n 1, 1) := by decide +kernel
theorem d6_73 : decode method_3_code 73 = .ok (.iconst 0, 1) := by decide +kernel
theorem d6_74 : decode method_3_code 74 = .ok (.iload 7, 2) := by decide +kernel
theorem d6_76 : decode method_3_code 76 = .ok (.iconst 1, 1) := by decide +kernel
theorem d6_77 : decode method_3_code 77 = .ok (.iadd, 1) := by decide +kernel
theorem d6_78 : decode method_3_code 78 = .ok (.iastore, 1) := by decide +kernel
theorem d6_79 : decode method_3_code 79 = .ok (.iload 8, 2) := by decide +kernel
theorem d6_81 : decode method_3_code 81 = .ok (.ireturn, 1) := by decide +kernel
theorem d7_0 : decode prog_41_method_2_code 0 = .ok (.iload_n 1, 1) := by decide +kernel
theorem d7_1 : decode prog_41_method_2_code 1 = .ok (.ifCond .lt 67, 3) := by decide +kernel
theorem d7_4 : decode prog_41_method_2_code 4 = .ok (.aload_n 0, 1) := by decide +kernel
theorem d7_5 : decode prog_41_method_2_code 5 = .ok (.getfield 17, 3) := by decide +kernel
theorem d7_8 : decode prog_41_method_2_code 8 = .ok (.iload_n 1, 1) := by decide +kernel
theorem d7_9 : decode prog_41_method_2_code 9 = .ok (.i2l, 1) := by decide +kernel
theorem d7_10 : decode prog_41_method_2_code 10 = .ok (.lcmp, 1) := by decide +kernel
theorem d7_11 : decode prog_41_method_2_code 11 = .ok (.ifCond .lt 57, 3) := by decide +kernel
theorem d7_14 : decode prog_41_method_2_code 14 = .ok (.iload_n 1, 1) := by decide +kernel
theorem d7_15 : decode prog_41_method_2_code 15 = .ok (.ifCond .eq 9, 3) := by decide +kernel
theorem d7_18 : decode prog_41_method_2_code 18 = .ok (.lload_n 2, 1) := by decide +kernel
theorem d7_19 : decode prog_41_method_2_code 19 = .ok (.lconst 0, 1) := by decide +kernel
theorem d7_20 : decode prog_41_method_2_code 20 = .ok (.lcmp, 1) := by decide +kernel
theorem d7_21 : decode prog_41_method_2_code 21 = .ok (.ifCond .ne 5, 3) := by decide +kernel
theorem d7_24 : decode prog_41_method_2_code 24 = .ok (.iconst 0, 1) := by decide +kernel
theorem d7_25 : decode prog_41_method_2_code 25 = .ok (.ireturn, 1) := by decide +kernel
theorem d7_26 : decode prog_41_method_2_code 26 = .ok (.aload_n 0, 1) := by decide +kernel
theorem d7_27 : decode prog_41_method_2_code 27 = .ok (.getfield 7, 3) := by decide +kernel
theorem d7_30 : decode prog_41_method_2_code 30 = .ok (.aload_n 0, 1) := by decide +kernel
theorem d7_31 : decode prog_41_method_2_code 31 = .ok (.getfield 21, 3) := by decide +kernel
theorem d7_34 : decode prog_41_method_2_code 34 = .ok (.aload_n 0, 1) := by decide +kernel
theorem d7_35 : decode prog_41_method_2_code 35 = .ok (.getfield 24, 3) := by decide +kernel
theorem d7_38 : decode prog_41_method_2_code 38 = .ok (.iadd, 1) := by decide +kernel
theorem d7_39 : decode prog_41_method_2_code 39 = .ok (.iload_n 1, 1) := by decide +kernel
theorem d7_40 : decode prog_41_method_2_code 40 = .ok (.isub, 1) := by decide +kernel
theorem d7_41 : decode prog_41_method_2_code 41 = .ok (.aload_n 0, 1) := by decide +kernel
theorem d7_42 : decode prog_41_method_2_code 42 = .ok (.getfield 7, 3) := by decide +kernel
theorem d7_45 : decode prog_41_method_2_code 45 = .ok (.arraylength, 1) := by decide +kernel
theorem d7_46 : decode prog_41_method_2_code 46 = .ok (.irem, 1) := by decide +kernel
theorem d7_47 : decode prog_41_method_2_code 47 = .ok (.laload, 1) := by decide +kernel
theorem d7_48 : decode prog_41_method_2_code 48 = .ok (.lstore 6, 2) := by decide +kernel
theorem d7_50 : decode prog_41_method_2_code 50 = .ok (.lload 4, 2) := by decide +kernel
theorem d7_52 : decode prog_41_method_2_code 52 = .ok (.lload 6, 2) := by decide +kernel
theorem d7_54 : decode prog_41_method_2_code 54 = .ok (.lsub, 1) := by decide +kernel
theorem d7_55 : decode prog_41_method_2_code 55 = .ok (.getstatic 27, 3) := by decide +kernel
theorem d7_58 : decode prog_41_method_2_code 58 = .ok (.lload_n 2, 1) := by decide +kernel
theorem d7_59 : decode prog_41_method_2_code 59 = .ok (.invokevirtual 33, 3) := by decide +kernel
theorem d7_62 : decode prog_41_method_2_code 62 = .ok (.lcmp, 1) := by decide +kernel
theorem d7_63 : decode prog_41_method_2_code 63 = .ok (.ifCond .gt 5, 3) := by decide +kernel
theorem d7_66 : decode prog_41_method_2_code 66 = .ok (.iconst 0, 1) := by decide +kernel
theorem d7_67 : decode prog_41_method_2_code 67 = .ok (.ireturn, 1) := by decide +kernel
theorem d7_68 : decode prog_41_method_2_code 68 = .ok (.aload_n 0, 1) := by decide +kernel
theorem d7_69 : decode prog_41_method_2_code 69 = .ok (.dup, 1) := by decide +kernel
theorem d7_70 : decode prog_41_method_2_code 70 = .ok (.getfield 17, 3) := by decide +kernel
theorem d7_73 : decode prog_41_method_2_code 73 = .ok (.lconst 1, 1) := by decide +kernel
theorem d7_74 : decode prog_41_method_2_code 74 = .ok (.ladd, 1) := by decide +kernel
theorem d7_75 : decode prog_41_method_2_code 75 = .ok (.putfield 17, 3) := by decide +kernel
theorem d7_78 : decode prog_41_method_2_code 78 = .ok (.aload_n 0, 1) := by decide +kernel
theorem d7_79 : decode prog_41_method_2_code 79 = .ok (.lload 4, 2) := by decide +kernel
theorem d7_81 : decode prog_41_method_2_code 81 = .ok (.invokevirtual 37, 3) := by decide +kernel
theorem d7_84 : decode prog_41_method_2_code 84 = .ok (.iconst 1, 1) := by decide +kernel
theorem d7_85 : decode prog_41_method_2_code 85 = .ok (.ireturn, 1) := by decide +kernel
theorem d8_0 : decode prog_41_method_3_code 0 = .ok (.aload_n 0, 1) := by decide +kernel
theorem d8_1 : decode prog_41_method_3_code 1 = .ok (.getfield 13, 3) := by decide +kernel
theorem d8_4 : decode prog_41_method_3_code 4 = .ok (.ifCond .ne 4, 3) := by decide +kernel
theorem d8_7 : decode prog_41_method_3_code 7 = .ok (.return_, 1) := by decide +kernel
theorem d8_8 : decode prog_41_method_3_code 8 = .ok (.aload_n 0, 1) := by decide +kernel
theorem d8_9 : decode prog_41_method_3_code 9 = .ok (.getfield 24, 3) := by decide +kernel
theorem d8_12 : decode prog_41_method_3_code 12 = .ok (.aload_n 0, 1) := by decide +kernel
theorem d8_13 : decode prog_41_method_3_code 13 = .ok (.getfield 13, 3) := by decide +kernel
theorem d8_16 : decode prog_41_method_3_code 16 = .ok (.if_icmp .ge 70, 3) := by decide +kernel
theorem d8_19 : decode prog_41_method_3_code 19 = .ok (.aload_n 0, 1) := by decide +kernel
theorem d8_20 : decode prog_41_method_3_code 20 = .ok (.getfield 24, 3) := by decide +kernel
theorem d8_23 : decode prog_41_method_3_code 23 = .ok (.aload_n 0, 1) := by decide +kernel
theorem d8_24 : decode prog_41_method_3_code 24 = .ok (.getfield 7, 3) := by decide +kernel
theorem d8_27 : decode prog_41_method_3_code 27 = .ok (.arraylength, 1) := by decide +kernel
theorem d8_28 : decode prog_41_method_3_code 28 = .ok (.if_icmp .ne 38, 3) := by decide +kernel
theorem d8_31 : decode prog_41_method_3_code 31 = .ok (.aload_n 0, 1) := by decide +kernel
theorem d8_32 : decode prog_41_method_3_code 32 = .ok (.aload_n 0, 1) := by decide +kernel
theorem d8_33 : decode prog_41_method_3_code 33 = .ok (.getfield 7, 3) := by decide +kernel
theorem d8_36 : decode prog_41_method_3_code 36 = .ok (.aload_n 0, 1) := by decide +kernel
theorem d8_37 : decode prog_41_method_3_code 37 = .ok (.getfield 13, 3) := by decide +kernel
theorem d8_40 : decode prog_41_method_3_code 40 = .ok (.i2l, 1) := by decide +kernel
theorem d8_41 : decode prog_41_method_3_code 41 = .ok (.ldc2_w 41, 3) := by decide +kernel
theorem d8_44 : decode prog_41_method_3_code 44 = .ok (.ldc2_w 43, 3) := by decide +kernel
theorem d8_47 : decode prog_41_method_3_code 47 = .ok (.aload_n 0, 1) := by decide +kernel
theorem d8_48 : decode prog_41_method_3_code 48 = .ok (.getfield 24, 3) := by decide +kernel
theorem d8_51 : decode prog_41_method_3_code 51 = .ok (.i2l, 1) := by decide +kernel
theorem d8_52 : decode prog_41_method_3_code 52 = .ok (.lmul, 1) := by decide +kernel
theorem d8_53 : decode prog_41_method_3_code 53 = .ok (.invokestatic 45, 3) := by decide +kernel
theorem d8_56 : decode prog_41_method_3_code 56 = .ok (.invokestatic 51, 3) := by decide +kernel
theorem d8_59 : decode prog_41_method_3_code 59 = .ok (.l2i, 1) := by decide +kernel
theorem d8_60 : decode prog_41_method_3_code 60 = .ok (.invokestatic 54, 3) := by decide +kernel
theorem d8_63 : decode prog_41_method_3_code 63 = .ok (.putfield 7, 3) := by decide +kernel
theorem d8_66 : decode prog_41_method_3_code 66 = .ok (.aload_n 0, 1) := by decide +kernel
theorem d8_67 : decode prog_41_method_3_code 67 = .ok (.getfield 7, 3) := by decide +kernel
theorem d8_70 : decode prog_41_method_3_code 70 = .ok (.aload_n 0, 1) := by decide +kernel
theorem d8_71 : decode prog_41_method_3_code 71 = .ok (.dup, 1) := by decide +kernel
theorem d8_72 : decode prog_41_method_3_code 72 = .ok (.getfield 24, 3) := by decide +kernel
theorem d8_75 : decode prog_41_method_3_code 75 = .ok (.dup_x1, 1) := by decide +kernel
theorem d8_76 : decode prog_41_method_3_code 76 = .ok (.iconst 1, 1) := by decide +kernel
theorem d8_77 : decode prog_41_method_3_code 77 = .ok (.iadd, 1) := by decide +kernel
theorem d8_78 : decode prog_41_method_3_code 78 = .ok (.putfield 24, 3) := by decide +kernel
theorem d8_81 : decode prog_41_method_3_code 81 = .ok (.lload_n 1, 1) := by decide +kernel
theorem d8_82 : decode prog_41_method_3_code 82 = .ok (.lastore, 1) := by decide +kernel
theorem d8_83 : decode prog_41_method_3_code 83 = .ok (.goto 28, 3) := by decide +kernel
theorem d8_86 : decode prog_41_method_3_code 86 = .ok (.aload_n 0, 1) := by decide +kernel
theorem d8_87 : decode prog_41_method_3_code 87 = .ok (.getfield 7, 3) := by decide +kernel
theorem d8_90 : decode prog_41_method_3_code 90 = .ok (.aload_n 0, 1) := by decide +kernel
theorem d8_91 : decode prog_41_method_3_code 91 = .ok (.getfield 21, 3) := by decide +kernel
theorem d8_94 : decode prog_41_method_3_code 94 = .ok (.lload_n 1, 1) := by decide +kernel
theorem d8_95 : decode prog_41_method_3_code 95 = .ok (.lastore, 1) := by decide +kernel
theorem d8_96 : decode prog_41_method_3_code 96 = .ok (.aload_n 0, 1) := by decide +kernel
theorem d8_97 : decode prog_41_method_3_code 97 = .ok (.aload_n 0, 1) := by decide +kernel
theorem d8_98 : decode prog_41_method_3_code 98 = .ok (.getfield 21, 3) := by decide +kernel
theorem d8_101 : decode prog_41_method_3_code 101 = .ok (.iconst 1, 1) := by decide +kernel
theorem d8_102 : decode prog_41_method_3_code 102 = .ok (.iadd, 1) := by decide +kernel
theorem d8_103 : decode prog_41_method_3_code 103 = .ok (.aload_n 0, 1) := by decide +kernel
theorem d8_104 : decode prog_41_method_3_code 104 = .ok (.getfield 13, 3) := by decide +kernel
theorem d8_107 : decode prog_41_method_3_code 107 = .ok (.irem, 1) := by decide +kernel
theorem d8_108 : decode prog_41_method_3_code 108 = .ok (.putfield 21, 3) := by decide +kernel
theorem d8_111 : decode prog_41_method_3_code 111 = .ok (.return_, 1) := by decide +kernel
theorem d9_0 : decode jdk_29_method_66_code 0 = .ok (.lload_n 0, 1) := by decide +kernel
theorem d9_1 : decode jdk_29_method_66_code 1 = .ok (.lload_n 2, 1) := by decide +kernel
theorem d9_2 : decode jdk_29_method_66_code 2 = .ok (.lcmp, 1) := by decide +kernel
theorem d9_3 : decode jdk_29_method_66_code 3 = .ok (.ifCond .lt 7, 3) := by decide +kernel
theorem d9_6 : decode jdk_29_method_66_code 6 = .ok (.lload_n 0, 1) := by decide +kernel
theorem d9_7 : decode jdk_29_method_66_code 7 = .ok (.goto 4, 3) := by decide +kernel
theorem d9_10 : decode jdk_29_method_66_code 10 = .ok (.lload_n 2, 1) := by decide +kernel
theorem d9_11 : decode jdk_29_method_66_code 11 = .ok (.lreturn, 1) := by decide +kernel
theorem d10_0 : decode jdk_29_method_70_code 0 = .ok (.lload_n 0, 1) := by decide +kernel
theorem d10_1 : decode jdk_29_method_70_code 1 = .ok (.lload_n 2, 1) := by decide +kernel
theorem d10_2 : decode jdk_29_method_70_code 2 = .ok (.lcmp, 1) := by decide +kernel
theorem d10_3 : decode jdk_29_method_70_code 3 = .ok (.ifCond .gt 7, 3) := by decide +kernel
theorem d10_6 : decode jdk_29_method_70_code 6 = .ok (.lload_n 0, 1) := by decide +kernel
theorem d10_7 : decode jdk_29_method_70_code 7 = .ok (.goto 4, 3) := by decide +kernel
theorem d10_10 : decode jdk_29_method_70_code 10 = .ok (.lload_n 2, 1) := by decide +kernel
theorem d10_11 : decode jdk_29_method_70_code 11 = .ok (.lreturn, 1) := by decide +kernel
theorem d11_0 : decode jdk_65_method_124_code 0 = .ok (.iload_n 1, 1) := by decide +kernel
theorem d11_1 : decode jdk_65_method_124_code 1 = .ok (.aload_n 0, 1) := by decide +kernel
theorem d11_2 : decode jdk_65_method_124_code 2 = .ok (.arraylength, 1) := by decide +kernel
theorem d11_3 : decode jdk_65_method_124_code 3 = .ok (.if_icmp .ne 11, 3) := by decide +kernel
theorem d11_14 : decode jdk_65_method_124_code 14 = .ok (.iload_n 1, 1) := by decide +kernel
theorem d11_15 : decode jdk_65_method_124_code 15 = .ok (.newarray .long, 2) := by decide +kernel
theorem d11_17 : decode jdk_65_method_124_code 17 = .ok (.astore_n 2, 1) := by decide +kernel
theorem d11_18 : decode jdk_65_method_124_code 18 = .ok (.aload_n 0, 1) := by decide +kernel
theorem d11_19 : decode jdk_65_method_124_code 19 = .ok (.iconst 0, 1) := by decide +kernel
theorem d11_20 : decode jdk_65_method_124_code 20 = .ok (.aload_n 2, 1) := by decide +kernel
theorem d11_21 : decode jdk_65_method_124_code 21 = .ok (.iconst 0, 1) := by decide +kernel
theorem d11_22 : decode jdk_65_method_124_code 22 = .ok (.aload_n 0, 1) := by decide +kernel
theorem d11_23 : decode jdk_65_method_124_code 23 = .ok (.arraylength, 1) := by decide +kernel
theorem d11_24 : decode jdk_65_method_124_code 24 = .ok (.iload_n 1, 1) := by decide +kernel
theorem d11_25 : decode jdk_65_method_124_code 25 = .ok (.invokestatic 304, 3) := by decide +kernel
theorem d11_28 : decode jdk_65_method_124_code 28 = .ok (.invokestatic 150, 3) := by decide +kernel
theorem d11_31 : decode jdk_65_method_124_code 31 = .ok (.aload_n 2, 1) := by decide +kernel
theorem d11_32 : decode jdk_65_method_124_code 32 = .ok (.areturn, 1) := by decide +kernel
theorem d12_0 : decode jdk_29_method_69_code 0 = .ok (.iload_n 0, 1) := by decide +kernel
theorem d12_1 : decode jdk_29_method_69_code 1 = .ok (.iload_n 1, 1) := by decide +kernel
theorem d12_2 : decode jdk_29_method_69_code 2 = .ok (.if_icmp .gt 7, 3) := by decide +kernel
theorem d12_5 : decode jdk_29_method_69_code 5 = .ok (.iload_n 0, 1) := by decide +kernel
theorem d12_6 : decode jdk_29_method_69_code 6 = .ok (.goto 4, 3) := by decide +kernel
theorem d12_9 : decode jdk_29_method_69_code 9 = .ok (.iload_n 1, 1) := by decide +kernel
theorem d12_10 : decode jdk_29_method_69_code 10 = .ok (.ireturn, 1) := by decide +kernel
theorem d13_0 : decode method_2_code 0 = .ok (.lload_n 0, 1) := by decide +kernel
theorem d13_1 : decode method_2_code 1 = .ok (.ldc2_w 7, 3) := by decide +kernel
theorem d13_4 : decode method_2_code 4 = .ok (.lcmp, 1) := by decide +kernel
theorem d13_5 : decode method_2_code 5 = .ok (.ifCond .le 9, 3) := by decide +kernel
theorem d13_8 : decode method_2_code 8 = .ok (.ldc2_w 11, 3) := by decide +kernel
theorem d13_11 : decode method_2_code 11 = .ok (.goto 8, 3) := by decide +kernel
theorem d13_14 : decode method_2_code 14 = .ok (.lload_n 0, 1) := by decide +kernel
theorem d13_15 : decode method_2_code 15 = .ok (.ldc2_w 13, 3) := by decide +kernel
theorem d13_18 : decode method_2_code 18 = .ok (.lmul, 1) := by decide +kernel
theorem d13_19 : decode method_2_code 19 = .ok (.lreturn, 1) := by decide +kernel
theorem d14_0 : decode jdk_2799_method_7_code 0 = .ok (.aload_n 0, 1) := by decide +kernel
theorem d14_1 : decode jdk_2799_method_7_code 1 = .ok (.getfield 44, 3) := by decide +kernel
theorem d14_4 : decode jdk_2799_method_7_code 4 = .ok (.dup2, 1) := by decide +kernel
theorem d14_5 : decode jdk_2799_method_7_code 5 = .ok (.lstore_n 3, 1) := by decide +kernel
theorem d14_6 : decode jdk_2799_method_7_code 6 = .ok (.lconst 1, 1) := by decide +kernel
theorem d14_7 : decode jdk_2799_method_7_code 7 = .ok (.lcmp, 1) := by decide +kernel
theorem d14_8 : decode jdk_2799_method_7_code 8 = .ok (.ifCond .ne 5, 3) := by decide +kernel
theorem d14_13 : decode jdk_2799_method_7_code 13 = .ok (.lload_n 1, 1) := by decide +kernel
theorem d14_14 : decode jdk_2799_method_7_code 14 = .ok (.aload_n 0, 1) := by decide +kernel
theorem d14_15 : decode jdk_2799_method_7_code 15 = .ok (.getfield 52, 3) := by decide +kernel
theorem d14_18 : decode jdk_2799_method_7_code 18 = .ok (.dup2, 1) := by decide +kernel
theorem d14_19 : decode jdk_2799_method_7_code 19 = .ok (.lstore 5, 2) := by decide +kernel
theorem d14_21 : decode jdk_2799_method_7_code 21 = .ok (.lcmp, 1) := by decide +kernel
theorem d14_22 : decode jdk_2799_method_7_code 22 = .ok (.ifCond .le 7, 3) := by decide +kernel
theorem d14_25 : decode jdk_2799_method_7_code 25 = .ok (.ldc2_w 50, 3) := by decide +kernel
theorem d14_28 : decode jdk_2799_method_7_code 28 = .ok (.lreturn, 1) := by decide +kernel
theorem d14_29 : decode jdk_2799_method_7_code 29 = .ok (.lload_n 1, 1) := by decide +kernel
theorem d14_30 : decode jdk_2799_method_7_code 30 = .ok (.lload 5, 2) := by decide +kernel
theorem d14_32 : decode jdk_2799_method_7_code 32 = .ok (.lneg, 1) := by decide +kernel
theorem d14_33 : decode jdk_2799_method_7_code 33 = .ok (.lcmp, 1) := by decide +kernel
theorem d14_34 : decode jdk_2799_method_7_code 34 = .ok (.ifCond .ge 7, 3) := by decide +kernel
theorem d14_41 : decode jdk_2799_method_7_code 41 = .ok (.lload_n 1, 1) := by decide +kernel
theorem d14_42 : decode jdk_2799_method_7_code 42 = .ok (.lload_n 3, 1) := by decide +kernel
theorem d14_43 : decode jdk_2799_method_7_code 43 = .ok (.lmul, 1) := by decide +kernel
theorem d14_44 : decode jdk_2799_method_7_code 44 = .ok (.lreturn, 1) := by decide +kernel
theorem own_pn0 : plainName "com/example/ferrybell/ferrybell/runtime/RestartsTryRestartPinLaw" = true := by first | (simp [plainName, overriddenIn]; done) | decide +kernel
theorem own_pn1 : plainName "java/util/concurrent/TimeUnit" = true := by first | (simp [plainName, overriddenIn]; done) | decide +kernel
theorem own_pn2 : plainName "java/util/Arrays" = true := by first | (simp [plainName, overriddenIn]; done) | decide +kernel
theorem own_pn3 : plainName "com/example/ferrybell/ferrybell/runtime/Restarts" = true := by first | (simp [plainName, overriddenIn]; done) | decide +kernel
theorem own_pd0 : parseMethodDescriptor "(J)J" = some ⟨[.long], some .long⟩ := by decide +kernel
theorem own_pd1 : parseMethodDescriptor "(II)I" = some ⟨[.int, .int], some .int⟩ := by decide +kernel
theorem own_pd2 : parseMethodDescriptor "(JJ)J" = some ⟨[.long, .long], some .long⟩ := by decide +kernel
theorem own_pd3 : parseMethodDescriptor "([JI)[J" = some ⟨[(.array .long), .int], some (.array .long)⟩ := by decide +kernel
theorem own_pd4 : parseMethodDescriptor "(J)V" = some ⟨[.long], none⟩ := by decide +kernel
theorem own_pd5 : parseMethodDescriptor "(III)I" = some ⟨[.int, .int, .int], some .int⟩ := by decide +kernel
theorem own_pd6 : parseMethodDescriptor "(IIJ)J" = some ⟨[.int, .int, .long], some .long⟩ := by decide +kernel
theorem own_pd7 : parseMethodDescriptor "([J[IIJJ)Z" = some ⟨[(.array .long), (.array .int), .int, .long, .long], some .boolean⟩ := by decide +kernel
theorem own_pd8 : parseMethodDescriptor "(IJJ)Z" = some ⟨[.int, .long, .long], some .boolean⟩ := by decide +kernel
theorem own_pd9 : parseMethodDescriptor "(I)V" = some ⟨[.int], none⟩ := by decide +kernel
theorem own_pd10 : parseMethodDescriptor "(Lcom/example/ferrybell/ferrybell/runtime/Restarts;[J[IIIIJJ)Z" = some ⟨[(.object "com/example/ferrybell/ferrybell/runtime/Restarts"), (.array .long), (.array .int), .int, .int, .int, .long, .long], some .boolean⟩ := by decide +kernel
def own_c32 (ts : List Int64) : Int32 := Int32.ofNat ts.length
def own_cn (ts : List Int64) : Int64 := Int64.ofNat ts.length
def own_szn (k : Int32) (n : Nat) : Int32 := if Int32.ofNat n < k then Int32.ofNat n else k
def own_odn (k : Int32) (n : Nat) : Int32 := if k = 0 then 0 else if Int32.ofNat n < k then 0 else Int32.ofNat n % k
def own_lnn (k : Int32) (n : Nat) : Int32 := if n = 0 then 0 else k
def own_sz (k : Int32) (ts : List Int64) : Int32 := own_szn k ts.length
def own_od (k : Int32) (ts : List Int64) : Int32 := own_odn k ts.length
def own_ln (k : Int32) (ts : List Int64) : Int32 := own_lnn k ts.length
def own_rev (k : Int32) : List Int64 → List Value
  | [] => []
  | t :: r => (if r.length = 0 then List.replicate k.toNatClampNeg (.long (0 : Int64)) else own_rev k r).set (if k = 0 then 0 else (Int32.ofNat r.length % k).toNatClampNeg) (.long t)
def own_vs (k : Int32) (ts : List Int64) : List Value := own_rev k ts.reverse
def own_hist (ts : List Int64) : List Value := ts.map Value.long ++ List.replicate (5 - ts.length) (.long (0 : Int64))
def own_nth (ts : List Int64) (j : Int32) : Int64 := ts.getD j.toNatClampNeg 0
def own_nan (w : Int64) : Int64 := if (9223372036854 : Int64) < w then (9223372036854775807 : Int64) else (w * (1000000 : Int64))
def own_ok (ts : List Int64) (m : Int32) (w t : Int64) : Prop := m < (0 : Int32) ∨ own_c32 ts < m ∨ (¬ (m = (0 : Int32)) ∧ ¬ (w = (0 : Int64)) ∧ own_nan w < (t - own_nth ts (own_c32 ts - m)))
def own_res (b : Int32) (ok : Prop) (ts : List Int64) (t : Int64) (tq : List Int64) : Prop := (b = (1 : Int32) ∧ ok ∧ tq = ts ++ [t]) ∨ (b = (0 : Int32) ∧ ¬ ok ∧ tq = ts)
theorem own_same {b b' : Int32} {ok : Prop} {ts tq tr : List Int64} {t : Int64} (h : own_res b ok ts t tq) (h' : own_res b' ok ts t tr) : b' = b ∧ tr = tq := by
  rcases h with ⟨e1, o1, e2⟩ | ⟨e1, o1, e2⟩ <;> rcases h' with ⟨f1, p1, f2⟩ | ⟨f1, p1, f2⟩
  · exact ⟨f1.trans e1.symm, f2.trans e2.symm⟩
  · exact absurd o1 p1
  · exact absurd p1 o1
  · exact ⟨f1.trans e1.symm, f2.trans e2.symm⟩
theorem own_res_len {b : Int32} {ok : Prop} {ts tq : List Int64} {t : Int64} {n : Nat} (h : own_res b ok ts t tq) (hl : ts.length ≤ n) : tq.length ≤ n + 1 := by
  rcases h with ⟨-, -, rfl⟩ | ⟨-, -, rfl⟩
  · simp; exact hl
  · omega
def own_k4 (k : Int32) : Prop := k = (0 : Int32) ∨ k = (1 : Int32) ∨ k = (2 : Int32) ∨ k = (3 : Int32)
theorem own_k4i {k : Int32} (h : own_k4 k) : 0 ≤ k.toInt ∧ k.toInt ≤ 3 := by rcases h with rfl | rfl | rfl | rfl <;> decide
theorem own_k4f {k : Int32} (h : own_k4 k) : ∃ i : Fin 4, k = Int32.ofNat i.val := by
  rcases h with rfl | rfl | rfl | rfl
  · exact ⟨0, rfl⟩
  · exact ⟨1, rfl⟩
  · exact ⟨2, rfl⟩
  · exact ⟨3, rfl⟩
def Q_own_nanos (Z : State) (q1 : Int64) (h0 : Heap) (n0 : Nat) (v : Option Value) (h : Heap) (L : List Loc) : Prop := v = some (.long (own_nan q1)) ∧ Fr n0 L ∧ h = h0
theorem ef_own_nanos (m : MethodId) (x0 : Int64) : entryFrame m #[(.long x0)] 2 = mkF m 0 #[.val (.long x0), .second] [] := by first | (simp [entryFrame, mkF, argsToLocals, Value.category]; done) | rfl
set_option maxRecDepth 65536 in
set_option maxHeartbeats 40000000 in
theorem own_nanos (l : Launch) (Z : State) (a0 : Array Value) (hw : ∀ d ∈ tables_1, d.before a0 Z = true) (ws : List Jvm.Cond) (q1 : Int64) (h0 : Heap) (n0 : Nat) (Z0 : n0 ≤ h0.size) :
    MetFree l (⟨"com/example/ferrybell/ferrybell/runtime/RestartsTryRestartPinLaw", "nanos", "(J)J"⟩ : MethodName) (head1 (Jvm.Cond.code (⟨"com/example/ferrybell/ferrybell/runtime/RestartsTryRestartPinLaw", "nanos", "(J)J"⟩ : MethodName) method_2_code 2 (some .long) :: ws) ({ frames := 0, cells := 0, slots := 0, locals := 0 } : Room)) (fun a U => a = #[(.long q1)] ∧ Z.Warmed39 U.vm ∧ U.heap = h0) (fun _ _ _ _ _ => True) (fun _ U o U' => ∃ v L, o = .returned v ∧ Q_own_nanos Z q1 h0 n0 v U'.heap L ∧ FrameEnd U o U' L ({ frames := 0, cells := 0, slots := 0, locals := 0 } : Room).cells ({ frames := 0, cells := 0, slots := 0, locals := 0 } : Room).slots) := by
  refine MetFree.of_bodySF (plainFor_of_name own_pn0) hisR ?_
  intro p e s m args below meth c s₁ Bd hml0 hP hK
  obtain ⟨rfl, hZ, hh⟩ := hP
  have hx := Bd.exec
  have hby := Bd.bytes
  have hml : c.maxLocals = 2 := hml0
  have hown : s.vm.findClass "com/example/ferrybell/ferrybell/runtime/RestartsTryRestartPinLaw" = some m.cls := findClass_of_methodNamed Bd.named
  have hnm := (name_of_methodNamed Bd.named Bd.method).1
  have X0 : Stand p l e ({ frames := 0, cells := 0, slots := 0, locals := 0 } : Room) s m #[(.long q1)] below meth c s₁ [] 0 0 := Stand.of_body Bd
  have e0 : s₁.heap = h0 := by rw [← hh, Bd.state]; rfl
  have N0 := Fr.nil n0
  show own_Fin p.tables e below _ (s₁.setTop (entryFrame m #[(.long q1)] 2))
  refine own_go (fun _ k => castTop (ef_own_nanos m q1) k) ?_
  show own_Fin p.tables e below _ (s₁.setTop (mkF m 0 #[.val (.long q1), .second] []))
  refine own_go (fun _ k => XS.lloadN X0.here hx rfl (hb hby d13_0) rfl k) ?_
  show own_Fin p.tables e below _ (s₁.setTop (mkF m 1 #[.val (.long q1), .second] [(.long q1)]))
  refine own_go (X0.ldc2Long hx hown (mvT hZ (hw _ (List.mem_of_getElem? (i := 68) rfl))) (g := (mkF m 1 #[.val (.long q1), .second] [(.long q1)])) rfl (hb hby d13_1)) ?_
  show own_Fin p.tables e below _ (s₁.setTop (mkF m 4 #[.val (.long q1), .second] [(.long (9223372036854 : Int64)), (.long q1)]))
  refine own_go (fun _ k => XS.lcmp X0.here hx rfl (hb hby d13_4) rfl k) ?_
  show own_Fin p.tables e below _ (s₁.setTop (mkF m 5 #[.val (.long q1), .second] [(.int (lcmpW q1 (9223372036854 : Int64)))]))
  by_cases hc5 : (9223372036854 : Int64) < q1
  · refine own_go (fun _ k => XS.ifNo X0.here hx rfl (hb hby d13_5) rfl ((if0 _ _).trans (tlt ((lw_gt _ _).mpr hc5)).2.2.2) k) ?_
    show own_Fin p.tables e below _ (s₁.setTop (mkF m 8 #[.val (.long q1), .second] []))
    refine own_go (X0.ldc2Long hx hown (mvT hZ (hw _ (List.mem_of_getElem? (i := 81) rfl))) (g := (mkF m 8 #[.val (.long q1), .second] [])) rfl (hb hby d13_8)) ?_
    show own_Fin p.tables e below _ (s₁.setTop (mkF m 11 #[.val (.long q1), .second] [(.long (9223372036854775807 : Int64))]))
    refine own_go (fun _ k => XS.goto X0.here hx rfl (pc0 := 11) (pc' := 19) rfl (hb hby d13_11) (by decide) (by decide) k) ?_
    show own_Fin p.tables e below _ (s₁.setTop (mkF m 19 #[.val (.long q1), .second] [(.long (9223372036854775807 : Int64))]))
    obtain ⟨fs, hr, hrun, hended, hW, hsame⟩ := X0.leave (v := some (.long (9223372036854775807 : Int64))) (fun h => by rw [Bd.returns] at h; cases h)
    refine ⟨_, _, ?_, hrun, hended, _, _, rfl, ?_, ⟨_, rfl⟩, hW, hsame.mono (by decide) (by decide)⟩
    · jvm_step X0.here [X0.here.top, hx, (hb hby d13_19), X0.method', Bd.returns, narrow]
      first | (intro acts; rw [hr _ acts rfl rfl rfl]) | rw [hr _ _ rfl rfl rfl]
      exact Steps.refl _
    · show Q_own_nanos Z q1 h0 n0 _ s₁.heap _
      rw [e0]
      exact ⟨(by simp [own_nan, hc5]), N0, rfl⟩
  · refine own_go (fun _ k => XS.ifYes X0.here hx rfl (pc0 := 5) (pc' := 14) rfl (hb hby d13_5) rfl ((if0 _ _).trans (flt (fun q => hc5 ((lw_gt _ _).mp q))).2.2.2) (by decide) (by decide) k) ?_
    show own_Fin p.tables e below _ (s₁.setTop (mkF m 14 #[.val (.long q1), .second] []))
    refine own_go (fun _ k => XS.lloadN X0.here hx rfl (hb hby d13_14) rfl k) ?_
    show own_Fin p.tables e below _ (s₁.setTop (mkF m 15 #[.val (.long q1), .second] [(.long q1)]))
    refine own_go (X0.ldc2Long hx hown (mvT hZ (hw _ (List.mem_of_getElem? (i := 69) rfl))) (g := (mkF m 15 #[.val (.long q1), .second] [(.long q1)])) rfl (hb hby d13_15)) ?_
    show own_Fin p.tables e below _ (s₁.setTop (mkF m 18 #[.val (.long q1), .second] [(.long (1000000 : Int64)), (.long q1)]))
    refine own_go (fun _ k => XS.lmul X0.here hx rfl (hb hby d13_18) rfl k) ?_
    show own_Fin p.tables e below _ (s₁.setTop (mkF m 19 #[.val (.long q1), .second] [(.long (q1 * (1000000 : Int64)))]))
    obtain ⟨fs, hr, hrun, hended, hW, hsame⟩ := X0.leave (v := some (.long (q1 * (1000000 : Int64)))) (fun h => by rw [Bd.returns] at h; cases h)
    refine ⟨_, _, ?_, hrun, hended, _, _, rfl, ?_, ⟨_, rfl⟩, hW, hsame.mono (by decide) (by decide)⟩
    · jvm_step X0.here [X0.here.top, hx, (hb hby d13_19), X0.method', Bd.returns, narrow]
      first | (intro acts; rw [hr _ acts rfl rfl rfl]) | rw [hr _ _ rfl rfl rfl]
      exact Steps.refl _
    · show Q_own_nanos Z q1 h0 n0 _ s₁.heap _
      rw [e0]
      exact ⟨(by simp [own_nan, hc5]), N0, rfl⟩
theorem own_nneg {q : Int64} (h : 0 ≤ q.toInt) : ¬ (q < (-(9223372036854 : Int64))) := by rw [Int64.lt_iff_toInt_lt, show (-(9223372036854 : Int64)).toInt = -9223372036854 from by decide]; omega
def Q_own_toNanos (Z : State) (a1 : Addr) (q2 : Int64) (h0 : Heap) (n0 : Nat) (v : Option Value) (h : Heap) (L : List Loc) : Prop := v = some (.long (own_nan q2)) ∧ Fr n0 L ∧ h = h0
theorem ef_own_toNanos (m : MethodId) (x0 : Addr) (x1 : Int64) : entryFrame m #[(.ref x0), (.long x1)] 7 = mkF m 0 #[.val (.ref x0), .val (.long x1), .second, .unset, .unset, .unset, .unset] [] := by first | (simp [entryFrame, mkF, argsToLocals, Value.category]; done) | rfl
set_option maxRecDepth 65536 in
set_option maxHeartbeats 40000000 in
theorem own_toNanos (l : Launch) (Z : State) (a0 : Array Value) (hw : ∀ d ∈ tables_1, d.before a0 Z = true) (ws : List Jvm.Cond) (a1 : Addr) (q2 : Int64) (h0 : Heap) (n0 : Nat) (Z0 : n0 ≤ h0.size) (Fs : Fld Z h0 a1 "java/util/concurrent/TimeUnit" "scale" "J" (.long (1000000 : Int64))) (Fm : Fld Z h0 a1 "java/util/concurrent/TimeUnit" "maxNanos" "J" (.long (9223372036854 : Int64))) (hq : 0 ≤ q2.toInt) :
    MetFree l (⟨"java/util/concurrent/TimeUnit", "toNanos", "(J)J"⟩ : MethodName) (head1 (Jvm.Cond.code (⟨"java/util/concurrent/TimeUnit", "toNanos", "(J)J"⟩ : MethodName) jdk_2799_method_7_code 7 (some .long) :: ws) ({ frames := 0, cells := 0, slots := 0, locals := 0 } : Room)) (fun a U => a = #[(.ref a1), (.long q2)] ∧ Z.Warmed39 U.vm ∧ U.heap = h0) (fun _ _ _ _ _ => True) (fun _ U o U' => ∃ v L, o = .returned v ∧ Q_own_toNanos Z a1 q2 h0 n0 v U'.heap L ∧ FrameEnd U o U' L ({ frames := 0, cells := 0, slots := 0, locals := 0 } : Room).cells ({ frames := 0, cells := 0, slots := 0, locals := 0 } : Room).slots) := by
  refine MetFree.of_bodySF (plainFor_of_name own_pn1) hisR ?_
  intro p e s m args below meth c s₁ Bd hml0 hP hK
  obtain ⟨rfl, hZ, hh⟩ := hP
  have hx := Bd.exec
  have hby := Bd.bytes
  have hml : c.maxLocals = 7 := hml0
  have hown : s.vm.findClass "java/util/concurrent/TimeUnit" = some m.cls := findClass_of_methodNamed Bd.named
  have hnm := (name_of_methodNamed Bd.named Bd.method).1
  have X0 : Stand p l e ({ frames := 0, cells := 0, slots := 0, locals := 0 } : Room) s m #[(.ref a1), (.long q2)] below meth c s₁ [] 0 0 := Stand.of_body Bd
  have e0 : s₁.heap = h0 := by rw [← hh, Bd.state]; rfl
  have N0 := Fr.nil n0
  show own_Fin p.tables e below _ (s₁.setTop (entryFrame m #[(.ref a1), (.long q2)] 7))
  refine own_go (fun _ k => castTop (ef_own_toNanos m a1 q2) k) ?_
  show own_Fin p.tables e below _ (s₁.setTop (mkF m 0 #[.val (.ref a1), .val (.long q2), .second, .unset, .unset, .unset, .unset] []))
  refine own_go (fun _ k => XS.aloadN X0.here hx rfl (hb hby d14_0) rfl rfl k) ?_
  show own_Fin p.tables e below _ (s₁.setTop (mkF m 1 #[.val (.ref a1), .val (.long q2), .second, .unset, .unset, .unset, .unset] [(.ref a1)]))
  obtain ⟨T1, X1, e1, st1⟩ := getF X0 hx hZ hown (host := "") (Or.inl (hw _ (List.mem_of_getElem? (i := 77) rfl))) Via.refl e0 Fs (g := (mkF m 1 #[.val (.ref a1), .val (.long q2), .second, .unset, .unset, .unset, .unset] [(.ref a1)])) rfl rfl (hb hby d14_1)
  refine own_go st1 ?_
  show own_Fin p.tables e below _ (T1.setTop (mkF m 4 #[.val (.ref a1), .val (.long q2), .second, .unset, .unset, .unset, .unset] [(.long (1000000 : Int64))]))
  refine own_go (fun _ k => Jvm.Free.XT.dup2L X1.here hx rfl (hb hby d14_4) rfl k) ?_
  show own_Fin p.tables e below _ (T1.setTop (mkF m 5 #[.val (.ref a1), .val (.long q2), .second, .unset, .unset, .unset, .unset] [(.long (1000000 : Int64)), (.long (1000000 : Int64))]))
  refine own_go (fun _ k => XS.lstoreN X1.here hx rfl (hb hby d14_5) rfl (l' := #[.val (.ref a1), .val (.long q2), .second, .val (.long (1000000 : Int64)), .second, .unset, .unset]) rfl k) ?_
  show own_Fin p.tables e below _ (T1.setTop (mkF m 6 #[.val (.ref a1), .val (.long q2), .second, .val (.long (1000000 : Int64)), .second, .unset, .unset] [(.long (1000000 : Int64))]))
  refine own_go (fun _ k => XS.lconst X1.here hx rfl (hb hby d14_6) k) ?_
  show own_Fin p.tables e below _ (T1.setTop (mkF m 7 #[.val (.ref a1), .val (.long q2), .second, .val (.long (1000000 : Int64)), .second, .unset, .unset] [(.long (1 : Int64)), (.long (1000000 : Int64))]))
  refine own_go (fun _ k => XS.lcmp X1.here hx rfl (hb hby d14_7) rfl k) ?_
  show own_Fin p.tables e below _ (T1.setTop (mkF m 8 #[.val (.ref a1), .val (.long q2), .second, .val (.long (1000000 : Int64)), .second, .unset, .unset] [(.int (lcmpW (1000000 : Int64) (1 : Int64)))]))
  refine own_go (fun _ k => XS.ifYes X1.here hx rfl (pc0 := 8) (pc' := 13) rfl (hb hby d14_8) rfl ((if0 _ _).trans (feq (fun q => (by decide : ¬ ((1000000 : Int64) = (1 : Int64))) ((lw_eq _ _).mp q))).2) (by decide) (by decide) k) ?_
  show own_Fin p.tables e below _ (T1.setTop (mkF m 13 #[.val (.ref a1), .val (.long q2), .second, .val (.long (1000000 : Int64)), .second, .unset, .unset] []))
  refine own_go (fun _ k => XS.lloadN X1.here hx rfl (hb hby d14_13) rfl k) ?_
  show own_Fin p.tables e below _ (T1.setTop (mkF m 14 #[.val (.ref a1), .val (.long q2), .second, .val (.long (1000000 : Int64)), .second, .unset, .unset] [(.long q2)]))
  refine own_go (fun _ k => XS.aloadN X1.here hx rfl (hb hby d14_14) rfl rfl k) ?_
  show own_Fin p.tables e below _ (T1.setTop (mkF m 15 #[.val (.ref a1), .val (.long q2), .second, .val (.long (1000000 : Int64)), .second, .unset, .unset] [(.ref a1), (.long q2)]))
  obtain ⟨T2, X2, e2, st2⟩ := getF X1 hx hZ hown (host := "") (Or.inl (hw _ (List.mem_of_getElem? (i := 79) rfl))) Via.refl e1 Fm (g := (mkF m 15 #[.val (.ref a1), .val (.long q2), .second, .val (.long (1000000 : Int64)), .second, .unset, .unset] [(.ref a1), (.long q2)])) rfl rfl (hb hby d14_15)
  refine own_go st2 ?_
  show own_Fin p.tables e below _ (T2.setTop (mkF m 18 #[.val (.ref a1), .val (.long q2), .second, .val (.long (1000000 : Int64)), .second, .unset, .unset] [(.long (9223372036854 : Int64)), (.long q2)]))
  refine own_go (fun _ k => Jvm.Free.XT.dup2L X2.here hx rfl (hb hby d14_18) rfl k) ?_
  show own_Fin p.tables e below _ (T2.setTop (mkF m 19 #[.val (.ref a1), .val (.long q2), .second, .val (.long (1000000 : Int64)), .second, .unset, .unset] [(.long (9223372036854 : Int64)), (.long (9223372036854 : Int64)), (.long q2)]))
  refine own_go (fun _ k => XS.lstore X2.here hx rfl (hb hby d14_19) rfl (l' := #[.val (.ref a1), .val (.long q2), .second, .val (.long (1000000 : Int64)), .second, .val (.long (9223372036854 : Int64)), .second]) rfl k) ?_
  show own_Fin p.tables e below _ (T2.setTop (mkF m 21 #[.val (.ref a1), .val (.long q2), .second, .val (.long (1000000 : Int64)), .second, .val (.long (9223372036854 : Int64)), .second] [(.long (9223372036854 : Int64)), (.long q2)]))
  refine own_go (fun _ k => XS.lcmp X2.here hx rfl (hb hby d14_21) rfl k) ?_
  show own_Fin p.tables e below _ (T2.setTop (mkF m 22 #[.val (.ref a1), .val (.long q2), .second, .val (.long (1000000 : Int64)), .second, .val (.long (9223372036854 : Int64)), .second] [(.int (lcmpW q2 (9223372036854 : Int64)))]))
  by_cases hc22 : (9223372036854 : Int64) < q2
  · refine own_go (fun _ k => XS.ifNo X2.here hx rfl (hb hby d14_22) rfl ((if0 _ _).trans (tlt ((lw_gt _ _).mpr hc22)).2.2.2) k) ?_
    show own_Fin p.tables e below _ (T2.setTop (mkF m 25 #[.val (.ref a1), .val (.long q2), .second, .val (.long (1000000 : Int64)), .second, .val (.long (9223372036854 : Int64)), .second] []))
    refine own_go (X2.ldc2Long hx hown (mvT hZ (hw _ (List.mem_of_getElem? (i := 82) rfl))) (g := (mkF m 25 #[.val (.ref a1), .val (.long q2), .second, .val (.long (1000000 : Int64)), .second, .val (.long (9223372036854 : Int64)), .second] [])) rfl (hb hby d14_25)) ?_
    show own_Fin p.tables e below _ (T2.setTop (mkF m 28 #[.val (.ref a1), .val (.long q2), .second, .val (.long (1000000 : Int64)), .second, .val (.long (9223372036854 : Int64)), .second] [(.long (9223372036854775807 : Int64))]))
    obtain ⟨fs, hr, hrun, hended, hW, hsame⟩ := X2.leave (v := some (.long (9223372036854775807 : Int64))) (fun h => by rw [Bd.returns] at h; cases h)
    refine ⟨_, _, ?_, hrun, hended, _, _, rfl, ?_, ⟨_, rfl⟩, hW, hsame.mono (by decide) (by decide)⟩
    · jvm_step X2.here [X2.here.top, hx, (hb hby d14_28), X2.method', Bd.returns, narrow]
      first | (intro acts; rw [hr _ acts rfl rfl rfl]) | rw [hr _ _ rfl rfl rfl]
      exact Steps.refl _
    · show Q_own_toNanos Z a1 q2 h0 n0 _ T2.heap _
      rw [e2]
      exact ⟨(by simp [own_nan, hc22]), N0, rfl⟩
  · refine own_go (fun _ k => XS.ifYes X2.here hx rfl (pc0 := 22) (pc' := 29) rfl (hb hby d14_22) rfl ((if0 _ _).trans (flt (fun q => hc22 ((lw_gt _ _).mp q))).2.2.2) (by decide) (by decide) k) ?_
    show own_Fin p.tables e below _ (T2.setTop (mkF m 29 #[.val (.ref a1), .val (.long q2), .second, .val (.long (1000000 : Int64)), .second, .val (.long (9223372036854 : Int64)), .second] []))
    refine own_go (fun _ k => XS.lloadN X2.here hx rfl (hb hby d14_29) rfl k) ?_
    show own_Fin p.tables e below _ (T2.setTop (mkF m 30 #[.val (.ref a1), .val (.long q2), .second, .val (.long (1000000 : Int64)), .second, .val (.long (9223372036854 : Int64)), .second] [(.long q2)]))
    refine own_go (fun _ k => XS.lload X2.here hx rfl (hb hby d14_30) rfl k) ?_
    show own_Fin p.tables e below _ (T2.setTop (mkF m 32 #[.val (.ref a1), .val (.long q2), .second, .val (.long (1000000 : Int64)), .second, .val (.long (9223372036854 : Int64)), .second] [(.long (9223372036854 : Int64)), (.long q2)]))
    refine own_go (fun _ k => XS.lneg X2.here hx rfl (hb hby d14_32) rfl k) ?_
    show own_Fin p.tables e below _ (T2.setTop (mkF m 33 #[.val (.ref a1), .val (.long q2), .second, .val (.long (1000000 : Int64)), .second, .val (.long (9223372036854 : Int64)), .second] [(.long (-(9223372036854 : Int64))), (.long q2)]))
    refine own_go (fun _ k => XS.lcmp X2.here hx rfl (hb hby d14_33) rfl k) ?_
    show own_Fin p.tables e below _ (T2.setTop (mkF m 34 #[.val (.ref a1), .val (.long q2), .second, .val (.long (1000000 : Int64)), .second, .val (.long (9223372036854 : Int64)), .second] [(.int (lcmpW q2 (-(9223372036854 : Int64))))]))
    refine own_go (fun _ k => XS.ifYes X2.here hx rfl (pc0 := 34) (pc' := 41) rfl (hb hby d14_34) rfl ((if0 _ _).trans (flt (fun q => (own_nneg hq) ((lw_lt _ _).mp q))).2.1) (by decide) (by decide) k) ?_
    show own_Fin p.tables e below _ (T2.setTop (mkF m 41 #[.val (.ref a1), .val (.long q2), .second, .val (.long (1000000 : Int64)), .second, .val (.long (9223372036854 : Int64)), .second] []))
    refine own_go (fun _ k => XS.lloadN X2.here hx rfl (hb hby d14_41) rfl k) ?_
    show own_Fin p.tables e below _ (T2.setTop (mkF m 42 #[.val (.ref a1), .val (.long q2), .second, .val (.long (1000000 : Int64)), .second, .val (.long (9223372036854 : Int64)), .second] [(.long q2)]))
    refine own_go (fun _ k => XS.lloadN X2.here hx rfl (hb hby d14_42) rfl k) ?_
    show own_Fin p.tables e below _ (T2.setTop (mkF m 43 #[.val (.ref a1), .val (.long q2), .second, .val (.long (1000000 : Int64)), .second, .val (.long (9223372036854 : Int64)), .second] [(.long (1000000 : Int64)), (.long q2)]))
    refine own_go (fun _ k => XS.lmul X2.here hx rfl (hb hby d14_43) rfl k) ?_
    show own_Fin p.tables e below _ (T2.setTop (mkF m 44 #[.val (.ref a1), .val (.long q2), .second, .val (.long (1000000 : Int64)), .second, .val (.long (9223372036854 : Int64)), .second] [(.long (q2 * (1000000 : Int64)))]))
    obtain ⟨fs, hr, hrun, hended, hW, hsame⟩ := X2.leave (v := some (.long (q2 * (1000000 : Int64)))) (fun h => by rw [Bd.returns] at h; cases h)
    refine ⟨_, _, ?_, hrun, hended, _, _, rfl, ?_, ⟨_, rfl⟩, hW, hsame.mono (by decide) (by decide)⟩
    · jvm_step X2.here [X2.here.top, hx, (hb hby d14_44), X2.method', Bd.returns, narrow]
      first | (intro acts; rw [hr _ acts rfl rfl rfl]) | rw [hr _ _ rfl rfl rfl]
      exact Steps.refl _
    · show Q_own_toNanos Z a1 q2 h0 n0 _ T2.heap _
      rw [e2]
      exact ⟨(by simp [own_nan, hc22]), N0, rfl⟩
def Q_own_maxJ (Z : State) (q1 : Int64) (q2 : Int64) (h0 : Heap) (n0 : Nat) (v : Option Value) (h : Heap) (L : List Loc) : Prop := v = some (.long (if q1 < q2 then q2 else q1)) ∧ Fr n0 L ∧ h = h0
theorem ef_own_maxJ (m : MethodId) (x0 : Int64) (x1 : Int64) : entryFrame m #[(.long x0), (.long x1)] 4 = mkF m 0 #[.val (.long x0), .second, .val (.long x1), .second] [] := by first | (simp [entryFrame, mkF, argsToLocals, Value.category]; done) | rfl
set_option maxRecDepth 65536 in
set_option maxHeartbeats 40000000 in
theorem own_maxJ (l : Launch) (Z : State) (a0 : Array Value) (hw : ∀ d ∈ tables_1, d.before a0 Z = true) (ws : List Jvm.Cond) (q1 : Int64) (q2 : Int64) (h0 : Heap) (n0 : Nat) (Z0 : n0 ≤ h0.size) :
    MetFree l (⟨"java/lang/Math", "max", "(JJ)J"⟩ : MethodName) (head1 (Jvm.Cond.code (⟨"java/lang/Math", "max", "(JJ)J"⟩ : MethodName) jdk_29_method_66_code 4 (some .long) :: ws) ({ frames := 0, cells := 0, slots := 0, locals := 0 } : Room)) (fun a U => a = #[(.long q1), (.long q2)] ∧ Z.Warmed39 U.vm ∧ U.heap = h0) (fun _ _ _ _ _ => True) (fun _ U o U' => ∃ v L, o = .returned v ∧ Q_own_maxJ Z q1 q2 h0 n0 v U'.heap L ∧ FrameEnd U o U' L ({ frames := 0, cells := 0, slots := 0, locals := 0 } : Room).cells ({ frames := 0, cells := 0, slots := 0, locals := 0 } : Room).slots) := by
  refine MetFree.of_bodySF (Jvm.Free.JP.mathPlain rfl (by decide +kernel)) hisR ?_
  intro p e s m args below meth c s₁ Bd hml0 hP hK
  obtain ⟨rfl, hZ, hh⟩ := hP
  have hx := Bd.exec
  have hby := Bd.bytes
  have hml : c.maxLocals = 4 := hml0
  have hown : s.vm.findClass "java/lang/Math" = some m.cls := findClass_of_methodNamed Bd.named
  have hnm := (name_of_methodNamed Bd.named Bd.method).1
  have X0 : Stand p l e ({ frames := 0, cells := 0, slots := 0, locals := 0 } : Room) s m #[(.long q1), (.long q2)] below meth c s₁ [] 0 0 := Stand.of_body Bd
  have e0 : s₁.heap = h0 := by rw [← hh, Bd.state]; rfl
  have N0 := Fr.nil n0
  show own_Fin p.tables e below _ (s₁.setTop (entryFrame m #[(.long q1), (.long q2)] 4))
  refine own_go (fun _ k => castTop (ef_own_maxJ m q1 q2) k) ?_
  show own_Fin p.tables e below _ (s₁.setTop (mkF m 0 #[.val (.long q1), .second, .val (.long q2), .second] []))
  refine own_go (fun _ k => XS.lloadN X0.here hx rfl (hb hby d9_0) rfl k) ?_
  show own_Fin p.tables e below _ (s₁.setTop (mkF m 1 #[.val (.long q1), .second, .val (.long q2), .second] [(.long q1)]))
  refine own_go (fun _ k => XS.lloadN X0.here hx rfl (hb hby d9_1) rfl k) ?_
  show own_Fin p.tables e below _ (s₁.setTop (mkF m 2 #[.val (.long q1), .second, .val (.long q2), .second] [(.long q2), (.long q1)]))
  refine own_go (fun _ k => XS.lcmp X0.here hx rfl (hb hby d9_2) rfl k) ?_
  show own_Fin p.tables e below _ (s₁.setTop (mkF m 3 #[.val (.long q1), .second, .val (.long q2), .second] [(.int (lcmpW q1 q2))]))
  by_cases hc3 : q1 < q2
  · refine own_go (fun _ k => XS.ifYes X0.here hx rfl (pc0 := 3) (pc' := 10) rfl (hb hby d9_3) rfl ((if0 _ _).trans (tlt ((lw_lt _ _).mpr hc3)).1) (by decide) (by decide) k) ?_
    show own_Fin p.tables e below _ (s₁.setTop (mkF m 10 #[.val (.long q1), .second, .val (.long q2), .second] []))
    refine own_go (fun _ k => XS.lloadN X0.here hx rfl (hb hby d9_10) rfl k) ?_
    show own_Fin p.tables e below _ (s₁.setTop (mkF m 11 #[.val (.long q1), .second, .val (.long q2), .second] [(.long q2)]))
    obtain ⟨fs, hr, hrun, hended, hW, hsame⟩ := X0.leave (v := some (.long q2)) (fun h => by rw [Bd.returns] at h; cases h)
    refine ⟨_, _, ?_, hrun, hended, _, _, rfl, ?_, ⟨_, rfl⟩, hW, hsame.mono (by decide) (by decide)⟩
    · jvm_step X0.here [X0.here.top, hx, (hb hby d9_11), X0.method', Bd.returns, narrow]
      first | (intro acts; rw [hr _ acts rfl rfl rfl]) | rw [hr _ _ rfl rfl rfl]
      exact Steps.refl _
    · show Q_own_maxJ Z q1 q2 h0 n0 _ s₁.heap _
      rw [e0]
      exact ⟨(by simp [hc3]), N0, rfl⟩
  · refine own_go (fun _ k => XS.ifNo X0.here hx rfl (hb hby d9_3) rfl ((if0 _ _).trans (flt (fun q => hc3 ((lw_lt _ _).mp q))).1) k) ?_
    show own_Fin p.tables e below _ (s₁.setTop (mkF m 6 #[.val (.long q1), .second, .val (.long q2), .second] []))
    refine own_go (fun _ k => XS.lloadN X0.here hx rfl (hb hby d9_6) rfl k) ?_
    show own_Fin p.tables e below _ (s₁.setTop (mkF m 7 #[.val (.long q1), .second, .val (.long q2), .second] [(.long q1)]))
    refine own_go (fun _ k => XS.goto X0.here hx rfl (pc0 := 7) (pc' := 11) rfl (hb hby d9_7) (by decide) (by decide) k) ?_
    show own_Fin p.tables e below _ (s₁.setTop (mkF m 11 #[.val (.long q1), .second, .val (.long q2), .second] [(.long q1)]))
    obtain ⟨fs, hr, hrun, hended, hW, hsame⟩ := X0.leave (v := some (.long q1)) (fun h => by rw [Bd.returns] at h; cases h)
    refine ⟨_, _, ?_, hrun, hended, _, _, rfl, ?_, ⟨_, rfl⟩, hW, hsame.mono (by decide) (by decide)⟩
    · jvm_step X0.here [X0.here.top, hx, (hb hby d9_11), X0.method', Bd.returns, narrow]
      first | (intro acts; rw [hr _ acts rfl rfl rfl]) | rw [hr _ _ rfl rfl rfl]
      exact Steps.refl _
    · show Q_own_maxJ Z q1 q2 h0 n0 _ s₁.heap _
      rw [e0]
      exact ⟨(by simp [hc3]), N0, rfl⟩
def Q_own_minJ (Z : State) (q1 : Int64) (q2 : Int64) (h0 : Heap) (n0 : Nat) (v : Option Value) (h : Heap) (L : List Loc) : Prop := v = some (.long (if q2 < q1 then q2 else q1)) ∧ Fr n0 L ∧ h = h0
theorem ef_own_minJ (m : MethodId) (x0 : Int64) (x1 : Int64) : entryFrame m #[(.long x0), (.long x1)] 4 = mkF m 0 #[.val (.long x0), .second, .val (.long x1), .second] [] := by first | (simp [entryFrame, mkF, argsToLocals, Value.category]; done) | rfl
set_option maxRecDepth 65536 in
set_option maxHeartbeats 40000000 in
theorem own_minJ (l : Launch) (Z : State) (a0 : Array Value) (hw : ∀ d ∈ tables_1, d.before a0 Z = true) (ws : List Jvm.Cond) (q1 : Int64) (q2 : Int64) (h0 : Heap) (n0 : Nat) (Z0 : n0 ≤ h0.size) :
    MetFree l (⟨"java/lang/Math", "min", "(JJ)J"⟩ : MethodName) (head1 (Jvm.Cond.code (⟨"java/lang/Math", "min", "(JJ)J"⟩ : MethodName) jdk_29_method_70_code 4 (some .long) :: ws) ({ frames := 0, cells := 0, slots := 0, locals := 0 } : Room)) (fun a U => a = #[(.long q1), (.long q2)] ∧ Z.Warmed39 U.vm ∧ U.heap = h0) (fun _ _ _ _ _ => True) (fun _ U o U' => ∃ v L, o = .returned v ∧ Q_own_minJ Z q1 q2 h0 n0 v U'.heap L ∧ FrameEnd U o U' L ({ frames := 0, cells := 0, slots := 0, locals := 0 } : Room).cells ({ frames := 0, cells := 0, slots := 0, locals := 0 } : Room).slots) := by
  refine MetFree.of_bodySF (Jvm.Free.JP.mathPlain rfl (by decide +kernel)) hisR ?_
  intro p e s m args below meth c s₁ Bd hml0 hP hK
  obtain ⟨rfl, hZ, hh⟩ := hP
  have hx := Bd.exec
  have hby := Bd.bytes
  have hml : c.maxLocals = 4 := hml0
  have hown : s.vm.findClass "java/lang/Math" = some m.cls := findClass_of_methodNamed Bd.named
  have hnm := (name_of_methodNamed Bd.named Bd.method).1
  have X0 : Stand p l e ({ frames := 0, cells := 0, slots := 0, locals := 0 } : Room) s m #[(.long q1), (.long q2)] below meth c s₁ [] 0 0 := Stand.of_body Bd
  have e0 : s₁.heap = h0 := by rw [← hh, Bd.state]; rfl
  have N0 := Fr.nil n0
  show own_Fin p.tables e below _ (s₁.setTop (entryFrame m #[(.long q1), (.long q2)] 4))
  refine own_go (fun _ k => castTop (ef_own_minJ m q1 q2) k) ?_
  show own_Fin p.tables e below _ (s₁.setTop (mkF m 0 #[.val (.long q1), .second, .val (.long q2), .second] []))
  refine own_go (fun _ k => XS.lloadN X0.here hx rfl (hb hby d10_0) rfl k) ?_
  show own_Fin p.tables e below _ (s₁.setTop (mkF m 1 #[.val (.long q1), .second, .val (.long q2), .second] [(.long q1)]))
  refine own_go (fun _ k => XS.lloadN X0.here hx rfl (hb hby d10_1) rfl k) ?_
  show own_Fin p.tables e below _ (s₁.setTop (mkF m 2 #[.val (.long q1), .second, .val (.long q2), .second] [(.long q2), (.long q1)]))
  refine own_go (fun _ k => XS.lcmp X0.here hx rfl (hb hby d10_2) rfl k) ?_
  show own_Fin p.tables e below _ (s₁.setTop (mkF m 3 #[.val (.long q1), .second, .val (.long q2), .second] [(.int (lcmpW q1 q2))]))
  by_cases hc3 : q2 < q1
  · refine own_go (fun _ k => XS.ifYes X0.here hx rfl (pc0 := 3) (pc' := 10) rfl (hb hby d10_3) rfl ((if0 _ _).trans (tlt ((lw_gt _ _).mpr hc3)).2.2.1) (by decide) (by decide) k) ?_
    show own_Fin p.tables e below _ (s₁.setTop (mkF m 10 #[.val (.long q1), .second, .val (.long q2), .second] []))
    refine own_go (fun _ k => XS.lloadN X0.here hx rfl (hb hby d10_10) rfl k) ?_
    show own_Fin p.tables e below _ (s₁.setTop (mkF m 11 #[.val (.long q1), .second, .val (.long q2), .second] [(.long q2)]))
    obtain ⟨fs, hr, hrun, hended, hW, hsame⟩ := X0.leave (v := some (.long q2)) (fun h => by rw [Bd.returns] at h; cases h)
    refine ⟨_, _, ?_, hrun, hended, _, _, rfl, ?_, ⟨_, rfl⟩, hW, hsame.mono (by decide) (by decide)⟩
    · jvm_step X0.here [X0.here.top, hx, (hb hby d10_11), X0.method', Bd.returns, narrow]
      first | (intro acts; rw [hr _ acts rfl rfl rfl]) | rw [hr _ _ rfl rfl rfl]
      exact Steps.refl _
    · show Q_own_minJ Z q1 q2 h0 n0 _ s₁.heap _
      rw [e0]
      exact ⟨(by simp [hc3]), N0, rfl⟩
  · refine own_go (fun _ k => XS.ifNo X0.here hx rfl (hb hby d10_3) rfl ((if0 _ _).trans (flt (fun q => hc3 ((lw_gt _ _).mp q))).2.2.1) k) ?_
    show own_Fin p.tables e below _ (s₁.setTop (mkF m 6 #[.val (.long q1), .second, .val (.long q2), .second] []))
    refine own_go (fun _ k => XS.lloadN X0.here hx rfl (hb hby d10_6) rfl k) ?_
    show own_Fin p.tables e below _ (s₁.setTop (mkF m 7 #[.val (.long q1), .second, .val (.long q2), .second] [(.long q1)]))
    refine own_go (fun _ k => XS.goto X0.here hx rfl (pc0 := 7) (pc' := 11) rfl (hb hby d10_7) (by decide) (by decide) k) ?_
    show own_Fin p.tables e below _ (s₁.setTop (mkF m 11 #[.val (.long q1), .second, .val (.long q2), .second] [(.long q1)]))
    obtain ⟨fs, hr, hrun, hended, hW, hsame⟩ := X0.leave (v := some (.long q1)) (fun h => by rw [Bd.returns] at h; cases h)
    refine ⟨_, _, ?_, hrun, hended, _, _, rfl, ?_, ⟨_, rfl⟩, hW, hsame.mono (by decide) (by decide)⟩
    · jvm_step X0.here [X0.here.top, hx, (hb hby d10_11), X0.method', Bd.returns, narrow]
      first | (intro acts; rw [hr _ acts rfl rfl rfl]) | rw [hr _ _ rfl rfl rfl]
      exact Steps.refl _
    · show Q_own_minJ Z q1 q2 h0 n0 _ s₁.heap _
      rw [e0]
      exact ⟨(by simp [hc3]), N0, rfl⟩
def Q_own_minI (Z : State) (p1 : Int32) (p2 : Int32) (h0 : Heap) (n0 : Nat) (v : Option Value) (h : Heap) (L : List Loc) : Prop := v = some (.int (if p2 < p1 then p2 else p1)) ∧ Fr n0 L ∧ h = h0
theorem ef_own_minI (m : MethodId) (x0 : Int32) (x1 : Int32) : entryFrame m #[(.int x0), (.int x1)] 2 = mkF m 0 #[.val (.int x0), .val (.int x1)] [] := by first | (simp [entryFrame, mkF, argsToLocals, Value.category]; done) | rfl
set_option maxRecDepth 65536 in
set_option maxHeartbeats 40000000 in
theorem own_minI (l : Launch) (Z : State) (a0 : Array Value) (hw : ∀ d ∈ tables_1, d.before a0 Z = true) (ws : List Jvm.Cond) (p1 : Int32) (p2 : Int32) (h0 : Heap) (n0 : Nat) (Z0 : n0 ≤ h0.size) :
    MetFree l (⟨"java/lang/Math", "min", "(II)I"⟩ : MethodName) (head1 (Jvm.Cond.code (⟨"java/lang/Math", "min", "(II)I"⟩ : MethodName) jdk_29_method_69_code 2 (some .int) :: ws) ({ frames := 0, cells := 0, slots := 0, locals := 0 } : Room)) (fun a U => a = #[(.int p1), (.int p2)] ∧ Z.Warmed39 U.vm ∧ U.heap = h0) (fun _ _ _ _ _ => True) (fun _ U o U' => ∃ v L, o = .returned v ∧ Q_own_minI Z p1 p2 h0 n0 v U'.heap L ∧ FrameEnd U o U' L ({ frames := 0, cells := 0, slots := 0, locals := 0 } : Room).cells ({ frames := 0, cells := 0, slots := 0, locals := 0 } : Room).slots) := by
  refine MetFree.of_bodySF (Jvm.Free.JP.mathPlain rfl (by decide +kernel)) hisR ?_
  intro p e s m args below meth c s₁ Bd hml0 hP hK
  obtain ⟨rfl, hZ, hh⟩ := hP
  have hx := Bd.exec
  have hby := Bd.bytes
  have hml : c.maxLocals = 2 := hml0
  have hown : s.vm.findClass "java/lang/Math" = some m.cls := findClass_of_methodNamed Bd.named
  have hnm := (name_of_methodNamed Bd.named Bd.method).1
  have X0 : Stand p l e ({ frames := 0, cells := 0, slots := 0, locals := 0 } : Room) s m #[(.int p1), (.int p2)] below meth c s₁ [] 0 0 := Stand.of_body Bd
  have e0 : s₁.heap = h0 := by rw [← hh, Bd.state]; rfl
  have N0 := Fr.nil n0
  show own_Fin p.tables e below _ (s₁.setTop (entryFrame m #[(.int p1), (.int p2)] 2))
  refine own_go (fun _ k => castTop (ef_own_minI m p1 p2) k) ?_
  show own_Fin p.tables e below _ (s₁.setTop (mkF m 0 #[.val (.int p1), .val (.int p2)] []))
  refine own_go (fun _ k => XS.iloadN X0.here hx rfl (hb hby d12_0) rfl k) ?_
  show own_Fin p.tables e below _ (s₁.setTop (mkF m 1 #[.val (.int p1), .val (.int p2)] [(.int p1)]))
  refine own_go (fun _ k => XS.iloadN X0.here hx rfl (hb hby d12_1) rfl k) ?_
  show own_Fin p.tables e below _ (s₁.setTop (mkF m 2 #[.val (.int p1), .val (.int p2)] [(.int p2), (.int p1)]))
  by_cases hc2 : p2 < p1
  · refine own_go (fun _ k => XS.icmpYes X0.here hx rfl (pc0 := 2) (pc' := 9) rfl (hb hby d12_2) rfl (tlt hc2).2.2.1 (by decide) (by decide) k) ?_
    show own_Fin p.tables e below _ (s₁.setTop (mkF m 9 #[.val (.int p1), .val (.int p2)] []))
    refine own_go (fun _ k => XS.iloadN X0.here hx rfl (hb hby d12_9) rfl k) ?_
    show own_Fin p.tables e below _ (s₁.setTop (mkF m 10 #[.val (.int p1), .val (.int p2)] [(.int p2)]))
    obtain ⟨fs, hr, hrun, hended, hW, hsame⟩ := X0.leave (v := some (.int p2)) (fun h => by rw [Bd.returns] at h; cases h)
    refine ⟨_, _, ?_, hrun, hended, _, _, rfl, ?_, ⟨_, rfl⟩, hW, hsame.mono (by decide) (by decide)⟩
    · exact own_retI X0 hx Bd.returns (hb hby d12_10) hr
    · show Q_own_minI Z p1 p2 h0 n0 _ s₁.heap _
      rw [e0]
      exact ⟨(by simp [hc2]), N0, rfl⟩
  · refine own_go (fun _ k => XS.icmpNo X0.here hx rfl (hb hby d12_2) rfl (flt hc2).2.2.1 k) ?_
    show own_Fin p.tables e below _ (s₁.setTop (mkF m 5 #[.val (.int p1), .val (.int p2)] []))
    refine own_go (fun _ k => XS.iloadN X0.here hx rfl (hb hby d12_5) rfl k) ?_
    show own_Fin p.tables e below _ (s₁.setTop (mkF m 6 #[.val (.int p1), .val (.int p2)] [(.int p1)]))
    refine own_go (fun _ k => XS.goto X0.here hx rfl (pc0 := 6) (pc' := 10) rfl (hb hby d12_6) (by decide) (by decide) k) ?_
    show own_Fin p.tables e below _ (s₁.setTop (mkF m 10 #[.val (.int p1), .val (.int p2)] [(.int p1)]))
    obtain ⟨fs, hr, hrun, hended, hW, hsame⟩ := X0.leave (v := some (.int p1)) (fun h => by rw [Bd.returns] at h; cases h)
    refine ⟨_, _, ?_, hrun, hended, _, _, rfl, ?_, ⟨_, rfl⟩, hW, hsame.mono (by decide) (by decide)⟩
    · exact own_retI X0 hx Bd.returns (hb hby d12_10) hr
    · show Q_own_minI Z p1 p2 h0 n0 _ s₁.heap _
      rw [e0]
      exact ⟨(by simp [hc2]), N0, rfl⟩
theorem own_lim (x k : Int32) (h1 : 0 ≤ k.toInt) (h2 : k.toInt ≤ 3) : (((x &&& (7 : Int32)) % (k + (2 : Int32))) - (1 : Int32)).toInt ≤ k.toInt := by
  have a1 := c_and x (7 : Int32) (by decide)
  have a2 := c_iadd k (2 : Int32)
  have e2 : (2 : Int32).toInt = 2 := rfl
  have b1 := Int32.toInt_lt (k + (2 : Int32)); have b2 := Int32.le_toInt (k + (2 : Int32))
  have a3 := (c_iremV (x &&& (7 : Int32)) (k + (2 : Int32))).1 a1.1 (by omega)
  have a4 := c_isub ((x &&& (7 : Int32)) % (k + (2 : Int32))) (1 : Int32)
  have e1 : (1 : Int32).toInt = 1 := rfl
  have b3 := Int32.toInt_lt (((x &&& (7 : Int32)) % (k + (2 : Int32))) - (1 : Int32)); have b4 := Int32.le_toInt (((x &&& (7 : Int32)) % (k + (2 : Int32))) - (1 : Int32))
  omega
theorem own_k2 {k : Int32} (h1 : 0 ≤ k.toInt) (h2 : k.toInt ≤ 3) : (k + (2 : Int32)) ≠ 0 := fun q => by
  have a2 := c_iadd k (2 : Int32)
  rw [q] at a2
  have e2 : (2 : Int32).toInt = 2 := rfl
  have e0 : (0 : Int32).toInt = 0 := rfl
  omega
theorem own_minv {k : Int32} (h1 : 0 ≤ k.toInt) : (-2147483648 : Int32).toInt ≤ k.toInt := by rw [show (-2147483648 : Int32).toInt = -2147483648 from by decide]; omega
def Q_own_limit (Z : State) (p1 : Int32) (p2 : Int32) (p3 : Int32) (h0 : Heap) (n0 : Nat) (v : Option Value) (h : Heap) (L : List Loc) : Prop := ∃ (mm : Int32), v = some (.int mm) ∧ Fr n0 L ∧ h = h0 ∧ mm.toInt ≤ p3.toInt
theorem ef_own_limit (m : MethodId) (x0 : Int32) (x1 : Int32) (x2 : Int32) : entryFrame m #[(.int x0), (.int x1), (.int x2)] 5 = mkF m 0 #[.val (.int x0), .val (.int x1), .val (.int x2), .unset, .unset] [] := by first | (simp [entryFrame, mkF, argsToLocals, Value.category]; done) | rfl
set_option maxRecDepth 65536 in
set_option maxHeartbeats 40000000 in
theorem own_limit (l : Launch) (Z : State) (a0 : Array Value) (hw : ∀ d ∈ tables_1, d.before a0 Z = true) (ws : List Jvm.Cond) (p1 : Int32) (p2 : Int32) (p3 : Int32) (h0 : Heap) (n0 : Nat) (Z0 : n0 ≤ h0.size) (h1 : 0 ≤ p3.toInt) (h2 : p3.toInt ≤ 3) :
    MetFree l (⟨"com/example/ferrybell/ferrybell/runtime/RestartsTryRestartPinLaw", "limit", "(III)I"⟩ : MethodName) (head1 (Jvm.Cond.code (⟨"com/example/ferrybell/ferrybell/runtime/RestartsTryRestartPinLaw", "limit", "(III)I"⟩ : MethodName) method_4_code 5 (some .int) :: ws) ({ frames := 0, cells := 0, slots := 0, locals := 0 } : Room)) (fun a U => a = #[(.int p1), (.int p2), (.int p3)] ∧ Z.Warmed39 U.vm ∧ U.heap = h0) (fun _ _ _ _ _ => True) (fun _ U o U' => ∃ v L, o = .returned v ∧ Q_own_limit Z p1 p2 p3 h0 n0 v U'.heap L ∧ FrameEnd U o U' L ({ frames := 0, cells := 0, slots := 0, locals := 0 } : Room).cells ({ frames := 0, cells := 0, slots := 0, locals := 0 } : Room).slots) := by
  refine MetFree.of_bodySF (plainFor_of_name own_pn0) hisR ?_
  intro p e s m args below meth c s₁ Bd hml0 hP hK
  obtain ⟨rfl, hZ, hh⟩ := hP
  have hx := Bd.exec
  have hby := Bd.bytes
  have hml : c.maxLocals = 5 := hml0
  have hown : s.vm.findClass "com/example/ferrybell/ferrybell/runtime/RestartsTryRestartPinLaw" = some m.cls := findClass_of_methodNamed Bd.named
  have hnm := (name_of_methodNamed Bd.named Bd.method).1
  have X0 : Stand p l e ({ frames := 0, cells := 0, slots := 0, locals := 0 } : Room) s m #[(.int p1), (.int p2), (.int p3)] below meth c s₁ [] 0 0 := Stand.of_body Bd
  have e0 : s₁.heap = h0 := by rw [← hh, Bd.state]; rfl
  have N0 := Fr.nil n0
  show own_Fin p.tables e below _ (s₁.setTop (entryFrame m #[(.int p1), (.int p2), (.int p3)] 5))
  refine own_go (fun _ k => castTop (ef_own_limit m p1 p2 p3) k) ?_
  show own_Fin p.tables e below _ (s₁.setTop (mkF m 0 #[.val (.int p1), .val (.int p2), .val (.int p3), .unset, .unset] []))
  refine own_go (fun _ k => XS.iconst X0.here hx rfl (hb hby d4_0) k) ?_
  show own_Fin p.tables e below _ (s₁.setTop (mkF m 1 #[.val (.int p1), .val (.int p2), .val (.int p3), .unset, .unset] [(.int (2 : Int32))]))
  refine own_go (fun _ k => XS.iconst X0.here hx rfl (hb hby d4_1) k) ?_
  show own_Fin p.tables e below _ (s₁.setTop (mkF m 2 #[.val (.int p1), .val (.int p2), .val (.int p3), .unset, .unset] [(.int (5 : Int32)), (.int (2 : Int32))]))
  refine own_go (fun _ k => XS.iloadN X0.here hx rfl (hb hby d4_2) rfl k) ?_
  show own_Fin p.tables e below _ (s₁.setTop (mkF m 3 #[.val (.int p1), .val (.int p2), .val (.int p3), .unset, .unset] [(.int p2), (.int (5 : Int32)), (.int (2 : Int32))]))
  refine own_go (fun _ k => XS.imul X0.here hx rfl (hb hby d4_3) rfl k) ?_
  show own_Fin p.tables e below _ (s₁.setTop (mkF m 4 #[.val (.int p1), .val (.int p2), .val (.int p3), .unset, .unset] [(.int ((5 : Int32) * p2)), (.int (2 : Int32))]))
  refine own_go (fun _ k => XS.iadd X0.here hx rfl (hb hby d4_4) rfl k) ?_
  show own_Fin p.tables e below _ (s₁.setTop (mkF m 5 #[.val (.int p1), .val (.int p2), .val (.int p3), .unset, .unset] [(.int ((2 : Int32) + ((5 : Int32) * p2)))]))
  refine own_go (fun _ k => XS.istoreN X0.here hx rfl (hb hby d4_5) rfl (l' := #[.val (.int p1), .val (.int p2), .val (.int p3), .val (.int ((2 : Int32) + ((5 : Int32) * p2))), .unset]) rfl k) ?_
  show own_Fin p.tables e below _ (s₁.setTop (mkF m 6 #[.val (.int p1), .val (.int p2), .val (.int p3), .val (.int ((2 : Int32) + ((5 : Int32) * p2))), .unset] []))
  refine own_go (fun _ k => XS.iloadN X0.here hx rfl (hb hby d4_6) rfl k) ?_
  show own_Fin p.tables e below _ (s₁.setTop (mkF m 7 #[.val (.int p1), .val (.int p2), .val (.int p3), .val (.int ((2 : Int32) + ((5 : Int32) * p2))), .unset] [(.int p1)]))
  refine own_go (fun _ k => XS.iloadN X0.here hx rfl (hb hby d4_7) rfl k) ?_
  show own_Fin p.tables e below _ (s₁.setTop (mkF m 8 #[.val (.int p1), .val (.int p2), .val (.int p3), .val (.int ((2 : Int32) + ((5 : Int32) * p2))), .unset] [(.int ((2 : Int32) + ((5 : Int32) * p2))), (.int p1)]))
  refine own_go (fun _ k => XS.iushr X0.here hx rfl (hb hby d4_8) rfl k) ?_
  show own_Fin p.tables e below _ (s₁.setTop (mkF m 9 #[.val (.int p1), .val (.int p2), .val (.int p3), .val (.int ((2 : Int32) + ((5 : Int32) * p2))), .unset] [(.int ((p1.toUInt32 >>> (((2 : Int32) + ((5 : Int32) * p2)) &&& 31).toUInt32).toInt32))]))
  refine own_go (fun _ k => XS.bipush X0.here hx rfl (hb hby d4_9) k) ?_
  show own_Fin p.tables e below _ (s₁.setTop (mkF m 11 #[.val (.int p1), .val (.int p2), .val (.int p3), .val (.int ((2 : Int32) + ((5 : Int32) * p2))), .unset] [(.int (7 : Int32)), (.int ((p1.toUInt32 >>> (((2 : Int32) + ((5 : Int32) * p2)) &&& 31).toUInt32).toInt32))]))
  refine own_go (fun _ k => XS.iand X0.here hx rfl (hb hby d4_11) rfl k) ?_
  show own_Fin p.tables e below _ (s₁.setTop (mkF m 12 #[.val (.int p1), .val (.int p2), .val (.int p3), .val (.int ((2 : Int32) + ((5 : Int32) * p2))), .unset] [(.int (((p1.toUInt32 >>> (((2 : Int32) + ((5 : Int32) * p2)) &&& 31).toUInt32).toInt32) &&& (7 : Int32)))]))
  refine own_go (fun _ k => XS.iloadN X0.here hx rfl (hb hby d4_12) rfl k) ?_
  show own_Fin p.tables e below _ (s₁.setTop (mkF m 13 #[.val (.int p1), .val (.int p2), .val (.int p3), .val (.int ((2 : Int32) + ((5 : Int32) * p2))), .unset] [(.int p3), (.int (((p1.toUInt32 >>> (((2 : Int32) + ((5 : Int32) * p2)) &&& 31).toUInt32).toInt32) &&& (7 : Int32)))]))
  refine own_go (fun _ k => XS.iconst X0.here hx rfl (hb hby d4_13) k) ?_
  show own_Fin p.tables e below _ (s₁.setTop (mkF m 14 #[.val (.int p1), .val (.int p2), .val (.int p3), .val (.int ((2 : Int32) + ((5 : Int32) * p2))), .unset] [(.int (2 : Int32)), (.int p3), (.int (((p1.toUInt32 >>> (((2 : Int32) + ((5 : Int32) * p2)) &&& 31).toUInt32).toInt32) &&& (7 : Int32)))]))
  refine own_go (fun _ k => XS.iadd X0.here hx rfl (hb hby d4_14) rfl k) ?_
  show own_Fin p.tables e below _ (s₁.setTop (mkF m 15 #[.val (.int p1), .val (.int p2), .val (.int p3), .val (.int ((2 : Int32) + ((5 : Int32) * p2))), .unset] [(.int (p3 + (2 : Int32))), (.int (((p1.toUInt32 >>> (((2 : Int32) + ((5 : Int32) * p2)) &&& 31).toUInt32).toInt32) &&& (7 : Int32)))]))
  refine own_go (fun _ k => iremM X0 hx rfl (hb hby d4_15) rfl (own_k2 h1 h2) k) ?_
  show own_Fin p.tables e below _ (s₁.setTop (mkF m 16 #[.val (.int p1), .val (.int p2), .val (.int p3), .val (.int ((2 : Int32) + ((5 : Int32) * p2))), .unset] [(.int ((((p1.toUInt32 >>> (((2 : Int32) + ((5 : Int32) * p2)) &&& 31).toUInt32).toInt32) &&& (7 : Int32)) % (p3 + (2 : Int32))))]))
  refine own_go (fun _ k => XS.iconst X0.here hx rfl (hb hby d4_16) k) ?_
  show own_Fin p.tables e below _ (s₁.setTop (mkF m 17 #[.val (.int p1), .val (.int p2), .val (.int p3), .val (.int ((2 : Int32) + ((5 : Int32) * p2))), .unset] [(.int (1 : Int32)), (.int ((((p1.toUInt32 >>> (((2 : Int32) + ((5 : Int32) * p2)) &&& 31).toUInt32).toInt32) &&& (7 : Int32)) % (p3 + (2 : Int32))))]))
  refine own_go (fun _ k => XS.isub X0.here hx rfl (hb hby d4_17) rfl k) ?_
  show own_Fin p.tables e below _ (s₁.setTop (mkF m 18 #[.val (.int p1), .val (.int p2), .val (.int p3), .val (.int ((2 : Int32) + ((5 : Int32) * p2))), .unset] [(.int (((((p1.toUInt32 >>> (((2 : Int32) + ((5 : Int32) * p2)) &&& 31).toUInt32).toInt32) &&& (7 : Int32)) % (p3 + (2 : Int32))) - (1 : Int32)))]))
  refine own_go (fun _ k => XS.istore X0.here hx rfl (hb hby d4_18) rfl (l' := #[.val (.int p1), .val (.int p2), .val (.int p3), .val (.int ((2 : Int32) + ((5 : Int32) * p2))), .val (.int (((((p1.toUInt32 >>> (((2 : Int32) + ((5 : Int32) * p2)) &&& 31).toUInt32).toInt32) &&& (7 : Int32)) % (p3 + (2 : Int32))) - (1 : Int32)))]) rfl k) ?_
  show own_Fin p.tables e below _ (s₁.setTop (mkF m 20 #[.val (.int p1), .val (.int p2), .val (.int p3), .val (.int ((2 : Int32) + ((5 : Int32) * p2))), .val (.int (((((p1.toUInt32 >>> (((2 : Int32) + ((5 : Int32) * p2)) &&& 31).toUInt32).toInt32) &&& (7 : Int32)) % (p3 + (2 : Int32))) - (1 : Int32)))] []))
  refine own_go (fun _ k => XS.iload X0.here hx rfl (hb hby d4_20) rfl k) ?_
  show own_Fin p.tables e below _ (s₁.setTop (mkF m 22 #[.val (.int p1), .val (.int p2), .val (.int p3), .val (.int ((2 : Int32) + ((5 : Int32) * p2))), .val (.int (((((p1.toUInt32 >>> (((2 : Int32) + ((5 : Int32) * p2)) &&& 31).toUInt32).toInt32) &&& (7 : Int32)) % (p3 + (2 : Int32))) - (1 : Int32)))] [(.int (((((p1.toUInt32 >>> (((2 : Int32) + ((5 : Int32) * p2)) &&& 31).toUInt32).toInt32) &&& (7 : Int32)) % (p3 + (2 : Int32))) - (1 : Int32)))]))
  refine own_go (fun _ k => XS.iconst X0.here hx rfl (hb hby d4_22) k) ?_
  show own_Fin p.tables e below _ (s₁.setTop (mkF m 23 #[.val (.int p1), .val (.int p2), .val (.int p3), .val (.int ((2 : Int32) + ((5 : Int32) * p2))), .val (.int (((((p1.toUInt32 >>> (((2 : Int32) + ((5 : Int32) * p2)) &&& 31).toUInt32).toInt32) &&& (7 : Int32)) % (p3 + (2 : Int32))) - (1 : Int32)))] [(.int (-1 : Int32)), (.int (((((p1.toUInt32 >>> (((2 : Int32) + ((5 : Int32) * p2)) &&& 31).toUInt32).toInt32) &&& (7 : Int32)) % (p3 + (2 : Int32))) - (1 : Int32)))]))
  by_cases hc23 : (((((p1.toUInt32 >>> (((2 : Int32) + ((5 : Int32) * p2)) &&& 31).toUInt32).toInt32) &&& (7 : Int32)) % (p3 + (2 : Int32))) - (1 : Int32)) = (-1 : Int32)
  · refine own_go (fun _ k => XS.icmpNo X0.here hx rfl (hb hby d4_23) rfl (teq hc23).2 k) ?_
    show own_Fin p.tables e below _ (s₁.setTop (mkF m 26 #[.val (.int p1), .val (.int p2), .val (.int p3), .val (.int ((2 : Int32) + ((5 : Int32) * p2))), .val (.int (((((p1.toUInt32 >>> (((2 : Int32) + ((5 : Int32) * p2)) &&& 31).toUInt32).toInt32) &&& (7 : Int32)) % (p3 + (2 : Int32))) - (1 : Int32)))] []))
    refine own_go (fun _ k => XS.iloadN X0.here hx rfl (hb hby d4_26) rfl k) ?_
    show own_Fin p.tables e below _ (s₁.setTop (mkF m 27 #[.val (.int p1), .val (.int p2), .val (.int p3), .val (.int ((2 : Int32) + ((5 : Int32) * p2))), .val (.int (((((p1.toUInt32 >>> (((2 : Int32) + ((5 : Int32) * p2)) &&& 31).toUInt32).toInt32) &&& (7 : Int32)) % (p3 + (2 : Int32))) - (1 : Int32)))] [(.int p1)]))
    refine own_go (fun _ k => XS.iloadN X0.here hx rfl (hb hby d4_27) rfl k) ?_
    show own_Fin p.tables e below _ (s₁.setTop (mkF m 28 #[.val (.int p1), .val (.int p2), .val (.int p3), .val (.int ((2 : Int32) + ((5 : Int32) * p2))), .val (.int (((((p1.toUInt32 >>> (((2 : Int32) + ((5 : Int32) * p2)) &&& 31).toUInt32).toInt32) &&& (7 : Int32)) % (p3 + (2 : Int32))) - (1 : Int32)))] [(.int ((2 : Int32) + ((5 : Int32) * p2))), (.int p1)]))
    refine own_go (fun _ k => XS.iconst X0.here hx rfl (hb hby d4_28) k) ?_
    show own_Fin p.tables e below _ (s₁.setTop (mkF m 29 #[.val (.int p1), .val (.int p2), .val (.int p3), .val (.int ((2 : Int32) + ((5 : Int32) * p2))), .val (.int (((((p1.toUInt32 >>> (((2 : Int32) + ((5 : Int32) * p2)) &&& 31).toUInt32).toInt32) &&& (7 : Int32)) % (p3 + (2 : Int32))) - (1 : Int32)))] [(.int (3 : Int32)), (.int ((2 : Int32) + ((5 : Int32) * p2))), (.int p1)]))
    refine own_go (fun _ k => XS.iadd X0.here hx rfl (hb hby d4_29) rfl k) ?_
    show own_Fin p.tables e below _ (s₁.setTop (mkF m 30 #[.val (.int p1), .val (.int p2), .val (.int p3), .val (.int ((2 : Int32) + ((5 : Int32) * p2))), .val (.int (((((p1.toUInt32 >>> (((2 : Int32) + ((5 : Int32) * p2)) &&& 31).toUInt32).toInt32) &&& (7 : Int32)) % (p3 + (2 : Int32))) - (1 : Int32)))] [(.int (((2 : Int32) + ((5 : Int32) * p2)) + (3 : Int32))), (.int p1)]))
    refine own_go (fun _ k => XS.iushr X0.here hx rfl (hb hby d4_30) rfl k) ?_
    show own_Fin p.tables e below _ (s₁.setTop (mkF m 31 #[.val (.int p1), .val (.int p2), .val (.int p3), .val (.int ((2 : Int32) + ((5 : Int32) * p2))), .val (.int (((((p1.toUInt32 >>> (((2 : Int32) + ((5 : Int32) * p2)) &&& 31).toUInt32).toInt32) &&& (7 : Int32)) % (p3 + (2 : Int32))) - (1 : Int32)))] [(.int ((p1.toUInt32 >>> ((((2 : Int32) + ((5 : Int32) * p2)) + (3 : Int32)) &&& 31).toUInt32).toInt32))]))
    refine own_go (fun _ k => XS.iconst X0.here hx rfl (hb hby d4_31) k) ?_
    show own_Fin p.tables e below _ (s₁.setTop (mkF m 32 #[.val (.int p1), .val (.int p2), .val (.int p3), .val (.int ((2 : Int32) + ((5 : Int32) * p2))), .val (.int (((((p1.toUInt32 >>> (((2 : Int32) + ((5 : Int32) * p2)) &&& 31).toUInt32).toInt32) &&& (7 : Int32)) % (p3 + (2 : Int32))) - (1 : Int32)))] [(.int (1 : Int32)), (.int ((p1.toUInt32 >>> ((((2 : Int32) + ((5 : Int32) * p2)) + (3 : Int32)) &&& 31).toUInt32).toInt32))]))
    refine own_go (fun _ k => XS.iand X0.here hx rfl (hb hby d4_32) rfl k) ?_
    show own_Fin p.tables e below _ (s₁.setTop (mkF m 33 #[.val (.int p1), .val (.int p2), .val (.int p3), .val (.int ((2 : Int32) + ((5 : Int32) * p2))), .val (.int (((((p1.toUInt32 >>> (((2 : Int32) + ((5 : Int32) * p2)) &&& 31).toUInt32).toInt32) &&& (7 : Int32)) % (p3 + (2 : Int32))) - (1 : Int32)))] [(.int (((p1.toUInt32 >>> ((((2 : Int32) + ((5 : Int32) * p2)) + (3 : Int32)) &&& 31).toUInt32).toInt32) &&& (1 : Int32)))]))
    by_cases hc33 : (((p1.toUInt32 >>> ((((2 : Int32) + ((5 : Int32) * p2)) + (3 : Int32)) &&& 31).toUInt32).toInt32) &&& (1 : Int32)) = (0 : Int32)
    · refine own_go (fun _ k => XS.ifYes X0.here hx rfl (pc0 := 33) (pc' := 40) rfl (hb hby d4_33) rfl ((if0 _ _).trans (teq hc33).1) (by decide) (by decide) k) ?_
      show own_Fin p.tables e below _ (s₁.setTop (mkF m 40 #[.val (.int p1), .val (.int p2), .val (.int p3), .val (.int ((2 : Int32) + ((5 : Int32) * p2))), .val (.int (((((p1.toUInt32 >>> (((2 : Int32) + ((5 : Int32) * p2)) &&& 31).toUInt32).toInt32) &&& (7 : Int32)) % (p3 + (2 : Int32))) - (1 : Int32)))] []))
      refine own_go (fun _ k => XS.iload X0.here hx rfl (hb hby d4_40) rfl k) ?_
      show own_Fin p.tables e below _ (s₁.setTop (mkF m 42 #[.val (.int p1), .val (.int p2), .val (.int p3), .val (.int ((2 : Int32) + ((5 : Int32) * p2))), .val (.int (((((p1.toUInt32 >>> (((2 : Int32) + ((5 : Int32) * p2)) &&& 31).toUInt32).toInt32) &&& (7 : Int32)) % (p3 + (2 : Int32))) - (1 : Int32)))] [(.int (((((p1.toUInt32 >>> (((2 : Int32) + ((5 : Int32) * p2)) &&& 31).toUInt32).toInt32) &&& (7 : Int32)) % (p3 + (2 : Int32))) - (1 : Int32)))]))
      obtain ⟨fs, hr, hrun, hended, hW, hsame⟩ := X0.leave (v := some (.int (((((p1.toUInt32 >>> (((2 : Int32) + ((5 : Int32) * p2)) &&& 31).toUInt32).toInt32) &&& (7 : Int32)) % (p3 + (2 : Int32))) - (1 : Int32)))) (fun h => by rw [Bd.returns] at h; cases h)
      refine ⟨_, _, ?_, hrun, hended, _, _, rfl, ?_, ⟨_, rfl⟩, hW, hsame.mono (by decide) (by decide)⟩
      · exact own_retI X0 hx Bd.returns (hb hby d4_42) hr
      · show Q_own_limit Z p1 p2 p3 h0 n0 _ s₁.heap _
        rw [e0]
        exact ⟨(((((p1.toUInt32 >>> (((2 : Int32) + ((5 : Int32) * p2)) &&& 31).toUInt32).toInt32) &&& (7 : Int32)) % (p3 + (2 : Int32))) - (1 : Int32)), rfl, N0, rfl, (own_lim _ _ h1 h2)⟩
    · refine own_go (fun _ k => XS.ifNo X0.here hx rfl (hb hby d4_33) rfl ((if0 _ _).trans (feq hc33).1) k) ?_
      show own_Fin p.tables e below _ (s₁.setTop (mkF m 36 #[.val (.int p1), .val (.int p2), .val (.int p3), .val (.int ((2 : Int32) + ((5 : Int32) * p2))), .val (.int (((((p1.toUInt32 >>> (((2 : Int32) + ((5 : Int32) * p2)) &&& 31).toUInt32).toInt32) &&& (7 : Int32)) % (p3 + (2 : Int32))) - (1 : Int32)))] []))
      refine own_go (X0.ldcInt hx hown (mvT hZ (hw _ (List.mem_of_getElem? (i := 64) rfl))) (g := (mkF m 36 #[.val (.int p1), .val (.int p2), .val (.int p3), .val (.int ((2 : Int32) + ((5 : Int32) * p2))), .val (.int (((((p1.toUInt32 >>> (((2 : Int32) + ((5 : Int32) * p2)) &&& 31).toUInt32).toInt32) &&& (7 : Int32)) % (p3 + (2 : Int32))) - (1 : Int32)))] [])) rfl (hb hby d4_36)) ?_
      show own_Fin p.tables e below _ (s₁.setTop (mkF m 38 #[.val (.int p1), .val (.int p2), .val (.int p3), .val (.int ((2 : Int32) + ((5 : Int32) * p2))), .val (.int (((((p1.toUInt32 >>> (((2 : Int32) + ((5 : Int32) * p2)) &&& 31).toUInt32).toInt32) &&& (7 : Int32)) % (p3 + (2 : Int32))) - (1 : Int32)))] [(.int (-2147483648 : Int32))]))
      refine own_go (fun _ k => XS.istore X0.here hx rfl (hb hby d4_38) rfl (l' := #[.val (.int p1), .val (.int p2), .val (.int p3), .val (.int ((2 : Int32) + ((5 : Int32) * p2))), .val (.int (-2147483648 : Int32))]) rfl k) ?_
      show own_Fin p.tables e below _ (s₁.setTop (mkF m 40 #[.val (.int p1), .val (.int p2), .val (.int p3), .val (.int ((2 : Int32) + ((5 : Int32) * p2))), .val (.int (-2147483648 : Int32))] []))
      refine own_go (fun _ k => XS.iload X0.here hx rfl (hb hby d4_40) rfl k) ?_
      show own_Fin p.tables e below _ (s₁.setTop (mkF m 42 #[.val (.int p1), .val (.int p2), .val (.int p3), .val (.int ((2 : Int32) + ((5 : Int32) * p2))), .val (.int (-2147483648 : Int32))] [(.int (-2147483648 : Int32))]))
      obtain ⟨fs, hr, hrun, hended, hW, hsame⟩ := X0.leave (v := some (.int (-2147483648 : Int32))) (fun h => by rw [Bd.returns] at h; cases h)
      refine ⟨_, _, ?_, hrun, hended, _, _, rfl, ?_, ⟨_, rfl⟩, hW, hsame.mono (by decide) (by decide)⟩
      · exact own_retI X0 hx Bd.returns (hb hby d4_42) hr
      · show Q_own_limit Z p1 p2 p3 h0 n0 _ s₁.heap _
        rw [e0]
        exact ⟨(-2147483648 : Int32), rfl, N0, rfl, (own_minv h1)⟩
  · refine own_go (fun _ k => XS.icmpYes X0.here hx rfl (pc0 := 23) (pc' := 40) rfl (hb hby d4_23) rfl (feq hc23).2 (by decide) (by decide) k) ?_
    show own_Fin p.tables e below _ (s₁.setTop (mkF m 40 #[.val (.int p1), .val (.int p2), .val (.int p3), .val (.int ((2 : Int32) + ((5 : Int32) * p2))), .val (.int (((((p1.toUInt32 >>> (((2 : Int32) + ((5 : Int32) * p2)) &&& 31).toUInt32).toInt32) &&& (7 : Int32)) % (p3 + (2 : Int32))) - (1 : Int32)))] []))
    refine own_go (fun _ k => XS.iload X0.here hx rfl (hb hby d4_40) rfl k) ?_
    show own_Fin p.tables e below _ (s₁.setTop (mkF m 42 #[.val (.int p1), .val (.int p2), .val (.int p3), .val (.int ((2 : Int32) + ((5 : Int32) * p2))), .val (.int (((((p1.toUInt32 >>> (((2 : Int32) + ((5 : Int32) * p2)) &&& 31).toUInt32).toInt32) &&& (7 : Int32)) % (p3 + (2 : Int32))) - (1 : Int32)))] [(.int (((((p1.toUInt32 >>> (((2 : Int32) + ((5 : Int32) * p2)) &&& 31).toUInt32).toInt32) &&& (7 : Int32)) % (p3 + (2 : Int32))) - (1 : Int32)))]))
    obtain ⟨fs, hr, hrun, hended, hW, hsame⟩ := X0.leave (v := some (.int (((((p1.toUInt32 >>> (((2 : Int32) + ((5 : Int32) * p2)) &&& 31).toUInt32).toInt32) &&& (7 : Int32)) % (p3 + (2 : Int32))) - (1 : Int32)))) (fun h => by rw [Bd.returns] at h; cases h)
    refine ⟨_, _, ?_, hrun, hended, _, _, rfl, ?_, ⟨_, rfl⟩, hW, hsame.mono (by decide) (by decide)⟩
    · exact own_retI X0 hx Bd.returns (hb hby d4_42) hr
    · show Q_own_limit Z p1 p2 p3 h0 n0 _ s₁.heap _
      rw [e0]
      exact ⟨(((((p1.toUInt32 >>> (((2 : Int32) + ((5 : Int32) * p2)) &&& 31).toUInt32).toInt32) &&& (7 : Int32)) % (p3 + (2 : Int32))) - (1 : Int32)), rfl, N0, rfl, (own_lim _ _ h1 h2)⟩
def Q_own_window (Z : State) (p1 : Int32) (p2 : Int32) (q3 : Int64) (h0 : Heap) (n0 : Nat) (v : Option Value) (h : Heap) (L : List Loc) : Prop := ∃ (ww : Int64), v = some (.long ww) ∧ Fr n0 L ∧ h = h0 ∧ 0 ≤ ww.toInt
theorem ef_own_window (m : MethodId) (x0 : Int32) (x1 : Int32) (x2 : Int64) : entryFrame m #[(.int x0), (.int x1), (.long x2)] 4 = mkF m 0 #[.val (.int x0), .val (.int x1), .val (.long x2), .second] [] := by first | (simp [entryFrame, mkF, argsToLocals, Value.category]; done) | rfl
set_option maxRecDepth 65536 in
set_option maxHeartbeats 40000000 in
theorem own_window (l : Launch) (Z : State) (a0 : Array Value) (hw : ∀ d ∈ tables_1, d.before a0 Z = true) (ws : List Jvm.Cond) (p1 : Int32) (p2 : Int32) (q3 : Int64) (h0 : Heap) (n0 : Nat) (Z0 : n0 ≤ h0.size) (h1 : 0 ≤ q3.toInt) :
    MetFree l (⟨"com/example/ferrybell/ferrybell/runtime/RestartsTryRestartPinLaw", "window", "(IIJ)J"⟩ : MethodName) (head1 (Jvm.Cond.code (⟨"com/example/ferrybell/ferrybell/runtime/RestartsTryRestartPinLaw", "window", "(IIJ)J"⟩ : MethodName) method_5_code 4 (some .long) :: ws) ({ frames := 0, cells := 0, slots := 0, locals := 0 } : Room)) (fun a U => a = #[(.int p1), (.int p2), (.long q3)] ∧ Z.Warmed39 U.vm ∧ U.heap = h0) (fun _ _ _ _ _ => True) (fun _ U o U' => ∃ v L, o = .returned v ∧ Q_own_window Z p1 p2 q3 h0 n0 v U'.heap L ∧ FrameEnd U o U' L ({ frames := 0, cells := 0, slots := 0, locals := 0 } : Room).cells ({ frames := 0, cells := 0, slots := 0, locals := 0 } : Room).slots) := by
  refine MetFree.of_bodySF (plainFor_of_name own_pn0) hisR ?_
  intro p e s m args below meth c s₁ Bd hml0 hP hK
  obtain ⟨rfl, hZ, hh⟩ := hP
  have hx := Bd.exec
  have hby := Bd.bytes
  have hml : c.maxLocals = 4 := hml0
  have hown : s.vm.findClass "com/example/ferrybell/ferrybell/runtime/RestartsTryRestartPinLaw" = some m.cls := findClass_of_methodNamed Bd.named
  have hnm := (name_of_methodNamed Bd.named Bd.method).1
  have X0 : Stand p l e ({ frames := 0, cells := 0, slots := 0, locals := 0 } : Room) s m #[(.int p1), (.int p2), (.long q3)] below meth c s₁ [] 0 0 := Stand.of_body Bd
  have e0 : s₁.heap = h0 := by rw [← hh, Bd.state]; rfl
  have N0 := Fr.nil n0
  show own_Fin p.tables e below _ (s₁.setTop (entryFrame m #[(.int p1), (.int p2), (.long q3)] 4))
  refine own_go (fun _ k => castTop (ef_own_window m p1 p2 q3) k) ?_
  show own_Fin p.tables e below _ (s₁.setTop (mkF m 0 #[.val (.int p1), .val (.int p2), .val (.long q3), .second] []))
  refine own_go (fun _ k => XS.iloadN X0.here hx rfl (hb hby d5_0) rfl k) ?_
  show own_Fin p.tables e below _ (s₁.setTop (mkF m 1 #[.val (.int p1), .val (.int p2), .val (.long q3), .second] [(.int p1)]))
  refine own_go (fun _ k => XS.iconst X0.here hx rfl (hb hby d5_1) k) ?_
  show own_Fin p.tables e below _ (s₁.setTop (mkF m 2 #[.val (.int p1), .val (.int p2), .val (.long q3), .second] [(.int (2 : Int32)), (.int p1)]))
  refine own_go (fun _ k => XS.iconst X0.here hx rfl (hb hby d5_2) k) ?_
  show own_Fin p.tables e below _ (s₁.setTop (mkF m 3 #[.val (.int p1), .val (.int p2), .val (.long q3), .second] [(.int (5 : Int32)), (.int (2 : Int32)), (.int p1)]))
  refine own_go (fun _ k => XS.iloadN X0.here hx rfl (hb hby d5_3) rfl k) ?_
  show own_Fin p.tables e below _ (s₁.setTop (mkF m 4 #[.val (.int p1), .val (.int p2), .val (.long q3), .second] [(.int p2), (.int (5 : Int32)), (.int (2 : Int32)), (.int p1)]))
  refine own_go (fun _ k => XS.imul X0.here hx rfl (hb hby d5_4) rfl k) ?_
  show own_Fin p.tables e below _ (s₁.setTop (mkF m 5 #[.val (.int p1), .val (.int p2), .val (.long q3), .second] [(.int ((5 : Int32) * p2)), (.int (2 : Int32)), (.int p1)]))
  refine own_go (fun _ k => XS.iadd X0.here hx rfl (hb hby d5_5) rfl k) ?_
  show own_Fin p.tables e below _ (s₁.setTop (mkF m 6 #[.val (.int p1), .val (.int p2), .val (.long q3), .second] [(.int ((2 : Int32) + ((5 : Int32) * p2))), (.int p1)]))
  refine own_go (fun _ k => XS.iconst X0.here hx rfl (hb hby d5_6) k) ?_
  show own_Fin p.tables e below _ (s₁.setTop (mkF m 7 #[.val (.int p1), .val (.int p2), .val (.long q3), .second] [(.int (4 : Int32)), (.int ((2 : Int32) + ((5 : Int32) * p2))), (.int p1)]))
  refine own_go (fun _ k => XS.iadd X0.here hx rfl (hb hby d5_7) rfl k) ?_
  show own_Fin p.tables e below _ (s₁.setTop (mkF m 8 #[.val (.int p1), .val (.int p2), .val (.long q3), .second] [(.int (((2 : Int32) + ((5 : Int32) * p2)) + (4 : Int32))), (.int p1)]))
  refine own_go (fun _ k => XS.iushr X0.here hx rfl (hb hby d5_8) rfl k) ?_
  show own_Fin p.tables e below _ (s₁.setTop (mkF m 9 #[.val (.int p1), .val (.int p2), .val (.long q3), .second] [(.int ((p1.toUInt32 >>> ((((2 : Int32) + ((5 : Int32) * p2)) + (4 : Int32)) &&& 31).toUInt32).toInt32))]))
  refine own_go (fun _ k => XS.iconst X0.here hx rfl (hb hby d5_9) k) ?_
  show own_Fin p.tables e below _ (s₁.setTop (mkF m 10 #[.val (.int p1), .val (.int p2), .val (.long q3), .second] [(.int (1 : Int32)), (.int ((p1.toUInt32 >>> ((((2 : Int32) + ((5 : Int32) * p2)) + (4 : Int32)) &&& 31).toUInt32).toInt32))]))
  refine own_go (fun _ k => XS.iand X0.here hx rfl (hb hby d5_10) rfl k) ?_
  show own_Fin p.tables e below _ (s₁.setTop (mkF m 11 #[.val (.int p1), .val (.int p2), .val (.long q3), .second] [(.int (((p1.toUInt32 >>> ((((2 : Int32) + ((5 : Int32) * p2)) + (4 : Int32)) &&& 31).toUInt32).toInt32) &&& (1 : Int32)))]))
  by_cases hc11 : (((p1.toUInt32 >>> ((((2 : Int32) + ((5 : Int32) * p2)) + (4 : Int32)) &&& 31).toUInt32).toInt32) &&& (1 : Int32)) = (0 : Int32)
  · refine own_go (fun _ k => XS.ifYes X0.here hx rfl (pc0 := 11) (pc' := 18) rfl (hb hby d5_11) rfl ((if0 _ _).trans (teq hc11).1) (by decide) (by decide) k) ?_
    show own_Fin p.tables e below _ (s₁.setTop (mkF m 18 #[.val (.int p1), .val (.int p2), .val (.long q3), .second] []))
    refine own_go (fun _ k => XS.lloadN X0.here hx rfl (hb hby d5_18) rfl k) ?_
    show own_Fin p.tables e below _ (s₁.setTop (mkF m 19 #[.val (.int p1), .val (.int p2), .val (.long q3), .second] [(.long q3)]))
    obtain ⟨fs, hr, hrun, hended, hW, hsame⟩ := X0.leave (v := some (.long q3)) (fun h => by rw [Bd.returns] at h; cases h)
    refine ⟨_, _, ?_, hrun, hended, _, _, rfl, ?_, ⟨_, rfl⟩, hW, hsame.mono (by decide) (by decide)⟩
    · jvm_step X0.here [X0.here.top, hx, (hb hby d5_19), X0.method', Bd.returns, narrow]
      first | (intro acts; rw [hr _ acts rfl rfl rfl]) | rw [hr _ _ rfl rfl rfl]
      exact Steps.refl _
    · show Q_own_window Z p1 p2 q3 h0 n0 _ s₁.heap _
      rw [e0]
      exact ⟨q3, rfl, N0, rfl, h1⟩
  · refine own_go (fun _ k => XS.ifNo X0.here hx rfl (hb hby d5_11) rfl ((if0 _ _).trans (feq hc11).1) k) ?_
    show own_Fin p.tables e below _ (s₁.setTop (mkF m 14 #[.val (.int p1), .val (.int p2), .val (.long q3), .second] []))
    refine own_go (fun _ k => XS.lconst X0.here hx rfl (hb hby d5_14) k) ?_
    show own_Fin p.tables e below _ (s₁.setTop (mkF m 15 #[.val (.int p1), .val (.int p2), .val (.long q3), .second] [(.long (0 : Int64))]))
    refine own_go (fun _ k => XS.goto X0.here hx rfl (pc0 := 15) (pc' := 19) rfl (hb hby d5_15) (by decide) (by decide) k) ?_
    show own_Fin p.tables e below _ (s₁.setTop (mkF m 19 #[.val (.int p1), .val (.int p2), .val (.long q3), .second] [(.long (0 : Int64))]))
    obtain ⟨fs, hr, hrun, hended, hW, hsame⟩ := X0.leave (v := some (.long (0 : Int64))) (fun h => by rw [Bd.returns] at h; cases h)
    refine ⟨_, _, ?_, hrun, hended, _, _, rfl, ?_, ⟨_, rfl⟩, hW, hsame.mono (by decide) (by decide)⟩
    · jvm_step X0.here [X0.here.top, hx, (hb hby d5_19), X0.method', Bd.returns, narrow]
      first | (intro acts; rw [hr _ acts rfl rfl rfl]) | rw [hr _ _ rfl rfl rfl]
      exact Steps.refl _
    · show Q_own_window Z p1 p2 q3 h0 n0 _ s₁.heap _
      rw [e0]
      exact ⟨(0 : Int64), rfl, N0, rfl, (by decide)⟩
theorem own_histlen {ts : List Int64} (h : ts.length ≤ 4) : (own_hist ts).length = 5 := by simp [own_hist]; omega
theorem own_histset {ts : List Int64} {t : Int64} (h : ts.length ≤ 4) : (own_hist ts).set ts.length (.long t) = own_hist (ts ++ [t]) := by
  rcases ts with _ | ⟨t0, _ | ⟨t1, _ | ⟨t2, _ | ⟨t3, _ | ⟨t4, r⟩⟩⟩⟩⟩
  · rfl
  · rfl
  · rfl
  · rfl
  · rfl
  · simp at h
theorem own_histat (ts : List Int64) (j : Nat) : (own_hist ts).getD j (.long (0 : Int64)) = Value.long (ts.getD j 0) := by
  unfold own_hist
  rw [pad_rep]
  simp only [List.getD_eq_getElem?_getD, List.getElem?_map]
  cases ts[j]? <;> rfl
theorem own_c32i {ts : List Int64} (h : ts.length ≤ 4) : (own_c32 ts).toInt = ts.length := Int32.toInt_ofNat_of_lt (by omega)
theorem own_c32n {ts : List Int64} (h : ts.length ≤ 4) : (own_c32 ts).toNatClampNeg = ts.length := by simp only [Int32.toNatClampNeg, own_c32i h]; rfl
theorem own_c32s {ts : List Int64} {t : Int64} (h : ts.length ≤ 4) : own_c32 ts + (1 : Int32) = own_c32 (ts ++ [t]) := by
  apply Int32.toInt_inj.mp
  have a := c_iadd (own_c32 ts) (1 : Int32)
  have e : (1 : Int32).toInt = 1 := rfl
  have b1 := Int32.toInt_lt (own_c32 ts + (1 : Int32)); have b2 := Int32.le_toInt (own_c32 ts + (1 : Int32))
  have d : (own_c32 (ts ++ [t])).toInt = ((ts ++ [t]).length : Nat) := Int32.toInt_ofNat_of_lt (by simp; omega)
  rw [own_c32i h] at a
  simp at d
  omega
theorem own_cin {ts : List Int64} (h : ts.length ≤ 4) : ¬ own_c32 ts < 0 ∧ own_c32 ts < (5 : Int32) := by
  rw [Int32.lt_iff_toInt_lt, Int32.lt_iff_toInt_lt, own_c32i h, show (0 : Int32).toInt = 0 from rfl, show (5 : Int32).toInt = 5 from rfl]
  omega
theorem own_cm {ts : List Int64} {m : Int32} (h : ts.length ≤ 4) (h1 : ¬ (m < (0 : Int32))) (h2 : ¬ (own_c32 ts < m)) : ¬ (own_c32 ts - m) < 0 ∧ (own_c32 ts - m) < (5 : Int32) := by
  rw [Int32.lt_iff_toInt_lt] at h1 h2
  have a := c_isub (own_c32 ts) m
  have b1 := Int32.toInt_lt (own_c32 ts - m); have b2 := Int32.le_toInt (own_c32 ts - m)
  rw [own_c32i h] at a h2
  have e0 : (0 : Int32).toInt = 0 := rfl
  have e5 : (5 : Int32).toInt = 5 := rfl
  rw [Int32.lt_iff_toInt_lt, Int32.lt_iff_toInt_lt]
  omega
def Q_own_expected (Z : State) (a1 : Addr) (a2 : Addr) (p3 : Int32) (q4 : Int64) (q5 : Int64) (kh : ClassId) (kn : ClassId) (ts : List Int64) (h0 : Heap) (n0 : Nat) (v : Option Value) (h : Heap) (L : List Loc) : Prop := ∃ (bb : Int32) (tq : List Int64), v = some (.int bb) ∧ Fr n0 L ∧ Keep h0 h [a1, a2] ∧ own_res bb (own_ok ts p3 q4 q5) ts q5 tq ∧ Arv Z h a1 kh .long (5 : Int32) (own_hist tq) (.long (0 : Int64)) ∧ Arv Z h a2 kn .int (1 : Int32) [(.int (own_c32 tq))] (.int (0 : Int32))
theorem ef_own_expected (m : MethodId) (x0 : Addr) (x1 : Addr) (x2 : Int32) (x3 : Int64) (x4 : Int64) : entryFrame m #[(.ref x0), (.ref x1), (.int x2), (.long x3), (.long x4)] 9 = mkF m 0 #[.val (.ref x0), .val (.ref x1), .val (.int x2), .val (.long x3), .second, .val (.long x4), .second, .unset, .unset] [] := by first | (simp [entryFrame, mkF, argsToLocals, Value.category]; done) | rfl
set_option maxRecDepth 65536 in
set_option maxHeartbeats 40000000 in
theorem own_expected (l : Launch) (Z : State) (a0 : Array Value) (hw : ∀ d ∈ tables_1, d.before a0 Z = true) (ws : List Jvm.Cond) (a1 : Addr) (a2 : Addr) (p3 : Int32) (q4 : Int64) (q5 : Int64) (kh : ClassId) (kn : ClassId) (ts : List Int64) (h0 : Heap) (n0 : Nat) (Z0 : n0 ≤ h0.size) (Vh : Arv Z h0 a1 kh .long (5 : Int32) (own_hist ts) (.long (0 : Int64))) (Vn : Arv Z h0 a2 kn .int (1 : Int32) [(.int (own_c32 ts))] (.int (0 : Int32))) (ne : a1 ≠ a2) (g1 : n0 ≤ a1) (g2 : n0 ≤ a2) (hl : ts.length ≤ 4) :
    MetFree l (⟨"com/example/ferrybell/ferrybell/runtime/RestartsTryRestartPinLaw", "expected", "([J[IIJJ)Z"⟩ : MethodName) (head1 (Jvm.Cond.code (⟨"com/example/ferrybell/ferrybell/runtime/RestartsTryRestartPinLaw", "expected", "([J[IIJJ)Z"⟩ : MethodName) method_3_code 9 (some .boolean) :: ws) ({ frames := 1, cells := 0, slots := 0, locals := 15 } : Room)) (fun a U => a = #[(.ref a1), (.ref a2), (.int p3), (.long q4), (.long q5)] ∧ Z.Warmed39 U.vm ∧ U.heap = h0) (fun _ _ _ _ _ => True) (fun _ U o U' => ∃ v L, o = .returned v ∧ Q_own_expected Z a1 a2 p3 q4 q5 kh kn ts h0 n0 v U'.heap L ∧ FrameEnd U o U' L ({ frames := 1, cells := 0, slots := 0, locals := 15 } : Room).cells ({ frames := 1, cells := 0, slots := 0, locals := 15 } : Room).slots) := by
  refine MetFree.of_bodySF (plainFor_of_name own_pn0) hisR ?_
  intro p e s m args below meth c s₁ Bd hml0 hP hK
  obtain ⟨rfl, hZ, hh⟩ := hP
  have hx := Bd.exec
  have hby := Bd.bytes
  have hml : c.maxLocals = 9 := hml0
  have hown : s.vm.findClass "com/example/ferrybell/ferrybell/runtime/RestartsTryRestartPinLaw" = some m.cls := findClass_of_methodNamed Bd.named
  have hnm := (name_of_methodNamed Bd.named Bd.method).1
  have X0 : Stand p l e ({ frames := 1, cells := 0, slots := 0, locals := 15 } : Room) s m #[(.ref a1), (.ref a2), (.int p3), (.long q4), (.long q5)] below meth c s₁ [] 0 0 := Stand.of_body Bd
  have e0 : s₁.heap = h0 := by rw [← hh, Bd.state]; rfl
  have N0 := Fr.nil n0
  show own_Fin p.tables e below _ (s₁.setTop (entryFrame m #[(.ref a1), (.ref a2), (.int p3), (.long q4), (.long q5)] 9))
  refine own_go (fun _ k => castTop (ef_own_expected m a1 a2 p3 q4 q5) k) ?_
  show own_Fin p.tables e below _ (s₁.setTop (mkF m 0 #[.val (.ref a1), .val (.ref a2), .val (.int p3), .val (.long q4), .second, .val (.long q5), .second, .unset, .unset] []))
  refine own_go (fun _ k => XS.aloadN X0.here hx rfl (hb hby d6_0) rfl rfl k) ?_
  show own_Fin p.tables e below _ (s₁.setTop (mkF m 1 #[.val (.ref a1), .val (.ref a2), .val (.int p3), .val (.long q4), .second, .val (.long q5), .second, .unset, .unset] [(.ref a2)]))
  refine own_go (fun _ k => XS.iconst X0.here hx rfl (hb hby d6_1) k) ?_
  show own_Fin p.tables e below _ (s₁.setTop (mkF m 2 #[.val (.ref a1), .val (.ref a2), .val (.int p3), .val (.long q4), .second, .val (.long q5), .second, .unset, .unset] [(.int (0 : Int32)), (.ref a2)]))
  obtain ⟨cl1, Ar1, q1, S1, B1, H1, G1⟩ := id Vn
  have in1 : ¬ ((0 : Int32) < 0 ∨ cl1.slots.size ≤ ((0 : Int32)).toNatClampNeg) := inb_of S1 ⟨by decide, by decide⟩
  have at1 : cl1.slots[((0 : Int32)).toNatClampNeg]? = some (.int (own_c32 ts)) := Has.at H1 in1 rfl
  refine own_go (X0.iaload hx (j := (0 : Int32)) (v := (.int (own_c32 ts))) (by rw [e0]; exact Ar1.1) (State.isArrayOf_alike hZ.alike Ar1.2.1) Ar1.2.2 in1 at1 (g := (mkF m 2 #[.val (.ref a1), .val (.ref a2), .val (.int p3), .val (.long q4), .second, .val (.long q5), .second, .unset, .unset] [(.int (0 : Int32)), (.ref a2)])) rfl rfl (hb hby d6_2)) ?_
  show own_Fin p.tables e below _ (s₁.setTop (mkF m 3 #[.val (.ref a1), .val (.ref a2), .val (.int p3), .val (.long q4), .second, .val (.long q5), .second, .unset, .unset] [(.int (own_c32 ts))]))
  refine own_go (fun _ k => XS.istore X0.here hx rfl (hb hby d6_3) rfl (l' := #[.val (.ref a1), .val (.ref a2), .val (.int p3), .val (.long q4), .second, .val (.long q5), .second, .val (.int (own_c32 ts)), .unset]) rfl k) ?_
  show own_Fin p.tables e below _ (s₁.setTop (mkF m 5 #[.val (.ref a1), .val (.ref a2), .val (.int p3), .val (.long q4), .second, .val (.long q5), .second, .val (.int (own_c32 ts)), .unset] []))
  refine own_go (fun _ k => XS.iloadN X0.here hx rfl (hb hby d6_5) rfl k) ?_
  show own_Fin p.tables e below _ (s₁.setTop (mkF m 6 #[.val (.ref a1), .val (.ref a2), .val (.int p3), .val (.long q4), .second, .val (.long q5), .second, .val (.int (own_c32 ts)), .unset] [(.int p3)]))
  by_cases hc6 : p3 < (0 : Int32)
  · refine own_go (fun _ k => XS.ifYes X0.here hx rfl (pc0 := 6) (pc' := 15) rfl (hb hby d6_6) rfl ((if0 _ _).trans (tlt hc6).1) (by decide) (by decide) k) ?_
    show own_Fin p.tables e below _ (s₁.setTop (mkF m 15 #[.val (.ref a1), .val (.ref a2), .val (.int p3), .val (.long q4), .second, .val (.long q5), .second, .val (.int (own_c32 ts)), .unset] []))
    refine own_go (fun _ k => XS.iconst X0.here hx rfl (hb hby d6_15) k) ?_
    show own_Fin p.tables e below _ (s₁.setTop (mkF m 16 #[.val (.ref a1), .val (.ref a2), .val (.int p3), .val (.long q4), .second, .val (.long q5), .second, .val (.int (own_c32 ts)), .unset] [(.int (1 : Int32))]))
    refine own_go (fun _ k => XS.istore X0.here hx rfl (hb hby d6_16) rfl (l' := #[.val (.ref a1), .val (.ref a2), .val (.int p3), .val (.long q4), .second, .val (.long q5), .second, .val (.int (own_c32 ts)), .val (.int (1 : Int32))]) rfl k) ?_
    show own_Fin p.tables e below _ (s₁.setTop (mkF m 18 #[.val (.ref a1), .val (.ref a2), .val (.int p3), .val (.long q4), .second, .val (.long q5), .second, .val (.int (own_c32 ts)), .val (.int (1 : Int32))] []))
    refine own_go (fun _ k => XS.goto X0.here hx rfl (pc0 := 18) (pc' := 61) rfl (hb hby d6_18) (by decide) (by decide) k) ?_
    show own_Fin p.tables e below _ (s₁.setTop (mkF m 61 #[.val (.ref a1), .val (.ref a2), .val (.int p3), .val (.long q4), .second, .val (.long q5), .second, .val (.int (own_c32 ts)), .val (.int (1 : Int32))] []))
    refine own_go (fun _ k => XS.iload X0.here hx rfl (hb hby d6_61) rfl k) ?_
    show own_Fin p.tables e below _ (s₁.setTop (mkF m 63 #[.val (.ref a1), .val (.ref a2), .val (.int p3), .val (.long q4), .second, .val (.long q5), .second, .val (.int (own_c32 ts)), .val (.int (1 : Int32))] [(.int (1 : Int32))]))
    refine own_go (fun _ k => XS.ifNo X0.here hx rfl (hb hby d6_63) rfl ((if0 _ _).trans (feq (by decide : ¬ ((1 : Int32) = (0 : Int32)))).1) k) ?_
    show own_Fin p.tables e below _ (s₁.setTop (mkF m 66 #[.val (.ref a1), .val (.ref a2), .val (.int p3), .val (.long q4), .second, .val (.long q5), .second, .val (.int (own_c32 ts)), .val (.int (1 : Int32))] []))
    refine own_go (fun _ k => XS.aloadN X0.here hx rfl (hb hby d6_66) rfl rfl k) ?_
    show own_Fin p.tables e below _ (s₁.setTop (mkF m 67 #[.val (.ref a1), .val (.ref a2), .val (.int p3), .val (.long q4), .second, .val (.long q5), .second, .val (.int (own_c32 ts)), .val (.int (1 : Int32))] [(.ref a1)]))
    refine own_go (fun _ k => XS.iload X0.here hx rfl (hb hby d6_67) rfl k) ?_
    show own_Fin p.tables e below _ (s₁.setTop (mkF m 69 #[.val (.ref a1), .val (.ref a2), .val (.int p3), .val (.long q4), .second, .val (.long q5), .second, .val (.int (own_c32 ts)), .val (.int (1 : Int32))] [(.int (own_c32 ts)), (.ref a1)]))
    refine own_go (fun _ k => XS.lload X0.here hx rfl (hb hby d6_69) rfl k) ?_
    show own_Fin p.tables e below _ (s₁.setTop (mkF m 71 #[.val (.ref a1), .val (.ref a2), .val (.int p3), .val (.long q4), .second, .val (.long q5), .second, .val (.int (own_c32 ts)), .val (.int (1 : Int32))] [(.long q5), (.int (own_c32 ts)), (.ref a1)]))
    obtain ⟨cl2, Ar2, q2, S2, B2, H2, G2⟩ := Vh
    have in2 : ¬ ((own_c32 ts) < 0 ∨ cl2.slots.size ≤ ((own_c32 ts)).toNatClampNeg) := inb_of S2 (own_cin hl)
    obtain ⟨T3, h3, X3, e3, W3, st3⟩ := stJ X0 hx hZ e0 Ar2 (j := (own_c32 ts)) in2 (g := (mkF m 71 #[.val (.ref a1), .val (.ref a2), .val (.int p3), .val (.long q4), .second, .val (.long q5), .second, .val (.int (own_c32 ts)), .val (.int (1 : Int32))] [(.long q5), (.int (own_c32 ts)), (.ref a1)])) rfl rfl (hb hby d6_71)
    refine own_go st3 ?_
    have f4_1 : Arv Z h3 a2 kn .int (1 : Int32) [(.int (own_c32 ts))] (.int (0 : Int32)) := Vn.other W3 (Ne.symm ne)
    have V3 : Arv Z h3 a1 kh .long (5 : Int32) (List.set (own_hist ts) ts.length (.long q5)) (.long (0 : Int64)) := Arv.set Ar2 q2 S2 B2 H2 G2 rfl W3 ts.length (own_c32n hl) (by rw [own_histlen hl]; omega)
    have N3 := Fr.snoc X3 N0 g1
    have K5 : Keep h0 h3 [a1, a2] := Keep.wr (Keep.refl h0 [a1, a2]) W3 (Or.inl (List.mem_of_getElem? (i := 0) rfl))
    have Z6 : n0 ≤ h3.size := Nat.le_trans Z0 (Keep.of_wr W3).1
    show own_Fin p.tables e below _ (T3.setTop (mkF m 72 #[.val (.ref a1), .val (.ref a2), .val (.int p3), .val (.long q4), .second, .val (.long q5), .second, .val (.int (own_c32 ts)), .val (.int (1 : Int32))] []))
    refine own_go (fun _ k => XS.aloadN X3.here hx rfl (hb hby d6_72) rfl rfl k) ?_
    show own_Fin p.tables e below _ (T3.setTop (mkF m 73 #[.val (.ref a1), .val (.ref a2), .val (.int p3), .val (.long q4), .second, .val (.long q5), .second, .val (.int (own_c32 ts)), .val (.int (1 : Int32))] [(.ref a2)]))
    refine own_go (fun _ k => XS.iconst X3.here hx rfl (hb hby d6_73) k) ?_
    show own_Fin p.tables e below _ (T3.setTop (mkF m 74 #[.val (.ref a1), .val (.ref a2), .val (.int p3), .val (.long q4), .second, .val (.long q5), .second, .val (.int (own_c32 ts)), .val (.int (1 : Int32))] [(.int (0 : Int32)), (.ref a2)]))
    refine own_go (fun _ k => XS.iload X3.here hx rfl (hb hby d6_74) rfl k) ?_
    show own_Fin p.tables e below _ (T3.setTop (mkF m 76 #[.val (.ref a1), .val (.ref a2), .val (.int p3), .val (.long q4), .second, .val (.long q5), .second, .val (.int (own_c32 ts)), .val (.int (1 : Int32))] [(.int (own_c32 ts)), (.int (0 : Int32)), (.ref a2)]))
    refine own_go (fun _ k => XS.iconst X3.here hx rfl (hb hby d6_76) k) ?_
    show own_Fin p.tables e below _ (T3.setTop (mkF m 77 #[.val (.ref a1), .val (.ref a2), .val (.int p3), .val (.long q4), .second, .val (.long q5), .second, .val (.int (own_c32 ts)), .val (.int (1 : Int32))] [(.int (1 : Int32)), (.int (own_c32 ts)), (.int (0 : Int32)), (.ref a2)]))
    refine own_go (fun _ k => XS.iadd X3.here hx rfl (hb hby d6_77) rfl k) ?_
    show own_Fin p.tables e below _ (T3.setTop (mkF m 78 #[.val (.ref a1), .val (.ref a2), .val (.int p3), .val (.long q4), .second, .val (.long q5), .second, .val (.int (own_c32 ts)), .val (.int (1 : Int32))] [(.int ((own_c32 ts) + (1 : Int32))), (.int (0 : Int32)), (.ref a2)]))
    obtain ⟨cl7, Ar7, q7, S7, B7, H7, G7⟩ := f4_1
    have in7 : ¬ ((0 : Int32) < 0 ∨ cl7.slots.size ≤ ((0 : Int32)).toNatClampNeg) := inb_of S7 ⟨by decide, by decide⟩
    obtain ⟨T8, h8, X8, e8, W8, st8⟩ := stI X3 hx hZ e3 Ar7 (j := (0 : Int32)) in7 (g := (mkF m 78 #[.val (.ref a1), .val (.ref a2), .val (.int p3), .val (.long q4), .second, .val (.long q5), .second, .val (.int (own_c32 ts)), .val (.int (1 : Int32))] [(.int ((own_c32 ts) + (1 : Int32))), (.int (0 : Int32)), (.ref a2)])) rfl rfl (hb hby d6_78)
    refine own_go st8 ?_
    have f9_1 : Arv Z h8 a1 kh .long (5 : Int32) (List.set (own_hist ts) ts.length (.long q5)) (.long (0 : Int64)) := V3.other W8 ne
    have V8 : Arv Z h8 a2 kn .int (1 : Int32) [(.int ((own_c32 ts) + (1 : Int32)))] (.int (0 : Int32)) := Arv.set Ar7 q7 S7 B7 H7 G7 rfl W8 0 rfl (Nat.le_of_ble_eq_true rfl)
    have N8 := Fr.snoc X8 N3 g2
    have K10 : Keep h0 h8 [a1, a2] := Keep.wr K5 W8 (Or.inl (List.mem_of_getElem? (i := 1) rfl))
    have Z11 : n0 ≤ h8.size := Nat.le_trans Z6 (Keep.of_wr W8).1
    show own_Fin p.tables e below _ (T8.setTop (mkF m 79 #[.val (.ref a1), .val (.ref a2), .val (.int p3), .val (.long q4), .second, .val (.long q5), .second, .val (.int (own_c32 ts)), .val (.int (1 : Int32))] []))
    refine own_go (fun _ k => XS.iload X8.here hx rfl (hb hby d6_79) rfl k) ?_
    show own_Fin p.tables e below _ (T8.setTop (mkF m 81 #[.val (.ref a1), .val (.ref a2), .val (.int p3), .val (.long q4), .second, .val (.long q5), .second, .val (.int (own_c32 ts)), .val (.int (1 : Int32))] [(.int (1 : Int32))]))
    obtain ⟨fs, hr, hrun, hended, hW, hsame⟩ := X8.leave (v := some (.int (1 : Int32))) (fun h => by rw [Bd.returns] at h; cases h)
    refine ⟨_, _, ?_, hrun, hended, _, _, rfl, ?_, ⟨_, rfl⟩, hW, hsame.mono (by decide) (by decide)⟩
    · exact retN X8 hx (t := .boolean) Bd.returns (by simp) (hb hby d6_81) hr
    · show Q_own_expected Z a1 a2 p3 q4 q5 kh kn ts h0 n0 _ T8.heap _
      rw [e8]
      exact ⟨(1 : Int32), (ts ++ [q5]), rfl, N8, K10, (Or.inl ⟨rfl, Or.inl hc6, rfl⟩), (by rw [← own_histset hl]; exact f9_1), (by rw [← own_c32s hl]; exact V8)⟩
  · refine own_go (fun _ k => XS.ifNo X0.here hx rfl (hb hby d6_6) rfl ((if0 _ _).trans (flt hc6).1) k) ?_
    show own_Fin p.tables e below _ (s₁.setTop (mkF m 9 #[.val (.ref a1), .val (.ref a2), .val (.int p3), .val (.long q4), .second, .val (.long q5), .second, .val (.int (own_c32 ts)), .unset] []))
    refine own_go (fun _ k => XS.iload X0.here hx rfl (hb hby d6_9) rfl k) ?_
    show own_Fin p.tables e below _ (s₁.setTop (mkF m 11 #[.val (.ref a1), .val (.ref a2), .val (.int p3), .val (.long q4), .second, .val (.long q5), .second, .val (.int (own_c32 ts)), .unset] [(.int (own_c32 ts))]))
    refine own_go (fun _ k => XS.iloadN X0.here hx rfl (hb hby d6_11) rfl k) ?_
    show own_Fin p.tables e below _ (s₁.setTop (mkF m 12 #[.val (.ref a1), .val (.ref a2), .val (.int p3), .val (.long q4), .second, .val (.long q5), .second, .val (.int (own_c32 ts)), .unset] [(.int p3), (.int (own_c32 ts))]))
    by_cases hc12 : (own_c32 ts) < p3
    · refine own_go (fun _ k => XS.icmpNo X0.here hx rfl (hb hby d6_12) rfl (tlt hc12).2.1 k) ?_
      show own_Fin p.tables e below _ (s₁.setTop (mkF m 15 #[.val (.ref a1), .val (.ref a2), .val (.int p3), .val (.long q4), .second, .val (.long q5), .second, .val (.int (own_c32 ts)), .unset] []))
      refine own_go (fun _ k => XS.iconst X0.here hx rfl (hb hby d6_15) k) ?_
      show own_Fin p.tables e below _ (s₁.setTop (mkF m 16 #[.val (.ref a1), .val (.ref a2), .val (.int p3), .val (.long q4), .second, .val (.long q5), .second, .val (.int (own_c32 ts)), .unset] [(.int (1 : Int32))]))
      refine own_go (fun _ k => XS.istore X0.here hx rfl (hb hby d6_16) rfl (l' := #[.val (.ref a1), .val (.ref a2), .val (.int p3), .val (.long q4), .second, .val (.long q5), .second, .val (.int (own_c32 ts)), .val (.int (1 : Int32))]) rfl k) ?_
      show own_Fin p.tables e below _ (s₁.setTop (mkF m 18 #[.val (.ref a1), .val (.ref a2), .val (.int p3), .val (.long q4), .second, .val (.long q5), .second, .val (.int (own_c32 ts)), .val (.int (1 : Int32))] []))
      refine own_go (fun _ k => XS.goto X0.here hx rfl (pc0 := 18) (pc' := 61) rfl (hb hby d6_18) (by decide) (by decide) k) ?_
      show own_Fin p.tables e below _ (s₁.setTop (mkF m 61 #[.val (.ref a1), .val (.ref a2), .val (.int p3), .val (.long q4), .second, .val (.long q5), .second, .val (.int (own_c32 ts)), .val (.int (1 : Int32))] []))
      refine own_go (fun _ k => XS.iload X0.here hx rfl (hb hby d6_61) rfl k) ?_
      show own_Fin p.tables e below _ (s₁.setTop (mkF m 63 #[.val (.ref a1), .val (.ref a2), .val (.int p3), .val (.long q4), .second, .val (.long q5), .second, .val (.int (own_c32 ts)), .val (.int (1 : Int32))] [(.int (1 : Int32))]))
      refine own_go (fun _ k => XS.ifNo X0.here hx rfl (hb hby d6_63) rfl ((if0 _ _).trans (feq (by decide : ¬ ((1 : Int32) = (0 : Int32)))).1) k) ?_
      show own_Fin p.tables e below _ (s₁.setTop (mkF m 66 #[.val (.ref a1), .val (.ref a2), .val (.int p3), .val (.long q4), .second, .val (.long q5), .second, .val (.int (own_c32 ts)), .val (.int (1 : Int32))] []))
      refine own_go (fun _ k => XS.aloadN X0.here hx rfl (hb hby d6_66) rfl rfl k) ?_
      show own_Fin p.tables e below _ (s₁.setTop (mkF m 67 #[.val (.ref a1), .val (.ref a2), .val (.int p3), .val (.long q4), .second, .val (.long q5), .second, .val (.int (own_c32 ts)), .val (.int (1 : Int32))] [(.ref a1)]))
      refine own_go (fun _ k => XS.iload X0.here hx rfl (hb hby d6_67) rfl k) ?_
      show own_Fin p.tables e below _ (s₁.setTop (mkF m 69 #[.val (.ref a1), .val (.ref a2), .val (.int p3), .val (.long q4), .second, .val (.long q5), .second, .val (.int (own_c32 ts)), .val (.int (1 : Int32))] [(.int (own_c32 ts)), (.ref a1)]))
      refine own_go (fun _ k => XS.lload X0.here hx rfl (hb hby d6_69) rfl k) ?_
      show own_Fin p.tables e below _ (s₁.setTop (mkF m 71 #[.val (.ref a1), .val (.ref a2), .val (.int p3), .val (.long q4), .second, .val (.long q5), .second, .val (.int (own_c32 ts)), .val (.int (1 : Int32))] [(.long q5), (.int (own_c32 ts)), (.ref a1)]))
      obtain ⟨cl12, Ar12, q12, S12, B12, H12, G12⟩ := Vh
      have in12 : ¬ ((own_c32 ts) < 0 ∨ cl12.slots.size ≤ ((own_c32 ts)).toNatClampNeg) := inb_of S12 (own_cin hl)
      obtain ⟨T13, h13, X13, e13, W13, st13⟩ := stJ X0 hx hZ e0 Ar12 (j := (own_c32 ts)) in12 (g := (mkF m 71 #[.val (.ref a1), .val (.ref a2), .val (.int p3), .val (.long q4), .second, .val (.long q5), .second, .val (.int (own_c32 ts)), .val (.int (1 : Int32))] [(.long q5), (.int (own_c32 ts)), (.ref a1)])) rfl rfl (hb hby d6_71)
      refine own_go st13 ?_
      have f14_1 : Arv Z h13 a2 kn .int (1 : Int32) [(.int (own_c32 ts))] (.int (0 : Int32)) := Vn.other W13 (Ne.symm ne)
      have V13 : Arv Z h13 a1 kh .long (5 : Int32) (List.set (own_hist ts) ts.length (.long q5)) (.long (0 : Int64)) := Arv.set Ar12 q12 S12 B12 H12 G12 rfl W13 ts.length (own_c32n hl) (by rw [own_histlen hl]; omega)
      have N13 := Fr.snoc X13 N0 g1
      have K15 : Keep h0 h13 [a1, a2] := Keep.wr (Keep.refl h0 [a1, a2]) W13 (Or.inl (List.mem_of_getElem? (i := 0) rfl))
      have Z16 : n0 ≤ h13.size := Nat.le_trans Z0 (Keep.of_wr W13).1
      show own_Fin p.tables e below _ (T13.setTop (mkF m 72 #[.val (.ref a1), .val (.ref a2), .val (.int p3), .val (.long q4), .second, .val (.long q5), .second, .val (.int (own_c32 ts)), .val (.int (1 : Int32))] []))
      refine own_go (fun _ k => XS.aloadN X13.here hx rfl (hb hby d6_72) rfl rfl k) ?_
      show own_Fin p.tables e below _ (T13.setTop (mkF m 73 #[.val (.ref a1), .val (.ref a2), .val (.int p3), .val (.long q4), .second, .val (.long q5), .second, .val (.int (own_c32 ts)), .val (.int (1 : Int32))] [(.ref a2)]))
      refine own_go (fun _ k => XS.iconst X13.here hx rfl (hb hby d6_73) k) ?_
      show own_Fin p.tables e below _ (T13.setTop (mkF m 74 #[.val (.ref a1), .val (.ref a2), .val (.int p3), .val (.long q4), .second, .val (.long q5), .second, .val (.int (own_c32 ts)), .val (.int (1 : Int32))] [(.int (0 : Int32)), (.ref a2)]))
      refine own_go (fun _ k => XS.iload X13.here hx rfl (hb hby d6_74) rfl k) ?_
      show own_Fin p.tables e below _ (T13.setTop (mkF m 76 #[.val (.ref a1), .val (.ref a2), .val (.int p3), .val (.long q4), .second, .val (.long q5), .second, .val (.int (own_c32 ts)), .val (.int (1 : Int32))] [(.int (own_c32 ts)), (.int (0 : Int32)), (.ref a2)]))
      refine own_go (fun _ k => XS.iconst X13.here hx rfl (hb hby d6_76) k) ?_
      show own_Fin p.tables e below _ (T13.setTop (mkF m 77 #[.val (.ref a1), .val (.ref a2), .val (.int p3), .val (.long q4), .second, .val (.long q5), .second, .val (.int (own_c32 ts)), .val (.int (1 : Int32))] [(.int (1 : Int32)), (.int (own_c32 ts)), (.int (0 : Int32)), (.ref a2)]))
      refine own_go (fun _ k => XS.iadd X13.here hx rfl (hb hby d6_77) rfl k) ?_
      show own_Fin p.tables e below _ (T13.setTop (mkF m 78 #[.val (.ref a1), .val (.ref a2), .val (.int p3), .val (.long q4), .second, .val (.long q5), .second, .val (.int (own_c32 ts)), .val (.int (1 : Int32))] [(.int ((own_c32 ts) + (1 : Int32))), (.int (0 : Int32)), (.ref a2)]))
      obtain ⟨cl17, Ar17, q17, S17, B17, H17, G17⟩ := f14_1
      have in17 : ¬ ((0 : Int32) < 0 ∨ cl17.slots.size ≤ ((0 : Int32)).toNatClampNeg) := inb_of S17 ⟨by decide, by decide⟩
      obtain ⟨T18, h18, X18, e18, W18, st18⟩ := stI X13 hx hZ e13 Ar17 (j := (0 : Int32)) in17 (g := (mkF m 78 #[.val (.ref a1), .val (.ref a2), .val (.int p3), .val (.long q4), .second, .val (.long q5), .second, .val (.int (own_c32 ts)), .val (.int (1 : Int32))] [(.int ((own_c32 ts) + (1 : Int32))), (.int (0 : Int32)), (.ref a2)])) rfl rfl (hb hby d6_78)
      refine own_go st18 ?_
      have f19_1 : Arv Z h18 a1 kh .long (5 : Int32) (List.set (own_hist ts) ts.length (.long q5)) (.long (0 : Int64)) := V13.other W18 ne
      have V18 : Arv Z h18 a2 kn .int (1 : Int32) [(.int ((own_c32 ts) + (1 : Int32)))] (.int (0 : Int32)) := Arv.set Ar17 q17 S17 B17 H17 G17 rfl W18 0 rfl (Nat.le_of_ble_eq_true rfl)
      have N18 := Fr.snoc X18 N13 g2
      have K20 : Keep h0 h18 [a1, a2] := Keep.wr K15 W18 (Or.inl (List.mem_of_getElem? (i := 1) rfl))
      have Z21 : n0 ≤ h18.size := Nat.le_trans Z16 (Keep.of_wr W18).1
      show own_Fin p.tables e below _ (T18.setTop (mkF m 79 #[.val (.ref a1), .val (.ref a2), .val (.int p3), .val (.long q4), .second, .val (.long q5), .second, .val (.int (own_c32 ts)), .val (.int (1 : Int32))] []))
      refine own_go (fun _ k => XS.iload X18.here hx rfl (hb hby d6_79) rfl k) ?_
      show own_Fin p.tables e below _ (T18.setTop (mkF m 81 #[.val (.ref a1), .val (.ref a2), .val (.int p3), .val (.long q4), .second, .val (.long q5), .second, .val (.int (own_c32 ts)), .val (.int (1 : Int32))] [(.int (1 : Int32))]))
      obtain ⟨fs, hr, hrun, hended, hW, hsame⟩ := X18.leave (v := some (.int (1 : Int32))) (fun h => by rw [Bd.returns] at h; cases h)
      refine ⟨_, _, ?_, hrun, hended, _, _, rfl, ?_, ⟨_, rfl⟩, hW, hsame.mono (by decide) (by decide)⟩
      · exact retN X18 hx (t := .boolean) Bd.returns (by simp) (hb hby d6_81) hr
      · show Q_own_expected Z a1 a2 p3 q4 q5 kh kn ts h0 n0 _ T18.heap _
        rw [e18]
        exact ⟨(1 : Int32), (ts ++ [q5]), rfl, N18, K20, (Or.inl ⟨rfl, Or.inr (Or.inl hc12), rfl⟩), (by rw [← own_histset hl]; exact f19_1), (by rw [← own_c32s hl]; exact V18)⟩
    · refine own_go (fun _ k => XS.icmpYes X0.here hx rfl (pc0 := 12) (pc' := 21) rfl (hb hby d6_12) rfl (flt hc12).2.1 (by decide) (by decide) k) ?_
      show own_Fin p.tables e below _ (s₁.setTop (mkF m 21 #[.val (.ref a1), .val (.ref a2), .val (.int p3), .val (.long q4), .second, .val (.long q5), .second, .val (.int (own_c32 ts)), .unset] []))
      refine own_go (fun _ k => XS.iloadN X0.here hx rfl (hb hby d6_21) rfl k) ?_
      show own_Fin p.tables e below _ (s₁.setTop (mkF m 22 #[.val (.ref a1), .val (.ref a2), .val (.int p3), .val (.long q4), .second, .val (.long q5), .second, .val (.int (own_c32 ts)), .unset] [(.int p3)]))
      by_cases hc22 : p3 = (0 : Int32)
      · refine own_go (fun _ k => XS.ifYes X0.here hx rfl (pc0 := 22) (pc' := 31) rfl (hb hby d6_22) rfl ((if0 _ _).trans (teq hc22).1) (by decide) (by decide) k) ?_
        show own_Fin p.tables e below _ (s₁.setTop (mkF m 31 #[.val (.ref a1), .val (.ref a2), .val (.int p3), .val (.long q4), .second, .val (.long q5), .second, .val (.int (own_c32 ts)), .unset] []))
        refine own_go (fun _ k => XS.iconst X0.here hx rfl (hb hby d6_31) k) ?_
        show own_Fin p.tables e below _ (s₁.setTop (mkF m 32 #[.val (.ref a1), .val (.ref a2), .val (.int p3), .val (.long q4), .second, .val (.long q5), .second, .val (.int (own_c32 ts)), .unset] [(.int (0 : Int32))]))
        refine own_go (fun _ k => XS.istore X0.here hx rfl (hb hby d6_32) rfl (l' := #[.val (.ref a1), .val (.ref a2), .val (.int p3), .val (.long q4), .second, .val (.long q5), .second, .val (.int (own_c32 ts)), .val (.int (0 : Int32))]) rfl k) ?_
        show own_Fin p.tables e below _ (s₁.setTop (mkF m 34 #[.val (.ref a1), .val (.ref a2), .val (.int p3), .val (.long q4), .second, .val (.long q5), .second, .val (.int (own_c32 ts)), .val (.int (0 : Int32))] []))
        refine own_go (fun _ k => XS.goto X0.here hx rfl (pc0 := 34) (pc' := 61) rfl (hb hby d6_34) (by decide) (by decide) k) ?_
        show own_Fin p.tables e below _ (s₁.setTop (mkF m 61 #[.val (.ref a1), .val (.ref a2), .val (.int p3), .val (.long q4), .second, .val (.long q5), .second, .val (.int (own_c32 ts)), .val (.int (0 : Int32))] []))
        refine own_go (fun _ k => XS.iload X0.here hx rfl (hb hby d6_61) rfl k) ?_
        show own_Fin p.tables e below _ (s₁.setTop (mkF m 63 #[.val (.ref a1), .val (.ref a2), .val (.int p3), .val (.long q4), .second, .val (.long q5), .second, .val (.int (own_c32 ts)), .val (.int (0 : Int32))] [(.int (0 : Int32))]))
        refine own_go (fun _ k => XS.ifYes X0.here hx rfl (pc0 := 63) (pc' := 79) rfl (hb hby d6_63) rfl ((if0 _ _).trans (teq (by decide : ((0 : Int32) = (0 : Int32)))).1) (by decide) (by decide) k) ?_
        show own_Fin p.tables e below _ (s₁.setTop (mkF m 79 #[.val (.ref a1), .val (.ref a2), .val (.int p3), .val (.long q4), .second, .val (.long q5), .second, .val (.int (own_c32 ts)), .val (.int (0 : Int32))] []))
        refine own_go (fun _ k => XS.iload X0.here hx rfl (hb hby d6_79) rfl k) ?_
        show own_Fin p.tables e below _ (s₁.setTop (mkF m 81 #[.val (.ref a1), .val (.ref a2), .val (.int p3), .val (.long q4), .second, .val (.long q5), .second, .val (.int (own_c32 ts)), .val (.int (0 : Int32))] [(.int (0 : Int32))]))
        obtain ⟨fs, hr, hrun, hended, hW, hsame⟩ := X0.leave (v := some (.int (0 : Int32))) (fun h => by rw [Bd.returns] at h; cases h)
        refine ⟨_, _, ?_, hrun, hended, _, _, rfl, ?_, ⟨_, rfl⟩, hW, hsame.mono (by decide) (by decide)⟩
        · exact retN X0 hx (t := .boolean) Bd.returns (by simp) (hb hby d6_81) hr
        · show Q_own_expected Z a1 a2 p3 q4 q5 kh kn ts h0 n0 _ s₁.heap _
          rw [e0]
          exact ⟨(0 : Int32), ts, rfl, N0, (Keep.refl h0 [a1, a2]), (Or.inr ⟨rfl, (fun z => z.elim hc6 fun z => z.elim hc12 (fun z => z.1 hc22)), rfl⟩), Vh, Vn⟩
      · refine own_go (fun _ k => XS.ifNo X0.here hx rfl (hb hby d6_22) rfl ((if0 _ _).trans (feq hc22).1) k) ?_
        show own_Fin p.tables e below _ (s₁.setTop (mkF m 25 #[.val (.ref a1), .val (.ref a2), .val (.int p3), .val (.long q4), .second, .val (.long q5), .second, .val (.int (own_c32 ts)), .unset] []))
        refine own_go (fun _ k => XS.lloadN X0.here hx rfl (hb hby d6_25) rfl k) ?_
        show own_Fin p.tables e below _ (s₁.setTop (mkF m 26 #[.val (.ref a1), .val (.ref a2), .val (.int p3), .val (.long q4), .second, .val (.long q5), .second, .val (.int (own_c32 ts)), .unset] [(.long q4)]))
        refine own_go (fun _ k => XS.lconst X0.here hx rfl (hb hby d6_26) k) ?_
        show own_Fin p.tables e below _ (s₁.setTop (mkF m 27 #[.val (.ref a1), .val (.ref a2), .val (.int p3), .val (.long q4), .second, .val (.long q5), .second, .val (.int (own_c32 ts)), .unset] [(.long (0 : Int64)), (.long q4)]))
        refine own_go (fun _ k => XS.lcmp X0.here hx rfl (hb hby d6_27) rfl k) ?_
        show own_Fin p.tables e below _ (s₁.setTop (mkF m 28 #[.val (.ref a1), .val (.ref a2), .val (.int p3), .val (.long q4), .second, .val (.long q5), .second, .val (.int (own_c32 ts)), .unset] [(.int (lcmpW q4 (0 : Int64)))]))
        by_cases hc28 : q4 = (0 : Int64)
        · refine own_go (fun _ k => XS.ifNo X0.here hx rfl (hb hby d6_28) rfl ((if0 _ _).trans (teq ((lw_eq _ _).mpr hc28)).2) k) ?_
          show own_Fin p.tables e below _ (s₁.setTop (mkF m 31 #[.val (.ref a1), .val (.ref a2), .val (.int p3), .val (.long q4), .second, .val (.long q5), .second, .val (.int (own_c32 ts)), .unset] []))
          refine own_go (fun _ k => XS.iconst X0.here hx rfl (hb hby d6_31) k) ?_
          show own_Fin p.tables e below _ (s₁.setTop (mkF m 32 #[.val (.ref a1), .val (.ref a2), .val (.int p3), .val (.long q4), .second, .val (.long q5), .second, .val (.int (own_c32 ts)), .unset] [(.int (0 : Int32))]))
          refine own_go (fun _ k => XS.istore X0.here hx rfl (hb hby d6_32) rfl (l' := #[.val (.ref a1), .val (.ref a2), .val (.int p3), .val (.long q4), .second, .val (.long q5), .second, .val (.int (own_c32 ts)), .val (.int (0 : Int32))]) rfl k) ?_
          show own_Fin p.tables e below _ (s₁.setTop (mkF m 34 #[.val (.ref a1), .val (.ref a2), .val (.int p3), .val (.long q4), .second, .val (.long q5), .second, .val (.int (own_c32 ts)), .val (.int (0 : Int32))] []))
          refine own_go (fun _ k => XS.goto X0.here hx rfl (pc0 := 34) (pc' := 61) rfl (hb hby d6_34) (by decide) (by decide) k) ?_
          show own_Fin p.tables e below _ (s₁.setTop (mkF m 61 #[.val (.ref a1), .val (.ref a2), .val (.int p3), .val (.long q4), .second, .val (.long q5), .second, .val (.int (own_c32 ts)), .val (.int (0 : Int32))] []))
          refine own_go (fun _ k => XS.iload X0.here hx rfl (hb hby d6_61) rfl k) ?_
          show own_Fin p.tables e below _ (s₁.setTop (mkF m 63 #[.val (.ref a1), .val (.ref a2), .val (.int p3), .val (.long q4), .second, .val (.long q5), .second, .val (.int (own_c32 ts)), .val (.int (0 : Int32))] [(.int (0 : Int32))]))
          refine own_go (fun _ k => XS.ifYes X0.here hx rfl (pc0 := 63) (pc' := 79) rfl (hb hby d6_63) rfl ((if0 _ _).trans (teq (by decide : ((0 : Int32) = (0 : Int32)))).1) (by decide) (by decide) k) ?_
          show own_Fin p.tables e below _ (s₁.setTop (mkF m 79 #[.val (.ref a1), .val (.ref a2), .val (.int p3), .val (.long q4), .second, .val (.long q5), .second, .val (.int (own_c32 ts)), .val (.int (0 : Int32))] []))
          refine own_go (fun _ k => XS.iload X0.here hx rfl (hb hby d6_79) rfl k) ?_
          show own_Fin p.tables e below _ (s₁.setTop (mkF m 81 #[.val (.ref a1), .val (.ref a2), .val (.int p3), .val (.long q4), .second, .val (.long q5), .second, .val (.int (own_c32 ts)), .val (.int (0 : Int32))] [(.int (0 : Int32))]))
          obtain ⟨fs, hr, hrun, hended, hW, hsame⟩ := X0.leave (v := some (.int (0 : Int32))) (fun h => by rw [Bd.returns] at h; cases h)
          refine ⟨_, _, ?_, hrun, hended, _, _, rfl, ?_, ⟨_, rfl⟩, hW, hsame.mono (by decide) (by decide)⟩
          · exact retN X0 hx (t := .boolean) Bd.returns (by simp) (hb hby d6_81) hr
          · show Q_own_expected Z a1 a2 p3 q4 q5 kh kn ts h0 n0 _ s₁.heap _
            rw [e0]
            exact ⟨(0 : Int32), ts, rfl, N0, (Keep.refl h0 [a1, a2]), (Or.inr ⟨rfl, (fun z => z.elim hc6 fun z => z.elim hc12 (fun z => z.2.1 hc28)), rfl⟩), Vh, Vn⟩
        · refine own_go (fun _ k => XS.ifYes X0.here hx rfl (pc0 := 28) (pc' := 37) rfl (hb hby d6_28) rfl ((if0 _ _).trans (feq (fun q => hc28 ((lw_eq _ _).mp q))).2) (by decide) (by decide) k) ?_
          show own_Fin p.tables e below _ (s₁.setTop (mkF m 37 #[.val (.ref a1), .val (.ref a2), .val (.int p3), .val (.long q4), .second, .val (.long q5), .second, .val (.int (own_c32 ts)), .unset] []))
          refine own_go (fun _ k => XS.lload X0.here hx rfl (hb hby d6_37) rfl k) ?_
          show own_Fin p.tables e below _ (s₁.setTop (mkF m 39 #[.val (.ref a1), .val (.ref a2), .val (.int p3), .val (.long q4), .second, .val (.long q5), .second, .val (.int (own_c32 ts)), .unset] [(.long q5)]))
          refine own_go (fun _ k => XS.aloadN X0.here hx rfl (hb hby d6_39) rfl rfl k) ?_
          show own_Fin p.tables e below _ (s₁.setTop (mkF m 40 #[.val (.ref a1), .val (.ref a2), .val (.int p3), .val (.long q4), .second, .val (.long q5), .second, .val (.int (own_c32 ts)), .unset] [(.ref a1), (.long q5)]))
          refine own_go (fun _ k => XS.iload X0.here hx rfl (hb hby d6_40) rfl k) ?_
          show own_Fin p.tables e below _ (s₁.setTop (mkF m 42 #[.val (.ref a1), .val (.ref a2), .val (.int p3), .val (.long q4), .second, .val (.long q5), .second, .val (.int (own_c32 ts)), .unset] [(.int (own_c32 ts)), (.ref a1), (.long q5)]))
          refine own_go (fun _ k => XS.iloadN X0.here hx rfl (hb hby d6_42) rfl k) ?_
          show own_Fin p.tables e below _ (s₁.setTop (mkF m 43 #[.val (.ref a1), .val (.ref a2), .val (.int p3), .val (.long q4), .second, .val (.long q5), .second, .val (.int (own_c32 ts)), .unset] [(.int p3), (.int (own_c32 ts)), (.ref a1), (.long q5)]))
          refine own_go (fun _ k => XS.isub X0.here hx rfl (hb hby d6_43) rfl k) ?_
          show own_Fin p.tables e below _ (s₁.setTop (mkF m 44 #[.val (.ref a1), .val (.ref a2), .val (.int p3), .val (.long q4), .second, .val (.long q5), .second, .val (.int (own_c32 ts)), .unset] [(.int ((own_c32 ts) - p3)), (.ref a1), (.long q5)]))
          obtain ⟨cl22, Ar22, q22, S22, B22, H22, G22⟩ := id Vh
          have in22 : ¬ (((own_c32 ts) - p3) < 0 ∨ cl22.slots.size ≤ (((own_c32 ts) - p3)).toNatClampNeg) := inb_of S22 (own_cm hl hc6 hc12)
          have at22 : cl22.slots[(((own_c32 ts) - p3)).toNatClampNeg]? = some (.long (own_nth ts ((own_c32 ts) - p3))) := Has.at H22 in22 (own_histat ts _)
          refine own_go (X0.laload hx (j := ((own_c32 ts) - p3)) (v := (.long (own_nth ts ((own_c32 ts) - p3)))) (by rw [e0]; exact Ar22.1) (State.isArrayOf_alike hZ.alike Ar22.2.1) Ar22.2.2 in22 at22 (g := (mkF m 44 #[.val (.ref a1), .val (.ref a2), .val (.int p3), .val (.long q4), .second, .val (.long q5), .second, .val (.int (own_c32 ts)), .unset] [(.int ((own_c32 ts) - p3)), (.ref a1), (.long q5)])) rfl rfl (hb hby d6_44)) ?_
          show own_Fin p.tables e below _ (s₁.setTop (mkF m 45 #[.val (.ref a1), .val (.ref a2), .val (.int p3), .val (.long q4), .second, .val (.long q5), .second, .val (.int (own_c32 ts)), .unset] [(.long (own_nth ts ((own_c32 ts) - p3))), (.long q5)]))
          refine own_go (fun _ k => XS.lsub X0.here hx rfl (hb hby d6_45) rfl k) ?_
          show own_Fin p.tables e below _ (s₁.setTop (mkF m 46 #[.val (.ref a1), .val (.ref a2), .val (.int p3), .val (.long q4), .second, .val (.long q5), .second, .val (.int (own_c32 ts)), .unset] [(.long (q5 - (own_nth ts ((own_c32 ts) - p3))))]))
          refine own_go (fun _ k => XS.lloadN X0.here hx rfl (hb hby d6_46) rfl k) ?_
          show own_Fin p.tables e below _ (s₁.setTop (mkF m 47 #[.val (.ref a1), .val (.ref a2), .val (.int p3), .val (.long q4), .second, .val (.long q5), .second, .val (.int (own_c32 ts)), .unset] [(.long q4), (.long (q5 - (own_nth ts ((own_c32 ts) - p3))))]))
          obtain ⟨_, _, ⟨T23, L23, k23, n23⟩, -, X23, ⟨Lc23, hQ23, l23, y23, z23⟩, st23⟩ := Jvm.LawKit.callS X0 hx (y := (⟨"com/example/ferrybell/ferrybell/runtime/RestartsTryRestartPinLaw", "nanos", "(J)J"⟩ : MethodName)) hown (mvT hZ (hw _ (List.mem_of_getElem? (i := 65) rfl))) (mvT hZ (hw _ (List.mem_of_getElem? (i := 66) rfl))) (mvT hZ (hw _ (List.mem_of_getElem? (i := 17) rfl))) (mvT hZ (hw _ (List.mem_of_getElem? (i := 67) rfl))) (by decide) (backOf (W := 2) (own_nanos l Z a0 hw [] q4 h0 n0 Z0 ) hZ (hw _ (List.mem_of_getElem? (i := 67) rfl)) (hw _ (List.mem_of_getElem? (i := 17) rfl)) (by decide) (by decide)) (g := (mkF m 47 #[.val (.ref a1), .val (.ref a2), .val (.int p3), .val (.long q4), .second, .val (.long q5), .second, .val (.int (own_c32 ts)), .unset] [(.long q4), (.long (q5 - (own_nth ts ((own_c32 ts) - p3))))])) rfl (by rw [hml]; rfl) (argsL := [(.long q4)]) (rest := [(.long (q5 - (own_nth ts ((own_c32 ts) - p3))))]) (lenOf own_pd0 rfl) rfl (by show 2 * 0 + _ ≤ _; exact Nat.le_of_eq rfl) (hb hby d6_47) (fun _ _ => ⟨rfl, e0, (by decide : 0 + 0 ≤ _), (by decide : 0 + 0 ≤ _)⟩)
          dsimp only [Pt.U, Pt.locs, Pt.cells, Pt.slots] at X23 l23 y23 z23 st23 hQ23
          subst l23 y23 z23
          obtain ⟨hv23, N23q, eh23⟩ := hQ23
          subst hv23
          have N23 := Fr.app N0 N23q
          refine own_go st23 ?_
          show own_Fin p.tables e below _ (T23.setTop (mkF m 50 #[.val (.ref a1), .val (.ref a2), .val (.int p3), .val (.long q4), .second, .val (.long q5), .second, .val (.int (own_c32 ts)), .unset] [(.long (own_nan q4)), (.long (q5 - (own_nth ts ((own_c32 ts) - p3))))]))
          refine own_go (fun _ k => XS.lcmp X23.here hx rfl (hb hby d6_50) rfl k) ?_
          show own_Fin p.tables e below _ (T23.setTop (mkF m 51 #[.val (.ref a1), .val (.ref a2), .val (.int p3), .val (.long q4), .second, .val (.long q5), .second, .val (.int (own_c32 ts)), .unset] [(.int (lcmpW (q5 - (own_nth ts ((own_c32 ts) - p3))) (own_nan q4)))]))
          by_cases hc51 : (own_nan q4) < (q5 - (own_nth ts ((own_c32 ts) - p3)))
          · refine own_go (fun _ k => XS.ifNo X23.here hx rfl (hb hby d6_51) rfl ((if0 _ _).trans (tlt ((lw_gt _ _).mpr hc51)).2.2.2) k) ?_
            show own_Fin p.tables e below _ (T23.setTop (mkF m 54 #[.val (.ref a1), .val (.ref a2), .val (.int p3), .val (.long q4), .second, .val (.long q5), .second, .val (.int (own_c32 ts)), .unset] []))
            refine own_go (fun _ k => XS.iconst X23.here hx rfl (hb hby d6_54) k) ?_
            show own_Fin p.tables e below _ (T23.setTop (mkF m 55 #[.val (.ref a1), .val (.ref a2), .val (.int p3), .val (.long q4), .second, .val (.long q5), .second, .val (.int (own_c32 ts)), .unset] [(.int (1 : Int32))]))
            refine own_go (fun _ k => XS.goto X23.here hx rfl (pc0 := 55) (pc' := 59) rfl (hb hby d6_55) (by decide) (by decide) k) ?_
            show own_Fin p.tables e below _ (T23.setTop (mkF m 59 #[.val (.ref a1), .val (.ref a2), .val (.int p3), .val (.long q4), .second, .val (.long q5), .second, .val (.int (own_c32 ts)), .unset] [(.int (1 : Int32))]))
            refine own_go (fun _ k => XS.istore X23.here hx rfl (hb hby d6_59) rfl (l' := #[.val (.ref a1), .val (.ref a2), .val (.int p3), .val (.long q4), .second, .val (.long q5), .second, .val (.int (own_c32 ts)), .val (.int (1 : Int32))]) rfl k) ?_
            show own_Fin p.tables e below _ (T23.setTop (mkF m 61 #[.val (.ref a1), .val (.ref a2), .val (.int p3), .val (.long q4), .second, .val (.long q5), .second, .val (.int (own_c32 ts)), .val (.int (1 : Int32))] []))
            refine own_go (fun _ k => XS.iload X23.here hx rfl (hb hby d6_61) rfl k) ?_
            show own_Fin p.tables e below _ (T23.setTop (mkF m 63 #[.val (.ref a1), .val (.ref a2), .val (.int p3), .val (.long q4), .second, .val (.long q5), .second, .val (.int (own_c32 ts)), .val (.int (1 : Int32))] [(.int (1 : Int32))]))
            refine own_go (fun _ k => XS.ifNo X23.here hx rfl (hb hby d6_63) rfl ((if0 _ _).trans (feq (by decide : ¬ ((1 : Int32) = (0 : Int32)))).1) k) ?_
            show own_Fin p.tables e below _ (T23.setTop (mkF m 66 #[.val (.ref a1), .val (.ref a2), .val (.int p3), .val (.long q4), .second, .val (.long q5), .second, .val (.int (own_c32 ts)), .val (.int (1 : Int32))] []))
            refine own_go (fun _ k => XS.aloadN X23.here hx rfl (hb hby d6_66) rfl rfl k) ?_
            show own_Fin p.tables e below _ (T23.setTop (mkF m 67 #[.val (.ref a1), .val (.ref a2), .val (.int p3), .val (.long q4), .second, .val (.long q5), .second, .val (.int (own_c32 ts)), .val (.int (1 : Int32))] [(.ref a1)]))
            refine own_go (fun _ k => XS.iload X23.here hx rfl (hb hby d6_67) rfl k) ?_
            show own_Fin p.tables e below _ (T23.setTop (mkF m 69 #[.val (.ref a1), .val (.ref a2), .val (.int p3), .val (.long q4), .second, .val (.long q5), .second, .val (.int (own_c32 ts)), .val (.int (1 : Int32))] [(.int (own_c32 ts)), (.ref a1)]))
            refine own_go (fun _ k => XS.lload X23.here hx rfl (hb hby d6_69) rfl k) ?_
            show own_Fin p.tables e below _ (T23.setTop (mkF m 71 #[.val (.ref a1), .val (.ref a2), .val (.int p3), .val (.long q4), .second, .val (.long q5), .second, .val (.int (own_c32 ts)), .val (.int (1 : Int32))] [(.long q5), (.int (own_c32 ts)), (.ref a1)]))
            obtain ⟨cl24, Ar24, q24, S24, B24, H24, G24⟩ := Vh
            have in24 : ¬ ((own_c32 ts) < 0 ∨ cl24.slots.size ≤ ((own_c32 ts)).toNatClampNeg) := inb_of S24 (own_cin hl)
            obtain ⟨T25, h25, X25, e25, W25, st25⟩ := stJ X23 hx hZ eh23 Ar24 (j := (own_c32 ts)) in24 (g := (mkF m 71 #[.val (.ref a1), .val (.ref a2), .val (.int p3), .val (.long q4), .second, .val (.long q5), .second, .val (.int (own_c32 ts)), .val (.int (1 : Int32))] [(.long q5), (.int (own_c32 ts)), (.ref a1)])) rfl rfl (hb hby d6_71)
            refine own_go st25 ?_
            have f26_1 : Arv Z h25 a2 kn .int (1 : Int32) [(.int (own_c32 ts))] (.int (0 : Int32)) := Vn.other W25 (Ne.symm ne)
            have V25 : Arv Z h25 a1 kh .long (5 : Int32) (List.set (own_hist ts) ts.length (.long q5)) (.long (0 : Int64)) := Arv.set Ar24 q24 S24 B24 H24 G24 rfl W25 ts.length (own_c32n hl) (by rw [own_histlen hl]; omega)
            have N25 := Fr.snoc X25 N23 g1
            have K27 : Keep h0 h25 [a1, a2] := Keep.wr (Keep.refl h0 [a1, a2]) W25 (Or.inl (List.mem_of_getElem? (i := 0) rfl))
            have Z28 : n0 ≤ h25.size := Nat.le_trans Z0 (Keep.of_wr W25).1
            show own_Fin p.tables e below _ (T25.setTop (mkF m 72 #[.val (.ref a1), .val (.ref a2), .val (.int p3), .val (.long q4), .second, .val (.long q5), .second, .val (.int (own_c32 ts)), .val (.int (1 : Int32))] []))
            refine own_go (fun _ k => XS.aloadN X25.here hx rfl (hb hby d6_72) rfl rfl k) ?_
            show own_Fin p.tables e below _ (T25.setTop (mkF m 73 #[.val (.ref a1), .val (.ref a2), .val (.int p3), .val (.long q4), .second, .val (.long q5), .second, .val (.int (own_c32 ts)), .val (.int (1 : Int32))] [(.ref a2)]))
            refine own_go (fun _ k => XS.iconst X25.here hx rfl (hb hby d6_73) k) ?_
            show own_Fin p.tables e below _ (T25.setTop (mkF m 74 #[.val (.ref a1), .val (.ref a2), .val (.int p3), .val (.long q4), .second, .val (.long q5), .second, .val (.int (own_c32 ts)), .val (.int (1 : Int32))] [(.int (0 : Int32)), (.ref a2)]))
            refine own_go (fun _ k => XS.iload X25.here hx rfl (hb hby d6_74) rfl k) ?_
            show own_Fin p.tables e below _ (T25.setTop (mkF m 76 #[.val (.ref a1), .val (.ref a2), .val (.int p3), .val (.long q4), .second, .val (.long q5), .second, .val (.int (own_c32 ts)), .val (.int (1 : Int32))] [(.int (own_c32 ts)), (.int (0 : Int32)), (.ref a2)]))
            refine own_go (fun _ k => XS.iconst X25.here hx rfl (hb hby d6_76) k) ?_
            show own_Fin p.tables e below _ (T25.setTop (mkF m 77 #[.val (.ref a1), .val (.ref a2), .val (.int p3), .val (.long q4), .second, .val (.long q5), .second, .val (.int (own_c32 ts)), .val (.int (1 : Int32))] [(.int (1 : Int32)), (.int (own_c32 ts)), (.int (0 : Int32)), (.ref a2)]))
            refine own_go (fun _ k => XS.iadd X25.here hx rfl (hb hby d6_77) rfl k) ?_
            show own_Fin p.tables e below _ (T25.setTop (mkF m 78 #[.val (.ref a1), .val (.ref a2), .val (.int p3), .val (.long q4), .second, .val (.long q5), .second, .val (.int (own_c32 ts)), .val (.int (1 : Int32))] [(.int ((own_c32 ts) + (1 : Int32))), (.int (0 : Int32)), (.ref a2)]))
            obtain ⟨cl29, Ar29, q29, S29, B29, H29, G29⟩ := f26_1
            have in29 : ¬ ((0 : Int32) < 0 ∨ cl29.slots.size ≤ ((0 : Int32)).toNatClampNeg) := inb_of S29 ⟨by decide, by decide⟩
            obtain ⟨T30, h30, X30, e30, W30, st30⟩ := stI X25 hx hZ e25 Ar29 (j := (0 : Int32)) in29 (g := (mkF m 78 #[.val (.ref a1), .val (.ref a2), .val (.int p3), .val (.long q4), .second, .val (.long q5), .second, .val (.int (own_c32 ts)), .val (.int (1 : Int32))] [(.int ((own_c32 ts) + (1 : Int32))), (.int (0 : Int32)), (.ref a2)])) rfl rfl (hb hby d6_78)
            refine own_go st30 ?_
            have f31_1 : Arv Z h30 a1 kh .long (5 : Int32) (List.set (own_hist ts) ts.length (.long q5)) (.long (0 : Int64)) := V25.other W30 ne
            have V30 : Arv Z h30 a2 kn .int (1 : Int32) [(.int ((own_c32 ts) + (1 : Int32)))] (.int (0 : Int32)) := Arv.set Ar29 q29 S29 B29 H29 G29 rfl W30 0 rfl (Nat.le_of_ble_eq_true rfl)
            have N30 := Fr.snoc X30 N25 g2
            have K32 : Keep h0 h30 [a1, a2] := Keep.wr K27 W30 (Or.inl (List.mem_of_getElem? (i := 1) rfl))
            have Z33 : n0 ≤ h30.size := Nat.le_trans Z28 (Keep.of_wr W30).1
            show own_Fin p.tables e below _ (T30.setTop (mkF m 79 #[.val (.ref a1), .val (.ref a2), .val (.int p3), .val (.long q4), .second, .val (.long q5), .second, .val (.int (own_c32 ts)), .val (.int (1 : Int32))] []))
            refine own_go (fun _ k => XS.iload X30.here hx rfl (hb hby d6_79) rfl k) ?_
            show own_Fin p.tables e below _ (T30.setTop (mkF m 81 #[.val (.ref a1), .val (.ref a2), .val (.int p3), .val (.long q4), .second, .val (.long q5), .second, .val (.int (own_c32 ts)), .val (.int (1 : Int32))] [(.int (1 : Int32))]))
            obtain ⟨fs, hr, hrun, hended, hW, hsame⟩ := X30.leave (v := some (.int (1 : Int32))) (fun h => by rw [Bd.returns] at h; cases h)
            refine ⟨_, _, ?_, hrun, hended, _, _, rfl, ?_, ⟨_, rfl⟩, hW, hsame.mono (by decide) (by decide)⟩
            · exact retN X30 hx (t := .boolean) Bd.returns (by simp) (hb hby d6_81) hr
            · show Q_own_expected Z a1 a2 p3 q4 q5 kh kn ts h0 n0 _ T30.heap _
              rw [e30]
              exact ⟨(1 : Int32), (ts ++ [q5]), rfl, N30, K32, (Or.inl ⟨rfl, Or.inr (Or.inr ⟨hc22, hc28, hc51⟩), rfl⟩), (by rw [← own_histset hl]; exact f31_1), (by rw [← own_c32s hl]; exact V30)⟩
          · refine own_go (fun _ k => XS.ifYes X23.here hx rfl (pc0 := 51) (pc' := 58) rfl (hb hby d6_51) rfl ((if0 _ _).trans (flt (fun q => hc51 ((lw_gt _ _).mp q))).2.2.2) (by decide) (by decide) k) ?_
            show own_Fin p.tables e below _ (T23.setTop (mkF m 58 #[.val (.ref a1), .val (.ref a2), .val (.int p3), .val (.long q4), .second, .val (.long q5), .second, .val (.int (own_c32 ts)), .unset] []))
            refine own_go (fun _ k => XS.iconst X23.here hx rfl (hb hby d6_58) k) ?_
            show own_Fin p.tables e below _ (T23.setTop (mkF m 59 #[.val (.ref a1), .val (.ref a2), .val (.int p3), .val (.long q4), .second, .val (.long q5), .second, .val (.int (own_c32 ts)), .unset] [(.int (0 : Int32))]))
            refine own_go (fun _ k => XS.istore X23.here hx rfl (hb hby d6_59) rfl (l' := #[.val (.ref a1), .val (.ref a2), .val (.int p3), .val (.long q4), .second, .val (.long q5), .second, .val (.int (own_c32 ts)), .val (.int (0 : Int32))]) rfl k) ?_
            show own_Fin p.tables e below _ (T23.setTop (mkF m 61 #[.val (.ref a1), .val (.ref a2), .val (.int p3), .val (.long q4), .second, .val (.long q5), .second, .val (.int (own_c32 ts)), .val (.int (0 : Int32))] []))
            refine own_go (fun _ k => XS.iload X23.here hx rfl (hb hby d6_61) rfl k) ?_
            show own_Fin p.tables e below _ (T23.setTop (mkF m 63 #[.val (.ref a1), .val (.ref a2), .val (.int p3), .val (.long q4), .second, .val (.long q5), .second, .val (.int (own_c32 ts)), .val (.int (0 : Int32))] [(.int (0 : Int32))]))
            refine own_go (fun _ k => XS.ifYes X23.here hx rfl (pc0 := 63) (pc' := 79) rfl (hb hby d6_63) rfl ((if0 _ _).trans (teq (by decide : ((0 : Int32) = (0 : Int32)))).1) (by decide) (by decide) k) ?_
            show own_Fin p.tables e below _ (T23.setTop (mkF m 79 #[.val (.ref a1), .val (.ref a2), .val (.int p3), .val (.long q4), .second, .val (.long q5), .second, .val (.int (own_c32 ts)), .val (.int (0 : Int32))] []))
            refine own_go (fun _ k => XS.iload X23.here hx rfl (hb hby d6_79) rfl k) ?_
            show own_Fin p.tables e below _ (T23.setTop (mkF m 81 #[.val (.ref a1), .val (.ref a2), .val (.int p3), .val (.long q4), .second, .val (.long q5), .second, .val (.int (own_c32 ts)), .val (.int (0 : Int32))] [(.int (0 : Int32))]))
            obtain ⟨fs, hr, hrun, hended, hW, hsame⟩ := X23.leave (v := some (.int (0 : Int32))) (fun h => by rw [Bd.returns] at h; cases h)
            refine ⟨_, _, ?_, hrun, hended, _, _, rfl, ?_, ⟨_, rfl⟩, hW, hsame.mono (by decide) (by decide)⟩
            · exact retN X23 hx (t := .boolean) Bd.returns (by simp) (hb hby d6_81) hr
            · show Q_own_expected Z a1 a2 p3 q4 q5 kh kn ts h0 n0 _ T23.heap _
              rw [eh23]
              exact ⟨(0 : Int32), ts, rfl, N23, (Keep.refl h0 [a1, a2]), (Or.inr ⟨rfl, (fun z => z.elim hc6 fun z => z.elim hc12 (fun z => hc51 z.2.2)), rfl⟩), Vh, Vn⟩
theorem own_ge1 {k : Int32} (h1 : 1 ≤ k.toInt) : ¬ k < 0 := by rw [Int32.lt_iff_toInt_lt, show (0 : Int32).toInt = 0 from rfl]; omega
theorem own_le3 {k : Int32} (h2 : k.toInt ≤ 3) : k.toNatClampNeg ≤ 3 := by simp only [Int32.toNatClampNeg]; omega
theorem own_min0 {k z : Int32} (h1 : 1 ≤ k.toInt) (hz : z = (0 : Int32)) : (if k < z then k else z) = (0 : Int32) := by
  subst hz; rw [if_neg (own_ge1 h1)]
def Q_own_copyOf (Z : State) (a1 : Addr) (p2 : Int32) (ka : ClassId) (z1 : Int32) (vs : List Value) (h0 : Heap) (n0 : Nat) (v : Option Value) (h : Heap) (L : List Loc) : Prop := ∃ (bq : Addr) (kq : ClassId), v = some (.ref bq) ∧ Fr n0 L ∧ Keep h0 h [] ∧ h0.size ≤ bq ∧ n0 ≤ bq ∧ Arv Z h bq kq .long p2 [] (.long (0 : Int64))
theorem ef_own_copyOf (m : MethodId) (x0 : Addr) (x1 : Int32) : entryFrame m #[(.ref x0), (.int x1)] 3 = mkF m 0 #[.val (.ref x0), .val (.int x1), .unset] [] := by first | (simp [entryFrame, mkF, argsToLocals, Value.category]; done) | rfl
set_option maxRecDepth 65536 in
set_option maxHeartbeats 40000000 in
theorem own_copyOf (l : Launch) (Z : State) (a0 : Array Value) (hw : ∀ d ∈ tables_1, d.before a0 Z = true) (ws : List Jvm.Cond) (a1 : Addr) (p2 : Int32) (ka : ClassId) (z1 : Int32) (vs : List Value) (h0 : Heap) (n0 : Nat) (Z0 : n0 ≤ h0.size) (V1 : Arv Z h0 a1 ka .long z1 vs (.long (0 : Int64))) (hz : z1 = (0 : Int32)) (h1 : 1 ≤ p2.toInt) (h2 : p2.toInt ≤ 3) :
    MetFree l (⟨"java/util/Arrays", "copyOf", "([JI)[J"⟩ : MethodName) (head1 (Jvm.Cond.code (⟨"java/util/Arrays", "copyOf", "([JI)[J"⟩ : MethodName) jdk_65_method_124_code 3 (some (.array .long)) :: ws) ({ frames := 1, cells := 1, slots := 3, locals := 18 } : Room)) (fun a U => a = #[(.ref a1), (.int p2)] ∧ Z.Warmed39 U.vm ∧ U.heap = h0) (fun _ _ _ _ _ => True) (fun _ U o U' => ∃ v L, o = .returned v ∧ Q_own_copyOf Z a1 p2 ka z1 vs h0 n0 v U'.heap L ∧ FrameEnd U o U' L ({ frames := 1, cells := 1, slots := 3, locals := 18 } : Room).cells ({ frames := 1, cells := 1, slots := 3, locals := 18 } : Room).slots) := by
  refine MetFree.of_bodySF (plainFor_of_name own_pn2) hisR ?_
  intro p e s m args below meth c s₁ Bd hml0 hP hK
  obtain ⟨rfl, hZ, hh⟩ := hP
  have hx := Bd.exec
  have hby := Bd.bytes
  have hml : c.maxLocals = 3 := hml0
  have hown : s.vm.findClass "java/util/Arrays" = some m.cls := findClass_of_methodNamed Bd.named
  have hnm := (name_of_methodNamed Bd.named Bd.method).1
  have X0 : Stand p l e ({ frames := 1, cells := 1, slots := 3, locals := 18 } : Room) s m #[(.ref a1), (.int p2)] below meth c s₁ [] 0 0 := Stand.of_body Bd
  have e0 : s₁.heap = h0 := by rw [← hh, Bd.state]; rfl
  have N0 := Fr.nil n0
  show own_Fin p.tables e below _ (s₁.setTop (entryFrame m #[(.ref a1), (.int p2)] 3))
  refine own_go (fun _ k => castTop (ef_own_copyOf m a1 p2) k) ?_
  show own_Fin p.tables e below _ (s₁.setTop (mkF m 0 #[.val (.ref a1), .val (.int p2), .unset] []))
  refine own_go (fun _ k => XS.iloadN X0.here hx rfl (hb hby d11_0) rfl k) ?_
  show own_Fin p.tables e below _ (s₁.setTop (mkF m 1 #[.val (.ref a1), .val (.int p2), .unset] [(.int p2)]))
  refine own_go (fun _ k => XS.aloadN X0.here hx rfl (hb hby d11_1) rfl rfl k) ?_
  show own_Fin p.tables e below _ (s₁.setTop (mkF m 2 #[.val (.ref a1), .val (.int p2), .unset] [(.ref a1), (.int p2)]))
  obtain ⟨cl1, Ar1, -, S1, B1, -, -⟩ := id V1
  refine own_go (X0.arraylength hx (by rw [e0]; exact Ar1.1) (State.isArrayOf_alike hZ.alike Ar1.2.1) (g := (mkF m 2 #[.val (.ref a1), .val (.int p2), .unset] [(.ref a1), (.int p2)])) rfl rfl (hb hby d11_2)) ?_
  rw [len_of S1 B1]
  show own_Fin p.tables e below _ (s₁.setTop (mkF m 3 #[.val (.ref a1), .val (.int p2), .unset] [(.int z1), (.int p2)]))
  refine own_go (fun _ k => XS.icmpYes X0.here hx rfl (pc0 := 3) (pc' := 14) rfl (hb hby d11_3) rfl (feq (fun q => by rw [q, hz] at h1; exact absurd h1 (by decide))).2 (by decide) (by decide) k) ?_
  show own_Fin p.tables e below _ (s₁.setTop (mkF m 14 #[.val (.ref a1), .val (.int p2), .unset] []))
  refine own_go (fun _ k => XS.iloadN X0.here hx rfl (hb hby d11_14) rfl k) ?_
  show own_Fin p.tables e below _ (s₁.setTop (mkF m 15 #[.val (.ref a1), .val (.int p2), .unset] [(.int p2)]))
  obtain ⟨T2, h2, k2, X2, e2, E2, A2, st2⟩ := newP X0 hx hZ (hw _ (List.mem_of_getElem? (i := 0) rfl)) e0 (g := (mkF m 15 #[.val (.ref a1), .val (.int p2), .unset] [(.int p2)])) rfl (hb hby d11_15) rfl (own_ge1 h1) (cap := 3) (own_le3 h2) (by decide) (by decide) (by decide)
  obtain ⟨b2, g2⟩ : ∃ z, z = h0.size := ⟨_, rfl⟩
  rw [← g2] at A2 st2
  have ne_a1_b2 : a1 ≠ b2 := Nat.ne_of_lt (Nat.lt_of_lt_of_le V1.lt (Nat.le_of_eq g2.symm))
  have g_b2 : n0 ≤ b2 := Nat.le_trans Z0 (Nat.le_of_eq g2.symm)
  have sz_b2 : h0.size ≤ b2 := Nat.le_trans (Keep.refl h0 []).1 (Nat.le_of_eq g2.symm)
  refine own_go st2 ?_
  have K3 := (Keep.refl h0 [])
  have f4_0 : Arv Z h2 a1 ka .long z1 vs (.long (0 : Int64)) := V1.ext E2
  have K5 := K3.ext E2
  have Z6 : n0 ≤ h2.size := Nat.le_trans Z0 E2.1
  have V2 : Arv Z h2 b2 k2 .long p2 [] (.long (0 : Int64)) := Arv.new A2 (own_ge1 h1)
  show own_Fin p.tables e below _ (T2.setTop (mkF m 17 #[.val (.ref a1), .val (.int p2), .unset] [(.ref b2)]))
  refine own_go (fun _ k => XS.astoreN X2.here hx rfl (hb hby d11_17) rfl rfl (l' := #[.val (.ref a1), .val (.int p2), .val (.ref b2)]) rfl k) ?_
  show own_Fin p.tables e below _ (T2.setTop (mkF m 18 #[.val (.ref a1), .val (.int p2), .val (.ref b2)] []))
  refine own_go (fun _ k => XS.aloadN X2.here hx rfl (hb hby d11_18) rfl rfl k) ?_
  show own_Fin p.tables e below _ (T2.setTop (mkF m 19 #[.val (.ref a1), .val (.int p2), .val (.ref b2)] [(.ref a1)]))
  refine own_go (fun _ k => XS.iconst X2.here hx rfl (hb hby d11_19) k) ?_
  show own_Fin p.tables e below _ (T2.setTop (mkF m 20 #[.val (.ref a1), .val (.int p2), .val (.ref b2)] [(.int (0 : Int32)), (.ref a1)]))
  refine own_go (fun _ k => XS.aloadN X2.here hx rfl (hb hby d11_20) rfl rfl k) ?_
  show own_Fin p.tables e below _ (T2.setTop (mkF m 21 #[.val (.ref a1), .val (.int p2), .val (.ref b2)] [(.ref b2), (.int (0 : Int32)), (.ref a1)]))
  refine own_go (fun _ k => XS.iconst X2.here hx rfl (hb hby d11_21) k) ?_
  show own_Fin p.tables e below _ (T2.setTop (mkF m 22 #[.val (.ref a1), .val (.int p2), .val (.ref b2)] [(.int (0 : Int32)), (.ref b2), (.int (0 : Int32)), (.ref a1)]))
  refine own_go (fun _ k => XS.aloadN X2.here hx rfl (hb hby d11_22) rfl rfl k) ?_
  show own_Fin p.tables e below _ (T2.setTop (mkF m 23 #[.val (.ref a1), .val (.int p2), .val (.ref b2)] [(.ref a1), (.int (0 : Int32)), (.ref b2), (.int (0 : Int32)), (.ref a1)]))
  obtain ⟨cl7, Ar7, -, S7, B7, -, -⟩ := id f4_0
  refine own_go (X2.arraylength hx (by rw [e2]; exact Ar7.1) (State.isArrayOf_alike hZ.alike Ar7.2.1) (g := (mkF m 23 #[.val (.ref a1), .val (.int p2), .val (.ref b2)] [(.ref a1), (.int (0 : Int32)), (.ref b2), (.int (0 : Int32)), (.ref a1)])) rfl rfl (hb hby d11_23)) ?_
  rw [len_of S7 B7]
  show own_Fin p.tables e below _ (T2.setTop (mkF m 24 #[.val (.ref a1), .val (.int p2), .val (.ref b2)] [(.int z1), (.int (0 : Int32)), (.ref b2), (.int (0 : Int32)), (.ref a1)]))
  refine own_go (fun _ k => XS.iloadN X2.here hx rfl (hb hby d11_24) rfl k) ?_
  show own_Fin p.tables e below _ (T2.setTop (mkF m 25 #[.val (.ref a1), .val (.int p2), .val (.ref b2)] [(.int p2), (.int z1), (.int (0 : Int32)), (.ref b2), (.int (0 : Int32)), (.ref a1)]))
  obtain ⟨_, _, ⟨T8, L8, k8, n8⟩, -, X8, ⟨Lc8, hQ8, l8, y8, z8⟩, st8⟩ := Jvm.LawKit.callS X2 hx (y := (⟨"java/lang/Math", "min", "(II)I"⟩ : MethodName)) hown (mvT hZ (hw _ (List.mem_of_getElem? (i := 55) rfl))) (mvT hZ (hw _ (List.mem_of_getElem? (i := 56) rfl))) (mvT hZ (hw _ (List.mem_of_getElem? (i := 46) rfl))) (mvT hZ (hw _ (List.mem_of_getElem? (i := 57) rfl))) (by decide) (backOf (W := 4) (own_minI l Z a0 hw [] z1 p2 h2 n0 Z6 ) hZ (hw _ (List.mem_of_getElem? (i := 57) rfl)) (hw _ (List.mem_of_getElem? (i := 46) rfl)) (by decide) (by decide)) (g := (mkF m 25 #[.val (.ref a1), .val (.int p2), .val (.ref b2)] [(.int p2), (.int z1), (.int (0 : Int32)), (.ref b2), (.int (0 : Int32)), (.ref a1)])) rfl (by rw [hml]; rfl) (argsL := [(.int z1), (.int p2)]) (rest := [(.int (0 : Int32)), (.ref b2), (.int (0 : Int32)), (.ref a1)]) (lenOf own_pd1 rfl) rfl (by show 2 * 0 + _ ≤ _; exact Nat.le_of_eq rfl) (hb hby d11_25) (fun _ _ => ⟨rfl, e2, (by decide : 1 + 0 ≤ _), (by decide : 3 + 0 ≤ _)⟩)
  dsimp only [Pt.U, Pt.locs, Pt.cells, Pt.slots] at X8 l8 y8 z8 st8 hQ8
  subst l8 y8 z8
  obtain ⟨hv8, N8q, eh8⟩ := hQ8
  obtain rfl := hv8.trans (by rw [own_min0 h1 hz] : (some (.int (if p2 < z1 then p2 else z1)) : Option Value) = some (.int (0 : Int32)))
  have N8 := Fr.app N0 N8q
  refine own_go st8 ?_
  show own_Fin p.tables e below _ (T8.setTop (mkF m 28 #[.val (.ref a1), .val (.int p2), .val (.ref b2)] [(.int (0 : Int32)), (.int (0 : Int32)), (.ref b2), (.int (0 : Int32)), (.ref a1)]))
  obtain ⟨T9, h9, L9, X9, e9, N9, Kc9, V9, st9⟩ := cpA X8 hx hZ hown (hw _ (List.mem_of_getElem? (i := 58) rfl)) (hw _ (List.mem_of_getElem? (i := 61) rfl)) (hw _ (List.mem_of_getElem? (i := 59) rfl)) (hw _ (List.mem_of_getElem? (i := 60) rfl)) eh8 f4_0 V2 (Or.inl ⟨rfl, rfl⟩) (sp := (0 : Int32)) (dp := (0 : Int32)) (nn := (0 : Int32)) (by decide) (by decide) (by decide) (Nat.zero_le _) (Nat.zero_le _) (us := []) rfl (Nat.zero_le _) N8 g_b2 (g := (mkF m 28 #[.val (.ref a1), .val (.int p2), .val (.ref b2)] [(.int (0 : Int32)), (.int (0 : Int32)), (.ref b2), (.int (0 : Int32)), (.ref a1)])) rfl (by rw [hml]; rfl) rfl (hb hby d11_28) (by decide) (W := 0) (by show 2 * 0 + _ ≤ _; exact Nat.le_of_eq rfl) (by decide)
  refine own_go st9 ?_
  have f10_0 : Arv Z h9 a1 ka .long z1 vs (.long (0 : Int64)) := f4_0.keep Kc9 (ninS ne_a1_b2 nin0)
  have Vd9 : Arv Z h9 b2 k2 .long p2 [] (.long (0 : Int64)) := V9
  have K11 : Keep h0 h9 [] := Keep.trans K5 Kc9 (allS (Or.inr sz_b2) all0)
  have Z12 : n0 ≤ h9.size := Nat.le_trans Z6 Kc9.1
  show own_Fin p.tables e below _ (T9.setTop (mkF m 31 #[.val (.ref a1), .val (.int p2), .val (.ref b2)] []))
  refine own_go (fun _ k => XS.aloadN X9.here hx rfl (hb hby d11_31) rfl rfl k) ?_
  show own_Fin p.tables e below _ (T9.setTop (mkF m 32 #[.val (.ref a1), .val (.int p2), .val (.ref b2)] [(.ref b2)]))
  obtain ⟨fs, hr, hrun, hended, hW, hsame⟩ := X9.leave (v := some (.ref b2)) (fun h => by rw [Bd.returns] at h; cases h)
  refine ⟨_, _, ?_, hrun, hended, _, _, rfl, ?_, ⟨_, rfl⟩, hW, hsame.mono (by decide) (by decide)⟩
  · jvm_step X9.here [X9.here.top, hx, (hb hby d11_32), X9.method', Bd.returns, Value.isRef, FieldType.isReference]
    first | (intro acts; rw [hr _ acts rfl rfl rfl]) | rw [hr _ _ rfl rfl rfl]
    exact Steps.refl _
  · show Q_own_copyOf Z a1 p2 ka z1 vs h0 n0 _ T9.heap _
    rw [e9]
    exact ⟨b2, k2, rfl, N9, K11, sz_b2, g_b2, Vd9⟩
theorem own_tab1 : ∀ i : Fin 4, ∀ n : Fin 5, Int32.ofNat i.val = 0 → own_szn (Int32.ofNat i.val) n.val = own_szn (Int32.ofNat i.val) (n.val + 1) ∧ own_odn (Int32.ofNat i.val) n.val = own_odn (Int32.ofNat i.val) (n.val + 1) ∧ own_lnn (Int32.ofNat i.val) n.val = own_lnn (Int32.ofNat i.val) (n.val + 1) := by decide +kernel
theorem own_tab2 : ∀ i : Fin 4, ∀ n : Fin 5, own_szn (Int32.ofNat i.val) n.val < Int32.ofNat i.val → own_szn (Int32.ofNat i.val) n.val = own_lnn (Int32.ofNat i.val) n.val → n.val = 0 ∧ 1 ≤ (Int32.ofNat i.val).toInt ∧ own_szn (Int32.ofNat i.val) n.val = 0 ∧ own_lnn (Int32.ofNat i.val) n.val = 0 ∧ own_lnn (Int32.ofNat i.val) (n.val + 1) = Int32.ofNat i.val := by decide +kernel
theorem own_tab3 : ∀ i : Fin 4, ∀ n : Fin 5, own_szn (Int32.ofNat i.val) n.val < Int32.ofNat i.val → own_szn (Int32.ofNat i.val) n.val + 1 = own_szn (Int32.ofNat i.val) (n.val + 1) ∧ own_odn (Int32.ofNat i.val) n.val = own_odn (Int32.ofNat i.val) (n.val + 1) := by decide +kernel
theorem own_tab4 : ∀ i : Fin 4, ∀ n : Fin 5, own_szn (Int32.ofNat i.val) n.val < Int32.ofNat i.val → ¬ (own_szn (Int32.ofNat i.val) n.val = own_lnn (Int32.ofNat i.val) n.val) → n.val ≠ 0 ∧ own_lnn (Int32.ofNat i.val) n.val = own_lnn (Int32.ofNat i.val) (n.val + 1) ∧ ¬ own_szn (Int32.ofNat i.val) n.val < 0 ∧ own_szn (Int32.ofNat i.val) n.val < own_lnn (Int32.ofNat i.val) n.val ∧ (own_szn (Int32.ofNat i.val) n.val).toNatClampNeg = (if Int32.ofNat i.val = 0 then 0 else (Int32.ofNat n.val % Int32.ofNat i.val).toNatClampNeg) := by decide +kernel
theorem own_tab5 : ∀ i : Fin 4, ∀ n : Fin 5, ¬ (Int32.ofNat i.val = 0) → ¬ (own_szn (Int32.ofNat i.val) n.val < Int32.ofNat i.val) → n.val ≠ 0 ∧ own_szn (Int32.ofNat i.val) n.val = own_szn (Int32.ofNat i.val) (n.val + 1) ∧ (own_odn (Int32.ofNat i.val) n.val + 1) % Int32.ofNat i.val = own_odn (Int32.ofNat i.val) (n.val + 1) ∧ own_lnn (Int32.ofNat i.val) n.val = own_lnn (Int32.ofNat i.val) (n.val + 1) ∧ ¬ own_odn (Int32.ofNat i.val) n.val < 0 ∧ own_odn (Int32.ofNat i.val) n.val < own_lnn (Int32.ofNat i.val) n.val ∧ (own_odn (Int32.ofNat i.val) n.val).toNatClampNeg = (if Int32.ofNat i.val = 0 then 0 else (Int32.ofNat n.val % Int32.ofNat i.val).toNatClampNeg) := by decide +kernel
theorem own_tab6 : ∀ i : Fin 4, (if Int32.ofNat i.val = 0 then 0 else (Int32.ofNat 0 % Int32.ofNat i.val).toNatClampNeg) = 0 := by decide +kernel
theorem own_len1 (ts : List Int64) (t : Int64) : (ts ++ [t]).length = ts.length + 1 := by simp
theorem own_vs1 (k : Int32) (ts : List Int64) (t : Int64) : own_vs k (ts ++ [t]) = (if ts.length = 0 then List.replicate k.toNatClampNeg (.long (0 : Int64)) else own_vs k ts).set (if k = 0 then 0 else (Int32.ofNat ts.length % k).toNatClampNeg) (.long t) := by
  unfold own_vs
  rw [List.reverse_append]
  show own_rev k (t :: ts.reverse) = _
  rw [own_rev, List.length_reverse]
theorem own_rep (n : Nat) (v : Value) : (List.replicate n v).length = n := by simp
theorem own_revlen (k : Int32) : ∀ ts : List Int64, ts ≠ [] → (own_rev k ts).length = k.toNatClampNeg
  | [], h => absurd rfl h
  | t :: r, _ => by
    unfold own_rev
    rw [List.length_set]
    by_cases q : r.length = 0
    · rw [if_pos q]; simp
    · rw [if_neg q]; exact own_revlen k r (fun z => q (by rw [z]; rfl))
theorem own_vslen (k : Int32) (ts : List Int64) (h : ts.length ≠ 0) : (own_vs k ts).length = k.toNatClampNeg := own_revlen k _ (fun z => h (by rw [← List.length_reverse, z]; rfl))
theorem own_lnk (k : Int32) (n : Nat) (h : n ≠ 0) : own_lnn k n = k := if_neg h
theorem own_idx {k j : Int32} (h1 : ¬ j < 0) (h2 : j < k) : j.toNatClampNeg < k.toNatClampNeg := by
  rw [Int32.lt_iff_toInt_lt] at h1 h2
  have e0 : (0 : Int32).toInt = 0 := rfl
  simp only [Int32.toNatClampNeg]; omega
theorem own_ii (k : Int32) : k.toInt64.toInt32 = k := by
  apply Int32.toInt_inj.mp
  have a := c_l2i k.toInt64
  have b := c_i2l k
  have b1 := Int32.toInt_lt k; have b2 := Int32.le_toInt k
  have b3 := Int32.toInt_lt k.toInt64.toInt32; have b4 := Int32.le_toInt k.toInt64.toInt32
  omega
theorem own_mm {k z : Int32} (h1 : k.toInt ≤ 3) (hz : z = 0) : (if (if (8 : Int64) < ((2 : Int64) * z.toInt64) then ((2 : Int64) * z.toInt64) else (8 : Int64)) < k.toInt64 then (if (8 : Int64) < ((2 : Int64) * z.toInt64) then ((2 : Int64) * z.toInt64) else (8 : Int64)) else k.toInt64) = k.toInt64 := by
  subst hz
  rw [if_neg (show ¬ ((8 : Int64) < ((2 : Int64) * (0 : Int32).toInt64)) from by decide)]
  rw [if_neg (show ¬ ((8 : Int64) < k.toInt64) from by rw [Int64.lt_iff_toInt_lt, c_i2l, show (8 : Int64).toInt = 8 from rfl]; omega)]

theorem own_K1 {k : Int32} {ts : List Int64} {t : Int64} (hk : own_k4 k) (hl : ts.length ≤ 4) (h : k = (0 : Int32)) : own_sz k (ts ++ [t]) = own_sz k ts ∧ own_od k (ts ++ [t]) = own_od k ts ∧ own_ln k (ts ++ [t]) = own_ln k ts ∧ own_vs k (ts ++ [t]) = own_vs k ts := by
  subst h
  obtain ⟨q1, q2, q3⟩ := own_tab1 0 ⟨ts.length, by omega⟩ rfl
  refine ⟨?_, ?_, ?_, ?_⟩
  · show own_szn 0 (ts ++ [t]).length = own_szn 0 ts.length; rw [own_len1]; exact q1.symm
  · show own_odn 0 (ts ++ [t]).length = own_odn 0 ts.length; rw [own_len1]; exact q2.symm
  · show own_lnn 0 (ts ++ [t]).length = own_lnn 0 ts.length; rw [own_len1]; exact q3.symm
  · have e : ∀ us : List Int64, own_vs 0 us = [] := fun us => by
      by_cases q : us.length = 0
      · rw [List.length_eq_zero_iff.mp q]; rfl
      · exact List.length_eq_zero_iff.mp (own_vslen 0 us q)
    rw [e, e]
theorem own_K2 {k : Int32} {ts : List Int64} {t : Int64} (hk : own_k4 k) (hl : ts.length ≤ 4) (h1 : own_sz k ts < k) (h2 : own_sz k ts = own_ln k ts) : 1 ≤ k.toInt ∧ own_sz k ts = 0 ∧ own_ln k ts = (0 : Int32) ∧ own_ln k (ts ++ [t]) = k ∧ own_vs k (ts ++ [t]) = (List.replicate k.toNatClampNeg (.long (0 : Int64))).set 0 (.long t) := by
  obtain ⟨i, rfl⟩ := own_k4f hk
  obtain ⟨q0, q1, q2, q3, q4⟩ := own_tab2 i ⟨ts.length, by omega⟩ h1 h2
  refine ⟨q1, q2, q3, ?_, ?_⟩
  · show own_lnn _ (ts ++ [t]).length = _; rw [own_len1]; exact q4
  · rw [own_vs1, if_pos q0]
    have q0' : ts.length = 0 := q0
    rw [q0']
    rw [own_tab6 i]
theorem own_K3 {k : Int32} {ts : List Int64} {t : Int64} (hk : own_k4 k) (hl : ts.length ≤ 4) (h1 : own_sz k ts < k) : own_sz k ts + (1 : Int32) = own_sz k (ts ++ [t]) ∧ own_od k (ts ++ [t]) = own_od k ts := by
  obtain ⟨i, rfl⟩ := own_k4f hk
  obtain ⟨q1, q2⟩ := own_tab3 i ⟨ts.length, by omega⟩ h1
  refine ⟨?_, ?_⟩
  · show own_szn _ ts.length + 1 = own_szn _ (ts ++ [t]).length; rw [own_len1]; exact q1
  · show own_odn _ (ts ++ [t]).length = own_odn _ ts.length; rw [own_len1]; exact q2.symm
theorem own_K4 {k : Int32} {ts : List Int64} {t : Int64} (hk : own_k4 k) (hl : ts.length ≤ 4) (h1 : own_sz k ts < k) (h2 : ¬ (own_sz k ts = own_ln k ts)) : own_ln k (ts ++ [t]) = own_ln k ts ∧ (¬ own_sz k ts < 0 ∧ own_sz k ts < own_ln k ts) ∧ own_vs k (ts ++ [t]) = (own_vs k ts).set (own_sz k ts).toNatClampNeg (.long t) ∧ (own_sz k ts).toNatClampNeg < (own_vs k ts).length := by
  obtain ⟨i, rfl⟩ := own_k4f hk
  obtain ⟨q0, q1, q2, q3, q4⟩ := own_tab4 i ⟨ts.length, by omega⟩ h1 h2
  refine ⟨?_, ⟨q2, q3⟩, ?_, ?_⟩
  · show own_lnn _ (ts ++ [t]).length = own_lnn _ ts.length; rw [own_len1]; exact q1.symm
  · rw [own_vs1, if_neg q0]
    show _ = (own_vs _ ts).set (own_szn _ ts.length).toNatClampNeg _
    rw [show (own_szn (Int32.ofNat i.val) ts.length).toNatClampNeg = _ from q4]
  · rw [own_vslen _ _ q0]
    have z : own_szn (Int32.ofNat i.val) ts.length < own_lnn (Int32.ofNat i.val) ts.length := q3
    rw [own_lnk _ _ q0] at z
    exact own_idx q2 z
theorem own_K5 {k : Int32} {ts : List Int64} {t : Int64} (hk : own_k4 k) (hl : ts.length ≤ 4) (h0 : ¬ (k = (0 : Int32))) (h1 : ¬ (own_sz k ts < k)) : own_sz k (ts ++ [t]) = own_sz k ts ∧ (own_od k ts + (1 : Int32)) % k = own_od k (ts ++ [t]) ∧ own_ln k (ts ++ [t]) = own_ln k ts ∧ (¬ own_od k ts < 0 ∧ own_od k ts < own_ln k ts) ∧ own_vs k (ts ++ [t]) = (own_vs k ts).set (own_od k ts).toNatClampNeg (.long t) ∧ (own_od k ts).toNatClampNeg < (own_vs k ts).length := by
  obtain ⟨i, rfl⟩ := own_k4f hk
  obtain ⟨q0, q1, q2, q3, q4, q5, q6⟩ := own_tab5 i ⟨ts.length, by omega⟩ h0 h1
  refine ⟨?_, ?_, ?_, ⟨q4, q5⟩, ?_, ?_⟩
  · show own_szn _ (ts ++ [t]).length = own_szn _ ts.length; rw [own_len1]; exact q1.symm
  · show (own_odn _ ts.length + 1) % _ = own_odn _ (ts ++ [t]).length; rw [own_len1]; exact q2
  · show own_lnn _ (ts ++ [t]).length = own_lnn _ ts.length; rw [own_len1]; exact q3.symm
  · rw [own_vs1, if_neg q0]
    show _ = (own_vs _ ts).set (own_odn _ ts.length).toNatClampNeg _
    rw [show (own_odn (Int32.ofNat i.val) ts.length).toNatClampNeg = _ from q6]
  · rw [own_vslen _ _ q0]
    have z : own_odn (Int32.ofNat i.val) ts.length < own_lnn (Int32.ofNat i.val) ts.length := q5
    rw [own_lnk _ _ q0] at z
    exact own_idx q4 z
theorem own_repset {k z : Int32} (h1 : 1 ≤ k.toInt) (hz : z = 0) : (¬ z < 0 ∧ z < k) ∧ z.toNatClampNeg = 0 ∧ 0 < (List.replicate k.toNatClampNeg (Value.long (0 : Int64))).length := by
  subst hz
  refine ⟨⟨by decide, ?_⟩, rfl, ?_⟩
  · rw [Int32.lt_iff_toInt_lt, show (0 : Int32).toInt = 0 from rfl]; omega
  · rw [own_rep]; simp only [Int32.toNatClampNeg]; omega
def Q_own_keep (Z : State) (a1 : Addr) (q2 : Int64) (ta : Addr) (ka : ClassId) (kp : Int32) (ts : List Int64) (cv : Int64) (h0 : Heap) (n0 : Nat) (v : Option Value) (h : Heap) (L : List Loc) : Prop := ∃ (tb : Addr) (kb : ClassId), v = none ∧ Fr n0 L ∧ Keep h0 h [a1, ta] ∧ Exa Z h a1 "com/example/ferrybell/ferrybell/runtime/Restarts" ∧ Fld Z h a1 "com/example/ferrybell/ferrybell/runtime/Restarts" "iTimes" "[J" (.ref tb) ∧ Fld Z h a1 "com/example/ferrybell/ferrybell/runtime/Restarts" "iKept" "I" (.int kp) ∧ Fld Z h a1 "com/example/ferrybell/ferrybell/runtime/Restarts" "iCount" "J" (.long cv) ∧ Fld Z h a1 "com/example/ferrybell/ferrybell/runtime/Restarts" "iOldest" "I" (.int (own_od kp (ts ++ [q2]))) ∧ Fld Z h a1 "com/example/ferrybell/ferrybell/runtime/Restarts" "iSize" "I" (.int (own_sz kp (ts ++ [q2]))) ∧ Arv Z h tb kb .long (own_ln kp (ts ++ [q2])) (own_vs kp (ts ++ [q2])) (.long (0 : Int64)) ∧ n0 ≤ tb ∧ a1 ≠ tb ∧ (tb = ta ∨ h0.size ≤ tb)
theorem ef_own_keep (m : MethodId) (x0 : Addr) (x1 : Int64) : entryFrame m #[(.ref x0), (.long x1)] 3 = mkF m 0 #[.val (.ref x0), .val (.long x1), .second] [] := by first | (simp [entryFrame, mkF, argsToLocals, Value.category]; done) | rfl
set_option maxRecDepth 65536 in
set_option maxHeartbeats 40000000 in
theorem own_keep (l : Launch) (Z : State) (a0 : Array Value) (hw : ∀ d ∈ tables_1, d.before a0 Z = true) (ws : List Jvm.Cond) (a1 : Addr) (q2 : Int64) (ta : Addr) (ka : ClassId) (kp : Int32) (ts : List Int64) (cv : Int64) (h0 : Heap) (n0 : Nat) (Z0 : n0 ≤ h0.size) (Ex : Exa Z h0 a1 "com/example/ferrybell/ferrybell/runtime/Restarts") (Ft : Fld Z h0 a1 "com/example/ferrybell/ferrybell/runtime/Restarts" "iTimes" "[J" (.ref ta)) (Fk : Fld Z h0 a1 "com/example/ferrybell/ferrybell/runtime/Restarts" "iKept" "I" (.int kp)) (Fc : Fld Z h0 a1 "com/example/ferrybell/ferrybell/runtime/Restarts" "iCount" "J" (.long cv)) (Fo : Fld Z h0 a1 "com/example/ferrybell/ferrybell/runtime/Restarts" "iOldest" "I" (.int (own_od kp ts))) (Fs : Fld Z h0 a1 "com/example/ferrybell/ferrybell/runtime/Restarts" "iSize" "I" (.int (own_sz kp ts))) (Vt : Arv Z h0 ta ka .long (own_ln kp ts) (own_vs kp ts) (.long (0 : Int64))) (ne : a1 ≠ ta) (g1 : n0 ≤ a1) (g2 : n0 ≤ ta) (hk : own_k4 kp) (hl : ts.length ≤ 4) :
    MetFree l (⟨"com/example/ferrybell/ferrybell/runtime/Restarts", "keep", "(J)V"⟩ : MethodName) (head1 (Jvm.Cond.code (⟨"com/example/ferrybell/ferrybell/runtime/Restarts", "keep", "(J)V"⟩ : MethodName) prog_41_method_3_code 3 none :: ws) ({ frames := 2, cells := 1, slots := 3, locals := 33 } : Room)) (fun a U => a = #[(.ref a1), (.long q2)] ∧ Z.Warmed39 U.vm ∧ U.heap = h0) (fun _ _ _ _ _ => True) (fun _ U o U' => ∃ v L, o = .returned v ∧ Q_own_keep Z a1 q2 ta ka kp ts cv h0 n0 v U'.heap L ∧ FrameEnd U o U' L ({ frames := 2, cells := 1, slots := 3, locals := 33 } : Room).cells ({ frames := 2, cells := 1, slots := 3, locals := 33 } : Room).slots) := by
  refine MetFree.of_bodySF (plainFor_of_name own_pn3) hisR ?_
  intro p e s m args below meth c s₁ Bd hml0 hP hK
  obtain ⟨rfl, hZ, hh⟩ := hP
  have hx := Bd.exec
  have hby := Bd.bytes
  have hml : c.maxLocals = 3 := hml0
  have hown : s.vm.findClass "com/example/ferrybell/ferrybell/runtime/Restarts" = some m.cls := findClass_of_methodNamed Bd.named
  have hnm := (name_of_methodNamed Bd.named Bd.method).1
  have X0 : Stand p l e ({ frames := 2, cells := 1, slots := 3, locals := 33 } : Room) s m #[(.ref a1), (.long q2)] below meth c s₁ [] 0 0 := Stand.of_body Bd
  have e0 : s₁.heap = h0 := by rw [← hh, Bd.state]; rfl
  have N0 := Fr.nil n0
  show own_Fin p.tables e below _ (s₁.setTop (entryFrame m #[(.ref a1), (.long q2)] 3))
  refine own_go (fun _ k => castTop (ef_own_keep m a1 q2) k) ?_
  show own_Fin p.tables e below _ (s₁.setTop (mkF m 0 #[.val (.ref a1), .val (.long q2), .second] []))
  refine own_go (fun _ k => XS.aloadN X0.here hx rfl (hb hby d8_0) rfl rfl k) ?_
  show own_Fin p.tables e below _ (s₁.setTop (mkF m 1 #[.val (.ref a1), .val (.long q2), .second] [(.ref a1)]))
  obtain ⟨T1, X1, e1, st1⟩ := getF X0 hx hZ hown (host := "") (Or.inl (hw _ (List.mem_of_getElem? (i := 13) rfl))) Via.refl e0 Fk (g := (mkF m 1 #[.val (.ref a1), .val (.long q2), .second] [(.ref a1)])) rfl rfl (hb hby d8_1)
  refine own_go st1 ?_
  show own_Fin p.tables e below _ (T1.setTop (mkF m 4 #[.val (.ref a1), .val (.long q2), .second] [(.int kp)]))
  by_cases hc4 : kp = (0 : Int32)
  · refine own_go (fun _ k => XS.ifNo X1.here hx rfl (hb hby d8_4) rfl ((if0 _ _).trans (teq hc4).2) k) ?_
    show own_Fin p.tables e below _ (T1.setTop (mkF m 7 #[.val (.ref a1), .val (.long q2), .second] []))
    obtain ⟨fs, hr, hrun, hended, hW, hsame⟩ := X1.leave (v := none) (fun _ => rfl)
    refine ⟨_, _, ?_, hrun, hended, _, _, rfl, ?_, ⟨_, rfl⟩, hW, hsame.mono (by decide) (by decide)⟩
    · exact X1.returnOut hx Bd.returns (hb hby d8_7) hr
    · show Q_own_keep Z a1 q2 ta ka kp ts cv h0 n0 _ T1.heap _
      rw [e1]
      exact ⟨ta, ka, rfl, N0, (Keep.refl h0 [a1, ta]), Ex, Ft, Fk, Fc, (by rw [(own_K1 (t := q2) hk hl hc4).2.1]; exact Fo), (by rw [(own_K1 (t := q2) hk hl hc4).1]; exact Fs), (by rw [(own_K1 (t := q2) hk hl hc4).2.2.1, (own_K1 (t := q2) hk hl hc4).2.2.2]; exact Vt), g2, ne, (Or.inl rfl)⟩
  · refine own_go (fun _ k => XS.ifYes X1.here hx rfl (pc0 := 4) (pc' := 8) rfl (hb hby d8_4) rfl ((if0 _ _).trans (feq hc4).2) (by decide) (by decide) k) ?_
    show own_Fin p.tables e below _ (T1.setTop (mkF m 8 #[.val (.ref a1), .val (.long q2), .second] []))
    refine own_go (fun _ k => XS.aloadN X1.here hx rfl (hb hby d8_8) rfl rfl k) ?_
    show own_Fin p.tables e below _ (T1.setTop (mkF m 9 #[.val (.ref a1), .val (.long q2), .second] [(.ref a1)]))
    obtain ⟨T2, X2, e2, st2⟩ := getF X1 hx hZ hown (host := "") (Or.inl (hw _ (List.mem_of_getElem? (i := 40) rfl))) Via.refl e1 Fs (g := (mkF m 9 #[.val (.ref a1), .val (.long q2), .second] [(.ref a1)])) rfl rfl (hb hby d8_9)
    refine own_go st2 ?_
    show own_Fin p.tables e below _ (T2.setTop (mkF m 12 #[.val (.ref a1), .val (.long q2), .second] [(.int (own_sz kp ts))]))
    refine own_go (fun _ k => XS.aloadN X2.here hx rfl (hb hby d8_12) rfl rfl k) ?_
    show own_Fin p.tables e below _ (T2.setTop (mkF m 13 #[.val (.ref a1), .val (.long q2), .second] [(.ref a1), (.int (own_sz kp ts))]))
    obtain ⟨T3, X3, e3, st3⟩ := getF X2 hx hZ hown (host := "") (Or.inl (hw _ (List.mem_of_getElem? (i := 13) rfl))) Via.refl e2 Fk (g := (mkF m 13 #[.val (.ref a1), .val (.long q2), .second] [(.ref a1), (.int (own_sz kp ts))])) rfl rfl (hb hby d8_13)
    refine own_go st3 ?_
    show own_Fin p.tables e below _ (T3.setTop (mkF m 16 #[.val (.ref a1), .val (.long q2), .second] [(.int kp), (.int (own_sz kp ts))]))
    by_cases hc16 : (own_sz kp ts) < kp
    · refine own_go (fun _ k => XS.icmpNo X3.here hx rfl (hb hby d8_16) rfl (tlt hc16).2.1 k) ?_
      show own_Fin p.tables e below _ (T3.setTop (mkF m 19 #[.val (.ref a1), .val (.long q2), .second] []))
      refine own_go (fun _ k => XS.aloadN X3.here hx rfl (hb hby d8_19) rfl rfl k) ?_
      show own_Fin p.tables e below _ (T3.setTop (mkF m 20 #[.val (.ref a1), .val (.long q2), .second] [(.ref a1)]))
      obtain ⟨T4, X4, e4, st4⟩ := getF X3 hx hZ hown (host := "") (Or.inl (hw _ (List.mem_of_getElem? (i := 40) rfl))) Via.refl e3 Fs (g := (mkF m 20 #[.val (.ref a1), .val (.long q2), .second] [(.ref a1)])) rfl rfl (hb hby d8_20)
      refine own_go st4 ?_
      show own_Fin p.tables e below _ (T4.setTop (mkF m 23 #[.val (.ref a1), .val (.long q2), .second] [(.int (own_sz kp ts))]))
      refine own_go (fun _ k => XS.aloadN X4.here hx rfl (hb hby d8_23) rfl rfl k) ?_
      show own_Fin p.tables e below _ (T4.setTop (mkF m 24 #[.val (.ref a1), .val (.long q2), .second] [(.ref a1), (.int (own_sz kp ts))]))
      obtain ⟨T5, X5, e5, st5⟩ := getF X4 hx hZ hown (host := "") (Or.inl (hw _ (List.mem_of_getElem? (i := 11) rfl))) Via.refl e4 Ft (g := (mkF m 24 #[.val (.ref a1), .val (.long q2), .second] [(.ref a1), (.int (own_sz kp ts))])) rfl rfl (hb hby d8_24)
      refine own_go st5 ?_
      show own_Fin p.tables e below _ (T5.setTop (mkF m 27 #[.val (.ref a1), .val (.long q2), .second] [(.ref ta), (.int (own_sz kp ts))]))
      obtain ⟨cl6, Ar6, -, S6, B6, -, -⟩ := id Vt
      refine own_go (X5.arraylength hx (by rw [e5]; exact Ar6.1) (State.isArrayOf_alike hZ.alike Ar6.2.1) (g := (mkF m 27 #[.val (.ref a1), .val (.long q2), .second] [(.ref ta), (.int (own_sz kp ts))])) rfl rfl (hb hby d8_27)) ?_
      rw [len_of S6 B6]
      show own_Fin p.tables e below _ (T5.setTop (mkF m 28 #[.val (.ref a1), .val (.long q2), .second] [(.int (own_ln kp ts)), (.int (own_sz kp ts))]))
      by_cases hc28 : (own_sz kp ts) = (own_ln kp ts)
      · refine own_go (fun _ k => XS.icmpNo X5.here hx rfl (hb hby d8_28) rfl (teq hc28).2 k) ?_
        show own_Fin p.tables e below _ (T5.setTop (mkF m 31 #[.val (.ref a1), .val (.long q2), .second] []))
        refine own_go (fun _ k => XS.aloadN X5.here hx rfl (hb hby d8_31) rfl rfl k) ?_
        show own_Fin p.tables e below _ (T5.setTop (mkF m 32 #[.val (.ref a1), .val (.long q2), .second] [(.ref a1)]))
        refine own_go (fun _ k => XS.aloadN X5.here hx rfl (hb hby d8_32) rfl rfl k) ?_
        show own_Fin p.tables e below _ (T5.setTop (mkF m 33 #[.val (.ref a1), .val (.long q2), .second] [(.ref a1), (.ref a1)]))
        obtain ⟨T7, X7, e7, st7⟩ := getF X5 hx hZ hown (host := "") (Or.inl (hw _ (List.mem_of_getElem? (i := 11) rfl))) Via.refl e5 Ft (g := (mkF m 33 #[.val (.ref a1), .val (.long q2), .second] [(.ref a1), (.ref a1)])) rfl rfl (hb hby d8_33)
        refine own_go st7 ?_
        show own_Fin p.tables e below _ (T7.setTop (mkF m 36 #[.val (.ref a1), .val (.long q2), .second] [(.ref ta), (.ref a1)]))
        refine own_go (fun _ k => XS.aloadN X7.here hx rfl (hb hby d8_36) rfl rfl k) ?_
        show own_Fin p.tables e below _ (T7.setTop (mkF m 37 #[.val (.ref a1), .val (.long q2), .second] [(.ref a1), (.ref ta), (.ref a1)]))
        obtain ⟨T8, X8, e8, st8⟩ := getF X7 hx hZ hown (host := "") (Or.inl (hw _ (List.mem_of_getElem? (i := 13) rfl))) Via.refl e7 Fk (g := (mkF m 37 #[.val (.ref a1), .val (.long q2), .second] [(.ref a1), (.ref ta), (.ref a1)])) rfl rfl (hb hby d8_37)
        refine own_go st8 ?_
        show own_Fin p.tables e below _ (T8.setTop (mkF m 40 #[.val (.ref a1), .val (.long q2), .second] [(.int kp), (.ref ta), (.ref a1)]))
        refine own_go (fun _ k => XS.i2l X8.here hx rfl (hb hby d8_40) rfl k) ?_
        show own_Fin p.tables e below _ (T8.setTop (mkF m 41 #[.val (.ref a1), .val (.long q2), .second] [(.long (kp.toInt64)), (.ref ta), (.ref a1)]))
        refine own_go (X8.ldc2Long hx hown (mvT hZ (hw _ (List.mem_of_getElem? (i := 42) rfl))) (g := (mkF m 41 #[.val (.ref a1), .val (.long q2), .second] [(.long (kp.toInt64)), (.ref ta), (.ref a1)])) rfl (hb hby d8_41)) ?_
        show own_Fin p.tables e below _ (T8.setTop (mkF m 44 #[.val (.ref a1), .val (.long q2), .second] [(.long (8 : Int64)), (.long (kp.toInt64)), (.ref ta), (.ref a1)]))
        refine own_go (X8.ldc2Long hx hown (mvT hZ (hw _ (List.mem_of_getElem? (i := 43) rfl))) (g := (mkF m 44 #[.val (.ref a1), .val (.long q2), .second] [(.long (8 : Int64)), (.long (kp.toInt64)), (.ref ta), (.ref a1)])) rfl (hb hby d8_44)) ?_
        show own_Fin p.tables e below _ (T8.setTop (mkF m 47 #[.val (.ref a1), .val (.long q2), .second] [(.long (2 : Int64)), (.long (8 : Int64)), (.long (kp.toInt64)), (.ref ta), (.ref a1)]))
        refine own_go (fun _ k => XS.aloadN X8.here hx rfl (hb hby d8_47) rfl rfl k) ?_
        show own_Fin p.tables e below _ (T8.setTop (mkF m 48 #[.val (.ref a1), .val (.long q2), .second] [(.ref a1), (.long (2 : Int64)), (.long (8 : Int64)), (.long (kp.toInt64)), (.ref ta), (.ref a1)]))
        obtain ⟨T9, X9, e9, st9⟩ := getF X8 hx hZ hown (host := "") (Or.inl (hw _ (List.mem_of_getElem? (i := 40) rfl))) Via.refl e8 Fs (g := (mkF m 48 #[.val (.ref a1), .val (.long q2), .second] [(.ref a1), (.long (2 : Int64)), (.long (8 : Int64)), (.long (kp.toInt64)), (.ref ta), (.ref a1)])) rfl rfl (hb hby d8_48)
        refine own_go st9 ?_
        show own_Fin p.tables e below _ (T9.setTop (mkF m 51 #[.val (.ref a1), .val (.long q2), .second] [(.int (own_sz kp ts)), (.long (2 : Int64)), (.long (8 : Int64)), (.long (kp.toInt64)), (.ref ta), (.ref a1)]))
        refine own_go (fun _ k => XS.i2l X9.here hx rfl (hb hby d8_51) rfl k) ?_
        show own_Fin p.tables e below _ (T9.setTop (mkF m 52 #[.val (.ref a1), .val (.long q2), .second] [(.long ((own_sz kp ts).toInt64)), (.long (2 : Int64)), (.long (8 : Int64)), (.long (kp.toInt64)), (.ref ta), (.ref a1)]))
        refine own_go (fun _ k => XS.lmul X9.here hx rfl (hb hby d8_52) rfl k) ?_
        show own_Fin p.tables e below _ (T9.setTop (mkF m 53 #[.val (.ref a1), .val (.long q2), .second] [(.long ((2 : Int64) * ((own_sz kp ts).toInt64))), (.long (8 : Int64)), (.long (kp.toInt64)), (.ref ta), (.ref a1)]))
        obtain ⟨_, _, ⟨T10, L10, k10, n10⟩, -, X10, ⟨Lc10, hQ10, l10, y10, z10⟩, st10⟩ := Jvm.LawKit.callS X9 hx (y := (⟨"java/lang/Math", "max", "(JJ)J"⟩ : MethodName)) hown (mvT hZ (hw _ (List.mem_of_getElem? (i := 44) rfl))) (mvT hZ (hw _ (List.mem_of_getElem? (i := 45) rfl))) (mvT hZ (hw _ (List.mem_of_getElem? (i := 46) rfl))) (mvT hZ (hw _ (List.mem_of_getElem? (i := 47) rfl))) (by decide) (backOf (W := 4) (own_maxJ l Z a0 hw [] (8 : Int64) ((2 : Int64) * ((own_sz kp ts).toInt64)) h0 n0 Z0 ) hZ (hw _ (List.mem_of_getElem? (i := 47) rfl)) (hw _ (List.mem_of_getElem? (i := 46) rfl)) (by decide) (by decide)) (g := (mkF m 53 #[.val (.ref a1), .val (.long q2), .second] [(.long ((2 : Int64) * ((own_sz kp ts).toInt64))), (.long (8 : Int64)), (.long (kp.toInt64)), (.ref ta), (.ref a1)])) rfl (by rw [hml]; rfl) (argsL := [(.long (8 : Int64)), (.long ((2 : Int64) * ((own_sz kp ts).toInt64)))]) (rest := [(.long (kp.toInt64)), (.ref ta), (.ref a1)]) (lenOf own_pd2 rfl) rfl (by show 2 * 0 + _ ≤ _; exact Nat.le_of_eq rfl) (hb hby d8_53) (fun _ _ => ⟨rfl, e9, (by decide : 0 + 0 ≤ _), (by decide : 0 + 0 ≤ _)⟩)
        dsimp only [Pt.U, Pt.locs, Pt.cells, Pt.slots] at X10 l10 y10 z10 st10 hQ10
        subst l10 y10 z10
        obtain ⟨hv10, N10q, eh10⟩ := hQ10
        subst hv10
        have N10 := Fr.app N0 N10q
        refine own_go st10 ?_
        show own_Fin p.tables e below _ (T10.setTop (mkF m 56 #[.val (.ref a1), .val (.long q2), .second] [(.long (if (8 : Int64) < ((2 : Int64) * ((own_sz kp ts).toInt64)) then ((2 : Int64) * ((own_sz kp ts).toInt64)) else (8 : Int64))), (.long (kp.toInt64)), (.ref ta), (.ref a1)]))
        obtain ⟨_, _, ⟨T11, L11, k11, n11⟩, -, X11, ⟨Lc11, hQ11, l11, y11, z11⟩, st11⟩ := Jvm.LawKit.callS X10 hx (y := (⟨"java/lang/Math", "min", "(JJ)J"⟩ : MethodName)) hown (mvT hZ (hw _ (List.mem_of_getElem? (i := 48) rfl))) (mvT hZ (hw _ (List.mem_of_getElem? (i := 49) rfl))) (mvT hZ (hw _ (List.mem_of_getElem? (i := 46) rfl))) (mvT hZ (hw _ (List.mem_of_getElem? (i := 50) rfl))) (by decide) (backOf (W := 2) (own_minJ l Z a0 hw [] (kp.toInt64) (if (8 : Int64) < ((2 : Int64) * ((own_sz kp ts).toInt64)) then ((2 : Int64) * ((own_sz kp ts).toInt64)) else (8 : Int64)) h0 n0 Z0 ) hZ (hw _ (List.mem_of_getElem? (i := 50) rfl)) (hw _ (List.mem_of_getElem? (i := 46) rfl)) (by decide) (by decide)) (g := (mkF m 56 #[.val (.ref a1), .val (.long q2), .second] [(.long (if (8 : Int64) < ((2 : Int64) * ((own_sz kp ts).toInt64)) then ((2 : Int64) * ((own_sz kp ts).toInt64)) else (8 : Int64))), (.long (kp.toInt64)), (.ref ta), (.ref a1)])) rfl (by rw [hml]; rfl) (argsL := [(.long (kp.toInt64)), (.long (if (8 : Int64) < ((2 : Int64) * ((own_sz kp ts).toInt64)) then ((2 : Int64) * ((own_sz kp ts).toInt64)) else (8 : Int64)))]) (rest := [(.ref ta), (.ref a1)]) (lenOf own_pd2 rfl) rfl (by show 2 * 0 + _ ≤ _; exact Nat.le_of_eq rfl) (hb hby d8_56) (fun _ _ => ⟨rfl, eh10, (by decide : 0 + 0 ≤ _), (by decide : 0 + 0 ≤ _)⟩)
        dsimp only [Pt.U, Pt.locs, Pt.cells, Pt.slots] at X11 l11 y11 z11 st11 hQ11
        subst l11 y11 z11
        obtain ⟨hv11, N11q, eh11⟩ := hQ11
        obtain rfl := hv11.trans (by rw [own_mm (own_k4i hk).2 (own_K2 (t := q2) hk hl hc16 hc28).2.1] : (some (.long (if (if (8 : Int64) < ((2 : Int64) * ((own_sz kp ts).toInt64)) then ((2 : Int64) * ((own_sz kp ts).toInt64)) else (8 : Int64)) < (kp.toInt64) then (if (8 : Int64) < ((2 : Int64) * ((own_sz kp ts).toInt64)) then ((2 : Int64) * ((own_sz kp ts).toInt64)) else (8 : Int64)) else (kp.toInt64))) : Option Value) = some (.long (kp.toInt64)))
        have N11 := Fr.app N10 N11q
        refine own_go st11 ?_
        show own_Fin p.tables e below _ (T11.setTop (mkF m 59 #[.val (.ref a1), .val (.long q2), .second] [(.long (kp.toInt64)), (.ref ta), (.ref a1)]))
        refine own_go (fun _ k => XS.l2i X11.here hx rfl (hb hby d8_59) rfl k) ?_
        show own_Fin p.tables e below _ (T11.setTop (mkF m 60 #[.val (.ref a1), .val (.long q2), .second] [(.int ((kp.toInt64).toInt32)), (.ref ta), (.ref a1)]))
        rw [own_ii kp]
        show own_Fin p.tables e below _ (T11.setTop (mkF m 60 #[.val (.ref a1), .val (.long q2), .second] [(.int kp), (.ref ta), (.ref a1)]))
        obtain ⟨_, _, ⟨T12, L12, k12, n12⟩, -, X12, ⟨Lc12, hQ12, l12, y12, z12⟩, st12⟩ := Jvm.LawKit.callS X11 hx (y := (⟨"java/util/Arrays", "copyOf", "([JI)[J"⟩ : MethodName)) hown (mvT hZ (hw _ (List.mem_of_getElem? (i := 51) rfl))) (mvT hZ (hw _ (List.mem_of_getElem? (i := 52) rfl))) (mvT hZ (hw _ (List.mem_of_getElem? (i := 53) rfl))) (mvT hZ (hw _ (List.mem_of_getElem? (i := 54) rfl))) (by decide) (backOf (W := 1) (own_copyOf l Z a0 hw [] ta kp ka (own_ln kp ts) (own_vs kp ts) h0 n0 Z0 Vt (own_K2 (t := q2) hk hl hc16 hc28).2.2.1 (own_K2 (t := q2) hk hl hc16 hc28).1 (own_k4i hk).2) hZ (hw _ (List.mem_of_getElem? (i := 54) rfl)) (hw _ (List.mem_of_getElem? (i := 53) rfl)) (by decide) (by decide)) (g := (mkF m 60 #[.val (.ref a1), .val (.long q2), .second] [(.int kp), (.ref ta), (.ref a1)])) rfl (by rw [hml]; rfl) (argsL := [(.ref ta), (.int kp)]) (rest := [(.ref a1)]) (lenOf own_pd3 rfl) rfl (by show 2 * 0 + _ ≤ _; exact Nat.le_of_eq rfl) (hb hby d8_60) (fun _ _ => ⟨rfl, eh11, (by decide : 0 + 1 ≤ _), (by decide : 0 + 3 ≤ _)⟩)
        dsimp only [Pt.U, Pt.locs, Pt.cells, Pt.slots] at X12 l12 y12 z12 st12 hQ12
        subst l12 y12 z12
        obtain ⟨bq12, kq12, hv12, N12q, o12_0, o12_1, o12_2, o12_3⟩ := hQ12
        subst hv12
        have N12 := Fr.app N11 N12q
        refine own_go st12 ?_
        have ne_a1_bq12 : a1 ≠ bq12 := Nat.ne_of_lt (Nat.lt_of_lt_of_le Ex.lt o12_1)
        have ne_ta_bq12 : ta ≠ bq12 := Nat.ne_of_lt (Nat.lt_of_lt_of_le Vt.lt o12_1)
        have sz_bq12 : h0.size ≤ bq12 := Nat.le_trans (Keep.refl h0 [a1, ta]).1 o12_1
        have f13_0 : Exa Z T12.heap a1 "com/example/ferrybell/ferrybell/runtime/Restarts" := Ex.keep o12_0
        have f13_1 : Fld Z T12.heap a1 "com/example/ferrybell/ferrybell/runtime/Restarts" "iTimes" "[J" (.ref ta) := Ft.keep o12_0 nin0
        have f13_2 : Fld Z T12.heap a1 "com/example/ferrybell/ferrybell/runtime/Restarts" "iKept" "I" (.int kp) := Fk.keep o12_0 nin0
        have f13_3 : Fld Z T12.heap a1 "com/example/ferrybell/ferrybell/runtime/Restarts" "iCount" "J" (.long cv) := Fc.keep o12_0 nin0
        have f13_4 : Fld Z T12.heap a1 "com/example/ferrybell/ferrybell/runtime/Restarts" "iOldest" "I" (.int (own_od kp ts)) := Fo.keep o12_0 nin0
        have f13_5 : Fld Z T12.heap a1 "com/example/ferrybell/ferrybell/runtime/Restarts" "iSize" "I" (.int (own_sz kp ts)) := Fs.keep o12_0 nin0
        have f13_6 : Arv Z T12.heap ta ka .long (own_ln kp ts) (own_vs kp ts) (.long (0 : Int64)) := Vt.keep o12_0 nin0
        have K14 : Keep h0 T12.heap [a1, ta] := Keep.trans (Keep.refl h0 [a1, ta]) o12_0 all0
        have Z15 : n0 ≤ T12.heap.size := Nat.le_trans Z0 o12_0.1
        have Vp12 : Arv Z T12.heap bq12 kq12 .long kp (List.replicate kp.toNatClampNeg (.long (0 : Int64))) (.long (0 : Int64)) := Arv.pad o12_3 (pad_rep [] (.long (0 : Int64)) kp.toNatClampNeg)
        show own_Fin p.tables e below _ (T12.setTop (mkF m 63 #[.val (.ref a1), .val (.long q2), .second] [(.ref bq12), (.ref a1)]))
        obtain ⟨T16, h16, X16, e16, W16, st16⟩ := putF X12 hx hZ hown (host := "") (Or.inl (hw _ (List.mem_of_getElem? (i := 11) rfl))) Via.refl rfl f13_1 f13_0 (Or.inl (hw _ (List.mem_of_getElem? (i := 12) rfl))) (hw _ (List.mem_of_getElem? (i := 3) rfl)) (ty := (.array .long)) (by decide) rfl rfl (g := (mkF m 63 #[.val (.ref a1), .val (.long q2), .second] [(.ref bq12), (.ref a1)])) rfl rfl (hb hby d8_63)
        refine own_go st16 ?_
        have f17_0 : Exa Z h16 a1 "com/example/ferrybell/ferrybell/runtime/Restarts" := f13_0.wr W16
        have f17_2 : Fld Z h16 a1 "com/example/ferrybell/ferrybell/runtime/Restarts" "iKept" "I" (.int kp) := f13_2.other W16 (Or.inr (slot_ne (Or.inr (hw _ (List.mem_of_getElem? (i := 14) rfl))) (Or.inl (hw _ (List.mem_of_getElem? (i := 12) rfl))) (by decide) (t := .int) (t' := (.array .long)) (by decide) (by decide)))
        have f17_3 : Fld Z h16 a1 "com/example/ferrybell/ferrybell/runtime/Restarts" "iCount" "J" (.long cv) := f13_3.other W16 (Or.inr (slot_ne (Or.inl (hw _ (List.mem_of_getElem? (i := 34) rfl))) (Or.inl (hw _ (List.mem_of_getElem? (i := 12) rfl))) (by decide) (t := .long) (t' := (.array .long)) (by decide) (by decide)))
        have f17_4 : Fld Z h16 a1 "com/example/ferrybell/ferrybell/runtime/Restarts" "iOldest" "I" (.int (own_od kp ts)) := f13_4.other W16 (Or.inr (slot_ne (Or.inl (hw _ (List.mem_of_getElem? (i := 63) rfl))) (Or.inl (hw _ (List.mem_of_getElem? (i := 12) rfl))) (by decide) (t := .int) (t' := (.array .long)) (by decide) (by decide)))
        have f17_5 : Fld Z h16 a1 "com/example/ferrybell/ferrybell/runtime/Restarts" "iSize" "I" (.int (own_sz kp ts)) := f13_5.other W16 (Or.inr (slot_ne (Or.inl (hw _ (List.mem_of_getElem? (i := 41) rfl))) (Or.inl (hw _ (List.mem_of_getElem? (i := 12) rfl))) (by decide) (t := .int) (t' := (.array .long)) (by decide) (by decide)))
        have f17_6 : Arv Z h16 ta ka .long (own_ln kp ts) (own_vs kp ts) (.long (0 : Int64)) := f13_6.other W16 (Ne.symm ne)
        have f17_7 : Arv Z h16 bq12 kq12 .long kp (List.replicate kp.toNatClampNeg (.long (0 : Int64))) (.long (0 : Int64)) := Vp12.other W16 (Ne.symm ne_a1_bq12)
        have F16 : Fld Z h16 a1 "com/example/ferrybell/ferrybell/runtime/Restarts" "iTimes" "[J" (.ref bq12) := f13_1.same W16
        have N16 := Fr.snoc X16 N12 g1
        have K18 : Keep h0 h16 [a1, ta] := Keep.wr K14 W16 (Or.inl (List.mem_of_getElem? (i := 0) rfl))
        have Z19 : n0 ≤ h16.size := Nat.le_trans Z15 (Keep.of_wr W16).1
        show own_Fin p.tables e below _ (T16.setTop (mkF m 66 #[.val (.ref a1), .val (.long q2), .second] []))
        refine own_go (fun _ k => XS.aloadN X16.here hx rfl (hb hby d8_66) rfl rfl k) ?_
        show own_Fin p.tables e below _ (T16.setTop (mkF m 67 #[.val (.ref a1), .val (.long q2), .second] [(.ref a1)]))
        obtain ⟨T20, X20, e20, st20⟩ := getF X16 hx hZ hown (host := "") (Or.inl (hw _ (List.mem_of_getElem? (i := 11) rfl))) Via.refl e16 F16 (g := (mkF m 67 #[.val (.ref a1), .val (.long q2), .second] [(.ref a1)])) rfl rfl (hb hby d8_67)
        refine own_go st20 ?_
        show own_Fin p.tables e below _ (T20.setTop (mkF m 70 #[.val (.ref a1), .val (.long q2), .second] [(.ref bq12)]))
        refine own_go (fun _ k => XS.aloadN X20.here hx rfl (hb hby d8_70) rfl rfl k) ?_
        show own_Fin p.tables e below _ (T20.setTop (mkF m 71 #[.val (.ref a1), .val (.long q2), .second] [(.ref a1), (.ref bq12)]))
        refine own_go (fun _ k => XS.dup X20.here hx rfl (hb hby d8_71) rfl rfl k) ?_
        show own_Fin p.tables e below _ (T20.setTop (mkF m 72 #[.val (.ref a1), .val (.long q2), .second] [(.ref a1), (.ref a1), (.ref bq12)]))
        obtain ⟨T21, X21, e21, st21⟩ := getF X20 hx hZ hown (host := "") (Or.inl (hw _ (List.mem_of_getElem? (i := 40) rfl))) Via.refl e20 f17_5 (g := (mkF m 72 #[.val (.ref a1), .val (.long q2), .second] [(.ref a1), (.ref a1), (.ref bq12)])) rfl rfl (hb hby d8_72)
        refine own_go st21 ?_
        show own_Fin p.tables e below _ (T21.setTop (mkF m 75 #[.val (.ref a1), .val (.long q2), .second] [(.int (own_sz kp ts)), (.ref a1), (.ref bq12)]))
        refine own_go (fun _ k => XS.dupX1 X21.here hx rfl (hb hby d8_75) rfl rfl rfl k) ?_
        show own_Fin p.tables e below _ (T21.setTop (mkF m 76 #[.val (.ref a1), .val (.long q2), .second] [(.int (own_sz kp ts)), (.ref a1), (.int (own_sz kp ts)), (.ref bq12)]))
        refine own_go (fun _ k => XS.iconst X21.here hx rfl (hb hby d8_76) k) ?_
        show own_Fin p.tables e below _ (T21.setTop (mkF m 77 #[.val (.ref a1), .val (.long q2), .second] [(.int (1 : Int32)), (.int (own_sz kp ts)), (.ref a1), (.int (own_sz kp ts)), (.ref bq12)]))
        refine own_go (fun _ k => XS.iadd X21.here hx rfl (hb hby d8_77) rfl k) ?_
        show own_Fin p.tables e below _ (T21.setTop (mkF m 78 #[.val (.ref a1), .val (.long q2), .second] [(.int ((own_sz kp ts) + (1 : Int32))), (.ref a1), (.int (own_sz kp ts)), (.ref bq12)]))
        obtain ⟨T22, h22, X22, e22, W22, st22⟩ := putF X21 hx hZ hown (host := "") (Or.inl (hw _ (List.mem_of_getElem? (i := 40) rfl))) Via.refl e21 f17_5 f17_0 (Or.inl (hw _ (List.mem_of_getElem? (i := 41) rfl))) (hw _ (List.mem_of_getElem? (i := 3) rfl)) (ty := .int) (by decide) rfl rfl (g := (mkF m 78 #[.val (.ref a1), .val (.long q2), .second] [(.int ((own_sz kp ts) + (1 : Int32))), (.ref a1), (.int (own_sz kp ts)), (.ref bq12)])) rfl rfl (hb hby d8_78)
        refine own_go st22 ?_
        have f23_0 : Exa Z h22 a1 "com/example/ferrybell/ferrybell/runtime/Restarts" := f17_0.wr W22
        have f23_1 : Fld Z h22 a1 "com/example/ferrybell/ferrybell/runtime/Restarts" "iKept" "I" (.int kp) := f17_2.other W22 (Or.inr (slot_ne (Or.inr (hw _ (List.mem_of_getElem? (i := 14) rfl))) (Or.inl (hw _ (List.mem_of_getElem? (i := 41) rfl))) (by decide) (t := .int) (t' := .int) (by decide) (by decide)))
        have f23_2 : Fld Z h22 a1 "com/example/ferrybell/ferrybell/runtime/Restarts" "iCount" "J" (.long cv) := f17_3.other W22 (Or.inr (slot_ne (Or.inl (hw _ (List.mem_of_getElem? (i := 34) rfl))) (Or.inl (hw _ (List.mem_of_getElem? (i := 41) rfl))) (by decide) (t := .long) (t' := .int) (by decide) (by decide)))
        have f23_3 : Fld Z h22 a1 "com/example/ferrybell/ferrybell/runtime/Restarts" "iOldest" "I" (.int (own_od kp ts)) := f17_4.other W22 (Or.inr (slot_ne (Or.inl (hw _ (List.mem_of_getElem? (i := 63) rfl))) (Or.inl (hw _ (List.mem_of_getElem? (i := 41) rfl))) (by decide) (t := .int) (t' := .int) (by decide) (by decide)))
        have f23_5 : Arv Z h22 ta ka .long (own_ln kp ts) (own_vs kp ts) (.long (0 : Int64)) := f17_6.other W22 (Ne.symm ne)
        have f23_6 : Arv Z h22 bq12 kq12 .long kp (List.replicate kp.toNatClampNeg (.long (0 : Int64))) (.long (0 : Int64)) := f17_7.other W22 (Ne.symm ne_a1_bq12)
        have f23_7 : Fld Z h22 a1 "com/example/ferrybell/ferrybell/runtime/Restarts" "iTimes" "[J" (.ref bq12) := F16.other W22 (Or.inr (slot_ne (Or.inl (hw _ (List.mem_of_getElem? (i := 12) rfl))) (Or.inl (hw _ (List.mem_of_getElem? (i := 41) rfl))) (by decide) (t := (.array .long)) (t' := .int) (by decide) (by decide)))
        have F22 : Fld Z h22 a1 "com/example/ferrybell/ferrybell/runtime/Restarts" "iSize" "I" (.int ((own_sz kp ts) + (1 : Int32))) := f17_5.same W22
        have N22 := Fr.snoc X22 N16 g1
        have K24 : Keep h0 h22 [a1, ta] := Keep.wr K18 W22 (Or.inl (List.mem_of_getElem? (i := 0) rfl))
        have Z25 : n0 ≤ h22.size := Nat.le_trans Z19 (Keep.of_wr W22).1
        show own_Fin p.tables e below _ (T22.setTop (mkF m 81 #[.val (.ref a1), .val (.long q2), .second] [(.int (own_sz kp ts)), (.ref bq12)]))
        refine own_go (fun _ k => XS.lloadN X22.here hx rfl (hb hby d8_81) rfl k) ?_
        show own_Fin p.tables e below _ (T22.setTop (mkF m 82 #[.val (.ref a1), .val (.long q2), .second] [(.long q2), (.int (own_sz kp ts)), (.ref bq12)]))
        obtain ⟨cl26, Ar26, q26, S26, B26, H26, G26⟩ := f23_6
        have in26 : ¬ ((own_sz kp ts) < 0 ∨ cl26.slots.size ≤ ((own_sz kp ts)).toNatClampNeg) := inb_of S26 (own_repset (z := own_sz kp ts) (own_K2 (t := q2) hk hl hc16 hc28).1 (own_K2 (t := q2) hk hl hc16 hc28).2.1).1
        obtain ⟨T27, h27, X27, e27, W27, st27⟩ := stJ X22 hx hZ e22 Ar26 (j := (own_sz kp ts)) in26 (g := (mkF m 82 #[.val (.ref a1), .val (.long q2), .second] [(.long q2), (.int (own_sz kp ts)), (.ref bq12)])) rfl rfl (hb hby d8_82)
        refine own_go st27 ?_
        have f28_0 : Exa Z h27 a1 "com/example/ferrybell/ferrybell/runtime/Restarts" := f23_0.wr W27
        have f28_1 : Fld Z h27 a1 "com/example/ferrybell/ferrybell/runtime/Restarts" "iKept" "I" (.int kp) := f23_1.other W27 (Or.inl ne_a1_bq12)
        have f28_2 : Fld Z h27 a1 "com/example/ferrybell/ferrybell/runtime/Restarts" "iCount" "J" (.long cv) := f23_2.other W27 (Or.inl ne_a1_bq12)
        have f28_3 : Fld Z h27 a1 "com/example/ferrybell/ferrybell/runtime/Restarts" "iOldest" "I" (.int (own_od kp ts)) := f23_3.other W27 (Or.inl ne_a1_bq12)
        have f28_4 : Arv Z h27 ta ka .long (own_ln kp ts) (own_vs kp ts) (.long (0 : Int64)) := f23_5.other W27 ne_ta_bq12
        have f28_6 : Fld Z h27 a1 "com/example/ferrybell/ferrybell/runtime/Restarts" "iTimes" "[J" (.ref bq12) := f23_7.other W27 (Or.inl ne_a1_bq12)
        have f28_7 : Fld Z h27 a1 "com/example/ferrybell/ferrybell/runtime/Restarts" "iSize" "I" (.int ((own_sz kp ts) + (1 : Int32))) := F22.other W27 (Or.inl ne_a1_bq12)
        have V27 : Arv Z h27 bq12 kq12 .long kp (List.set (List.replicate kp.toNatClampNeg (.long (0 : Int64))) 0 (.long q2)) (.long (0 : Int64)) := Arv.set Ar26 q26 S26 B26 H26 G26 rfl W27 0 (own_repset (z := own_sz kp ts) (own_K2 (t := q2) hk hl hc16 hc28).1 (own_K2 (t := q2) hk hl hc16 hc28).2.1).2.1 (own_repset (z := own_sz kp ts) (own_K2 (t := q2) hk hl hc16 hc28).1 (own_K2 (t := q2) hk hl hc16 hc28).2.1).2.2
        have N27 := Fr.snoc X27 N22 o12_2
        have K29 : Keep h0 h27 [a1, ta] := Keep.wr K24 W27 (Or.inr sz_bq12)
        have Z30 : n0 ≤ h27.size := Nat.le_trans Z25 (Keep.of_wr W27).1
        show own_Fin p.tables e below _ (T27.setTop (mkF m 83 #[.val (.ref a1), .val (.long q2), .second] []))
        refine own_go (fun _ k => XS.goto X27.here hx rfl (pc0 := 83) (pc' := 111) rfl (hb hby d8_83) (by decide) (by decide) k) ?_
        show own_Fin p.tables e below _ (T27.setTop (mkF m 111 #[.val (.ref a1), .val (.long q2), .second] []))
        obtain ⟨fs, hr, hrun, hended, hW, hsame⟩ := X27.leave (v := none) (fun _ => rfl)
        refine ⟨_, _, ?_, hrun, hended, _, _, rfl, ?_, ⟨_, rfl⟩, hW, hsame.mono (by decide) (by decide)⟩
        · exact X27.returnOut hx Bd.returns (hb hby d8_111) hr
        · show Q_own_keep Z a1 q2 ta ka kp ts cv h0 n0 _ T27.heap _
          rw [e27]
          exact ⟨bq12, kq12, rfl, N27, K29, f28_0, f28_6, f28_1, f28_2, (by rw [(own_K3 (t := q2) hk hl hc16).2]; exact f28_3), (by rw [← (own_K3 (t := q2) hk hl hc16).1]; exact f28_7), (by rw [(own_K2 (t := q2) hk hl hc16 hc28).2.2.2.1, (own_K2 (t := q2) hk hl hc16 hc28).2.2.2.2]; exact V27), o12_2, ne_a1_bq12, (Or.inr sz_bq12)⟩
      · refine own_go (fun _ k => XS.icmpYes X5.here hx rfl (pc0 := 28) (pc' := 66) rfl (hb hby d8_28) rfl (feq hc28).2 (by decide) (by decide) k) ?_
        show own_Fin p.tables e below _ (T5.setTop (mkF m 66 #[.val (.ref a1), .val (.long q2), .second] []))
        refine own_go (fun _ k => XS.aloadN X5.here hx rfl (hb hby d8_66) rfl rfl k) ?_
        show own_Fin p.tables e below _ (T5.setTop (mkF m 67 #[.val (.ref a1), .val (.long q2), .second] [(.ref a1)]))
        obtain ⟨T31, X31, e31, st31⟩ := getF X5 hx hZ hown (host := "") (Or.inl (hw _ (List.mem_of_getElem? (i := 11) rfl))) Via.refl e5 Ft (g := (mkF m 67 #[.val (.ref a1), .val (.long q2), .second] [(.ref a1)])) rfl rfl (hb hby d8_67)
        refine own_go st31 ?_
        show own_Fin p.tables e below _ (T31.setTop (mkF m 70 #[.val (.ref a1), .val (.long q2), .second] [(.ref ta)]))
        refine own_go (fun _ k => XS.aloadN X31.here hx rfl (hb hby d8_70) rfl rfl k) ?_
        show own_Fin p.tables e below _ (T31.setTop (mkF m 71 #[.val (.ref a1), .val (.long q2), .second] [(.ref a1), (.ref ta)]))
        refine own_go (fun _ k => XS.dup X31.here hx rfl (hb hby d8_71) rfl rfl k) ?_
        show own_Fin p.tables e below _ (T31.setTop (mkF m 72 #[.val (.ref a1), .val (.long q2), .second] [(.ref a1), (.ref a1), (.ref ta)]))
        obtain ⟨T32, X32, e32, st32⟩ := getF X31 hx hZ hown (host := "") (Or.inl (hw _ (List.mem_of_getElem? (i := 40) rfl))) Via.refl e31 Fs (g := (mkF m 72 #[.val (.ref a1), .val (.long q2), .second] [(.ref a1), (.ref a1), (.ref ta)])) rfl rfl (hb hby d8_72)
        refine own_go st32 ?_
        show own_Fin p.tables e below _ (T32.setTop (mkF m 75 #[.val (.ref a1), .val (.long q2), .second] [(.int (own_sz kp ts)), (.ref a1), (.ref ta)]))
        refine own_go (fun _ k => XS.dupX1 X32.here hx rfl (hb hby d8_75) rfl rfl rfl k) ?_
        show own_Fin p.tables e below _ (T32.setTop (mkF m 76 #[.val (.ref a1), .val (.long q2), .second] [(.int (own_sz kp ts)), (.ref a1), (.int (own_sz kp ts)), (.ref ta)]))
        refine own_go (fun _ k => XS.iconst X32.here hx rfl (hb hby d8_76) k) ?_
        show own_Fin p.tables e below _ (T32.setTop (mkF m 77 #[.val (.ref a1), .val (.long q2), .second] [(.int (1 : Int32)), (.int (own_sz kp ts)), (.ref a1), (.int (own_sz kp ts)), (.ref ta)]))
        refine own_go (fun _ k => XS.iadd X32.here hx rfl (hb hby d8_77) rfl k) ?_
        show own_Fin p.tables e below _ (T32.setTop (mkF m 78 #[.val (.ref a1), .val (.long q2), .second] [(.int ((own_sz kp ts) + (1 : Int32))), (.ref a1), (.int (own_sz kp ts)), (.ref ta)]))
        obtain ⟨T33, h33, X33, e33, W33, st33⟩ := putF X32 hx hZ hown (host := "") (Or.inl (hw _ (List.mem_of_getElem? (i := 40) rfl))) Via.refl e32 Fs Ex (Or.inl (hw _ (List.mem_of_getElem? (i := 41) rfl))) (hw _ (List.mem_of_getElem? (i := 3) rfl)) (ty := .int) (by decide) rfl rfl (g := (mkF m 78 #[.val (.ref a1), .val (.long q2), .second] [(.int ((own_sz kp ts) + (1 : Int32))), (.ref a1), (.int (own_sz kp ts)), (.ref ta)])) rfl rfl (hb hby d8_78)
        refine own_go st33 ?_
        have f34_0 : Exa Z h33 a1 "com/example/ferrybell/ferrybell/runtime/Restarts" := Ex.wr W33
        have f34_1 : Fld Z h33 a1 "com/example/ferrybell/ferrybell/runtime/Restarts" "iTimes" "[J" (.ref ta) := Ft.other W33 (Or.inr (slot_ne (Or.inl (hw _ (List.mem_of_getElem? (i := 12) rfl))) (Or.inl (hw _ (List.mem_of_getElem? (i := 41) rfl))) (by decide) (t := (.array .long)) (t' := .int) (by decide) (by decide)))
        have f34_2 : Fld Z h33 a1 "com/example/ferrybell/ferrybell/runtime/Restarts" "iKept" "I" (.int kp) := Fk.other W33 (Or.inr (slot_ne (Or.inr (hw _ (List.mem_of_getElem? (i := 14) rfl))) (Or.inl (hw _ (List.mem_of_getElem? (i := 41) rfl))) (by decide) (t := .int) (t' := .int) (by decide) (by decide)))
        have f34_3 : Fld Z h33 a1 "com/example/ferrybell/ferrybell/runtime/Restarts" "iCount" "J" (.long cv) := Fc.other W33 (Or.inr (slot_ne (Or.inl (hw _ (List.mem_of_getElem? (i := 34) rfl))) (Or.inl (hw _ (List.mem_of_getElem? (i := 41) rfl))) (by decide) (t := .long) (t' := .int) (by decide) (by decide)))
        have f34_4 : Fld Z h33 a1 "com/example/ferrybell/ferrybell/runtime/Restarts" "iOldest" "I" (.int (own_od kp ts)) := Fo.other W33 (Or.inr (slot_ne (Or.inl (hw _ (List.mem_of_getElem? (i := 63) rfl))) (Or.inl (hw _ (List.mem_of_getElem? (i := 41) rfl))) (by decide) (t := .int) (t' := .int) (by decide) (by decide)))
        have f34_6 : Arv Z h33 ta ka .long (own_ln kp ts) (own_vs kp ts) (.long (0 : Int64)) := Vt.other W33 (Ne.symm ne)
        have F33 : Fld Z h33 a1 "com/example/ferrybell/ferrybell/runtime/Restarts" "iSize" "I" (.int ((own_sz kp ts) + (1 : Int32))) := Fs.same W33
        have N33 := Fr.snoc X33 N0 g1
        have K35 : Keep h0 h33 [a1, ta] := Keep.wr (Keep.refl h0 [a1, ta]) W33 (Or.inl (List.mem_of_getElem? (i := 0) rfl))
        have Z36 : n0 ≤ h33.size := Nat.le_trans Z0 (Keep.of_wr W33).1
        show own_Fin p.tables e below _ (T33.setTop (mkF m 81 #[.val (.ref a1), .val (.long q2), .second] [(.int (own_sz kp ts)), (.ref ta)]))
        refine own_go (fun _ k => XS.lloadN X33.here hx rfl (hb hby d8_81) rfl k) ?_
        show own_Fin p.tables e below _ (T33.setTop (mkF m 82 #[.val (.ref a1), .val (.long q2), .second] [(.long q2), (.int (own_sz kp ts)), (.ref ta)]))
        obtain ⟨cl37, Ar37, q37, S37, B37, H37, G37⟩ := f34_6
        have in37 : ¬ ((own_sz kp ts) < 0 ∨ cl37.slots.size ≤ ((own_sz kp ts)).toNatClampNeg) := inb_of S37 (own_K4 (t := q2) hk hl hc16 hc28).2.1
        obtain ⟨T38, h38, X38, e38, W38, st38⟩ := stJ X33 hx hZ e33 Ar37 (j := (own_sz kp ts)) in37 (g := (mkF m 82 #[.val (.ref a1), .val (.long q2), .second] [(.long q2), (.int (own_sz kp ts)), (.ref ta)])) rfl rfl (hb hby d8_82)
        refine own_go st38 ?_
        have f39_0 : Exa Z h38 a1 "com/example/ferrybell/ferrybell/runtime/Restarts" := f34_0.wr W38
        have f39_1 : Fld Z h38 a1 "com/example/ferrybell/ferrybell/runtime/Restarts" "iTimes" "[J" (.ref ta) := f34_1.other W38 (Or.inl ne)
        have f39_2 : Fld Z h38 a1 "com/example/ferrybell/ferrybell/runtime/Restarts" "iKept" "I" (.int kp) := f34_2.other W38 (Or.inl ne)
        have f39_3 : Fld Z h38 a1 "com/example/ferrybell/ferrybell/runtime/Restarts" "iCount" "J" (.long cv) := f34_3.other W38 (Or.inl ne)
        have f39_4 : Fld Z h38 a1 "com/example/ferrybell/ferrybell/runtime/Restarts" "iOldest" "I" (.int (own_od kp ts)) := f34_4.other W38 (Or.inl ne)
        have f39_6 : Fld Z h38 a1 "com/example/ferrybell/ferrybell/runtime/Restarts" "iSize" "I" (.int ((own_sz kp ts) + (1 : Int32))) := F33.other W38 (Or.inl ne)
        have V38 : Arv Z h38 ta ka .long (own_ln kp ts) (List.set (own_vs kp ts) (own_sz kp ts).toNatClampNeg (.long q2)) (.long (0 : Int64)) := Arv.set Ar37 q37 S37 B37 H37 G37 rfl W38 (own_sz kp ts).toNatClampNeg rfl (own_K4 (t := q2) hk hl hc16 hc28).2.2.2
        have N38 := Fr.snoc X38 N33 g2
        have K40 : Keep h0 h38 [a1, ta] := Keep.wr K35 W38 (Or.inl (List.mem_of_getElem? (i := 1) rfl))
        have Z41 : n0 ≤ h38.size := Nat.le_trans Z36 (Keep.of_wr W38).1
        show own_Fin p.tables e below _ (T38.setTop (mkF m 83 #[.val (.ref a1), .val (.long q2), .second] []))
        refine own_go (fun _ k => XS.goto X38.here hx rfl (pc0 := 83) (pc' := 111) rfl (hb hby d8_83) (by decide) (by decide) k) ?_
        show own_Fin p.tables e below _ (T38.setTop (mkF m 111 #[.val (.ref a1), .val (.long q2), .second] []))
        obtain ⟨fs, hr, hrun, hended, hW, hsame⟩ := X38.leave (v := none) (fun _ => rfl)
        refine ⟨_, _, ?_, hrun, hended, _, _, rfl, ?_, ⟨_, rfl⟩, hW, hsame.mono (by decide) (by decide)⟩
        · exact X38.returnOut hx Bd.returns (hb hby d8_111) hr
        · show Q_own_keep Z a1 q2 ta ka kp ts cv h0 n0 _ T38.heap _
          rw [e38]
          exact ⟨ta, ka, rfl, N38, K40, f39_0, f39_1, f39_2, f39_3, (by rw [(own_K3 (t := q2) hk hl hc16).2]; exact f39_4), (by rw [← (own_K3 (t := q2) hk hl hc16).1]; exact f39_6), (by rw [(own_K4 (t := q2) hk hl hc16 hc28).1, (own_K4 (t := q2) hk hl hc16 hc28).2.2.1]; exact V38), g2, ne, (Or.inl rfl)⟩
    · refine own_go (fun _ k => XS.icmpYes X3.here hx rfl (pc0 := 16) (pc' := 86) rfl (hb hby d8_16) rfl (flt hc16).2.1 (by decide) (by decide) k) ?_
      show own_Fin p.tables e below _ (T3.setTop (mkF m 86 #[.val (.ref a1), .val (.long q2), .second] []))
      refine own_go (fun _ k => XS.aloadN X3.here hx rfl (hb hby d8_86) rfl rfl k) ?_
      show own_Fin p.tables e below _ (T3.setTop (mkF m 87 #[.val (.ref a1), .val (.long q2), .second] [(.ref a1)]))
      obtain ⟨T42, X42, e42, st42⟩ := getF X3 hx hZ hown (host := "") (Or.inl (hw _ (List.mem_of_getElem? (i := 11) rfl))) Via.refl e3 Ft (g := (mkF m 87 #[.val (.ref a1), .val (.long q2), .second] [(.ref a1)])) rfl rfl (hb hby d8_87)
      refine own_go st42 ?_
      show own_Fin p.tables e below _ (T42.setTop (mkF m 90 #[.val (.ref a1), .val (.long q2), .second] [(.ref ta)]))
      refine own_go (fun _ k => XS.aloadN X42.here hx rfl (hb hby d8_90) rfl rfl k) ?_
      show own_Fin p.tables e below _ (T42.setTop (mkF m 91 #[.val (.ref a1), .val (.long q2), .second] [(.ref a1), (.ref ta)]))
      obtain ⟨T43, X43, e43, st43⟩ := getF X42 hx hZ hown (host := "") (Or.inl (hw _ (List.mem_of_getElem? (i := 62) rfl))) Via.refl e42 Fo (g := (mkF m 91 #[.val (.ref a1), .val (.long q2), .second] [(.ref a1), (.ref ta)])) rfl rfl (hb hby d8_91)
      refine own_go st43 ?_
      show own_Fin p.tables e below _ (T43.setTop (mkF m 94 #[.val (.ref a1), .val (.long q2), .second] [(.int (own_od kp ts)), (.ref ta)]))
      refine own_go (fun _ k => XS.lloadN X43.here hx rfl (hb hby d8_94) rfl k) ?_
      show own_Fin p.tables e below _ (T43.setTop (mkF m 95 #[.val (.ref a1), .val (.long q2), .second] [(.long q2), (.int (own_od kp ts)), (.ref ta)]))
      obtain ⟨cl44, Ar44, q44, S44, B44, H44, G44⟩ := Vt
      have in44 : ¬ ((own_od kp ts) < 0 ∨ cl44.slots.size ≤ ((own_od kp ts)).toNatClampNeg) := inb_of S44 (own_K5 (t := q2) hk hl hc4 hc16).2.2.2.1
      obtain ⟨T45, h45, X45, e45, W45, st45⟩ := stJ X43 hx hZ e43 Ar44 (j := (own_od kp ts)) in44 (g := (mkF m 95 #[.val (.ref a1), .val (.long q2), .second] [(.long q2), (.int (own_od kp ts)), (.ref ta)])) rfl rfl (hb hby d8_95)
      refine own_go st45 ?_
      have f46_0 : Exa Z h45 a1 "com/example/ferrybell/ferrybell/runtime/Restarts" := Ex.wr W45
      have f46_1 : Fld Z h45 a1 "com/example/ferrybell/ferrybell/runtime/Restarts" "iTimes" "[J" (.ref ta) := Ft.other W45 (Or.inl ne)
      have f46_2 : Fld Z h45 a1 "com/example/ferrybell/ferrybell/runtime/Restarts" "iKept" "I" (.int kp) := Fk.other W45 (Or.inl ne)
      have f46_3 : Fld Z h45 a1 "com/example/ferrybell/ferrybell/runtime/Restarts" "iCount" "J" (.long cv) := Fc.other W45 (Or.inl ne)
      have f46_4 : Fld Z h45 a1 "com/example/ferrybell/ferrybell/runtime/Restarts" "iOldest" "I" (.int (own_od kp ts)) := Fo.other W45 (Or.inl ne)
      have f46_5 : Fld Z h45 a1 "com/example/ferrybell/ferrybell/runtime/Restarts" "iSize" "I" (.int (own_sz kp ts)) := Fs.other W45 (Or.inl ne)
      have V45 : Arv Z h45 ta ka .long (own_ln kp ts) (List.set (own_vs kp ts) (own_od kp ts).toNatClampNeg (.long q2)) (.long (0 : Int64)) := Arv.set Ar44 q44 S44 B44 H44 G44 rfl W45 (own_od kp ts).toNatClampNeg rfl (own_K5 (t := q2) hk hl hc4 hc16).2.2.2.2.2
      have N45 := Fr.snoc X45 N0 g2
      have K47 : Keep h0 h45 [a1, ta] := Keep.wr (Keep.refl h0 [a1, ta]) W45 (Or.inl (List.mem_of_getElem? (i := 1) rfl))
      have Z48 : n0 ≤ h45.size := Nat.le_trans Z0 (Keep.of_wr W45).1
      show own_Fin p.tables e below _ (T45.setTop (mkF m 96 #[.val (.ref a1), .val (.long q2), .second] []))
      refine own_go (fun _ k => XS.aloadN X45.here hx rfl (hb hby d8_96) rfl rfl k) ?_
      show own_Fin p.tables e below _ (T45.setTop (mkF m 97 #[.val (.ref a1), .val (.long q2), .second] [(.ref a1)]))
      refine own_go (fun _ k => XS.aloadN X45.here hx rfl (hb hby d8_97) rfl rfl k) ?_
      show own_Fin p.tables e below _ (T45.setTop (mkF m 98 #[.val (.ref a1), .val (.long q2), .second] [(.ref a1), (.ref a1)]))
      obtain ⟨T49, X49, e49, st49⟩ := getF X45 hx hZ hown (host := "") (Or.inl (hw _ (List.mem_of_getElem? (i := 62) rfl))) Via.refl e45 f46_4 (g := (mkF m 98 #[.val (.ref a1), .val (.long q2), .second] [(.ref a1), (.ref a1)])) rfl rfl (hb hby d8_98)
      refine own_go st49 ?_
      show own_Fin p.tables e below _ (T49.setTop (mkF m 101 #[.val (.ref a1), .val (.long q2), .second] [(.int (own_od kp ts)), (.ref a1)]))
      refine own_go (fun _ k => XS.iconst X49.here hx rfl (hb hby d8_101) k) ?_
      show own_Fin p.tables e below _ (T49.setTop (mkF m 102 #[.val (.ref a1), .val (.long q2), .second] [(.int (1 : Int32)), (.int (own_od kp ts)), (.ref a1)]))
      refine own_go (fun _ k => XS.iadd X49.here hx rfl (hb hby d8_102) rfl k) ?_
      show own_Fin p.tables e below _ (T49.setTop (mkF m 103 #[.val (.ref a1), .val (.long q2), .second] [(.int ((own_od kp ts) + (1 : Int32))), (.ref a1)]))
      refine own_go (fun _ k => XS.aloadN X49.here hx rfl (hb hby d8_103) rfl rfl k) ?_
      show own_Fin p.tables e below _ (T49.setTop (mkF m 104 #[.val (.ref a1), .val (.long q2), .second] [(.ref a1), (.int ((own_od kp ts) + (1 : Int32))), (.ref a1)]))
      obtain ⟨T50, X50, e50, st50⟩ := getF X49 hx hZ hown (host := "") (Or.inl (hw _ (List.mem_of_getElem? (i := 13) rfl))) Via.refl e49 f46_2 (g := (mkF m 104 #[.val (.ref a1), .val (.long q2), .second] [(.ref a1), (.int ((own_od kp ts) + (1 : Int32))), (.ref a1)])) rfl rfl (hb hby d8_104)
      refine own_go st50 ?_
      show own_Fin p.tables e below _ (T50.setTop (mkF m 107 #[.val (.ref a1), .val (.long q2), .second] [(.int kp), (.int ((own_od kp ts) + (1 : Int32))), (.ref a1)]))
      refine own_go (fun _ k => iremM X50 hx rfl (hb hby d8_107) rfl hc4 k) ?_
      show own_Fin p.tables e below _ (T50.setTop (mkF m 108 #[.val (.ref a1), .val (.long q2), .second] [(.int (((own_od kp ts) + (1 : Int32)) % kp)), (.ref a1)]))
      obtain ⟨T51, h51, X51, e51, W51, st51⟩ := putF X50 hx hZ hown (host := "") (Or.inl (hw _ (List.mem_of_getElem? (i := 62) rfl))) Via.refl e50 f46_4 f46_0 (Or.inl (hw _ (List.mem_of_getElem? (i := 63) rfl))) (hw _ (List.mem_of_getElem? (i := 3) rfl)) (ty := .int) (by decide) rfl rfl (g := (mkF m 108 #[.val (.ref a1), .val (.long q2), .second] [(.int (((own_od kp ts) + (1 : Int32)) % kp)), (.ref a1)])) rfl rfl (hb hby d8_108)
      refine own_go st51 ?_
      have f52_0 : Exa Z h51 a1 "com/example/ferrybell/ferrybell/runtime/Restarts" := f46_0.wr W51
      have f52_1 : Fld Z h51 a1 "com/example/ferrybell/ferrybell/runtime/Restarts" "iTimes" "[J" (.ref ta) := f46_1.other W51 (Or.inr (slot_ne (Or.inl (hw _ (List.mem_of_getElem? (i := 12) rfl))) (Or.inl (hw _ (List.mem_of_getElem? (i := 63) rfl))) (by decide) (t := (.array .long)) (t' := .int) (by decide) (by decide)))
      have f52_2 : Fld Z h51 a1 "com/example/ferrybell/ferrybell/runtime/Restarts" "iKept" "I" (.int kp) := f46_2.other W51 (Or.inr (slot_ne (Or.inr (hw _ (List.mem_of_getElem? (i := 14) rfl))) (Or.inl (hw _ (List.mem_of_getElem? (i := 63) rfl))) (by decide) (t := .int) (t' := .int) (by decide) (by decide)))
      have f52_3 : Fld Z h51 a1 "com/example/ferrybell/ferrybell/runtime/Restarts" "iCount" "J" (.long cv) := f46_3.other W51 (Or.inr (slot_ne (Or.inl (hw _ (List.mem_of_getElem? (i := 34) rfl))) (Or.inl (hw _ (List.mem_of_getElem? (i := 63) rfl))) (by decide) (t := .long) (t' := .int) (by decide) (by decide)))
      have f52_5 : Fld Z h51 a1 "com/example/ferrybell/ferrybell/runtime/Restarts" "iSize" "I" (.int (own_sz kp ts)) := f46_5.other W51 (Or.inr (slot_ne (Or.inl (hw _ (List.mem_of_getElem? (i := 41) rfl))) (Or.inl (hw _ (List.mem_of_getElem? (i := 63) rfl))) (by decide) (t := .int) (t' := .int) (by decide) (by decide)))
      have f52_6 : Arv Z h51 ta ka .long (own_ln kp ts) (List.set (own_vs kp ts) (own_od kp ts).toNatClampNeg (.long q2)) (.long (0 : Int64)) := V45.other W51 (Ne.symm ne)
      have F51 : Fld Z h51 a1 "com/example/ferrybell/ferrybell/runtime/Restarts" "iOldest" "I" (.int (((own_od kp ts) + (1 : Int32)) % kp)) := f46_4.same W51
      have N51 := Fr.snoc X51 N45 g1
      have K53 : Keep h0 h51 [a1, ta] := Keep.wr K47 W51 (Or.inl (List.mem_of_getElem? (i := 0) rfl))
      have Z54 : n0 ≤ h51.size := Nat.le_trans Z48 (Keep.of_wr W51).1
      show own_Fin p.tables e below _ (T51.setTop (mkF m 111 #[.val (.ref a1), .val (.long q2), .second] []))
      obtain ⟨fs, hr, hrun, hended, hW, hsame⟩ := X51.leave (v := none) (fun _ => rfl)
      refine ⟨_, _, ?_, hrun, hended, _, _, rfl, ?_, ⟨_, rfl⟩, hW, hsame.mono (by decide) (by decide)⟩
      · exact X51.returnOut hx Bd.returns (hb hby d8_111) hr
      · show Q_own_keep Z a1 q2 ta ka kp ts cv h0 n0 _ T51.heap _
        rw [e51]
        exact ⟨ta, ka, rfl, N51, K53, f52_0, f52_1, f52_2, f52_3, (by rw [← (own_K5 (t := q2) hk hl hc4 hc16).2.1]; exact F51), (by rw [(own_K5 (t := q2) hk hl hc4 hc16).1]; exact f52_5), (by rw [(own_K5 (t := q2) hk hl hc4 hc16).2.2.1, (own_K5 (t := q2) hk hl hc4 hc16).2.2.2.2.1]; exact f52_6), g2, ne, (Or.inl rfl)⟩
theorem own_cni {ts : List Int64} (h : ts.length ≤ 4) : (own_cn ts).toInt = ts.length := Int64.toInt_ofNat_of_lt (by omega)
theorem own_cmp {ts : List Int64} {m : Int32} (h : ts.length ≤ 4) : (own_cn ts) < (m.toInt64) ↔ (own_c32 ts) < m := by
  rw [Int64.lt_iff_toInt_lt, Int32.lt_iff_toInt_lt, c_i2l, own_cni h, own_c32i h]
theorem own_cns {ts : List Int64} {t : Int64} (h : ts.length ≤ 4) : own_cn ts + (1 : Int64) = own_cn (ts ++ [t]) := by
  apply Int64.toInt_inj.mp
  have a := c_ladd (own_cn ts) (1 : Int64)
  have e : (1 : Int64).toInt = 1 := rfl
  have b1 := Int64.toInt_lt (own_cn ts + (1 : Int64)); have b2 := Int64.le_toInt (own_cn ts + (1 : Int64))
  have d : (own_cn (ts ++ [t])).toInt = ((ts ++ [t]).length : Nat) := Int64.toInt_ofNat_of_lt (by simp; omega)
  rw [own_cni h] at a
  simp at d
  omega
theorem own_m3 {m k : Int32} (hk : own_k4 k) (h0 : ¬ (m < (0 : Int32))) (h1 : ¬ (m = (0 : Int32))) (h2 : m.toInt ≤ k.toInt) : m = 1 ∨ m = 2 ∨ m = 3 := by
  have q := own_k4i hk
  rw [Int32.lt_iff_toInt_lt] at h0
  rw [← Int32.toInt_inj] at h1
  have e0 : (0 : Int32).toInt = 0 := rfl
  have e1 : (1 : Int32).toInt = 1 := rfl
  have e2 : (2 : Int32).toInt = 2 := rfl
  have e3 : (3 : Int32).toInt = 3 := rfl
  simp only [← Int32.toInt_inj]
  omega
def own_last (k : Int32) (ts : List Int64) (m : Int32) : Prop := own_ln k ts ≠ 0 ∧ (¬ (((own_od k ts + own_sz k ts) - m) % own_ln k ts) < 0 ∧ (((own_od k ts + own_sz k ts) - m) % own_ln k ts) < own_ln k ts) ∧ (own_vs k ts).getD (((own_od k ts + own_sz k ts) - m) % own_ln k ts).toNatClampNeg (.long (0 : Int64)) = Value.long (own_nth ts (own_c32 ts - m))
def own_ix (k : Int32) (n : Nat) (m : Int32) : Int32 := ((own_odn k n + own_szn k n) - m) % own_lnn k n
theorem own_tabL : ∀ i : Fin 4, ∀ n : Fin 5, ∀ j : Fin 4, ¬ (j.val = 0) → j.val ≤ i.val → ¬ (Int32.ofNat n.val < Int32.ofNat j.val) → own_lnn (Int32.ofNat i.val) n.val ≠ 0 ∧ ¬ own_ix (Int32.ofNat i.val) n.val (Int32.ofNat j.val) < 0 ∧ own_ix (Int32.ofNat i.val) n.val (Int32.ofNat j.val) < own_lnn (Int32.ofNat i.val) n.val ∧ (own_ix (Int32.ofNat i.val) n.val (Int32.ofNat j.val)).toNatClampNeg = (n.val - j.val) % i.val ∧ (Int32.ofNat n.val - Int32.ofNat j.val).toNatClampNeg = n.val - j.val := by decide +kernel
theorem own_vsl (ts : List Int64) (h : ts.length ≤ 4) : ∀ i : Fin 4, ∀ j : Fin 4, ¬ (j.val = 0) → j.val ≤ i.val → j.val ≤ ts.length → (own_vs (Int32.ofNat i.val) ts).getD ((ts.length - j.val) % i.val) (.long (0 : Int64)) = Value.long (ts.getD (ts.length - j.val) 0) := by
  intro i j h1 h2 h3
  obtain ⟨i, hi⟩ := i
  obtain ⟨j, hj⟩ := j
  rcases ts with _ | ⟨t0, _ | ⟨t1, _ | ⟨t2, _ | ⟨t3, _ | ⟨t4, r⟩⟩⟩⟩⟩
  all_goals first | (exfalso; simp at h; done) | skip
  all_goals (match i, hi with | 0, _ => ?_ | 1, _ => ?_ | 2, _ => ?_ | 3, _ => ?_)
  all_goals (match j, hj with | 0, _ => ?_ | 1, _ => ?_ | 2, _ => ?_ | 3, _ => ?_)
  all_goals first | (simp at h1; done) | (simp at h2; done) | (simp at h3; done) | (simp +decide [own_vs, own_rev]; done)
theorem own_m4 {m k : Int32} (hk : own_k4 k) (h0 : ¬ (m < (0 : Int32))) (h1 : ¬ (m = (0 : Int32))) (h2 : m.toInt ≤ k.toInt) : ∃ j : Fin 4, m = Int32.ofNat j.val ∧ ¬ (j.val = 0) := by
  rcases own_m3 hk h0 h1 h2 with rfl | rfl | rfl
  · exact ⟨1, rfl, by decide⟩
  · exact ⟨2, rfl, by decide⟩
  · exact ⟨3, rfl, by decide⟩
theorem own_toI (n : Nat) (h : n ≤ 5) : (Int32.ofNat n).toInt = n := Int32.toInt_ofNat_of_lt (by omega)
theorem own_lastp {k m : Int32} {ts : List Int64} (hk : own_k4 k) (hl : ts.length ≤ 4) (h0 : ¬ (m < (0 : Int32))) (h1 : ¬ (m = (0 : Int32))) (h2 : m.toInt ≤ k.toInt) (h3 : ¬ (own_c32 ts < m)) : own_last k ts m := by
  obtain ⟨j, rfl, hj⟩ := own_m4 hk h0 h1 h2
  obtain ⟨i, rfl⟩ := own_k4f hk
  have hji : j.val ≤ i.val := by rw [own_toI _ (by omega), own_toI _ (by omega)] at h2; omega
  have h3' : ¬ (Int32.ofNat ts.length < Int32.ofNat j.val) := h3
  have hjl : j.val ≤ ts.length := by rw [Int32.lt_iff_toInt_lt, own_toI _ (by omega), own_toI _ (by omega)] at h3'; omega
  obtain ⟨q1, q2, q3, q4, q5⟩ := own_tabL i ⟨ts.length, by omega⟩ j hj hji h3'
  refine ⟨q1, ⟨q2, q3⟩, ?_⟩
  show (own_vs _ ts).getD (own_ix (Int32.ofNat i.val) ts.length (Int32.ofNat j.val)).toNatClampNeg _ = Value.long (ts.getD (Int32.ofNat ts.length - Int32.ofNat j.val).toNatClampNeg 0)
  rw [show (own_ix (Int32.ofNat i.val) ts.length (Int32.ofNat j.val)).toNatClampNeg = _ from q4, show (Int32.ofNat ts.length - Int32.ofNat j.val).toNatClampNeg = _ from q5]
  exact own_vsl ts hl i j hj hji hjl
def Q_own_try (Z : State) (a1 : Addr) (p2 : Int32) (q3 : Int64) (q4 : Int64) (ta : Addr) (ka : ClassId) (kp : Int32) (ts : List Int64) (tu : Addr) (h0 : Heap) (n0 : Nat) (v : Option Value) (h : Heap) (L : List Loc) : Prop := ∃ (bb : Int32) (tq : List Int64) (tb : Addr) (kb : ClassId), v = some (.int bb) ∧ Fr n0 L ∧ Keep h0 h [a1, ta] ∧ own_res bb (own_ok ts p2 q3 q4) ts q4 tq ∧ Exa Z h a1 "com/example/ferrybell/ferrybell/runtime/Restarts" ∧ Fld Z h a1 "com/example/ferrybell/ferrybell/runtime/Restarts" "iTimes" "[J" (.ref tb) ∧ Fld Z h a1 "com/example/ferrybell/ferrybell/runtime/Restarts" "iKept" "I" (.int kp) ∧ Fld Z h a1 "com/example/ferrybell/ferrybell/runtime/Restarts" "iCount" "J" (.long (own_cn tq)) ∧ Fld Z h a1 "com/example/ferrybell/ferrybell/runtime/Restarts" "iOldest" "I" (.int (own_od kp tq)) ∧ Fld Z h a1 "com/example/ferrybell/ferrybell/runtime/Restarts" "iSize" "I" (.int (own_sz kp tq)) ∧ Arv Z h tb kb .long (own_ln kp tq) (own_vs kp tq) (.long (0 : Int64)) ∧ n0 ≤ tb ∧ a1 ≠ tb ∧ (tb = ta ∨ h0.size ≤ tb)
theorem ef_own_try (m : MethodId) (x0 : Addr) (x1 : Int32) (x2 : Int64) (x3 : Int64) : entryFrame m #[(.ref x0), (.int x1), (.long x2), (.long x3)] 8 = mkF m 0 #[.val (.ref x0), .val (.int x1), .val (.long x2), .second, .val (.long x3), .second, .unset, .unset] [] := by first | (simp [entryFrame, mkF, argsToLocals, Value.category]; done) | rfl
set_option maxRecDepth 65536 in
set_option maxHeartbeats 40000000 in
theorem own_try (l : Launch) (Z : State) (a0 : Array Value) (hw : ∀ d ∈ tables_1, d.before a0 Z = true) (ws : List Jvm.Cond) (a1 : Addr) (p2 : Int32) (q3 : Int64) (q4 : Int64) (ta : Addr) (ka : ClassId) (kp : Int32) (ts : List Int64) (tu : Addr) (h0 : Heap) (n0 : Nat) (Z0 : n0 ≤ h0.size) (Ex : Exa Z h0 a1 "com/example/ferrybell/ferrybell/runtime/Restarts") (Ft : Fld Z h0 a1 "com/example/ferrybell/ferrybell/runtime/Restarts" "iTimes" "[J" (.ref ta)) (Fk : Fld Z h0 a1 "com/example/ferrybell/ferrybell/runtime/Restarts" "iKept" "I" (.int kp)) (Fc : Fld Z h0 a1 "com/example/ferrybell/ferrybell/runtime/Restarts" "iCount" "J" (.long (own_cn ts))) (Fo : Fld Z h0 a1 "com/example/ferrybell/ferrybell/runtime/Restarts" "iOldest" "I" (.int (own_od kp ts))) (Fs : Fld Z h0 a1 "com/example/ferrybell/ferrybell/runtime/Restarts" "iSize" "I" (.int (own_sz kp ts))) (Vt : Arv Z h0 ta ka .long (own_ln kp ts) (own_vs kp ts) (.long (0 : Int64))) (O0 : Old Z n0 h0) (St : Sta Z Z.heap "java/util/concurrent/TimeUnit" "MILLISECONDS" "Ljava/util/concurrent/TimeUnit;" (.ref tu)) (Et : Exa Z Z.heap tu "java/util/concurrent/TimeUnit") (F1 : Fld Z Z.heap tu "java/util/concurrent/TimeUnit" "scale" "J" (.long (1000000 : Int64))) (F2 : Fld Z Z.heap tu "java/util/concurrent/TimeUnit" "maxNanos" "J" (.long (9223372036854 : Int64))) (ne : a1 ≠ ta) (g1 : n0 ≤ a1) (g2 : n0 ≤ ta) (hk : own_k4 kp) (hl : ts.length ≤ 4) (hm : p2.toInt ≤ kp.toInt) (hq : 0 ≤ q3.toInt) :
    MetFree l (⟨"com/example/ferrybell/ferrybell/runtime/Restarts", "tryRestart", "(IJJ)Z"⟩ : MethodName) (head1 (Jvm.Cond.code (⟨"com/example/ferrybell/ferrybell/runtime/Restarts", "tryRestart", "(IJJ)Z"⟩ : MethodName) prog_41_method_2_code 8 (some .boolean) :: ws) ({ frames := 3, cells := 1, slots := 3, locals := 47 } : Room)) (fun a U => a = #[(.ref a1), (.int p2), (.long q3), (.long q4)] ∧ Z.Warmed39 U.vm ∧ U.heap = h0) (fun _ _ _ _ _ => True) (fun _ U o U' => ∃ v L, o = .returned v ∧ Q_own_try Z a1 p2 q3 q4 ta ka kp ts tu h0 n0 v U'.heap L ∧ FrameEnd U o U' L ({ frames := 3, cells := 1, slots := 3, locals := 47 } : Room).cells ({ frames := 3, cells := 1, slots := 3, locals := 47 } : Room).slots) := by
  refine MetFree.of_bodySF (plainFor_of_name own_pn3) hisR ?_
  intro p e s m args below meth c s₁ Bd hml0 hP hK
  obtain ⟨rfl, hZ, hh⟩ := hP
  have hx := Bd.exec
  have hby := Bd.bytes
  have hml : c.maxLocals = 8 := hml0
  have hown : s.vm.findClass "com/example/ferrybell/ferrybell/runtime/Restarts" = some m.cls := findClass_of_methodNamed Bd.named
  have hnm := (name_of_methodNamed Bd.named Bd.method).1
  have X0 : Stand p l e ({ frames := 3, cells := 1, slots := 3, locals := 47 } : Room) s m #[(.ref a1), (.int p2), (.long q3), (.long q4)] below meth c s₁ [] 0 0 := Stand.of_body Bd
  have e0 : s₁.heap = h0 := by rw [← hh, Bd.state]; rfl
  have N0 := Fr.nil n0
  show own_Fin p.tables e below _ (s₁.setTop (entryFrame m #[(.ref a1), (.int p2), (.long q3), (.long q4)] 8))
  refine own_go (fun _ k => castTop (ef_own_try m a1 p2 q3 q4) k) ?_
  show own_Fin p.tables e below _ (s₁.setTop (mkF m 0 #[.val (.ref a1), .val (.int p2), .val (.long q3), .second, .val (.long q4), .second, .unset, .unset] []))
  refine own_go (fun _ k => XS.iloadN X0.here hx rfl (hb hby d7_0) rfl k) ?_
  show own_Fin p.tables e below _ (s₁.setTop (mkF m 1 #[.val (.ref a1), .val (.int p2), .val (.long q3), .second, .val (.long q4), .second, .unset, .unset] [(.int p2)]))
  by_cases hc1 : p2 < (0 : Int32)
  · refine own_go (fun _ k => XS.ifYes X0.here hx rfl (pc0 := 1) (pc' := 68) rfl (hb hby d7_1) rfl ((if0 _ _).trans (tlt hc1).1) (by decide) (by decide) k) ?_
    show own_Fin p.tables e below _ (s₁.setTop (mkF m 68 #[.val (.ref a1), .val (.int p2), .val (.long q3), .second, .val (.long q4), .second, .unset, .unset] []))
    refine own_go (fun _ k => XS.aloadN X0.here hx rfl (hb hby d7_68) rfl rfl k) ?_
    show own_Fin p.tables e below _ (s₁.setTop (mkF m 69 #[.val (.ref a1), .val (.int p2), .val (.long q3), .second, .val (.long q4), .second, .unset, .unset] [(.ref a1)]))
    refine own_go (fun _ k => XS.dup X0.here hx rfl (hb hby d7_69) rfl rfl k) ?_
    show own_Fin p.tables e below _ (s₁.setTop (mkF m 70 #[.val (.ref a1), .val (.int p2), .val (.long q3), .second, .val (.long q4), .second, .unset, .unset] [(.ref a1), (.ref a1)]))
    obtain ⟨T1, X1, e1, st1⟩ := getF X0 hx hZ hown (host := "") (Or.inl (hw _ (List.mem_of_getElem? (i := 33) rfl))) Via.refl e0 Fc (g := (mkF m 70 #[.val (.ref a1), .val (.int p2), .val (.long q3), .second, .val (.long q4), .second, .unset, .unset] [(.ref a1), (.ref a1)])) rfl rfl (hb hby d7_70)
    refine own_go st1 ?_
    show own_Fin p.tables e below _ (T1.setTop (mkF m 73 #[.val (.ref a1), .val (.int p2), .val (.long q3), .second, .val (.long q4), .second, .unset, .unset] [(.long (own_cn ts)), (.ref a1)]))
    refine own_go (fun _ k => XS.lconst X1.here hx rfl (hb hby d7_73) k) ?_
    show own_Fin p.tables e below _ (T1.setTop (mkF m 74 #[.val (.ref a1), .val (.int p2), .val (.long q3), .second, .val (.long q4), .second, .unset, .unset] [(.long (1 : Int64)), (.long (own_cn ts)), (.ref a1)]))
    refine own_go (fun _ k => XS.ladd X1.here hx rfl (hb hby d7_74) rfl k) ?_
    show own_Fin p.tables e below _ (T1.setTop (mkF m 75 #[.val (.ref a1), .val (.int p2), .val (.long q3), .second, .val (.long q4), .second, .unset, .unset] [(.long ((own_cn ts) + (1 : Int64))), (.ref a1)]))
    obtain ⟨T2, h2, X2, e2, W2, st2⟩ := putF X1 hx hZ hown (host := "") (Or.inl (hw _ (List.mem_of_getElem? (i := 33) rfl))) Via.refl e1 Fc Ex (Or.inl (hw _ (List.mem_of_getElem? (i := 34) rfl))) (hw _ (List.mem_of_getElem? (i := 3) rfl)) (ty := .long) (by decide) rfl rfl (g := (mkF m 75 #[.val (.ref a1), .val (.int p2), .val (.long q3), .second, .val (.long q4), .second, .unset, .unset] [(.long ((own_cn ts) + (1 : Int64))), (.ref a1)])) rfl rfl (hb hby d7_75)
    refine own_go st2 ?_
    have f3_0 : Exa Z h2 a1 "com/example/ferrybell/ferrybell/runtime/Restarts" := Ex.wr W2
    have f3_1 : Fld Z h2 a1 "com/example/ferrybell/ferrybell/runtime/Restarts" "iTimes" "[J" (.ref ta) := Ft.other W2 (Or.inr (slot_ne (Or.inl (hw _ (List.mem_of_getElem? (i := 12) rfl))) (Or.inl (hw _ (List.mem_of_getElem? (i := 34) rfl))) (by decide) (t := (.array .long)) (t' := .long) (by decide) (by decide)))
    have f3_2 : Fld Z h2 a1 "com/example/ferrybell/ferrybell/runtime/Restarts" "iKept" "I" (.int kp) := Fk.other W2 (Or.inr (slot_ne (Or.inr (hw _ (List.mem_of_getElem? (i := 14) rfl))) (Or.inl (hw _ (List.mem_of_getElem? (i := 34) rfl))) (by decide) (t := .int) (t' := .long) (by decide) (by decide)))
    have f3_4 : Fld Z h2 a1 "com/example/ferrybell/ferrybell/runtime/Restarts" "iOldest" "I" (.int (own_od kp ts)) := Fo.other W2 (Or.inr (slot_ne (Or.inl (hw _ (List.mem_of_getElem? (i := 63) rfl))) (Or.inl (hw _ (List.mem_of_getElem? (i := 34) rfl))) (by decide) (t := .int) (t' := .long) (by decide) (by decide)))
    have f3_5 : Fld Z h2 a1 "com/example/ferrybell/ferrybell/runtime/Restarts" "iSize" "I" (.int (own_sz kp ts)) := Fs.other W2 (Or.inr (slot_ne (Or.inl (hw _ (List.mem_of_getElem? (i := 41) rfl))) (Or.inl (hw _ (List.mem_of_getElem? (i := 34) rfl))) (by decide) (t := .int) (t' := .long) (by decide) (by decide)))
    have f3_6 : Arv Z h2 ta ka .long (own_ln kp ts) (own_vs kp ts) (.long (0 : Int64)) := Vt.other W2 (Ne.symm ne)
    have f3_7 : Old Z n0 h2 := O0.wr W2 g1
    have F2 : Fld Z h2 a1 "com/example/ferrybell/ferrybell/runtime/Restarts" "iCount" "J" (.long ((own_cn ts) + (1 : Int64))) := Fc.same W2
    have N2 := Fr.snoc X2 N0 g1
    have K4 : Keep h0 h2 [a1, ta] := Keep.wr (Keep.refl h0 [a1, ta]) W2 (Or.inl (List.mem_of_getElem? (i := 0) rfl))
    have Z5 : n0 ≤ h2.size := Nat.le_trans Z0 (Keep.of_wr W2).1
    show own_Fin p.tables e below _ (T2.setTop (mkF m 78 #[.val (.ref a1), .val (.int p2), .val (.long q3), .second, .val (.long q4), .second, .unset, .unset] []))
    refine own_go (fun _ k => XS.aloadN X2.here hx rfl (hb hby d7_78) rfl rfl k) ?_
    show own_Fin p.tables e below _ (T2.setTop (mkF m 79 #[.val (.ref a1), .val (.int p2), .val (.long q3), .second, .val (.long q4), .second, .unset, .unset] [(.ref a1)]))
    refine own_go (fun _ k => XS.lload X2.here hx rfl (hb hby d7_79) rfl k) ?_
    show own_Fin p.tables e below _ (T2.setTop (mkF m 81 #[.val (.ref a1), .val (.int p2), .val (.long q3), .second, .val (.long q4), .second, .unset, .unset] [(.long q4), (.ref a1)]))
    obtain ⟨cq6, q6, q6'⟩ := f3_0.cell
    obtain ⟨_, _, ⟨T6, L6, k6, n6⟩, -, X6, ⟨Lc6, hQ6, l6, y6, z6⟩, st6⟩ := X2.privateBack hx (y := (⟨"com/example/ferrybell/ferrybell/runtime/Restarts", "keep", "(J)V"⟩ : MethodName)) hown (mvT hZ (hw _ (List.mem_of_getElem? (i := 35) rfl))) (mvT hZ (hw _ (List.mem_of_getElem? (i := 36) rfl))) (own_selp (y := (⟨"com/example/ferrybell/ferrybell/runtime/Restarts", "keep", "(J)V"⟩ : MethodName)) (mvT hZ (hw _ (List.mem_of_getElem? (i := 3) rfl))) (Cond.privateMethod_at (mvP hZ (hw _ (List.mem_of_getElem? (i := 37) rfl)) (args := #[]))) (mvT hZ (hw _ (List.mem_of_getElem? (i := 36) rfl))) (by decide)) (Cond.privateMethod_at (mvP hZ (hw _ (List.mem_of_getElem? (i := 37) rfl)) (args := #[]))) (mvT hZ (hw _ (List.mem_of_getElem? (i := 38) rfl))) (by decide) (backOf (W := 0) (own_keep l Z a0 hw [] a1 q4 ta ka kp ts ((own_cn ts) + (1 : Int64)) h2 n0 Z5 f3_0 f3_1 f3_2 F2 f3_4 f3_5 f3_6 ne g1 g2 hk hl) hZ (hw _ (List.mem_of_getElem? (i := 38) rfl)) (hw _ (List.mem_of_getElem? (i := 4) rfl)) (by decide) (by decide)) (g := (mkF m 81 #[.val (.ref a1), .val (.int p2), .val (.long q3), .second, .val (.long q4), .second, .unset, .unset] [(.long q4), (.ref a1)])) rfl (by rw [hml]; rfl) (Steps.refl _) (a := a1) (by rw [e2]; exact q6) q6' (argsL := [(.long q4)]) (rest := []) (lenOf own_pd4 rfl) rfl (by show 2 * 0 + _ ≤ _; exact Nat.le_of_eq rfl) (hb hby d7_81) (fun _ _ => ⟨rfl, e2, (by decide : 0 + 1 ≤ _), (by decide : 0 + 3 ≤ _)⟩)
    dsimp only [Pt.U, Pt.locs, Pt.cells, Pt.slots] at X6 l6 y6 z6 st6 hQ6
    subst l6 y6 z6
    obtain ⟨tb6, kb6, hv6, N6q, o6_0, o6_1, o6_2, o6_3, o6_4, o6_5, o6_6, o6_7, o6_8, o6_9, o6_10⟩ := hQ6
    subst hv6
    have N6 := Fr.app N2 N6q
    refine own_go (fun _ k => st6.trans k) ?_
    have f7_6 : Old Z n0 T6.heap := f3_7.keep o6_0 (allS g1 (allS g2 all0))
    have K8 : Keep h0 T6.heap [a1, ta] := Keep.trans K4 o6_0 (allS (Or.inl (List.mem_of_getElem? (i := 0) rfl)) (allS (Or.inl (List.mem_of_getElem? (i := 1) rfl)) all0))
    have Z9 : n0 ≤ T6.heap.size := Nat.le_trans Z5 o6_0.1
    have oq6 : tb6 = ta ∨ h0.size ≤ tb6 := o6_10.imp id (Nat.le_trans K4.1)
    show own_Fin p.tables e below _ (T6.setTop (mkF m 84 #[.val (.ref a1), .val (.int p2), .val (.long q3), .second, .val (.long q4), .second, .unset, .unset] []))
    refine own_go (fun _ k => XS.iconst X6.here hx rfl (hb hby d7_84) k) ?_
    show own_Fin p.tables e below _ (T6.setTop (mkF m 85 #[.val (.ref a1), .val (.int p2), .val (.long q3), .second, .val (.long q4), .second, .unset, .unset] [(.int (1 : Int32))]))
    obtain ⟨fs, hr, hrun, hended, hW, hsame⟩ := X6.leave (v := some (.int (1 : Int32))) (fun h => by rw [Bd.returns] at h; cases h)
    refine ⟨_, _, ?_, hrun, hended, _, _, rfl, ?_, ⟨_, rfl⟩, hW, hsame.mono (by decide) (by decide)⟩
    · exact retN X6 hx (t := .boolean) Bd.returns (by simp) (hb hby d7_85) hr
    · show Q_own_try Z a1 p2 q3 q4 ta ka kp ts tu h0 n0 _ T6.heap _
      exact ⟨(1 : Int32), (ts ++ [q4]), tb6, kb6, rfl, N6, K8, (Or.inl ⟨rfl, Or.inl hc1, rfl⟩), o6_1, o6_2, o6_3, (by rw [← own_cns hl]; exact o6_4), o6_5, o6_6, o6_7, o6_8, o6_9, oq6⟩
  · refine own_go (fun _ k => XS.ifNo X0.here hx rfl (hb hby d7_1) rfl ((if0 _ _).trans (flt hc1).1) k) ?_
    show own_Fin p.tables e below _ (s₁.setTop (mkF m 4 #[.val (.ref a1), .val (.int p2), .val (.long q3), .second, .val (.long q4), .second, .unset, .unset] []))
    refine own_go (fun _ k => XS.aloadN X0.here hx rfl (hb hby d7_4) rfl rfl k) ?_
    show own_Fin p.tables e below _ (s₁.setTop (mkF m 5 #[.val (.ref a1), .val (.int p2), .val (.long q3), .second, .val (.long q4), .second, .unset, .unset] [(.ref a1)]))
    obtain ⟨T10, X10, e10, st10⟩ := getF X0 hx hZ hown (host := "") (Or.inl (hw _ (List.mem_of_getElem? (i := 33) rfl))) Via.refl e0 Fc (g := (mkF m 5 #[.val (.ref a1), .val (.int p2), .val (.long q3), .second, .val (.long q4), .second, .unset, .unset] [(.ref a1)])) rfl rfl (hb hby d7_5)
    refine own_go st10 ?_
    show own_Fin p.tables e below _ (T10.setTop (mkF m 8 #[.val (.ref a1), .val (.int p2), .val (.long q3), .second, .val (.long q4), .second, .unset, .unset] [(.long (own_cn ts))]))
    refine own_go (fun _ k => XS.iloadN X10.here hx rfl (hb hby d7_8) rfl k) ?_
    show own_Fin p.tables e below _ (T10.setTop (mkF m 9 #[.val (.ref a1), .val (.int p2), .val (.long q3), .second, .val (.long q4), .second, .unset, .unset] [(.int p2), (.long (own_cn ts))]))
    refine own_go (fun _ k => XS.i2l X10.here hx rfl (hb hby d7_9) rfl k) ?_
    show own_Fin p.tables e below _ (T10.setTop (mkF m 10 #[.val (.ref a1), .val (.int p2), .val (.long q3), .second, .val (.long q4), .second, .unset, .unset] [(.long (p2.toInt64)), (.long (own_cn ts))]))
    refine own_go (fun _ k => XS.lcmp X10.here hx rfl (hb hby d7_10) rfl k) ?_
    show own_Fin p.tables e below _ (T10.setTop (mkF m 11 #[.val (.ref a1), .val (.int p2), .val (.long q3), .second, .val (.long q4), .second, .unset, .unset] [(.int (lcmpW (own_cn ts) (p2.toInt64)))]))
    by_cases hc11 : (own_cn ts) < (p2.toInt64)
    · refine own_go (fun _ k => XS.ifYes X10.here hx rfl (pc0 := 11) (pc' := 68) rfl (hb hby d7_11) rfl ((if0 _ _).trans (tlt ((lw_lt _ _).mpr hc11)).1) (by decide) (by decide) k) ?_
      show own_Fin p.tables e below _ (T10.setTop (mkF m 68 #[.val (.ref a1), .val (.int p2), .val (.long q3), .second, .val (.long q4), .second, .unset, .unset] []))
      refine own_go (fun _ k => XS.aloadN X10.here hx rfl (hb hby d7_68) rfl rfl k) ?_
      show own_Fin p.tables e below _ (T10.setTop (mkF m 69 #[.val (.ref a1), .val (.int p2), .val (.long q3), .second, .val (.long q4), .second, .unset, .unset] [(.ref a1)]))
      refine own_go (fun _ k => XS.dup X10.here hx rfl (hb hby d7_69) rfl rfl k) ?_
      show own_Fin p.tables e below _ (T10.setTop (mkF m 70 #[.val (.ref a1), .val (.int p2), .val (.long q3), .second, .val (.long q4), .second, .unset, .unset] [(.ref a1), (.ref a1)]))
      obtain ⟨T11, X11, e11, st11⟩ := getF X10 hx hZ hown (host := "") (Or.inl (hw _ (List.mem_of_getElem? (i := 33) rfl))) Via.refl e10 Fc (g := (mkF m 70 #[.val (.ref a1), .val (.int p2), .val (.long q3), .second, .val (.long q4), .second, .unset, .unset] [(.ref a1), (.ref a1)])) rfl rfl (hb hby d7_70)
      refine own_go st11 ?_
      show own_Fin p.tables e below _ (T11.setTop (mkF m 73 #[.val (.ref a1), .val (.int p2), .val (.long q3), .second, .val (.long q4), .second, .unset, .unset] [(.long (own_cn ts)), (.ref a1)]))
      refine own_go (fun _ k => XS.lconst X11.here hx rfl (hb hby d7_73) k) ?_
      show own_Fin p.tables e below _ (T11.setTop (mkF m 74 #[.val (.ref a1), .val (.int p2), .val (.long q3), .second, .val (.long q4), .second, .unset, .unset] [(.long (1 : Int64)), (.long (own_cn ts)), (.ref a1)]))
      refine own_go (fun _ k => XS.ladd X11.here hx rfl (hb hby d7_74) rfl k) ?_
      show own_Fin p.tables e below _ (T11.setTop (mkF m 75 #[.val (.ref a1), .val (.int p2), .val (.long q3), .second, .val (.long q4), .second, .unset, .unset] [(.long ((own_cn ts) + (1 : Int64))), (.ref a1)]))
      obtain ⟨T12, h12, X12, e12, W12, st12⟩ := putF X11 hx hZ hown (host := "") (Or.inl (hw _ (List.mem_of_getElem? (i := 33) rfl))) Via.refl e11 Fc Ex (Or.inl (hw _ (List.mem_of_getElem? (i := 34) rfl))) (hw _ (List.mem_of_getElem? (i := 3) rfl)) (ty := .long) (by decide) rfl rfl (g := (mkF m 75 #[.val (.ref a1), .val (.int p2), .val (.long q3), .second, .val (.long q4), .second, .unset, .unset] [(.long ((own_cn ts) + (1 : Int64))), (.ref a1)])) rfl rfl (hb hby d7_75)
      refine own_go st12 ?_
      have f13_0 : Exa Z h12 a1 "com/example/ferrybell/ferrybell/runtime/Restarts" := Ex.wr W12
      have f13_1 : Fld Z h12 a1 "com/example/ferrybell/ferrybell/runtime/Restarts" "iTimes" "[J" (.ref ta) := Ft.other W12 (Or.inr (slot_ne (Or.inl (hw _ (List.mem_of_getElem? (i := 12) rfl))) (Or.inl (hw _ (List.mem_of_getElem? (i := 34) rfl))) (by decide) (t := (.array .long)) (t' := .long) (by decide) (by decide)))
      have f13_2 : Fld Z h12 a1 "com/example/ferrybell/ferrybell/runtime/Restarts" "iKept" "I" (.int kp) := Fk.other W12 (Or.inr (slot_ne (Or.inr (hw _ (List.mem_of_getElem? (i := 14) rfl))) (Or.inl (hw _ (List.mem_of_getElem? (i := 34) rfl))) (by decide) (t := .int) (t' := .long) (by decide) (by decide)))
      have f13_4 : Fld Z h12 a1 "com/example/ferrybell/ferrybell/runtime/Restarts" "iOldest" "I" (.int (own_od kp ts)) := Fo.other W12 (Or.inr (slot_ne (Or.inl (hw _ (List.mem_of_getElem? (i := 63) rfl))) (Or.inl (hw _ (List.mem_of_getElem? (i := 34) rfl))) (by decide) (t := .int) (t' := .long) (by decide) (by decide)))
      have f13_5 : Fld Z h12 a1 "com/example/ferrybell/ferrybell/runtime/Restarts" "iSize" "I" (.int (own_sz kp ts)) := Fs.other W12 (Or.inr (slot_ne (Or.inl (hw _ (List.mem_of_getElem? (i := 41) rfl))) (Or.inl (hw _ (List.mem_of_getElem? (i := 34) rfl))) (by decide) (t := .int) (t' := .long) (by decide) (by decide)))
      have f13_6 : Arv Z h12 ta ka .long (own_ln kp ts) (own_vs kp ts) (.long (0 : Int64)) := Vt.other W12 (Ne.symm ne)
      have f13_7 : Old Z n0 h12 := O0.wr W12 g1
      have F12 : Fld Z h12 a1 "com/example/ferrybell/ferrybell/runtime/Restarts" "iCount" "J" (.long ((own_cn ts) + (1 : Int64))) := Fc.same W12
      have N12 := Fr.snoc X12 N0 g1
      have K14 : Keep h0 h12 [a1, ta] := Keep.wr (Keep.refl h0 [a1, ta]) W12 (Or.inl (List.mem_of_getElem? (i := 0) rfl))
      have Z15 : n0 ≤ h12.size := Nat.le_trans Z0 (Keep.of_wr W12).1
      show own_Fin p.tables e below _ (T12.setTop (mkF m 78 #[.val (.ref a1), .val (.int p2), .val (.long q3), .second, .val (.long q4), .second, .unset, .unset] []))
      refine own_go (fun _ k => XS.aloadN X12.here hx rfl (hb hby d7_78) rfl rfl k) ?_
      show own_Fin p.tables e below _ (T12.setTop (mkF m 79 #[.val (.ref a1), .val (.int p2), .val (.long q3), .second, .val (.long q4), .second, .unset, .unset] [(.ref a1)]))
      refine own_go (fun _ k => XS.lload X12.here hx rfl (hb hby d7_79) rfl k) ?_
      show own_Fin p.tables e below _ (T12.setTop (mkF m 81 #[.val (.ref a1), .val (.int p2), .val (.long q3), .second, .val (.long q4), .second, .unset, .unset] [(.long q4), (.ref a1)]))
      obtain ⟨cq16, q16, q16'⟩ := f13_0.cell
      obtain ⟨_, _, ⟨T16, L16, k16, n16⟩, -, X16, ⟨Lc16, hQ16, l16, y16, z16⟩, st16⟩ := X12.privateBack hx (y := (⟨"com/example/ferrybell/ferrybell/runtime/Restarts", "keep", "(J)V"⟩ : MethodName)) hown (mvT hZ (hw _ (List.mem_of_getElem? (i := 35) rfl))) (mvT hZ (hw _ (List.mem_of_getElem? (i := 36) rfl))) (own_selp (y := (⟨"com/example/ferrybell/ferrybell/runtime/Restarts", "keep", "(J)V"⟩ : MethodName)) (mvT hZ (hw _ (List.mem_of_getElem? (i := 3) rfl))) (Cond.privateMethod_at (mvP hZ (hw _ (List.mem_of_getElem? (i := 37) rfl)) (args := #[]))) (mvT hZ (hw _ (List.mem_of_getElem? (i := 36) rfl))) (by decide)) (Cond.privateMethod_at (mvP hZ (hw _ (List.mem_of_getElem? (i := 37) rfl)) (args := #[]))) (mvT hZ (hw _ (List.mem_of_getElem? (i := 38) rfl))) (by decide) (backOf (W := 0) (own_keep l Z a0 hw [] a1 q4 ta ka kp ts ((own_cn ts) + (1 : Int64)) h12 n0 Z15 f13_0 f13_1 f13_2 F12 f13_4 f13_5 f13_6 ne g1 g2 hk hl) hZ (hw _ (List.mem_of_getElem? (i := 38) rfl)) (hw _ (List.mem_of_getElem? (i := 4) rfl)) (by decide) (by decide)) (g := (mkF m 81 #[.val (.ref a1), .val (.int p2), .val (.long q3), .second, .val (.long q4), .second, .unset, .unset] [(.long q4), (.ref a1)])) rfl (by rw [hml]; rfl) (Steps.refl _) (a := a1) (by rw [e12]; exact q16) q16' (argsL := [(.long q4)]) (rest := []) (lenOf own_pd4 rfl) rfl (by show 2 * 0 + _ ≤ _; exact Nat.le_of_eq rfl) (hb hby d7_81) (fun _ _ => ⟨rfl, e12, (by decide : 0 + 1 ≤ _), (by decide : 0 + 3 ≤ _)⟩)
      dsimp only [Pt.U, Pt.locs, Pt.cells, Pt.slots] at X16 l16 y16 z16 st16 hQ16
      subst l16 y16 z16
      obtain ⟨tb16, kb16, hv16, N16q, o16_0, o16_1, o16_2, o16_3, o16_4, o16_5, o16_6, o16_7, o16_8, o16_9, o16_10⟩ := hQ16
      subst hv16
      have N16 := Fr.app N12 N16q
      refine own_go (fun _ k => st16.trans k) ?_
      have f17_6 : Old Z n0 T16.heap := f13_7.keep o16_0 (allS g1 (allS g2 all0))
      have K18 : Keep h0 T16.heap [a1, ta] := Keep.trans K14 o16_0 (allS (Or.inl (List.mem_of_getElem? (i := 0) rfl)) (allS (Or.inl (List.mem_of_getElem? (i := 1) rfl)) all0))
      have Z19 : n0 ≤ T16.heap.size := Nat.le_trans Z15 o16_0.1
      have oq16 : tb16 = ta ∨ h0.size ≤ tb16 := o16_10.imp id (Nat.le_trans K14.1)
      show own_Fin p.tables e below _ (T16.setTop (mkF m 84 #[.val (.ref a1), .val (.int p2), .val (.long q3), .second, .val (.long q4), .second, .unset, .unset] []))
      refine own_go (fun _ k => XS.iconst X16.here hx rfl (hb hby d7_84) k) ?_
      show own_Fin p.tables e below _ (T16.setTop (mkF m 85 #[.val (.ref a1), .val (.int p2), .val (.long q3), .second, .val (.long q4), .second, .unset, .unset] [(.int (1 : Int32))]))
      obtain ⟨fs, hr, hrun, hended, hW, hsame⟩ := X16.leave (v := some (.int (1 : Int32))) (fun h => by rw [Bd.returns] at h; cases h)
      refine ⟨_, _, ?_, hrun, hended, _, _, rfl, ?_, ⟨_, rfl⟩, hW, hsame.mono (by decide) (by decide)⟩
      · exact retN X16 hx (t := .boolean) Bd.returns (by simp) (hb hby d7_85) hr
      · show Q_own_try Z a1 p2 q3 q4 ta ka kp ts tu h0 n0 _ T16.heap _
        exact ⟨(1 : Int32), (ts ++ [q4]), tb16, kb16, rfl, N16, K18, (Or.inl ⟨rfl, Or.inr (Or.inl ((own_cmp hl).mp hc11)), rfl⟩), o16_1, o16_2, o16_3, (by rw [← own_cns hl]; exact o16_4), o16_5, o16_6, o16_7, o16_8, o16_9, oq16⟩
    · refine own_go (fun _ k => XS.ifNo X10.here hx rfl (hb hby d7_11) rfl ((if0 _ _).trans (flt (fun q => hc11 ((lw_lt _ _).mp q))).1) k) ?_
      show own_Fin p.tables e below _ (T10.setTop (mkF m 14 #[.val (.ref a1), .val (.int p2), .val (.long q3), .second, .val (.long q4), .second, .unset, .unset] []))
      refine own_go (fun _ k => XS.iloadN X10.here hx rfl (hb hby d7_14) rfl k) ?_
      show own_Fin p.tables e below _ (T10.setTop (mkF m 15 #[.val (.ref a1), .val (.int p2), .val (.long q3), .second, .val (.long q4), .second, .unset, .unset] [(.int p2)]))
      by_cases hc15 : p2 = (0 : Int32)
      · refine own_go (fun _ k => XS.ifYes X10.here hx rfl (pc0 := 15) (pc' := 24) rfl (hb hby d7_15) rfl ((if0 _ _).trans (teq hc15).1) (by decide) (by decide) k) ?_
        show own_Fin p.tables e below _ (T10.setTop (mkF m 24 #[.val (.ref a1), .val (.int p2), .val (.long q3), .second, .val (.long q4), .second, .unset, .unset] []))
        refine own_go (fun _ k => XS.iconst X10.here hx rfl (hb hby d7_24) k) ?_
        show own_Fin p.tables e below _ (T10.setTop (mkF m 25 #[.val (.ref a1), .val (.int p2), .val (.long q3), .second, .val (.long q4), .second, .unset, .unset] [(.int (0 : Int32))]))
        obtain ⟨fs, hr, hrun, hended, hW, hsame⟩ := X10.leave (v := some (.int (0 : Int32))) (fun h => by rw [Bd.returns] at h; cases h)
        refine ⟨_, _, ?_, hrun, hended, _, _, rfl, ?_, ⟨_, rfl⟩, hW, hsame.mono (by decide) (by decide)⟩
        · exact retN X10 hx (t := .boolean) Bd.returns (by simp) (hb hby d7_25) hr
        · show Q_own_try Z a1 p2 q3 q4 ta ka kp ts tu h0 n0 _ T10.heap _
          rw [e10]
          exact ⟨(0 : Int32), ts, ta, ka, rfl, N0, (Keep.refl h0 [a1, ta]), (Or.inr ⟨rfl, (fun z => z.elim hc1 fun z => z.elim (fun y => hc11 ((own_cmp hl).mpr y)) (fun z => z.1 hc15)), rfl⟩), Ex, Ft, Fk, Fc, Fo, Fs, Vt, g2, ne, (Or.inl rfl)⟩
      · refine own_go (fun _ k => XS.ifNo X10.here hx rfl (hb hby d7_15) rfl ((if0 _ _).trans (feq hc15).1) k) ?_
        show own_Fin p.tables e below _ (T10.setTop (mkF m 18 #[.val (.ref a1), .val (.int p2), .val (.long q3), .second, .val (.long q4), .second, .unset, .unset] []))
        refine own_go (fun _ k => XS.lloadN X10.here hx rfl (hb hby d7_18) rfl k) ?_
        show own_Fin p.tables e below _ (T10.setTop (mkF m 19 #[.val (.ref a1), .val (.int p2), .val (.long q3), .second, .val (.long q4), .second, .unset, .unset] [(.long q3)]))
        refine own_go (fun _ k => XS.lconst X10.here hx rfl (hb hby d7_19) k) ?_
        show own_Fin p.tables e below _ (T10.setTop (mkF m 20 #[.val (.ref a1), .val (.int p2), .val (.long q3), .second, .val (.long q4), .second, .unset, .unset] [(.long (0 : Int64)), (.long q3)]))
        refine own_go (fun _ k => XS.lcmp X10.here hx rfl (hb hby d7_20) rfl k) ?_
        show own_Fin p.tables e below _ (T10.setTop (mkF m 21 #[.val (.ref a1), .val (.int p2), .val (.long q3), .second, .val (.long q4), .second, .unset, .unset] [(.int (lcmpW q3 (0 : Int64)))]))
        by_cases hc21 : q3 = (0 : Int64)
        · refine own_go (fun _ k => XS.ifNo X10.here hx rfl (hb hby d7_21) rfl ((if0 _ _).trans (teq ((lw_eq _ _).mpr hc21)).2) k) ?_
          show own_Fin p.tables e below _ (T10.setTop (mkF m 24 #[.val (.ref a1), .val (.int p2), .val (.long q3), .second, .val (.long q4), .second, .unset, .unset] []))
          refine own_go (fun _ k => XS.iconst X10.here hx rfl (hb hby d7_24) k) ?_
          show own_Fin p.tables e below _ (T10.setTop (mkF m 25 #[.val (.ref a1), .val (.int p2), .val (.long q3), .second, .val (.long q4), .second, .unset, .unset] [(.int (0 : Int32))]))
          obtain ⟨fs, hr, hrun, hended, hW, hsame⟩ := X10.leave (v := some (.int (0 : Int32))) (fun h => by rw [Bd.returns] at h; cases h)
          refine ⟨_, _, ?_, hrun, hended, _, _, rfl, ?_, ⟨_, rfl⟩, hW, hsame.mono (by decide) (by decide)⟩
          · exact retN X10 hx (t := .boolean) Bd.returns (by simp) (hb hby d7_25) hr
          · show Q_own_try Z a1 p2 q3 q4 ta ka kp ts tu h0 n0 _ T10.heap _
            rw [e10]
            exact ⟨(0 : Int32), ts, ta, ka, rfl, N0, (Keep.refl h0 [a1, ta]), (Or.inr ⟨rfl, (fun z => z.elim hc1 fun z => z.elim (fun y => hc11 ((own_cmp hl).mpr y)) (fun z => z.2.1 hc21)), rfl⟩), Ex, Ft, Fk, Fc, Fo, Fs, Vt, g2, ne, (Or.inl rfl)⟩
        · refine own_go (fun _ k => XS.ifYes X10.here hx rfl (pc0 := 21) (pc' := 26) rfl (hb hby d7_21) rfl ((if0 _ _).trans (feq (fun q => hc21 ((lw_eq _ _).mp q))).2) (by decide) (by decide) k) ?_
          show own_Fin p.tables e below _ (T10.setTop (mkF m 26 #[.val (.ref a1), .val (.int p2), .val (.long q3), .second, .val (.long q4), .second, .unset, .unset] []))
          refine own_go (fun _ k => XS.aloadN X10.here hx rfl (hb hby d7_26) rfl rfl k) ?_
          show own_Fin p.tables e below _ (T10.setTop (mkF m 27 #[.val (.ref a1), .val (.int p2), .val (.long q3), .second, .val (.long q4), .second, .unset, .unset] [(.ref a1)]))
          obtain ⟨T20, X20, e20, st20⟩ := getF X10 hx hZ hown (host := "") (Or.inl (hw _ (List.mem_of_getElem? (i := 11) rfl))) Via.refl e10 Ft (g := (mkF m 27 #[.val (.ref a1), .val (.int p2), .val (.long q3), .second, .val (.long q4), .second, .unset, .unset] [(.ref a1)])) rfl rfl (hb hby d7_27)
          refine own_go st20 ?_
          show own_Fin p.tables e below _ (T20.setTop (mkF m 30 #[.val (.ref a1), .val (.int p2), .val (.long q3), .second, .val (.long q4), .second, .unset, .unset] [(.ref ta)]))
          refine own_go (fun _ k => XS.aloadN X20.here hx rfl (hb hby d7_30) rfl rfl k) ?_
          show own_Fin p.tables e below _ (T20.setTop (mkF m 31 #[.val (.ref a1), .val (.int p2), .val (.long q3), .second, .val (.long q4), .second, .unset, .unset] [(.ref a1), (.ref ta)]))
          obtain ⟨T21, X21, e21, st21⟩ := getF X20 hx hZ hown (host := "") (Or.inl (hw _ (List.mem_of_getElem? (i := 62) rfl))) Via.refl e20 Fo (g := (mkF m 31 #[.val (.ref a1), .val (.int p2), .val (.long q3), .second, .val (.long q4), .second, .unset, .unset] [(.ref a1), (.ref ta)])) rfl rfl (hb hby d7_31)
          refine own_go st21 ?_
          show own_Fin p.tables e below _ (T21.setTop (mkF m 34 #[.val (.ref a1), .val (.int p2), .val (.long q3), .second, .val (.long q4), .second, .unset, .unset] [(.int (own_od kp ts)), (.ref ta)]))
          refine own_go (fun _ k => XS.aloadN X21.here hx rfl (hb hby d7_34) rfl rfl k) ?_
          show own_Fin p.tables e below _ (T21.setTop (mkF m 35 #[.val (.ref a1), .val (.int p2), .val (.long q3), .second, .val (.long q4), .second, .unset, .unset] [(.ref a1), (.int (own_od kp ts)), (.ref ta)]))
          obtain ⟨T22, X22, e22, st22⟩ := getF X21 hx hZ hown (host := "") (Or.inl (hw _ (List.mem_of_getElem? (i := 40) rfl))) Via.refl e21 Fs (g := (mkF m 35 #[.val (.ref a1), .val (.int p2), .val (.long q3), .second, .val (.long q4), .second, .unset, .unset] [(.ref a1), (.int (own_od kp ts)), (.ref ta)])) rfl rfl (hb hby d7_35)
          refine own_go st22 ?_
          show own_Fin p.tables e below _ (T22.setTop (mkF m 38 #[.val (.ref a1), .val (.int p2), .val (.long q3), .second, .val (.long q4), .second, .unset, .unset] [(.int (own_sz kp ts)), (.int (own_od kp ts)), (.ref ta)]))
          refine own_go (fun _ k => XS.iadd X22.here hx rfl (hb hby d7_38) rfl k) ?_
          show own_Fin p.tables e below _ (T22.setTop (mkF m 39 #[.val (.ref a1), .val (.int p2), .val (.long q3), .second, .val (.long q4), .second, .unset, .unset] [(.int ((own_od kp ts) + (own_sz kp ts))), (.ref ta)]))
          refine own_go (fun _ k => XS.iloadN X22.here hx rfl (hb hby d7_39) rfl k) ?_
          show own_Fin p.tables e below _ (T22.setTop (mkF m 40 #[.val (.ref a1), .val (.int p2), .val (.long q3), .second, .val (.long q4), .second, .unset, .unset] [(.int p2), (.int ((own_od kp ts) + (own_sz kp ts))), (.ref ta)]))
          refine own_go (fun _ k => XS.isub X22.here hx rfl (hb hby d7_40) rfl k) ?_
          show own_Fin p.tables e below _ (T22.setTop (mkF m 41 #[.val (.ref a1), .val (.int p2), .val (.long q3), .second, .val (.long q4), .second, .unset, .unset] [(.int (((own_od kp ts) + (own_sz kp ts)) - p2)), (.ref ta)]))
          refine own_go (fun _ k => XS.aloadN X22.here hx rfl (hb hby d7_41) rfl rfl k) ?_
          show own_Fin p.tables e below _ (T22.setTop (mkF m 42 #[.val (.ref a1), .val (.int p2), .val (.long q3), .second, .val (.long q4), .second, .unset, .unset] [(.ref a1), (.int (((own_od kp ts) + (own_sz kp ts)) - p2)), (.ref ta)]))
          obtain ⟨T23, X23, e23, st23⟩ := getF X22 hx hZ hown (host := "") (Or.inl (hw _ (List.mem_of_getElem? (i := 11) rfl))) Via.refl e22 Ft (g := (mkF m 42 #[.val (.ref a1), .val (.int p2), .val (.long q3), .second, .val (.long q4), .second, .unset, .unset] [(.ref a1), (.int (((own_od kp ts) + (own_sz kp ts)) - p2)), (.ref ta)])) rfl rfl (hb hby d7_42)
          refine own_go st23 ?_
          show own_Fin p.tables e below _ (T23.setTop (mkF m 45 #[.val (.ref a1), .val (.int p2), .val (.long q3), .second, .val (.long q4), .second, .unset, .unset] [(.ref ta), (.int (((own_od kp ts) + (own_sz kp ts)) - p2)), (.ref ta)]))
          obtain ⟨cl24, Ar24, -, S24, B24, -, -⟩ := id Vt
          refine own_go (X23.arraylength hx (by rw [e23]; exact Ar24.1) (State.isArrayOf_alike hZ.alike Ar24.2.1) (g := (mkF m 45 #[.val (.ref a1), .val (.int p2), .val (.long q3), .second, .val (.long q4), .second, .unset, .unset] [(.ref ta), (.int (((own_od kp ts) + (own_sz kp ts)) - p2)), (.ref ta)])) rfl rfl (hb hby d7_45)) ?_
          rw [len_of S24 B24]
          show own_Fin p.tables e below _ (T23.setTop (mkF m 46 #[.val (.ref a1), .val (.int p2), .val (.long q3), .second, .val (.long q4), .second, .unset, .unset] [(.int (own_ln kp ts)), (.int (((own_od kp ts) + (own_sz kp ts)) - p2)), (.ref ta)]))
          refine own_go (fun _ k => iremM X23 hx rfl (hb hby d7_46) rfl (own_lastp hk hl hc1 hc15 hm (fun y => hc11 ((own_cmp hl).mpr y))).1 k) ?_
          show own_Fin p.tables e below _ (T23.setTop (mkF m 47 #[.val (.ref a1), .val (.int p2), .val (.long q3), .second, .val (.long q4), .second, .unset, .unset] [(.int ((((own_od kp ts) + (own_sz kp ts)) - p2) % (own_ln kp ts))), (.ref ta)]))
          obtain ⟨cl25, Ar25, q25, S25, B25, H25, G25⟩ := id Vt
          have in25 : ¬ (((((own_od kp ts) + (own_sz kp ts)) - p2) % (own_ln kp ts)) < 0 ∨ cl25.slots.size ≤ (((((own_od kp ts) + (own_sz kp ts)) - p2) % (own_ln kp ts))).toNatClampNeg) := inb_of S25 (own_lastp hk hl hc1 hc15 hm (fun y => hc11 ((own_cmp hl).mpr y))).2.1
          have at25 : cl25.slots[(((((own_od kp ts) + (own_sz kp ts)) - p2) % (own_ln kp ts))).toNatClampNeg]? = some (.long (own_nth ts (own_c32 ts - p2))) := Has.at H25 in25 (own_lastp hk hl hc1 hc15 hm (fun y => hc11 ((own_cmp hl).mpr y))).2.2
          refine own_go (X23.laload hx (j := ((((own_od kp ts) + (own_sz kp ts)) - p2) % (own_ln kp ts))) (v := (.long (own_nth ts (own_c32 ts - p2)))) (by rw [e23]; exact Ar25.1) (State.isArrayOf_alike hZ.alike Ar25.2.1) Ar25.2.2 in25 at25 (g := (mkF m 47 #[.val (.ref a1), .val (.int p2), .val (.long q3), .second, .val (.long q4), .second, .unset, .unset] [(.int ((((own_od kp ts) + (own_sz kp ts)) - p2) % (own_ln kp ts))), (.ref ta)])) rfl rfl (hb hby d7_47)) ?_
          show own_Fin p.tables e below _ (T23.setTop (mkF m 48 #[.val (.ref a1), .val (.int p2), .val (.long q3), .second, .val (.long q4), .second, .unset, .unset] [(.long (own_nth ts (own_c32 ts - p2)))]))
          refine own_go (fun _ k => XS.lstore X23.here hx rfl (hb hby d7_48) rfl (l' := #[.val (.ref a1), .val (.int p2), .val (.long q3), .second, .val (.long q4), .second, .val (.long (own_nth ts (own_c32 ts - p2))), .second]) rfl k) ?_
          show own_Fin p.tables e below _ (T23.setTop (mkF m 50 #[.val (.ref a1), .val (.int p2), .val (.long q3), .second, .val (.long q4), .second, .val (.long (own_nth ts (own_c32 ts - p2))), .second] []))
          refine own_go (fun _ k => XS.lload X23.here hx rfl (hb hby d7_50) rfl k) ?_
          show own_Fin p.tables e below _ (T23.setTop (mkF m 52 #[.val (.ref a1), .val (.int p2), .val (.long q3), .second, .val (.long q4), .second, .val (.long (own_nth ts (own_c32 ts - p2))), .second] [(.long q4)]))
          refine own_go (fun _ k => XS.lload X23.here hx rfl (hb hby d7_52) rfl k) ?_
          show own_Fin p.tables e below _ (T23.setTop (mkF m 54 #[.val (.ref a1), .val (.int p2), .val (.long q3), .second, .val (.long q4), .second, .val (.long (own_nth ts (own_c32 ts - p2))), .second] [(.long (own_nth ts (own_c32 ts - p2))), (.long q4)]))
          refine own_go (fun _ k => XS.lsub X23.here hx rfl (hb hby d7_54) rfl k) ?_
          show own_Fin p.tables e below _ (T23.setTop (mkF m 55 #[.val (.ref a1), .val (.int p2), .val (.long q3), .second, .val (.long q4), .second, .val (.long (own_nth ts (own_c32 ts - p2))), .second] [(.long (q4 - (own_nth ts (own_c32 ts - p2))))]))
          obtain ⟨T26, X26, e26, st26⟩ := getS2 X23 hx hZ hown (host := "") (Or.inl (hw _ (List.mem_of_getElem? (i := 70) rfl))) Via.refl e23 (St.ext O0.2) (g := (mkF m 55 #[.val (.ref a1), .val (.int p2), .val (.long q3), .second, .val (.long q4), .second, .val (.long (own_nth ts (own_c32 ts - p2))), .second] [(.long (q4 - (own_nth ts (own_c32 ts - p2))))])) rfl (hb hby d7_55)
          refine own_go st26 ?_
          show own_Fin p.tables e below _ (T26.setTop (mkF m 58 #[.val (.ref a1), .val (.int p2), .val (.long q3), .second, .val (.long q4), .second, .val (.long (own_nth ts (own_c32 ts - p2))), .second] [(.ref tu), (.long (q4 - (own_nth ts (own_c32 ts - p2))))]))
          refine own_go (fun _ k => XS.lloadN X26.here hx rfl (hb hby d7_58) rfl k) ?_
          show own_Fin p.tables e below _ (T26.setTop (mkF m 59 #[.val (.ref a1), .val (.int p2), .val (.long q3), .second, .val (.long q4), .second, .val (.long (own_nth ts (own_c32 ts - p2))), .second] [(.long q3), (.ref tu), (.long (q4 - (own_nth ts (own_c32 ts - p2))))]))
          obtain ⟨cq27, kq27, q27a, q27b, q27c⟩ := isOf hZ e26 (Et.ext O0.2)
          obtain ⟨_, _, ⟨T27, L27, k27, n27⟩, -, X27, ⟨Lc27, hQ27, l27, y27, z27⟩, st27⟩ := X26.virtualBack hx (y := (⟨"java/util/concurrent/TimeUnit", "toNanos", "(J)J"⟩ : MethodName)) (z := (⟨"java/util/concurrent/TimeUnit", "toNanos", "(J)J"⟩ : MethodName)) hown (mvT hZ (hw _ (List.mem_of_getElem? (i := 72) rfl))) (mvT hZ (hw _ (List.mem_of_getElem? (i := 73) rfl))) (notFace_of_selects (args := #[]) (mvT hZ (hw _ (List.mem_of_getElem? (i := 75) rfl)))) (mvT hZ (hw _ (List.mem_of_getElem? (i := 75) rfl))) (mvT hZ (hw _ (List.mem_of_getElem? (i := 74) rfl))) (by decide) (backOf (W := 2) (own_toNanos l Z a0 hw [] tu q3 h0 n0 Z0 (F1.ext O0.2) (F2.ext O0.2) hq) hZ (hw _ (List.mem_of_getElem? (i := 76) rfl)) (hw _ (List.mem_of_getElem? (i := 71) rfl)) (by decide) (by decide)) q27a q27c (g := (mkF m 59 #[.val (.ref a1), .val (.int p2), .val (.long q3), .second, .val (.long q4), .second, .val (.long (own_nth ts (own_c32 ts - p2))), .second] [(.long q3), (.ref tu), (.long (q4 - (own_nth ts (own_c32 ts - p2))))])) rfl (by rw [hml]; rfl) (Steps.refl _) (argsL := [(.long q3)]) (rest := [(.long (q4 - (own_nth ts (own_c32 ts - p2))))]) (lenOf own_pd0 rfl) rfl (by show 2 * 0 + _ ≤ _; exact Nat.le_of_eq rfl) (hb hby d7_59) (fun _ _ => ⟨rfl, e26, (by decide : 0 + 0 ≤ _), (by decide : 0 + 0 ≤ _)⟩)
          dsimp only [Pt.U, Pt.locs, Pt.cells, Pt.slots] at X27 l27 y27 z27 st27 hQ27
          subst l27 y27 z27
          obtain ⟨hv27, N27q, eh27⟩ := hQ27
          subst hv27
          have N27 := Fr.app N0 N27q
          refine own_go (fun _ k => st27.trans k) ?_
          show own_Fin p.tables e below _ (T27.setTop (mkF m 62 #[.val (.ref a1), .val (.int p2), .val (.long q3), .second, .val (.long q4), .second, .val (.long (own_nth ts (own_c32 ts - p2))), .second] [(.long (own_nan q3)), (.long (q4 - (own_nth ts (own_c32 ts - p2))))]))
          refine own_go (fun _ k => XS.lcmp X27.here hx rfl (hb hby d7_62) rfl k) ?_
          show own_Fin p.tables e below _ (T27.setTop (mkF m 63 #[.val (.ref a1), .val (.int p2), .val (.long q3), .second, .val (.long q4), .second, .val (.long (own_nth ts (own_c32 ts - p2))), .second] [(.int (lcmpW (q4 - (own_nth ts (own_c32 ts - p2))) (own_nan q3)))]))
          by_cases hc63 : (own_nan q3) < (q4 - (own_nth ts (own_c32 ts - p2)))
          · refine own_go (fun _ k => XS.ifYes X27.here hx rfl (pc0 := 63) (pc' := 68) rfl (hb hby d7_63) rfl ((if0 _ _).trans (tlt ((lw_gt _ _).mpr hc63)).2.2.1) (by decide) (by decide) k) ?_
            show own_Fin p.tables e below _ (T27.setTop (mkF m 68 #[.val (.ref a1), .val (.int p2), .val (.long q3), .second, .val (.long q4), .second, .val (.long (own_nth ts (own_c32 ts - p2))), .second] []))
            refine own_go (fun _ k => XS.aloadN X27.here hx rfl (hb hby d7_68) rfl rfl k) ?_
            show own_Fin p.tables e below _ (T27.setTop (mkF m 69 #[.val (.ref a1), .val (.int p2), .val (.long q3), .second, .val (.long q4), .second, .val (.long (own_nth ts (own_c32 ts - p2))), .second] [(.ref a1)]))
            refine own_go (fun _ k => XS.dup X27.here hx rfl (hb hby d7_69) rfl rfl k) ?_
            show own_Fin p.tables e below _ (T27.setTop (mkF m 70 #[.val (.ref a1), .val (.int p2), .val (.long q3), .second, .val (.long q4), .second, .val (.long (own_nth ts (own_c32 ts - p2))), .second] [(.ref a1), (.ref a1)]))
            obtain ⟨T28, X28, e28, st28⟩ := getF X27 hx hZ hown (host := "") (Or.inl (hw _ (List.mem_of_getElem? (i := 33) rfl))) Via.refl eh27 Fc (g := (mkF m 70 #[.val (.ref a1), .val (.int p2), .val (.long q3), .second, .val (.long q4), .second, .val (.long (own_nth ts (own_c32 ts - p2))), .second] [(.ref a1), (.ref a1)])) rfl rfl (hb hby d7_70)
            refine own_go st28 ?_
            show own_Fin p.tables e below _ (T28.setTop (mkF m 73 #[.val (.ref a1), .val (.int p2), .val (.long q3), .second, .val (.long q4), .second, .val (.long (own_nth ts (own_c32 ts - p2))), .second] [(.long (own_cn ts)), (.ref a1)]))
            refine own_go (fun _ k => XS.lconst X28.here hx rfl (hb hby d7_73) k) ?_
            show own_Fin p.tables e below _ (T28.setTop (mkF m 74 #[.val (.ref a1), .val (.int p2), .val (.long q3), .second, .val (.long q4), .second, .val (.long (own_nth ts (own_c32 ts - p2))), .second] [(.long (1 : Int64)), (.long (own_cn ts)), (.ref a1)]))
            refine own_go (fun _ k => XS.ladd X28.here hx rfl (hb hby d7_74) rfl k) ?_
            show own_Fin p.tables e below _ (T28.setTop (mkF m 75 #[.val (.ref a1), .val (.int p2), .val (.long q3), .second, .val (.long q4), .second, .val (.long (own_nth ts (own_c32 ts - p2))), .second] [(.long ((own_cn ts) + (1 : Int64))), (.ref a1)]))
            obtain ⟨T29, h29, X29, e29, W29, st29⟩ := putF X28 hx hZ hown (host := "") (Or.inl (hw _ (List.mem_of_getElem? (i := 33) rfl))) Via.refl e28 Fc Ex (Or.inl (hw _ (List.mem_of_getElem? (i := 34) rfl))) (hw _ (List.mem_of_getElem? (i := 3) rfl)) (ty := .long) (by decide) rfl rfl (g := (mkF m 75 #[.val (.ref a1), .val (.int p2), .val (.long q3), .second, .val (.long q4), .second, .val (.long (own_nth ts (own_c32 ts - p2))), .second] [(.long ((own_cn ts) + (1 : Int64))), (.ref a1)])) rfl rfl (hb hby d7_75)
            refine own_go st29 ?_
            have f30_0 : Exa Z h29 a1 "com/example/ferrybell/ferrybell/runtime/Restarts" := Ex.wr W29
            have f30_1 : Fld Z h29 a1 "com/example/ferrybell/ferrybell/runtime/Restarts" "iTimes" "[J" (.ref ta) := Ft.other W29 (Or.inr (slot_ne (Or.inl (hw _ (List.mem_of_getElem? (i := 12) rfl))) (Or.inl (hw _ (List.mem_of_getElem? (i := 34) rfl))) (by decide) (t := (.array .long)) (t' := .long) (by decide) (by decide)))
            have f30_2 : Fld Z h29 a1 "com/example/ferrybell/ferrybell/runtime/Restarts" "iKept" "I" (.int kp) := Fk.other W29 (Or.inr (slot_ne (Or.inr (hw _ (List.mem_of_getElem? (i := 14) rfl))) (Or.inl (hw _ (List.mem_of_getElem? (i := 34) rfl))) (by decide) (t := .int) (t' := .long) (by decide) (by decide)))
            have f30_4 : Fld Z h29 a1 "com/example/ferrybell/ferrybell/runtime/Restarts" "iOldest" "I" (.int (own_od kp ts)) := Fo.other W29 (Or.inr (slot_ne (Or.inl (hw _ (List.mem_of_getElem? (i := 63) rfl))) (Or.inl (hw _ (List.mem_of_getElem? (i := 34) rfl))) (by decide) (t := .int) (t' := .long) (by decide) (by decide)))
            have f30_5 : Fld Z h29 a1 "com/example/ferrybell/ferrybell/runtime/Restarts" "iSize" "I" (.int (own_sz kp ts)) := Fs.other W29 (Or.inr (slot_ne (Or.inl (hw _ (List.mem_of_getElem? (i := 41) rfl))) (Or.inl (hw _ (List.mem_of_getElem? (i := 34) rfl))) (by decide) (t := .int) (t' := .long) (by decide) (by decide)))
            have f30_6 : Arv Z h29 ta ka .long (own_ln kp ts) (own_vs kp ts) (.long (0 : Int64)) := Vt.other W29 (Ne.symm ne)
            have f30_7 : Old Z n0 h29 := O0.wr W29 g1
            have F29 : Fld Z h29 a1 "com/example/ferrybell/ferrybell/runtime/Restarts" "iCount" "J" (.long ((own_cn ts) + (1 : Int64))) := Fc.same W29
            have N29 := Fr.snoc X29 N27 g1
            have K31 : Keep h0 h29 [a1, ta] := Keep.wr (Keep.refl h0 [a1, ta]) W29 (Or.inl (List.mem_of_getElem? (i := 0) rfl))
            have Z32 : n0 ≤ h29.size := Nat.le_trans Z0 (Keep.of_wr W29).1
            show own_Fin p.tables e below _ (T29.setTop (mkF m 78 #[.val (.ref a1), .val (.int p2), .val (.long q3), .second, .val (.long q4), .second, .val (.long (own_nth ts (own_c32 ts - p2))), .second] []))
            refine own_go (fun _ k => XS.aloadN X29.here hx rfl (hb hby d7_78) rfl rfl k) ?_
            show own_Fin p.tables e below _ (T29.setTop (mkF m 79 #[.val (.ref a1), .val (.int p2), .val (.long q3), .second, .val (.long q4), .second, .val (.long (own_nth ts (own_c32 ts - p2))), .second] [(.ref a1)]))
            refine own_go (fun _ k => XS.lload X29.here hx rfl (hb hby d7_79) rfl k) ?_
            show own_Fin p.tables e below _ (T29.setTop (mkF m 81 #[.val (.ref a1), .val (.int p2), .val (.long q3), .second, .val (.long q4), .second, .val (.long (own_nth ts (own_c32 ts - p2))), .second] [(.long q4), (.ref a1)]))
            obtain ⟨cq33, q33, q33'⟩ := f30_0.cell
            obtain ⟨_, _, ⟨T33, L33, k33, n33⟩, -, X33, ⟨Lc33, hQ33, l33, y33, z33⟩, st33⟩ := X29.privateBack hx (y := (⟨"com/example/ferrybell/ferrybell/runtime/Restarts", "keep", "(J)V"⟩ : MethodName)) hown (mvT hZ (hw _ (List.mem_of_getElem? (i := 35) rfl))) (mvT hZ (hw _ (List.mem_of_getElem? (i := 36) rfl))) (own_selp (y := (⟨"com/example/ferrybell/ferrybell/runtime/Restarts", "keep", "(J)V"⟩ : MethodName)) (mvT hZ (hw _ (List.mem_of_getElem? (i := 3) rfl))) (Cond.privateMethod_at (mvP hZ (hw _ (List.mem_of_getElem? (i := 37) rfl)) (args := #[]))) (mvT hZ (hw _ (List.mem_of_getElem? (i := 36) rfl))) (by decide)) (Cond.privateMethod_at (mvP hZ (hw _ (List.mem_of_getElem? (i := 37) rfl)) (args := #[]))) (mvT hZ (hw _ (List.mem_of_getElem? (i := 38) rfl))) (by decide) (backOf (W := 0) (own_keep l Z a0 hw [] a1 q4 ta ka kp ts ((own_cn ts) + (1 : Int64)) h29 n0 Z32 f30_0 f30_1 f30_2 F29 f30_4 f30_5 f30_6 ne g1 g2 hk hl) hZ (hw _ (List.mem_of_getElem? (i := 38) rfl)) (hw _ (List.mem_of_getElem? (i := 4) rfl)) (by decide) (by decide)) (g := (mkF m 81 #[.val (.ref a1), .val (.int p2), .val (.long q3), .second, .val (.long q4), .second, .val (.long (own_nth ts (own_c32 ts - p2))), .second] [(.long q4), (.ref a1)])) rfl (by rw [hml]; rfl) (Steps.refl _) (a := a1) (by rw [e29]; exact q33) q33' (argsL := [(.long q4)]) (rest := []) (lenOf own_pd4 rfl) rfl (by show 2 * 0 + _ ≤ _; exact Nat.le_of_eq rfl) (hb hby d7_81) (fun _ _ => ⟨rfl, e29, (by decide : 0 + 1 ≤ _), (by decide : 0 + 3 ≤ _)⟩)
            dsimp only [Pt.U, Pt.locs, Pt.cells, Pt.slots] at X33 l33 y33 z33 st33 hQ33
            subst l33 y33 z33
            obtain ⟨tb33, kb33, hv33, N33q, o33_0, o33_1, o33_2, o33_3, o33_4, o33_5, o33_6, o33_7, o33_8, o33_9, o33_10⟩ := hQ33
            subst hv33
            have N33 := Fr.app N29 N33q
            refine own_go (fun _ k => st33.trans k) ?_
            have f34_6 : Old Z n0 T33.heap := f30_7.keep o33_0 (allS g1 (allS g2 all0))
            have K35 : Keep h0 T33.heap [a1, ta] := Keep.trans K31 o33_0 (allS (Or.inl (List.mem_of_getElem? (i := 0) rfl)) (allS (Or.inl (List.mem_of_getElem? (i := 1) rfl)) all0))
            have Z36 : n0 ≤ T33.heap.size := Nat.le_trans Z32 o33_0.1
            have oq33 : tb33 = ta ∨ h0.size ≤ tb33 := o33_10.imp id (Nat.le_trans K31.1)
            show own_Fin p.tables e below _ (T33.setTop (mkF m 84 #[.val (.ref a1), .val (.int p2), .val (.long q3), .second, .val (.long q4), .second, .val (.long (own_nth ts (own_c32 ts - p2))), .second] []))
            refine own_go (fun _ k => XS.iconst X33.here hx rfl (hb hby d7_84) k) ?_
            show own_Fin p.tables e below _ (T33.setTop (mkF m 85 #[.val (.ref a1), .val (.int p2), .val (.long q3), .second, .val (.long q4), .second, .val (.long (own_nth ts (own_c32 ts - p2))), .second] [(.int (1 : Int32))]))
            obtain ⟨fs, hr, hrun, hended, hW, hsame⟩ := X33.leave (v := some (.int (1 : Int32))) (fun h => by rw [Bd.returns] at h; cases h)
            refine ⟨_, _, ?_, hrun, hended, _, _, rfl, ?_, ⟨_, rfl⟩, hW, hsame.mono (by decide) (by decide)⟩
            · exact retN X33 hx (t := .boolean) Bd.returns (by simp) (hb hby d7_85) hr
            · show Q_own_try Z a1 p2 q3 q4 ta ka kp ts tu h0 n0 _ T33.heap _
              exact ⟨(1 : Int32), (ts ++ [q4]), tb33, kb33, rfl, N33, K35, (Or.inl ⟨rfl, Or.inr (Or.inr ⟨hc15, hc21, hc63⟩), rfl⟩), o33_1, o33_2, o33_3, (by rw [← own_cns hl]; exact o33_4), o33_5, o33_6, o33_7, o33_8, o33_9, oq33⟩
          · refine own_go (fun _ k => XS.ifNo X27.here hx rfl (hb hby d7_63) rfl ((if0 _ _).trans (flt (fun q => hc63 ((lw_gt _ _).mp q))).2.2.1) k) ?_
            show own_Fin p.tables e below _ (T27.setTop (mkF m 66 #[.val (.ref a1), .val (.int p2), .val (.long q3), .second, .val (.long q4), .second, .val (.long (own_nth ts (own_c32 ts - p2))), .second] []))
            refine own_go (fun _ k => XS.iconst X27.here hx rfl (hb hby d7_66) k) ?_
            show own_Fin p.tables e below _ (T27.setTop (mkF m 67 #[.val (.ref a1), .val (.int p2), .val (.long q3), .second, .val (.long q4), .second, .val (.long (own_nth ts (own_c32 ts - p2))), .second] [(.int (0 : Int32))]))
            obtain ⟨fs, hr, hrun, hended, hW, hsame⟩ := X27.leave (v := some (.int (0 : Int32))) (fun h => by rw [Bd.returns] at h; cases h)
            refine ⟨_, _, ?_, hrun, hended, _, _, rfl, ?_, ⟨_, rfl⟩, hW, hsame.mono (by decide) (by decide)⟩
            · exact retN X27 hx (t := .boolean) Bd.returns (by simp) (hb hby d7_67) hr
            · show Q_own_try Z a1 p2 q3 q4 ta ka kp ts tu h0 n0 _ T27.heap _
              rw [eh27]
              exact ⟨(0 : Int32), ts, ta, ka, rfl, N27, (Keep.refl h0 [a1, ta]), (Or.inr ⟨rfl, (fun z => z.elim hc1 fun z => z.elim (fun y => hc11 ((own_cmp hl).mpr y)) (fun z => hc63 z.2.2)), rfl⟩), Ex, Ft, Fk, Fc, Fo, Fs, Vt, g2, ne, (Or.inl rfl)⟩
theorem own_nee {a b t : Addr} {n : Nat} (h : b = t ∨ n ≤ b) (h1 : a ≠ t) (h2 : a < n) : a ≠ b := fun e => h.elim (fun q => h1 (e.trans q)) (fun q => absurd h2 (by rw [e]; exact Nat.not_lt.mpr q))
def Q_own_step (Z : State) (a1 : Addr) (a2 : Addr) (a3 : Addr) (p4 : Int32) (p5 : Int32) (kp : Int32) (q7 : Int64) (q8 : Int64) (ta : Addr) (ka : ClassId) (kh : ClassId) (kn : ClassId) (ts : List Int64) (tu : Addr) (nb : Nat) (h0 : Heap) (n0 : Nat) (v : Option Value) (h : Heap) (L : List Loc) : Prop := ∃ (tq : List Int64) (tb : Addr) (kb : ClassId), v = some (.int (1 : Int32)) ∧ Fr n0 L ∧ Keep h0 h [a1, a2, a3, ta] ∧ Exa Z h a1 "com/example/ferrybell/ferrybell/runtime/Restarts" ∧ Fld Z h a1 "com/example/ferrybell/ferrybell/runtime/Restarts" "iTimes" "[J" (.ref tb) ∧ Fld Z h a1 "com/example/ferrybell/ferrybell/runtime/Restarts" "iKept" "I" (.int kp) ∧ Fld Z h a1 "com/example/ferrybell/ferrybell/runtime/Restarts" "iCount" "J" (.long (own_cn tq)) ∧ Fld Z h a1 "com/example/ferrybell/ferrybell/runtime/Restarts" "iOldest" "I" (.int (own_od kp tq)) ∧ Fld Z h a1 "com/example/ferrybell/ferrybell/runtime/Restarts" "iSize" "I" (.int (own_sz kp tq)) ∧ Arv Z h tb kb .long (own_ln kp tq) (own_vs kp tq) (.long (0 : Int64)) ∧ Arv Z h a2 kh .long (5 : Int32) (own_hist tq) (.long (0 : Int64)) ∧ Arv Z h a3 kn .int (1 : Int32) [(.int (own_c32 tq))] (.int (0 : Int32)) ∧ n0 ≤ tb ∧ a1 ≠ tb ∧ a2 ≠ tb ∧ a3 ≠ tb ∧ tq.length ≤ nb + 1
theorem ef_own_step (m : MethodId) (x0 : Addr) (x1 : Addr) (x2 : Addr) (x3 : Int32) (x4 : Int32) (x5 : Int32) (x6 : Int64) (x7 : Int64) : entryFrame m #[(.ref x0), (.ref x1), (.ref x2), (.int x3), (.int x4), (.int x5), (.long x6), (.long x7)] 15 = mkF m 0 #[.val (.ref x0), .val (.ref x1), .val (.ref x2), .val (.int x3), .val (.int x4), .val (.int x5), .val (.long x6), .second, .val (.long x7), .second, .unset, .unset, .unset, .unset, .unset] [] := by first | (simp [entryFrame, mkF, argsToLocals, Value.category]; done) | rfl
set_option maxRecDepth 65536 in
set_option maxHeartbeats 40000000 in
theorem own_step (l : Launch) (Z : State) (a0 : Array Value) (hw : ∀ d ∈ tables_1, d.before a0 Z = true) (ws : List Jvm.Cond) (a1 : Addr) (a2 : Addr) (a3 : Addr) (p4 : Int32) (p5 : Int32) (kp : Int32) (q7 : Int64) (q8 : Int64) (ta : Addr) (ka : ClassId) (kh : ClassId) (kn : ClassId) (ts : List Int64) (tu : Addr) (nb : Nat) (h0 : Heap) (n0 : Nat) (Z0 : n0 ≤ h0.size) (Ex : Exa Z h0 a1 "com/example/ferrybell/ferrybell/runtime/Restarts") (Ft : Fld Z h0 a1 "com/example/ferrybell/ferrybell/runtime/Restarts" "iTimes" "[J" (.ref ta)) (Fk : Fld Z h0 a1 "com/example/ferrybell/ferrybell/runtime/Restarts" "iKept" "I" (.int kp)) (Fc : Fld Z h0 a1 "com/example/ferrybell/ferrybell/runtime/Restarts" "iCount" "J" (.long (own_cn ts))) (Fo : Fld Z h0 a1 "com/example/ferrybell/ferrybell/runtime/Restarts" "iOldest" "I" (.int (own_od kp ts))) (Fs : Fld Z h0 a1 "com/example/ferrybell/ferrybell/runtime/Restarts" "iSize" "I" (.int (own_sz kp ts))) (Vt : Arv Z h0 ta ka .long (own_ln kp ts) (own_vs kp ts) (.long (0 : Int64))) (Vh : Arv Z h0 a2 kh .long (5 : Int32) (own_hist ts) (.long (0 : Int64))) (Vn : Arv Z h0 a3 kn .int (1 : Int32) [(.int (own_c32 ts))] (.int (0 : Int32))) (O0 : Old Z n0 h0) (St : Sta Z Z.heap "java/util/concurrent/TimeUnit" "MILLISECONDS" "Ljava/util/concurrent/TimeUnit;" (.ref tu)) (Et : Exa Z Z.heap tu "java/util/concurrent/TimeUnit") (F1 : Fld Z Z.heap tu "java/util/concurrent/TimeUnit" "scale" "J" (.long (1000000 : Int64))) (F2 : Fld Z Z.heap tu "java/util/concurrent/TimeUnit" "maxNanos" "J" (.long (9223372036854 : Int64))) (n1t : a1 ≠ ta) (n2t : a2 ≠ ta) (n3t : a3 ≠ ta) (n12 : a1 ≠ a2) (n13 : a1 ≠ a3) (n23 : a2 ≠ a3) (g1 : n0 ≤ a1) (g2 : n0 ≤ a2) (g3 : n0 ≤ a3) (gt : n0 ≤ ta) (hk : own_k4 kp) (hnb : nb ≤ 4) (hl : ts.length ≤ nb) (hq : 0 ≤ q7.toInt) :
    MetFree l (⟨"com/example/ferrybell/ferrybell/runtime/RestartsTryRestartPinLaw", "step", "(Lcom/example/ferrybell/ferrybell/runtime/Restarts;[J[IIIIJJ)Z"⟩ : MethodName) (head1 (Jvm.Cond.code (⟨"com/example/ferrybell/ferrybell/runtime/RestartsTryRestartPinLaw", "step", "(Lcom/example/ferrybell/ferrybell/runtime/Restarts;[J[IIIIJJ)Z"⟩ : MethodName) method_6_code 15 (some .boolean) :: ws) ({ frames := 4, cells := 1, slots := 3, locals := 66 } : Room)) (fun a U => a = #[(.ref a1), (.ref a2), (.ref a3), (.int p4), (.int p5), (.int kp), (.long q7), (.long q8)] ∧ Z.Warmed39 U.vm ∧ U.heap = h0) (fun _ _ _ _ _ => True) (fun _ U o U' => ∃ v L, o = .returned v ∧ Q_own_step Z a1 a2 a3 p4 p5 kp q7 q8 ta ka kh kn ts tu nb h0 n0 v U'.heap L ∧ FrameEnd U o U' L ({ frames := 4, cells := 1, slots := 3, locals := 66 } : Room).cells ({ frames := 4, cells := 1, slots := 3, locals := 66 } : Room).slots) := by
  refine MetFree.of_bodySF (plainFor_of_name own_pn0) hisR ?_
  intro p e s m args below meth c s₁ Bd hml0 hP hK
  obtain ⟨rfl, hZ, hh⟩ := hP
  have hx := Bd.exec
  have hby := Bd.bytes
  have hml : c.maxLocals = 15 := hml0
  have hown : s.vm.findClass "com/example/ferrybell/ferrybell/runtime/RestartsTryRestartPinLaw" = some m.cls := findClass_of_methodNamed Bd.named
  have hnm := (name_of_methodNamed Bd.named Bd.method).1
  have X0 : Stand p l e ({ frames := 4, cells := 1, slots := 3, locals := 66 } : Room) s m #[(.ref a1), (.ref a2), (.ref a3), (.int p4), (.int p5), (.int kp), (.long q7), (.long q8)] below meth c s₁ [] 0 0 := Stand.of_body Bd
  have e0 : s₁.heap = h0 := by rw [← hh, Bd.state]; rfl
  have N0 := Fr.nil n0
  show own_Fin p.tables e below _ (s₁.setTop (entryFrame m #[(.ref a1), (.ref a2), (.ref a3), (.int p4), (.int p5), (.int kp), (.long q7), (.long q8)] 15))
  refine own_go (fun _ k => castTop (ef_own_step m a1 a2 a3 p4 p5 kp q7 q8) k) ?_
  show own_Fin p.tables e below _ (s₁.setTop (mkF m 0 #[.val (.ref a1), .val (.ref a2), .val (.ref a3), .val (.int p4), .val (.int p5), .val (.int kp), .val (.long q7), .second, .val (.long q8), .second, .unset, .unset, .unset, .unset, .unset] []))
  refine own_go (fun _ k => XS.iloadN X0.here hx rfl (hb hby d3_0) rfl k) ?_
  show own_Fin p.tables e below _ (s₁.setTop (mkF m 1 #[.val (.ref a1), .val (.ref a2), .val (.ref a3), .val (.int p4), .val (.int p5), .val (.int kp), .val (.long q7), .second, .val (.long q8), .second, .unset, .unset, .unset, .unset, .unset] [(.int p4)]))
  refine own_go (fun _ k => XS.iload X0.here hx rfl (hb hby d3_1) rfl k) ?_
  show own_Fin p.tables e below _ (s₁.setTop (mkF m 3 #[.val (.ref a1), .val (.ref a2), .val (.ref a3), .val (.int p4), .val (.int p5), .val (.int kp), .val (.long q7), .second, .val (.long q8), .second, .unset, .unset, .unset, .unset, .unset] [(.int p5), (.int p4)]))
  refine own_go (fun _ k => XS.iload X0.here hx rfl (hb hby d3_3) rfl k) ?_
  show own_Fin p.tables e below _ (s₁.setTop (mkF m 5 #[.val (.ref a1), .val (.ref a2), .val (.ref a3), .val (.int p4), .val (.int p5), .val (.int kp), .val (.long q7), .second, .val (.long q8), .second, .unset, .unset, .unset, .unset, .unset] [(.int kp), (.int p5), (.int p4)]))
  obtain ⟨_, _, ⟨T1, L1, k1, n1⟩, -, X1, ⟨Lc1, hQ1, l1, y1, z1⟩, st1⟩ := Jvm.LawKit.callS X0 hx (y := (⟨"com/example/ferrybell/ferrybell/runtime/RestartsTryRestartPinLaw", "limit", "(III)I"⟩ : MethodName)) hown (mvT hZ (hw _ (List.mem_of_getElem? (i := 19) rfl))) (mvT hZ (hw _ (List.mem_of_getElem? (i := 20) rfl))) (mvT hZ (hw _ (List.mem_of_getElem? (i := 17) rfl))) (mvT hZ (hw _ (List.mem_of_getElem? (i := 21) rfl))) (by decide) (backOf (W := 0) (own_limit l Z a0 hw [] p4 p5 kp h0 n0 Z0 (own_k4i hk).1 (own_k4i hk).2) hZ (hw _ (List.mem_of_getElem? (i := 21) rfl)) (hw _ (List.mem_of_getElem? (i := 17) rfl)) (by decide) (by decide)) (g := (mkF m 5 #[.val (.ref a1), .val (.ref a2), .val (.ref a3), .val (.int p4), .val (.int p5), .val (.int kp), .val (.long q7), .second, .val (.long q8), .second, .unset, .unset, .unset, .unset, .unset] [(.int kp), (.int p5), (.int p4)])) rfl (by rw [hml]; rfl) (argsL := [(.int p4), (.int p5), (.int kp)]) (rest := []) (lenOf own_pd5 rfl) rfl (by show 2 * 0 + _ ≤ _; exact Nat.le_of_eq rfl) (hb hby d3_5) (fun _ _ => ⟨rfl, e0, (by decide : 0 + 0 ≤ _), (by decide : 0 + 0 ≤ _)⟩)
  dsimp only [Pt.U, Pt.locs, Pt.cells, Pt.slots] at X1 l1 y1 z1 st1 hQ1
  subst l1 y1 z1
  obtain ⟨mm1, hv1, N1q, eh1, o1_0⟩ := hQ1
  subst hv1
  have N1 := Fr.app N0 N1q
  refine own_go st1 ?_
  show own_Fin p.tables e below _ (T1.setTop (mkF m 8 #[.val (.ref a1), .val (.ref a2), .val (.ref a3), .val (.int p4), .val (.int p5), .val (.int kp), .val (.long q7), .second, .val (.long q8), .second, .unset, .unset, .unset, .unset, .unset] [(.int mm1)]))
  refine own_go (fun _ k => XS.istore X1.here hx rfl (hb hby d3_8) rfl (l' := #[.val (.ref a1), .val (.ref a2), .val (.ref a3), .val (.int p4), .val (.int p5), .val (.int kp), .val (.long q7), .second, .val (.long q8), .second, .val (.int mm1), .unset, .unset, .unset, .unset]) rfl k) ?_
  show own_Fin p.tables e below _ (T1.setTop (mkF m 10 #[.val (.ref a1), .val (.ref a2), .val (.ref a3), .val (.int p4), .val (.int p5), .val (.int kp), .val (.long q7), .second, .val (.long q8), .second, .val (.int mm1), .unset, .unset, .unset, .unset] []))
  refine own_go (fun _ k => XS.iloadN X1.here hx rfl (hb hby d3_10) rfl k) ?_
  show own_Fin p.tables e below _ (T1.setTop (mkF m 11 #[.val (.ref a1), .val (.ref a2), .val (.ref a3), .val (.int p4), .val (.int p5), .val (.int kp), .val (.long q7), .second, .val (.long q8), .second, .val (.int mm1), .unset, .unset, .unset, .unset] [(.int p4)]))
  refine own_go (fun _ k => XS.iload X1.here hx rfl (hb hby d3_11) rfl k) ?_
  show own_Fin p.tables e below _ (T1.setTop (mkF m 13 #[.val (.ref a1), .val (.ref a2), .val (.ref a3), .val (.int p4), .val (.int p5), .val (.int kp), .val (.long q7), .second, .val (.long q8), .second, .val (.int mm1), .unset, .unset, .unset, .unset] [(.int p5), (.int p4)]))
  refine own_go (fun _ k => XS.lload X1.here hx rfl (hb hby d3_13) rfl k) ?_
  show own_Fin p.tables e below _ (T1.setTop (mkF m 15 #[.val (.ref a1), .val (.ref a2), .val (.ref a3), .val (.int p4), .val (.int p5), .val (.int kp), .val (.long q7), .second, .val (.long q8), .second, .val (.int mm1), .unset, .unset, .unset, .unset] [(.long q7), (.int p5), (.int p4)]))
  obtain ⟨_, _, ⟨T2, L2, k2, n2⟩, -, X2, ⟨Lc2, hQ2, l2, y2, z2⟩, st2⟩ := Jvm.LawKit.callS X1 hx (y := (⟨"com/example/ferrybell/ferrybell/runtime/RestartsTryRestartPinLaw", "window", "(IIJ)J"⟩ : MethodName)) hown (mvT hZ (hw _ (List.mem_of_getElem? (i := 22) rfl))) (mvT hZ (hw _ (List.mem_of_getElem? (i := 23) rfl))) (mvT hZ (hw _ (List.mem_of_getElem? (i := 17) rfl))) (mvT hZ (hw _ (List.mem_of_getElem? (i := 24) rfl))) (by decide) (backOf (W := 0) (own_window l Z a0 hw [] p4 p5 q7 h0 n0 Z0 hq) hZ (hw _ (List.mem_of_getElem? (i := 24) rfl)) (hw _ (List.mem_of_getElem? (i := 17) rfl)) (by decide) (by decide)) (g := (mkF m 15 #[.val (.ref a1), .val (.ref a2), .val (.ref a3), .val (.int p4), .val (.int p5), .val (.int kp), .val (.long q7), .second, .val (.long q8), .second, .val (.int mm1), .unset, .unset, .unset, .unset] [(.long q7), (.int p5), (.int p4)])) rfl (by rw [hml]; rfl) (argsL := [(.int p4), (.int p5), (.long q7)]) (rest := []) (lenOf own_pd6 rfl) rfl (by show 2 * 0 + _ ≤ _; exact Nat.le_of_eq rfl) (hb hby d3_15) (fun _ _ => ⟨rfl, eh1, (by decide : 0 + 0 ≤ _), (by decide : 0 + 0 ≤ _)⟩)
  dsimp only [Pt.U, Pt.locs, Pt.cells, Pt.slots] at X2 l2 y2 z2 st2 hQ2
  subst l2 y2 z2
  obtain ⟨ww2, hv2, N2q, eh2, o2_0⟩ := hQ2
  subst hv2
  have N2 := Fr.app N1 N2q
  refine own_go st2 ?_
  show own_Fin p.tables e below _ (T2.setTop (mkF m 18 #[.val (.ref a1), .val (.ref a2), .val (.ref a3), .val (.int p4), .val (.int p5), .val (.int kp), .val (.long q7), .second, .val (.long q8), .second, .val (.int mm1), .unset, .unset, .unset, .unset] [(.long ww2)]))
  refine own_go (fun _ k => XS.lstore X2.here hx rfl (hb hby d3_18) rfl (l' := #[.val (.ref a1), .val (.ref a2), .val (.ref a3), .val (.int p4), .val (.int p5), .val (.int kp), .val (.long q7), .second, .val (.long q8), .second, .val (.int mm1), .val (.long ww2), .second, .unset, .unset]) rfl k) ?_
  show own_Fin p.tables e below _ (T2.setTop (mkF m 20 #[.val (.ref a1), .val (.ref a2), .val (.ref a3), .val (.int p4), .val (.int p5), .val (.int kp), .val (.long q7), .second, .val (.long q8), .second, .val (.int mm1), .val (.long ww2), .second, .unset, .unset] []))
  refine own_go (fun _ k => XS.aloadN X2.here hx rfl (hb hby d3_20) rfl rfl k) ?_
  show own_Fin p.tables e below _ (T2.setTop (mkF m 21 #[.val (.ref a1), .val (.ref a2), .val (.ref a3), .val (.int p4), .val (.int p5), .val (.int kp), .val (.long q7), .second, .val (.long q8), .second, .val (.int mm1), .val (.long ww2), .second, .unset, .unset] [(.ref a2)]))
  refine own_go (fun _ k => XS.aloadN X2.here hx rfl (hb hby d3_21) rfl rfl k) ?_
  show own_Fin p.tables e below _ (T2.setTop (mkF m 22 #[.val (.ref a1), .val (.ref a2), .val (.ref a3), .val (.int p4), .val (.int p5), .val (.int kp), .val (.long q7), .second, .val (.long q8), .second, .val (.int mm1), .val (.long ww2), .second, .unset, .unset] [(.ref a3), (.ref a2)]))
  refine own_go (fun _ k => XS.iload X2.here hx rfl (hb hby d3_22) rfl k) ?_
  show own_Fin p.tables e below _ (T2.setTop (mkF m 24 #[.val (.ref a1), .val (.ref a2), .val (.ref a3), .val (.int p4), .val (.int p5), .val (.int kp), .val (.long q7), .second, .val (.long q8), .second, .val (.int mm1), .val (.long ww2), .second, .unset, .unset] [(.int mm1), (.ref a3), (.ref a2)]))
  refine own_go (fun _ k => XS.lload X2.here hx rfl (hb hby d3_24) rfl k) ?_
  show own_Fin p.tables e below _ (T2.setTop (mkF m 26 #[.val (.ref a1), .val (.ref a2), .val (.ref a3), .val (.int p4), .val (.int p5), .val (.int kp), .val (.long q7), .second, .val (.long q8), .second, .val (.int mm1), .val (.long ww2), .second, .unset, .unset] [(.long ww2), (.int mm1), (.ref a3), (.ref a2)]))
  refine own_go (fun _ k => XS.lload X2.here hx rfl (hb hby d3_26) rfl k) ?_
  show own_Fin p.tables e below _ (T2.setTop (mkF m 28 #[.val (.ref a1), .val (.ref a2), .val (.ref a3), .val (.int p4), .val (.int p5), .val (.int kp), .val (.long q7), .second, .val (.long q8), .second, .val (.int mm1), .val (.long ww2), .second, .unset, .unset] [(.long q8), (.long ww2), (.int mm1), (.ref a3), (.ref a2)]))
  obtain ⟨_, _, ⟨T3, L3, k3, n3⟩, -, X3, ⟨Lc3, hQ3, l3, y3, z3⟩, st3⟩ := Jvm.LawKit.callS X2 hx (y := (⟨"com/example/ferrybell/ferrybell/runtime/RestartsTryRestartPinLaw", "expected", "([J[IIJJ)Z"⟩ : MethodName)) hown (mvT hZ (hw _ (List.mem_of_getElem? (i := 25) rfl))) (mvT hZ (hw _ (List.mem_of_getElem? (i := 26) rfl))) (mvT hZ (hw _ (List.mem_of_getElem? (i := 17) rfl))) (mvT hZ (hw _ (List.mem_of_getElem? (i := 27) rfl))) (by decide) (backOf (W := 0) (own_expected l Z a0 hw [] a2 a3 mm1 ww2 q8 kh kn ts h0 n0 Z0 Vh Vn n23 g2 g3 (Nat.le_trans hl hnb)) hZ (hw _ (List.mem_of_getElem? (i := 27) rfl)) (hw _ (List.mem_of_getElem? (i := 17) rfl)) (by decide) (by decide)) (g := (mkF m 28 #[.val (.ref a1), .val (.ref a2), .val (.ref a3), .val (.int p4), .val (.int p5), .val (.int kp), .val (.long q7), .second, .val (.long q8), .second, .val (.int mm1), .val (.long ww2), .second, .unset, .unset] [(.long q8), (.long ww2), (.int mm1), (.ref a3), (.ref a2)])) rfl (by rw [hml]; rfl) (argsL := [(.ref a2), (.ref a3), (.int mm1), (.long ww2), (.long q8)]) (rest := []) (lenOf own_pd7 rfl) rfl (by show 2 * 0 + _ ≤ _; exact Nat.le_of_eq rfl) (hb hby d3_28) (fun _ _ => ⟨rfl, eh2, (by decide : 0 + 0 ≤ _), (by decide : 0 + 0 ≤ _)⟩)
  dsimp only [Pt.U, Pt.locs, Pt.cells, Pt.slots] at X3 l3 y3 z3 st3 hQ3
  subst l3 y3 z3
  obtain ⟨bb3, tq3, hv3, N3q, o3_0, o3_1, o3_2, o3_3⟩ := hQ3
  subst hv3
  have N3 := Fr.app N2 N3q
  refine own_go st3 ?_
  have f4_0 : Exa Z T3.heap a1 "com/example/ferrybell/ferrybell/runtime/Restarts" := Ex.keep o3_0
  have f4_1 : Fld Z T3.heap a1 "com/example/ferrybell/ferrybell/runtime/Restarts" "iTimes" "[J" (.ref ta) := Ft.keep o3_0 (ninS n12 (ninS n13 nin0))
  have f4_2 : Fld Z T3.heap a1 "com/example/ferrybell/ferrybell/runtime/Restarts" "iKept" "I" (.int kp) := Fk.keep o3_0 (ninS n12 (ninS n13 nin0))
  have f4_3 : Fld Z T3.heap a1 "com/example/ferrybell/ferrybell/runtime/Restarts" "iCount" "J" (.long (own_cn ts)) := Fc.keep o3_0 (ninS n12 (ninS n13 nin0))
  have f4_4 : Fld Z T3.heap a1 "com/example/ferrybell/ferrybell/runtime/Restarts" "iOldest" "I" (.int (own_od kp ts)) := Fo.keep o3_0 (ninS n12 (ninS n13 nin0))
  have f4_5 : Fld Z T3.heap a1 "com/example/ferrybell/ferrybell/runtime/Restarts" "iSize" "I" (.int (own_sz kp ts)) := Fs.keep o3_0 (ninS n12 (ninS n13 nin0))
  have f4_6 : Arv Z T3.heap ta ka .long (own_ln kp ts) (own_vs kp ts) (.long (0 : Int64)) := Vt.keep o3_0 (ninS (Ne.symm n2t) (ninS (Ne.symm n3t) nin0))
  have f4_9 : Old Z n0 T3.heap := O0.keep o3_0 (allS g2 (allS g3 all0))
  have K5 : Keep h0 T3.heap [a1, a2, a3, ta] := Keep.trans (Keep.refl h0 [a1, a2, a3, ta]) o3_0 (allS (Or.inl (List.mem_of_getElem? (i := 1) rfl)) (allS (Or.inl (List.mem_of_getElem? (i := 2) rfl)) all0))
  have Z6 : n0 ≤ T3.heap.size := Nat.le_trans Z0 o3_0.1
  show own_Fin p.tables e below _ (T3.setTop (mkF m 31 #[.val (.ref a1), .val (.ref a2), .val (.ref a3), .val (.int p4), .val (.int p5), .val (.int kp), .val (.long q7), .second, .val (.long q8), .second, .val (.int mm1), .val (.long ww2), .second, .unset, .unset] [(.int bb3)]))
  refine own_go (fun _ k => XS.istore X3.here hx rfl (hb hby d3_31) rfl (l' := #[.val (.ref a1), .val (.ref a2), .val (.ref a3), .val (.int p4), .val (.int p5), .val (.int kp), .val (.long q7), .second, .val (.long q8), .second, .val (.int mm1), .val (.long ww2), .second, .val (.int bb3), .unset]) rfl k) ?_
  show own_Fin p.tables e below _ (T3.setTop (mkF m 33 #[.val (.ref a1), .val (.ref a2), .val (.ref a3), .val (.int p4), .val (.int p5), .val (.int kp), .val (.long q7), .second, .val (.long q8), .second, .val (.int mm1), .val (.long ww2), .second, .val (.int bb3), .unset] []))
  refine own_go (fun _ k => XS.aloadN X3.here hx rfl (hb hby d3_33) rfl rfl k) ?_
  show own_Fin p.tables e below _ (T3.setTop (mkF m 34 #[.val (.ref a1), .val (.ref a2), .val (.ref a3), .val (.int p4), .val (.int p5), .val (.int kp), .val (.long q7), .second, .val (.long q8), .second, .val (.int mm1), .val (.long ww2), .second, .val (.int bb3), .unset] [(.ref a1)]))
  refine own_go (fun _ k => XS.iload X3.here hx rfl (hb hby d3_34) rfl k) ?_
  show own_Fin p.tables e below _ (T3.setTop (mkF m 36 #[.val (.ref a1), .val (.ref a2), .val (.ref a3), .val (.int p4), .val (.int p5), .val (.int kp), .val (.long q7), .second, .val (.long q8), .second, .val (.int mm1), .val (.long ww2), .second, .val (.int bb3), .unset] [(.int mm1), (.ref a1)]))
  refine own_go (fun _ k => XS.lload X3.here hx rfl (hb hby d3_36) rfl k) ?_
  show own_Fin p.tables e below _ (T3.setTop (mkF m 38 #[.val (.ref a1), .val (.ref a2), .val (.ref a3), .val (.int p4), .val (.int p5), .val (.int kp), .val (.long q7), .second, .val (.long q8), .second, .val (.int mm1), .val (.long ww2), .second, .val (.int bb3), .unset] [(.long ww2), (.int mm1), (.ref a1)]))
  refine own_go (fun _ k => XS.lload X3.here hx rfl (hb hby d3_38) rfl k) ?_
  show own_Fin p.tables e below _ (T3.setTop (mkF m 40 #[.val (.ref a1), .val (.ref a2), .val (.ref a3), .val (.int p4), .val (.int p5), .val (.int kp), .val (.long q7), .second, .val (.long q8), .second, .val (.int mm1), .val (.long ww2), .second, .val (.int bb3), .unset] [(.long q8), (.long ww2), (.int mm1), (.ref a1)]))
  obtain ⟨cq7, kq7, q7a, q7b, q7c⟩ := isOf hZ rfl f4_0
  obtain ⟨_, _, ⟨T7, L7, k7, n7⟩, -, X7, ⟨Lc7, hQ7, l7, y7, z7⟩, st7⟩ := X3.virtualBack hx (y := (⟨"com/example/ferrybell/ferrybell/runtime/Restarts", "tryRestart", "(IJJ)Z"⟩ : MethodName)) (z := (⟨"com/example/ferrybell/ferrybell/runtime/Restarts", "tryRestart", "(IJJ)Z"⟩ : MethodName)) hown (mvT hZ (hw _ (List.mem_of_getElem? (i := 28) rfl))) (mvT hZ (hw _ (List.mem_of_getElem? (i := 29) rfl))) (notFace_of_selects (args := #[]) (mvT hZ (hw _ (List.mem_of_getElem? (i := 31) rfl)))) (mvT hZ (hw _ (List.mem_of_getElem? (i := 31) rfl))) (mvT hZ (hw _ (List.mem_of_getElem? (i := 30) rfl))) (by decide) (backOf (W := 0) (own_try l Z a0 hw [] a1 mm1 ww2 q8 ta ka kp ts tu T3.heap n0 Z6 f4_0 f4_1 f4_2 f4_3 f4_4 f4_5 f4_6 f4_9 St Et F1 F2 n1t g1 gt hk (Nat.le_trans hl hnb) (by first | assumption | decide | omega) (by first | assumption | decide | omega)) hZ (hw _ (List.mem_of_getElem? (i := 32) rfl)) (hw _ (List.mem_of_getElem? (i := 4) rfl)) (by decide) (by decide)) q7a q7c (g := (mkF m 40 #[.val (.ref a1), .val (.ref a2), .val (.ref a3), .val (.int p4), .val (.int p5), .val (.int kp), .val (.long q7), .second, .val (.long q8), .second, .val (.int mm1), .val (.long ww2), .second, .val (.int bb3), .unset] [(.long q8), (.long ww2), (.int mm1), (.ref a1)])) rfl (by rw [hml]; rfl) (Steps.refl _) (argsL := [(.int mm1), (.long ww2), (.long q8)]) (rest := []) (lenOf own_pd8 rfl) rfl (by show 2 * 0 + _ ≤ _; exact Nat.le_of_eq rfl) (hb hby d3_40) (fun _ _ => ⟨rfl, rfl, (by decide : 0 + 1 ≤ _), (by decide : 0 + 3 ≤ _)⟩)
  dsimp only [Pt.U, Pt.locs, Pt.cells, Pt.slots] at X7 l7 y7 z7 st7 hQ7
  subst l7 y7 z7
  obtain ⟨bb7, tq7, tb7, kb7, hv7, N7q, o7_0, o7_1, o7_2, o7_3, o7_4, o7_5, o7_6, o7_7, o7_8, o7_9, o7_10, o7_11⟩ := hQ7
  obtain rfl := hv7.trans (by rw [(own_same o3_1 o7_1).1] : (some (.int bb7) : Option Value) = some (.int bb3))
  have N7 := Fr.app N3 N7q
  refine own_go (fun _ k => st7.trans k) ?_
  have f8_7 : Old Z n0 T7.heap := f4_9.keep o7_0 (allS g1 (allS gt all0))
  have f8_12 : Arv Z T7.heap a2 kh .long (5 : Int32) (own_hist tq3) (.long (0 : Int64)) := o3_2.keep o7_0 (ninS (Ne.symm n12) (ninS n2t nin0))
  have f8_13 : Arv Z T7.heap a3 kn .int (1 : Int32) [(.int (own_c32 tq3))] (.int (0 : Int32)) := o3_3.keep o7_0 (ninS (Ne.symm n13) (ninS n3t nin0))
  have K9 : Keep h0 T7.heap [a1, a2, a3, ta] := Keep.trans K5 o7_0 (allS (Or.inl (List.mem_of_getElem? (i := 0) rfl)) (allS (Or.inl (List.mem_of_getElem? (i := 3) rfl)) all0))
  have Z10 : n0 ≤ T7.heap.size := Nat.le_trans Z6 o7_0.1
  have nt7_a2 : a2 ≠ tb7 := own_nee o7_11 n2t o3_2.lt
  have nt7_a3 : a3 ≠ tb7 := own_nee o7_11 n3t o3_3.lt
  show own_Fin p.tables e below _ (T7.setTop (mkF m 43 #[.val (.ref a1), .val (.ref a2), .val (.ref a3), .val (.int p4), .val (.int p5), .val (.int kp), .val (.long q7), .second, .val (.long q8), .second, .val (.int mm1), .val (.long ww2), .second, .val (.int bb3), .unset] [(.int bb3)]))
  refine own_go (fun _ k => XS.istore X7.here hx rfl (hb hby d3_43) rfl (l' := #[.val (.ref a1), .val (.ref a2), .val (.ref a3), .val (.int p4), .val (.int p5), .val (.int kp), .val (.long q7), .second, .val (.long q8), .second, .val (.int mm1), .val (.long ww2), .second, .val (.int bb3), .val (.int bb3)]) rfl k) ?_
  show own_Fin p.tables e below _ (T7.setTop (mkF m 45 #[.val (.ref a1), .val (.ref a2), .val (.ref a3), .val (.int p4), .val (.int p5), .val (.int kp), .val (.long q7), .second, .val (.long q8), .second, .val (.int mm1), .val (.long ww2), .second, .val (.int bb3), .val (.int bb3)] []))
  refine own_go (fun _ k => XS.iload X7.here hx rfl (hb hby d3_45) rfl k) ?_
  show own_Fin p.tables e below _ (T7.setTop (mkF m 47 #[.val (.ref a1), .val (.ref a2), .val (.ref a3), .val (.int p4), .val (.int p5), .val (.int kp), .val (.long q7), .second, .val (.long q8), .second, .val (.int mm1), .val (.long ww2), .second, .val (.int bb3), .val (.int bb3)] [(.int bb3)]))
  refine own_go (fun _ k => XS.iload X7.here hx rfl (hb hby d3_47) rfl k) ?_
  show own_Fin p.tables e below _ (T7.setTop (mkF m 49 #[.val (.ref a1), .val (.ref a2), .val (.ref a3), .val (.int p4), .val (.int p5), .val (.int kp), .val (.long q7), .second, .val (.long q8), .second, .val (.int mm1), .val (.long ww2), .second, .val (.int bb3), .val (.int bb3)] [(.int bb3), (.int bb3)]))
  refine own_go (fun _ k => XS.icmpNo X7.here hx rfl (hb hby d3_49) rfl (teq rfl).2 k) ?_
  show own_Fin p.tables e below _ (T7.setTop (mkF m 52 #[.val (.ref a1), .val (.ref a2), .val (.ref a3), .val (.int p4), .val (.int p5), .val (.int kp), .val (.long q7), .second, .val (.long q8), .second, .val (.int mm1), .val (.long ww2), .second, .val (.int bb3), .val (.int bb3)] []))
  refine own_go (fun _ k => XS.iconst X7.here hx rfl (hb hby d3_52) k) ?_
  show own_Fin p.tables e below _ (T7.setTop (mkF m 53 #[.val (.ref a1), .val (.ref a2), .val (.ref a3), .val (.int p4), .val (.int p5), .val (.int kp), .val (.long q7), .second, .val (.long q8), .second, .val (.int mm1), .val (.long ww2), .second, .val (.int bb3), .val (.int bb3)] [(.int (1 : Int32))]))
  refine own_go (fun _ k => XS.goto X7.here hx rfl (pc0 := 53) (pc' := 57) rfl (hb hby d3_53) (by decide) (by decide) k) ?_
  show own_Fin p.tables e below _ (T7.setTop (mkF m 57 #[.val (.ref a1), .val (.ref a2), .val (.ref a3), .val (.int p4), .val (.int p5), .val (.int kp), .val (.long q7), .second, .val (.long q8), .second, .val (.int mm1), .val (.long ww2), .second, .val (.int bb3), .val (.int bb3)] [(.int (1 : Int32))]))
  obtain ⟨fs, hr, hrun, hended, hW, hsame⟩ := X7.leave (v := some (.int (1 : Int32))) (fun h => by rw [Bd.returns] at h; cases h)
  refine ⟨_, _, ?_, hrun, hended, _, _, rfl, ?_, ⟨_, rfl⟩, hW, hsame.mono (by decide) (by decide)⟩
  · exact retN X7 hx (t := .boolean) Bd.returns (by simp) (hb hby d3_57) hr
  · show Q_own_step Z a1 a2 a3 p4 p5 kp q7 q8 ta ka kh kn ts tu nb h0 n0 _ T7.heap _
    exact ⟨tq7, tb7, kb7, rfl, N7, K9, o7_2, o7_3, o7_4, o7_5, o7_6, o7_7, o7_8, (by rw [(own_same o3_1 o7_1).2]; exact f8_12), (by rw [(own_same o3_1 o7_1).2]; exact f8_13), o7_9, o7_10, nt7_a2, nt7_a3, (own_res_len o7_1 hl)⟩
def Q_own_init (Z : State) (a1 : Addr) (p2 : Int32) (h0 : Heap) (n0 : Nat) (v : Option Value) (h : Heap) (L : List Loc) : Prop := ∃ (bq : Addr) (kq : ClassId), v = none ∧ Fr n0 L ∧ Keep h0 h [a1] ∧ h0.size ≤ bq ∧ n0 ≤ bq ∧ a1 ≠ bq ∧ Exa Z h a1 "com/example/ferrybell/ferrybell/runtime/Restarts" ∧ Fld Z h a1 "com/example/ferrybell/ferrybell/runtime/Restarts" "iTimes" "[J" (.ref bq) ∧ Fld Z h a1 "com/example/ferrybell/ferrybell/runtime/Restarts" "iKept" "I" (.int p2) ∧ Fld Z h a1 "com/example/ferrybell/ferrybell/runtime/Restarts" "iCount" "J" (.long (0 : Int64)) ∧ Fld Z h a1 "com/example/ferrybell/ferrybell/runtime/Restarts" "iOldest" "I" (.int (0 : Int32)) ∧ Fld Z h a1 "com/example/ferrybell/ferrybell/runtime/Restarts" "iSize" "I" (.int (0 : Int32)) ∧ Arv Z h bq kq .long (0 : Int32) [] (.long (0 : Int64))
theorem ef_own_init (m : MethodId) (x0 : Addr) (x1 : Int32) : entryFrame m #[(.ref x0), (.int x1)] 2 = mkF m 0 #[.val (.ref x0), .val (.int x1)] [] := by first | (simp [entryFrame, mkF, argsToLocals, Value.category]; done) | rfl
set_option maxRecDepth 65536 in
set_option maxHeartbeats 40000000 in
theorem own_init (l : Launch) (Z : State) (a0 : Array Value) (hw : ∀ d ∈ tables_1, d.before a0 Z = true) (ws : List Jvm.Cond) (a1 : Addr) (p2 : Int32) (h0 : Heap) (n0 : Nat) (Z0 : n0 ≤ h0.size) (Ex : Exa Z h0 a1 "com/example/ferrybell/ferrybell/runtime/Restarts") (FiTimes : Fld Z h0 a1 "com/example/ferrybell/ferrybell/runtime/Restarts" "iTimes" "[J" .null) (FiKept : Fld Z h0 a1 "com/example/ferrybell/ferrybell/runtime/Restarts" "iKept" "I" (.int (0 : Int32))) (FiCount : Fld Z h0 a1 "com/example/ferrybell/ferrybell/runtime/Restarts" "iCount" "J" (.long (0 : Int64))) (FiOldest : Fld Z h0 a1 "com/example/ferrybell/ferrybell/runtime/Restarts" "iOldest" "I" (.int (0 : Int32))) (FiSize : Fld Z h0 a1 "com/example/ferrybell/ferrybell/runtime/Restarts" "iSize" "I" (.int (0 : Int32))) (g1 : n0 ≤ a1) :
    MetFree l (⟨"com/example/ferrybell/ferrybell/runtime/Restarts", "<init>", "(I)V"⟩ : MethodName) (head1 (Jvm.Cond.code (⟨"com/example/ferrybell/ferrybell/runtime/Restarts", "<init>", "(I)V"⟩ : MethodName) prog_41_method_1_code 2 none :: ws) ({ frames := 1, cells := 1, slots := 0, locals := 12 } : Room)) (fun a U => a = #[(.ref a1), (.int p2)] ∧ Z.Warmed39 U.vm ∧ U.heap = h0) (fun _ _ _ _ _ => True) (fun _ U o U' => ∃ v L, o = .returned v ∧ Q_own_init Z a1 p2 h0 n0 v U'.heap L ∧ FrameEnd U o U' L ({ frames := 1, cells := 1, slots := 0, locals := 12 } : Room).cells ({ frames := 1, cells := 1, slots := 0, locals := 12 } : Room).slots) := by
  refine MetFree.of_bodySF (plainFor_of_name own_pn3) hisR ?_
  intro p e s m args below meth c s₁ Bd hml0 hP hK
  obtain ⟨rfl, hZ, hh⟩ := hP
  have hx := Bd.exec
  have hby := Bd.bytes
  have hml : c.maxLocals = 2 := hml0
  have hown : s.vm.findClass "com/example/ferrybell/ferrybell/runtime/Restarts" = some m.cls := findClass_of_methodNamed Bd.named
  have hnm := (name_of_methodNamed Bd.named Bd.method).1
  have X0 : Stand p l e ({ frames := 1, cells := 1, slots := 0, locals := 12 } : Room) s m #[(.ref a1), (.int p2)] below meth c s₁ [] 0 0 := Stand.of_body Bd
  have e0 : s₁.heap = h0 := by rw [← hh, Bd.state]; rfl
  have N0 := Fr.nil n0
  show own_Fin p.tables e below _ (s₁.setTop (entryFrame m #[(.ref a1), (.int p2)] 2))
  refine own_go (fun _ k => castTop (ef_own_init m a1 p2) k) ?_
  show own_Fin p.tables e below _ (s₁.setTop (mkF m 0 #[.val (.ref a1), .val (.int p2)] []))
  refine own_go (fun _ k => XS.aloadN X0.here hx rfl (hb hby d1_0) rfl rfl k) ?_
  show own_Fin p.tables e below _ (s₁.setTop (mkF m 1 #[.val (.ref a1), .val (.int p2)] [(.ref a1)]))
  obtain ⟨T1, X1, e1, st1⟩ := initO X0 hx hZ hown (hw _ (List.mem_of_getElem? (i := 8) rfl)) (hw _ (List.mem_of_getElem? (i := 9) rfl)) (hw _ (List.mem_of_getElem? (i := 10) rfl)) e0 (g := (mkF m 1 #[.val (.ref a1), .val (.int p2)] [(.ref a1)])) rfl (by rw [hml]; rfl) rfl (hb hby d1_1) (by decide) (W := 0) (by show 2 * 0 + _ ≤ _; exact Nat.le_of_eq rfl) (by decide)
  refine own_go st1 ?_
  show own_Fin p.tables e below _ (T1.setTop (mkF m 4 #[.val (.ref a1), .val (.int p2)] []))
  refine own_go (fun _ k => XS.aloadN X1.here hx rfl (hb hby d1_4) rfl rfl k) ?_
  show own_Fin p.tables e below _ (T1.setTop (mkF m 5 #[.val (.ref a1), .val (.int p2)] [(.ref a1)]))
  refine own_go (fun _ k => XS.iconst X1.here hx rfl (hb hby d1_5) k) ?_
  show own_Fin p.tables e below _ (T1.setTop (mkF m 6 #[.val (.ref a1), .val (.int p2)] [(.int (0 : Int32)), (.ref a1)]))
  obtain ⟨T2, h2, k2, X2, e2, E2, A2, st2⟩ := newP X1 hx hZ (hw _ (List.mem_of_getElem? (i := 0) rfl)) e1 (g := (mkF m 6 #[.val (.ref a1), .val (.int p2)] [(.int (0 : Int32)), (.ref a1)])) rfl (hb hby d1_6) rfl (by decide) (cap := 0) (by decide) (by decide) (by decide) (by decide)
  obtain ⟨b2, g2⟩ : ∃ z, z = h0.size := ⟨_, rfl⟩
  rw [← g2] at A2 st2
  have ne_a1_b2 : a1 ≠ b2 := Nat.ne_of_lt (Nat.lt_of_lt_of_le Ex.lt (Nat.le_of_eq g2.symm))
  have g_b2 : n0 ≤ b2 := Nat.le_trans Z0 (Nat.le_of_eq g2.symm)
  have sz_b2 : h0.size ≤ b2 := Nat.le_trans (Keep.refl h0 [a1]).1 (Nat.le_of_eq g2.symm)
  refine own_go st2 ?_
  have K3 := (Keep.refl h0 [a1])
  have f4_0 : Exa Z h2 a1 "com/example/ferrybell/ferrybell/runtime/Restarts" := Ex.ext E2
  have f4_1 : Fld Z h2 a1 "com/example/ferrybell/ferrybell/runtime/Restarts" "iTimes" "[J" .null := FiTimes.ext E2
  have f4_2 : Fld Z h2 a1 "com/example/ferrybell/ferrybell/runtime/Restarts" "iKept" "I" (.int (0 : Int32)) := FiKept.ext E2
  have f4_3 : Fld Z h2 a1 "com/example/ferrybell/ferrybell/runtime/Restarts" "iCount" "J" (.long (0 : Int64)) := FiCount.ext E2
  have f4_4 : Fld Z h2 a1 "com/example/ferrybell/ferrybell/runtime/Restarts" "iOldest" "I" (.int (0 : Int32)) := FiOldest.ext E2
  have f4_5 : Fld Z h2 a1 "com/example/ferrybell/ferrybell/runtime/Restarts" "iSize" "I" (.int (0 : Int32)) := FiSize.ext E2
  have K5 := K3.ext E2
  have Z6 : n0 ≤ h2.size := Nat.le_trans Z0 E2.1
  have V2 : Arv Z h2 b2 k2 .long (0 : Int32) [] (.long (0 : Int64)) := (Arv.new A2 (by decide)).pad (pad_rep [] (.long (0 : Int64)) 0)
  show own_Fin p.tables e below _ (T2.setTop (mkF m 8 #[.val (.ref a1), .val (.int p2)] [(.ref b2), (.ref a1)]))
  obtain ⟨T7, h7, X7, e7, W7, st7⟩ := putF X2 hx hZ hown (host := "") (Or.inl (hw _ (List.mem_of_getElem? (i := 11) rfl))) Via.refl e2 f4_1 f4_0 (Or.inl (hw _ (List.mem_of_getElem? (i := 12) rfl))) (hw _ (List.mem_of_getElem? (i := 3) rfl)) (ty := (.array .long)) (by decide) rfl rfl (g := (mkF m 8 #[.val (.ref a1), .val (.int p2)] [(.ref b2), (.ref a1)])) rfl rfl (hb hby d1_8)
  refine own_go st7 ?_
  have f8_0 : Exa Z h7 a1 "com/example/ferrybell/ferrybell/runtime/Restarts" := f4_0.wr W7
  have f8_2 : Fld Z h7 a1 "com/example/ferrybell/ferrybell/runtime/Restarts" "iKept" "I" (.int (0 : Int32)) := f4_2.other W7 (Or.inr (slot_ne (Or.inr (hw _ (List.mem_of_getElem? (i := 14) rfl))) (Or.inl (hw _ (List.mem_of_getElem? (i := 12) rfl))) (by decide) (t := .int) (t' := (.array .long)) (by decide) (by decide)))
  have f8_3 : Fld Z h7 a1 "com/example/ferrybell/ferrybell/runtime/Restarts" "iCount" "J" (.long (0 : Int64)) := f4_3.other W7 (Or.inr (slot_ne (Or.inl (hw _ (List.mem_of_getElem? (i := 34) rfl))) (Or.inl (hw _ (List.mem_of_getElem? (i := 12) rfl))) (by decide) (t := .long) (t' := (.array .long)) (by decide) (by decide)))
  have f8_4 : Fld Z h7 a1 "com/example/ferrybell/ferrybell/runtime/Restarts" "iOldest" "I" (.int (0 : Int32)) := f4_4.other W7 (Or.inr (slot_ne (Or.inl (hw _ (List.mem_of_getElem? (i := 63) rfl))) (Or.inl (hw _ (List.mem_of_getElem? (i := 12) rfl))) (by decide) (t := .int) (t' := (.array .long)) (by decide) (by decide)))
  have f8_5 : Fld Z h7 a1 "com/example/ferrybell/ferrybell/runtime/Restarts" "iSize" "I" (.int (0 : Int32)) := f4_5.other W7 (Or.inr (slot_ne (Or.inl (hw _ (List.mem_of_getElem? (i := 41) rfl))) (Or.inl (hw _ (List.mem_of_getElem? (i := 12) rfl))) (by decide) (t := .int) (t' := (.array .long)) (by decide) (by decide)))
  have f8_6 : Arv Z h7 b2 k2 .long (0 : Int32) [] (.long (0 : Int64)) := V2.other W7 (Ne.symm ne_a1_b2)
  have F7 : Fld Z h7 a1 "com/example/ferrybell/ferrybell/runtime/Restarts" "iTimes" "[J" (.ref b2) := f4_1.same W7
  have N7 := Fr.snoc X7 N0 g1
  have K9 : Keep h0 h7 [a1] := Keep.wr K5 W7 (Or.inl (List.mem_of_getElem? (i := 0) rfl))
  have Z10 : n0 ≤ h7.size := Nat.le_trans Z6 (Keep.of_wr W7).1
  show own_Fin p.tables e below _ (T7.setTop (mkF m 11 #[.val (.ref a1), .val (.int p2)] []))
  refine own_go (fun _ k => XS.aloadN X7.here hx rfl (hb hby d1_11) rfl rfl k) ?_
  show own_Fin p.tables e below _ (T7.setTop (mkF m 12 #[.val (.ref a1), .val (.int p2)] [(.ref a1)]))
  refine own_go (fun _ k => XS.iloadN X7.here hx rfl (hb hby d1_12) rfl k) ?_
  show own_Fin p.tables e below _ (T7.setTop (mkF m 13 #[.val (.ref a1), .val (.int p2)] [(.int p2), (.ref a1)]))
  obtain ⟨T11, h11, X11, e11, W11, st11⟩ := putF X7 hx hZ hown (host := "") (Or.inl (hw _ (List.mem_of_getElem? (i := 13) rfl))) Via.refl e7 f8_2 f8_0 (Or.inr ⟨(hw _ (List.mem_of_getElem? (i := 14) rfl)), rfl, hnm⟩) (hw _ (List.mem_of_getElem? (i := 3) rfl)) (ty := .int) (by decide) rfl rfl (g := (mkF m 13 #[.val (.ref a1), .val (.int p2)] [(.int p2), (.ref a1)])) rfl rfl (hb hby d1_13)
  refine own_go st11 ?_
  have f12_0 : Exa Z h11 a1 "com/example/ferrybell/ferrybell/runtime/Restarts" := f8_0.wr W11
  have f12_2 : Fld Z h11 a1 "com/example/ferrybell/ferrybell/runtime/Restarts" "iCount" "J" (.long (0 : Int64)) := f8_3.other W11 (Or.inr (slot_ne (Or.inl (hw _ (List.mem_of_getElem? (i := 34) rfl))) (Or.inr (hw _ (List.mem_of_getElem? (i := 14) rfl))) (by decide) (t := .long) (t' := .int) (by decide) (by decide)))
  have f12_3 : Fld Z h11 a1 "com/example/ferrybell/ferrybell/runtime/Restarts" "iOldest" "I" (.int (0 : Int32)) := f8_4.other W11 (Or.inr (slot_ne (Or.inl (hw _ (List.mem_of_getElem? (i := 63) rfl))) (Or.inr (hw _ (List.mem_of_getElem? (i := 14) rfl))) (by decide) (t := .int) (t' := .int) (by decide) (by decide)))
  have f12_4 : Fld Z h11 a1 "com/example/ferrybell/ferrybell/runtime/Restarts" "iSize" "I" (.int (0 : Int32)) := f8_5.other W11 (Or.inr (slot_ne (Or.inl (hw _ (List.mem_of_getElem? (i := 41) rfl))) (Or.inr (hw _ (List.mem_of_getElem? (i := 14) rfl))) (by decide) (t := .int) (t' := .int) (by decide) (by decide)))
  have f12_5 : Arv Z h11 b2 k2 .long (0 : Int32) [] (.long (0 : Int64)) := f8_6.other W11 (Ne.symm ne_a1_b2)
  have f12_6 : Fld Z h11 a1 "com/example/ferrybell/ferrybell/runtime/Restarts" "iTimes" "[J" (.ref b2) := F7.other W11 (Or.inr (slot_ne (Or.inl (hw _ (List.mem_of_getElem? (i := 12) rfl))) (Or.inr (hw _ (List.mem_of_getElem? (i := 14) rfl))) (by decide) (t := (.array .long)) (t' := .int) (by decide) (by decide)))
  have F11 : Fld Z h11 a1 "com/example/ferrybell/ferrybell/runtime/Restarts" "iKept" "I" (.int p2) := f8_2.same W11
  have N11 := Fr.snoc X11 N7 g1
  have K13 : Keep h0 h11 [a1] := Keep.wr K9 W11 (Or.inl (List.mem_of_getElem? (i := 0) rfl))
  have Z14 : n0 ≤ h11.size := Nat.le_trans Z10 (Keep.of_wr W11).1
  show own_Fin p.tables e below _ (T11.setTop (mkF m 16 #[.val (.ref a1), .val (.int p2)] []))
  obtain ⟨fs, hr, hrun, hended, hW, hsame⟩ := X11.leave (v := none) (fun _ => rfl)
  refine ⟨_, _, ?_, hrun, hended, _, _, rfl, ?_, ⟨_, rfl⟩, hW, hsame.mono (by decide) (by decide)⟩
  · exact X11.returnOut hx Bd.returns (hb hby d1_16) hr
  · show Q_own_init Z a1 p2 h0 n0 _ T11.heap _
    rw [e11]
    exact ⟨b2, k2, rfl, N11, K13, sz_b2, g_b2, ne_a1_b2, f12_0, f12_6, F11, f12_2, f12_3, f12_4, f12_5⟩
theorem own_kk (p : Int32) : own_k4 (p &&& (3 : Int32)) := by
  have h := c_and p (3 : Int32) (by decide)
  have e : (3 : Int32).toInt = 3 := rfl
  show _ = _ ∨ _ = _ ∨ _ = _ ∨ _ = _
  simp only [← Int32.toInt_inj]
  have e0 : (0 : Int32).toInt = 0 := rfl
  have e1 : (1 : Int32).toInt = 1 := rfl
  have e2 : (2 : Int32).toInt = 2 := rfl
  omega
theorem own_wn (q : Int64) : 0 ≤ (((q ^^^ (-1 : Int64)).toUInt64 >>> ((20 : Int32) &&& 0x3f).toInt64.toUInt64).toInt64).toInt := by
  have h := c_lushr (q ^^^ (-1 : Int64)) (20 : Int32) 20 rfl (by decide)
  rw [h]
  have e : ((2 ^ 20 : Nat) : Int) = 1048576 := rfl
  rw [e]
  omega
theorem own_wp {q : Int64} (h : ¬ (q < (0 : Int64))) : 0 ≤ q.toInt := by
  rw [Int64.lt_iff_toInt_lt] at h
  have e0 : (0 : Int64).toInt = 0 := rfl
  omega
theorem own_z {k : Int32} (hk : own_k4 k) : own_od k [] = (0 : Int32) ∧ own_sz k [] = (0 : Int32) := by rcases hk with rfl | rfl | rfl | rfl <;> decide
def Q_own_law (Z : State) (p1 : Int32) (q2 : Int64) (q3 : Int64) (q4 : Int64) (q5 : Int64) (q6 : Int64) (tu : Addr) (h0 : Heap) (n0 : Nat) (v : Option Value) (h : Heap) (L : List Loc) : Prop := v = some (.int (1 : Int32)) ∧ Fr n0 L
theorem ef_own_law (m : MethodId) (x0 : Int32) (x1 : Int64) (x2 : Int64) (x3 : Int64) (x4 : Int64) (x5 : Int64) : entryFrame m #[(.int x0), (.long x1), (.long x2), (.long x3), (.long x4), (.long x5)] maxLocals = mkF m 0 #[.val (.int x0), .val (.long x1), .second, .val (.long x2), .second, .val (.long x3), .second, .val (.long x4), .second, .val (.long x5), .second, .unset, .unset, .unset, .unset, .unset, .unset, .unset, .unset, .unset, .unset, .unset] [] := by first | (simp [entryFrame, mkF, argsToLocals, Value.category, maxLocals]; done) | rfl
set_option maxRecDepth 65536 in
set_option maxHeartbeats 40000000 in
theorem own_law (l : Launch) (Z : State) (a0 : Array Value) (hw : ∀ d ∈ tables_1, d.before a0 Z = true) (ws : List Jvm.Cond) (p1 : Int32) (q2 : Int64) (q3 : Int64) (q4 : Int64) (q5 : Int64) (q6 : Int64) (tu : Addr) (h0 : Heap) (n0 : Nat) (Z0 : n0 ≤ h0.size) (O0 : Old Z n0 h0) (St : Sta Z Z.heap "java/util/concurrent/TimeUnit" "MILLISECONDS" "Ljava/util/concurrent/TimeUnit;" (.ref tu)) (Et : Exa Z Z.heap tu "java/util/concurrent/TimeUnit") (F1 : Fld Z Z.heap tu "java/util/concurrent/TimeUnit" "scale" "J" (.long (1000000 : Int64))) (F2 : Fld Z Z.heap tu "java/util/concurrent/TimeUnit" "maxNanos" "J" (.long (9223372036854 : Int64))) :
    MetFree l x (head1 (Jvm.Cond.code x code maxLocals ret :: ws) room_1) (fun a U => a = #[(.int p1), (.long q2), (.long q3), (.long q4), (.long q5), (.long q6)] ∧ Z.Warmed39 U.vm ∧ U.heap = h0) (fun _ _ _ _ _ => True) (fun _ U o U' => ∃ v L, o = .returned v ∧ Q_own_law Z p1 q2 q3 q4 q5 q6 tu h0 n0 v U'.heap L ∧ FrameEnd U o U' L room_1.cells room_1.slots) := by
  refine MetFree.of_bodySF (plainFor_of_name own_pn0) hisR ?_
  intro p e s m args below meth c s₁ Bd hml0 hP hK
  obtain ⟨rfl, hZ, hh⟩ := hP
  have hx := Bd.exec
  have hby := Bd.bytes
  have hml : c.maxLocals = 22 := hml0
  have hown : s.vm.findClass "com/example/ferrybell/ferrybell/runtime/RestartsTryRestartPinLaw" = some m.cls := findClass_of_methodNamed Bd.named
  have hnm := (name_of_methodNamed Bd.named Bd.method).1
  have X0 : Stand p l e room_1 s m #[(.int p1), (.long q2), (.long q3), (.long q4), (.long q5), (.long q6)] below meth c s₁ [] 0 0 := Stand.of_body Bd
  have e0 : s₁.heap = h0 := by rw [← hh, Bd.state]; rfl
  have N0 := Fr.nil n0
  show own_Fin p.tables e below _ (s₁.setTop (entryFrame m #[(.int p1), (.long q2), (.long q3), (.long q4), (.long q5), (.long q6)] maxLocals))
  refine own_go (fun _ k => castTop (ef_own_law m p1 q2 q3 q4 q5 q6) k) ?_
  show own_Fin p.tables e below _ (s₁.setTop (mkF m 0 #[.val (.int p1), .val (.long q2), .second, .val (.long q3), .second, .val (.long q4), .second, .val (.long q5), .second, .val (.long q6), .second, .unset, .unset, .unset, .unset, .unset, .unset, .unset, .unset, .unset, .unset, .unset] []))
  refine own_go (fun _ k => XS.iloadN X0.here hx rfl (hb hby at_0) rfl k) ?_
  show own_Fin p.tables e below _ (s₁.setTop (mkF m 1 #[.val (.int p1), .val (.long q2), .second, .val (.long q3), .second, .val (.long q4), .second, .val (.long q5), .second, .val (.long q6), .second, .unset, .unset, .unset, .unset, .unset, .unset, .unset, .unset, .unset, .unset, .unset] [(.int p1)]))
  refine own_go (fun _ k => XS.iconst X0.here hx rfl (hb hby at_1) k) ?_
  show own_Fin p.tables e below _ (s₁.setTop (mkF m 2 #[.val (.int p1), .val (.long q2), .second, .val (.long q3), .second, .val (.long q4), .second, .val (.long q5), .second, .val (.long q6), .second, .unset, .unset, .unset, .unset, .unset, .unset, .unset, .unset, .unset, .unset, .unset] [(.int (3 : Int32)), (.int p1)]))
  refine own_go (fun _ k => XS.iand X0.here hx rfl (hb hby at_2) rfl k) ?_
  show own_Fin p.tables e below _ (s₁.setTop (mkF m 3 #[.val (.int p1), .val (.long q2), .second, .val (.long q3), .second, .val (.long q4), .second, .val (.long q5), .second, .val (.long q6), .second, .unset, .unset, .unset, .unset, .unset, .unset, .unset, .unset, .unset, .unset, .unset] [(.int (p1 &&& (3 : Int32)))]))
  refine own_go (fun _ k => XS.istore X0.here hx rfl (hb hby at_3) rfl (l' := #[.val (.int p1), .val (.long q2), .second, .val (.long q3), .second, .val (.long q4), .second, .val (.long q5), .second, .val (.long q6), .second, .val (.int (p1 &&& (3 : Int32))), .unset, .unset, .unset, .unset, .unset, .unset, .unset, .unset, .unset, .unset]) rfl k) ?_
  show own_Fin p.tables e below _ (s₁.setTop (mkF m 5 #[.val (.int p1), .val (.long q2), .second, .val (.long q3), .second, .val (.long q4), .second, .val (.long q5), .second, .val (.long q6), .second, .val (.int (p1 &&& (3 : Int32))), .unset, .unset, .unset, .unset, .unset, .unset, .unset, .unset, .unset, .unset] []))
  refine own_go (fun _ k => XS.lloadN X0.here hx rfl (hb hby at_5) rfl k) ?_
  show own_Fin p.tables e below _ (s₁.setTop (mkF m 6 #[.val (.int p1), .val (.long q2), .second, .val (.long q3), .second, .val (.long q4), .second, .val (.long q5), .second, .val (.long q6), .second, .val (.int (p1 &&& (3 : Int32))), .unset, .unset, .unset, .unset, .unset, .unset, .unset, .unset, .unset, .unset] [(.long q2)]))
  refine own_go (fun _ k => XS.lconst X0.here hx rfl (hb hby at_6) k) ?_
  show own_Fin p.tables e below _ (s₁.setTop (mkF m 7 #[.val (.int p1), .val (.long q2), .second, .val (.long q3), .second, .val (.long q4), .second, .val (.long q5), .second, .val (.long q6), .second, .val (.int (p1 &&& (3 : Int32))), .unset, .unset, .unset, .unset, .unset, .unset, .unset, .unset, .unset, .unset] [(.long (0 : Int64)), (.long q2)]))
  refine own_go (fun _ k => XS.lcmp X0.here hx rfl (hb hby at_7) rfl k) ?_
  show own_Fin p.tables e below _ (s₁.setTop (mkF m 8 #[.val (.int p1), .val (.long q2), .second, .val (.long q3), .second, .val (.long q4), .second, .val (.long q5), .second, .val (.long q6), .second, .val (.int (p1 &&& (3 : Int32))), .unset, .unset, .unset, .unset, .unset, .unset, .unset, .unset, .unset, .unset] [(.int (lcmpW q2 (0 : Int64)))]))
  by_cases hc8 : q2 < (0 : Int64)
  · refine own_go (fun _ k => XS.ifYes X0.here hx rfl (pc0 := 8) (pc' := 15) rfl (hb hby at_8) rfl ((if0 _ _).trans (tlt ((lw_lt _ _).mpr hc8)).1) (by decide) (by decide) k) ?_
    show own_Fin p.tables e below _ (s₁.setTop (mkF m 15 #[.val (.int p1), .val (.long q2), .second, .val (.long q3), .second, .val (.long q4), .second, .val (.long q5), .second, .val (.long q6), .second, .val (.int (p1 &&& (3 : Int32))), .unset, .unset, .unset, .unset, .unset, .unset, .unset, .unset, .unset, .unset] []))
    refine own_go (fun _ k => XS.lloadN X0.here hx rfl (hb hby at_15) rfl k) ?_
    show own_Fin p.tables e below _ (s₁.setTop (mkF m 16 #[.val (.int p1), .val (.long q2), .second, .val (.long q3), .second, .val (.long q4), .second, .val (.long q5), .second, .val (.long q6), .second, .val (.int (p1 &&& (3 : Int32))), .unset, .unset, .unset, .unset, .unset, .unset, .unset, .unset, .unset, .unset] [(.long q2)]))
    refine own_go (X0.ldc2Long hx hown (mvT hZ (hw _ (List.mem_of_getElem? (i := 39) rfl))) (g := (mkF m 16 #[.val (.int p1), .val (.long q2), .second, .val (.long q3), .second, .val (.long q4), .second, .val (.long q5), .second, .val (.long q6), .second, .val (.int (p1 &&& (3 : Int32))), .unset, .unset, .unset, .unset, .unset, .unset, .unset, .unset, .unset, .unset] [(.long q2)])) rfl (hb hby at_16)) ?_
    show own_Fin p.tables e below _ (s₁.setTop (mkF m 19 #[.val (.int p1), .val (.long q2), .second, .val (.long q3), .second, .val (.long q4), .second, .val (.long q5), .second, .val (.long q6), .second, .val (.int (p1 &&& (3 : Int32))), .unset, .unset, .unset, .unset, .unset, .unset, .unset, .unset, .unset, .unset] [(.long (-1 : Int64)), (.long q2)]))
    refine own_go (fun _ k => XS.lxor X0.here hx rfl (hb hby at_19) rfl k) ?_
    show own_Fin p.tables e below _ (s₁.setTop (mkF m 20 #[.val (.int p1), .val (.long q2), .second, .val (.long q3), .second, .val (.long q4), .second, .val (.long q5), .second, .val (.long q6), .second, .val (.int (p1 &&& (3 : Int32))), .unset, .unset, .unset, .unset, .unset, .unset, .unset, .unset, .unset, .unset] [(.long (q2 ^^^ (-1 : Int64)))]))
    refine own_go (fun _ k => XS.bipush X0.here hx rfl (hb hby at_20) k) ?_
    show own_Fin p.tables e below _ (s₁.setTop (mkF m 22 #[.val (.int p1), .val (.long q2), .second, .val (.long q3), .second, .val (.long q4), .second, .val (.long q5), .second, .val (.long q6), .second, .val (.int (p1 &&& (3 : Int32))), .unset, .unset, .unset, .unset, .unset, .unset, .unset, .unset, .unset, .unset] [(.int (20 : Int32)), (.long (q2 ^^^ (-1 : Int64)))]))
    refine own_go (fun _ k => XS.lushr X0.here hx rfl (hb hby at_22) rfl k) ?_
    show own_Fin p.tables e below _ (s₁.setTop (mkF m 23 #[.val (.int p1), .val (.long q2), .second, .val (.long q3), .second, .val (.long q4), .second, .val (.long q5), .second, .val (.long q6), .second, .val (.int (p1 &&& (3 : Int32))), .unset, .unset, .unset, .unset, .unset, .unset, .unset, .unset, .unset, .unset] [(.long (((q2 ^^^ (-1 : Int64)).toUInt64 >>> ((20 : Int32) &&& 0x3f).toInt64.toUInt64).toInt64))]))
    refine own_go (fun _ k => XS.lstore X0.here hx rfl (hb hby at_23) rfl (l' := #[.val (.int p1), .val (.long q2), .second, .val (.long q3), .second, .val (.long q4), .second, .val (.long q5), .second, .val (.long q6), .second, .val (.int (p1 &&& (3 : Int32))), .val (.long (((q2 ^^^ (-1 : Int64)).toUInt64 >>> ((20 : Int32) &&& 0x3f).toInt64.toUInt64).toInt64)), .second, .unset, .unset, .unset, .unset, .unset, .unset, .unset, .unset]) rfl k) ?_
    show own_Fin p.tables e below _ (s₁.setTop (mkF m 25 #[.val (.int p1), .val (.long q2), .second, .val (.long q3), .second, .val (.long q4), .second, .val (.long q5), .second, .val (.long q6), .second, .val (.int (p1 &&& (3 : Int32))), .val (.long (((q2 ^^^ (-1 : Int64)).toUInt64 >>> ((20 : Int32) &&& 0x3f).toInt64.toUInt64).toInt64)), .second, .unset, .unset, .unset, .unset, .unset, .unset, .unset, .unset] []))
    refine own_go (fun _ k => XS.iconst X0.here hx rfl (hb hby at_25) k) ?_
    show own_Fin p.tables e below _ (s₁.setTop (mkF m 26 #[.val (.int p1), .val (.long q2), .second, .val (.long q3), .second, .val (.long q4), .second, .val (.long q5), .second, .val (.long q6), .second, .val (.int (p1 &&& (3 : Int32))), .val (.long (((q2 ^^^ (-1 : Int64)).toUInt64 >>> ((20 : Int32) &&& 0x3f).toInt64.toUInt64).toInt64)), .second, .unset, .unset, .unset, .unset, .unset, .unset, .unset, .unset] [(.int (5 : Int32))]))
    obtain ⟨T1, h1, k1, X1, e1, E1, A1, st1⟩ := newP X0 hx hZ (hw _ (List.mem_of_getElem? (i := 0) rfl)) e0 (g := (mkF m 26 #[.val (.int p1), .val (.long q2), .second, .val (.long q3), .second, .val (.long q4), .second, .val (.long q5), .second, .val (.long q6), .second, .val (.int (p1 &&& (3 : Int32))), .val (.long (((q2 ^^^ (-1 : Int64)).toUInt64 >>> ((20 : Int32) &&& 0x3f).toInt64.toUInt64).toInt64)), .second, .unset, .unset, .unset, .unset, .unset, .unset, .unset, .unset] [(.int (5 : Int32))])) rfl (hb hby at_26) rfl (by decide) (cap := 5) (by decide) (by decide) (by decide) (by decide)
    obtain ⟨b1, g1⟩ : ∃ z, z = h0.size := ⟨_, rfl⟩
    rw [← g1] at A1 st1
    have g_b1 : n0 ≤ b1 := Nat.le_trans Z0 (Nat.le_of_eq g1.symm)
    refine own_go st1 ?_
    have f2_0 : Old Z n0 h1 := O0.ext E1
    have Z3 : n0 ≤ h1.size := Nat.le_trans Z0 E1.1
    have V1 : Arv Z h1 b1 k1 .long (5 : Int32) [(.long (0 : Int64)), (.long (0 : Int64)), (.long (0 : Int64)), (.long (0 : Int64)), (.long (0 : Int64))] (.long (0 : Int64)) := (Arv.new A1 (by decide)).pad (pad_rep [] (.long (0 : Int64)) 5)
    show own_Fin p.tables e below _ (T1.setTop (mkF m 28 #[.val (.int p1), .val (.long q2), .second, .val (.long q3), .second, .val (.long q4), .second, .val (.long q5), .second, .val (.long q6), .second, .val (.int (p1 &&& (3 : Int32))), .val (.long (((q2 ^^^ (-1 : Int64)).toUInt64 >>> ((20 : Int32) &&& 0x3f).toInt64.toUInt64).toInt64)), .second, .unset, .unset, .unset, .unset, .unset, .unset, .unset, .unset] [(.ref b1)]))
    refine own_go (fun _ k => XS.astore X1.here hx rfl (hb hby at_28) rfl rfl (l' := #[.val (.int p1), .val (.long q2), .second, .val (.long q3), .second, .val (.long q4), .second, .val (.long q5), .second, .val (.long q6), .second, .val (.int (p1 &&& (3 : Int32))), .val (.long (((q2 ^^^ (-1 : Int64)).toUInt64 >>> ((20 : Int32) &&& 0x3f).toInt64.toUInt64).toInt64)), .second, .val (.ref b1), .unset, .unset, .unset, .unset, .unset, .unset, .unset]) rfl k) ?_
    show own_Fin p.tables e below _ (T1.setTop (mkF m 30 #[.val (.int p1), .val (.long q2), .second, .val (.long q3), .second, .val (.long q4), .second, .val (.long q5), .second, .val (.long q6), .second, .val (.int (p1 &&& (3 : Int32))), .val (.long (((q2 ^^^ (-1 : Int64)).toUInt64 >>> ((20 : Int32) &&& 0x3f).toInt64.toUInt64).toInt64)), .second, .val (.ref b1), .unset, .unset, .unset, .unset, .unset, .unset, .unset] []))
    refine own_go (fun _ k => XS.iconst X1.here hx rfl (hb hby at_30) k) ?_
    show own_Fin p.tables e below _ (T1.setTop (mkF m 31 #[.val (.int p1), .val (.long q2), .second, .val (.long q3), .second, .val (.long q4), .second, .val (.long q5), .second, .val (.long q6), .second, .val (.int (p1 &&& (3 : Int32))), .val (.long (((q2 ^^^ (-1 : Int64)).toUInt64 >>> ((20 : Int32) &&& 0x3f).toInt64.toUInt64).toInt64)), .second, .val (.ref b1), .unset, .unset, .unset, .unset, .unset, .unset, .unset] [(.int (1 : Int32))]))
    obtain ⟨T4, h4, k4, X4, e4, E4, A4, st4⟩ := newP X1 hx hZ (hw _ (List.mem_of_getElem? (i := 1) rfl)) e1 (g := (mkF m 31 #[.val (.int p1), .val (.long q2), .second, .val (.long q3), .second, .val (.long q4), .second, .val (.long q5), .second, .val (.long q6), .second, .val (.int (p1 &&& (3 : Int32))), .val (.long (((q2 ^^^ (-1 : Int64)).toUInt64 >>> ((20 : Int32) &&& 0x3f).toInt64.toUInt64).toInt64)), .second, .val (.ref b1), .unset, .unset, .unset, .unset, .unset, .unset, .unset] [(.int (1 : Int32))])) rfl (hb hby at_31) rfl (by decide) (cap := 1) (by decide) (by decide) (by decide) (by decide)
    obtain ⟨b4, g4⟩ : ∃ z, z = h1.size := ⟨_, rfl⟩
    rw [← g4] at A4 st4
    have ne_b1_b4 : b1 ≠ b4 := Nat.ne_of_lt (Nat.lt_of_lt_of_le V1.lt (Nat.le_of_eq g4.symm))
    have g_b4 : n0 ≤ b4 := Nat.le_trans Z3 (Nat.le_of_eq g4.symm)
    refine own_go st4 ?_
    have f5_0 : Old Z n0 h4 := f2_0.ext E4
    have f5_5 : Arv Z h4 b1 k1 .long (5 : Int32) [(.long (0 : Int64)), (.long (0 : Int64)), (.long (0 : Int64)), (.long (0 : Int64)), (.long (0 : Int64))] (.long (0 : Int64)) := V1.ext E4
    have Z6 : n0 ≤ h4.size := Nat.le_trans Z3 E4.1
    have V4 : Arv Z h4 b4 k4 .int (1 : Int32) [(.int (0 : Int32))] (.int (0 : Int32)) := (Arv.new A4 (by decide)).pad (pad_rep [] (.int (0 : Int32)) 1)
    show own_Fin p.tables e below _ (T4.setTop (mkF m 33 #[.val (.int p1), .val (.long q2), .second, .val (.long q3), .second, .val (.long q4), .second, .val (.long q5), .second, .val (.long q6), .second, .val (.int (p1 &&& (3 : Int32))), .val (.long (((q2 ^^^ (-1 : Int64)).toUInt64 >>> ((20 : Int32) &&& 0x3f).toInt64.toUInt64).toInt64)), .second, .val (.ref b1), .unset, .unset, .unset, .unset, .unset, .unset, .unset] [(.ref b4)]))
    refine own_go (fun _ k => XS.astore X4.here hx rfl (hb hby at_33) rfl rfl (l' := #[.val (.int p1), .val (.long q2), .second, .val (.long q3), .second, .val (.long q4), .second, .val (.long q5), .second, .val (.long q6), .second, .val (.int (p1 &&& (3 : Int32))), .val (.long (((q2 ^^^ (-1 : Int64)).toUInt64 >>> ((20 : Int32) &&& 0x3f).toInt64.toUInt64).toInt64)), .second, .val (.ref b1), .val (.ref b4), .unset, .unset, .unset, .unset, .unset, .unset]) rfl k) ?_
    show own_Fin p.tables e below _ (T4.setTop (mkF m 35 #[.val (.int p1), .val (.long q2), .second, .val (.long q3), .second, .val (.long q4), .second, .val (.long q5), .second, .val (.long q6), .second, .val (.int (p1 &&& (3 : Int32))), .val (.long (((q2 ^^^ (-1 : Int64)).toUInt64 >>> ((20 : Int32) &&& 0x3f).toInt64.toUInt64).toInt64)), .second, .val (.ref b1), .val (.ref b4), .unset, .unset, .unset, .unset, .unset, .unset] []))
    obtain ⟨T7, h7, X7, e7, E7, A7, D7, -, st7⟩ := newO X4 hx hZ hown (hw _ (List.mem_of_getElem? (i := 2) rfl)) (hw _ (List.mem_of_getElem? (i := 3) rfl)) (hw _ (List.mem_of_getElem? (i := 4) rfl)) e4 (g := (mkF m 35 #[.val (.int p1), .val (.long q2), .second, .val (.long q3), .second, .val (.long q4), .second, .val (.long q5), .second, .val (.long q6), .second, .val (.int (p1 &&& (3 : Int32))), .val (.long (((q2 ^^^ (-1 : Int64)).toUInt64 >>> ((20 : Int32) &&& 0x3f).toInt64.toUInt64).toInt64)), .second, .val (.ref b1), .val (.ref b4), .unset, .unset, .unset, .unset, .unset, .unset] [])) rfl (hb hby at_35) (by decide) (by decide)
    obtain ⟨b7, g7⟩ : ∃ z, z = h4.size := ⟨_, rfl⟩
    rw [← g7] at A7 D7 st7
    have ne_b1_b7 : b1 ≠ b7 := Nat.ne_of_lt (Nat.lt_of_lt_of_le f5_5.lt (Nat.le_of_eq g7.symm))
    have ne_b4_b7 : b4 ≠ b7 := Nat.ne_of_lt (Nat.lt_of_lt_of_le V4.lt (Nat.le_of_eq g7.symm))
    have g_b7 : n0 ≤ b7 := Nat.le_trans Z6 (Nat.le_of_eq g7.symm)
    refine own_go st7 ?_
    have f8_0 : Old Z n0 h7 := f5_0.ext E7
    have f8_5 : Arv Z h7 b1 k1 .long (5 : Int32) [(.long (0 : Int64)), (.long (0 : Int64)), (.long (0 : Int64)), (.long (0 : Int64)), (.long (0 : Int64))] (.long (0 : Int64)) := f5_5.ext E7
    have f8_6 : Arv Z h7 b4 k4 .int (1 : Int32) [(.int (0 : Int32))] (.int (0 : Int32)) := V4.ext E7
    have Z9 : n0 ≤ h7.size := Nat.le_trans Z6 E7.1
    have F7_12 : Fld Z h7 b7 "com/example/ferrybell/ferrybell/runtime/Restarts" "iTimes" "[J" .null := D7 (Or.inl (hw _ (List.mem_of_getElem? (i := 12) rfl))) (ty := (.array .long)) (by decide)
    have F7_14 : Fld Z h7 b7 "com/example/ferrybell/ferrybell/runtime/Restarts" "iKept" "I" (.int (0 : Int32)) := D7 (Or.inr (hw _ (List.mem_of_getElem? (i := 14) rfl))) (ty := .int) (by decide)
    have F7_34 : Fld Z h7 b7 "com/example/ferrybell/ferrybell/runtime/Restarts" "iCount" "J" (.long (0 : Int64)) := D7 (Or.inl (hw _ (List.mem_of_getElem? (i := 34) rfl))) (ty := .long) (by decide)
    have F7_41 : Fld Z h7 b7 "com/example/ferrybell/ferrybell/runtime/Restarts" "iSize" "I" (.int (0 : Int32)) := D7 (Or.inl (hw _ (List.mem_of_getElem? (i := 41) rfl))) (ty := .int) (by decide)
    have F7_63 : Fld Z h7 b7 "com/example/ferrybell/ferrybell/runtime/Restarts" "iOldest" "I" (.int (0 : Int32)) := D7 (Or.inl (hw _ (List.mem_of_getElem? (i := 63) rfl))) (ty := .int) (by decide)
    show own_Fin p.tables e below _ (T7.setTop (mkF m 38 #[.val (.int p1), .val (.long q2), .second, .val (.long q3), .second, .val (.long q4), .second, .val (.long q5), .second, .val (.long q6), .second, .val (.int (p1 &&& (3 : Int32))), .val (.long (((q2 ^^^ (-1 : Int64)).toUInt64 >>> ((20 : Int32) &&& 0x3f).toInt64.toUInt64).toInt64)), .second, .val (.ref b1), .val (.ref b4), .unset, .unset, .unset, .unset, .unset, .unset] [(.ref b7)]))
    refine own_go (fun _ k => XS.dup X7.here hx rfl (hb hby at_38) rfl rfl k) ?_
    show own_Fin p.tables e below _ (T7.setTop (mkF m 39 #[.val (.int p1), .val (.long q2), .second, .val (.long q3), .second, .val (.long q4), .second, .val (.long q5), .second, .val (.long q6), .second, .val (.int (p1 &&& (3 : Int32))), .val (.long (((q2 ^^^ (-1 : Int64)).toUInt64 >>> ((20 : Int32) &&& 0x3f).toInt64.toUInt64).toInt64)), .second, .val (.ref b1), .val (.ref b4), .unset, .unset, .unset, .unset, .unset, .unset] [(.ref b7), (.ref b7)]))
    refine own_go (fun _ k => XS.iload X7.here hx rfl (hb hby at_39) rfl k) ?_
    show own_Fin p.tables e below _ (T7.setTop (mkF m 41 #[.val (.int p1), .val (.long q2), .second, .val (.long q3), .second, .val (.long q4), .second, .val (.long q5), .second, .val (.long q6), .second, .val (.int (p1 &&& (3 : Int32))), .val (.long (((q2 ^^^ (-1 : Int64)).toUInt64 >>> ((20 : Int32) &&& 0x3f).toInt64.toUInt64).toInt64)), .second, .val (.ref b1), .val (.ref b4), .unset, .unset, .unset, .unset, .unset, .unset] [(.int (p1 &&& (3 : Int32))), (.ref b7), (.ref b7)]))
    obtain ⟨_, _, ⟨T10, L10, k10, n10⟩, -, X10, ⟨Lc10, hQ10, l10, y10, z10⟩, st10⟩ := X7.specialBack hx (y := (⟨"com/example/ferrybell/ferrybell/runtime/Restarts", "<init>", "(I)V"⟩ : MethodName)) rfl hown (mvT hZ (hw _ (List.mem_of_getElem? (i := 5) rfl))) (mvT hZ (hw _ (List.mem_of_getElem? (i := 6) rfl))) (mvT hZ (hw _ (List.mem_of_getElem? (i := 7) rfl))) (by decide) (backOf (W := 1) (own_init l Z a0 hw [] b7 (p1 &&& (3 : Int32)) h7 n0 Z9 A7 F7_12 F7_14 F7_34 F7_63 F7_41 g_b7) hZ (hw _ (List.mem_of_getElem? (i := 7) rfl)) (hw _ (List.mem_of_getElem? (i := 4) rfl)) (by decide) (by decide)) (g := (mkF m 41 #[.val (.int p1), .val (.long q2), .second, .val (.long q3), .second, .val (.long q4), .second, .val (.long q5), .second, .val (.long q6), .second, .val (.int (p1 &&& (3 : Int32))), .val (.long (((q2 ^^^ (-1 : Int64)).toUInt64 >>> ((20 : Int32) &&& 0x3f).toInt64.toUInt64).toInt64)), .second, .val (.ref b1), .val (.ref b4), .unset, .unset, .unset, .unset, .unset, .unset] [(.int (p1 &&& (3 : Int32))), (.ref b7), (.ref b7)])) rfl (by rw [hml]; rfl) (Steps.refl _) (a := b7) (argsL := [(.int (p1 &&& (3 : Int32)))]) (rest := [(.ref b7)]) (lenOf own_pd9 rfl) rfl (by show 2 * 0 + _ ≤ _; exact Nat.le_of_eq rfl) (hb hby at_41) (fun _ _ => ⟨rfl, e7, (by decide : 3 + 1 ≤ _), (by decide : 11 + 0 ≤ _)⟩)
    dsimp only [Pt.U, Pt.locs, Pt.cells, Pt.slots] at X10 l10 y10 z10 st10 hQ10
    subst l10 y10 z10
    obtain ⟨bq10, kq10, hv10, N10q, o10_0, o10_1, o10_2, o10_3, o10_4, o10_5, o10_6, o10_7, o10_8, o10_9, o10_10⟩ := hQ10
    subst hv10
    have N10 := Fr.app N0 N10q
    refine own_go (fun _ k => st10.trans k) ?_
    have ne_b1_bq10 : b1 ≠ bq10 := Nat.ne_of_lt (Nat.lt_of_lt_of_le f8_5.lt o10_1)
    have ne_b4_bq10 : b4 ≠ bq10 := Nat.ne_of_lt (Nat.lt_of_lt_of_le f8_6.lt o10_1)
    have ne_b7_bq10 : b7 ≠ bq10 := Nat.ne_of_lt (Nat.lt_of_lt_of_le A7.lt o10_1)
    have f11_0 : Old Z n0 T10.heap := f8_0.keep o10_0 (allS g_b7 all0)
    have f11_5 : Arv Z T10.heap b1 k1 .long (5 : Int32) [(.long (0 : Int64)), (.long (0 : Int64)), (.long (0 : Int64)), (.long (0 : Int64)), (.long (0 : Int64))] (.long (0 : Int64)) := f8_5.keep o10_0 (ninS ne_b1_b7 nin0)
    have f11_6 : Arv Z T10.heap b4 k4 .int (1 : Int32) [(.int (0 : Int32))] (.int (0 : Int32)) := f8_6.keep o10_0 (ninS ne_b4_b7 nin0)
    have Z12 : n0 ≤ T10.heap.size := Nat.le_trans Z9 o10_0.1
    show own_Fin p.tables e below _ (T10.setTop (mkF m 44 #[.val (.int p1), .val (.long q2), .second, .val (.long q3), .second, .val (.long q4), .second, .val (.long q5), .second, .val (.long q6), .second, .val (.int (p1 &&& (3 : Int32))), .val (.long (((q2 ^^^ (-1 : Int64)).toUInt64 >>> ((20 : Int32) &&& 0x3f).toInt64.toUInt64).toInt64)), .second, .val (.ref b1), .val (.ref b4), .unset, .unset, .unset, .unset, .unset, .unset] [(.ref b7)]))
    refine own_go (fun _ k => XS.astore X10.here hx rfl (hb hby at_44) rfl rfl (l' := #[.val (.int p1), .val (.long q2), .second, .val (.long q3), .second, .val (.long q4), .second, .val (.long q5), .second, .val (.long q6), .second, .val (.int (p1 &&& (3 : Int32))), .val (.long (((q2 ^^^ (-1 : Int64)).toUInt64 >>> ((20 : Int32) &&& 0x3f).toInt64.toUInt64).toInt64)), .second, .val (.ref b1), .val (.ref b4), .val (.ref b7), .unset, .unset, .unset, .unset, .unset]) rfl k) ?_
    show own_Fin p.tables e below _ (T10.setTop (mkF m 46 #[.val (.int p1), .val (.long q2), .second, .val (.long q3), .second, .val (.long q4), .second, .val (.long q5), .second, .val (.long q6), .second, .val (.int (p1 &&& (3 : Int32))), .val (.long (((q2 ^^^ (-1 : Int64)).toUInt64 >>> ((20 : Int32) &&& 0x3f).toInt64.toUInt64).toInt64)), .second, .val (.ref b1), .val (.ref b4), .val (.ref b7), .unset, .unset, .unset, .unset, .unset] []))
    refine own_go (fun _ k => XS.aload X10.here hx rfl (hb hby at_46) rfl rfl k) ?_
    show own_Fin p.tables e below _ (T10.setTop (mkF m 48 #[.val (.int p1), .val (.long q2), .second, .val (.long q3), .second, .val (.long q4), .second, .val (.long q5), .second, .val (.long q6), .second, .val (.int (p1 &&& (3 : Int32))), .val (.long (((q2 ^^^ (-1 : Int64)).toUInt64 >>> ((20 : Int32) &&& 0x3f).toInt64.toUInt64).toInt64)), .second, .val (.ref b1), .val (.ref b4), .val (.ref b7), .unset, .unset, .unset, .unset, .unset] [(.ref b7)]))
    refine own_go (fun _ k => XS.aload X10.here hx rfl (hb hby at_48) rfl rfl k) ?_
    show own_Fin p.tables e below _ (T10.setTop (mkF m 50 #[.val (.int p1), .val (.long q2), .second, .val (.long q3), .second, .val (.long q4), .second, .val (.long q5), .second, .val (.long q6), .second, .val (.int (p1 &&& (3 : Int32))), .val (.long (((q2 ^^^ (-1 : Int64)).toUInt64 >>> ((20 : Int32) &&& 0x3f).toInt64.toUInt64).toInt64)), .second, .val (.ref b1), .val (.ref b4), .val (.ref b7), .unset, .unset, .unset, .unset, .unset] [(.ref b1), (.ref b7)]))
    refine own_go (fun _ k => XS.aload X10.here hx rfl (hb hby at_50) rfl rfl k) ?_
    show own_Fin p.tables e below _ (T10.setTop (mkF m 52 #[.val (.int p1), .val (.long q2), .second, .val (.long q3), .second, .val (.long q4), .second, .val (.long q5), .second, .val (.long q6), .second, .val (.int (p1 &&& (3 : Int32))), .val (.long (((q2 ^^^ (-1 : Int64)).toUInt64 >>> ((20 : Int32) &&& 0x3f).toInt64.toUInt64).toInt64)), .second, .val (.ref b1), .val (.ref b4), .val (.ref b7), .unset, .unset, .unset, .unset, .unset] [(.ref b4), (.ref b1), (.ref b7)]))
    refine own_go (fun _ k => XS.iloadN X10.here hx rfl (hb hby at_52) rfl k) ?_
    show own_Fin p.tables e below _ (T10.setTop (mkF m 53 #[.val (.int p1), .val (.long q2), .second, .val (.long q3), .second, .val (.long q4), .second, .val (.long q5), .second, .val (.long q6), .second, .val (.int (p1 &&& (3 : Int32))), .val (.long (((q2 ^^^ (-1 : Int64)).toUInt64 >>> ((20 : Int32) &&& 0x3f).toInt64.toUInt64).toInt64)), .second, .val (.ref b1), .val (.ref b4), .val (.ref b7), .unset, .unset, .unset, .unset, .unset] [(.int p1), (.ref b4), (.ref b1), (.ref b7)]))
    refine own_go (fun _ k => XS.iconst X10.here hx rfl (hb hby at_53) k) ?_
    show own_Fin p.tables e below _ (T10.setTop (mkF m 54 #[.val (.int p1), .val (.long q2), .second, .val (.long q3), .second, .val (.long q4), .second, .val (.long q5), .second, .val (.long q6), .second, .val (.int (p1 &&& (3 : Int32))), .val (.long (((q2 ^^^ (-1 : Int64)).toUInt64 >>> ((20 : Int32) &&& 0x3f).toInt64.toUInt64).toInt64)), .second, .val (.ref b1), .val (.ref b4), .val (.ref b7), .unset, .unset, .unset, .unset, .unset] [(.int (0 : Int32)), (.int p1), (.ref b4), (.ref b1), (.ref b7)]))
    refine own_go (fun _ k => XS.iload X10.here hx rfl (hb hby at_54) rfl k) ?_
    show own_Fin p.tables e below _ (T10.setTop (mkF m 56 #[.val (.int p1), .val (.long q2), .second, .val (.long q3), .second, .val (.long q4), .second, .val (.long q5), .second, .val (.long q6), .second, .val (.int (p1 &&& (3 : Int32))), .val (.long (((q2 ^^^ (-1 : Int64)).toUInt64 >>> ((20 : Int32) &&& 0x3f).toInt64.toUInt64).toInt64)), .second, .val (.ref b1), .val (.ref b4), .val (.ref b7), .unset, .unset, .unset, .unset, .unset] [(.int (p1 &&& (3 : Int32))), (.int (0 : Int32)), (.int p1), (.ref b4), (.ref b1), (.ref b7)]))
    refine own_go (fun _ k => XS.lload X10.here hx rfl (hb hby at_56) rfl k) ?_
    show own_Fin p.tables e below _ (T10.setTop (mkF m 58 #[.val (.int p1), .val (.long q2), .second, .val (.long q3), .second, .val (.long q4), .second, .val (.long q5), .second, .val (.long q6), .second, .val (.int (p1 &&& (3 : Int32))), .val (.long (((q2 ^^^ (-1 : Int64)).toUInt64 >>> ((20 : Int32) &&& 0x3f).toInt64.toUInt64).toInt64)), .second, .val (.ref b1), .val (.ref b4), .val (.ref b7), .unset, .unset, .unset, .unset, .unset] [(.long (((q2 ^^^ (-1 : Int64)).toUInt64 >>> ((20 : Int32) &&& 0x3f).toInt64.toUInt64).toInt64)), (.int (p1 &&& (3 : Int32))), (.int (0 : Int32)), (.int p1), (.ref b4), (.ref b1), (.ref b7)]))
    refine own_go (fun _ k => XS.lloadN X10.here hx rfl (hb hby at_58) rfl k) ?_
    show own_Fin p.tables e below _ (T10.setTop (mkF m 59 #[.val (.int p1), .val (.long q2), .second, .val (.long q3), .second, .val (.long q4), .second, .val (.long q5), .second, .val (.long q6), .second, .val (.int (p1 &&& (3 : Int32))), .val (.long (((q2 ^^^ (-1 : Int64)).toUInt64 >>> ((20 : Int32) &&& 0x3f).toInt64.toUInt64).toInt64)), .second, .val (.ref b1), .val (.ref b4), .val (.ref b7), .unset, .unset, .unset, .unset, .unset] [(.long q3), (.long (((q2 ^^^ (-1 : Int64)).toUInt64 >>> ((20 : Int32) &&& 0x3f).toInt64.toUInt64).toInt64)), (.int (p1 &&& (3 : Int32))), (.int (0 : Int32)), (.int p1), (.ref b4), (.ref b1), (.ref b7)]))
    obtain ⟨_, _, ⟨T13, L13, k13, n13⟩, -, X13, ⟨Lc13, hQ13, l13, y13, z13⟩, st13⟩ := Jvm.LawKit.callS X10 hx (y := (⟨"com/example/ferrybell/ferrybell/runtime/RestartsTryRestartPinLaw", "step", "(Lcom/example/ferrybell/ferrybell/runtime/Restarts;[J[IIIIJJ)Z"⟩ : MethodName)) hown (mvT hZ (hw _ (List.mem_of_getElem? (i := 15) rfl))) (mvT hZ (hw _ (List.mem_of_getElem? (i := 16) rfl))) (mvT hZ (hw _ (List.mem_of_getElem? (i := 17) rfl))) (mvT hZ (hw _ (List.mem_of_getElem? (i := 18) rfl))) (by decide) (backOf (W := 0) (own_step l Z a0 hw [] b7 b1 b4 p1 (0 : Int32) (p1 &&& (3 : Int32)) (((q2 ^^^ (-1 : Int64)).toUInt64 >>> ((20 : Int32) &&& 0x3f).toInt64.toUInt64).toInt64) q3 bq10 kq10 k1 k4 [] tu 0 T10.heap n0 Z12 o10_4 o10_5 o10_6 o10_7 (by rw [(own_z (own_kk p1)).1]; exact o10_8) (by rw [(own_z (own_kk p1)).2]; exact o10_9) o10_10 f11_5 f11_6 f11_0 St Et F1 F2 ne_b7_bq10 ne_b1_bq10 ne_b4_bq10 (Ne.symm ne_b1_b7) (Ne.symm ne_b4_b7) ne_b1_b4 g_b7 g_b1 g_b4 o10_2 (own_kk p1) (by decide) (by decide) (own_wn q2)) hZ (hw _ (List.mem_of_getElem? (i := 18) rfl)) (hw _ (List.mem_of_getElem? (i := 17) rfl)) (by decide) (by decide)) (g := (mkF m 59 #[.val (.int p1), .val (.long q2), .second, .val (.long q3), .second, .val (.long q4), .second, .val (.long q5), .second, .val (.long q6), .second, .val (.int (p1 &&& (3 : Int32))), .val (.long (((q2 ^^^ (-1 : Int64)).toUInt64 >>> ((20 : Int32) &&& 0x3f).toInt64.toUInt64).toInt64)), .second, .val (.ref b1), .val (.ref b4), .val (.ref b7), .unset, .unset, .unset, .unset, .unset] [(.long q3), (.long (((q2 ^^^ (-1 : Int64)).toUInt64 >>> ((20 : Int32) &&& 0x3f).toInt64.toUInt64).toInt64)), (.int (p1 &&& (3 : Int32))), (.int (0 : Int32)), (.int p1), (.ref b4), (.ref b1), (.ref b7)])) rfl (by rw [hml]; rfl) (argsL := [(.ref b7), (.ref b1), (.ref b4), (.int p1), (.int (0 : Int32)), (.int (p1 &&& (3 : Int32))), (.long (((q2 ^^^ (-1 : Int64)).toUInt64 >>> ((20 : Int32) &&& 0x3f).toInt64.toUInt64).toInt64)), (.long q3)]) (rest := []) (lenOf own_pd10 rfl) rfl (by show 2 * 0 + _ ≤ _; exact Nat.le_of_eq rfl) (hb hby at_59) (fun _ _ => ⟨rfl, rfl, (by decide : 4 + 1 ≤ _), (by decide : 11 + 3 ≤ _)⟩)
    dsimp only [Pt.U, Pt.locs, Pt.cells, Pt.slots] at X13 l13 y13 z13 st13 hQ13
    subst l13 y13 z13
    obtain ⟨tq13, tb13, kb13, hv13, N13q, o13_0, o13_1, o13_2, o13_3, o13_4, o13_5, o13_6, o13_7, o13_8, o13_9, o13_10, o13_11, o13_12, o13_13, o13_14⟩ := hQ13
    subst hv13
    have N13 := Fr.app N10 N13q
    refine own_go st13 ?_
    have f14_0 : Old Z n0 T13.heap := f11_0.keep o13_0 (allS g_b7 (allS g_b1 (allS g_b4 (allS o10_2 all0))))
    have Z15 : n0 ≤ T13.heap.size := Nat.le_trans Z12 o13_0.1
    show own_Fin p.tables e below _ (T13.setTop (mkF m 62 #[.val (.int p1), .val (.long q2), .second, .val (.long q3), .second, .val (.long q4), .second, .val (.long q5), .second, .val (.long q6), .second, .val (.int (p1 &&& (3 : Int32))), .val (.long (((q2 ^^^ (-1 : Int64)).toUInt64 >>> ((20 : Int32) &&& 0x3f).toInt64.toUInt64).toInt64)), .second, .val (.ref b1), .val (.ref b4), .val (.ref b7), .unset, .unset, .unset, .unset, .unset] [(.int (1 : Int32))]))
    refine own_go (fun _ k => XS.istore X13.here hx rfl (hb hby at_62) rfl (l' := #[.val (.int p1), .val (.long q2), .second, .val (.long q3), .second, .val (.long q4), .second, .val (.long q5), .second, .val (.long q6), .second, .val (.int (p1 &&& (3 : Int32))), .val (.long (((q2 ^^^ (-1 : Int64)).toUInt64 >>> ((20 : Int32) &&& 0x3f).toInt64.toUInt64).toInt64)), .second, .val (.ref b1), .val (.ref b4), .val (.ref b7), .val (.int (1 : Int32)), .unset, .unset, .unset, .unset]) rfl k) ?_
    show own_Fin p.tables e below _ (T13.setTop (mkF m 64 #[.val (.int p1), .val (.long q2), .second, .val (.long q3), .second, .val (.long q4), .second, .val (.long q5), .second, .val (.long q6), .second, .val (.int (p1 &&& (3 : Int32))), .val (.long (((q2 ^^^ (-1 : Int64)).toUInt64 >>> ((20 : Int32) &&& 0x3f).toInt64.toUInt64).toInt64)), .second, .val (.ref b1), .val (.ref b4), .val (.ref b7), .val (.int (1 : Int32)), .unset, .unset, .unset, .unset] []))
    refine own_go (fun _ k => XS.aload X13.here hx rfl (hb hby at_64) rfl rfl k) ?_
    show own_Fin p.tables e below _ (T13.setTop (mkF m 66 #[.val (.int p1), .val (.long q2), .second, .val (.long q3), .second, .val (.long q4), .second, .val (.long q5), .second, .val (.long q6), .second, .val (.int (p1 &&& (3 : Int32))), .val (.long (((q2 ^^^ (-1 : Int64)).toUInt64 >>> ((20 : Int32) &&& 0x3f).toInt64.toUInt64).toInt64)), .second, .val (.ref b1), .val (.ref b4), .val (.ref b7), .val (.int (1 : Int32)), .unset, .unset, .unset, .unset] [(.ref b7)]))
    refine own_go (fun _ k => XS.aload X13.here hx rfl (hb hby at_66) rfl rfl k) ?_
    show own_Fin p.tables e below _ (T13.setTop (mkF m 68 #[.val (.int p1), .val (.long q2), .second, .val (.long q3), .second, .val (.long q4), .second, .val (.long q5), .second, .val (.long q6), .second, .val (.int (p1 &&& (3 : Int32))), .val (.long (((q2 ^^^ (-1 : Int64)).toUInt64 >>> ((20 : Int32) &&& 0x3f).toInt64.toUInt64).toInt64)), .second, .val (.ref b1), .val (.ref b4), .val (.ref b7), .val (.int (1 : Int32)), .unset, .unset, .unset, .unset] [(.ref b1), (.ref b7)]))
    refine own_go (fun _ k => XS.aload X13.here hx rfl (hb hby at_68) rfl rfl k) ?_
    show own_Fin p.tables e below _ (T13.setTop (mkF m 70 #[.val (.int p1), .val (.long q2), .second, .val (.long q3), .second, .val (.long q4), .second, .val (.long q5), .second, .val (.long q6), .second, .val (.int (p1 &&& (3 : Int32))), .val (.long (((q2 ^^^ (-1 : Int64)).toUInt64 >>> ((20 : Int32) &&& 0x3f).toInt64.toUInt64).toInt64)), .second, .val (.ref b1), .val (.ref b4), .val (.ref b7), .val (.int (1 : Int32)), .unset, .unset, .unset, .unset] [(.ref b4), (.ref b1), (.ref b7)]))
    refine own_go (fun _ k => XS.iloadN X13.here hx rfl (hb hby at_70) rfl k) ?_
    show own_Fin p.tables e below _ (T13.setTop (mkF m 71 #[.val (.int p1), .val (.long q2), .second, .val (.long q3), .second, .val (.long q4), .second, .val (.long q5), .second, .val (.long q6), .second, .val (.int (p1 &&& (3 : Int32))), .val (.long (((q2 ^^^ (-1 : Int64)).toUInt64 >>> ((20 : Int32) &&& 0x3f).toInt64.toUInt64).toInt64)), .second, .val (.ref b1), .val (.ref b4), .val (.ref b7), .val (.int (1 : Int32)), .unset, .unset, .unset, .unset] [(.int p1), (.ref b4), (.ref b1), (.ref b7)]))
    refine own_go (fun _ k => XS.iconst X13.here hx rfl (hb hby at_71) k) ?_
    show own_Fin p.tables e below _ (T13.setTop (mkF m 72 #[.val (.int p1), .val (.long q2), .second, .val (.long q3), .second, .val (.long q4), .second, .val (.long q5), .second, .val (.long q6), .second, .val (.int (p1 &&& (3 : Int32))), .val (.long (((q2 ^^^ (-1 : Int64)).toUInt64 >>> ((20 : Int32) &&& 0x3f).toInt64.toUInt64).toInt64)), .second, .val (.ref b1), .val (.ref b4), .val (.ref b7), .val (.int (1 : Int32)), .unset, .unset, .unset, .unset] [(.int (1 : Int32)), (.int p1), (.ref b4), (.ref b1), (.ref b7)]))
    refine own_go (fun _ k => XS.iload X13.here hx rfl (hb hby at_72) rfl k) ?_
    show own_Fin p.tables e below _ (T13.setTop (mkF m 74 #[.val (.int p1), .val (.long q2), .second, .val (.long q3), .second, .val (.long q4), .second, .val (.long q5), .second, .val (.long q6), .second, .val (.int (p1 &&& (3 : Int32))), .val (.long (((q2 ^^^ (-1 : Int64)).toUInt64 >>> ((20 : Int32) &&& 0x3f).toInt64.toUInt64).toInt64)), .second, .val (.ref b1), .val (.ref b4), .val (.ref b7), .val (.int (1 : Int32)), .unset, .unset, .unset, .unset] [(.int (p1 &&& (3 : Int32))), (.int (1 : Int32)), (.int p1), (.ref b4), (.ref b1), (.ref b7)]))
    refine own_go (fun _ k => XS.lload X13.here hx rfl (hb hby at_74) rfl k) ?_
    show own_Fin p.tables e below _ (T13.setTop (mkF m 76 #[.val (.int p1), .val (.long q2), .second, .val (.long q3), .second, .val (.long q4), .second, .val (.long q5), .second, .val (.long q6), .second, .val (.int (p1 &&& (3 : Int32))), .val (.long (((q2 ^^^ (-1 : Int64)).toUInt64 >>> ((20 : Int32) &&& 0x3f).toInt64.toUInt64).toInt64)), .second, .val (.ref b1), .val (.ref b4), .val (.ref b7), .val (.int (1 : Int32)), .unset, .unset, .unset, .unset] [(.long (((q2 ^^^ (-1 : Int64)).toUInt64 >>> ((20 : Int32) &&& 0x3f).toInt64.toUInt64).toInt64)), (.int (p1 &&& (3 : Int32))), (.int (1 : Int32)), (.int p1), (.ref b4), (.ref b1), (.ref b7)]))
    refine own_go (fun _ k => XS.lload X13.here hx rfl (hb hby at_76) rfl k) ?_
    show own_Fin p.tables e below _ (T13.setTop (mkF m 78 #[.val (.int p1), .val (.long q2), .second, .val (.long q3), .second, .val (.long q4), .second, .val (.long q5), .second, .val (.long q6), .second, .val (.int (p1 &&& (3 : Int32))), .val (.long (((q2 ^^^ (-1 : Int64)).toUInt64 >>> ((20 : Int32) &&& 0x3f).toInt64.toUInt64).toInt64)), .second, .val (.ref b1), .val (.ref b4), .val (.ref b7), .val (.int (1 : Int32)), .unset, .unset, .unset, .unset] [(.long q4), (.long (((q2 ^^^ (-1 : Int64)).toUInt64 >>> ((20 : Int32) &&& 0x3f).toInt64.toUInt64).toInt64)), (.int (p1 &&& (3 : Int32))), (.int (1 : Int32)), (.int p1), (.ref b4), (.ref b1), (.ref b7)]))
    obtain ⟨_, _, ⟨T16, L16, k16, n16⟩, -, X16, ⟨Lc16, hQ16, l16, y16, z16⟩, st16⟩ := Jvm.LawKit.callS X13 hx (y := (⟨"com/example/ferrybell/ferrybell/runtime/RestartsTryRestartPinLaw", "step", "(Lcom/example/ferrybell/ferrybell/runtime/Restarts;[J[IIIIJJ)Z"⟩ : MethodName)) hown (mvT hZ (hw _ (List.mem_of_getElem? (i := 15) rfl))) (mvT hZ (hw _ (List.mem_of_getElem? (i := 16) rfl))) (mvT hZ (hw _ (List.mem_of_getElem? (i := 17) rfl))) (mvT hZ (hw _ (List.mem_of_getElem? (i := 18) rfl))) (by decide) (backOf (W := 0) (own_step l Z a0 hw [] b7 b1 b4 p1 (1 : Int32) (p1 &&& (3 : Int32)) (((q2 ^^^ (-1 : Int64)).toUInt64 >>> ((20 : Int32) &&& 0x3f).toInt64.toUInt64).toInt64) q4 tb13 kb13 k1 k4 tq13 tu 1 T13.heap n0 Z15 o13_1 o13_2 o13_3 o13_4 o13_5 o13_6 o13_7 o13_8 o13_9 f14_0 St Et F1 F2 o13_11 o13_12 o13_13 (Ne.symm ne_b1_b7) (Ne.symm ne_b4_b7) ne_b1_b4 g_b7 g_b1 g_b4 o13_10 (own_kk p1) (by decide) o13_14 (own_wn q2)) hZ (hw _ (List.mem_of_getElem? (i := 18) rfl)) (hw _ (List.mem_of_getElem? (i := 17) rfl)) (by decide) (by decide)) (g := (mkF m 78 #[.val (.int p1), .val (.long q2), .second, .val (.long q3), .second, .val (.long q4), .second, .val (.long q5), .second, .val (.long q6), .second, .val (.int (p1 &&& (3 : Int32))), .val (.long (((q2 ^^^ (-1 : Int64)).toUInt64 >>> ((20 : Int32) &&& 0x3f).toInt64.toUInt64).toInt64)), .second, .val (.ref b1), .val (.ref b4), .val (.ref b7), .val (.int (1 : Int32)), .unset, .unset, .unset, .unset] [(.long q4), (.long (((q2 ^^^ (-1 : Int64)).toUInt64 >>> ((20 : Int32) &&& 0x3f).toInt64.toUInt64).toInt64)), (.int (p1 &&& (3 : Int32))), (.int (1 : Int32)), (.int p1), (.ref b4), (.ref b1), (.ref b7)])) rfl (by rw [hml]; rfl) (argsL := [(.ref b7), (.ref b1), (.ref b4), (.int p1), (.int (1 : Int32)), (.int (p1 &&& (3 : Int32))), (.long (((q2 ^^^ (-1 : Int64)).toUInt64 >>> ((20 : Int32) &&& 0x3f).toInt64.toUInt64).toInt64)), (.long q4)]) (rest := []) (lenOf own_pd10 rfl) rfl (by show 2 * 0 + _ ≤ _; exact Nat.le_of_eq rfl) (hb hby at_78) (fun _ _ => ⟨rfl, rfl, (by decide : 5 + 1 ≤ _), (by decide : 14 + 3 ≤ _)⟩)
    dsimp only [Pt.U, Pt.locs, Pt.cells, Pt.slots] at X16 l16 y16 z16 st16 hQ16
    subst l16 y16 z16
    obtain ⟨tq16, tb16, kb16, hv16, N16q, o16_0, o16_1, o16_2, o16_3, o16_4, o16_5, o16_6, o16_7, o16_8, o16_9, o16_10, o16_11, o16_12, o16_13, o16_14⟩ := hQ16
    subst hv16
    have N16 := Fr.app N13 N16q
    refine own_go st16 ?_
    have f17_0 : Old Z n0 T16.heap := f14_0.keep o16_0 (allS g_b7 (allS g_b1 (allS g_b4 (allS o13_10 all0))))
    have Z18 : n0 ≤ T16.heap.size := Nat.le_trans Z15 o16_0.1
    show own_Fin p.tables e below _ (T16.setTop (mkF m 81 #[.val (.int p1), .val (.long q2), .second, .val (.long q3), .second, .val (.long q4), .second, .val (.long q5), .second, .val (.long q6), .second, .val (.int (p1 &&& (3 : Int32))), .val (.long (((q2 ^^^ (-1 : Int64)).toUInt64 >>> ((20 : Int32) &&& 0x3f).toInt64.toUInt64).toInt64)), .second, .val (.ref b1), .val (.ref b4), .val (.ref b7), .val (.int (1 : Int32)), .unset, .unset, .unset, .unset] [(.int (1 : Int32))]))
    refine own_go (fun _ k => XS.istore X16.here hx rfl (hb hby at_81) rfl (l' := #[.val (.int p1), .val (.long q2), .second, .val (.long q3), .second, .val (.long q4), .second, .val (.long q5), .second, .val (.long q6), .second, .val (.int (p1 &&& (3 : Int32))), .val (.long (((q2 ^^^ (-1 : Int64)).toUInt64 >>> ((20 : Int32) &&& 0x3f).toInt64.toUInt64).toInt64)), .second, .val (.ref b1), .val (.ref b4), .val (.ref b7), .val (.int (1 : Int32)), .val (.int (1 : Int32)), .unset, .unset, .unset]) rfl k) ?_
    show own_Fin p.tables e below _ (T16.setTop (mkF m 83 #[.val (.int p1), .val (.long q2), .second, .val (.long q3), .second, .val (.long q4), .second, .val (.long q5), .second, .val (.long q6), .second, .val (.int (p1 &&& (3 : Int32))), .val (.long (((q2 ^^^ (-1 : Int64)).toUInt64 >>> ((20 : Int32) &&& 0x3f).toInt64.toUInt64).toInt64)), .second, .val (.ref b1), .val (.ref b4), .val (.ref b7), .val (.int (1 : Int32)), .val (.int (1 : Int32)), .unset, .unset, .unset] []))
    refine own_go (fun _ k => XS.aload X16.here hx rfl (hb hby at_83) rfl rfl k) ?_
    show own_Fin p.tables e below _ (T16.setTop (mkF m 85 #[.val (.int p1), .val (.long q2), .second, .val (.long q3), .second, .val (.long q4), .second, .val (.long q5), .second, .val (.long q6), .second, .val (.int (p1 &&& (3 : Int32))), .val (.long (((q2 ^^^ (-1 : Int64)).toUInt64 >>> ((20 : Int32) &&& 0x3f).toInt64.toUInt64).toInt64)), .second, .val (.ref b1), .val (.ref b4), .val (.ref b7), .val (.int (1 : Int32)), .val (.int (1 : Int32)), .unset, .unset, .unset] [(.ref b7)]))
    refine own_go (fun _ k => XS.aload X16.here hx rfl (hb hby at_85) rfl rfl k) ?_
    show own_Fin p.tables e below _ (T16.setTop (mkF m 87 #[.val (.int p1), .val (.long q2), .second, .val (.long q3), .second, .val (.long q4), .second, .val (.long q5), .second, .val (.long q6), .second, .val (.int (p1 &&& (3 : Int32))), .val (.long (((q2 ^^^ (-1 : Int64)).toUInt64 >>> ((20 : Int32) &&& 0x3f).toInt64.toUInt64).toInt64)), .second, .val (.ref b1), .val (.ref b4), .val (.ref b7), .val (.int (1 : Int32)), .val (.int (1 : Int32)), .unset, .unset, .unset] [(.ref b1), (.ref b7)]))
    refine own_go (fun _ k => XS.aload X16.here hx rfl (hb hby at_87) rfl rfl k) ?_
    show own_Fin p.tables e below _ (T16.setTop (mkF m 89 #[.val (.int p1), .val (.long q2), .second, .val (.long q3), .second, .val (.long q4), .second, .val (.long q5), .second, .val (.long q6), .second, .val (.int (p1 &&& (3 : Int32))), .val (.long (((q2 ^^^ (-1 : Int64)).toUInt64 >>> ((20 : Int32) &&& 0x3f).toInt64.toUInt64).toInt64)), .second, .val (.ref b1), .val (.ref b4), .val (.ref b7), .val (.int (1 : Int32)), .val (.int (1 : Int32)), .unset, .unset, .unset] [(.ref b4), (.ref b1), (.ref b7)]))
    refine own_go (fun _ k => XS.iloadN X16.here hx rfl (hb hby at_89) rfl k) ?_
    show own_Fin p.tables e below _ (T16.setTop (mkF m 90 #[.val (.int p1), .val (.long q2), .second, .val (.long q3), .second, .val (.long q4), .second, .val (.long q5), .second, .val (.long q6), .second, .val (.int (p1 &&& (3 : Int32))), .val (.long (((q2 ^^^ (-1 : Int64)).toUInt64 >>> ((20 : Int32) &&& 0x3f).toInt64.toUInt64).toInt64)), .second, .val (.ref b1), .val (.ref b4), .val (.ref b7), .val (.int (1 : Int32)), .val (.int (1 : Int32)), .unset, .unset, .unset] [(.int p1), (.ref b4), (.ref b1), (.ref b7)]))
    refine own_go (fun _ k => XS.iconst X16.here hx rfl (hb hby at_90) k) ?_
    show own_Fin p.tables e below _ (T16.setTop (mkF m 91 #[.val (.int p1), .val (.long q2), .second, .val (.long q3), .second, .val (.long q4), .second, .val (.long q5), .second, .val (.long q6), .second, .val (.int (p1 &&& (3 : Int32))), .val (.long (((q2 ^^^ (-1 : Int64)).toUInt64 >>> ((20 : Int32) &&& 0x3f).toInt64.toUInt64).toInt64)), .second, .val (.ref b1), .val (.ref b4), .val (.ref b7), .val (.int (1 : Int32)), .val (.int (1 : Int32)), .unset, .unset, .unset] [(.int (2 : Int32)), (.int p1), (.ref b4), (.ref b1), (.ref b7)]))
    refine own_go (fun _ k => XS.iload X16.here hx rfl (hb hby at_91) rfl k) ?_
    show own_Fin p.tables e below _ (T16.setTop (mkF m 93 #[.val (.int p1), .val (.long q2), .second, .val (.long q3), .second, .val (.long q4), .second, .val (.long q5), .second, .val (.long q6), .second, .val (.int (p1 &&& (3 : Int32))), .val (.long (((q2 ^^^ (-1 : Int64)).toUInt64 >>> ((20 : Int32) &&& 0x3f).toInt64.toUInt64).toInt64)), .second, .val (.ref b1), .val (.ref b4), .val (.ref b7), .val (.int (1 : Int32)), .val (.int (1 : Int32)), .unset, .unset, .unset] [(.int (p1 &&& (3 : Int32))), (.int (2 : Int32)), (.int p1), (.ref b4), (.ref b1), (.ref b7)]))
    refine own_go (fun _ k => XS.lload X16.here hx rfl (hb hby at_93) rfl k) ?_
    show own_Fin p.tables e below _ (T16.setTop (mkF m 95 #[.val (.int p1), .val (.long q2), .second, .val (.long q3), .second, .val (.long q4), .second, .val (.long q5), .second, .val (.long q6), .second, .val (.int (p1 &&& (3 : Int32))), .val (.long (((q2 ^^^ (-1 : Int64)).toUInt64 >>> ((20 : Int32) &&& 0x3f).toInt64.toUInt64).toInt64)), .second, .val (.ref b1), .val (.ref b4), .val (.ref b7), .val (.int (1 : Int32)), .val (.int (1 : Int32)), .unset, .unset, .unset] [(.long (((q2 ^^^ (-1 : Int64)).toUInt64 >>> ((20 : Int32) &&& 0x3f).toInt64.toUInt64).toInt64)), (.int (p1 &&& (3 : Int32))), (.int (2 : Int32)), (.int p1), (.ref b4), (.ref b1), (.ref b7)]))
    refine own_go (fun _ k => XS.lload X16.here hx rfl (hb hby at_95) rfl k) ?_
    show own_Fin p.tables e below _ (T16.setTop (mkF m 97 #[.val (.int p1), .val (.long q2), .second, .val (.long q3), .second, .val (.long q4), .second, .val (.long q5), .second, .val (.long q6), .second, .val (.int (p1 &&& (3 : Int32))), .val (.long (((q2 ^^^ (-1 : Int64)).toUInt64 >>> ((20 : Int32) &&& 0x3f).toInt64.toUInt64).toInt64)), .second, .val (.ref b1), .val (.ref b4), .val (.ref b7), .val (.int (1 : Int32)), .val (.int (1 : Int32)), .unset, .unset, .unset] [(.long q5), (.long (((q2 ^^^ (-1 : Int64)).toUInt64 >>> ((20 : Int32) &&& 0x3f).toInt64.toUInt64).toInt64)), (.int (p1 &&& (3 : Int32))), (.int (2 : Int32)), (.int p1), (.ref b4), (.ref b1), (.ref b7)]))
    obtain ⟨_, _, ⟨T19, L19, k19, n19⟩, -, X19, ⟨Lc19, hQ19, l19, y19, z19⟩, st19⟩ := Jvm.LawKit.callS X16 hx (y := (⟨"com/example/ferrybell/ferrybell/runtime/RestartsTryRestartPinLaw", "step", "(Lcom/example/ferrybell/ferrybell/runtime/Restarts;[J[IIIIJJ)Z"⟩ : MethodName)) hown (mvT hZ (hw _ (List.mem_of_getElem? (i := 15) rfl))) (mvT hZ (hw _ (List.mem_of_getElem? (i := 16) rfl))) (mvT hZ (hw _ (List.mem_of_getElem? (i := 17) rfl))) (mvT hZ (hw _ (List.mem_of_getElem? (i := 18) rfl))) (by decide) (backOf (W := 0) (own_step l Z a0 hw [] b7 b1 b4 p1 (2 : Int32) (p1 &&& (3 : Int32)) (((q2 ^^^ (-1 : Int64)).toUInt64 >>> ((20 : Int32) &&& 0x3f).toInt64.toUInt64).toInt64) q5 tb16 kb16 k1 k4 tq16 tu 2 T16.heap n0 Z18 o16_1 o16_2 o16_3 o16_4 o16_5 o16_6 o16_7 o16_8 o16_9 f17_0 St Et F1 F2 o16_11 o16_12 o16_13 (Ne.symm ne_b1_b7) (Ne.symm ne_b4_b7) ne_b1_b4 g_b7 g_b1 g_b4 o16_10 (own_kk p1) (by decide) o16_14 (own_wn q2)) hZ (hw _ (List.mem_of_getElem? (i := 18) rfl)) (hw _ (List.mem_of_getElem? (i := 17) rfl)) (by decide) (by decide)) (g := (mkF m 97 #[.val (.int p1), .val (.long q2), .second, .val (.long q3), .second, .val (.long q4), .second, .val (.long q5), .second, .val (.long q6), .second, .val (.int (p1 &&& (3 : Int32))), .val (.long (((q2 ^^^ (-1 : Int64)).toUInt64 >>> ((20 : Int32) &&& 0x3f).toInt64.toUInt64).toInt64)), .second, .val (.ref b1), .val (.ref b4), .val (.ref b7), .val (.int (1 : Int32)), .val (.int (1 : Int32)), .unset, .unset, .unset] [(.long q5), (.long (((q2 ^^^ (-1 : Int64)).toUInt64 >>> ((20 : Int32) &&& 0x3f).toInt64.toUInt64).toInt64)), (.int (p1 &&& (3 : Int32))), (.int (2 : Int32)), (.int p1), (.ref b4), (.ref b1), (.ref b7)])) rfl (by rw [hml]; rfl) (argsL := [(.ref b7), (.ref b1), (.ref b4), (.int p1), (.int (2 : Int32)), (.int (p1 &&& (3 : Int32))), (.long (((q2 ^^^ (-1 : Int64)).toUInt64 >>> ((20 : Int32) &&& 0x3f).toInt64.toUInt64).toInt64)), (.long q5)]) (rest := []) (lenOf own_pd10 rfl) rfl (by show 2 * 0 + _ ≤ _; exact Nat.le_of_eq rfl) (hb hby at_97) (fun _ _ => ⟨rfl, rfl, (by decide : 6 + 1 ≤ _), (by decide : 17 + 3 ≤ _)⟩)
    dsimp only [Pt.U, Pt.locs, Pt.cells, Pt.slots] at X19 l19 y19 z19 st19 hQ19
    subst l19 y19 z19
    obtain ⟨tq19, tb19, kb19, hv19, N19q, o19_0, o19_1, o19_2, o19_3, o19_4, o19_5, o19_6, o19_7, o19_8, o19_9, o19_10, o19_11, o19_12, o19_13, o19_14⟩ := hQ19
    subst hv19
    have N19 := Fr.app N16 N19q
    refine own_go st19 ?_
    have f20_0 : Old Z n0 T19.heap := f17_0.keep o19_0 (allS g_b7 (allS g_b1 (allS g_b4 (allS o16_10 all0))))
    have Z21 : n0 ≤ T19.heap.size := Nat.le_trans Z18 o19_0.1
    show own_Fin p.tables e below _ (T19.setTop (mkF m 100 #[.val (.int p1), .val (.long q2), .second, .val (.long q3), .second, .val (.long q4), .second, .val (.long q5), .second, .val (.long q6), .second, .val (.int (p1 &&& (3 : Int32))), .val (.long (((q2 ^^^ (-1 : Int64)).toUInt64 >>> ((20 : Int32) &&& 0x3f).toInt64.toUInt64).toInt64)), .second, .val (.ref b1), .val (.ref b4), .val (.ref b7), .val (.int (1 : Int32)), .val (.int (1 : Int32)), .unset, .unset, .unset] [(.int (1 : Int32))]))
    refine own_go (fun _ k => XS.istore X19.here hx rfl (hb hby at_100) rfl (l' := #[.val (.int p1), .val (.long q2), .second, .val (.long q3), .second, .val (.long q4), .second, .val (.long q5), .second, .val (.long q6), .second, .val (.int (p1 &&& (3 : Int32))), .val (.long (((q2 ^^^ (-1 : Int64)).toUInt64 >>> ((20 : Int32) &&& 0x3f).toInt64.toUInt64).toInt64)), .second, .val (.ref b1), .val (.ref b4), .val (.ref b7), .val (.int (1 : Int32)), .val (.int (1 : Int32)), .val (.int (1 : Int32)), .unset, .unset]) rfl k) ?_
    show own_Fin p.tables e below _ (T19.setTop (mkF m 102 #[.val (.int p1), .val (.long q2), .second, .val (.long q3), .second, .val (.long q4), .second, .val (.long q5), .second, .val (.long q6), .second, .val (.int (p1 &&& (3 : Int32))), .val (.long (((q2 ^^^ (-1 : Int64)).toUInt64 >>> ((20 : Int32) &&& 0x3f).toInt64.toUInt64).toInt64)), .second, .val (.ref b1), .val (.ref b4), .val (.ref b7), .val (.int (1 : Int32)), .val (.int (1 : Int32)), .val (.int (1 : Int32)), .unset, .unset] []))
    refine own_go (fun _ k => XS.aload X19.here hx rfl (hb hby at_102) rfl rfl k) ?_
    show own_Fin p.tables e below _ (T19.setTop (mkF m 104 #[.val (.int p1), .val (.long q2), .second, .val (.long q3), .second, .val (.long q4), .second, .val (.long q5), .second, .val (.long q6), .second, .val (.int (p1 &&& (3 : Int32))), .val (.long (((q2 ^^^ (-1 : Int64)).toUInt64 >>> ((20 : Int32) &&& 0x3f).toInt64.toUInt64).toInt64)), .second, .val (.ref b1), .val (.ref b4), .val (.ref b7), .val (.int (1 : Int32)), .val (.int (1 : Int32)), .val (.int (1 : Int32)), .unset, .unset] [(.ref b7)]))
    refine own_go (fun _ k => XS.aload X19.here hx rfl (hb hby at_104) rfl rfl k) ?_
    show own_Fin p.tables e below _ (T19.setTop (mkF m 106 #[.val (.int p1), .val (.long q2), .second, .val (.long q3), .second, .val (.long q4), .second, .val (.long q5), .second, .val (.long q6), .second, .val (.int (p1 &&& (3 : Int32))), .val (.long (((q2 ^^^ (-1 : Int64)).toUInt64 >>> ((20 : Int32) &&& 0x3f).toInt64.toUInt64).toInt64)), .second, .val (.ref b1), .val (.ref b4), .val (.ref b7), .val (.int (1 : Int32)), .val (.int (1 : Int32)), .val (.int (1 : Int32)), .unset, .unset] [(.ref b1), (.ref b7)]))
    refine own_go (fun _ k => XS.aload X19.here hx rfl (hb hby at_106) rfl rfl k) ?_
    show own_Fin p.tables e below _ (T19.setTop (mkF m 108 #[.val (.int p1), .val (.long q2), .second, .val (.long q3), .second, .val (.long q4), .second, .val (.long q5), .second, .val (.long q6), .second, .val (.int (p1 &&& (3 : Int32))), .val (.long (((q2 ^^^ (-1 : Int64)).toUInt64 >>> ((20 : Int32) &&& 0x3f).toInt64.toUInt64).toInt64)), .second, .val (.ref b1), .val (.ref b4), .val (.ref b7), .val (.int (1 : Int32)), .val (.int (1 : Int32)), .val (.int (1 : Int32)), .unset, .unset] [(.ref b4), (.ref b1), (.ref b7)]))
    refine own_go (fun _ k => XS.iloadN X19.here hx rfl (hb hby at_108) rfl k) ?_
    show own_Fin p.tables e below _ (T19.setTop (mkF m 109 #[.val (.int p1), .val (.long q2), .second, .val (.long q3), .second, .val (.long q4), .second, .val (.long q5), .second, .val (.long q6), .second, .val (.int (p1 &&& (3 : Int32))), .val (.long (((q2 ^^^ (-1 : Int64)).toUInt64 >>> ((20 : Int32) &&& 0x3f).toInt64.toUInt64).toInt64)), .second, .val (.ref b1), .val (.ref b4), .val (.ref b7), .val (.int (1 : Int32)), .val (.int (1 : Int32)), .val (.int (1 : Int32)), .unset, .unset] [(.int p1), (.ref b4), (.ref b1), (.ref b7)]))
    refine own_go (fun _ k => XS.iconst X19.here hx rfl (hb hby at_109) k) ?_
    show own_Fin p.tables e below _ (T19.setTop (mkF m 110 #[.val (.int p1), .val (.long q2), .second, .val (.long q3), .second, .val (.long q4), .second, .val (.long q5), .second, .val (.long q6), .second, .val (.int (p1 &&& (3 : Int32))), .val (.long (((q2 ^^^ (-1 : Int64)).toUInt64 >>> ((20 : Int32) &&& 0x3f).toInt64.toUInt64).toInt64)), .second, .val (.ref b1), .val (.ref b4), .val (.ref b7), .val (.int (1 : Int32)), .val (.int (1 : Int32)), .val (.int (1 : Int32)), .unset, .unset] [(.int (3 : Int32)), (.int p1), (.ref b4), (.ref b1), (.ref b7)]))
    refine own_go (fun _ k => XS.iload X19.here hx rfl (hb hby at_110) rfl k) ?_
    show own_Fin p.tables e below _ (T19.setTop (mkF m 112 #[.val (.int p1), .val (.long q2), .second, .val (.long q3), .second, .val (.long q4), .second, .val (.long q5), .second, .val (.long q6), .second, .val (.int (p1 &&& (3 : Int32))), .val (.long (((q2 ^^^ (-1 : Int64)).toUInt64 >>> ((20 : Int32) &&& 0x3f).toInt64.toUInt64).toInt64)), .second, .val (.ref b1), .val (.ref b4), .val (.ref b7), .val (.int (1 : Int32)), .val (.int (1 : Int32)), .val (.int (1 : Int32)), .unset, .unset] [(.int (p1 &&& (3 : Int32))), (.int (3 : Int32)), (.int p1), (.ref b4), (.ref b1), (.ref b7)]))
    refine own_go (fun _ k => XS.lload X19.here hx rfl (hb hby at_112) rfl k) ?_
    show own_Fin p.tables e below _ (T19.setTop (mkF m 114 #[.val (.int p1), .val (.long q2), .second, .val (.long q3), .second, .val (.long q4), .second, .val (.long q5), .second, .val (.long q6), .second, .val (.int (p1 &&& (3 : Int32))), .val (.long (((q2 ^^^ (-1 : Int64)).toUInt64 >>> ((20 : Int32) &&& 0x3f).toInt64.toUInt64).toInt64)), .second, .val (.ref b1), .val (.ref b4), .val (.ref b7), .val (.int (1 : Int32)), .val (.int (1 : Int32)), .val (.int (1 : Int32)), .unset, .unset] [(.long (((q2 ^^^ (-1 : Int64)).toUInt64 >>> ((20 : Int32) &&& 0x3f).toInt64.toUInt64).toInt64)), (.int (p1 &&& (3 : Int32))), (.int (3 : Int32)), (.int p1), (.ref b4), (.ref b1), (.ref b7)]))
    refine own_go (fun _ k => XS.lload X19.here hx rfl (hb hby at_114) rfl k) ?_
    show own_Fin p.tables e below _ (T19.setTop (mkF m 116 #[.val (.int p1), .val (.long q2), .second, .val (.long q3), .second, .val (.long q4), .second, .val (.long q5), .second, .val (.long q6), .second, .val (.int (p1 &&& (3 : Int32))), .val (.long (((q2 ^^^ (-1 : Int64)).toUInt64 >>> ((20 : Int32) &&& 0x3f).toInt64.toUInt64).toInt64)), .second, .val (.ref b1), .val (.ref b4), .val (.ref b7), .val (.int (1 : Int32)), .val (.int (1 : Int32)), .val (.int (1 : Int32)), .unset, .unset] [(.long q6), (.long (((q2 ^^^ (-1 : Int64)).toUInt64 >>> ((20 : Int32) &&& 0x3f).toInt64.toUInt64).toInt64)), (.int (p1 &&& (3 : Int32))), (.int (3 : Int32)), (.int p1), (.ref b4), (.ref b1), (.ref b7)]))
    obtain ⟨_, _, ⟨T22, L22, k22, n22⟩, -, X22, ⟨Lc22, hQ22, l22, y22, z22⟩, st22⟩ := Jvm.LawKit.callS X19 hx (y := (⟨"com/example/ferrybell/ferrybell/runtime/RestartsTryRestartPinLaw", "step", "(Lcom/example/ferrybell/ferrybell/runtime/Restarts;[J[IIIIJJ)Z"⟩ : MethodName)) hown (mvT hZ (hw _ (List.mem_of_getElem? (i := 15) rfl))) (mvT hZ (hw _ (List.mem_of_getElem? (i := 16) rfl))) (mvT hZ (hw _ (List.mem_of_getElem? (i := 17) rfl))) (mvT hZ (hw _ (List.mem_of_getElem? (i := 18) rfl))) (by decide) (backOf (W := 0) (own_step l Z a0 hw [] b7 b1 b4 p1 (3 : Int32) (p1 &&& (3 : Int32)) (((q2 ^^^ (-1 : Int64)).toUInt64 >>> ((20 : Int32) &&& 0x3f).toInt64.toUInt64).toInt64) q6 tb19 kb19 k1 k4 tq19 tu 3 T19.heap n0 Z21 o19_1 o19_2 o19_3 o19_4 o19_5 o19_6 o19_7 o19_8 o19_9 f20_0 St Et F1 F2 o19_11 o19_12 o19_13 (Ne.symm ne_b1_b7) (Ne.symm ne_b4_b7) ne_b1_b4 g_b7 g_b1 g_b4 o19_10 (own_kk p1) (by decide) o19_14 (own_wn q2)) hZ (hw _ (List.mem_of_getElem? (i := 18) rfl)) (hw _ (List.mem_of_getElem? (i := 17) rfl)) (by decide) (by decide)) (g := (mkF m 116 #[.val (.int p1), .val (.long q2), .second, .val (.long q3), .second, .val (.long q4), .second, .val (.long q5), .second, .val (.long q6), .second, .val (.int (p1 &&& (3 : Int32))), .val (.long (((q2 ^^^ (-1 : Int64)).toUInt64 >>> ((20 : Int32) &&& 0x3f).toInt64.toUInt64).toInt64)), .second, .val (.ref b1), .val (.ref b4), .val (.ref b7), .val (.int (1 : Int32)), .val (.int (1 : Int32)), .val (.int (1 : Int32)), .unset, .unset] [(.long q6), (.long (((q2 ^^^ (-1 : Int64)).toUInt64 >>> ((20 : Int32) &&& 0x3f).toInt64.toUInt64).toInt64)), (.int (p1 &&& (3 : Int32))), (.int (3 : Int32)), (.int p1), (.ref b4), (.ref b1), (.ref b7)])) rfl (by rw [hml]; rfl) (argsL := [(.ref b7), (.ref b1), (.ref b4), (.int p1), (.int (3 : Int32)), (.int (p1 &&& (3 : Int32))), (.long (((q2 ^^^ (-1 : Int64)).toUInt64 >>> ((20 : Int32) &&& 0x3f).toInt64.toUInt64).toInt64)), (.long q6)]) (rest := []) (lenOf own_pd10 rfl) rfl (by show 2 * 0 + _ ≤ _; exact Nat.le_of_eq rfl) (hb hby at_116) (fun _ _ => ⟨rfl, rfl, (by decide : 7 + 1 ≤ _), (by decide : 20 + 3 ≤ _)⟩)
    dsimp only [Pt.U, Pt.locs, Pt.cells, Pt.slots] at X22 l22 y22 z22 st22 hQ22
    subst l22 y22 z22
    obtain ⟨tq22, tb22, kb22, hv22, N22q, o22_0, o22_1, o22_2, o22_3, o22_4, o22_5, o22_6, o22_7, o22_8, o22_9, o22_10, o22_11, o22_12, o22_13, o22_14⟩ := hQ22
    subst hv22
    have N22 := Fr.app N19 N22q
    refine own_go st22 ?_
    have f23_0 : Old Z n0 T22.heap := f20_0.keep o22_0 (allS g_b7 (allS g_b1 (allS g_b4 (allS o19_10 all0))))
    have Z24 : n0 ≤ T22.heap.size := Nat.le_trans Z21 o22_0.1
    show own_Fin p.tables e below _ (T22.setTop (mkF m 119 #[.val (.int p1), .val (.long q2), .second, .val (.long q3), .second, .val (.long q4), .second, .val (.long q5), .second, .val (.long q6), .second, .val (.int (p1 &&& (3 : Int32))), .val (.long (((q2 ^^^ (-1 : Int64)).toUInt64 >>> ((20 : Int32) &&& 0x3f).toInt64.toUInt64).toInt64)), .second, .val (.ref b1), .val (.ref b4), .val (.ref b7), .val (.int (1 : Int32)), .val (.int (1 : Int32)), .val (.int (1 : Int32)), .unset, .unset] [(.int (1 : Int32))]))
    refine own_go (fun _ k => XS.istore X22.here hx rfl (hb hby at_119) rfl (l' := #[.val (.int p1), .val (.long q2), .second, .val (.long q3), .second, .val (.long q4), .second, .val (.long q5), .second, .val (.long q6), .second, .val (.int (p1 &&& (3 : Int32))), .val (.long (((q2 ^^^ (-1 : Int64)).toUInt64 >>> ((20 : Int32) &&& 0x3f).toInt64.toUInt64).toInt64)), .second, .val (.ref b1), .val (.ref b4), .val (.ref b7), .val (.int (1 : Int32)), .val (.int (1 : Int32)), .val (.int (1 : Int32)), .val (.int (1 : Int32)), .unset]) rfl k) ?_
    show own_Fin p.tables e below _ (T22.setTop (mkF m 121 #[.val (.int p1), .val (.long q2), .second, .val (.long q3), .second, .val (.long q4), .second, .val (.long q5), .second, .val (.long q6), .second, .val (.int (p1 &&& (3 : Int32))), .val (.long (((q2 ^^^ (-1 : Int64)).toUInt64 >>> ((20 : Int32) &&& 0x3f).toInt64.toUInt64).toInt64)), .second, .val (.ref b1), .val (.ref b4), .val (.ref b7), .val (.int (1 : Int32)), .val (.int (1 : Int32)), .val (.int (1 : Int32)), .val (.int (1 : Int32)), .unset] []))
    refine own_go (fun _ k => XS.aload X22.here hx rfl (hb hby at_121) rfl rfl k) ?_
    show own_Fin p.tables e below _ (T22.setTop (mkF m 123 #[.val (.int p1), .val (.long q2), .second, .val (.long q3), .second, .val (.long q4), .second, .val (.long q5), .second, .val (.long q6), .second, .val (.int (p1 &&& (3 : Int32))), .val (.long (((q2 ^^^ (-1 : Int64)).toUInt64 >>> ((20 : Int32) &&& 0x3f).toInt64.toUInt64).toInt64)), .second, .val (.ref b1), .val (.ref b4), .val (.ref b7), .val (.int (1 : Int32)), .val (.int (1 : Int32)), .val (.int (1 : Int32)), .val (.int (1 : Int32)), .unset] [(.ref b7)]))
    refine own_go (fun _ k => XS.aload X22.here hx rfl (hb hby at_123) rfl rfl k) ?_
    show own_Fin p.tables e below _ (T22.setTop (mkF m 125 #[.val (.int p1), .val (.long q2), .second, .val (.long q3), .second, .val (.long q4), .second, .val (.long q5), .second, .val (.long q6), .second, .val (.int (p1 &&& (3 : Int32))), .val (.long (((q2 ^^^ (-1 : Int64)).toUInt64 >>> ((20 : Int32) &&& 0x3f).toInt64.toUInt64).toInt64)), .second, .val (.ref b1), .val (.ref b4), .val (.ref b7), .val (.int (1 : Int32)), .val (.int (1 : Int32)), .val (.int (1 : Int32)), .val (.int (1 : Int32)), .unset] [(.ref b1), (.ref b7)]))
    refine own_go (fun _ k => XS.aload X22.here hx rfl (hb hby at_125) rfl rfl k) ?_
    show own_Fin p.tables e below _ (T22.setTop (mkF m 127 #[.val (.int p1), .val (.long q2), .second, .val (.long q3), .second, .val (.long q4), .second, .val (.long q5), .second, .val (.long q6), .second, .val (.int (p1 &&& (3 : Int32))), .val (.long (((q2 ^^^ (-1 : Int64)).toUInt64 >>> ((20 : Int32) &&& 0x3f).toInt64.toUInt64).toInt64)), .second, .val (.ref b1), .val (.ref b4), .val (.ref b7), .val (.int (1 : Int32)), .val (.int (1 : Int32)), .val (.int (1 : Int32)), .val (.int (1 : Int32)), .unset] [(.ref b4), (.ref b1), (.ref b7)]))
    refine own_go (fun _ k => XS.iloadN X22.here hx rfl (hb hby at_127) rfl k) ?_
    show own_Fin p.tables e below _ (T22.setTop (mkF m 128 #[.val (.int p1), .val (.long q2), .second, .val (.long q3), .second, .val (.long q4), .second, .val (.long q5), .second, .val (.long q6), .second, .val (.int (p1 &&& (3 : Int32))), .val (.long (((q2 ^^^ (-1 : Int64)).toUInt64 >>> ((20 : Int32) &&& 0x3f).toInt64.toUInt64).toInt64)), .second, .val (.ref b1), .val (.ref b4), .val (.ref b7), .val (.int (1 : Int32)), .val (.int (1 : Int32)), .val (.int (1 : Int32)), .val (.int (1 : Int32)), .unset] [(.int p1), (.ref b4), (.ref b1), (.ref b7)]))
    refine own_go (fun _ k => XS.iconst X22.here hx rfl (hb hby at_128) k) ?_
    show own_Fin p.tables e below _ (T22.setTop (mkF m 129 #[.val (.int p1), .val (.long q2), .second, .val (.long q3), .second, .val (.long q4), .second, .val (.long q5), .second, .val (.long q6), .second, .val (.int (p1 &&& (3 : Int32))), .val (.long (((q2 ^^^ (-1 : Int64)).toUInt64 >>> ((20 : Int32) &&& 0x3f).toInt64.toUInt64).toInt64)), .second, .val (.ref b1), .val (.ref b4), .val (.ref b7), .val (.int (1 : Int32)), .val (.int (1 : Int32)), .val (.int (1 : Int32)), .val (.int (1 : Int32)), .unset] [(.int (4 : Int32)), (.int p1), (.ref b4), (.ref b1), (.ref b7)]))
    refine own_go (fun _ k => XS.iload X22.here hx rfl (hb hby at_129) rfl k) ?_
    show own_Fin p.tables e below _ (T22.setTop (mkF m 131 #[.val (.int p1), .val (.long q2), .second, .val (.long q3), .second, .val (.long q4), .second, .val (.long q5), .second, .val (.long q6), .second, .val (.int (p1 &&& (3 : Int32))), .val (.long (((q2 ^^^ (-1 : Int64)).toUInt64 >>> ((20 : Int32) &&& 0x3f).toInt64.toUInt64).toInt64)), .second, .val (.ref b1), .val (.ref b4), .val (.ref b7), .val (.int (1 : Int32)), .val (.int (1 : Int32)), .val (.int (1 : Int32)), .val (.int (1 : Int32)), .unset] [(.int (p1 &&& (3 : Int32))), (.int (4 : Int32)), (.int p1), (.ref b4), (.ref b1), (.ref b7)]))
    refine own_go (fun _ k => XS.lload X22.here hx rfl (hb hby at_131) rfl k) ?_
    show own_Fin p.tables e below _ (T22.setTop (mkF m 133 #[.val (.int p1), .val (.long q2), .second, .val (.long q3), .second, .val (.long q4), .second, .val (.long q5), .second, .val (.long q6), .second, .val (.int (p1 &&& (3 : Int32))), .val (.long (((q2 ^^^ (-1 : Int64)).toUInt64 >>> ((20 : Int32) &&& 0x3f).toInt64.toUInt64).toInt64)), .second, .val (.ref b1), .val (.ref b4), .val (.ref b7), .val (.int (1 : Int32)), .val (.int (1 : Int32)), .val (.int (1 : Int32)), .val (.int (1 : Int32)), .unset] [(.long (((q2 ^^^ (-1 : Int64)).toUInt64 >>> ((20 : Int32) &&& 0x3f).toInt64.toUInt64).toInt64)), (.int (p1 &&& (3 : Int32))), (.int (4 : Int32)), (.int p1), (.ref b4), (.ref b1), (.ref b7)]))
    refine own_go (fun _ k => XS.lload X22.here hx rfl (hb hby at_133) rfl k) ?_
    show own_Fin p.tables e below _ (T22.setTop (mkF m 135 #[.val (.int p1), .val (.long q2), .second, .val (.long q3), .second, .val (.long q4), .second, .val (.long q5), .second, .val (.long q6), .second, .val (.int (p1 &&& (3 : Int32))), .val (.long (((q2 ^^^ (-1 : Int64)).toUInt64 >>> ((20 : Int32) &&& 0x3f).toInt64.toUInt64).toInt64)), .second, .val (.ref b1), .val (.ref b4), .val (.ref b7), .val (.int (1 : Int32)), .val (.int (1 : Int32)), .val (.int (1 : Int32)), .val (.int (1 : Int32)), .unset] [(.long q4), (.long (((q2 ^^^ (-1 : Int64)).toUInt64 >>> ((20 : Int32) &&& 0x3f).toInt64.toUInt64).toInt64)), (.int (p1 &&& (3 : Int32))), (.int (4 : Int32)), (.int p1), (.ref b4), (.ref b1), (.ref b7)]))
    refine own_go (fun _ k => XS.lload X22.here hx rfl (hb hby at_135) rfl k) ?_
    show own_Fin p.tables e below _ (T22.setTop (mkF m 137 #[.val (.int p1), .val (.long q2), .second, .val (.long q3), .second, .val (.long q4), .second, .val (.long q5), .second, .val (.long q6), .second, .val (.int (p1 &&& (3 : Int32))), .val (.long (((q2 ^^^ (-1 : Int64)).toUInt64 >>> ((20 : Int32) &&& 0x3f).toInt64.toUInt64).toInt64)), .second, .val (.ref b1), .val (.ref b4), .val (.ref b7), .val (.int (1 : Int32)), .val (.int (1 : Int32)), .val (.int (1 : Int32)), .val (.int (1 : Int32)), .unset] [(.long q6), (.long q4), (.long (((q2 ^^^ (-1 : Int64)).toUInt64 >>> ((20 : Int32) &&& 0x3f).toInt64.toUInt64).toInt64)), (.int (p1 &&& (3 : Int32))), (.int (4 : Int32)), (.int p1), (.ref b4), (.ref b1), (.ref b7)]))
    refine own_go (fun _ k => XS.ladd X22.here hx rfl (hb hby at_137) rfl k) ?_
    show own_Fin p.tables e below _ (T22.setTop (mkF m 138 #[.val (.int p1), .val (.long q2), .second, .val (.long q3), .second, .val (.long q4), .second, .val (.long q5), .second, .val (.long q6), .second, .val (.int (p1 &&& (3 : Int32))), .val (.long (((q2 ^^^ (-1 : Int64)).toUInt64 >>> ((20 : Int32) &&& 0x3f).toInt64.toUInt64).toInt64)), .second, .val (.ref b1), .val (.ref b4), .val (.ref b7), .val (.int (1 : Int32)), .val (.int (1 : Int32)), .val (.int (1 : Int32)), .val (.int (1 : Int32)), .unset] [(.long (q4 + q6)), (.long (((q2 ^^^ (-1 : Int64)).toUInt64 >>> ((20 : Int32) &&& 0x3f).toInt64.toUInt64).toInt64)), (.int (p1 &&& (3 : Int32))), (.int (4 : Int32)), (.int p1), (.ref b4), (.ref b1), (.ref b7)]))
    obtain ⟨_, _, ⟨T25, L25, k25, n25⟩, -, X25, ⟨Lc25, hQ25, l25, y25, z25⟩, st25⟩ := Jvm.LawKit.callS X22 hx (y := (⟨"com/example/ferrybell/ferrybell/runtime/RestartsTryRestartPinLaw", "step", "(Lcom/example/ferrybell/ferrybell/runtime/Restarts;[J[IIIIJJ)Z"⟩ : MethodName)) hown (mvT hZ (hw _ (List.mem_of_getElem? (i := 15) rfl))) (mvT hZ (hw _ (List.mem_of_getElem? (i := 16) rfl))) (mvT hZ (hw _ (List.mem_of_getElem? (i := 17) rfl))) (mvT hZ (hw _ (List.mem_of_getElem? (i := 18) rfl))) (by decide) (backOf (W := 0) (own_step l Z a0 hw [] b7 b1 b4 p1 (4 : Int32) (p1 &&& (3 : Int32)) (((q2 ^^^ (-1 : Int64)).toUInt64 >>> ((20 : Int32) &&& 0x3f).toInt64.toUInt64).toInt64) (q4 + q6) tb22 kb22 k1 k4 tq22 tu 4 T22.heap n0 Z24 o22_1 o22_2 o22_3 o22_4 o22_5 o22_6 o22_7 o22_8 o22_9 f23_0 St Et F1 F2 o22_11 o22_12 o22_13 (Ne.symm ne_b1_b7) (Ne.symm ne_b4_b7) ne_b1_b4 g_b7 g_b1 g_b4 o22_10 (own_kk p1) (by decide) o22_14 (own_wn q2)) hZ (hw _ (List.mem_of_getElem? (i := 18) rfl)) (hw _ (List.mem_of_getElem? (i := 17) rfl)) (by decide) (by decide)) (g := (mkF m 138 #[.val (.int p1), .val (.long q2), .second, .val (.long q3), .second, .val (.long q4), .second, .val (.long q5), .second, .val (.long q6), .second, .val (.int (p1 &&& (3 : Int32))), .val (.long (((q2 ^^^ (-1 : Int64)).toUInt64 >>> ((20 : Int32) &&& 0x3f).toInt64.toUInt64).toInt64)), .second, .val (.ref b1), .val (.ref b4), .val (.ref b7), .val (.int (1 : Int32)), .val (.int (1 : Int32)), .val (.int (1 : Int32)), .val (.int (1 : Int32)), .unset] [(.long (q4 + q6)), (.long (((q2 ^^^ (-1 : Int64)).toUInt64 >>> ((20 : Int32) &&& 0x3f).toInt64.toUInt64).toInt64)), (.int (p1 &&& (3 : Int32))), (.int (4 : Int32)), (.int p1), (.ref b4), (.ref b1), (.ref b7)])) rfl (by rw [hml]; rfl) (argsL := [(.ref b7), (.ref b1), (.ref b4), (.int p1), (.int (4 : Int32)), (.int (p1 &&& (3 : Int32))), (.long (((q2 ^^^ (-1 : Int64)).toUInt64 >>> ((20 : Int32) &&& 0x3f).toInt64.toUInt64).toInt64)), (.long (q4 + q6))]) (rest := []) (lenOf own_pd10 rfl) rfl (by show 2 * 0 + _ ≤ _; exact Nat.le_of_eq rfl) (hb hby at_138) (fun _ _ => ⟨rfl, rfl, (by decide : 8 + 1 ≤ _), (by decide : 23 + 3 ≤ _)⟩)
    dsimp only [Pt.U, Pt.locs, Pt.cells, Pt.slots] at X25 l25 y25 z25 st25 hQ25
    subst l25 y25 z25
    obtain ⟨tq25, tb25, kb25, hv25, N25q, o25_0, o25_1, o25_2, o25_3, o25_4, o25_5, o25_6, o25_7, o25_8, o25_9, o25_10, o25_11, o25_12, o25_13, o25_14⟩ := hQ25
    subst hv25
    have N25 := Fr.app N22 N25q
    refine own_go st25 ?_
    have f26_0 : Old Z n0 T25.heap := f23_0.keep o25_0 (allS g_b7 (allS g_b1 (allS g_b4 (allS o22_10 all0))))
    have Z27 : n0 ≤ T25.heap.size := Nat.le_trans Z24 o25_0.1
    show own_Fin p.tables e below _ (T25.setTop (mkF m 141 #[.val (.int p1), .val (.long q2), .second, .val (.long q3), .second, .val (.long q4), .second, .val (.long q5), .second, .val (.long q6), .second, .val (.int (p1 &&& (3 : Int32))), .val (.long (((q2 ^^^ (-1 : Int64)).toUInt64 >>> ((20 : Int32) &&& 0x3f).toInt64.toUInt64).toInt64)), .second, .val (.ref b1), .val (.ref b4), .val (.ref b7), .val (.int (1 : Int32)), .val (.int (1 : Int32)), .val (.int (1 : Int32)), .val (.int (1 : Int32)), .unset] [(.int (1 : Int32))]))
    refine own_go (fun _ k => XS.istore X25.here hx rfl (hb hby at_141) rfl (l' := #[.val (.int p1), .val (.long q2), .second, .val (.long q3), .second, .val (.long q4), .second, .val (.long q5), .second, .val (.long q6), .second, .val (.int (p1 &&& (3 : Int32))), .val (.long (((q2 ^^^ (-1 : Int64)).toUInt64 >>> ((20 : Int32) &&& 0x3f).toInt64.toUInt64).toInt64)), .second, .val (.ref b1), .val (.ref b4), .val (.ref b7), .val (.int (1 : Int32)), .val (.int (1 : Int32)), .val (.int (1 : Int32)), .val (.int (1 : Int32)), .val (.int (1 : Int32))]) rfl k) ?_
    show own_Fin p.tables e below _ (T25.setTop (mkF m 143 #[.val (.int p1), .val (.long q2), .second, .val (.long q3), .second, .val (.long q4), .second, .val (.long q5), .second, .val (.long q6), .second, .val (.int (p1 &&& (3 : Int32))), .val (.long (((q2 ^^^ (-1 : Int64)).toUInt64 >>> ((20 : Int32) &&& 0x3f).toInt64.toUInt64).toInt64)), .second, .val (.ref b1), .val (.ref b4), .val (.ref b7), .val (.int (1 : Int32)), .val (.int (1 : Int32)), .val (.int (1 : Int32)), .val (.int (1 : Int32)), .val (.int (1 : Int32))] []))
    refine own_go (fun _ k => XS.iload X25.here hx rfl (hb hby at_143) rfl k) ?_
    show own_Fin p.tables e below _ (T25.setTop (mkF m 145 #[.val (.int p1), .val (.long q2), .second, .val (.long q3), .second, .val (.long q4), .second, .val (.long q5), .second, .val (.long q6), .second, .val (.int (p1 &&& (3 : Int32))), .val (.long (((q2 ^^^ (-1 : Int64)).toUInt64 >>> ((20 : Int32) &&& 0x3f).toInt64.toUInt64).toInt64)), .second, .val (.ref b1), .val (.ref b4), .val (.ref b7), .val (.int (1 : Int32)), .val (.int (1 : Int32)), .val (.int (1 : Int32)), .val (.int (1 : Int32)), .val (.int (1 : Int32))] [(.int (1 : Int32))]))
    refine own_go (fun _ k => XS.ifNo X25.here hx rfl (hb hby at_145) rfl ((if0 _ _).trans (feq (by decide : ¬ ((1 : Int32) = (0 : Int32)))).1) k) ?_
    show own_Fin p.tables e below _ (T25.setTop (mkF m 148 #[.val (.int p1), .val (.long q2), .second, .val (.long q3), .second, .val (.long q4), .second, .val (.long q5), .second, .val (.long q6), .second, .val (.int (p1 &&& (3 : Int32))), .val (.long (((q2 ^^^ (-1 : Int64)).toUInt64 >>> ((20 : Int32) &&& 0x3f).toInt64.toUInt64).toInt64)), .second, .val (.ref b1), .val (.ref b4), .val (.ref b7), .val (.int (1 : Int32)), .val (.int (1 : Int32)), .val (.int (1 : Int32)), .val (.int (1 : Int32)), .val (.int (1 : Int32))] []))
    refine own_go (fun _ k => XS.iload X25.here hx rfl (hb hby at_148) rfl k) ?_
    show own_Fin p.tables e below _ (T25.setTop (mkF m 150 #[.val (.int p1), .val (.long q2), .second, .val (.long q3), .second, .val (.long q4), .second, .val (.long q5), .second, .val (.long q6), .second, .val (.int (p1 &&& (3 : Int32))), .val (.long (((q2 ^^^ (-1 : Int64)).toUInt64 >>> ((20 : Int32) &&& 0x3f).toInt64.toUInt64).toInt64)), .second, .val (.ref b1), .val (.ref b4), .val (.ref b7), .val (.int (1 : Int32)), .val (.int (1 : Int32)), .val (.int (1 : Int32)), .val (.int (1 : Int32)), .val (.int (1 : Int32))] [(.int (1 : Int32))]))
    refine own_go (fun _ k => XS.ifNo X25.here hx rfl (hb hby at_150) rfl ((if0 _ _).trans (feq (by decide : ¬ ((1 : Int32) = (0 : Int32)))).1) k) ?_
    show own_Fin p.tables e below _ (T25.setTop (mkF m 153 #[.val (.int p1), .val (.long q2), .second, .val (.long q3), .second, .val (.long q4), .second, .val (.long q5), .second, .val (.long q6), .second, .val (.int (p1 &&& (3 : Int32))), .val (.long (((q2 ^^^ (-1 : Int64)).toUInt64 >>> ((20 : Int32) &&& 0x3f).toInt64.toUInt64).toInt64)), .second, .val (.ref b1), .val (.ref b4), .val (.ref b7), .val (.int (1 : Int32)), .val (.int (1 : Int32)), .val (.int (1 : Int32)), .val (.int (1 : Int32)), .val (.int (1 : Int32))] []))
    refine own_go (fun _ k => XS.iload X25.here hx rfl (hb hby at_153) rfl k) ?_
    show own_Fin p.tables e below _ (T25.setTop (mkF m 155 #[.val (.int p1), .val (.long q2), .second, .val (.long q3), .second, .val (.long q4), .second, .val (.long q5), .second, .val (.long q6), .second, .val (.int (p1 &&& (3 : Int32))), .val (.long (((q2 ^^^ (-1 : Int64)).toUInt64 >>> ((20 : Int32) &&& 0x3f).toInt64.toUInt64).toInt64)), .second, .val (.ref b1), .val (.ref b4), .val (.ref b7), .val (.int (1 : Int32)), .val (.int (1 : Int32)), .val (.int (1 : Int32)), .val (.int (1 : Int32)), .val (.int (1 : Int32))] [(.int (1 : Int32))]))
    refine own_go (fun _ k => XS.ifNo X25.here hx rfl (hb hby at_155) rfl ((if0 _ _).trans (feq (by decide : ¬ ((1 : Int32) = (0 : Int32)))).1) k) ?_
    show own_Fin p.tables e below _ (T25.setTop (mkF m 158 #[.val (.int p1), .val (.long q2), .second, .val (.long q3), .second, .val (.long q4), .second, .val (.long q5), .second, .val (.long q6), .second, .val (.int (p1 &&& (3 : Int32))), .val (.long (((q2 ^^^ (-1 : Int64)).toUInt64 >>> ((20 : Int32) &&& 0x3f).toInt64.toUInt64).toInt64)), .second, .val (.ref b1), .val (.ref b4), .val (.ref b7), .val (.int (1 : Int32)), .val (.int (1 : Int32)), .val (.int (1 : Int32)), .val (.int (1 : Int32)), .val (.int (1 : Int32))] []))
    refine own_go (fun _ k => XS.iload X25.here hx rfl (hb hby at_158) rfl k) ?_
    show own_Fin p.tables e below _ (T25.setTop (mkF m 160 #[.val (.int p1), .val (.long q2), .second, .val (.long q3), .second, .val (.long q4), .second, .val (.long q5), .second, .val (.long q6), .second, .val (.int (p1 &&& (3 : Int32))), .val (.long (((q2 ^^^ (-1 : Int64)).toUInt64 >>> ((20 : Int32) &&& 0x3f).toInt64.toUInt64).toInt64)), .second, .val (.ref b1), .val (.ref b4), .val (.ref b7), .val (.int (1 : Int32)), .val (.int (1 : Int32)), .val (.int (1 : Int32)), .val (.int (1 : Int32)), .val (.int (1 : Int32))] [(.int (1 : Int32))]))
    refine own_go (fun _ k => XS.ifNo X25.here hx rfl (hb hby at_160) rfl ((if0 _ _).trans (feq (by decide : ¬ ((1 : Int32) = (0 : Int32)))).1) k) ?_
    show own_Fin p.tables e below _ (T25.setTop (mkF m 163 #[.val (.int p1), .val (.long q2), .second, .val (.long q3), .second, .val (.long q4), .second, .val (.long q5), .second, .val (.long q6), .second, .val (.int (p1 &&& (3 : Int32))), .val (.long (((q2 ^^^ (-1 : Int64)).toUInt64 >>> ((20 : Int32) &&& 0x3f).toInt64.toUInt64).toInt64)), .second, .val (.ref b1), .val (.ref b4), .val (.ref b7), .val (.int (1 : Int32)), .val (.int (1 : Int32)), .val (.int (1 : Int32)), .val (.int (1 : Int32)), .val (.int (1 : Int32))] []))
    refine own_go (fun _ k => XS.iload X25.here hx rfl (hb hby at_163) rfl k) ?_
    show own_Fin p.tables e below _ (T25.setTop (mkF m 165 #[.val (.int p1), .val (.long q2), .second, .val (.long q3), .second, .val (.long q4), .second, .val (.long q5), .second, .val (.long q6), .second, .val (.int (p1 &&& (3 : Int32))), .val (.long (((q2 ^^^ (-1 : Int64)).toUInt64 >>> ((20 : Int32) &&& 0x3f).toInt64.toUInt64).toInt64)), .second, .val (.ref b1), .val (.ref b4), .val (.ref b7), .val (.int (1 : Int32)), .val (.int (1 : Int32)), .val (.int (1 : Int32)), .val (.int (1 : Int32)), .val (.int (1 : Int32))] [(.int (1 : Int32))]))
    refine own_go (fun _ k => XS.ifNo X25.here hx rfl (hb hby at_165) rfl ((if0 _ _).trans (feq (by decide : ¬ ((1 : Int32) = (0 : Int32)))).1) k) ?_
    show own_Fin p.tables e below _ (T25.setTop (mkF m 168 #[.val (.int p1), .val (.long q2), .second, .val (.long q3), .second, .val (.long q4), .second, .val (.long q5), .second, .val (.long q6), .second, .val (.int (p1 &&& (3 : Int32))), .val (.long (((q2 ^^^ (-1 : Int64)).toUInt64 >>> ((20 : Int32) &&& 0x3f).toInt64.toUInt64).toInt64)), .second, .val (.ref b1), .val (.ref b4), .val (.ref b7), .val (.int (1 : Int32)), .val (.int (1 : Int32)), .val (.int (1 : Int32)), .val (.int (1 : Int32)), .val (.int (1 : Int32))] []))
    refine own_go (fun _ k => XS.iconst X25.here hx rfl (hb hby at_168) k) ?_
    show own_Fin p.tables e below _ (T25.setTop (mkF m 169 #[.val (.int p1), .val (.long q2), .second, .val (.long q3), .second, .val (.long q4), .second, .val (.long q5), .second, .val (.long q6), .second, .val (.int (p1 &&& (3 : Int32))), .val (.long (((q2 ^^^ (-1 : Int64)).toUInt64 >>> ((20 : Int32) &&& 0x3f).toInt64.toUInt64).toInt64)), .second, .val (.ref b1), .val (.ref b4), .val (.ref b7), .val (.int (1 : Int32)), .val (.int (1 : Int32)), .val (.int (1 : Int32)), .val (.int (1 : Int32)), .val (.int (1 : Int32))] [(.int (1 : Int32))]))
    refine own_go (fun _ k => XS.goto X25.here hx rfl (pc0 := 169) (pc' := 173) rfl (hb hby at_169) (by decide) (by decide) k) ?_
    show own_Fin p.tables e below _ (T25.setTop (mkF m 173 #[.val (.int p1), .val (.long q2), .second, .val (.long q3), .second, .val (.long q4), .second, .val (.long q5), .second, .val (.long q6), .second, .val (.int (p1 &&& (3 : Int32))), .val (.long (((q2 ^^^ (-1 : Int64)).toUInt64 >>> ((20 : Int32) &&& 0x3f).toInt64.toUInt64).toInt64)), .second, .val (.ref b1), .val (.ref b4), .val (.ref b7), .val (.int (1 : Int32)), .val (.int (1 : Int32)), .val (.int (1 : Int32)), .val (.int (1 : Int32)), .val (.int (1 : Int32))] [(.int (1 : Int32))]))
    obtain ⟨fs, hr, hrun, hended, hW, hsame⟩ := X25.leave (v := some (.int (1 : Int32))) (fun h => by rw [Bd.returns] at h; cases h)
    refine ⟨_, _, ?_, hrun, hended, _, _, rfl, ?_, ⟨_, rfl⟩, hW, hsame.mono (by decide) (by decide)⟩
    · exact retN X25 hx (t := .boolean) Bd.returns (by simp) (hb hby at_173) hr
    · show Q_own_law Z p1 q2 q3 q4 q5 q6 tu h0 n0 _ T25.heap _
      exact ⟨rfl, N25⟩
  · refine own_go (fun _ k => XS.ifNo X0.here hx rfl (hb hby at_8) rfl ((if0 _ _).trans (flt (fun q => hc8 ((lw_lt _ _).mp q))).1) k) ?_
    show own_Fin p.tables e below _ (s₁.setTop (mkF m 11 #[.val (.int p1), .val (.long q2), .second, .val (.long q3), .second, .val (.long q4), .second, .val (.long q5), .second, .val (.long q6), .second, .val (.int (p1 &&& (3 : Int32))), .unset, .unset, .unset, .unset, .unset, .unset, .unset, .unset, .unset, .unset] []))
    refine own_go (fun _ k => XS.lloadN X0.here hx rfl (hb hby at_11) rfl k) ?_
    show own_Fin p.tables e below _ (s₁.setTop (mkF m 12 #[.val (.int p1), .val (.long q2), .second, .val (.long q3), .second, .val (.long q4), .second, .val (.long q5), .second, .val (.long q6), .second, .val (.int (p1 &&& (3 : Int32))), .unset, .unset, .unset, .unset, .unset, .unset, .unset, .unset, .unset, .unset] [(.long q2)]))
    refine own_go (fun _ k => XS.goto X0.here hx rfl (pc0 := 12) (pc' := 23) rfl (hb hby at_12) (by decide) (by decide) k) ?_
    show own_Fin p.tables e below _ (s₁.setTop (mkF m 23 #[.val (.int p1), .val (.long q2), .second, .val (.long q3), .second, .val (.long q4), .second, .val (.long q5), .second, .val (.long q6), .second, .val (.int (p1 &&& (3 : Int32))), .unset, .unset, .unset, .unset, .unset, .unset, .unset, .unset, .unset, .unset] [(.long q2)]))
    refine own_go (fun _ k => XS.lstore X0.here hx rfl (hb hby at_23) rfl (l' := #[.val (.int p1), .val (.long q2), .second, .val (.long q3), .second, .val (.long q4), .second, .val (.long q5), .second, .val (.long q6), .second, .val (.int (p1 &&& (3 : Int32))), .val (.long q2), .second, .unset, .unset, .unset, .unset, .unset, .unset, .unset, .unset]) rfl k) ?_
    show own_Fin p.tables e below _ (s₁.setTop (mkF m 25 #[.val (.int p1), .val (.long q2), .second, .val (.long q3), .second, .val (.long q4), .second, .val (.long q5), .second, .val (.long q6), .second, .val (.int (p1 &&& (3 : Int32))), .val (.long q2), .second, .unset, .unset, .unset, .unset, .unset, .unset, .unset, .unset] []))
    refine own_go (fun _ k => XS.iconst X0.here hx rfl (hb hby at_25) k) ?_
    show own_Fin p.tables e below _ (s₁.setTop (mkF m 26 #[.val (.int p1), .val (.long q2), .second, .val (.long q3), .second, .val (.long q4), .second, .val (.long q5), .second, .val (.long q6), .second, .val (.int (p1 &&& (3 : Int32))), .val (.long q2), .second, .unset, .unset, .unset, .unset, .unset, .unset, .unset, .unset] [(.int (5 : Int32))]))
    obtain ⟨T28, h28, k28, X28, e28, E28, A28, st28⟩ := newP X0 hx hZ (hw _ (List.mem_of_getElem? (i := 0) rfl)) e0 (g := (mkF m 26 #[.val (.int p1), .val (.long q2), .second, .val (.long q3), .second, .val (.long q4), .second, .val (.long q5), .second, .val (.long q6), .second, .val (.int (p1 &&& (3 : Int32))), .val (.long q2), .second, .unset, .unset, .unset, .unset, .unset, .unset, .unset, .unset] [(.int (5 : Int32))])) rfl (hb hby at_26) rfl (by decide) (cap := 5) (by decide) (by decide) (by decide) (by decide)
    obtain ⟨b28, g28⟩ : ∃ z, z = h0.size := ⟨_, rfl⟩
    rw [← g28] at A28 st28
    have g_b28 : n0 ≤ b28 := Nat.le_trans Z0 (Nat.le_of_eq g28.symm)
    refine own_go st28 ?_
    have f29_0 : Old Z n0 h28 := O0.ext E28
    have Z30 : n0 ≤ h28.size := Nat.le_trans Z0 E28.1
    have V28 : Arv Z h28 b28 k28 .long (5 : Int32) [(.long (0 : Int64)), (.long (0 : Int64)), (.long (0 : Int64)), (.long (0 : Int64)), (.long (0 : Int64))] (.long (0 : Int64)) := (Arv.new A28 (by decide)).pad (pad_rep [] (.long (0 : Int64)) 5)
    show own_Fin p.tables e below _ (T28.setTop (mkF m 28 #[.val (.int p1), .val (.long q2), .second, .val (.long q3), .second, .val (.long q4), .second, .val (.long q5), .second, .val (.long q6), .second, .val (.int (p1 &&& (3 : Int32))), .val (.long q2), .second, .unset, .unset, .unset, .unset, .unset, .unset, .unset, .unset] [(.ref b28)]))
    refine own_go (fun _ k => XS.astore X28.here hx rfl (hb hby at_28) rfl rfl (l' := #[.val (.int p1), .val (.long q2), .second, .val (.long q3), .second, .val (.long q4), .second, .val (.long q5), .second, .val (.long q6), .second, .val (.int (p1 &&& (3 : Int32))), .val (.long q2), .second, .val (.ref b28), .unset, .unset, .unset, .unset, .unset, .unset, .unset]) rfl k) ?_
    show own_Fin p.tables e below _ (T28.setTop (mkF m 30 #[.val (.int p1), .val (.long q2), .second, .val (.long q3), .second, .val (.long q4), .second, .val (.long q5), .second, .val (.long q6), .second, .val (.int (p1 &&& (3 : Int32))), .val (.long q2), .second, .val (.ref b28), .unset, .unset, .unset, .unset, .unset, .unset, .unset] []))
    refine own_go (fun _ k => XS.iconst X28.here hx rfl (hb hby at_30) k) ?_
    show own_Fin p.tables e below _ (T28.setTop (mkF m 31 #[.val (.int p1), .val (.long q2), .second, .val (.long q3), .second, .val (.long q4), .second, .val (.long q5), .second, .val (.long q6), .second, .val (.int (p1 &&& (3 : Int32))), .val (.long q2), .second, .val (.ref b28), .unset, .unset, .unset, .unset, .unset, .unset, .unset] [(.int (1 : Int32))]))
    obtain ⟨T31, h31, k31, X31, e31, E31, A31, st31⟩ := newP X28 hx hZ (hw _ (List.mem_of_getElem? (i := 1) rfl)) e28 (g := (mkF m 31 #[.val (.int p1), .val (.long q2), .second, .val (.long q3), .second, .val (.long q4), .second, .val (.long q5), .second, .val (.long q6), .second, .val (.int (p1 &&& (3 : Int32))), .val (.long q2), .second, .val (.ref b28), .unset, .unset, .unset, .unset, .unset, .unset, .unset] [(.int (1 : Int32))])) rfl (hb hby at_31) rfl (by decide) (cap := 1) (by decide) (by decide) (by decide) (by decide)
    obtain ⟨b31, g31⟩ : ∃ z, z = h28.size := ⟨_, rfl⟩
    rw [← g31] at A31 st31
    have ne_b28_b31 : b28 ≠ b31 := Nat.ne_of_lt (Nat.lt_of_lt_of_le V28.lt (Nat.le_of_eq g31.symm))
    have g_b31 : n0 ≤ b31 := Nat.le_trans Z30 (Nat.le_of_eq g31.symm)
    refine own_go st31 ?_
    have f32_0 : Old Z n0 h31 := f29_0.ext E31
    have f32_5 : Arv Z h31 b28 k28 .long (5 : Int32) [(.long (0 : Int64)), (.long (0 : Int64)), (.long (0 : Int64)), (.long (0 : Int64)), (.long (0 : Int64))] (.long (0 : Int64)) := V28.ext E31
    have Z33 : n0 ≤ h31.size := Nat.le_trans Z30 E31.1
    have V31 : Arv Z h31 b31 k31 .int (1 : Int32) [(.int (0 : Int32))] (.int (0 : Int32)) := (Arv.new A31 (by decide)).pad (pad_rep [] (.int (0 : Int32)) 1)
    show own_Fin p.tables e below _ (T31.setTop (mkF m 33 #[.val (.int p1), .val (.long q2), .second, .val (.long q3), .second, .val (.long q4), .second, .val (.long q5), .second, .val (.long q6), .second, .val (.int (p1 &&& (3 : Int32))), .val (.long q2), .second, .val (.ref b28), .unset, .unset, .unset, .unset, .unset, .unset, .unset] [(.ref b31)]))
    refine own_go (fun _ k => XS.astore X31.here hx rfl (hb hby at_33) rfl rfl (l' := #[.val (.int p1), .val (.long q2), .second, .val (.long q3), .second, .val (.long q4), .second, .val (.long q5), .second, .val (.long q6), .second, .val (.int (p1 &&& (3 : Int32))), .val (.long q2), .second, .val (.ref b28), .val (.ref b31), .unset, .unset, .unset, .unset, .unset, .unset]) rfl k) ?_
    show own_Fin p.tables e below _ (T31.setTop (mkF m 35 #[.val (.int p1), .val (.long q2), .second, .val (.long q3), .second, .val (.long q4), .second, .val (.long q5), .second, .val (.long q6), .second, .val (.int (p1 &&& (3 : Int32))), .val (.long q2), .second, .val (.ref b28), .val (.ref b31), .unset, .unset, .unset, .unset, .unset, .unset] []))
    obtain ⟨T34, h34, X34, e34, E34, A34, D34, -, st34⟩ := newO X31 hx hZ hown (hw _ (List.mem_of_getElem? (i := 2) rfl)) (hw _ (List.mem_of_getElem? (i := 3) rfl)) (hw _ (List.mem_of_getElem? (i := 4) rfl)) e31 (g := (mkF m 35 #[.val (.int p1), .val (.long q2), .second, .val (.long q3), .second, .val (.long q4), .second, .val (.long q5), .second, .val (.long q6), .second, .val (.int (p1 &&& (3 : Int32))), .val (.long q2), .second, .val (.ref b28), .val (.ref b31), .unset, .unset, .unset, .unset, .unset, .unset] [])) rfl (hb hby at_35) (by decide) (by decide)
    obtain ⟨b34, g34⟩ : ∃ z, z = h31.size := ⟨_, rfl⟩
    rw [← g34] at A34 D34 st34
    have ne_b28_b34 : b28 ≠ b34 := Nat.ne_of_lt (Nat.lt_of_lt_of_le f32_5.lt (Nat.le_of_eq g34.symm))
    have ne_b31_b34 : b31 ≠ b34 := Nat.ne_of_lt (Nat.lt_of_lt_of_le V31.lt (Nat.le_of_eq g34.symm))
    have g_b34 : n0 ≤ b34 := Nat.le_trans Z33 (Nat.le_of_eq g34.symm)
    refine own_go st34 ?_
    have f35_0 : Old Z n0 h34 := f32_0.ext E34
    have f35_5 : Arv Z h34 b28 k28 .long (5 : Int32) [(.long (0 : Int64)), (.long (0 : Int64)), (.long (0 : Int64)), (.long (0 : Int64)), (.long (0 : Int64))] (.long (0 : Int64)) := f32_5.ext E34
    have f35_6 : Arv Z h34 b31 k31 .int (1 : Int32) [(.int (0 : Int32))] (.int (0 : Int32)) := V31.ext E34
    have Z36 : n0 ≤ h34.size := Nat.le_trans Z33 E34.1
    have F34_12 : Fld Z h34 b34 "com/example/ferrybell/ferrybell/runtime/Restarts" "iTimes" "[J" .null := D34 (Or.inl (hw _ (List.mem_of_getElem? (i := 12) rfl))) (ty := (.array .long)) (by decide)
    have F34_14 : Fld Z h34 b34 "com/example/ferrybell/ferrybell/runtime/Restarts" "iKept" "I" (.int (0 : Int32)) := D34 (Or.inr (hw _ (List.mem_of_getElem? (i := 14) rfl))) (ty := .int) (by decide)
    have F34_34 : Fld Z h34 b34 "com/example/ferrybell/ferrybell/runtime/Restarts" "iCount" "J" (.long (0 : Int64)) := D34 (Or.inl (hw _ (List.mem_of_getElem? (i := 34) rfl))) (ty := .long) (by decide)
    have F34_41 : Fld Z h34 b34 "com/example/ferrybell/ferrybell/runtime/Restarts" "iSize" "I" (.int (0 : Int32)) := D34 (Or.inl (hw _ (List.mem_of_getElem? (i := 41) rfl))) (ty := .int) (by decide)
    have F34_63 : Fld Z h34 b34 "com/example/ferrybell/ferrybell/runtime/Restarts" "iOldest" "I" (.int (0 : Int32)) := D34 (Or.inl (hw _ (List.mem_of_getElem? (i := 63) rfl))) (ty := .int) (by decide)
    show own_Fin p.tables e below _ (T34.setTop (mkF m 38 #[.val (.int p1), .val (.long q2), .second, .val (.long q3), .second, .val (.long q4), .second, .val (.long q5), .second, .val (.long q6), .second, .val (.int (p1 &&& (3 : Int32))), .val (.long q2), .second, .val (.ref b28), .val (.ref b31), .unset, .unset, .unset, .unset, .unset, .unset] [(.ref b34)]))
    refine own_go (fun _ k => XS.dup X34.here hx rfl (hb hby at_38) rfl rfl k) ?_
    show own_Fin p.tables e below _ (T34.setTop (mkF m 39 #[.val (.int p1), .val (.long q2), .second, .val (.long q3), .second, .val (.long q4), .second, .val (.long q5), .second, .val (.long q6), .second, .val (.int (p1 &&& (3 : Int32))), .val (.long q2), .second, .val (.ref b28), .val (.ref b31), .unset, .unset, .unset, .unset, .unset, .unset] [(.ref b34), (.ref b34)]))
    refine own_go (fun _ k => XS.iload X34.here hx rfl (hb hby at_39) rfl k) ?_
    show own_Fin p.tables e below _ (T34.setTop (mkF m 41 #[.val (.int p1), .val (.long q2), .second, .val (.long q3), .second, .val (.long q4), .second, .val (.long q5), .second, .val (.long q6), .second, .val (.int (p1 &&& (3 : Int32))), .val (.long q2), .second, .val (.ref b28), .val (.ref b31), .unset, .unset, .unset, .unset, .unset, .unset] [(.int (p1 &&& (3 : Int32))), (.ref b34), (.ref b34)]))
    obtain ⟨_, _, ⟨T37, L37, k37, n37⟩, -, X37, ⟨Lc37, hQ37, l37, y37, z37⟩, st37⟩ := X34.specialBack hx (y := (⟨"com/example/ferrybell/ferrybell/runtime/Restarts", "<init>", "(I)V"⟩ : MethodName)) rfl hown (mvT hZ (hw _ (List.mem_of_getElem? (i := 5) rfl))) (mvT hZ (hw _ (List.mem_of_getElem? (i := 6) rfl))) (mvT hZ (hw _ (List.mem_of_getElem? (i := 7) rfl))) (by decide) (backOf (W := 1) (own_init l Z a0 hw [] b34 (p1 &&& (3 : Int32)) h34 n0 Z36 A34 F34_12 F34_14 F34_34 F34_63 F34_41 g_b34) hZ (hw _ (List.mem_of_getElem? (i := 7) rfl)) (hw _ (List.mem_of_getElem? (i := 4) rfl)) (by decide) (by decide)) (g := (mkF m 41 #[.val (.int p1), .val (.long q2), .second, .val (.long q3), .second, .val (.long q4), .second, .val (.long q5), .second, .val (.long q6), .second, .val (.int (p1 &&& (3 : Int32))), .val (.long q2), .second, .val (.ref b28), .val (.ref b31), .unset, .unset, .unset, .unset, .unset, .unset] [(.int (p1 &&& (3 : Int32))), (.ref b34), (.ref b34)])) rfl (by rw [hml]; rfl) (Steps.refl _) (a := b34) (argsL := [(.int (p1 &&& (3 : Int32)))]) (rest := [(.ref b34)]) (lenOf own_pd9 rfl) rfl (by show 2 * 0 + _ ≤ _; exact Nat.le_of_eq rfl) (hb hby at_41) (fun _ _ => ⟨rfl, e34, (by decide : 3 + 1 ≤ _), (by decide : 11 + 0 ≤ _)⟩)
    dsimp only [Pt.U, Pt.locs, Pt.cells, Pt.slots] at X37 l37 y37 z37 st37 hQ37
    subst l37 y37 z37
    obtain ⟨bq37, kq37, hv37, N37q, o37_0, o37_1, o37_2, o37_3, o37_4, o37_5, o37_6, o37_7, o37_8, o37_9, o37_10⟩ := hQ37
    subst hv37
    have N37 := Fr.app N0 N37q
    refine own_go (fun _ k => st37.trans k) ?_
    have ne_b28_bq37 : b28 ≠ bq37 := Nat.ne_of_lt (Nat.lt_of_lt_of_le f35_5.lt o37_1)
    have ne_b31_bq37 : b31 ≠ bq37 := Nat.ne_of_lt (Nat.lt_of_lt_of_le f35_6.lt o37_1)
    have ne_b34_bq37 : b34 ≠ bq37 := Nat.ne_of_lt (Nat.lt_of_lt_of_le A34.lt o37_1)
    have f38_0 : Old Z n0 T37.heap := f35_0.keep o37_0 (allS g_b34 all0)
    have f38_5 : Arv Z T37.heap b28 k28 .long (5 : Int32) [(.long (0 : Int64)), (.long (0 : Int64)), (.long (0 : Int64)), (.long (0 : Int64)), (.long (0 : Int64))] (.long (0 : Int64)) := f35_5.keep o37_0 (ninS ne_b28_b34 nin0)
    have f38_6 : Arv Z T37.heap b31 k31 .int (1 : Int32) [(.int (0 : Int32))] (.int (0 : Int32)) := f35_6.keep o37_0 (ninS ne_b31_b34 nin0)
    have Z39 : n0 ≤ T37.heap.size := Nat.le_trans Z36 o37_0.1
    show own_Fin p.tables e below _ (T37.setTop (mkF m 44 #[.val (.int p1), .val (.long q2), .second, .val (.long q3), .second, .val (.long q4), .second, .val (.long q5), .second, .val (.long q6), .second, .val (.int (p1 &&& (3 : Int32))), .val (.long q2), .second, .val (.ref b28), .val (.ref b31), .unset, .unset, .unset, .unset, .unset, .unset] [(.ref b34)]))
    refine own_go (fun _ k => XS.astore X37.here hx rfl (hb hby at_44) rfl rfl (l' := #[.val (.int p1), .val (.long q2), .second, .val (.long q3), .second, .val (.long q4), .second, .val (.long q5), .second, .val (.long q6), .second, .val (.int (p1 &&& (3 : Int32))), .val (.long q2), .second, .val (.ref b28), .val (.ref b31), .val (.ref b34), .unset, .unset, .unset, .unset, .unset]) rfl k) ?_
    show own_Fin p.tables e below _ (T37.setTop (mkF m 46 #[.val (.int p1), .val (.long q2), .second, .val (.long q3), .second, .val (.long q4), .second, .val (.long q5), .second, .val (.long q6), .second, .val (.int (p1 &&& (3 : Int32))), .val (.long q2), .second, .val (.ref b28), .val (.ref b31), .val (.ref b34), .unset, .unset, .unset, .unset, .unset] []))
    refine own_go (fun _ k => XS.aload X37.here hx rfl (hb hby at_46) rfl rfl k) ?_
    show own_Fin p.tables e below _ (T37.setTop (mkF m 48 #[.val (.int p1), .val (.long q2), .second, .val (.long q3), .second, .val (.long q4), .second, .val (.long q5), .second, .val (.long q6), .second, .val (.int (p1 &&& (3 : Int32))), .val (.long q2), .second, .val (.ref b28), .val (.ref b31), .val (.ref b34), .unset, .unset, .unset, .unset, .unset] [(.ref b34)]))
    refine own_go (fun _ k => XS.aload X37.here hx rfl (hb hby at_48) rfl rfl k) ?_
    show own_Fin p.tables e below _ (T37.setTop (mkF m 50 #[.val (.int p1), .val (.long q2), .second, .val (.long q3), .second, .val (.long q4), .second, .val (.long q5), .second, .val (.long q6), .second, .val (.int (p1 &&& (3 : Int32))), .val (.long q2), .second, .val (.ref b28), .val (.ref b31), .val (.ref b34), .unset, .unset, .unset, .unset, .unset] [(.ref b28), (.ref b34)]))
    refine own_go (fun _ k => XS.aload X37.here hx rfl (hb hby at_50) rfl rfl k) ?_
    show own_Fin p.tables e below _ (T37.setTop (mkF m 52 #[.val (.int p1), .val (.long q2), .second, .val (.long q3), .second, .val (.long q4), .second, .val (.long q5), .second, .val (.long q6), .second, .val (.int (p1 &&& (3 : Int32))), .val (.long q2), .second, .val (.ref b28), .val (.ref b31), .val (.ref b34), .unset, .unset, .unset, .unset, .unset] [(.ref b31), (.ref b28), (.ref b34)]))
    refine own_go (fun _ k => XS.iloadN X37.here hx rfl (hb hby at_52) rfl k) ?_
    show own_Fin p.tables e below _ (T37.setTop (mkF m 53 #[.val (.int p1), .val (.long q2), .second, .val (.long q3), .second, .val (.long q4), .second, .val (.long q5), .second, .val (.long q6), .second, .val (.int (p1 &&& (3 : Int32))), .val (.long q2), .second, .val (.ref b28), .val (.ref b31), .val (.ref b34), .unset, .unset, .unset, .unset, .unset] [(.int p1), (.ref b31), (.ref b28), (.ref b34)]))
    refine own_go (fun _ k => XS.iconst X37.here hx rfl (hb hby at_53) k) ?_
    show own_Fin p.tables e below _ (T37.setTop (mkF m 54 #[.val (.int p1), .val (.long q2), .second, .val (.long q3), .second, .val (.long q4), .second, .val (.long q5), .second, .val (.long q6), .second, .val (.int (p1 &&& (3 : Int32))), .val (.long q2), .second, .val (.ref b28), .val (.ref b31), .val (.ref b34), .unset, .unset, .unset, .unset, .unset] [(.int (0 : Int32)), (.int p1), (.ref b31), (.ref b28), (.ref b34)]))
    refine own_go (fun _ k => XS.iload X37.here hx rfl (hb hby at_54) rfl k) ?_
    show own_Fin p.tables e below _ (T37.setTop (mkF m 56 #[.val (.int p1), .val (.long q2), .second, .val (.long q3), .second, .val (.long q4), .second, .val (.long q5), .second, .val (.long q6), .second, .val (.int (p1 &&& (3 : Int32))), .val (.long q2), .second, .val (.ref b28), .val (.ref b31), .val (.ref b34), .unset, .unset, .unset, .unset, .unset] [(.int (p1 &&& (3 : Int32))), (.int (0 : Int32)), (.int p1), (.ref b31), (.ref b28), (.ref b34)]))
    refine own_go (fun _ k => XS.lload X37.here hx rfl (hb hby at_56) rfl k) ?_
    show own_Fin p.tables e below _ (T37.setTop (mkF m 58 #[.val (.int p1), .val (.long q2), .second, .val (.long q3), .second, .val (.long q4), .second, .val (.long q5), .second, .val (.long q6), .second, .val (.int (p1 &&& (3 : Int32))), .val (.long q2), .second, .val (.ref b28), .val (.ref b31), .val (.ref b34), .unset, .unset, .unset, .unset, .unset] [(.long q2), (.int (p1 &&& (3 : Int32))), (.int (0 : Int32)), (.int p1), (.ref b31), (.ref b28), (.ref b34)]))
    refine own_go (fun _ k => XS.lloadN X37.here hx rfl (hb hby at_58) rfl k) ?_
    show own_Fin p.tables e below _ (T37.setTop (mkF m 59 #[.val (.int p1), .val (.long q2), .second, .val (.long q3), .second, .val (.long q4), .second, .val (.long q5), .second, .val (.long q6), .second, .val (.int (p1 &&& (3 : Int32))), .val (.long q2), .second, .val (.ref b28), .val (.ref b31), .val (.ref b34), .unset, .unset, .unset, .unset, .unset] [(.long q3), (.long q2), (.int (p1 &&& (3 : Int32))), (.int (0 : Int32)), (.int p1), (.ref b31), (.ref b28), (.ref b34)]))
    obtain ⟨_, _, ⟨T40, L40, k40, n40⟩, -, X40, ⟨Lc40, hQ40, l40, y40, z40⟩, st40⟩ := Jvm.LawKit.callS X37 hx (y := (⟨"com/example/ferrybell/ferrybell/runtime/RestartsTryRestartPinLaw", "step", "(Lcom/example/ferrybell/ferrybell/runtime/Restarts;[J[IIIIJJ)Z"⟩ : MethodName)) hown (mvT hZ (hw _ (List.mem_of_getElem? (i := 15) rfl))) (mvT hZ (hw _ (List.mem_of_getElem? (i := 16) rfl))) (mvT hZ (hw _ (List.mem_of_getElem? (i := 17) rfl))) (mvT hZ (hw _ (List.mem_of_getElem? (i := 18) rfl))) (by decide) (backOf (W := 0) (own_step l Z a0 hw [] b34 b28 b31 p1 (0 : Int32) (p1 &&& (3 : Int32)) q2 q3 bq37 kq37 k28 k31 [] tu 0 T37.heap n0 Z39 o37_4 o37_5 o37_6 o37_7 (by rw [(own_z (own_kk p1)).1]; exact o37_8) (by rw [(own_z (own_kk p1)).2]; exact o37_9) o37_10 f38_5 f38_6 f38_0 St Et F1 F2 ne_b34_bq37 ne_b28_bq37 ne_b31_bq37 (Ne.symm ne_b28_b34) (Ne.symm ne_b31_b34) ne_b28_b31 g_b34 g_b28 g_b31 o37_2 (own_kk p1) (by decide) (by decide) (own_wp hc8)) hZ (hw _ (List.mem_of_getElem? (i := 18) rfl)) (hw _ (List.mem_of_getElem? (i := 17) rfl)) (by decide) (by decide)) (g := (mkF m 59 #[.val (.int p1), .val (.long q2), .second, .val (.long q3), .second, .val (.long q4), .second, .val (.long q5), .second, .val (.long q6), .second, .val (.int (p1 &&& (3 : Int32))), .val (.long q2), .second, .val (.ref b28), .val (.ref b31), .val (.ref b34), .unset, .unset, .unset, .unset, .unset] [(.long q3), (.long q2), (.int (p1 &&& (3 : Int32))), (.int (0 : Int32)), (.int p1), (.ref b31), (.ref b28), (.ref b34)])) rfl (by rw [hml]; rfl) (argsL := [(.ref b34), (.ref b28), (.ref b31), (.int p1), (.int (0 : Int32)), (.int (p1 &&& (3 : Int32))), (.long q2), (.long q3)]) (rest := []) (lenOf own_pd10 rfl) rfl (by show 2 * 0 + _ ≤ _; exact Nat.le_of_eq rfl) (hb hby at_59) (fun _ _ => ⟨rfl, rfl, (by decide : 4 + 1 ≤ _), (by decide : 11 + 3 ≤ _)⟩)
    dsimp only [Pt.U, Pt.locs, Pt.cells, Pt.slots] at X40 l40 y40 z40 st40 hQ40
    subst l40 y40 z40
    obtain ⟨tq40, tb40, kb40, hv40, N40q, o40_0, o40_1, o40_2, o40_3, o40_4, o40_5, o40_6, o40_7, o40_8, o40_9, o40_10, o40_11, o40_12, o40_13, o40_14⟩ := hQ40
    subst hv40
    have N40 := Fr.app N37 N40q
    refine own_go st40 ?_
    have f41_0 : Old Z n0 T40.heap := f38_0.keep o40_0 (allS g_b34 (allS g_b28 (allS g_b31 (allS o37_2 all0))))
    have Z42 : n0 ≤ T40.heap.size := Nat.le_trans Z39 o40_0.1
    show own_Fin p.tables e below _ (T40.setTop (mkF m 62 #[.val (.int p1), .val (.long q2), .second, .val (.long q3), .second, .val (.long q4), .second, .val (.long q5), .second, .val (.long q6), .second, .val (.int (p1 &&& (3 : Int32))), .val (.long q2), .second, .val (.ref b28), .val (.ref b31), .val (.ref b34), .unset, .unset, .unset, .unset, .unset] [(.int (1 : Int32))]))
    refine own_go (fun _ k => XS.istore X40.here hx rfl (hb hby at_62) rfl (l' := #[.val (.int p1), .val (.long q2), .second, .val (.long q3), .second, .val (.long q4), .second, .val (.long q5), .second, .val (.long q6), .second, .val (.int (p1 &&& (3 : Int32))), .val (.long q2), .second, .val (.ref b28), .val (.ref b31), .val (.ref b34), .val (.int (1 : Int32)), .unset, .unset, .unset, .unset]) rfl k) ?_
    show own_Fin p.tables e below _ (T40.setTop (mkF m 64 #[.val (.int p1), .val (.long q2), .second, .val (.long q3), .second, .val (.long q4), .second, .val (.long q5), .second, .val (.long q6), .second, .val (.int (p1 &&& (3 : Int32))), .val (.long q2), .second, .val (.ref b28), .val (.ref b31), .val (.ref b34), .val (.int (1 : Int32)), .unset, .unset, .unset, .unset] []))
    refine own_go (fun _ k => XS.aload X40.here hx rfl (hb hby at_64) rfl rfl k) ?_
    show own_Fin p.tables e below _ (T40.setTop (mkF m 66 #[.val (.int p1), .val (.long q2), .second, .val (.long q3), .second, .val (.long q4), .second, .val (.long q5), .second, .val (.long q6), .second, .val (.int (p1 &&& (3 : Int32))), .val (.long q2), .second, .val (.ref b28), .val (.ref b31), .val (.ref b34), .val (.int (1 : Int32)), .unset, .unset, .unset, .unset] [(.ref b34)]))
    refine own_go (fun _ k => XS.aload X40.here hx rfl (hb hby at_66) rfl rfl k) ?_
    show own_Fin p.tables e below _ (T40.setTop (mkF m 68 #[.val (.int p1), .val (.long q2), .second, .val (.long q3), .second, .val (.long q4), .second, .val (.long q5), .second, .val (.long q6), .second, .val (.int (p1 &&& (3 : Int32))), .val (.long q2), .second, .val (.ref b28), .val (.ref b31), .val (.ref b34), .val (.int (1 : Int32)), .unset, .unset, .unset, .unset] [(.ref b28), (.ref b34)]))
    refine own_go (fun _ k => XS.aload X40.here hx rfl (hb hby at_68) rfl rfl k) ?_
    show own_Fin p.tables e below _ (T40.setTop (mkF m 70 #[.val (.int p1), .val (.long q2), .second, .val (.long q3), .second, .val (.long q4), .second, .val (.long q5), .second, .val (.long q6), .second, .val (.int (p1 &&& (3 : Int32))), .val (.long q2), .second, .val (.ref b28), .val (.ref b31), .val (.ref b34), .val (.int (1 : Int32)), .unset, .unset, .unset, .unset] [(.ref b31), (.ref b28), (.ref b34)]))
    refine own_go (fun _ k => XS.iloadN X40.here hx rfl (hb hby at_70) rfl k) ?_
    show own_Fin p.tables e below _ (T40.setTop (mkF m 71 #[.val (.int p1), .val (.long q2), .second, .val (.long q3), .second, .val (.long q4), .second, .val (.long q5), .second, .val (.long q6), .second, .val (.int (p1 &&& (3 : Int32))), .val (.long q2), .second, .val (.ref b28), .val (.ref b31), .val (.ref b34), .val (.int (1 : Int32)), .unset, .unset, .unset, .unset] [(.int p1), (.ref b31), (.ref b28), (.ref b34)]))
    refine own_go (fun _ k => XS.iconst X40.here hx rfl (hb hby at_71) k) ?_
    show own_Fin p.tables e below _ (T40.setTop (mkF m 72 #[.val (.int p1), .val (.long q2), .second, .val (.long q3), .second, .val (.long q4), .second, .val (.long q5), .second, .val (.long q6), .second, .val (.int (p1 &&& (3 : Int32))), .val (.long q2), .second, .val (.ref b28), .val (.ref b31), .val (.ref b34), .val (.int (1 : Int32)), .unset, .unset, .unset, .unset] [(.int (1 : Int32)), (.int p1), (.ref b31), (.ref b28), (.ref b34)]))
    refine own_go (fun _ k => XS.iload X40.here hx rfl (hb hby at_72) rfl k) ?_
    show own_Fin p.tables e below _ (T40.setTop (mkF m 74 #[.val (.int p1), .val (.long q2), .second, .val (.long q3), .second, .val (.long q4), .second, .val (.long q5), .second, .val (.long q6), .second, .val (.int (p1 &&& (3 : Int32))), .val (.long q2), .second, .val (.ref b28), .val (.ref b31), .val (.ref b34), .val (.int (1 : Int32)), .unset, .unset, .unset, .unset] [(.int (p1 &&& (3 : Int32))), (.int (1 : Int32)), (.int p1), (.ref b31), (.ref b28), (.ref b34)]))
    refine own_go (fun _ k => XS.lload X40.here hx rfl (hb hby at_74) rfl k) ?_
    show own_Fin p.tables e below _ (T40.setTop (mkF m 76 #[.val (.int p1), .val (.long q2), .second, .val (.long q3), .second, .val (.long q4), .second, .val (.long q5), .second, .val (.long q6), .second, .val (.int (p1 &&& (3 : Int32))), .val (.long q2), .second, .val (.ref b28), .val (.ref b31), .val (.ref b34), .val (.int (1 : Int32)), .unset, .unset, .unset, .unset] [(.long q2), (.int (p1 &&& (3 : Int32))), (.int (1 : Int32)), (.int p1), (.ref b31), (.ref b28), (.ref b34)]))
    refine own_go (fun _ k => XS.lload X40.here hx rfl (hb hby at_76) rfl k) ?_
    show own_Fin p.tables e below _ (T40.setTop (mkF m 78 #[.val (.int p1), .val (.long q2), .second, .val (.long q3), .second, .val (.long q4), .second, .val (.long q5), .second, .val (.long q6), .second, .val (.int (p1 &&& (3 : Int32))), .val (.long q2), .second, .val (.ref b28), .val (.ref b31), .val (.ref b34), .val (.int (1 : Int32)), .unset, .unset, .unset, .unset] [(.long q4), (.long q2), (.int (p1 &&& (3 : Int32))), (.int (1 : Int32)), (.int p1), (.ref b31), (.ref b28), (.ref b34)]))
    obtain ⟨_, _, ⟨T43, L43, k43, n43⟩, -, X43, ⟨Lc43, hQ43, l43, y43, z43⟩, st43⟩ := Jvm.LawKit.callS X40 hx (y := (⟨"com/example/ferrybell/ferrybell/runtime/RestartsTryRestartPinLaw", "step", "(Lcom/example/ferrybell/ferrybell/runtime/Restarts;[J[IIIIJJ)Z"⟩ : MethodName)) hown (mvT hZ (hw _ (List.mem_of_getElem? (i := 15) rfl))) (mvT hZ (hw _ (List.mem_of_getElem? (i := 16) rfl))) (mvT hZ (hw _ (List.mem_of_getElem? (i := 17) rfl))) (mvT hZ (hw _ (List.mem_of_getElem? (i := 18) rfl))) (by decide) (backOf (W := 0) (own_step l Z a0 hw [] b34 b28 b31 p1 (1 : Int32) (p1 &&& (3 : Int32)) q2 q4 tb40 kb40 k28 k31 tq40 tu 1 T40.heap n0 Z42 o40_1 o40_2 o40_3 o40_4 o40_5 o40_6 o40_7 o40_8 o40_9 f41_0 St Et F1 F2 o40_11 o40_12 o40_13 (Ne.symm ne_b28_b34) (Ne.symm ne_b31_b34) ne_b28_b31 g_b34 g_b28 g_b31 o40_10 (own_kk p1) (by decide) o40_14 (own_wp hc8)) hZ (hw _ (List.mem_of_getElem? (i := 18) rfl)) (hw _ (List.mem_of_getElem? (i := 17) rfl)) (by decide) (by decide)) (g := (mkF m 78 #[.val (.int p1), .val (.long q2), .second, .val (.long q3), .second, .val (.long q4), .second, .val (.long q5), .second, .val (.long q6), .second, .val (.int (p1 &&& (3 : Int32))), .val (.long q2), .second, .val (.ref b28), .val (.ref b31), .val (.ref b34), .val (.int (1 : Int32)), .unset, .unset, .unset, .unset] [(.long q4), (.long q2), (.int (p1 &&& (3 : Int32))), (.int (1 : Int32)), (.int p1), (.ref b31), (.ref b28), (.ref b34)])) rfl (by rw [hml]; rfl) (argsL := [(.ref b34), (.ref b28), (.ref b31), (.int p1), (.int (1 : Int32)), (.int (p1 &&& (3 : Int32))), (.long q2), (.long q4)]) (rest := []) (lenOf own_pd10 rfl) rfl (by show 2 * 0 + _ ≤ _; exact Nat.le_of_eq rfl) (hb hby at_78) (fun _ _ => ⟨rfl, rfl, (by decide : 5 + 1 ≤ _), (by decide : 14 + 3 ≤ _)⟩)
    dsimp only [Pt.U, Pt.locs, Pt.cells, Pt.slots] at X43 l43 y43 z43 st43 hQ43
    subst l43 y43 z43
    obtain ⟨tq43, tb43, kb43, hv43, N43q, o43_0, o43_1, o43_2, o43_3, o43_4, o43_5, o43_6, o43_7, o43_8, o43_9, o43_10, o43_11, o43_12, o43_13, o43_14⟩ := hQ43
    subst hv43
    have N43 := Fr.app N40 N43q
    refine own_go st43 ?_
    have f44_0 : Old Z n0 T43.heap := f41_0.keep o43_0 (allS g_b34 (allS g_b28 (allS g_b31 (allS o40_10 all0))))
    have Z45 : n0 ≤ T43.heap.size := Nat.le_trans Z42 o43_0.1
    show own_Fin p.tables e below _ (T43.setTop (mkF m 81 #[.val (.int p1), .val (.long q2), .second, .val (.long q3), .second, .val (.long q4), .second, .val (.long q5), .second, .val (.long q6), .second, .val (.int (p1 &&& (3 : Int32))), .val (.long q2), .second, .val (.ref b28), .val (.ref b31), .val (.ref b34), .val (.int (1 : Int32)), .unset, .unset, .unset, .unset] [(.int (1 : Int32))]))
    refine own_go (fun _ k => XS.istore X43.here hx rfl (hb hby at_81) rfl (l' := #[.val (.int p1), .val (.long q2), .second, .val (.long q3), .second, .val (.long q4), .second, .val (.long q5), .second, .val (.long q6), .second, .val (.int (p1 &&& (3 : Int32))), .val (.long q2), .second, .val (.ref b28), .val (.ref b31), .val (.ref b34), .val (.int (1 : Int32)), .val (.int (1 : Int32)), .unset, .unset, .unset]) rfl k) ?_
    show own_Fin p.tables e below _ (T43.setTop (mkF m 83 #[.val (.int p1), .val (.long q2), .second, .val (.long q3), .second, .val (.long q4), .second, .val (.long q5), .second, .val (.long q6), .second, .val (.int (p1 &&& (3 : Int32))), .val (.long q2), .second, .val (.ref b28), .val (.ref b31), .val (.ref b34), .val (.int (1 : Int32)), .val (.int (1 : Int32)), .unset, .unset, .unset] []))
    refine own_go (fun _ k => XS.aload X43.here hx rfl (hb hby at_83) rfl rfl k) ?_
    show own_Fin p.tables e below _ (T43.setTop (mkF m 85 #[.val (.int p1), .val (.long q2), .second, .val (.long q3), .second, .val (.long q4), .second, .val (.long q5), .second, .val (.long q6), .second, .val (.int (p1 &&& (3 : Int32))), .val (.long q2), .second, .val (.ref b28), .val (.ref b31), .val (.ref b34), .val (.int (1 : Int32)), .val (.int (1 : Int32)), .unset, .unset, .unset] [(.ref b34)]))
    refine own_go (fun _ k => XS.aload X43.here hx rfl (hb hby at_85) rfl rfl k) ?_
    show own_Fin p.tables e below _ (T43.setTop (mkF m 87 #[.val (.int p1), .val (.long q2), .second, .val (.long q3), .second, .val (.long q4), .second, .val (.long q5), .second, .val (.long q6), .second, .val (.int (p1 &&& (3 : Int32))), .val (.long q2), .second, .val (.ref b28), .val (.ref b31), .val (.ref b34), .val (.int (1 : Int32)), .val (.int (1 : Int32)), .unset, .unset, .unset] [(.ref b28), (.ref b34)]))
    refine own_go (fun _ k => XS.aload X43.here hx rfl (hb hby at_87) rfl rfl k) ?_
    show own_Fin p.tables e below _ (T43.setTop (mkF m 89 #[.val (.int p1), .val (.long q2), .second, .val (.long q3), .second, .val (.long q4), .second, .val (.long q5), .second, .val (.long q6), .second, .val (.int (p1 &&& (3 : Int32))), .val (.long q2), .second, .val (.ref b28), .val (.ref b31), .val (.ref b34), .val (.int (1 : Int32)), .val (.int (1 : Int32)), .unset, .unset, .unset] [(.ref b31), (.ref b28), (.ref b34)]))
    refine own_go (fun _ k => XS.iloadN X43.here hx rfl (hb hby at_89) rfl k) ?_
    show own_Fin p.tables e below _ (T43.setTop (mkF m 90 #[.val (.int p1), .val (.long q2), .second, .val (.long q3), .second, .val (.long q4), .second, .val (.long q5), .second, .val (.long q6), .second, .val (.int (p1 &&& (3 : Int32))), .val (.long q2), .second, .val (.ref b28), .val (.ref b31), .val (.ref b34), .val (.int (1 : Int32)), .val (.int (1 : Int32)), .unset, .unset, .unset] [(.int p1), (.ref b31), (.ref b28), (.ref b34)]))
    refine own_go (fun _ k => XS.iconst X43.here hx rfl (hb hby at_90) k) ?_
    show own_Fin p.tables e below _ (T43.setTop (mkF m 91 #[.val (.int p1), .val (.long q2), .second, .val (.long q3), .second, .val (.long q4), .second, .val (.long q5), .second, .val (.long q6), .second, .val (.int (p1 &&& (3 : Int32))), .val (.long q2), .second, .val (.ref b28), .val (.ref b31), .val (.ref b34), .val (.int (1 : Int32)), .val (.int (1 : Int32)), .unset, .unset, .unset] [(.int (2 : Int32)), (.int p1), (.ref b31), (.ref b28), (.ref b34)]))
    refine own_go (fun _ k => XS.iload X43.here hx rfl (hb hby at_91) rfl k) ?_
    show own_Fin p.tables e below _ (T43.setTop (mkF m 93 #[.val (.int p1), .val (.long q2), .second, .val (.long q3), .second, .val (.long q4), .second, .val (.long q5), .second, .val (.long q6), .second, .val (.int (p1 &&& (3 : Int32))), .val (.long q2), .second, .val (.ref b28), .val (.ref b31), .val (.ref b34), .val (.int (1 : Int32)), .val (.int (1 : Int32)), .unset, .unset, .unset] [(.int (p1 &&& (3 : Int32))), (.int (2 : Int32)), (.int p1), (.ref b31), (.ref b28), (.ref b34)]))
    refine own_go (fun _ k => XS.lload X43.here hx rfl (hb hby at_93) rfl k) ?_
    show own_Fin p.tables e below _ (T43.setTop (mkF m 95 #[.val (.int p1), .val (.long q2), .second, .val (.long q3), .second, .val (.long q4), .second, .val (.long q5), .second, .val (.long q6), .second, .val (.int (p1 &&& (3 : Int32))), .val (.long q2), .second, .val (.ref b28), .val (.ref b31), .val (.ref b34), .val (.int (1 : Int32)), .val (.int (1 : Int32)), .unset, .unset, .unset] [(.long q2), (.int (p1 &&& (3 : Int32))), (.int (2 : Int32)), (.int p1), (.ref b31), (.ref b28), (.ref b34)]))
    refine own_go (fun _ k => XS.lload X43.here hx rfl (hb hby at_95) rfl k) ?_
    show own_Fin p.tables e below _ (T43.setTop (mkF m 97 #[.val (.int p1), .val (.long q2), .second, .val (.long q3), .second, .val (.long q4), .second, .val (.long q5), .second, .val (.long q6), .second, .val (.int (p1 &&& (3 : Int32))), .val (.long q2), .second, .val (.ref b28), .val (.ref b31), .val (.ref b34), .val (.int (1 : Int32)), .val (.int (1 : Int32)), .unset, .unset, .unset] [(.long q5), (.long q2), (.int (p1 &&& (3 : Int32))), (.int (2 : Int32)), (.int p1), (.ref b31), (.ref b28), (.ref b34)]))
    obtain ⟨_, _, ⟨T46, L46, k46, n46⟩, -, X46, ⟨Lc46, hQ46, l46, y46, z46⟩, st46⟩ := Jvm.LawKit.callS X43 hx (y := (⟨"com/example/ferrybell/ferrybell/runtime/RestartsTryRestartPinLaw", "step", "(Lcom/example/ferrybell/ferrybell/runtime/Restarts;[J[IIIIJJ)Z"⟩ : MethodName)) hown (mvT hZ (hw _ (List.mem_of_getElem? (i := 15) rfl))) (mvT hZ (hw _ (List.mem_of_getElem? (i := 16) rfl))) (mvT hZ (hw _ (List.mem_of_getElem? (i := 17) rfl))) (mvT hZ (hw _ (List.mem_of_getElem? (i := 18) rfl))) (by decide) (backOf (W := 0) (own_step l Z a0 hw [] b34 b28 b31 p1 (2 : Int32) (p1 &&& (3 : Int32)) q2 q5 tb43 kb43 k28 k31 tq43 tu 2 T43.heap n0 Z45 o43_1 o43_2 o43_3 o43_4 o43_5 o43_6 o43_7 o43_8 o43_9 f44_0 St Et F1 F2 o43_11 o43_12 o43_13 (Ne.symm ne_b28_b34) (Ne.symm ne_b31_b34) ne_b28_b31 g_b34 g_b28 g_b31 o43_10 (own_kk p1) (by decide) o43_14 (own_wp hc8)) hZ (hw _ (List.mem_of_getElem? (i := 18) rfl)) (hw _ (List.mem_of_getElem? (i := 17) rfl)) (by decide) (by decide)) (g := (mkF m 97 #[.val (.int p1), .val (.long q2), .second, .val (.long q3), .second, .val (.long q4), .second, .val (.long q5), .second, .val (.long q6), .second, .val (.int (p1 &&& (3 : Int32))), .val (.long q2), .second, .val (.ref b28), .val (.ref b31), .val (.ref b34), .val (.int (1 : Int32)), .val (.int (1 : Int32)), .unset, .unset, .unset] [(.long q5), (.long q2), (.int (p1 &&& (3 : Int32))), (.int (2 : Int32)), (.int p1), (.ref b31), (.ref b28), (.ref b34)])) rfl (by rw [hml]; rfl) (argsL := [(.ref b34), (.ref b28), (.ref b31), (.int p1), (.int (2 : Int32)), (.int (p1 &&& (3 : Int32))), (.long q2), (.long q5)]) (rest := []) (lenOf own_pd10 rfl) rfl (by show 2 * 0 + _ ≤ _; exact Nat.le_of_eq rfl) (hb hby at_97) (fun _ _ => ⟨rfl, rfl, (by decide : 6 + 1 ≤ _), (by decide : 17 + 3 ≤ _)⟩)
    dsimp only [Pt.U, Pt.locs, Pt.cells, Pt.slots] at X46 l46 y46 z46 st46 hQ46
    subst l46 y46 z46
    obtain ⟨tq46, tb46, kb46, hv46, N46q, o46_0, o46_1, o46_2, o46_3, o46_4, o46_5, o46_6, o46_7, o46_8, o46_9, o46_10, o46_11, o46_12, o46_13, o46_14⟩ := hQ46
    subst hv46
    have N46 := Fr.app N43 N46q
    refine own_go st46 ?_
    have f47_0 : Old Z n0 T46.heap := f44_0.keep o46_0 (allS g_b34 (allS g_b28 (allS g_b31 (allS o43_10 all0))))
    have Z48 : n0 ≤ T46.heap.size := Nat.le_trans Z45 o46_0.1
    show own_Fin p.tables e below _ (T46.setTop (mkF m 100 #[.val (.int p1), .val (.long q2), .second, .val (.long q3), .second, .val (.long q4), .second, .val (.long q5), .second, .val (.long q6), .second, .val (.int (p1 &&& (3 : Int32))), .val (.long q2), .second, .val (.ref b28), .val (.ref b31), .val (.ref b34), .val (.int (1 : Int32)), .val (.int (1 : Int32)), .unset, .unset, .unset] [(.int (1 : Int32))]))
    refine own_go (fun _ k => XS.istore X46.here hx rfl (hb hby at_100) rfl (l' := #[.val (.int p1), .val (.long q2), .second, .val (.long q3), .second, .val (.long q4), .second, .val (.long q5), .second, .val (.long q6), .second, .val (.int (p1 &&& (3 : Int32))), .val (.long q2), .second, .val (.ref b28), .val (.ref b31), .val (.ref b34), .val (.int (1 : Int32)), .val (.int (1 : Int32)), .val (.int (1 : Int32)), .unset, .unset]) rfl k) ?_
    show own_Fin p.tables e below _ (T46.setTop (mkF m 102 #[.val (.int p1), .val (.long q2), .second, .val (.long q3), .second, .val (.long q4), .second, .val (.long q5), .second, .val (.long q6), .second, .val (.int (p1 &&& (3 : Int32))), .val (.long q2), .second, .val (.ref b28), .val (.ref b31), .val (.ref b34), .val (.int (1 : Int32)), .val (.int (1 : Int32)), .val (.int (1 : Int32)), .unset, .unset] []))
    refine own_go (fun _ k => XS.aload X46.here hx rfl (hb hby at_102) rfl rfl k) ?_
    show own_Fin p.tables e below _ (T46.setTop (mkF m 104 #[.val (.int p1), .val (.long q2), .second, .val (.long q3), .second, .val (.long q4), .second, .val (.long q5), .second, .val (.long q6), .second, .val (.int (p1 &&& (3 : Int32))), .val (.long q2), .second, .val (.ref b28), .val (.ref b31), .val (.ref b34), .val (.int (1 : Int32)), .val (.int (1 : Int32)), .val (.int (1 : Int32)), .unset, .unset] [(.ref b34)]))
    refine own_go (fun _ k => XS.aload X46.here hx rfl (hb hby at_104) rfl rfl k) ?_
    show own_Fin p.tables e below _ (T46.setTop (mkF m 106 #[.val (.int p1), .val (.long q2), .second, .val (.long q3), .second, .val (.long q4), .second, .val (.long q5), .second, .val (.long q6), .second, .val (.int (p1 &&& (3 : Int32))), .val (.long q2), .second, .val (.ref b28), .val (.ref b31), .val (.ref b34), .val (.int (1 : Int32)), .val (.int (1 : Int32)), .val (.int (1 : Int32)), .unset, .unset] [(.ref b28), (.ref b34)]))
    refine own_go (fun _ k => XS.aload X46.here hx rfl (hb hby at_106) rfl rfl k) ?_
    show own_Fin p.tables e below _ (T46.setTop (mkF m 108 #[.val (.int p1), .val (.long q2), .second, .val (.long q3), .second, .val (.long q4), .second, .val (.long q5), .second, .val (.long q6), .second, .val (.int (p1 &&& (3 : Int32))), .val (.long q2), .second, .val (.ref b28), .val (.ref b31), .val (.ref b34), .val (.int (1 : Int32)), .val (.int (1 : Int32)), .val (.int (1 : Int32)), .unset, .unset] [(.ref b31), (.ref b28), (.ref b34)]))
    refine own_go (fun _ k => XS.iloadN X46.here hx rfl (hb hby at_108) rfl k) ?_
    show own_Fin p.tables e below _ (T46.setTop (mkF m 109 #[.val (.int p1), .val (.long q2), .second, .val (.long q3), .second, .val (.long q4), .second, .val (.long q5), .second, .val (.long q6), .second, .val (.int (p1 &&& (3 : Int32))), .val (.long q2), .second, .val (.ref b28), .val (.ref b31), .val (.ref b34), .val (.int (1 : Int32)), .val (.int (1 : Int32)), .val (.int (1 : Int32)), .unset, .unset] [(.int p1), (.ref b31), (.ref b28), (.ref b34)]))
    refine own_go (fun _ k => XS.iconst X46.here hx rfl (hb hby at_109) k) ?_
    show own_Fin p.tables e below _ (T46.setTop (mkF m 110 #[.val (.int p1), .val (.long q2), .second, .val (.long q3), .second, .val (.long q4), .second, .val (.long q5), .second, .val (.long q6), .second, .val (.int (p1 &&& (3 : Int32))), .val (.long q2), .second, .val (.ref b28), .val (.ref b31), .val (.ref b34), .val (.int (1 : Int32)), .val (.int (1 : Int32)), .val (.int (1 : Int32)), .unset, .unset] [(.int (3 : Int32)), (.int p1), (.ref b31), (.ref b28), (.ref b34)]))
    refine own_go (fun _ k => XS.iload X46.here hx rfl (hb hby at_110) rfl k) ?_
    show own_Fin p.tables e below _ (T46.setTop (mkF m 112 #[.val (.int p1), .val (.long q2), .second, .val (.long q3), .second, .val (.long q4), .second, .val (.long q5), .second, .val (.long q6), .second, .val (.int (p1 &&& (3 : Int32))), .val (.long q2), .second, .val (.ref b28), .val (.ref b31), .val (.ref b34), .val (.int (1 : Int32)), .val (.int (1 : Int32)), .val (.int (1 : Int32)), .unset, .unset] [(.int (p1 &&& (3 : Int32))), (.int (3 : Int32)), (.int p1), (.ref b31), (.ref b28), (.ref b34)]))
    refine own_go (fun _ k => XS.lload X46.here hx rfl (hb hby at_112) rfl k) ?_
    show own_Fin p.tables e below _ (T46.setTop (mkF m 114 #[.val (.int p1), .val (.long q2), .second, .val (.long q3), .second, .val (.long q4), .second, .val (.long q5), .second, .val (.long q6), .second, .val (.int (p1 &&& (3 : Int32))), .val (.long q2), .second, .val (.ref b28), .val (.ref b31), .val (.ref b34), .val (.int (1 : Int32)), .val (.int (1 : Int32)), .val (.int (1 : Int32)), .unset, .unset] [(.long q2), (.int (p1 &&& (3 : Int32))), (.int (3 : Int32)), (.int p1), (.ref b31), (.ref b28), (.ref b34)]))
    refine own_go (fun _ k => XS.lload X46.here hx rfl (hb hby at_114) rfl k) ?_
    show own_Fin p.tables e below _ (T46.setTop (mkF m 116 #[.val (.int p1), .val (.long q2), .second, .val (.long q3), .second, .val (.long q4), .second, .val (.long q5), .second, .val (.long q6), .second, .val (.int (p1 &&& (3 : Int32))), .val (.long q2), .second, .val (.ref b28), .val (.ref b31), .val (.ref b34), .val (.int (1 : Int32)), .val (.int (1 : Int32)), .val (.int (1 : Int32)), .unset, .unset] [(.long q6), (.long q2), (.int (p1 &&& (3 : Int32))), (.int (3 : Int32)), (.int p1), (.ref b31), (.ref b28), (.ref b34)]))
    obtain ⟨_, _, ⟨T49, L49, k49, n49⟩, -, X49, ⟨Lc49, hQ49, l49, y49, z49⟩, st49⟩ := Jvm.LawKit.callS X46 hx (y := (⟨"com/example/ferrybell/ferrybell/runtime/RestartsTryRestartPinLaw", "step", "(Lcom/example/ferrybell/ferrybell/runtime/Restarts;[J[IIIIJJ)Z"⟩ : MethodName)) hown (mvT hZ (hw _ (List.mem_of_getElem? (i := 15) rfl))) (mvT hZ (hw _ (List.mem_of_getElem? (i := 16) rfl))) (mvT hZ (hw _ (List.mem_of_getElem? (i := 17) rfl))) (mvT hZ (hw _ (List.mem_of_getElem? (i := 18) rfl))) (by decide) (backOf (W := 0) (own_step l Z a0 hw [] b34 b28 b31 p1 (3 : Int32) (p1 &&& (3 : Int32)) q2 q6 tb46 kb46 k28 k31 tq46 tu 3 T46.heap n0 Z48 o46_1 o46_2 o46_3 o46_4 o46_5 o46_6 o46_7 o46_8 o46_9 f47_0 St Et F1 F2 o46_11 o46_12 o46_13 (Ne.symm ne_b28_b34) (Ne.symm ne_b31_b34) ne_b28_b31 g_b34 g_b28 g_b31 o46_10 (own_kk p1) (by decide) o46_14 (own_wp hc8)) hZ (hw _ (List.mem_of_getElem? (i := 18) rfl)) (hw _ (List.mem_of_getElem? (i := 17) rfl)) (by decide) (by decide)) (g := (mkF m 116 #[.val (.int p1), .val (.long q2), .second, .val (.long q3), .second, .val (.long q4), .second, .val (.long q5), .second, .val (.long q6), .second, .val (.int (p1 &&& (3 : Int32))), .val (.long q2), .second, .val (.ref b28), .val (.ref b31), .val (.ref b34), .val (.int (1 : Int32)), .val (.int (1 : Int32)), .val (.int (1 : Int32)), .unset, .unset] [(.long q6), (.long q2), (.int (p1 &&& (3 : Int32))), (.int (3 : Int32)), (.int p1), (.ref b31), (.ref b28), (.ref b34)])) rfl (by rw [hml]; rfl) (argsL := [(.ref b34), (.ref b28), (.ref b31), (.int p1), (.int (3 : Int32)), (.int (p1 &&& (3 : Int32))), (.long q2), (.long q6)]) (rest := []) (lenOf own_pd10 rfl) rfl (by show 2 * 0 + _ ≤ _; exact Nat.le_of_eq rfl) (hb hby at_116) (fun _ _ => ⟨rfl, rfl, (by decide : 7 + 1 ≤ _), (by decide : 20 + 3 ≤ _)⟩)
    dsimp only [Pt.U, Pt.locs, Pt.cells, Pt.slots] at X49 l49 y49 z49 st49 hQ49
    subst l49 y49 z49
    obtain ⟨tq49, tb49, kb49, hv49, N49q, o49_0, o49_1, o49_2, o49_3, o49_4, o49_5, o49_6, o49_7, o49_8, o49_9, o49_10, o49_11, o49_12, o49_13, o49_14⟩ := hQ49
    subst hv49
    have N49 := Fr.app N46 N49q
    refine own_go st49 ?_
    have f50_0 : Old Z n0 T49.heap := f47_0.keep o49_0 (allS g_b34 (allS g_b28 (allS g_b31 (allS o46_10 all0))))
    have Z51 : n0 ≤ T49.heap.size := Nat.le_trans Z48 o49_0.1
    show own_Fin p.tables e below _ (T49.setTop (mkF m 119 #[.val (.int p1), .val (.long q2), .second, .val (.long q3), .second, .val (.long q4), .second, .val (.long q5), .second, .val (.long q6), .second, .val (.int (p1 &&& (3 : Int32))), .val (.long q2), .second, .val (.ref b28), .val (.ref b31), .val (.ref b34), .val (.int (1 : Int32)), .val (.int (1 : Int32)), .val (.int (1 : Int32)), .unset, .unset] [(.int (1 : Int32))]))
    refine own_go (fun _ k => XS.istore X49.here hx rfl (hb hby at_119) rfl (l' := #[.val (.int p1), .val (.long q2), .second, .val (.long q3), .second, .val (.long q4), .second, .val (.long q5), .second, .val (.long q6), .second, .val (.int (p1 &&& (3 : Int32))), .val (.long q2), .second, .val (.ref b28), .val (.ref b31), .val (.ref b34), .val (.int (1 : Int32)), .val (.int (1 : Int32)), .val (.int (1 : Int32)), .val (.int (1 : Int32)), .unset]) rfl k) ?_
    show own_Fin p.tables e below _ (T49.setTop (mkF m 121 #[.val (.int p1), .val (.long q2), .second, .val (.long q3), .second, .val (.long q4), .second, .val (.long q5), .second, .val (.long q6), .second, .val (.int (p1 &&& (3 : Int32))), .val (.long q2), .second, .val (.ref b28), .val (.ref b31), .val (.ref b34), .val (.int (1 : Int32)), .val (.int (1 : Int32)), .val (.int (1 : Int32)), .val (.int (1 : Int32)), .unset] []))
    refine own_go (fun _ k => XS.aload X49.here hx rfl (hb hby at_121) rfl rfl k) ?_
    show own_Fin p.tables e below _ (T49.setTop (mkF m 123 #[.val (.int p1), .val (.long q2), .second, .val (.long q3), .second, .val (.long q4), .second, .val (.long q5), .second, .val (.long q6), .second, .val (.int (p1 &&& (3 : Int32))), .val (.long q2), .second, .val (.ref b28), .val (.ref b31), .val (.ref b34), .val (.int (1 : Int32)), .val (.int (1 : Int32)), .val (.int (1 : Int32)), .val (.int (1 : Int32)), .unset] [(.ref b34)]))
    refine own_go (fun _ k => XS.aload X49.here hx rfl (hb hby at_123) rfl rfl k) ?_
    show own_Fin p.tables e below _ (T49.setTop (mkF m 125 #[.val (.int p1), .val (.long q2), .second, .val (.long q3), .second, .val (.long q4), .second, .val (.long q5), .second, .val (.long q6), .second, .val (.int (p1 &&& (3 : Int32))), .val (.long q2), .second, .val (.ref b28), .val (.ref b31), .val (.ref b34), .val (.int (1 : Int32)), .val (.int (1 : Int32)), .val (.int (1 : Int32)), .val (.int (1 : Int32)), .unset] [(.ref b28), (.ref b34)]))
    refine own_go (fun _ k => XS.aload X49.here hx rfl (hb hby at_125) rfl rfl k) ?_
    show own_Fin p.tables e below _ (T49.setTop (mkF m 127 #[.val (.int p1), .val (.long q2), .second, .val (.long q3), .second, .val (.long q4), .second, .val (.long q5), .second, .val (.long q6), .second, .val (.int (p1 &&& (3 : Int32))), .val (.long q2), .second, .val (.ref b28), .val (.ref b31), .val (.ref b34), .val (.int (1 : Int32)), .val (.int (1 : Int32)), .val (.int (1 : Int32)), .val (.int (1 : Int32)), .unset] [(.ref b31), (.ref b28), (.ref b34)]))
    refine own_go (fun _ k => XS.iloadN X49.here hx rfl (hb hby at_127) rfl k) ?_
    show own_Fin p.tables e below _ (T49.setTop (mkF m 128 #[.val (.int p1), .val (.long q2), .second, .val (.long q3), .second, .val (.long q4), .second, .val (.long q5), .second, .val (.long q6), .second, .val (.int (p1 &&& (3 : Int32))), .val (.long q2), .second, .val (.ref b28), .val (.ref b31), .val (.ref b34), .val (.int (1 : Int32)), .val (.int (1 : Int32)), .val (.int (1 : Int32)), .val (.int (1 : Int32)), .unset] [(.int p1), (.ref b31), (.ref b28), (.ref b34)]))
    refine own_go (fun _ k => XS.iconst X49.here hx rfl (hb hby at_128) k) ?_
    show own_Fin p.tables e below _ (T49.setTop (mkF m 129 #[.val (.int p1), .val (.long q2), .second, .val (.long q3), .second, .val (.long q4), .second, .val (.long q5), .second, .val (.long q6), .second, .val (.int (p1 &&& (3 : Int32))), .val (.long q2), .second, .val (.ref b28), .val (.ref b31), .val (.ref b34), .val (.int (1 : Int32)), .val (.int (1 : Int32)), .val (.int (1 : Int32)), .val (.int (1 : Int32)), .unset] [(.int (4 : Int32)), (.int p1), (.ref b31), (.ref b28), (.ref b34)]))
    refine own_go (fun _ k => XS.iload X49.here hx rfl (hb hby at_129) rfl k) ?_
    show own_Fin p.tables e below _ (T49.setTop (mkF m 131 #[.val (.int p1), .val (.long q2), .second, .val (.long q3), .second, .val (.long q4), .second, .val (.long q5), .second, .val (.long q6), .second, .val (.int (p1 &&& (3 : Int32))), .val (.long q2), .second, .val (.ref b28), .val (.ref b31), .val (.ref b34), .val (.int (1 : Int32)), .val (.int (1 : Int32)), .val (.int (1 : Int32)), .val (.int (1 : Int32)), .unset] [(.int (p1 &&& (3 : Int32))), (.int (4 : Int32)), (.int p1), (.ref b31), (.ref b28), (.ref b34)]))
    refine own_go (fun _ k => XS.lload X49.here hx rfl (hb hby at_131) rfl k) ?_
    show own_Fin p.tables e below _ (T49.setTop (mkF m 133 #[.val (.int p1), .val (.long q2), .second, .val (.long q3), .second, .val (.long q4), .second, .val (.long q5), .second, .val (.long q6), .second, .val (.int (p1 &&& (3 : Int32))), .val (.long q2), .second, .val (.ref b28), .val (.ref b31), .val (.ref b34), .val (.int (1 : Int32)), .val (.int (1 : Int32)), .val (.int (1 : Int32)), .val (.int (1 : Int32)), .unset] [(.long q2), (.int (p1 &&& (3 : Int32))), (.int (4 : Int32)), (.int p1), (.ref b31), (.ref b28), (.ref b34)]))
    refine own_go (fun _ k => XS.lload X49.here hx rfl (hb hby at_133) rfl k) ?_
    show own_Fin p.tables e below _ (T49.setTop (mkF m 135 #[.val (.int p1), .val (.long q2), .second, .val (.long q3), .second, .val (.long q4), .second, .val (.long q5), .second, .val (.long q6), .second, .val (.int (p1 &&& (3 : Int32))), .val (.long q2), .second, .val (.ref b28), .val (.ref b31), .val (.ref b34), .val (.int (1 : Int32)), .val (.int (1 : Int32)), .val (.int (1 : Int32)), .val (.int (1 : Int32)), .unset] [(.long q4), (.long q2), (.int (p1 &&& (3 : Int32))), (.int (4 : Int32)), (.int p1), (.ref b31), (.ref b28), (.ref b34)]))
    refine own_go (fun _ k => XS.lload X49.here hx rfl (hb hby at_135) rfl k) ?_
    show own_Fin p.tables e below _ (T49.setTop (mkF m 137 #[.val (.int p1), .val (.long q2), .second, .val (.long q3), .second, .val (.long q4), .second, .val (.long q5), .second, .val (.long q6), .second, .val (.int (p1 &&& (3 : Int32))), .val (.long q2), .second, .val (.ref b28), .val (.ref b31), .val (.ref b34), .val (.int (1 : Int32)), .val (.int (1 : Int32)), .val (.int (1 : Int32)), .val (.int (1 : Int32)), .unset] [(.long q6), (.long q4), (.long q2), (.int (p1 &&& (3 : Int32))), (.int (4 : Int32)), (.int p1), (.ref b31), (.ref b28), (.ref b34)]))
    refine own_go (fun _ k => XS.ladd X49.here hx rfl (hb hby at_137) rfl k) ?_
    show own_Fin p.tables e below _ (T49.setTop (mkF m 138 #[.val (.int p1), .val (.long q2), .second, .val (.long q3), .second, .val (.long q4), .second, .val (.long q5), .second, .val (.long q6), .second, .val (.int (p1 &&& (3 : Int32))), .val (.long q2), .second, .val (.ref b28), .val (.ref b31), .val (.ref b34), .val (.int (1 : Int32)), .val (.int (1 : Int32)), .val (.int (1 : Int32)), .val (.int (1 : Int32)), .unset] [(.long (q4 + q6)), (.long q2), (.int (p1 &&& (3 : Int32))), (.int (4 : Int32)), (.int p1), (.ref b31), (.ref b28), (.ref b34)]))
    obtain ⟨_, _, ⟨T52, L52, k52, n52⟩, -, X52, ⟨Lc52, hQ52, l52, y52, z52⟩, st52⟩ := Jvm.LawKit.callS X49 hx (y := (⟨"com/example/ferrybell/ferrybell/runtime/RestartsTryRestartPinLaw", "step", "(Lcom/example/ferrybell/ferrybell/runtime/Restarts;[J[IIIIJJ)Z"⟩ : MethodName)) hown (mvT hZ (hw _ (List.mem_of_getElem? (i := 15) rfl))) (mvT hZ (hw _ (List.mem_of_getElem? (i := 16) rfl))) (mvT hZ (hw _ (List.mem_of_getElem? (i := 17) rfl))) (mvT hZ (hw _ (List.mem_of_getElem? (i := 18) rfl))) (by decide) (backOf (W := 0) (own_step l Z a0 hw [] b34 b28 b31 p1 (4 : Int32) (p1 &&& (3 : Int32)) q2 (q4 + q6) tb49 kb49 k28 k31 tq49 tu 4 T49.heap n0 Z51 o49_1 o49_2 o49_3 o49_4 o49_5 o49_6 o49_7 o49_8 o49_9 f50_0 St Et F1 F2 o49_11 o49_12 o49_13 (Ne.symm ne_b28_b34) (Ne.symm ne_b31_b34) ne_b28_b31 g_b34 g_b28 g_b31 o49_10 (own_kk p1) (by decide) o49_14 (own_wp hc8)) hZ (hw _ (List.mem_of_getElem? (i := 18) rfl)) (hw _ (List.mem_of_getElem? (i := 17) rfl)) (by decide) (by decide)) (g := (mkF m 138 #[.val (.int p1), .val (.long q2), .second, .val (.long q3), .second, .val (.long q4), .second, .val (.long q5), .second, .val (.long q6), .second, .val (.int (p1 &&& (3 : Int32))), .val (.long q2), .second, .val (.ref b28), .val (.ref b31), .val (.ref b34), .val (.int (1 : Int32)), .val (.int (1 : Int32)), .val (.int (1 : Int32)), .val (.int (1 : Int32)), .unset] [(.long (q4 + q6)), (.long q2), (.int (p1 &&& (3 : Int32))), (.int (4 : Int32)), (.int p1), (.ref b31), (.ref b28), (.ref b34)])) rfl (by rw [hml]; rfl) (argsL := [(.ref b34), (.ref b28), (.ref b31), (.int p1), (.int (4 : Int32)), (.int (p1 &&& (3 : Int32))), (.long q2), (.long (q4 + q6))]) (rest := []) (lenOf own_pd10 rfl) rfl (by show 2 * 0 + _ ≤ _; exact Nat.le_of_eq rfl) (hb hby at_138) (fun _ _ => ⟨rfl, rfl, (by decide : 8 + 1 ≤ _), (by decide : 23 + 3 ≤ _)⟩)
    dsimp only [Pt.U, Pt.locs, Pt.cells, Pt.slots] at X52 l52 y52 z52 st52 hQ52
    subst l52 y52 z52
    obtain ⟨tq52, tb52, kb52, hv52, N52q, o52_0, o52_1, o52_2, o52_3, o52_4, o52_5, o52_6, o52_7, o52_8, o52_9, o52_10, o52_11, o52_12, o52_13, o52_14⟩ := hQ52
    subst hv52
    have N52 := Fr.app N49 N52q
    refine own_go st52 ?_
    have f53_0 : Old Z n0 T52.heap := f50_0.keep o52_0 (allS g_b34 (allS g_b28 (allS g_b31 (allS o49_10 all0))))
    have Z54 : n0 ≤ T52.heap.size := Nat.le_trans Z51 o52_0.1
    show own_Fin p.tables e below _ (T52.setTop (mkF m 141 #[.val (.int p1), .val (.long q2), .second, .val (.long q3), .second, .val (.long q4), .second, .val (.long q5), .second, .val (.long q6), .second, .val (.int (p1 &&& (3 : Int32))), .val (.long q2), .second, .val (.ref b28), .val (.ref b31), .val (.ref b34), .val (.int (1 : Int32)), .val (.int (1 : Int32)), .val (.int (1 : Int32)), .val (.int (1 : Int32)), .unset] [(.int (1 : Int32))]))
    refine own_go (fun _ k => XS.istore X52.here hx rfl (hb hby at_141) rfl (l' := #[.val (.int p1), .val (.long q2), .second, .val (.long q3), .second, .val (.long q4), .second, .val (.long q5), .second, .val (.long q6), .second, .val (.int (p1 &&& (3 : Int32))), .val (.long q2), .second, .val (.ref b28), .val (.ref b31), .val (.ref b34), .val (.int (1 : Int32)), .val (.int (1 : Int32)), .val (.int (1 : Int32)), .val (.int (1 : Int32)), .val (.int (1 : Int32))]) rfl k) ?_
    show own_Fin p.tables e below _ (T52.setTop (mkF m 143 #[.val (.int p1), .val (.long q2), .second, .val (.long q3), .second, .val (.long q4), .second, .val (.long q5), .second, .val (.long q6), .second, .val (.int (p1 &&& (3 : Int32))), .val (.long q2), .second, .val (.ref b28), .val (.ref b31), .val (.ref b34), .val (.int (1 : Int32)), .val (.int (1 : Int32)), .val (.int (1 : Int32)), .val (.int (1 : Int32)), .val (.int (1 : Int32))] []))
    refine own_go (fun _ k => XS.iload X52.here hx rfl (hb hby at_143) rfl k) ?_
    show own_Fin p.tables e below _ (T52.setTop (mkF m 145 #[.val (.int p1), .val (.long q2), .second, .val (.long q3), .second, .val (.long q4), .second, .val (.long q5), .second, .val (.long q6), .second, .val (.int (p1 &&& (3 : Int32))), .val (.long q2), .second, .val (.ref b28), .val (.ref b31), .val (.ref b34), .val (.int (1 : Int32)), .val (.int (1 : Int32)), .val (.int (1 : Int32)), .val (.int (1 : Int32)), .val (.int (1 : Int32))] [(.int (1 : Int32))]))
    refine own_go (fun _ k => XS.ifNo X52.here hx rfl (hb hby at_145) rfl ((if0 _ _).trans (feq (by decide : ¬ ((1 : Int32) = (0 : Int32)))).1) k) ?_
    show own_Fin p.tables e below _ (T52.setTop (mkF m 148 #[.val (.int p1), .val (.long q2), .second, .val (.long q3), .second, .val (.long q4), .second, .val (.long q5), .second, .val (.long q6), .second, .val (.int (p1 &&& (3 : Int32))), .val (.long q2), .second, .val (.ref b28), .val (.ref b31), .val (.ref b34), .val (.int (1 : Int32)), .val (.int (1 : Int32)), .val (.int (1 : Int32)), .val (.int (1 : Int32)), .val (.int (1 : Int32))] []))
    refine own_go (fun _ k => XS.iload X52.here hx rfl (hb hby at_148) rfl k) ?_
    show own_Fin p.tables e below _ (T52.setTop (mkF m 150 #[.val (.int p1), .val (.long q2), .second, .val (.long q3), .second, .val (.long q4), .second, .val (.long q5), .second, .val (.long q6), .second, .val (.int (p1 &&& (3 : Int32))), .val (.long q2), .second, .val (.ref b28), .val (.ref b31), .val (.ref b34), .val (.int (1 : Int32)), .val (.int (1 : Int32)), .val (.int (1 : Int32)), .val (.int (1 : Int32)), .val (.int (1 : Int32))] [(.int (1 : Int32))]))
    refine own_go (fun _ k => XS.ifNo X52.here hx rfl (hb hby at_150) rfl ((if0 _ _).trans (feq (by decide : ¬ ((1 : Int32) = (0 : Int32)))).1) k) ?_
    show own_Fin p.tables e below _ (T52.setTop (mkF m 153 #[.val (.int p1), .val (.long q2), .second, .val (.long q3), .second, .val (.long q4), .second, .val (.long q5), .second, .val (.long q6), .second, .val (.int (p1 &&& (3 : Int32))), .val (.long q2), .second, .val (.ref b28), .val (.ref b31), .val (.ref b34), .val (.int (1 : Int32)), .val (.int (1 : Int32)), .val (.int (1 : Int32)), .val (.int (1 : Int32)), .val (.int (1 : Int32))] []))
    refine own_go (fun _ k => XS.iload X52.here hx rfl (hb hby at_153) rfl k) ?_
    show own_Fin p.tables e below _ (T52.setTop (mkF m 155 #[.val (.int p1), .val (.long q2), .second, .val (.long q3), .second, .val (.long q4), .second, .val (.long q5), .second, .val (.long q6), .second, .val (.int (p1 &&& (3 : Int32))), .val (.long q2), .second, .val (.ref b28), .val (.ref b31), .val (.ref b34), .val (.int (1 : Int32)), .val (.int (1 : Int32)), .val (.int (1 : Int32)), .val (.int (1 : Int32)), .val (.int (1 : Int32))] [(.int (1 : Int32))]))
    refine own_go (fun _ k => XS.ifNo X52.here hx rfl (hb hby at_155) rfl ((if0 _ _).trans (feq (by decide : ¬ ((1 : Int32) = (0 : Int32)))).1) k) ?_
    show own_Fin p.tables e below _ (T52.setTop (mkF m 158 #[.val (.int p1), .val (.long q2), .second, .val (.long q3), .second, .val (.long q4), .second, .val (.long q5), .second, .val (.long q6), .second, .val (.int (p1 &&& (3 : Int32))), .val (.long q2), .second, .val (.ref b28), .val (.ref b31), .val (.ref b34), .val (.int (1 : Int32)), .val (.int (1 : Int32)), .val (.int (1 : Int32)), .val (.int (1 : Int32)), .val (.int (1 : Int32))] []))
    refine own_go (fun _ k => XS.iload X52.here hx rfl (hb hby at_158) rfl k) ?_
    show own_Fin p.tables e below _ (T52.setTop (mkF m 160 #[.val (.int p1), .val (.long q2), .second, .val (.long q3), .second, .val (.long q4), .second, .val (.long q5), .second, .val (.long q6), .second, .val (.int (p1 &&& (3 : Int32))), .val (.long q2), .second, .val (.ref b28), .val (.ref b31), .val (.ref b34), .val (.int (1 : Int32)), .val (.int (1 : Int32)), .val (.int (1 : Int32)), .val (.int (1 : Int32)), .val (.int (1 : Int32))] [(.int (1 : Int32))]))
    refine own_go (fun _ k => XS.ifNo X52.here hx rfl (hb hby at_160) rfl ((if0 _ _).trans (feq (by decide : ¬ ((1 : Int32) = (0 : Int32)))).1) k) ?_
    show own_Fin p.tables e below _ (T52.setTop (mkF m 163 #[.val (.int p1), .val (.long q2), .second, .val (.long q3), .second, .val (.long q4), .second, .val (.long q5), .second, .val (.long q6), .second, .val (.int (p1 &&& (3 : Int32))), .val (.long q2), .second, .val (.ref b28), .val (.ref b31), .val (.ref b34), .val (.int (1 : Int32)), .val (.int (1 : Int32)), .val (.int (1 : Int32)), .val (.int (1 : Int32)), .val (.int (1 : Int32))] []))
    refine own_go (fun _ k => XS.iload X52.here hx rfl (hb hby at_163) rfl k) ?_
    show own_Fin p.tables e below _ (T52.setTop (mkF m 165 #[.val (.int p1), .val (.long q2), .second, .val (.long q3), .second, .val (.long q4), .second, .val (.long q5), .second, .val (.long q6), .second, .val (.int (p1 &&& (3 : Int32))), .val (.long q2), .second, .val (.ref b28), .val (.ref b31), .val (.ref b34), .val (.int (1 : Int32)), .val (.int (1 : Int32)), .val (.int (1 : Int32)), .val (.int (1 : Int32)), .val (.int (1 : Int32))] [(.int (1 : Int32))]))
    refine own_go (fun _ k => XS.ifNo X52.here hx rfl (hb hby at_165) rfl ((if0 _ _).trans (feq (by decide : ¬ ((1 : Int32) = (0 : Int32)))).1) k) ?_
    show own_Fin p.tables e below _ (T52.setTop (mkF m 168 #[.val (.int p1), .val (.long q2), .second, .val (.long q3), .second, .val (.long q4), .second, .val (.long q5), .second, .val (.long q6), .second, .val (.int (p1 &&& (3 : Int32))), .val (.long q2), .second, .val (.ref b28), .val (.ref b31), .val (.ref b34), .val (.int (1 : Int32)), .val (.int (1 : Int32)), .val (.int (1 : Int32)), .val (.int (1 : Int32)), .val (.int (1 : Int32))] []))
    refine own_go (fun _ k => XS.iconst X52.here hx rfl (hb hby at_168) k) ?_
    show own_Fin p.tables e below _ (T52.setTop (mkF m 169 #[.val (.int p1), .val (.long q2), .second, .val (.long q3), .second, .val (.long q4), .second, .val (.long q5), .second, .val (.long q6), .second, .val (.int (p1 &&& (3 : Int32))), .val (.long q2), .second, .val (.ref b28), .val (.ref b31), .val (.ref b34), .val (.int (1 : Int32)), .val (.int (1 : Int32)), .val (.int (1 : Int32)), .val (.int (1 : Int32)), .val (.int (1 : Int32))] [(.int (1 : Int32))]))
    refine own_go (fun _ k => XS.goto X52.here hx rfl (pc0 := 169) (pc' := 173) rfl (hb hby at_169) (by decide) (by decide) k) ?_
    show own_Fin p.tables e below _ (T52.setTop (mkF m 173 #[.val (.int p1), .val (.long q2), .second, .val (.long q3), .second, .val (.long q4), .second, .val (.long q5), .second, .val (.long q6), .second, .val (.int (p1 &&& (3 : Int32))), .val (.long q2), .second, .val (.ref b28), .val (.ref b31), .val (.ref b34), .val (.int (1 : Int32)), .val (.int (1 : Int32)), .val (.int (1 : Int32)), .val (.int (1 : Int32)), .val (.int (1 : Int32))] [(.int (1 : Int32))]))
    obtain ⟨fs, hr, hrun, hended, hW, hsame⟩ := X52.leave (v := some (.int (1 : Int32))) (fun h => by rw [Bd.returns] at h; cases h)
    refine ⟨_, _, ?_, hrun, hended, _, _, rfl, ?_, ⟨_, rfl⟩, hW, hsame.mono (by decide) (by decide)⟩
    · exact retN X52 hx (t := .boolean) Bd.returns (by simp) (hb hby at_173) hr
    · show Q_own_law Z p1 q2 q3 q4 q5 q6 tu h0 n0 _ T52.heap _
      exact ⟨rfl, N52⟩
set_option maxRecDepth 65536 in
set_option maxHeartbeats 40000000 in
theorem comes_1 {Post : Tables → Env → Array Value → State → Outcome → State → Prop} (hpost : ∀ tb e args s v u, (limb_1_1.after args s (.returned v) u = true ∧ limb_1_2.after args s (.returned v) u = true ∧ True) → FrameEnd s (.returned v) u (Jvm.fieldLocs frame_1_writes args s ++ Jvm.arrayLocs frame_1_arrays args s ++ Jvm.staticLocs frame_1_statics s) 24 128 → Post tb e args s (.returned v) u) :
    ArmFor flags0 classFile x code maxLocals ret World_1 tables_1 room_1 Calls_1 rest_1 Pre_1 Post := by
  intro l hfl _ _ p e ha hc hk s m args below hf hA hF happ hP
  obtain ⟨hcalls, hrest, hpre⟩ := hP
  obtain ⟨-, -, -, hnamed, -, -, -, hat⟩ := (Spec.applies_iff hf).mp happ
  obtain ⟨hg, hn⟩ := and_e (Cond.before_iff.mp (show (Jvm.Cond.and given_1 narrow_1).before args s = true from hpre))
  obtain ⟨gcount, gr0⟩ := and_e hg
  obtain ⟨ga0, gr1⟩ := and_e gr0
  obtain ⟨ga1, gr2⟩ := and_e gr1
  obtain ⟨ga2, gr3⟩ := and_e gr2
  obtain ⟨ga3, gr4⟩ := and_e gr3
  obtain ⟨ga4, gr5⟩ := and_e gr4
  obtain ⟨w0, w1, w2, w3, w4, w5, rfl⟩ : ∃ w0 w1 w2 w3 w4 w5 : Value, args = #[w0, w1, w2, w3, w4, w5] := by
    have hs : args.size = 6 := by simpa [Cond.value, given_1] using gcount
    obtain ⟨L⟩ := args
    match L, hs with
    | [w0, w1, w2, w3, w4, w5], _ => exact ⟨w0, w1, w2, w3, w4, w5, rfl⟩
  have hw := fun d (hd : d ∈ tables_1) => atoms_spec (ws := Jvm.Cond.code x code maxLocals ret :: tables_1) hat d (List.mem_cons_of_mem _ hd)
  have hfit : Fit s := fun {y c} hc i hi => by
    obtain ⟨ha, rfl⟩ := Array.getElem?_eq_some_iff.mp hc
    have q := List.all_eq_true.mp ((Array.all_eq_true_iff_forall_mem.mp hF) _ (Array.getElem_mem ha)) i (List.mem_range.mpr hi)
    simpa [Array.getElem?_eq_getElem hi] using q
  obtain ⟨hsets, hown0⟩ := atoms_of _ (rest_1_c_eq ▸ (show rest_1_c.before _ s = true from hrest))
  have hr0 := Cond.before_iff.mp hown0
  obtain ⟨i0, ei0⟩ := is_v ga0
  obtain rfl : w0 = (.int i0) := Option.some.inj ei0
  obtain ⟨i1, ei1⟩ := isL_v ga1
  obtain rfl : w1 = (.long i1) := Option.some.inj ei1
  obtain ⟨i2, ei2⟩ := isL_v ga2
  obtain rfl : w2 = (.long i2) := Option.some.inj ei2
  obtain ⟨i3, ei3⟩ := isL_v ga3
  obtain rfl : w3 = (.long i3) := Option.some.inj ei3
  obtain ⟨i4, ei4⟩ := isL_v ga4
  obtain rfl : w4 = (.long i4) := Option.some.inj ei4
  obtain ⟨i5, ei5⟩ := isL_v gr5
  obtain rfl : w5 = (.long i5) := Option.some.inj ei5
  have s2 := Cond.before_iff.mp (hsets _ (List.mem_of_getElem? (i := 2) rfl))
  obtain ⟨tu, et⟩ := exa_v s2
  have s5 := Cond.before_iff.mp (hsets _ (List.mem_of_getElem? (i := 5) rfl))
  have s6 := Cond.before_iff.mp (hsets _ (List.mem_of_getElem? (i := 6) rfl))
  obtain ⟨n, o, h1, h2, h3, _, L, rfl, ⟨rfl, N⟩, hq⟩ := own_law l s _ hw tables_1 i0 i1 i2 i3 i4 i5 tu s.heap s.heap.size (Nat.le_refl _) (Old.start s) (Sta.start et (Or.inl (hsets _ (List.mem_of_getElem? (i := 1) rfl)))) (Exa.start et s2) (own_fld et (own_eqJ s5)) (own_fld et (own_eqJ s6)) p e ha hc hk s m _ below hf ((Spec.applies_iff_loose hf).mp happ).1 ⟨rfl, State.Warmed39.refl s, rfl⟩ trivial
  refine ⟨n, _, h1, h2, h3, hpost _ _ _ _ _ _ ⟨Cond.after_iff.mpr rfl, Cond.after_iff.mpr (eq_i res_at (Term.int_eval (1)) rfl), trivial⟩ ⟨hq.1, hq.2.1, (hq.2.2.sift fun y hy => Or.inr (N y hy)).mono (by decide) (by decide)⟩⟩
theorem main_1_1 : Claimed_1_1 := comes_1 fun _ _ _ _ _ _ h hF => ⟨h.1, hF⟩
theorem main_1_2 : Claimed_1_2 := comes_1 fun _ _ _ _ _ _ h hF => ⟨h.2.1, hF⟩
end Jvm.Pilot.@@N@@
namespace Jvm.Pilot.@@N@@
open Jvm Jvm.ClassFile Sem Op Lib Jvm.Free Jvm.Stand Jvm.Pilot.@@N@@.Jvm.D
/-! MADE BY PROGRAM (witnessworld.py) out of the Statement's table words and the real class files: 18 classes; the members and pool entries that the words name. The judged class is class 1, her method 6. -/
namespace start1
open Jvm.ClassFile
def u (s : String) : CpInfo := .utf8 (stringToUtf16 s)
/-- a pool by its gaps: so many unusable entries, then the entry; so many at the end -/
def gap : Nat → List CpInfo → List CpInfo
  | 0, r => r
  | n + 1, r => .unusable :: gap n r
def poolList (es : List (Nat × CpInfo)) (last : Nat) : List CpInfo := es.foldr (fun e r => gap e.1 (e.2 :: r)) (gap last [])
def pool (es : List (Nat × CpInfo)) (last : Nat) : Array CpInfo := ⟨poolList es last⟩
def fileOf (pool : Array CpInfo) (this : Nat) (attrs : Array Attribute := #[]) (ms : Array MethodInfo := #[]) (fl : Nat := 33) (sup : Nat := 0) (ifs : Array Nat := #[]) (fds : Array FieldInfo := #[]) : ClassFile where
  minorVersion := 0
  majorVersion := 65
  constantPool := pool
  accessFlags := fl
  thisClass := this
  superClass := sup
  interfaces := ifs
  fields := fds
  methods := ms
  attributes := attrs
def plain (name : String) (sup : Option ClassId) : Class where
  name := name
  kind := .ordinary
  loader := none
  accessFlags := 33
  super := sup
  interfaces := #[]
  cf := none
  fields := #[]
  methods := #[]
  instanceTypes := #[]
  staticTypes := #[]
  resolved := #[]
  callSites := []
  init := .initialized
  statics := none
  mirror := none

def pool0 : Array CpInfo := pool [(5, u "<init>"), (0, u "()V"), (1, .class_ 10), (1, u "java/lang/Object")] 113

def k0c0 : Code := { maxStack := 0, maxLocals := 1, code := object_method_1_code, exceptionTable := #[], attributes := #[] }
def k0m0 : Method := { name := "<init>", desc := "()V", sig := { parameters := [], returnType := none }, accessFlags := 1, code := some k0c0 }
/-- java/lang/Object -/
def k0 : Class := { plain "java/lang/Object" none with
  accessFlags := 33
  interfaces := #[]
  cf := some (fileOf pool0 8 #[] #[{ accessFlags := 1, nameIndex := 5, descriptorIndex := 6, attributes := #[] }] 33 0 #[] #[])
  fields := #[]
  methods := #[k0m0]
  instanceTypes := #[]
  staticTypes := #[]
  resolved := Array.replicate 124 none
  statics := none }

def pool1 : Array CpInfo := pool [(2, .class_ 4), (1, u "java/lang/Object"), (0, u "<init>"), (0, u "()V"), (0, .long 9223372036854), (3, .long 9223372036854775807), (1, .long 1000000), (1, .methodref 16 17), (0, .class_ 18), (0, .nameAndType 19 20), (0, u "com/example/ferrybell/ferrybell/runtime/RestartsTryRestartPinLaw"), (0, u "nanos"), (0, u "(J)J"), (2, .integer 2147483648), (0, .methodref 16 25), (0, .nameAndType 26 27), (0, u "limit"), (0, u "(III)I"), (0, .methodref 16 29), (0, .nameAndType 30 31), (0, u "window"), (0, u "(IIJ)J"), (0, .methodref 16 33), (0, .nameAndType 34 35), (0, u "expected"), (0, u "([J[IIJJ)Z"), (0, .methodref 37 38), (0, .class_ 39), (0, .nameAndType 40 41), (0, u "com/example/ferrybell/ferrybell/runtime/Restarts"), (0, u "tryRestart"), (0, u "(IJJ)Z"), (0, .long 18446744073709551615), (1, .methodref 37 45), (0, .nameAndType 5 46), (0, u "(I)V"), (0, .methodref 16 48), (0, .nameAndType 49 50), (0, u "step"), (0, u "(Lcom/example/ferrybell/ferrybell/runtime/Restarts;[J[IIIIJJ)Z"), (7, u "law"), (0, u "(IJJJJJ)Z")] 2

def k1m0 : Method := { name := "<init>", desc := "()V", sig := { parameters := [], returnType := none }, accessFlags := 1, code := none }
def k1c1 : Code := { maxStack := 4, maxLocals := 2, code := method_2_code, exceptionTable := #[], attributes := #[] }
def k1m1 : Method := { name := "nanos", desc := "(J)J", sig := { parameters := [.long], returnType := some .long }, accessFlags := 10, code := some k1c1 }
def k1c2 : Code := { maxStack := 5, maxLocals := 9, code := method_3_code, exceptionTable := #[], attributes := #[] }
def k1m2 : Method := { name := "expected", desc := "([J[IIJJ)Z", sig := { parameters := [(.array .long), (.array .int), .int, .long, .long], returnType := some .boolean }, accessFlags := 10, code := some k1c2 }
def k1c3 : Code := { maxStack := 3, maxLocals := 5, code := method_4_code, exceptionTable := #[], attributes := #[] }
def k1m3 : Method := { name := "limit", desc := "(III)I", sig := { parameters := [.int, .int, .int], returnType := some .int }, accessFlags := 10, code := some k1c3 }
def k1c4 : Code := { maxStack := 4, maxLocals := 4, code := method_5_code, exceptionTable := #[], attributes := #[] }
def k1m4 : Method := { name := "window", desc := "(IIJ)J", sig := { parameters := [.int, .int, .long], returnType := some .long }, accessFlags := 10, code := some k1c4 }
def k1c5 : Code := { maxStack := 7, maxLocals := 15, code := method_6_code, exceptionTable := #[], attributes := #[] }
def k1m5 : Method := { name := "step", desc := "(Lcom/example/ferrybell/ferrybell/runtime/Restarts;[J[IIIIJJ)Z", sig := { parameters := [(.object "com/example/ferrybell/ferrybell/runtime/Restarts"), (.array .long), (.array .int), .int, .int, .int, .long, .long], returnType := some .boolean }, accessFlags := 10, code := some k1c5 }
def k1c6 : Code := { maxStack := 12, maxLocals := 22, code := code, exceptionTable := #[], attributes := #[] }
def k1m6 : Method := { name := "law", desc := "(IJJJJJ)Z", sig := { parameters := [.int, .long, .long, .long, .long, .long], returnType := some .boolean }, accessFlags := 9, code := some k1c6 }
/-- com/example/ferrybell/ferrybell/runtime/RestartsTryRestartPinLaw -/
def k1 : Class := { plain "com/example/ferrybell/ferrybell/runtime/RestartsTryRestartPinLaw" (some 0) with
  accessFlags := 49
  interfaces := #[]
  cf := some (fileOf pool1 16 #[] #[{ accessFlags := 1, nameIndex := 5, descriptorIndex := 6, attributes := #[] }, { accessFlags := 10, nameIndex := 19, descriptorIndex := 20, attributes := #[] }, { accessFlags := 10, nameIndex := 34, descriptorIndex := 35, attributes := #[] }, { accessFlags := 10, nameIndex := 26, descriptorIndex := 27, attributes := #[] }, { accessFlags := 10, nameIndex := 30, descriptorIndex := 31, attributes := #[] }, { accessFlags := 10, nameIndex := 49, descriptorIndex := 50, attributes := #[] }, { accessFlags := 9, nameIndex := 58, descriptorIndex := 59, attributes := #[] }] 49 2 #[] #[])
  fields := #[]
  methods := #[k1m0, k1m1, k1m2, k1m3, k1m4, k1m5, k1m6]
  instanceTypes := #[]
  staticTypes := #[]
  resolved := Array.replicate 62 none
  statics := none }

def pool2 : Array CpInfo := pool [(1, .methodref 2 3), (0, .class_ 4), (0, .nameAndType 5 6), (0, u "java/lang/Object"), (0, u "<init>"), (0, u "()V"), (0, .fieldref 8 9), (0, .class_ 10), (0, .nameAndType 11 12), (0, u "com/example/ferrybell/ferrybell/runtime/Restarts"), (0, u "iTimes"), (0, u "[J"), (0, .fieldref 8 14), (0, .nameAndType 15 16), (0, u "iKept"), (0, u "I"), (0, .fieldref 8 18), (0, .nameAndType 19 20), (0, u "iCount"), (0, u "J"), (0, .fieldref 8 22), (0, .nameAndType 23 16), (0, u "iOldest"), (0, .fieldref 8 25), (0, .nameAndType 26 16), (0, u "iSize"), (0, .fieldref 28 29), (0, .class_ 30), (0, .nameAndType 31 32), (0, u "java/util/concurrent/TimeUnit"), (0, u "MILLISECONDS"), (0, u "Ljava/util/concurrent/TimeUnit;"), (0, .methodref 28 34), (0, .nameAndType 35 36), (0, u "toNanos"), (0, u "(J)J"), (0, .methodref 8 38), (0, .nameAndType 39 40), (0, u "keep"), (0, u "(J)V"), (0, .long 8), (1, .long 2), (1, .methodref 46 47), (0, .class_ 48), (0, .nameAndType 49 50), (0, u "java/lang/Math"), (0, u "max"), (0, u "(JJ)J"), (0, .methodref 46 52), (0, .nameAndType 53 50), (0, u "min"), (0, .methodref 55 56), (0, .class_ 57), (0, .nameAndType 58 59), (0, u "java/util/Arrays"), (0, u "copyOf"), (0, u "([JI)[J"), (0, u "(I)V"), (2, u "tryRestart"), (0, u "(IJJ)Z")] 3

def k2c0 : Code := { maxStack := 2, maxLocals := 2, code := prog_41_method_1_code, exceptionTable := #[], attributes := #[] }
def k2m0 : Method := { name := "<init>", desc := "(I)V", sig := { parameters := [.int], returnType := none }, accessFlags := 0, code := some k2c0 }
def k2c1 : Code := { maxStack := 5, maxLocals := 8, code := prog_41_method_2_code, exceptionTable := #[], attributes := #[] }
def k2m1 : Method := { name := "tryRestart", desc := "(IJJ)Z", sig := { parameters := [.int, .long, .long], returnType := some .boolean }, accessFlags := 0, code := some k2c1 }
def k2c2 : Code := { maxStack := 10, maxLocals := 3, code := prog_41_method_3_code, exceptionTable := #[], attributes := #[] }
def k2m2 : Method := { name := "keep", desc := "(J)V", sig := { parameters := [.long], returnType := none }, accessFlags := 2, code := some k2c2 }
/-- com/example/ferrybell/ferrybell/runtime/Restarts -/
def k2 : Class := { plain "com/example/ferrybell/ferrybell/runtime/Restarts" (some 0) with
  accessFlags := 48
  interfaces := #[]
  cf := some (fileOf pool2 8 #[] #[{ accessFlags := 0, nameIndex := 5, descriptorIndex := 60, attributes := #[] }, { accessFlags := 0, nameIndex := 63, descriptorIndex := 64, attributes := #[] }, { accessFlags := 2, nameIndex := 39, descriptorIndex := 40, attributes := #[] }] 48 2 #[] #[{ accessFlags := 18, nameIndex := 15, descriptorIndex := 16, attributes := #[] }, { accessFlags := 2, nameIndex := 19, descriptorIndex := 20, attributes := #[] }, { accessFlags := 2, nameIndex := 11, descriptorIndex := 12, attributes := #[] }, { accessFlags := 2, nameIndex := 26, descriptorIndex := 16, attributes := #[] }, { accessFlags := 2, nameIndex := 23, descriptorIndex := 16, attributes := #[] }])
  fields := #[{ name := "iKept", type := .int, accessFlags := 18, slot := 0, constantValue := 0 }, { name := "iCount", type := .long, accessFlags := 2, slot := 1, constantValue := 0 }, { name := "iTimes", type := (.array .long), accessFlags := 2, slot := 2, constantValue := 0 }, { name := "iSize", type := .int, accessFlags := 2, slot := 3, constantValue := 0 }, { name := "iOldest", type := .int, accessFlags := 2, slot := 4, constantValue := 0 }]
  methods := #[k2m0, k2m1, k2m2]
  instanceTypes := #[.int, .long, (.array .long), .int, .int]
  staticTypes := #[]
  resolved := Array.replicate 68 none
  statics := none }

def pool3 : Array CpInfo := pool [(1, .class_ 2), (0, u "java/lang/Math"), (1, .class_ 6), (1, u "java/lang/Object"), (0, u "<init>"), (0, u "()V"), (89, .class_ 100), (1, u "java/lang/Math$RandomNumberGeneratorHolder"), (20, u "(JJ)J"), (50, u "negativeZeroFloatBits"), (0, u "J"), (2, u "negativeZeroDoubleBits"), (21, u "max"), (2, u "min"), (43, u "$assertionsDisabled"), (0, u "Z"), (88, u "(II)I"), (2, u "twoToTheDoubleScaleDown"), (0, u "D"), (4, u "twoToTheDoubleScaleUp"), (9, u "E"), (3, u "PI"), (2, u "TAU"), (2, u "DEGREES_TO_RADIANS"), (0, u "RADIANS_TO_DEGREES")] 94

def k3m0 : Method := { name := "<init>", desc := "()V", sig := { parameters := [], returnType := none }, accessFlags := 2, code := none }
def k3c1 : Code := { maxStack := 4, maxLocals := 4, code := jdk_29_method_66_code, exceptionTable := #[], attributes := #[] }
def k3m1 : Method := { name := "max", desc := "(JJ)J", sig := { parameters := [.long, .long], returnType := some .long }, accessFlags := 9, code := some k3c1 }
def k3c2 : Code := { maxStack := 2, maxLocals := 2, code := jdk_29_method_69_code, exceptionTable := #[], attributes := #[] }
def k3m2 : Method := { name := "min", desc := "(II)I", sig := { parameters := [.int, .int], returnType := some .int }, accessFlags := 9, code := some k3c2 }
def k3c3 : Code := { maxStack := 4, maxLocals := 4, code := jdk_29_method_70_code, exceptionTable := #[], attributes := #[] }
def k3m3 : Method := { name := "min", desc := "(JJ)J", sig := { parameters := [.long, .long], returnType := some .long }, accessFlags := 9, code := some k3c3 }
/-- java/lang/Math -/
def k3 : Class := { plain "java/lang/Math" (some 0) with
  accessFlags := 49
  interfaces := #[]
  cf := some (fileOf pool3 1 #[.nestMembers #[98]] #[{ accessFlags := 2, nameIndex := 7, descriptorIndex := 8, attributes := #[] }, { accessFlags := 9, nameIndex := 198, descriptorIndex := 121, attributes := #[] }, { accessFlags := 9, nameIndex := 201, descriptorIndex := 335, attributes := #[] }, { accessFlags := 9, nameIndex := 201, descriptorIndex := 121, attributes := #[] }] 49 4 #[] #[{ accessFlags := 25, nameIndex := 354, descriptorIndex := 339, attributes := #[] }, { accessFlags := 25, nameIndex := 358, descriptorIndex := 339, attributes := #[] }, { accessFlags := 25, nameIndex := 361, descriptorIndex := 339, attributes := #[] }, { accessFlags := 26, nameIndex := 364, descriptorIndex := 339, attributes := #[] }, { accessFlags := 26, nameIndex := 365, descriptorIndex := 339, attributes := #[] }, { accessFlags := 26, nameIndex := 172, descriptorIndex := 173, attributes := #[] }, { accessFlags := 26, nameIndex := 176, descriptorIndex := 173, attributes := #[] }, { accessFlags := 8, nameIndex := 344, descriptorIndex := 339, attributes := #[] }, { accessFlags := 8, nameIndex := 338, descriptorIndex := 339, attributes := #[] }, { accessFlags := 4120, nameIndex := 245, descriptorIndex := 246, attributes := #[] }])
  fields := #[{ name := "E", type := .double, accessFlags := 25, slot := 0, constantValue := 0 }, { name := "PI", type := .double, accessFlags := 25, slot := 1, constantValue := 0 }, { name := "TAU", type := .double, accessFlags := 25, slot := 2, constantValue := 0 }, { name := "DEGREES_TO_RADIANS", type := .double, accessFlags := 26, slot := 3, constantValue := 0 }, { name := "RADIANS_TO_DEGREES", type := .double, accessFlags := 26, slot := 4, constantValue := 0 }, { name := "negativeZeroFloatBits", type := .long, accessFlags := 26, slot := 5, constantValue := 0 }, { name := "negativeZeroDoubleBits", type := .long, accessFlags := 26, slot := 6, constantValue := 0 }, { name := "twoToTheDoubleScaleUp", type := .double, accessFlags := 8, slot := 7, constantValue := 0 }, { name := "twoToTheDoubleScaleDown", type := .double, accessFlags := 8, slot := 8, constantValue := 0 }, { name := "$assertionsDisabled", type := .boolean, accessFlags := 4120, slot := 9, constantValue := 0 }]
  methods := #[k3m0, k3m1, k3m2, k3m3]
  instanceTypes := #[]
  staticTypes := #[.double, .double, .double, .double, .double, .long, .long, .double, .double, .boolean]
  resolved := Array.replicate 460 none
  statics := none }

def pool4 : Array CpInfo := pool [(2, .class_ 4), (1, u "java/lang/Object"), (0, u "<init>"), (0, u "()V"), (7, .class_ 16), (1, u "java/util/Arrays"), (57, .class_ 76), (1, u "java/util/Arrays$NaturalOrder"), (36, .class_ 115), (1, u "java/util/Arrays$LegacyMergeSort"), (1, u "Z"), (32, .methodref 151 152), (0, .class_ 153), (0, .nameAndType 154 155), (0, u "java/lang/System"), (0, u "arraycopy"), (0, u "(Ljava/lang/Object;ILjava/lang/Object;II)V"), (146, u "copyOf"), (1, .methodref 305 306), (0, .class_ 307), (0, .nameAndType 308 309), (0, u "java/lang/Math"), (0, u "min"), (0, u "(II)I"), (65, .class_ 376), (0, u "java/util/Arrays$ArrayList"), (68, u "$assertionsDisabled"), (269, u "MIN_ARRAY_SORT_GRAN"), (0, u "I"), (2, u "INSERTIONSORT_THRESHOLD"), (152, u "([JI)[J"), (102, .class_ 976), (0, u "java/util/Arrays$ArrayItr")] 52

def k4m0 : Method := { name := "<init>", desc := "()V", sig := { parameters := [], returnType := none }, accessFlags := 2, code := none }
def k4c1 : Code := { maxStack := 6, maxLocals := 3, code := jdk_65_method_124_code, exceptionTable := #[], attributes := #[] }
def k4m1 : Method := { name := "copyOf", desc := "([JI)[J", sig := { parameters := [(.array .long), .int], returnType := some (.array .long) }, accessFlags := 9, code := some k4c1 }
/-- java/util/Arrays -/
def k4 : Class := { plain "java/util/Arrays" (some 0) with
  accessFlags := 49
  interfaces := #[]
  cf := some (fileOf pool4 14 #[.nestMembers #[975, 375, 113, 74]] #[{ accessFlags := 2, nameIndex := 5, descriptorIndex := 6, attributes := #[] }, { accessFlags := 9, nameIndex := 302, descriptorIndex := 872, attributes := #[] }] 49 2 #[] #[{ accessFlags := 26, nameIndex := 715, descriptorIndex := 716, attributes := #[] }, { accessFlags := 26, nameIndex := 719, descriptorIndex := 716, attributes := #[] }, { accessFlags := 4120, nameIndex := 445, descriptorIndex := 117, attributes := #[] }])
  fields := #[{ name := "MIN_ARRAY_SORT_GRAN", type := .int, accessFlags := 26, slot := 0, constantValue := 0 }, { name := "INSERTIONSORT_THRESHOLD", type := .int, accessFlags := 26, slot := 1, constantValue := 0 }, { name := "$assertionsDisabled", type := .boolean, accessFlags := 4120, slot := 2, constantValue := 0 }]
  methods := #[k4m0, k4m1]
  instanceTypes := #[]
  staticTypes := #[.int, .int, .boolean]
  resolved := Array.replicate 1029 none
  statics := none }

def pool5 : Array CpInfo := pool [(2, .class_ 4), (1, u "java/lang/Object"), (0, u "<init>"), (0, u "()V"), (1, .class_ 10), (1, u "java/lang/System"), (0, u "allowSecurityManager"), (0, u "I"), (16, u "cons"), (0, u "Ljava/io/Console;"), (77, .class_ 110), (1, u "java/lang/System$CallersHolder"), (43, u "initialErrStream"), (0, u "Ljava/io/PrintStream;"), (19, u "security"), (0, u "Ljava/lang/SecurityManager;"), (31, .class_ 209), (0, u "java/lang/System$1"), (7, u "props"), (0, u "Ljava/util/Properties;"), (2, u "lineSeparator"), (0, u "Ljava/lang/String;"), (96, .class_ 321), (1, u "java/lang/System$LoggerFinder"), (5, .class_ 328), (0, u "java/lang/System$Logger"), (67, u "err"), (2, u "out"), (91, u "notSupportedJnuEncoding"), (15, u "in"), (17, u "initialIn"), (0, u "Ljava/io/InputStream;"), (35, u "bootLayer"), (0, u "Ljava/lang/ModuleLayer;"), (99, .class_ 664), (0, u "java/lang/System$2"), (9, u "NEVER"), (2, u "MAYBE"), (49, u "arraycopy"), (0, u "(Ljava/lang/Object;ILjava/lang/Object;II)V"), (72, .class_ 802), (0, u "java/lang/System$Logger$Level")] 31

def k5m0 : Method := { name := "<init>", desc := "()V", sig := { parameters := [], returnType := none }, accessFlags := 2, code := none }
def k5m1 : Method := { name := "arraycopy", desc := "(Ljava/lang/Object;ILjava/lang/Object;II)V", sig := { parameters := [(.object "java/lang/Object"), .int, (.object "java/lang/Object"), .int, .int], returnType := none }, accessFlags := 265, code := none }
/-- java/lang/System -/
def k5 : Class := { plain "java/lang/System" (some 0) with
  accessFlags := 49
  interfaces := #[]
  cf := some (fileOf pool5 8 #[.nestMembers #[319, 327, 801, 108, 663, 208]] #[{ accessFlags := 2, nameIndex := 5, descriptorIndex := 6, attributes := #[] }, { accessFlags := 265, nameIndex := 727, descriptorIndex := 728, attributes := #[] }] 49 2 #[] #[{ accessFlags := 25, nameIndex := 507, descriptorIndex := 526, attributes := #[] }, { accessFlags := 25, nameIndex := 399, descriptorIndex := 155, attributes := #[] }, { accessFlags := 25, nameIndex := 396, descriptorIndex := 155, attributes := #[] }, { accessFlags := 10, nameIndex := 525, descriptorIndex := 526, attributes := #[] }, { accessFlags := 26, nameIndex := 674, descriptorIndex := 12, attributes := #[] }, { accessFlags := 26, nameIndex := 677, descriptorIndex := 12, attributes := #[] }, { accessFlags := 10, nameIndex := 11, descriptorIndex := 12, attributes := #[] }, { accessFlags := 74, nameIndex := 175, descriptorIndex := 176, attributes := #[] }, { accessFlags := 10, nameIndex := 491, descriptorIndex := 222, attributes := #[] }, { accessFlags := 74, nameIndex := 29, descriptorIndex := 30, attributes := #[] }, { accessFlags := 74, nameIndex := 154, descriptorIndex := 155, attributes := #[] }, { accessFlags := 10, nameIndex := 217, descriptorIndex := 218, attributes := #[] }, { accessFlags := 10, nameIndex := 221, descriptorIndex := 222, attributes := #[] }, { accessFlags := 8, nameIndex := 562, descriptorIndex := 563, attributes := #[] }])
  fields := #[{ name := "in", type := (.object "java/io/InputStream"), accessFlags := 25, slot := 0, constantValue := 0 }, { name := "out", type := (.object "java/io/PrintStream"), accessFlags := 25, slot := 1, constantValue := 0 }, { name := "err", type := (.object "java/io/PrintStream"), accessFlags := 25, slot := 2, constantValue := 0 }, { name := "initialIn", type := (.object "java/io/InputStream"), accessFlags := 10, slot := 3, constantValue := 0 }, { name := "NEVER", type := .int, accessFlags := 26, slot := 4, constantValue := 0 }, { name := "MAYBE", type := .int, accessFlags := 26, slot := 5, constantValue := 0 }, { name := "allowSecurityManager", type := .int, accessFlags := 10, slot := 6, constantValue := 0 }, { name := "security", type := (.object "java/lang/SecurityManager"), accessFlags := 74, slot := 7, constantValue := 0 }, { name := "notSupportedJnuEncoding", type := (.object "java/lang/String"), accessFlags := 10, slot := 8, constantValue := 0 }, { name := "cons", type := (.object "java/io/Console"), accessFlags := 74, slot := 9, constantValue := 0 }, { name := "initialErrStream", type := (.object "java/io/PrintStream"), accessFlags := 74, slot := 10, constantValue := 0 }, { name := "props", type := (.object "java/util/Properties"), accessFlags := 10, slot := 11, constantValue := 0 }, { name := "lineSeparator", type := (.object "java/lang/String"), accessFlags := 10, slot := 12, constantValue := 0 }, { name := "bootLayer", type := (.object "java/lang/ModuleLayer"), accessFlags := 8, slot := 13, constantValue := 0 }]
  methods := #[k5m0, k5m1]
  instanceTypes := #[]
  staticTypes := #[(.object "java/io/InputStream"), (.object "java/io/PrintStream"), (.object "java/io/PrintStream"), (.object "java/io/InputStream"), .int, .int, .int, (.object "java/lang/SecurityManager"), (.object "java/lang/String"), (.object "java/io/Console"), (.object "java/io/PrintStream"), (.object "java/util/Properties"), (.object "java/lang/String"), (.object "java/lang/ModuleLayer")]
  resolved := Array.replicate 834 none
  statics := none }

def pool6 : Array CpInfo := pool [(1, .class_ 2), (0, u "java/lang/constant/Constable"), (0, .class_ 4), (0, u "java/lang/Object")] 6

/-- java/lang/constant/Constable -/
def k6 : Class := { plain "java/lang/constant/Constable" (some 0) with
  accessFlags := 1537
  interfaces := #[]
  cf := some (fileOf pool6 1 #[] #[] 1537 3 #[] #[])
  fields := #[]
  methods := #[]
  instanceTypes := #[]
  staticTypes := #[]
  resolved := Array.replicate 11 none
  statics := none }

def pool7 : Array CpInfo := pool [(1, .class_ 2), (0, u "java/lang/Comparable"), (0, .class_ 4), (0, u "java/lang/Object")] 7

/-- java/lang/Comparable -/
def k7 : Class := { plain "java/lang/Comparable" (some 0) with
  accessFlags := 1537
  interfaces := #[]
  cf := some (fileOf pool7 1 #[] #[] 1537 3 #[] #[])
  fields := #[]
  methods := #[]
  instanceTypes := #[]
  staticTypes := #[]
  resolved := Array.replicate 12 none
  statics := none }

def pool8 : Array CpInfo := pool [(1, .class_ 2), (0, u "java/io/Serializable"), (0, .class_ 4), (0, u "java/lang/Object")] 2

/-- java/io/Serializable -/
def k8 : Class := { plain "java/io/Serializable" (some 0) with
  accessFlags := 1537
  interfaces := #[]
  cf := some (fileOf pool8 1 #[] #[] 1537 3 #[] #[])
  fields := #[]
  methods := #[]
  instanceTypes := #[]
  staticTypes := #[]
  resolved := Array.replicate 7 none
  statics := none }

def pool9 : Array CpInfo := pool [(2, .class_ 4), (1, u "java/lang/Enum"), (0, u "name"), (0, u "Ljava/lang/String;"), (2, u "ordinal"), (0, u "I"), (1, .class_ 14), (1, u "java/lang/Object"), (4, u "hash"), (86, .class_ 108), (1, u "java/lang/Enum$EnumDesc"), (2, .class_ 112), (0, u "java/lang/constant/Constable"), (0, .class_ 114), (0, u "java/lang/Comparable"), (0, .class_ 116), (0, u "java/io/Serializable")] 87

/-- java/lang/Enum -/
def k9 : Class := { plain "java/lang/Enum" (some 0) with
  accessFlags := 1057
  interfaces := #[6, 7, 8]
  cf := some (fileOf pool9 2 #[.nestMembers #[106]] #[] 1057 12 #[111, 113, 115] #[{ accessFlags := 18, nameIndex := 5, descriptorIndex := 6, attributes := #[] }, { accessFlags := 18, nameIndex := 9, descriptorIndex := 10, attributes := #[] }, { accessFlags := 2, nameIndex := 19, descriptorIndex := 10, attributes := #[] }])
  fields := #[{ name := "name", type := (.object "java/lang/String"), accessFlags := 18, slot := 0, constantValue := 0 }, { name := "ordinal", type := .int, accessFlags := 18, slot := 1, constantValue := 0 }, { name := "hash", type := .int, accessFlags := 2, slot := 2, constantValue := 0 }]
  methods := #[]
  instanceTypes := #[(.object "java/lang/String"), .int, .int]
  staticTypes := #[]
  resolved := Array.replicate 204 none
  statics := none }

def pool10 : Array CpInfo := pool [(1, .class_ 2), (0, u "java/util/concurrent/TimeUnit"), (2, u "NANOSECONDS"), (0, u "Ljava/util/concurrent/TimeUnit;"), (2, u "MICROSECONDS"), (2, u "MILLISECONDS"), (2, u "SECONDS"), (2, u "MINUTES"), (2, u "HOURS"), (2, u "DAYS"), (2, u "$VALUES"), (0, u "[Ljava/util/concurrent/TimeUnit;"), (6, .class_ 37), (1, u "java/lang/Enum"), (6, .fieldref 1 45), (0, .nameAndType 46 47), (0, u "scale"), (0, u "J"), (2, .long 9223372036854775807), (1, .fieldref 1 53), (0, .nameAndType 54 47), (0, u "maxNanos"), (4, u "microRatio"), (2, u "maxMicros"), (4, u "milliRatio"), (0, u "I"), (2, u "maxMillis"), (4, u "secRatio"), (2, u "maxSecs"), (8, u "toNanos"), (0, u "(J)J"), (73, .class_ 165), (1, u "java/util/concurrent/TimeUnit$1"), (46, u "NANO_SCALE"), (3, u "MICRO_SCALE"), (0, u "MILLI_SCALE"), (0, u "SECOND_SCALE"), (0, u "MINUTE_SCALE"), (0, u "HOUR_SCALE"), (0, u "DAY_SCALE")] 61

def k10c0 : Code := { maxStack := 6, maxLocals := 7, code := jdk_2799_method_7_code, exceptionTable := #[], attributes := #[] }
def k10m0 : Method := { name := "toNanos", desc := "(J)J", sig := { parameters := [.long], returnType := some .long }, accessFlags := 1, code := some k10c0 }
/-- java/util/concurrent/TimeUnit -/
def k10 : Class := { plain "java/util/concurrent/TimeUnit" (some 9) with
  accessFlags := 16433
  interfaces := #[]
  cf := some (fileOf pool10 1 #[.nestMembers #[163]] #[{ accessFlags := 1, nameIndex := 88, descriptorIndex := 89, attributes := #[] }] 16433 35 #[] #[{ accessFlags := 16409, nameIndex := 5, descriptorIndex := 6, attributes := #[] }, { accessFlags := 16409, nameIndex := 9, descriptorIndex := 6, attributes := #[] }, { accessFlags := 16409, nameIndex := 12, descriptorIndex := 6, attributes := #[] }, { accessFlags := 16409, nameIndex := 15, descriptorIndex := 6, attributes := #[] }, { accessFlags := 16409, nameIndex := 18, descriptorIndex := 6, attributes := #[] }, { accessFlags := 16409, nameIndex := 21, descriptorIndex := 6, attributes := #[] }, { accessFlags := 16409, nameIndex := 24, descriptorIndex := 6, attributes := #[] }, { accessFlags := 26, nameIndex := 212, descriptorIndex := 47, attributes := #[] }, { accessFlags := 26, nameIndex := 216, descriptorIndex := 47, attributes := #[] }, { accessFlags := 26, nameIndex := 217, descriptorIndex := 47, attributes := #[] }, { accessFlags := 26, nameIndex := 218, descriptorIndex := 47, attributes := #[] }, { accessFlags := 26, nameIndex := 219, descriptorIndex := 47, attributes := #[] }, { accessFlags := 26, nameIndex := 220, descriptorIndex := 47, attributes := #[] }, { accessFlags := 26, nameIndex := 221, descriptorIndex := 47, attributes := #[] }, { accessFlags := 18, nameIndex := 46, descriptorIndex := 47, attributes := #[] }, { accessFlags := 18, nameIndex := 54, descriptorIndex := 47, attributes := #[] }, { accessFlags := 18, nameIndex := 62, descriptorIndex := 47, attributes := #[] }, { accessFlags := 18, nameIndex := 71, descriptorIndex := 47, attributes := #[] }, { accessFlags := 18, nameIndex := 79, descriptorIndex := 47, attributes := #[] }, { accessFlags := 18, nameIndex := 59, descriptorIndex := 47, attributes := #[] }, { accessFlags := 18, nameIndex := 67, descriptorIndex := 68, attributes := #[] }, { accessFlags := 18, nameIndex := 76, descriptorIndex := 68, attributes := #[] }, { accessFlags := 4122, nameIndex := 27, descriptorIndex := 28, attributes := #[] }])
  fields := #[{ name := "NANOSECONDS", type := (.object "java/util/concurrent/TimeUnit"), accessFlags := 16409, slot := 0, constantValue := 0 }, { name := "MICROSECONDS", type := (.object "java/util/concurrent/TimeUnit"), accessFlags := 16409, slot := 1, constantValue := 0 }, { name := "MILLISECONDS", type := (.object "java/util/concurrent/TimeUnit"), accessFlags := 16409, slot := 2, constantValue := 0 }, { name := "SECONDS", type := (.object "java/util/concurrent/TimeUnit"), accessFlags := 16409, slot := 3, constantValue := 0 }, { name := "MINUTES", type := (.object "java/util/concurrent/TimeUnit"), accessFlags := 16409, slot := 4, constantValue := 0 }, { name := "HOURS", type := (.object "java/util/concurrent/TimeUnit"), accessFlags := 16409, slot := 5, constantValue := 0 }, { name := "DAYS", type := (.object "java/util/concurrent/TimeUnit"), accessFlags := 16409, slot := 6, constantValue := 0 }, { name := "NANO_SCALE", type := .long, accessFlags := 26, slot := 7, constantValue := 0 }, { name := "MICRO_SCALE", type := .long, accessFlags := 26, slot := 8, constantValue := 0 }, { name := "MILLI_SCALE", type := .long, accessFlags := 26, slot := 9, constantValue := 0 }, { name := "SECOND_SCALE", type := .long, accessFlags := 26, slot := 10, constantValue := 0 }, { name := "MINUTE_SCALE", type := .long, accessFlags := 26, slot := 11, constantValue := 0 }, { name := "HOUR_SCALE", type := .long, accessFlags := 26, slot := 12, constantValue := 0 }, { name := "DAY_SCALE", type := .long, accessFlags := 26, slot := 13, constantValue := 0 }, { name := "scale", type := .long, accessFlags := 18, slot := 3, constantValue := 0 }, { name := "maxNanos", type := .long, accessFlags := 18, slot := 4, constantValue := 0 }, { name := "maxMicros", type := .long, accessFlags := 18, slot := 5, constantValue := 0 }, { name := "maxMillis", type := .long, accessFlags := 18, slot := 6, constantValue := 0 }, { name := "maxSecs", type := .long, accessFlags := 18, slot := 7, constantValue := 0 }, { name := "microRatio", type := .long, accessFlags := 18, slot := 8, constantValue := 0 }, { name := "milliRatio", type := .int, accessFlags := 18, slot := 9, constantValue := 0 }, { name := "secRatio", type := .int, accessFlags := 18, slot := 10, constantValue := 0 }, { name := "$VALUES", type := (.array (.object "java/util/concurrent/TimeUnit")), accessFlags := 4122, slot := 14, constantValue := 0 }]
  methods := #[k10m0]
  instanceTypes := #[(.object "java/lang/String"), .int, .int, .long, .long, .long, .long, .long, .long, .int, .int]
  staticTypes := #[(.object "java/util/concurrent/TimeUnit"), (.object "java/util/concurrent/TimeUnit"), (.object "java/util/concurrent/TimeUnit"), (.object "java/util/concurrent/TimeUnit"), (.object "java/util/concurrent/TimeUnit"), (.object "java/util/concurrent/TimeUnit"), (.object "java/util/concurrent/TimeUnit"), .long, .long, .long, .long, .long, .long, .long, (.array (.object "java/util/concurrent/TimeUnit"))]
  resolved := Array.replicate 283 none
  statics := some 0 }

def pool11 : Array CpInfo := pool [(1, u "java/lang/Cloneable"), (0, .class_ 1), (0, u "java/lang/Object"), (0, .class_ 3)] 3

/-- java/lang/Cloneable -/
def k11 : Class := { plain "java/lang/Cloneable" (some 0) with
  accessFlags := 1537
  interfaces := #[]
  cf := some (fileOf pool11 2 #[] #[] 1537 4 #[] #[])
  fields := #[]
  methods := #[]
  instanceTypes := #[]
  staticTypes := #[]
  resolved := Array.replicate 8 none
  statics := none }

/-- the primitive byte -/
def k12 : Class := { plain "byte" none with kind := .primitive 'B', accessFlags := 0x411 }
/-- [B -/
def k13 : Class := { plain "[B" (some 0) with kind := .array 12 .byte, interfaces := #[11, 8], accessFlags := 1041 }

/-- the primitive int -/
def k14 : Class := { plain "int" none with kind := .primitive 'I', accessFlags := 0x411 }
/-- [I -/
def k15 : Class := { plain "[I" (some 0) with kind := .array 14 .int, interfaces := #[11, 8], accessFlags := 1041 }

/-- the primitive long -/
def k16 : Class := { plain "long" none with kind := .primitive 'J', accessFlags := 0x411 }
/-- [J -/
def k17 : Class := { plain "[J" (some 0) with kind := .array 16 .long, interfaces := #[11, 8], accessFlags := 1041 }

/-- java/lang/String -/
def k18 : Class := plain "java/lang/String" (some 0)
def heap : Heap := #[{ cls := 10, slots := #[.null, .null, .ref 1, .null, .null, .null, .null, .long 0, .long 0, .long 0, .long 0, .long 0, .long 0, .long 0, .null], vm := .statics 10 },
  { cls := 10, slots := #[.ref 2, .int 2, .int 0, .long 1000000, .long 9223372036854, .long 9223372036854775, .long 9223372036854775807, .long 9223372036854775, .long 1000, .int 1, .int 1000], vm := .none },
  { cls := 18, slots := #[], vm := .none }]
def classes : Array Class := #[k0, k1, k2, k3, k4, k5, k6, k7, k8, k9, k10, k11, k12, k13, k14, k15, k16, k17, k18]
def interned : List (Array UInt16 × Addr) := []
def slotsUsed : Nat := 26
def theMethod : MethodId := ⟨1, 6⟩
def args0 : Array Value := #[.int 3, .long 1, .long 2, .long 3, .long 4, .long 5]
def aboutOver (below : List Frame) : State where
  vm := { classes := classes, interned := interned.toArray }
  heap := heap
  slotsUsed := slotsUsed
  threads := #[{ frames := .invoking theMethod args0 :: below }]
def below0 : List Frame := [.native { method := ⟨0, 0⟩, args := #[] }]
def about1 : State := aboutOver below0
def p0 : Program := .bare "" "" ""
def e0 : Env := launch0.env 0 0 0
theorem w_frames : about1.frames = Frame.invoking theMethod args0 :: below0 := rfl
set_option maxRecDepth 65536 in
theorem w_args : argsFit about1.vm theMethod args0 = true := by decide +kernel
set_option maxRecDepth 65536 in
theorem w_heap : heapFits about1 = true := by decide +kernel
set_option maxRecDepth 65536 in
theorem w_runnable : about1.curStatus? = some .runnable := by decide +kernel
set_option maxRecDepth 65536 in
theorem w_alone : about1.alone = true := by decide +kernel
set_option maxRecDepth 65536 in
theorem w_named : about1.methodNamed? x = some theMethod := by decide +kernel
set_option maxRecDepth 65536 in
theorem w_hears : about1.hears theMethod below0 = true := by decide +kernel
set_option maxRecDepth 65536 in
theorem w_ripe : about1.ripe theMethod args0 below0 = true := by decide +kernel
theorem w_running : about1.status = .running := rfl
set_option maxRecDepth 65536 in
theorem w_room : about1.hasRoom e0.platform room_1 = true :=
  launch0.hasRoom_least _ room_1 (by decide +kernel) (by decide +kernel) (by decide +kernel) (by decide +kernel) (by decide +kernel) (by decide +kernel)
theorem allAtoms_all (ts : List Jvm.Cond) (a : Array Jvm.Value) (st : Jvm.State) : (allAtoms ts).before a st = ts.all (fun c => c.before a st) := by
  induction ts with
  | nil => rfl
  | cons c t ih =>
    show (Jvm.Cond.and c (allAtoms t)).before a st = _
    rw [Jvm.Cond.before_and, ih, List.all_cons]
def words1 : List Jvm.Cond := Jvm.Cond.code x code maxLocals ret :: tables_1
/-- a 'code' word, met by the world's own term for the bytes: nothing is compared byte by byte -/
theorem code_word {y : MethodName} {bytes : ByteArray} {mx : Nat} {rt : Option FieldType} {a : Array Value} {s : State} {m : MethodId} {meth : Method} {c : Code} (h1 : s.methodNamed? y = some m) (h2 : s.vm.method? m = some meth) (h3 : meth.code = some c) (h4 : c.code = bytes)
    (h5 : (c.maxLocals == mx && c.exceptionTable.isEmpty && decide (c.maxStack ≤ mostOperands) && decide (meth.sig.returnType = rt) && !meth.locks && decide (parseMethodDescriptor y.desc = some meth.sig)) = true) : (Jvm.Cond.code y bytes mx rt).before a s = true := by
  simp only [Bool.and_eq_true, beq_iff_eq, Bool.not_eq_true', decide_eq_true_eq] at h5
  obtain ⟨⟨⟨⟨⟨g1, g2⟩, g3⟩, g4⟩, g5⟩, g6⟩ := h5
  simp [Cond.before, Cond.holds, Cond.value, h1, h2, h3, h4, g1, g2, g3, g4, g5, g6]
def isCode : Jvm.Cond → Bool
  | .code _ _ _ _ => true
  | _ => false
theorem all_split {L : List Jvm.Cond} {P : Jvm.Cond → Bool} (h1 : L.all (fun c => isCode c || P c) = true) (h2 : ∀ c ∈ L.filter isCode, P c = true) : L.all P = true := by
  refine List.all_eq_true.mpr fun c hc => ?_
  have h := List.all_eq_true.mp h1 c hc
  rcases Bool.eq_false_or_eq_true (isCode c) with hi | hi
  · exact h2 c (List.mem_filter.mpr ⟨hc, hi⟩)
  · simpa [hi] using h
set_option maxRecDepth 65536 in
theorem w_c0 : (Jvm.Cond.code x code maxLocals ret).before args0 about1 = true := code_word (m := ⟨1, 6⟩) (meth := k1m6) (c := k1c6) (by decide +kernel) rfl rfl rfl (by decide +kernel)
set_option maxRecDepth 65536 in
theorem w_c1 : (Jvm.Cond.code ({ cls := "com/example/ferrybell/ferrybell/runtime/Restarts", name := "<init>", desc := "(I)V" } : Jvm.MethodName) prog_41_method_1_code (2 : Nat) (Option.none : Option Jvm.ClassFile.FieldType)).before args0 about1 = true := code_word (m := ⟨2, 0⟩) (meth := k2m0) (c := k2c0) (by decide +kernel) rfl rfl rfl (by decide +kernel)
set_option maxRecDepth 65536 in
theorem w_c2 : (Jvm.Cond.code ({ cls := "java/lang/Object", name := "<init>", desc := "()V" } : Jvm.MethodName) object_method_1_code (1 : Nat) (Option.none : Option Jvm.ClassFile.FieldType)).before args0 about1 = true := code_word (m := ⟨0, 0⟩) (meth := k0m0) (c := k0c0) (by decide +kernel) rfl rfl rfl (by decide +kernel)
set_option maxRecDepth 65536 in
theorem w_c3 : (Jvm.Cond.code ({ cls := "com/example/ferrybell/ferrybell/runtime/RestartsTryRestartPinLaw", name := "step", desc := "(Lcom/example/ferrybell/ferrybell/runtime/Restarts;[J[IIIIJJ)Z" } : Jvm.MethodName) method_6_code (15 : Nat) (Option.some Jvm.ClassFile.FieldType.boolean)).before args0 about1 = true := code_word (m := ⟨1, 5⟩) (meth := k1m5) (c := k1c5) (by decide +kernel) rfl rfl rfl (by decide +kernel)
set_option maxRecDepth 65536 in
theorem w_c4 : (Jvm.Cond.code ({ cls := "com/example/ferrybell/ferrybell/runtime/RestartsTryRestartPinLaw", name := "limit", desc := "(III)I" } : Jvm.MethodName) method_4_code (5 : Nat) (Option.some Jvm.ClassFile.FieldType.int)).before args0 about1 = true := code_word (m := ⟨1, 3⟩) (meth := k1m3) (c := k1c3) (by decide +kernel) rfl rfl rfl (by decide +kernel)
set_option maxRecDepth 65536 in
theorem w_c5 : (Jvm.Cond.code ({ cls := "com/example/ferrybell/ferrybell/runtime/RestartsTryRestartPinLaw", name := "window", desc := "(IIJ)J" } : Jvm.MethodName) method_5_code (4 : Nat) (Option.some Jvm.ClassFile.FieldType.long)).before args0 about1 = true := code_word (m := ⟨1, 4⟩) (meth := k1m4) (c := k1c4) (by decide +kernel) rfl rfl rfl (by decide +kernel)
set_option maxRecDepth 65536 in
theorem w_c6 : (Jvm.Cond.code ({ cls := "com/example/ferrybell/ferrybell/runtime/RestartsTryRestartPinLaw", name := "expected", desc := "([J[IIJJ)Z" } : Jvm.MethodName) method_3_code (9 : Nat) (Option.some Jvm.ClassFile.FieldType.boolean)).before args0 about1 = true := code_word (m := ⟨1, 2⟩) (meth := k1m2) (c := k1c2) (by decide +kernel) rfl rfl rfl (by decide +kernel)
set_option maxRecDepth 65536 in
theorem w_c7 : (Jvm.Cond.code ({ cls := "com/example/ferrybell/ferrybell/runtime/Restarts", name := "tryRestart", desc := "(IJJ)Z" } : Jvm.MethodName) prog_41_method_2_code (8 : Nat) (Option.some Jvm.ClassFile.FieldType.boolean)).before args0 about1 = true := code_word (m := ⟨2, 1⟩) (meth := k2m1) (c := k2c1) (by decide +kernel) rfl rfl rfl (by decide +kernel)
set_option maxRecDepth 65536 in
theorem w_c8 : (Jvm.Cond.code ({ cls := "com/example/ferrybell/ferrybell/runtime/Restarts", name := "keep", desc := "(J)V" } : Jvm.MethodName) prog_41_method_3_code (3 : Nat) (Option.none : Option Jvm.ClassFile.FieldType)).before args0 about1 = true := code_word (m := ⟨2, 2⟩) (meth := k2m2) (c := k2c2) (by decide +kernel) rfl rfl rfl (by decide +kernel)
set_option maxRecDepth 65536 in
theorem w_c9 : (Jvm.Cond.code ({ cls := "java/lang/Math", name := "max", desc := "(JJ)J" } : Jvm.MethodName) jdk_29_method_66_code (4 : Nat) (Option.some Jvm.ClassFile.FieldType.long)).before args0 about1 = true := code_word (m := ⟨3, 1⟩) (meth := k3m1) (c := k3c1) (by decide +kernel) rfl rfl rfl (by decide +kernel)
set_option maxRecDepth 65536 in
theorem w_c10 : (Jvm.Cond.code ({ cls := "java/lang/Math", name := "min", desc := "(JJ)J" } : Jvm.MethodName) jdk_29_method_70_code (4 : Nat) (Option.some Jvm.ClassFile.FieldType.long)).before args0 about1 = true := code_word (m := ⟨3, 3⟩) (meth := k3m3) (c := k3c3) (by decide +kernel) rfl rfl rfl (by decide +kernel)
set_option maxRecDepth 65536 in
theorem w_c11 : (Jvm.Cond.code ({ cls := "java/util/Arrays", name := "copyOf", desc := "([JI)[J" } : Jvm.MethodName) jdk_65_method_124_code (3 : Nat) (Option.some (Jvm.ClassFile.FieldType.array Jvm.ClassFile.FieldType.long))).before args0 about1 = true := code_word (m := ⟨4, 1⟩) (meth := k4m1) (c := k4c1) (by decide +kernel) rfl rfl rfl (by decide +kernel)
set_option maxRecDepth 65536 in
theorem w_c12 : (Jvm.Cond.code ({ cls := "java/lang/Math", name := "min", desc := "(II)I" } : Jvm.MethodName) jdk_29_method_69_code (2 : Nat) (Option.some Jvm.ClassFile.FieldType.int)).before args0 about1 = true := code_word (m := ⟨3, 2⟩) (meth := k3m2) (c := k3c2) (by decide +kernel) rfl rfl rfl (by decide +kernel)
set_option maxRecDepth 65536 in
theorem w_c13 : (Jvm.Cond.code ({ cls := "com/example/ferrybell/ferrybell/runtime/RestartsTryRestartPinLaw", name := "nanos", desc := "(J)J" } : Jvm.MethodName) method_2_code (2 : Nat) (Option.some Jvm.ClassFile.FieldType.long)).before args0 about1 = true := code_word (m := ⟨1, 1⟩) (meth := k1m1) (c := k1c1) (by decide +kernel) rfl rfl rfl (by decide +kernel)
set_option maxRecDepth 65536 in
theorem w_c14 : (Jvm.Cond.code ({ cls := "java/util/concurrent/TimeUnit", name := "toNanos", desc := "(J)J" } : Jvm.MethodName) jdk_2799_method_7_code (7 : Nat) (Option.some Jvm.ClassFile.FieldType.long)).before args0 about1 = true := code_word (m := ⟨10, 0⟩) (meth := k10m0) (c := k10c0) (by decide +kernel) rfl rfl rfl (by decide +kernel)
def codes1 : List Jvm.Cond := [Jvm.Cond.code x code maxLocals ret, Jvm.Cond.code ({ cls := "com/example/ferrybell/ferrybell/runtime/Restarts", name := "<init>", desc := "(I)V" } : Jvm.MethodName) prog_41_method_1_code (2 : Nat) (Option.none : Option Jvm.ClassFile.FieldType), Jvm.Cond.code ({ cls := "java/lang/Object", name := "<init>", desc := "()V" } : Jvm.MethodName) object_method_1_code (1 : Nat) (Option.none : Option Jvm.ClassFile.FieldType), Jvm.Cond.code ({ cls := "com/example/ferrybell/ferrybell/runtime/RestartsTryRestartPinLaw", name := "step", desc := "(Lcom/example/ferrybell/ferrybell/runtime/Restarts;[J[IIIIJJ)Z" } : Jvm.MethodName) method_6_code (15 : Nat) (Option.some Jvm.ClassFile.FieldType.boolean), Jvm.Cond.code ({ cls := "com/example/ferrybell/ferrybell/runtime/RestartsTryRestartPinLaw", name := "limit", desc := "(III)I" } : Jvm.MethodName) method_4_code (5 : Nat) (Option.some Jvm.ClassFile.FieldType.int), Jvm.Cond.code ({ cls := "com/example/ferrybell/ferrybell/runtime/RestartsTryRestartPinLaw", name := "window", desc := "(IIJ)J" } : Jvm.MethodName) method_5_code (4 : Nat) (Option.some Jvm.ClassFile.FieldType.long), Jvm.Cond.code ({ cls := "com/example/ferrybell/ferrybell/runtime/RestartsTryRestartPinLaw", name := "expected", desc := "([J[IIJJ)Z" } : Jvm.MethodName) method_3_code (9 : Nat) (Option.some Jvm.ClassFile.FieldType.boolean), Jvm.Cond.code ({ cls := "com/example/ferrybell/ferrybell/runtime/Restarts", name := "tryRestart", desc := "(IJJ)Z" } : Jvm.MethodName) prog_41_method_2_code (8 : Nat) (Option.some Jvm.ClassFile.FieldType.boolean), Jvm.Cond.code ({ cls := "com/example/ferrybell/ferrybell/runtime/Restarts", name := "keep", desc := "(J)V" } : Jvm.MethodName) prog_41_method_3_code (3 : Nat) (Option.none : Option Jvm.ClassFile.FieldType), Jvm.Cond.code ({ cls := "java/lang/Math", name := "max", desc := "(JJ)J" } : Jvm.MethodName) jdk_29_method_66_code (4 : Nat) (Option.some Jvm.ClassFile.FieldType.long), Jvm.Cond.code ({ cls := "java/lang/Math", name := "min", desc := "(JJ)J" } : Jvm.MethodName) jdk_29_method_70_code (4 : Nat) (Option.some Jvm.ClassFile.FieldType.long), Jvm.Cond.code ({ cls := "java/util/Arrays", name := "copyOf", desc := "([JI)[J" } : Jvm.MethodName) jdk_65_method_124_code (3 : Nat) (Option.some (Jvm.ClassFile.FieldType.array Jvm.ClassFile.FieldType.long)), Jvm.Cond.code ({ cls := "java/lang/Math", name := "min", desc := "(II)I" } : Jvm.MethodName) jdk_29_method_69_code (2 : Nat) (Option.some Jvm.ClassFile.FieldType.int), Jvm.Cond.code ({ cls := "com/example/ferrybell/ferrybell/runtime/RestartsTryRestartPinLaw", name := "nanos", desc := "(J)J" } : Jvm.MethodName) method_2_code (2 : Nat) (Option.some Jvm.ClassFile.FieldType.long), Jvm.Cond.code ({ cls := "java/util/concurrent/TimeUnit", name := "toNanos", desc := "(J)J" } : Jvm.MethodName) jdk_2799_method_7_code (7 : Nat) (Option.some Jvm.ClassFile.FieldType.long)]
set_option maxRecDepth 65536 in
theorem codes_eq : words1.filter isCode = codes1 := rfl
theorem w_codes : ∀ c ∈ words1.filter isCode, c.before args0 about1 = true := by
  rw [codes_eq]
  intro c hc
  simp only [codes1, List.mem_cons, List.not_mem_nil, or_false] at hc
  rcases hc with rfl | rfl | rfl | rfl | rfl | rfl | rfl | rfl | rfl | rfl | rfl | rfl | rfl | rfl | rfl
  · exact w_c0
  · exact w_c1
  · exact w_c2
  · exact w_c3
  · exact w_c4
  · exact w_c5
  · exact w_c6
  · exact w_c7
  · exact w_c8
  · exact w_c9
  · exact w_c10
  · exact w_c11
  · exact w_c12
  · exact w_c13
  · exact w_c14
set_option maxRecDepth 65536 in
theorem w_t1 : (words1.take 24).all (fun c => isCode c || c.before args0 about1) = true := by decide +kernel
set_option maxRecDepth 65536 in
theorem w_t2 : ((words1.drop 24).take 24).all (fun c => isCode c || c.before args0 about1) = true := by decide +kernel
set_option maxRecDepth 65536 in
theorem w_t3 : (((words1.drop 24).drop 24).take 24).all (fun c => isCode c || c.before args0 about1) = true := by decide +kernel
set_option maxRecDepth 65536 in
theorem w_t4 : (((words1.drop 24).drop 24).drop 24).all (fun c => isCode c || c.before args0 about1) = true := by decide +kernel
theorem w_tables : (allAtoms (Jvm.Cond.code x code maxLocals ret :: tables_1)).before args0 about1 = true := by
  rw [allAtoms_all]
  show words1.all (fun c => c.before args0 about1) = true
  refine all_split ?_ w_codes
  rw [← List.take_append_drop 24 words1, List.all_append, w_t1, ← List.take_append_drop 24 (words1.drop 24), List.all_append, w_t2, ← List.take_append_drop 24 ((words1.drop 24).drop 24), List.all_append, w_t3, w_t4]
  rfl
set_option maxRecDepth 65536 in
theorem w_rest : rest_1_c.before args0 about1 = true := by decide +kernel
set_option maxRecDepth 65536 in
theorem w_case : (Jvm.Cond.and given_1 narrow_1).before args0 about1 = true := by decide +kernel
theorem w_applies : (headSpec (Jvm.Cond.code x code maxLocals ret :: tables_1) room_1).applies x e0.platform about1 = true :=
  (Spec.applies_iff w_frames).mpr ⟨w_running, w_runnable, w_alone, w_named, w_hears, w_ripe, w_room, w_tables⟩
theorem atStart : AtStart classFile x code maxLocals ret World_1 tables_1 room_1 Calls_1 rest_1 Pre_1 launch0 p0 e0 about1 theMethod args0 below0 :=
  ⟨lists_1, trivial, launch0.admits_env _ _ _, launch0.least_env, fairChoices_fair.cas, fairChoices_fair.clock, w_frames, w_args, w_heap, w_applies, trivial, w_rest, w_case⟩
end start1
theorem witness_1 : WitnessClaimed_1 := ⟨start1.p0, start1.e0, start1.about1, start1.theMethod, start1.args0, start1.below0, start1.atStart⟩
end Jvm.Pilot.@@N@@
