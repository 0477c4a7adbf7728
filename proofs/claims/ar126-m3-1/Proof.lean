import JvmDerived
import JvmDerived.Pilot.@@N@@Statement
import JvmDerived.Pilot.@@N@@Code
set_option linter.unusedVariables false
set_option linter.unusedSimpArgs false
namespace Jvm.Pilot.@@N@@
open Jvm Jvm.ClassFile Sem Op Lib Jvm.Free Jvm.Stand Jvm.LawKit Jvm.RoadKit Bundle Jvm.Pilot.@@N@@.Jvm.D
/-! own kit: the walk's goal as one word (Goes), the end of a body (Ends), the five returns -/
section OwnKit
/-- from S the run comes to some state and outcome of which P holds -/
def Goes (tb : Tables) (e : Env) (below : List Frame) (P : State → Outcome → Prop) (S : State) : Prop := ∃ t o, Steps tb e below S t ∧ P t o
/-- what a body owes at its end -/
def Ends (below : List Frame) (s : State) (Q : Option Value → Heap → List Loc → Prop) (kc ks : Nat) (t : State) (o : Outcome) : Prop :=
  t.status = .running ∧ Ended t below o ∧ ∃ v L, o = .returned v ∧ Q v t.heap L ∧ FrameEnd s o t L kc ks
theorem Goes.st {tb : Tables} {e : Env} {below : List Frame} {P : State → Outcome → Prop} {S S' : State} (h : ∀ target, Steps tb e below S' target → Steps tb e below S target) (k : Goes tb e below P S') : Goes tb e below P S :=
  let ⟨t, o, h1, h2⟩ := k; ⟨t, o, h t h1, h2⟩
theorem Goes.tr {tb : Tables} {e : Env} {below : List Frame} {P : State → Outcome → Prop} {S S' : State} (h : Steps tb e below S S') (k : Goes tb e below P S') : Goes tb e below P S :=
  let ⟨t, o, h1, h2⟩ := k; ⟨t, o, h.trans h1, h2⟩
theorem Goes.cast {tb : Tables} {e : Env} {below : List Frame} {P : State → Outcome → Prop} {T : State} {g g' : JFrame} (q : g = g') (k : Goes tb e below P (T.setTop g')) : Goes tb e below P (T.setTop g) := q ▸ k
variable {p : Program} {l : Launch} {e : Env} {R : Room} {s : State} {m : MethodId} {args : Array Value} {below : List Frame} {meth : Method} {c : Code} {T : State} {locs : List Loc} {cells slots : Nat}
theorem own_out (X : Stand p l e R s m args below meth c T locs cells slots) {v : Option Value} (hv : meth.sig.returnType = none → v = none) (hlk : meth.locks = false) {S : State} {Q : Option Value → Heap → List Loc → Prop} {kc ks : Nat} (hc : cells ≤ kc) (hs : slots ≤ ks) (hQ : Q v T.heap locs)
    (go : ∀ fs, (∀ (f : JFrame) (acts : List Action), f.method = m → f.locked = none → f.entered = [] → (doReturn e (T.setTop f) acts v).1 = T.setFrames fs) → Steps p.tables e below S (T.setFrames fs)) : Goes p.tables e below (Ends below s Q kc ks) S := by
  obtain ⟨fs, hr, hrun, hended, hW, hsame⟩ := X.leave (v := v) hv hlk
  exact ⟨_, _, go fs hr, hrun, hended, _, _, rfl, hQ, ⟨_, rfl⟩, hW, hsame.mono hc hs⟩
/-- ireturn of a boolean -/
theorem leafZ (X : Stand p l e R s m args below meth c T locs cells slots) (hx : p.tables.exec = Jvm.exec) (hlk : meth.locks = false) (hret : meth.sig.returnType = some .boolean) {pc : Nat} {Ls : Array Slot} {z : Int32} {rest : List Value} (hd : decode c.code pc = .ok (.ireturn, 1)) (hz : z = 0 ∨ z = 1)
    {Q : Option Value → Heap → List Loc → Prop} {kc ks : Nat} (hc : cells ≤ kc) (hs : slots ≤ ks) (hQ : Q (some (.int z)) T.heap locs) : Goes p.tables e below (Ends below s Q kc ks) (T.setTop (mkF m pc Ls (.int z :: rest))) :=
  own_out X (fun h => by rw [hret] at h; cases h) hlk hc hs hQ fun fs hr => retOut X hx hret (by rcases hz with rfl | rfl <;> rfl) (Or.inl ⟨rfl, Or.inr (Or.inl rfl), z, rfl⟩) hd hr
/-- ireturn of an int -/
theorem leafI (X : Stand p l e R s m args below meth c T locs cells slots) (hx : p.tables.exec = Jvm.exec) (hlk : meth.locks = false) (hret : meth.sig.returnType = some .int) {pc : Nat} {Ls : Array Slot} {z : Int32} {rest : List Value} (hd : decode c.code pc = .ok (.ireturn, 1))
    {Q : Option Value → Heap → List Loc → Prop} {kc ks : Nat} (hc : cells ≤ kc) (hs : slots ≤ ks) (hQ : Q (some (.int z)) T.heap locs) : Goes p.tables e below (Ends below s Q kc ks) (T.setTop (mkF m pc Ls (.int z :: rest))) :=
  own_out X (fun h => by rw [hret] at h; cases h) hlk hc hs hQ fun fs hr => retOut X hx hret rfl (Or.inl ⟨rfl, Or.inl rfl, z, rfl⟩) hd hr
/-- lreturn -/
theorem leafJ (X : Stand p l e R s m args below meth c T locs cells slots) (hx : p.tables.exec = Jvm.exec) (hlk : meth.locks = false) (hret : meth.sig.returnType = some .long) {pc : Nat} {Ls : Array Slot} {z : Int64} {rest : List Value} (hd : decode c.code pc = .ok (.lreturn, 1))
    {Q : Option Value → Heap → List Loc → Prop} {kc ks : Nat} (hc : cells ≤ kc) (hs : slots ≤ ks) (hQ : Q (some (.long z)) T.heap locs) : Goes p.tables e below (Ends below s Q kc ks) (T.setTop (mkF m pc Ls (.long z :: rest))) :=
  own_out X (fun h => by rw [hret] at h; cases h) hlk hc hs hQ fun fs hr => retOut X hx hret rfl (Or.inr (Or.inl ⟨rfl, rfl, z, rfl⟩)) hd hr
/-- areturn -/
theorem leafA (X : Stand p l e R s m args below meth c T locs cells slots) (hx : p.tables.exec = Jvm.exec) (hlk : meth.locks = false) {t : FieldType} (hret : meth.sig.returnType = some t) (ht : t.isReference = true) {pc : Nat} {Ls : Array Slot} {w : Value} (hw : w.isRef = true) {rest : List Value} (hd : decode c.code pc = .ok (.areturn, 1))
    {Q : Option Value → Heap → List Loc → Prop} {kc ks : Nat} (hc : cells ≤ kc) (hs : slots ≤ ks) (hQ : Q (some w) T.heap locs) : Goes p.tables e below (Ends below s Q kc ks) (T.setTop (mkF m pc Ls (w :: rest))) :=
  own_out X (fun h => by rw [hret] at h; cases h) hlk hc hs hQ fun fs hr => retOut X hx hret (by rcases ref_cases hw with rfl | ⟨a, rfl⟩ <;> cases t <;> rfl) (Or.inr (Or.inr (Or.inr (Or.inr ⟨rfl, ht, hw⟩)))) hd hr
/-- return of nothing -/
theorem leafN (X : Stand p l e R s m args below meth c T locs cells slots) (hx : p.tables.exec = Jvm.exec) (hlk : meth.locks = false) (hret : meth.sig.returnType = none) {pc : Nat} {Ls : Array Slot} (hd : decode c.code pc = .ok (.return_, 1))
    {Q : Option Value → Heap → List Loc → Prop} {kc ks : Nat} (hc : cells ≤ kc) (hs : slots ≤ ks) (hQ : Q none T.heap locs) : Goes p.tables e below (Ends below s Q kc ks) (T.setTop (mkF m pc Ls [])) :=
  own_out X (fun _ => rfl) hlk hc hs hQ fun fs hr => X.returnOut hx hret hd hr
end OwnKit
theorem d1_0 : decode method_2_code 0 = .ok (.iload_n 0, 1) := by decide +kernel
theorem d1_1 : decode method_2_code 1 = .ok (.iconst 3, 1) := by decide +kernel
theorem d1_2 : decode method_2_code 2 = .ok (.iand, 1) := by decide +kernel
theorem d1_3 : decode method_2_code 3 = .ok (.istore_n 1, 1) := by decide +kernel
theorem d1_4 : decode method_2_code 4 = .ok (.iload_n 1, 1) := by decide +kernel
theorem d1_5 : decode method_2_code 5 = .ok (.iconst 3, 1) := by decide +kernel
theorem d1_6 : decode method_2_code 6 = .ok (.if_icmp .ne 5, 3) := by decide +kernel
theorem d1_9 : decode method_2_code 9 = .ok (.iconst (-1), 1) := by decide +kernel
theorem d1_10 : decode method_2_code 10 = .ok (.ireturn, 1) := by decide +kernel
theorem d1_11 : decode method_2_code 11 = .ok (.iload_n 1, 1) := by decide +kernel
theorem d1_12 : decode method_2_code 12 = .ok (.ireturn, 1) := by decide +kernel
theorem pn_1 : plainFor (⟨"com/example/rulefold/rulefold/PatternSubjectInPinLaw", "var", "(I)I"⟩ : MethodName) = true := by decide +kernel
theorem pd_1 : parseMethodDescriptor "(I)I" = some ⟨[.int], (some .int)⟩ := by decide +kernel
theorem d2_0 : decode jdk_42_method_139_code 0 = .ok (.getstatic 38, 3) := by decide +kernel
theorem d2_3 : decode jdk_42_method_139_code 3 = .ok (.ifCond .eq 23, 3) := by decide +kernel
theorem d2_6 : decode jdk_42_method_139_code 6 = .ok (.iload_n 0, 1) := by decide +kernel
theorem d2_7 : decode jdk_42_method_139_code 7 = .ok (.invokestatic 1015, 3) := by decide +kernel
theorem d2_10 : decode jdk_42_method_139_code 10 = .ok (.ifCond .eq 16, 3) := by decide +kernel
theorem d2_13 : decode jdk_42_method_139_code 13 = .ok (.new 10, 3) := by decide +kernel
theorem d2_16 : decode jdk_42_method_139_code 16 = .ok (.dup, 1) := by decide +kernel
theorem d2_17 : decode jdk_42_method_139_code 17 = .ok (.iload_n 0, 1) := by decide +kernel
theorem d2_18 : decode jdk_42_method_139_code 18 = .ok (.invokestatic 1018, 3) := by decide +kernel
theorem d2_21 : decode jdk_42_method_139_code 21 = .ok (.iconst 0, 1) := by decide +kernel
theorem d2_22 : decode jdk_42_method_139_code 22 = .ok (.invokespecial 209, 3) := by decide +kernel
theorem d2_25 : decode jdk_42_method_139_code 25 = .ok (.areturn, 1) := by decide +kernel
theorem pn_2 : plainFor (⟨"java/lang/String", "valueOf", "(C)Ljava/lang/String;"⟩ : MethodName) = true := by decide +kernel
theorem pd_2 : parseMethodDescriptor "(C)Ljava/lang/String;" = some ⟨[.char], (some (.object "java/lang/String"))⟩ := by decide +kernel
theorem d3_0 : decode jdk_43_method_3_code 0 = .ok (.iload_n 0, 1) := by decide +kernel
theorem d3_1 : decode jdk_43_method_3_code 1 = .ok (.sipush 255, 3) := by decide +kernel
theorem d3_4 : decode jdk_43_method_3_code 4 = .ok (.if_icmp .gt 7, 3) := by decide +kernel
theorem d3_7 : decode jdk_43_method_3_code 7 = .ok (.iconst 1, 1) := by decide +kernel
theorem d3_8 : decode jdk_43_method_3_code 8 = .ok (.goto 4, 3) := by decide +kernel
theorem d3_12 : decode jdk_43_method_3_code 12 = .ok (.ireturn, 1) := by decide +kernel
theorem pn_3 : plainFor (⟨"java/lang/StringLatin1", "canEncode", "(C)Z"⟩ : MethodName) = true := by decide +kernel
theorem pd_3 : parseMethodDescriptor "(C)Z" = some ⟨[.char], (some .boolean)⟩ := by decide +kernel
theorem d4_0 : decode jdk_43_method_46_code 0 = .ok (.iconst 1, 1) := by decide +kernel
theorem d4_1 : decode jdk_43_method_46_code 1 = .ok (.newarray .byte, 2) := by decide +kernel
theorem d4_3 : decode jdk_43_method_46_code 3 = .ok (.dup, 1) := by decide +kernel
theorem d4_4 : decode jdk_43_method_46_code 4 = .ok (.iconst 0, 1) := by decide +kernel
theorem d4_5 : decode jdk_43_method_46_code 5 = .ok (.iload_n 0, 1) := by decide +kernel
theorem d4_6 : decode jdk_43_method_46_code 6 = .ok (.i2b, 1) := by decide +kernel
theorem d4_7 : decode jdk_43_method_46_code 7 = .ok (.bastore, 1) := by decide +kernel
theorem d4_8 : decode jdk_43_method_46_code 8 = .ok (.areturn, 1) := by decide +kernel
theorem pn_4 : plainFor (⟨"java/lang/StringLatin1", "toBytes", "(C)[B"⟩ : MethodName) = true := by decide +kernel
theorem pd_4 : parseMethodDescriptor "(C)[B" = some ⟨[.char], (some (.array .byte))⟩ := by decide +kernel
theorem d5_0 : decode jdk_42_method_151_code 0 = .ok (.aload_n 0, 1) := by decide +kernel
theorem d5_1 : decode jdk_42_method_151_code 1 = .ok (.invokespecial 1, 3) := by decide +kernel
theorem d5_4 : decode jdk_42_method_151_code 4 = .ok (.aload_n 0, 1) := by decide +kernel
theorem d5_5 : decode jdk_42_method_151_code 5 = .ok (.aload_n 1, 1) := by decide +kernel
theorem d5_6 : decode jdk_42_method_151_code 6 = .ok (.putfield 9, 3) := by decide +kernel
theorem d5_9 : decode jdk_42_method_151_code 9 = .ok (.aload_n 0, 1) := by decide +kernel
theorem d5_10 : decode jdk_42_method_151_code 10 = .ok (.iload_n 2, 1) := by decide +kernel
theorem d5_11 : decode jdk_42_method_151_code 11 = .ok (.putfield 15, 3) := by decide +kernel
theorem d5_14 : decode jdk_42_method_151_code 14 = .ok (.return_, 1) := by decide +kernel
theorem pn_5 : plainFor (⟨"java/lang/String", "<init>", "([BB)V"⟩ : MethodName) = true := by decide +kernel
theorem pd_5 : parseMethodDescriptor "([BB)V" = some ⟨[(.array .byte), .byte], none⟩ := by decide +kernel
theorem d7_0 : decode method_3_code 0 = .ok (.iload_n 0, 1) := by decide +kernel
theorem d7_1 : decode method_3_code 1 = .ok (.bipush 24, 2) := by decide +kernel
theorem d7_3 : decode method_3_code 3 = .ok (.iload_n 1, 1) := by decide +kernel
theorem d7_4 : decode method_3_code 4 = .ok (.iadd, 1) := by decide +kernel
theorem d7_5 : decode method_3_code 5 = .ok (.iushr, 1) := by decide +kernel
theorem d7_6 : decode method_3_code 6 = .ok (.iconst 1, 1) := by decide +kernel
theorem d7_7 : decode method_3_code 7 = .ok (.iand, 1) := by decide +kernel
theorem d7_8 : decode method_3_code 8 = .ok (.ifCond .ne 5, 3) := by decide +kernel
theorem d7_11 : decode method_3_code 11 = .ok (.aconst_null, 1) := by decide +kernel
theorem d7_12 : decode method_3_code 12 = .ok (.areturn, 1) := by decide +kernel
theorem d7_13 : decode method_3_code 13 = .ok (.iload_n 0, 1) := by decide +kernel
theorem d7_14 : decode method_3_code 14 = .ok (.bipush 8, 2) := by decide +kernel
theorem d7_16 : decode method_3_code 16 = .ok (.iload_n 1, 1) := by decide +kernel
theorem d7_17 : decode method_3_code 17 = .ok (.imul, 1) := by decide +kernel
theorem d7_18 : decode method_3_code 18 = .ok (.iushr, 1) := by decide +kernel
theorem d7_19 : decode method_3_code 19 = .ok (.sipush 255, 3) := by decide +kernel
theorem d7_22 : decode method_3_code 22 = .ok (.iand, 1) := by decide +kernel
theorem d7_23 : decode method_3_code 23 = .ok (.i2c, 1) := by decide +kernel
theorem d7_24 : decode method_3_code 24 = .ok (.invokestatic 9, 3) := by decide +kernel
theorem d7_27 : decode method_3_code 27 = .ok (.areturn, 1) := by decide +kernel
theorem pn_7 : plainFor (⟨"com/example/rulefold/rulefold/PatternSubjectInPinLaw", "slot", "(II)Ljava/lang/String;"⟩ : MethodName) = true := by decide +kernel
theorem pd_7 : parseMethodDescriptor "(II)Ljava/lang/String;" = some ⟨[.int, .int], (some (.object "java/lang/String"))⟩ := by decide +kernel
theorem d8_0 : decode prog_22_method_1_code 0 = .ok (.aload_n 0, 1) := by decide +kernel
theorem d8_1 : decode prog_22_method_1_code 1 = .ok (.invokespecial 3, 3) := by decide +kernel
theorem d8_4 : decode prog_22_method_1_code 4 = .ok (.aload_n 0, 1) := by decide +kernel
theorem d8_5 : decode prog_22_method_1_code 5 = .ok (.aload_n 1, 1) := by decide +kernel
theorem d8_6 : decode prog_22_method_1_code 6 = .ok (.putfield 9, 3) := by decide +kernel
theorem d8_9 : decode prog_22_method_1_code 9 = .ok (.aload_n 0, 1) := by decide +kernel
theorem d8_10 : decode prog_22_method_1_code 10 = .ok (.aload_n 2, 1) := by decide +kernel
theorem d8_11 : decode prog_22_method_1_code 11 = .ok (.putfield 15, 3) := by decide +kernel
theorem d8_14 : decode prog_22_method_1_code 14 = .ok (.aload_n 0, 1) := by decide +kernel
theorem d8_15 : decode prog_22_method_1_code 15 = .ok (.iload_n 3, 1) := by decide +kernel
theorem d8_16 : decode prog_22_method_1_code 16 = .ok (.putfield 18, 3) := by decide +kernel
theorem d8_19 : decode prog_22_method_1_code 19 = .ok (.aload_n 0, 1) := by decide +kernel
theorem d8_20 : decode prog_22_method_1_code 20 = .ok (.aload 4, 2) := by decide +kernel
theorem d8_22 : decode prog_22_method_1_code 22 = .ok (.putfield 22, 3) := by decide +kernel
theorem d8_25 : decode prog_22_method_1_code 25 = .ok (.aload_n 0, 1) := by decide +kernel
theorem d8_26 : decode prog_22_method_1_code 26 = .ok (.iload 5, 2) := by decide +kernel
theorem d8_28 : decode prog_22_method_1_code 28 = .ok (.putfield 25, 3) := by decide +kernel
theorem d8_31 : decode prog_22_method_1_code 31 = .ok (.return_, 1) := by decide +kernel
theorem pn_8 : plainFor (⟨"com/example/rulefold/rulefold/CompiledBody$Pattern", "<init>", "(Ljava/lang/String;Ljava/lang/String;ILjava/lang/String;I)V"⟩ : MethodName) = true := by decide +kernel
theorem pd_8 : parseMethodDescriptor "(Ljava/lang/String;Ljava/lang/String;ILjava/lang/String;I)V" = some ⟨[(.object "java/lang/String"), (.object "java/lang/String"), .int, (.object "java/lang/String"), .int], none⟩ := by decide +kernel
theorem d9_0 : decode jdk_30_method_1_code 0 = .ok (.aload_n 0, 1) := by decide +kernel
theorem d9_1 : decode jdk_30_method_1_code 1 = .ok (.invokespecial 1, 3) := by decide +kernel
theorem d9_4 : decode jdk_30_method_1_code 4 = .ok (.return_, 1) := by decide +kernel
theorem pn_9 : plainFor (⟨"java/lang/Record", "<init>", "()V"⟩ : MethodName) = true := by decide +kernel
theorem pd_9 : parseMethodDescriptor "()V" = some ⟨[], none⟩ := by decide +kernel
theorem d10_0 : decode prog_22_method_3_code 0 = .ok (.aload_n 0, 1) := by decide +kernel
theorem d10_1 : decode prog_22_method_3_code 1 = .ok (.getfield 18, 3) := by decide +kernel
theorem d10_4 : decode prog_22_method_3_code 4 = .ok (.iconst (-1), 1) := by decide +kernel
theorem d10_5 : decode prog_22_method_3_code 5 = .ok (.if_icmp .ne 10, 3) := by decide +kernel
theorem d10_8 : decode prog_22_method_3_code 8 = .ok (.aload_n 0, 1) := by decide +kernel
theorem d10_9 : decode prog_22_method_3_code 9 = .ok (.getfield 15, 3) := by decide +kernel
theorem d10_12 : decode prog_22_method_3_code 12 = .ok (.goto 9, 3) := by decide +kernel
theorem d10_15 : decode prog_22_method_3_code 15 = .ok (.aload_n 1, 1) := by decide +kernel
theorem d10_16 : decode prog_22_method_3_code 16 = .ok (.aload_n 0, 1) := by decide +kernel
theorem d10_17 : decode prog_22_method_3_code 17 = .ok (.getfield 18, 3) := by decide +kernel
theorem d10_20 : decode prog_22_method_3_code 20 = .ok (.aaload, 1) := by decide +kernel
theorem d10_21 : decode prog_22_method_3_code 21 = .ok (.areturn, 1) := by decide +kernel
theorem pn_10 : plainFor (⟨"com/example/rulefold/rulefold/CompiledBody$Pattern", "subjectIn", "([Ljava/lang/String;)Ljava/lang/String;"⟩ : MethodName) = true := by decide +kernel
theorem pd_10 : parseMethodDescriptor "([Ljava/lang/String;)Ljava/lang/String;" = some ⟨[(.array (.object "java/lang/String"))], (some (.object "java/lang/String"))⟩ := by decide +kernel
theorem d11_0 : decode prog_67_method_1_code 0 = .ok (.aload_n 0, 1) := by decide +kernel
theorem d11_1 : decode prog_67_method_1_code 1 = .ok (.invokespecial 1, 3) := by decide +kernel
theorem d11_4 : decode prog_67_method_1_code 4 = .ok (.aload_n 0, 1) := by decide +kernel
theorem d11_5 : decode prog_67_method_1_code 5 = .ok (.aload_n 1, 1) := by decide +kernel
theorem d11_6 : decode prog_67_method_1_code 6 = .ok (.putfield 7, 3) := by decide +kernel
theorem d11_9 : decode prog_67_method_1_code 9 = .ok (.aload_n 0, 1) := by decide +kernel
theorem d11_10 : decode prog_67_method_1_code 10 = .ok (.aload_n 2, 1) := by decide +kernel
theorem d11_11 : decode prog_67_method_1_code 11 = .ok (.putfield 13, 3) := by decide +kernel
theorem d11_14 : decode prog_67_method_1_code 14 = .ok (.aload_n 0, 1) := by decide +kernel
theorem d11_15 : decode prog_67_method_1_code 15 = .ok (.aload_n 3, 1) := by decide +kernel
theorem d11_16 : decode prog_67_method_1_code 16 = .ok (.putfield 16, 3) := by decide +kernel
theorem d11_19 : decode prog_67_method_1_code 19 = .ok (.return_, 1) := by decide +kernel
theorem pn_11 : plainFor (⟨"com/example/rulefold/rulefold/Triple", "<init>", "(Ljava/lang/String;Ljava/lang/String;Ljava/lang/String;)V"⟩ : MethodName) = true := by decide +kernel
theorem pd_11 : parseMethodDescriptor "(Ljava/lang/String;Ljava/lang/String;Ljava/lang/String;)V" = some ⟨[(.object "java/lang/String"), (.object "java/lang/String"), (.object "java/lang/String")], none⟩ := by decide +kernel
theorem d12_0 : decode prog_22_method_6_code 0 = .ok (.aload_n 1, 1) := by decide +kernel
theorem d12_1 : decode prog_22_method_6_code 1 = .ok (.invokevirtual 62, 3) := by decide +kernel
theorem d12_4 : decode prog_22_method_6_code 4 = .ok (.ifnull 17, 3) := by decide +kernel
theorem d12_21 : decode prog_22_method_6_code 21 = .ok (.aload_n 0, 1) := by decide +kernel
theorem d12_22 : decode prog_22_method_6_code 22 = .ok (.getfield 18, 3) := by decide +kernel
theorem d12_25 : decode prog_22_method_6_code 25 = .ok (.aload_n 0, 1) := by decide +kernel
theorem d12_26 : decode prog_22_method_6_code 26 = .ok (.getfield 15, 3) := by decide +kernel
theorem d12_29 : decode prog_22_method_6_code 29 = .ok (.aload_n 1, 1) := by decide +kernel
theorem d12_30 : decode prog_22_method_6_code 30 = .ok (.invokevirtual 69, 3) := by decide +kernel
theorem d12_33 : decode prog_22_method_6_code 33 = .ok (.aload_n 2, 1) := by decide +kernel
theorem d12_34 : decode prog_22_method_6_code 34 = .ok (.invokestatic 70, 3) := by decide +kernel
theorem d12_37 : decode prog_22_method_6_code 37 = .ok (.ifCond .eq 26, 3) := by decide +kernel
theorem d12_40 : decode prog_22_method_6_code 40 = .ok (.aload_n 0, 1) := by decide +kernel
theorem d12_41 : decode prog_22_method_6_code 41 = .ok (.getfield 25, 3) := by decide +kernel
theorem d12_44 : decode prog_22_method_6_code 44 = .ok (.aload_n 0, 1) := by decide +kernel
theorem d12_45 : decode prog_22_method_6_code 45 = .ok (.getfield 22, 3) := by decide +kernel
theorem d12_48 : decode prog_22_method_6_code 48 = .ok (.aload_n 1, 1) := by decide +kernel
theorem d12_49 : decode prog_22_method_6_code 49 = .ok (.invokevirtual 74, 3) := by decide +kernel
theorem d12_52 : decode prog_22_method_6_code 52 = .ok (.aload_n 2, 1) := by decide +kernel
theorem d12_53 : decode prog_22_method_6_code 53 = .ok (.invokestatic 70, 3) := by decide +kernel
theorem d12_56 : decode prog_22_method_6_code 56 = .ok (.ifCond .eq 7, 3) := by decide +kernel
theorem d12_59 : decode prog_22_method_6_code 59 = .ok (.iconst 1, 1) := by decide +kernel
theorem d12_60 : decode prog_22_method_6_code 60 = .ok (.goto 4, 3) := by decide +kernel
theorem d12_63 : decode prog_22_method_6_code 63 = .ok (.iconst 0, 1) := by decide +kernel
theorem d12_64 : decode prog_22_method_6_code 64 = .ok (.ireturn, 1) := by decide +kernel
theorem pn_12 : plainFor (⟨"com/example/rulefold/rulefold/CompiledBody$Pattern", "unify", "(Lcom/example/rulefold/rulefold/Triple;[Ljava/lang/String;)Z"⟩ : MethodName) = true := by decide +kernel
theorem pd_12 : parseMethodDescriptor "(Lcom/example/rulefold/rulefold/Triple;[Ljava/lang/String;)Z" = some ⟨[(.object "com/example/rulefold/rulefold/Triple"), (.array (.object "java/lang/String"))], (some .boolean)⟩ := by decide +kernel
theorem d13_0 : decode prog_67_method_6_code 0 = .ok (.aload_n 0, 1) := by decide +kernel
theorem d13_1 : decode prog_67_method_6_code 1 = .ok (.getfield 13, 3) := by decide +kernel
theorem d13_4 : decode prog_67_method_6_code 4 = .ok (.areturn, 1) := by decide +kernel
theorem pn_13 : plainFor (⟨"com/example/rulefold/rulefold/Triple", "relation", "()Ljava/lang/String;"⟩ : MethodName) = true := by decide +kernel
theorem pd_13 : parseMethodDescriptor "()Ljava/lang/String;" = some ⟨[], (some (.object "java/lang/String"))⟩ := by decide +kernel
theorem d14_0 : decode prog_67_method_5_code 0 = .ok (.aload_n 0, 1) := by decide +kernel
theorem d14_1 : decode prog_67_method_5_code 1 = .ok (.getfield 7, 3) := by decide +kernel
theorem d14_4 : decode prog_67_method_5_code 4 = .ok (.areturn, 1) := by decide +kernel
theorem pn_14 : plainFor (⟨"com/example/rulefold/rulefold/Triple", "subject", "()Ljava/lang/String;"⟩ : MethodName) = true := by decide +kernel
theorem pd_14 : parseMethodDescriptor "()Ljava/lang/String;" = some ⟨[], (some (.object "java/lang/String"))⟩ := by decide +kernel
theorem d15_0 : decode prog_22_method_7_code 0 = .ok (.aload_n 2, 1) := by decide +kernel
theorem d15_1 : decode prog_22_method_7_code 1 = .ok (.ifnonnull 5, 3) := by decide +kernel
theorem d15_4 : decode prog_22_method_7_code 4 = .ok (.iconst 1, 1) := by decide +kernel
theorem d15_5 : decode prog_22_method_7_code 5 = .ok (.ireturn, 1) := by decide +kernel
theorem d15_6 : decode prog_22_method_7_code 6 = .ok (.iload_n 0, 1) := by decide +kernel
theorem d15_7 : decode prog_22_method_7_code 7 = .ok (.iconst (-1), 1) := by decide +kernel
theorem d15_8 : decode prog_22_method_7_code 8 = .ok (.if_icmp .ne 9, 3) := by decide +kernel
theorem d15_11 : decode prog_22_method_7_code 11 = .ok (.aload_n 1, 1) := by decide +kernel
theorem d15_12 : decode prog_22_method_7_code 12 = .ok (.aload_n 2, 1) := by decide +kernel
theorem d15_13 : decode prog_22_method_7_code 13 = .ok (.invokevirtual 63, 3) := by decide +kernel
theorem d15_16 : decode prog_22_method_7_code 16 = .ok (.ireturn, 1) := by decide +kernel
theorem d15_17 : decode prog_22_method_7_code 17 = .ok (.aload_n 3, 1) := by decide +kernel
theorem d15_18 : decode prog_22_method_7_code 18 = .ok (.iload_n 0, 1) := by decide +kernel
theorem d15_19 : decode prog_22_method_7_code 19 = .ok (.aaload, 1) := by decide +kernel
theorem d15_20 : decode prog_22_method_7_code 20 = .ok (.ifnonnull 9, 3) := by decide +kernel
theorem d15_23 : decode prog_22_method_7_code 23 = .ok (.aload_n 3, 1) := by decide +kernel
theorem d15_24 : decode prog_22_method_7_code 24 = .ok (.iload_n 0, 1) := by decide +kernel
theorem d15_25 : decode prog_22_method_7_code 25 = .ok (.aload_n 2, 1) := by decide +kernel
theorem d15_26 : decode prog_22_method_7_code 26 = .ok (.aastore, 1) := by decide +kernel
theorem d15_27 : decode prog_22_method_7_code 27 = .ok (.iconst 1, 1) := by decide +kernel
theorem d15_28 : decode prog_22_method_7_code 28 = .ok (.ireturn, 1) := by decide +kernel
theorem d15_29 : decode prog_22_method_7_code 29 = .ok (.aload_n 3, 1) := by decide +kernel
theorem d15_30 : decode prog_22_method_7_code 30 = .ok (.iload_n 0, 1) := by decide +kernel
theorem d15_31 : decode prog_22_method_7_code 31 = .ok (.aaload, 1) := by decide +kernel
theorem d15_32 : decode prog_22_method_7_code 32 = .ok (.aload_n 2, 1) := by decide +kernel
theorem d15_33 : decode prog_22_method_7_code 33 = .ok (.invokevirtual 63, 3) := by decide +kernel
theorem d15_36 : decode prog_22_method_7_code 36 = .ok (.ireturn, 1) := by decide +kernel
theorem pn_15 : plainFor (⟨"com/example/rulefold/rulefold/CompiledBody$Pattern", "bind", "(ILjava/lang/String;Ljava/lang/String;[Ljava/lang/String;)Z"⟩ : MethodName) = true := by decide +kernel
theorem pd_15 : parseMethodDescriptor "(ILjava/lang/String;Ljava/lang/String;[Ljava/lang/String;)Z" = some ⟨[.int, (.object "java/lang/String"), (.object "java/lang/String"), (.array (.object "java/lang/String"))], (some .boolean)⟩ := by decide +kernel
theorem d16_0 : decode prog_67_method_7_code 0 = .ok (.aload_n 0, 1) := by decide +kernel
theorem d16_1 : decode prog_67_method_7_code 1 = .ok (.getfield 16, 3) := by decide +kernel
theorem d16_4 : decode prog_67_method_7_code 4 = .ok (.areturn, 1) := by decide +kernel
theorem pn_16 : plainFor (⟨"com/example/rulefold/rulefold/Triple", "object", "()Ljava/lang/String;"⟩ : MethodName) = true := by decide +kernel
theorem pd_16 : parseMethodDescriptor "()Ljava/lang/String;" = some ⟨[], (some (.object "java/lang/String"))⟩ := by decide +kernel
theorem d17_0 : decode jdk_42_method_66_code 0 = .ok (.aload_n 0, 1) := by decide +kernel
theorem d17_1 : decode jdk_42_method_66_code 1 = .ok (.aload_n 1, 1) := by decide +kernel
theorem d17_2 : decode jdk_42_method_66_code 2 = .ok (.if_acmp .ne 5, 3) := by decide +kernel
theorem d17_5 : decode jdk_42_method_66_code 5 = .ok (.iconst 1, 1) := by decide +kernel
theorem d17_6 : decode jdk_42_method_66_code 6 = .ok (.ireturn, 1) := by decide +kernel
theorem d17_7 : decode jdk_42_method_66_code 7 = .ok (.aload_n 1, 1) := by decide +kernel
theorem d17_8 : decode jdk_42_method_66_code 8 = .ok (.instanceof 10, 3) := by decide +kernel
theorem d17_11 : decode jdk_42_method_66_code 11 = .ok (.ifCond .eq 43, 3) := by decide +kernel
theorem d17_14 : decode jdk_42_method_66_code 14 = .ok (.aload_n 1, 1) := by decide +kernel
theorem d17_15 : decode jdk_42_method_66_code 15 = .ok (.checkcast 10, 3) := by decide +kernel
theorem d17_18 : decode jdk_42_method_66_code 18 = .ok (.astore_n 2, 1) := by decide +kernel
theorem d17_19 : decode jdk_42_method_66_code 19 = .ok (.getstatic 38, 3) := by decide +kernel
theorem d17_22 : decode jdk_42_method_66_code 22 = .ok (.ifCond .eq 14, 3) := by decide +kernel
theorem d17_25 : decode jdk_42_method_66_code 25 = .ok (.aload_n 0, 1) := by decide +kernel
theorem d17_26 : decode jdk_42_method_66_code 26 = .ok (.getfield 15, 3) := by decide +kernel
theorem d17_29 : decode jdk_42_method_66_code 29 = .ok (.aload_n 2, 1) := by decide +kernel
theorem d17_30 : decode jdk_42_method_66_code 30 = .ok (.getfield 15, 3) := by decide +kernel
theorem d17_33 : decode jdk_42_method_66_code 33 = .ok (.if_icmp .ne 21, 3) := by decide +kernel
theorem d17_36 : decode jdk_42_method_66_code 36 = .ok (.aload_n 0, 1) := by decide +kernel
theorem d17_37 : decode jdk_42_method_66_code 37 = .ok (.getfield 9, 3) := by decide +kernel
theorem d17_40 : decode jdk_42_method_66_code 40 = .ok (.aload_n 2, 1) := by decide +kernel
theorem d17_41 : decode jdk_42_method_66_code 41 = .ok (.getfield 9, 3) := by decide +kernel
theorem d17_44 : decode jdk_42_method_66_code 44 = .ok (.invokestatic 541, 3) := by decide +kernel
theorem d17_47 : decode jdk_42_method_66_code 47 = .ok (.ifCond .eq 7, 3) := by decide +kernel
theorem d17_50 : decode jdk_42_method_66_code 50 = .ok (.iconst 1, 1) := by decide +kernel
theorem d17_51 : decode jdk_42_method_66_code 51 = .ok (.goto 4, 3) := by decide +kernel
theorem d17_54 : decode jdk_42_method_66_code 54 = .ok (.iconst 0, 1) := by decide +kernel
theorem d17_55 : decode jdk_42_method_66_code 55 = .ok (.ireturn, 1) := by decide +kernel
theorem pn_17 : plainFor (⟨"java/lang/String", "equals", "(Ljava/lang/Object;)Z"⟩ : MethodName) = true := by decide +kernel
theorem pd_17 : parseMethodDescriptor "(Ljava/lang/Object;)Z" = some ⟨[(.object "java/lang/Object")], (some .boolean)⟩ := by decide +kernel
theorem d18_0 : decode jdk_43_method_13_code 0 = .ok (.aload_n 0, 1) := by decide +kernel
theorem d18_1 : decode jdk_43_method_13_code 1 = .ok (.arraylength, 1) := by decide +kernel
theorem d18_2 : decode jdk_43_method_13_code 2 = .ok (.aload_n 1, 1) := by decide +kernel
theorem d18_3 : decode jdk_43_method_13_code 3 = .ok (.arraylength, 1) := by decide +kernel
theorem d18_4 : decode jdk_43_method_13_code 4 = .ok (.if_icmp .ne 30, 3) := by decide +kernel
theorem d18_7 : decode jdk_43_method_13_code 7 = .ok (.iconst 0, 1) := by decide +kernel
theorem d18_8 : decode jdk_43_method_13_code 8 = .ok (.istore_n 2, 1) := by decide +kernel
theorem d18_9 : decode jdk_43_method_13_code 9 = .ok (.iload_n 2, 1) := by decide +kernel
theorem d18_10 : decode jdk_43_method_13_code 10 = .ok (.aload_n 0, 1) := by decide +kernel
theorem d18_11 : decode jdk_43_method_13_code 11 = .ok (.arraylength, 1) := by decide +kernel
theorem d18_12 : decode jdk_43_method_13_code 12 = .ok (.if_icmp .ge 20, 3) := by decide +kernel
theorem d18_15 : decode jdk_43_method_13_code 15 = .ok (.aload_n 0, 1) := by decide +kernel
theorem d18_16 : decode jdk_43_method_13_code 16 = .ok (.iload_n 2, 1) := by decide +kernel
theorem d18_17 : decode jdk_43_method_13_code 17 = .ok (.baload, 1) := by decide +kernel
theorem d18_18 : decode jdk_43_method_13_code 18 = .ok (.aload_n 1, 1) := by decide +kernel
theorem d18_19 : decode jdk_43_method_13_code 19 = .ok (.iload_n 2, 1) := by decide +kernel
theorem d18_20 : decode jdk_43_method_13_code 20 = .ok (.baload, 1) := by decide +kernel
theorem d18_21 : decode jdk_43_method_13_code 21 = .ok (.if_icmp .eq 5, 3) := by decide +kernel
theorem d18_24 : decode jdk_43_method_13_code 24 = .ok (.iconst 0, 1) := by decide +kernel
theorem d18_25 : decode jdk_43_method_13_code 25 = .ok (.ireturn, 1) := by decide +kernel
theorem d18_26 : decode jdk_43_method_13_code 26 = .ok (.iinc 2 1, 3) := by decide +kernel
theorem d18_29 : decode jdk_43_method_13_code 29 = .ok (.goto (-20), 3) := by decide +kernel
theorem d18_32 : decode jdk_43_method_13_code 32 = .ok (.iconst 1, 1) := by decide +kernel
theorem d18_33 : decode jdk_43_method_13_code 33 = .ok (.ireturn, 1) := by decide +kernel
theorem pn_18 : plainFor (⟨"java/lang/StringLatin1", "equals", "([B[B)Z"⟩ : MethodName) = true := by decide +kernel
theorem pd_18 : parseMethodDescriptor "([B[B)Z" = some ⟨[(.array .byte), (.array .byte)], (some .boolean)⟩ := by decide +kernel
theorem pn_0 : plainFor x = true := by decide +kernel
theorem pd_0 : parseMethodDescriptor "(IIIIII)Z" = some ⟨[.int, .int, .int, .int, .int, .int], (some .boolean)⟩ := by decide +kernel
theorem own_cat {r : Value} (h : r.isRef = true) : r.category = 1 := by rcases ref_cases h with rfl | ⟨a, rfl⟩ <;> rfl
/-- a String of one Latin-1 char: its one byte is x -/
def own_S (Z : State) (h : Heap) (a : Addr) (x : Int32) : Prop := Exa Z h a "java/lang/String" ∧ Fld Z h a "java/lang/String" "coder" "B" (.int (0 : Int32)) ∧ ∃ t k, Fld Z h a "java/lang/String" "value" "[B" (.ref t) ∧ Arv Z h t k .byte (1 : Int32) [.int x] (.int (0 : Int32))
/-- null or such a String -/
def own_R (Z : State) (h : Heap) (r : Value) : Prop := r = .null ∨ ∃ a x, r = .ref a ∧ own_S Z h a x
section OwnStr
variable {Z : State} {h h' : Heap} {a b t : Addr} {x y : Int32} {r : Value}
theorem own_R.ref (H : own_R Z h r) : r.isRef = true := by rcases H with rfl | ⟨a, x, rfl, -⟩ <;> rfl
theorem own_fld {C n d : String} {v w : Value} (F : Fld Z h a C n d v) (G : Fld Z h a C n d w) : v = w := by
  obtain ⟨c1, cf, k, i, f, h1, h2, -, -, -, -, h7⟩ := F
  obtain ⟨c2, cf', k', i', f', g1, g2, -, -, -, -, g7⟩ := G
  cases h1.symm.trans g1
  cases h2.symm.trans g2
  exact Option.some.inj (h7.symm.trans g7)
theorem own_S.inj (H : own_S Z h a x) (G : own_S Z h a y) : x = y := by
  obtain ⟨-, -, t, k, F, V⟩ := H
  obtain ⟨-, -, t', k', F', V'⟩ := G
  cases own_fld F F'
  obtain ⟨c1, A, -, S, -, H1, -⟩ := V
  obtain ⟨c2, A', -, S', -, H2, -⟩ := V'
  cases A.1.symm.trans A'.1
  have q : 0 < c1.slots.size := by rw [S]; decide
  have e1 := H1 0 q
  have e2 := H2 0 q
  have e3 := Option.some.inj (e1.symm.trans e2)
  simpa using e3
theorem own_arr_ne {c1 c2 : Cell} {t1 t2 : FieldType} (A : Arr Z h a c1 t1) (A' : Arr Z h b c2 t2) (q : t1 ≠ t2) : a ≠ b := fun e => by
  subst e
  cases A.1.symm.trans A'.1
  obtain ⟨-, k, j1, comp, j2⟩ := A.2.1
  obtain ⟨-, k', j1', comp', j2'⟩ := A'.2.1
  cases j1.symm.trans j1'
  rw [j2] at j2'
  cases j2'
  exact q rfl
theorem own_S.keep (H : own_S Z h a x) (K : Keep h h' []) : own_S Z h' a x :=
  let ⟨E, F, t, k, G, V⟩ := H; ⟨E.keep K, F.keep K nin0, t, k, G.keep K nin0, V.keep K nin0⟩
theorem own_R.keep (H : own_R Z h r) (K : Keep h h' []) : own_R Z h' r := H.imp id fun ⟨a, x, e, S⟩ => ⟨a, x, e, S.keep K⟩
theorem own_S.keepB {a0 : Array Value} {cl : Cell} (wi : (Jvm.Cond.instantiable "java/lang/String" 4).before a0 Z = true) (H : own_S Z h a x) (A : Arr Z h b cl (.object "java/lang/String")) (K : Keep h h' [b]) : own_S Z h' a x := by
  obtain ⟨E, F, t, k, G, V⟩ := H
  have ne1 : a ≠ b := ne_arr E wi A
  obtain ⟨ct, At, V'⟩ := id V
  have ne2 : t ≠ b := own_arr_ne At A (by decide)
  exact ⟨E.keep K, F.keep K (ninS ne1 nin0), t, k, G.keep K (ninS ne1 nin0), V.keep K (ninS ne2 nin0)⟩
theorem own_R.keepB {a0 : Array Value} {cl : Cell} (wi : (Jvm.Cond.instantiable "java/lang/String" 4).before a0 Z = true) (H : own_R Z h r) (A : Arr Z h b cl (.object "java/lang/String")) (K : Keep h h' [b]) : own_R Z h' r :=
  H.imp id fun ⟨a, x, e, S⟩ => ⟨a, x, e, S.keepB wi A K⟩
end OwnStr
/-- the Pattern: its five fields -/
def own_P (Z : State) (h : Heap) (a a2 a3 : Addr) (p4 : Int32) (a5 : Addr) (p6 : Int32) : Prop := Exa Z h a "com/example/rulefold/rulefold/CompiledBody$Pattern" ∧ Fld Z h a "com/example/rulefold/rulefold/CompiledBody$Pattern" "relation" "Ljava/lang/String;" (.ref a2) ∧ Fld Z h a "com/example/rulefold/rulefold/CompiledBody$Pattern" "subject" "Ljava/lang/String;" (.ref a3) ∧ Fld Z h a "com/example/rulefold/rulefold/CompiledBody$Pattern" "subjectVariable" "I" (.int p4) ∧ Fld Z h a "com/example/rulefold/rulefold/CompiledBody$Pattern" "object" "Ljava/lang/String;" (.ref a5) ∧ Fld Z h a "com/example/rulefold/rulefold/CompiledBody$Pattern" "objectVariable" "I" (.int p6)
theorem own_P.keep {Z : State} {h h' : Heap} {a a2 a3 a5 : Addr} {p4 p6 : Int32} {ws : List Addr} (H : own_P Z h a a2 a3 p4 a5 p6) (K : Keep h h' ws) (q : a ∉ ws) : own_P Z h' a a2 a3 p4 a5 p6 :=
  ⟨H.1.keep K, H.2.1.keep K q, H.2.2.1.keep K q, H.2.2.2.1.keep K q, H.2.2.2.2.1.keep K q, H.2.2.2.2.2.keep K q⟩
/-- the Triple of a subject alone -/
def own_T (Z : State) (h : Heap) (a a2 : Addr) : Prop := Exa Z h a "com/example/rulefold/rulefold/Triple" ∧ Fld Z h a "com/example/rulefold/rulefold/Triple" "subject" "Ljava/lang/String;" (.ref a2) ∧ Fld Z h a "com/example/rulefold/rulefold/Triple" "relation" "Ljava/lang/String;" .null ∧ Fld Z h a "com/example/rulefold/rulefold/Triple" "object" "Ljava/lang/String;" .null
theorem own_T.keep {Z : State} {h h' : Heap} {a a2 : Addr} {ws : List Addr} (H : own_T Z h a a2) (K : Keep h h' ws) (q : a ∉ ws) : own_T Z h' a a2 :=
  ⟨H.1.keep K, H.2.1.keep K q, H.2.2.1.keep K q, H.2.2.2.keep K q⟩
def own_eq (x y : Int32) : Int32 := if x = y then 1 else 0
/-- a variable's number, or -1 -/
def own_V (s : Int32) : Prop := s = -1 ∨ s = 0 ∨ s = 1 ∨ s = 2
def own_pick (s : Int32) (v r0 r1 r2 : Value) : Value := if s = -1 then v else if s = 0 then r0 else if s = 1 then r1 else r2
theorem own_pick_m {s : Int32} {v r0 r1 r2 : Value} (h : s = -1) : own_pick s v r0 r1 r2 = v := if_pos h
theorem own_in {s : Int32} (h : own_V s) (n : ¬ s = -1) : ¬ s < 0 ∧ s < 3 := by
  rcases h with rfl | rfl | rfl | rfl
  · exact absurd rfl n
  all_goals decide
theorem own_pick_at {s : Int32} {v r0 r1 r2 : Value} (h : own_V s) (n : ¬ s = -1) : [r0, r1, r2].getD s.toNatClampNeg .null = own_pick s v r0 r1 r2 := by
  rcases h with rfl | rfl | rfl | rfl
  · exact absurd rfl n
  all_goals rfl
theorem own_pick_ref {s : Int32} {v r0 r1 r2 : Value} (h : v.isRef = true) (h0 : r0.isRef = true) (h1 : r1.isRef = true) (h2 : r2.isRef = true) : (own_pick s v r0 r1 r2).isRef = true := by
  unfold own_pick; split
  · exact h
  · split
    · exact h0
    · split
      · exact h1
      · exact h2
theorem own_pick_R {Z : State} {h : Heap} {s : Int32} {v r0 r1 r2 : Value} (n : ¬ s = -1) (h0 : own_R Z h r0) (h1 : own_R Z h r1) (h2 : own_R Z h r2) : own_R Z h (own_pick s v r0 r1 r2) := by
  unfold own_pick; rw [if_neg n]; split
  · exact h0
  · split
    · exact h1
    · exact h2
theorem own_put {s : Int32} (h : own_V s) (n : ¬ s = -1) (v w r0 r1 r2 : Value) (hw : w.isRef = true) (h0 : r0.isRef = true) (h1 : r1.isRef = true) (h2 : r2.isRef = true) :
    s.toNatClampNeg < [r0, r1, r2].length ∧ ∃ q0 q1 q2, [r0, r1, r2].set s.toNatClampNeg w = [q0, q1, q2] ∧ own_pick s v q0 q1 q2 = w ∧ q0.isRef = true ∧ q1.isRef = true ∧ q2.isRef = true := by
  rcases h with rfl | rfl | rfl | rfl
  · exact absurd rfl n
  · exact ⟨(by decide : 0 < 3), w, r1, r2, rfl, rfl, hw, h1, h2⟩
  · exact ⟨(by decide : 1 < 3), r0, w, r2, rfl, rfl, h0, hw, h2⟩
  · exact ⟨(by decide : 2 < 3), r0, r1, w, rfl, rfl, h0, h1, hw⟩
theorem own_var (x : Int32) (n : ¬ (x &&& 3) = 3) : own_V (x &&& 3) := by
  have h1 := c_mask x 3 2 (by decide) (by decide)
  unfold own_V
  rw [← Int32.toInt_inj] at n
  rw [← Int32.toInt_inj, ← Int32.toInt_inj, ← Int32.toInt_inj, ← Int32.toInt_inj]
  simp only [show (-1 : Int32).toInt = -1 from by decide, Int32.reduceToInt] at *
  omega
theorem own_ch (x : Int32) : ¬ ((255 : Int32) < (x &&& 255).toUInt32.toUInt16.toUInt32.toInt32) := by
  have h1 := c_mask x 255 8 (by decide) (by decide)
  have h2 := c_i2c (x &&& 255)
  rw [Int32.lt_iff_toInt_lt]
  simp only [Int32.reduceToInt] at *
  omega
theorem ef_1 (m : MethodId) (p1 : Int32) : entryFrame m #[(.int p1)] 2 = mkF m 0 #[.val (.int p1), .unset] [] := by first | (simp [entryFrame, mkF, argsToLocals, Value.category, maxLocals]; done) | rfl
def Q1 (Z : State) (p1 : Int32)  (h0 : Heap) (n0 : Nat) (v : Option Value) (h : Heap) (L : List Loc) : Prop := ∃ z, v = some (.int z) ∧ Fr n0 L ∧ h = h0 ∧ own_V z
set_option maxRecDepth 65536 in
set_option maxHeartbeats 40000000 in
theorem rm1 (l : Launch) (Z : State) (a0 : Array Value) (hw : ∀ d ∈ tables_1, d.before a0 Z = true) (ws : List Jvm.Cond) (p1 : Int32)  (h0 : Heap) (n0 : Nat) (Z0 : n0 ≤ h0.size)  :
    MetFree l (⟨"com/example/rulefold/rulefold/PatternSubjectInPinLaw", "var", "(I)I"⟩ : MethodName) (head1 (Jvm.Cond.code (⟨"com/example/rulefold/rulefold/PatternSubjectInPinLaw", "var", "(I)I"⟩ : MethodName) method_2_code 2 (some .int) :: ws) ({ frames := 0, cells := 0, slots := 0, locals := 0 } : Room)) (fun a U => a = #[(.int p1)] ∧ Z.Warmed39 U.vm ∧ U.heap = h0) (fun _ _ _ _ _ => True) (fun _ U o U' => ∃ v L, o = .returned v ∧ Q1 Z p1  h0 n0 v U'.heap L ∧ FrameEnd U o U' L ({ frames := 0, cells := 0, slots := 0, locals := 0 } : Room).cells ({ frames := 0, cells := 0, slots := 0, locals := 0 } : Room).slots) := by
  refine MetFree.of_bodySF pn_1 hisR ?_
  intro p e s m args below meth c s₁ Bd hml0 hP hK
  obtain ⟨rfl, hZ, hh⟩ := hP
  have hx := Bd.exec
  have hby := Bd.bytes
  have hml : c.maxLocals = 2 := hml0
  have hown : s.vm.findClass "com/example/rulefold/rulefold/PatternSubjectInPinLaw" = some m.cls := findClass_of_methodNamed Bd.named
  have hnm := (name_of_methodNamed Bd.named Bd.method).1
  have X0 : Stand p l e ({ frames := 0, cells := 0, slots := 0, locals := 0 } : Room) s m #[(.int p1)] below meth c s₁ [] 0 0 := Stand.of_body Bd
  have e0 : s₁.heap = h0 := by rw [← hh, Bd.state]; rfl
  have N0 := Fr.nil n0
  show Goes p.tables e below (Ends below s (Q1 Z p1  h0 n0) ({ frames := 0, cells := 0, slots := 0, locals := 0 } : Room).cells ({ frames := 0, cells := 0, slots := 0, locals := 0 } : Room).slots) (s₁.setTop (entryFrame m #[(.int p1)] 2))
  refine Goes.cast (ef_1 m p1) ?_
  refine Goes.st (fun _ k => XS.iloadN X0.here hx rfl (hb hby d1_0) rfl k) ?_
  show Goes _ _ _ _ (s₁.setTop (mkF m 1 #[.val (.int p1), .unset] [(.int p1)]))
  refine Goes.st (fun _ k => XS.iconst X0.here hx rfl (hb hby d1_1) k) ?_
  show Goes _ _ _ _ (s₁.setTop (mkF m 2 #[.val (.int p1), .unset] [(.int (3 : Int32)), (.int p1)]))
  refine Goes.st (fun _ k => XS.iand X0.here hx rfl (hb hby d1_2) rfl k) ?_
  show Goes _ _ _ _ (s₁.setTop (mkF m 3 #[.val (.int p1), .unset] [(.int (p1 &&& (3 : Int32)))]))
  refine Goes.st (fun _ k => XS.istoreN X0.here hx rfl (hb hby d1_3) rfl (l' := #[.val (.int p1), .val (.int (p1 &&& (3 : Int32)))]) rfl k) ?_
  show Goes _ _ _ _ (s₁.setTop (mkF m 4 #[.val (.int p1), .val (.int (p1 &&& (3 : Int32)))] []))
  refine Goes.st (fun _ k => XS.iloadN X0.here hx rfl (hb hby d1_4) rfl k) ?_
  show Goes _ _ _ _ (s₁.setTop (mkF m 5 #[.val (.int p1), .val (.int (p1 &&& (3 : Int32)))] [(.int (p1 &&& (3 : Int32)))]))
  refine Goes.st (fun _ k => XS.iconst X0.here hx rfl (hb hby d1_5) k) ?_
  show Goes _ _ _ _ (s₁.setTop (mkF m 6 #[.val (.int p1), .val (.int (p1 &&& (3 : Int32)))] [(.int (3 : Int32)), (.int (p1 &&& (3 : Int32)))]))
  by_cases hc : (p1 &&& (3 : Int32)) = (3 : Int32)
  · skip
    refine Goes.st (fun _ k => XS.icmpNo X0.here hx rfl (hb hby d1_6) rfl (teq hc).2 k) ?_
    show Goes _ _ _ _ (s₁.setTop (mkF m 9 #[.val (.int p1), .val (.int (p1 &&& (3 : Int32)))] []))
    refine Goes.st (fun _ k => XS.iconst X0.here hx rfl (hb hby d1_9) k) ?_
    show Goes _ _ _ _ (s₁.setTop (mkF m 10 #[.val (.int p1), .val (.int (p1 &&& (3 : Int32)))] [(.int (-1 : Int32))]))
    exact leafI X0 hx Bd.notSynchronized Bd.returns (hb hby d1_10) (by decide) (by decide) ⟨_, rfl, N0, e0, Or.inl rfl⟩
  · skip
    refine Goes.st (fun _ k => XS.icmpYes X0.here hx rfl (pc0 := 6) (pc' := 11) rfl (hb hby d1_6) rfl (feq hc).2 (by decide) (by decide) k) ?_
    show Goes _ _ _ _ (s₁.setTop (mkF m 11 #[.val (.int p1), .val (.int (p1 &&& (3 : Int32)))] []))
    refine Goes.st (fun _ k => XS.iloadN X0.here hx rfl (hb hby d1_11) rfl k) ?_
    show Goes _ _ _ _ (s₁.setTop (mkF m 12 #[.val (.int p1), .val (.int (p1 &&& (3 : Int32)))] [(.int (p1 &&& (3 : Int32)))]))
    exact leafI X0 hx Bd.notSynchronized Bd.returns (hb hby d1_12) (by decide) (by decide) ⟨_, rfl, N0, e0, own_var p1 hc⟩
theorem ef_3 (m : MethodId) (p1 : Int32) : entryFrame m #[(.int p1)] 1 = mkF m 0 #[.val (.int p1)] [] := by first | (simp [entryFrame, mkF, argsToLocals, Value.category, maxLocals]; done) | rfl
def Q3 (Z : State) (p1 : Int32)  (h0 : Heap) (n0 : Nat) (v : Option Value) (h : Heap) (L : List Loc) : Prop := v = some (.int (1 : Int32)) ∧ Fr n0 L ∧ h = h0
set_option maxRecDepth 65536 in
set_option maxHeartbeats 40000000 in
theorem rm3 (l : Launch) (Z : State) (a0 : Array Value) (hw : ∀ d ∈ tables_1, d.before a0 Z = true) (ws : List Jvm.Cond) (p1 : Int32)  (h0 : Heap) (n0 : Nat) (Z0 : n0 ≤ h0.size) (hp : ¬ ((255 : Int32) < p1)) :
    MetFree l (⟨"java/lang/StringLatin1", "canEncode", "(C)Z"⟩ : MethodName) (head1 (Jvm.Cond.code (⟨"java/lang/StringLatin1", "canEncode", "(C)Z"⟩ : MethodName) jdk_43_method_3_code 1 (some .boolean) :: ws) ({ frames := 0, cells := 0, slots := 0, locals := 0 } : Room)) (fun a U => a = #[(.int p1)] ∧ Z.Warmed39 U.vm ∧ U.heap = h0) (fun _ _ _ _ _ => True) (fun _ U o U' => ∃ v L, o = .returned v ∧ Q3 Z p1  h0 n0 v U'.heap L ∧ FrameEnd U o U' L ({ frames := 0, cells := 0, slots := 0, locals := 0 } : Room).cells ({ frames := 0, cells := 0, slots := 0, locals := 0 } : Room).slots) := by
  refine MetFree.of_bodySF pn_3 hisR ?_
  intro p e s m args below meth c s₁ Bd hml0 hP hK
  obtain ⟨rfl, hZ, hh⟩ := hP
  have hx := Bd.exec
  have hby := Bd.bytes
  have hml : c.maxLocals = 1 := hml0
  have hown : s.vm.findClass "java/lang/StringLatin1" = some m.cls := findClass_of_methodNamed Bd.named
  have hnm := (name_of_methodNamed Bd.named Bd.method).1
  have X0 : Stand p l e ({ frames := 0, cells := 0, slots := 0, locals := 0 } : Room) s m #[(.int p1)] below meth c s₁ [] 0 0 := Stand.of_body Bd
  have e0 : s₁.heap = h0 := by rw [← hh, Bd.state]; rfl
  have N0 := Fr.nil n0
  show Goes p.tables e below (Ends below s (Q3 Z p1  h0 n0) ({ frames := 0, cells := 0, slots := 0, locals := 0 } : Room).cells ({ frames := 0, cells := 0, slots := 0, locals := 0 } : Room).slots) (s₁.setTop (entryFrame m #[(.int p1)] 1))
  refine Goes.cast (ef_3 m p1) ?_
  refine Goes.st (fun _ k => XS.iloadN X0.here hx rfl (hb hby d3_0) rfl k) ?_
  show Goes _ _ _ _ (s₁.setTop (mkF m 1 #[.val (.int p1)] [(.int p1)]))
  refine Goes.st (fun _ k => XS.sipush X0.here hx rfl (hb hby d3_1) k) ?_
  show Goes _ _ _ _ (s₁.setTop (mkF m 4 #[.val (.int p1)] [(.int (255 : Int32)), (.int p1)]))
  refine Goes.st (fun _ k => XS.icmpNo X0.here hx rfl (hb hby d3_4) rfl (flt hp).2.2.1 k) ?_
  show Goes _ _ _ _ (s₁.setTop (mkF m 7 #[.val (.int p1)] []))
  refine Goes.st (fun _ k => XS.iconst X0.here hx rfl (hb hby d3_7) k) ?_
  show Goes _ _ _ _ (s₁.setTop (mkF m 8 #[.val (.int p1)] [(.int (1 : Int32))]))
  refine Goes.st (fun _ k => XS.goto X0.here hx rfl (pc0 := 8) (pc' := 12) rfl (hb hby d3_8) (by decide) (by decide) k) ?_
  show Goes _ _ _ _ (s₁.setTop (mkF m 12 #[.val (.int p1)] [(.int (1 : Int32))]))
  exact leafZ X0 hx Bd.notSynchronized Bd.returns (hb hby d3_12) (by decide) (by decide) (by decide) ⟨rfl, N0, e0⟩
theorem ef_4 (m : MethodId) (p1 : Int32) : entryFrame m #[(.int p1)] 1 = mkF m 0 #[.val (.int p1)] [] := by first | (simp [entryFrame, mkF, argsToLocals, Value.category, maxLocals]; done) | rfl
def Q4 (Z : State) (p1 : Int32)  (h0 : Heap) (n0 : Nat) (v : Option Value) (h : Heap) (L : List Loc) : Prop := ∃ b k x, v = some (.ref b) ∧ Fr n0 L ∧ Keep h0 h [] ∧ h0.size ≤ b ∧ Arv Z h b k .byte (1 : Int32) [.int x] (.int (0 : Int32))
set_option maxRecDepth 65536 in
set_option maxHeartbeats 40000000 in
theorem rm4 (l : Launch) (Z : State) (a0 : Array Value) (hw : ∀ d ∈ tables_1, d.before a0 Z = true) (ws : List Jvm.Cond) (p1 : Int32)  (h0 : Heap) (n0 : Nat) (Z0 : n0 ≤ h0.size)  :
    MetFree l (⟨"java/lang/StringLatin1", "toBytes", "(C)[B"⟩ : MethodName) (head1 (Jvm.Cond.code (⟨"java/lang/StringLatin1", "toBytes", "(C)[B"⟩ : MethodName) jdk_43_method_46_code 1 (some (.array .byte)) :: ws) ({ frames := 0, cells := 1, slots := 1, locals := 0 } : Room)) (fun a U => a = #[(.int p1)] ∧ Z.Warmed39 U.vm ∧ U.heap = h0) (fun _ _ _ _ _ => True) (fun _ U o U' => ∃ v L, o = .returned v ∧ Q4 Z p1  h0 n0 v U'.heap L ∧ FrameEnd U o U' L ({ frames := 0, cells := 1, slots := 1, locals := 0 } : Room).cells ({ frames := 0, cells := 1, slots := 1, locals := 0 } : Room).slots) := by
  refine MetFree.of_bodySF pn_4 hisR ?_
  intro p e s m args below meth c s₁ Bd hml0 hP hK
  obtain ⟨rfl, hZ, hh⟩ := hP
  have hx := Bd.exec
  have hby := Bd.bytes
  have hml : c.maxLocals = 1 := hml0
  have hown : s.vm.findClass "java/lang/StringLatin1" = some m.cls := findClass_of_methodNamed Bd.named
  have hnm := (name_of_methodNamed Bd.named Bd.method).1
  have X0 : Stand p l e ({ frames := 0, cells := 1, slots := 1, locals := 0 } : Room) s m #[(.int p1)] below meth c s₁ [] 0 0 := Stand.of_body Bd
  have e0 : s₁.heap = h0 := by rw [← hh, Bd.state]; rfl
  have N0 := Fr.nil n0
  show Goes p.tables e below (Ends below s (Q4 Z p1  h0 n0) ({ frames := 0, cells := 1, slots := 1, locals := 0 } : Room).cells ({ frames := 0, cells := 1, slots := 1, locals := 0 } : Room).slots) (s₁.setTop (entryFrame m #[(.int p1)] 1))
  refine Goes.cast (ef_4 m p1) ?_
  refine Goes.st (fun _ k => XS.iconst X0.here hx rfl (hb hby d4_0) k) ?_
  show Goes _ _ _ _ (s₁.setTop (mkF m 1 #[.val (.int p1)] [(.int (1 : Int32))]))
  obtain ⟨T1, h1, k1, X1, e1, E1, A1, st1⟩ := newP X0 hx hZ (hw _ (List.mem_of_getElem? (i := 18) rfl)) e0 (g := (mkF m 1 #[.val (.int p1)] [(.int (1 : Int32))])) rfl (hb hby d4_1) rfl (by decide) (cap := 1) (by decide) (by decide) (by decide) (by decide)
  obtain ⟨b1, g1⟩ : ∃ z, z = (h0).size := ⟨_, rfl⟩
  rw [← g1] at A1 st1
  refine Goes.st st1 ?_
  show Goes _ _ _ _ (T1.setTop (mkF m 3 #[.val (.int p1)] [(.ref b1)]))
  have V1 : Arv Z h1 b1 k1 .byte (1 : Int32) [.int (0 : Int32)] (.int (0 : Int32)) := (Arv.new A1 (by decide)).pad (pad_rep [] (.int (0 : Int32)) 1)
  have gb : n0 ≤ b1 := Nat.le_trans Z0 (Nat.le_of_eq g1.symm)
  refine Goes.st (fun _ k => XS.dup X1.here hx rfl (hb hby d4_3) rfl rfl k) ?_
  show Goes _ _ _ _ (T1.setTop (mkF m 4 #[.val (.int p1)] [(.ref b1), (.ref b1)]))
  refine Goes.st (fun _ k => XS.iconst X1.here hx rfl (hb hby d4_4) k) ?_
  show Goes _ _ _ _ (T1.setTop (mkF m 5 #[.val (.int p1)] [(.int (0 : Int32)), (.ref b1), (.ref b1)]))
  refine Goes.st (fun _ k => XS.iloadN X1.here hx rfl (hb hby d4_5) rfl k) ?_
  show Goes _ _ _ _ (T1.setTop (mkF m 6 #[.val (.int p1)] [(.int p1), (.int (0 : Int32)), (.ref b1), (.ref b1)]))
  refine Goes.st (fun _ k => XS.i2b X1.here hx rfl (hb hby d4_6) rfl k) ?_
  show Goes _ _ _ _ (T1.setTop (mkF m 7 #[.val (.int p1)] [(.int (p1).toInt8.toInt32), (.int (0 : Int32)), (.ref b1), (.ref b1)]))
  obtain ⟨cl, Ar, q, S, M, H, G⟩ := V1
  have hin : ¬ ((0 : Int32) < 0 ∨ cl.slots.size ≤ (0 : Int32).toNatClampNeg) := inb_of S ⟨by decide, by decide⟩
  obtain ⟨T2, h2, X2, e2, W2, st2⟩ := stB X1 hx hZ e1 Ar (j := (0 : Int32)) hin (g := (mkF m 7 #[.val (.int p1)] [(.int (p1).toInt8.toInt32), (.int (0 : Int32)), (.ref b1), (.ref b1)])) rfl rfl (hb hby d4_7)
  refine Goes.st st2 ?_
  show Goes _ _ _ _ (T2.setTop (mkF m 8 #[.val (.int p1)] [(.ref b1)]))
  have N2 := Fr.snoc X2 N0 gb
  exact leafA X2 hx Bd.notSynchronized Bd.returns rfl rfl (hb hby d4_8) (by decide) (by decide) ⟨b1, k1, _, rfl, N2, by rw [e2]; exact ((Keep.refl h0 []).ext E1).wr W2 (Or.inr (Nat.le_of_eq g1.symm)), Nat.le_of_eq g1.symm, by rw [e2]; exact Arv.set Ar q S M H G (fits_nar_byte _) W2 0 rfl (by decide)⟩
theorem ef_5 (m : MethodId) (a1 : Addr) (a2 : Addr) : entryFrame m #[(.ref a1), (.ref a2), (.int (0 : Int32))] 3 = mkF m 0 #[.val (.ref a1), .val (.ref a2), .val (.int (0 : Int32))] [] := by first | (simp [entryFrame, mkF, argsToLocals, Value.category, maxLocals]; done) | rfl
def Q5 (Z : State) (a1 : Addr) (a2 : Addr)  (h0 : Heap) (n0 : Nat) (v : Option Value) (h : Heap) (L : List Loc) : Prop := v = none ∧ Fr n0 L ∧ Keep h0 h [a1] ∧ Exa Z h a1 "java/lang/String" ∧ Fld Z h a1 "java/lang/String" "value" "[B" (.ref a2) ∧ Fld Z h a1 "java/lang/String" "coder" "B" (.int (0 : Int32))
set_option maxRecDepth 65536 in
set_option maxHeartbeats 40000000 in
theorem rm5 (l : Launch) (Z : State) (a0 : Array Value) (hw : ∀ d ∈ tables_1, d.before a0 Z = true) (ws : List Jvm.Cond) (a1 : Addr) (a2 : Addr)  (h0 : Heap) (n0 : Nat) (Z0 : n0 ≤ h0.size) (E : Exa Z h0 a1 "java/lang/String") (Fv : Fld Z h0 a1 "java/lang/String" "value" "[B" .null) (Fc : Fld Z h0 a1 "java/lang/String" "coder" "B" (.int (0 : Int32))) (ga : n0 ≤ a1) :
    MetFree l (⟨"java/lang/String", "<init>", "([BB)V"⟩ : MethodName) (head1 (Jvm.Cond.code (⟨"java/lang/String", "<init>", "([BB)V"⟩ : MethodName) jdk_42_method_151_code 3 none :: ws) ({ frames := 1, cells := 0, slots := 0, locals := 12 } : Room)) (fun a U => a = #[(.ref a1), (.ref a2), (.int (0 : Int32))] ∧ Z.Warmed39 U.vm ∧ U.heap = h0) (fun _ _ _ _ _ => True) (fun _ U o U' => ∃ v L, o = .returned v ∧ Q5 Z a1 a2  h0 n0 v U'.heap L ∧ FrameEnd U o U' L ({ frames := 1, cells := 0, slots := 0, locals := 12 } : Room).cells ({ frames := 1, cells := 0, slots := 0, locals := 12 } : Room).slots) := by
  refine MetFree.of_bodySF pn_5 hisR ?_
  intro p e s m args below meth c s₁ Bd hml0 hP hK
  obtain ⟨rfl, hZ, hh⟩ := hP
  have hx := Bd.exec
  have hby := Bd.bytes
  have hml : c.maxLocals = 3 := hml0
  have hown : s.vm.findClass "java/lang/String" = some m.cls := findClass_of_methodNamed Bd.named
  have hnm := (name_of_methodNamed Bd.named Bd.method).1
  have X0 : Stand p l e ({ frames := 1, cells := 0, slots := 0, locals := 12 } : Room) s m #[(.ref a1), (.ref a2), (.int (0 : Int32))] below meth c s₁ [] 0 0 := Stand.of_body Bd
  have e0 : s₁.heap = h0 := by rw [← hh, Bd.state]; rfl
  have N0 := Fr.nil n0
  show Goes p.tables e below (Ends below s (Q5 Z a1 a2  h0 n0) ({ frames := 1, cells := 0, slots := 0, locals := 12 } : Room).cells ({ frames := 1, cells := 0, slots := 0, locals := 12 } : Room).slots) (s₁.setTop (entryFrame m #[(.ref a1), (.ref a2), (.int (0 : Int32))] 3))
  refine Goes.cast (ef_5 m a1 a2) ?_
  refine Goes.st (fun _ k => XS.aloadN X0.here hx rfl (hb hby d5_0) rfl rfl k) ?_
  show Goes _ _ _ _ (s₁.setTop (mkF m 1 #[.val (.ref a1), .val (.ref a2), .val (.int (0 : Int32))] [(.ref a1)]))
  obtain ⟨T3, X3, e3, st3⟩ := initO X0 hx hZ hown (hw _ (List.mem_of_getElem? (i := 23) rfl)) (hw _ (List.mem_of_getElem? (i := 24) rfl)) (hw _ (List.mem_of_getElem? (i := 25) rfl)) e0 (g := (mkF m 1 #[.val (.ref a1), .val (.ref a2), .val (.int (0 : Int32))] [(.ref a1)])) rfl (by rw [hml]; rfl) rfl (hb hby d5_1) (by decide) (W := 0) (by show 2 * 0 + _ ≤ _; exact Nat.le_of_eq rfl) (by decide)
  refine Goes.st st3 ?_
  show Goes _ _ _ _ (T3.setTop (mkF m 4 #[.val (.ref a1), .val (.ref a2), .val (.int (0 : Int32))] []))
  refine Goes.st (fun _ k => XS.aloadN X3.here hx rfl (hb hby d5_4) rfl rfl k) ?_
  show Goes _ _ _ _ (T3.setTop (mkF m 5 #[.val (.ref a1), .val (.ref a2), .val (.int (0 : Int32))] [(.ref a1)]))
  refine Goes.st (fun _ k => XS.aloadN X3.here hx rfl (hb hby d5_5) rfl rfl k) ?_
  show Goes _ _ _ _ (T3.setTop (mkF m 6 #[.val (.ref a1), .val (.ref a2), .val (.int (0 : Int32))] [(.ref a2), (.ref a1)]))
  obtain ⟨T4, h4, X4, e4, W4, st4⟩ := putF X3 hx hZ hown (host := "") (Or.inl (hw _ (List.mem_of_getElem? (i := 26) rfl))) Via.refl e3 Fv E (Or.inr ⟨(hw _ (List.mem_of_getElem? (i := 27) rfl)), rfl, hnm⟩) (hw _ (List.mem_of_getElem? (i := 14) rfl)) (ty := (.array .byte)) (by decide) rfl rfl (g := (mkF m 6 #[.val (.ref a1), .val (.ref a2), .val (.int (0 : Int32))] [(.ref a2), (.ref a1)])) rfl rfl (hb hby d5_6)
  refine Goes.st st4 ?_
  show Goes _ _ _ _ (T4.setTop (mkF m 9 #[.val (.ref a1), .val (.ref a2), .val (.int (0 : Int32))] []))
  have N4 := Fr.snoc X4 N0 ga
  have F4_value := Fv.same W4
  have F4_coder := Fc.other W4 (Or.inr (slot_ne (Or.inr (hw _ (List.mem_of_getElem? (i := 29) rfl))) (Or.inr (hw _ (List.mem_of_getElem? (i := 27) rfl))) (by decide) (t := .byte) (t' := .array .byte) (by decide) (by decide) : Jvm.RoadKit.slotOf Z "java/lang/String" "coder" "B" ≠ Jvm.RoadKit.slotOf Z "java/lang/String" "value" "[B"))
  have E4x := E.wr W4
  have K4 : Keep h0 h4 [a1] := (Keep.refl h0 [a1]).wr W4 (Or.inl (List.mem_cons_self ..))
  refine Goes.st (fun _ k => XS.aloadN X4.here hx rfl (hb hby d5_9) rfl rfl k) ?_
  show Goes _ _ _ _ (T4.setTop (mkF m 10 #[.val (.ref a1), .val (.ref a2), .val (.int (0 : Int32))] [(.ref a1)]))
  refine Goes.st (fun _ k => XS.iloadN X4.here hx rfl (hb hby d5_10) rfl k) ?_
  show Goes _ _ _ _ (T4.setTop (mkF m 11 #[.val (.ref a1), .val (.ref a2), .val (.int (0 : Int32))] [(.int (0 : Int32)), (.ref a1)]))
  obtain ⟨T5, h5, X5, e5, W5, st5⟩ := putF X4 hx hZ hown (host := "") (Or.inl (hw _ (List.mem_of_getElem? (i := 28) rfl))) Via.refl e4 F4_coder E4x (Or.inr ⟨(hw _ (List.mem_of_getElem? (i := 29) rfl)), rfl, hnm⟩) (hw _ (List.mem_of_getElem? (i := 14) rfl)) (ty := .byte) (by decide) rfl rfl (g := (mkF m 11 #[.val (.ref a1), .val (.ref a2), .val (.int (0 : Int32))] [(.int (0 : Int32)), (.ref a1)])) rfl rfl (hb hby d5_11)
  refine Goes.st st5 ?_
  show Goes _ _ _ _ (T5.setTop (mkF m 14 #[.val (.ref a1), .val (.ref a2), .val (.int (0 : Int32))] []))
  have N5 := Fr.snoc X5 N4 ga
  have F5_value := F4_value.other W5 (Or.inr (slot_ne (Or.inr (hw _ (List.mem_of_getElem? (i := 27) rfl))) (Or.inr (hw _ (List.mem_of_getElem? (i := 29) rfl))) (by decide) (t := .array .byte) (t' := .byte) (by decide) (by decide) : Jvm.RoadKit.slotOf Z "java/lang/String" "value" "[B" ≠ Jvm.RoadKit.slotOf Z "java/lang/String" "coder" "B"))
  have F5_coder := F4_coder.same W5
  have E5x := E4x.wr W5
  have K5 : Keep h0 h5 [a1] := K4.wr W5 (Or.inl (List.mem_cons_self ..))
  exact leafN X5 hx Bd.notSynchronized Bd.returns (hb hby d5_14) (by decide) (by decide) ⟨rfl, N5, by rw [e5]; exact K5, by rw [e5]; exact E5x, by rw [e5]; exact F5_value, by rw [e5]; exact F5_coder⟩
theorem ef_2 (m : MethodId) (p1 : Int32) : entryFrame m #[(.int p1)] 1 = mkF m 0 #[.val (.int p1)] [] := by first | (simp [entryFrame, mkF, argsToLocals, Value.category, maxLocals]; done) | rfl
def Q2 (Z : State) (p1 : Int32) (cs : Int32) (h0 : Heap) (n0 : Nat) (v : Option Value) (h : Heap) (L : List Loc) : Prop := ∃ a x, v = some (.ref a) ∧ Fr n0 L ∧ Keep h0 h [] ∧ own_S Z h a x
set_option maxRecDepth 65536 in
set_option maxHeartbeats 40000000 in
theorem rm2 (l : Launch) (Z : State) (a0 : Array Value) (hw : ∀ d ∈ tables_1, d.before a0 Z = true) (ws : List Jvm.Cond) (p1 : Int32) (cs : Int32) (h0 : Heap) (n0 : Nat) (Z0 : n0 ≤ h0.size) (hp : ¬ ((255 : Int32) < p1)) (XO : Old Z n0 h0) (SC : Sta Z Z.heap "java/lang/String" "COMPACT_STRINGS" "Z" (.int cs)) (hcs : ¬ cs = (0 : Int32)) :
    MetFree l (⟨"java/lang/String", "valueOf", "(C)Ljava/lang/String;"⟩ : MethodName) (head1 (Jvm.Cond.code (⟨"java/lang/String", "valueOf", "(C)Ljava/lang/String;"⟩ : MethodName) jdk_42_method_139_code 1 (some (.object "java/lang/String")) :: ws) ({ frames := 2, cells := 2, slots := 5, locals := 27 } : Room)) (fun a U => a = #[(.int p1)] ∧ Z.Warmed39 U.vm ∧ U.heap = h0) (fun _ _ _ _ _ => True) (fun _ U o U' => ∃ v L, o = .returned v ∧ Q2 Z p1 cs h0 n0 v U'.heap L ∧ FrameEnd U o U' L ({ frames := 2, cells := 2, slots := 5, locals := 27 } : Room).cells ({ frames := 2, cells := 2, slots := 5, locals := 27 } : Room).slots) := by
  refine MetFree.of_bodySF pn_2 hisR ?_
  intro p e s m args below meth c s₁ Bd hml0 hP hK
  obtain ⟨rfl, hZ, hh⟩ := hP
  have hx := Bd.exec
  have hby := Bd.bytes
  have hml : c.maxLocals = 1 := hml0
  have hown : s.vm.findClass "java/lang/String" = some m.cls := findClass_of_methodNamed Bd.named
  have hnm := (name_of_methodNamed Bd.named Bd.method).1
  have X0 : Stand p l e ({ frames := 2, cells := 2, slots := 5, locals := 27 } : Room) s m #[(.int p1)] below meth c s₁ [] 0 0 := Stand.of_body Bd
  have e0 : s₁.heap = h0 := by rw [← hh, Bd.state]; rfl
  have N0 := Fr.nil n0
  show Goes p.tables e below (Ends below s (Q2 Z p1 cs h0 n0) ({ frames := 2, cells := 2, slots := 5, locals := 27 } : Room).cells ({ frames := 2, cells := 2, slots := 5, locals := 27 } : Room).slots) (s₁.setTop (entryFrame m #[(.int p1)] 1))
  refine Goes.cast (ef_2 m p1) ?_
  obtain ⟨T6, X6, e6, st6⟩ := getS X0 hx hZ (host := "") hown (hw _ (List.mem_of_getElem? (i := 8) rfl)) Via.refl e0 (SC.ext XO.2) (g := (mkF m 0 #[.val (.int p1)] [])) rfl (hb hby d2_0)
  refine Goes.st st6 ?_
  show Goes _ _ _ _ (T6.setTop (mkF m 3 #[.val (.int p1)] [(.int cs)]))
  refine Goes.st (fun _ k => XS.ifNo X6.here hx rfl (hb hby d2_3) rfl ((if0 _ _).trans (feq hcs).1) k) ?_
  show Goes _ _ _ _ (T6.setTop (mkF m 6 #[.val (.int p1)] []))
  refine Goes.st (fun _ k => XS.iloadN X6.here hx rfl (hb hby d2_6) rfl k) ?_
  show Goes _ _ _ _ (T6.setTop (mkF m 7 #[.val (.int p1)] [(.int p1)]))
  obtain ⟨_, _, ⟨T7, L7, k7, n7⟩, -, X7, ⟨Lc7, hQ7, l7, y7, z7⟩, st7⟩ := Jvm.LawKit.callS X6 hx (y := (⟨"java/lang/StringLatin1", "canEncode", "(C)Z"⟩ : MethodName)) hown (mvT hZ (hw _ (List.mem_of_getElem? (i := 9) rfl))) (mvT hZ (hw _ (List.mem_of_getElem? (i := 10) rfl))) (mvT hZ (hw _ (List.mem_of_getElem? (i := 11) rfl))) (mvT hZ (hw _ (List.mem_of_getElem? (i := 12) rfl))) (by decide) (backOf (W := 0) (rm3 l Z a0 hw [] p1 h0 n0 Z0 hp) hZ (hw _ (List.mem_of_getElem? (i := 12) rfl)) (hw _ (List.mem_of_getElem? (i := 11) rfl)) (by decide) (by decide)) (g := (mkF m 7 #[.val (.int p1)] [(.int p1)])) rfl (by rw [hml]; rfl) (argsL := [(.int p1)]) (rest := []) (lenOf pd_3 rfl) rfl (by show 2 * 0 + _ ≤ _; exact Nat.le_of_eq rfl) (hb hby d2_7) (fun _ _ => ⟨rfl, e6, (by decide : 0 + 0 ≤ _), (by decide : 0 + 0 ≤ _)⟩)
  dsimp only [Pt.U, Pt.locs, Pt.cells, Pt.slots] at X7 l7 y7 z7 st7 hQ7
  subst l7 y7 z7
  obtain ⟨rfl, Nq7, eq7⟩ := hQ7
  have N7 := Fr.app N0 Nq7
  refine Goes.st st7 ?_
  show Goes _ _ _ _ (T7.setTop (mkF m 10 #[.val (.int p1)] [(.int (1 : Int32))]))
  refine Goes.st (fun _ k => XS.ifNo X7.here hx rfl (hb hby d2_10) rfl (by decide) k) ?_
  show Goes _ _ _ _ (T7.setTop (mkF m 13 #[.val (.int p1)] []))
  obtain ⟨T8, h8, X8, e8, E8, A8, D8, -, st8⟩ := newO X7 hx hZ hown (hw _ (List.mem_of_getElem? (i := 13) rfl)) (hw _ (List.mem_of_getElem? (i := 14) rfl)) (hw _ (List.mem_of_getElem? (i := 6) rfl)) eq7 (g := (mkF m 13 #[.val (.int p1)] [])) rfl (hb hby d2_13) (by decide) (by decide)
  obtain ⟨a8, g8⟩ : ∃ z, z = (h0).size := ⟨_, rfl⟩
  rw [← g8] at A8 D8 st8
  refine Goes.st st8 ?_
  show Goes _ _ _ _ (T8.setTop (mkF m 16 #[.val (.int p1)] [(.ref a8)]))
  have Fv : Fld Z h8 a8 "java/lang/String" "value" "[B" .null := D8 (Or.inr (hw _ (List.mem_of_getElem? (i := 27) rfl))) (ty := .array .byte) (by decide)
  have Fc : Fld Z h8 a8 "java/lang/String" "coder" "B" (.int (0 : Int32)) := D8 (Or.inr (hw _ (List.mem_of_getElem? (i := 29) rfl))) (ty := .byte) (by decide)
  have ga : n0 ≤ a8 := Nat.le_trans Z0 (Nat.le_of_eq g8.symm)
  have Z1 : n0 ≤ h8.size := Nat.le_trans Z0 E8.1
  refine Goes.st (fun _ k => XS.dup X8.here hx rfl (hb hby d2_16) rfl rfl k) ?_
  show Goes _ _ _ _ (T8.setTop (mkF m 17 #[.val (.int p1)] [(.ref a8), (.ref a8)]))
  refine Goes.st (fun _ k => XS.iloadN X8.here hx rfl (hb hby d2_17) rfl k) ?_
  show Goes _ _ _ _ (T8.setTop (mkF m 18 #[.val (.int p1)] [(.int p1), (.ref a8), (.ref a8)]))
  obtain ⟨_, _, ⟨T9, L9, k9, n9⟩, -, X9, ⟨Lc9, hQ9, l9, y9, z9⟩, st9⟩ := Jvm.LawKit.callS X8 hx (y := (⟨"java/lang/StringLatin1", "toBytes", "(C)[B"⟩ : MethodName)) hown (mvT hZ (hw _ (List.mem_of_getElem? (i := 15) rfl))) (mvT hZ (hw _ (List.mem_of_getElem? (i := 16) rfl))) (mvT hZ (hw _ (List.mem_of_getElem? (i := 11) rfl))) (mvT hZ (hw _ (List.mem_of_getElem? (i := 17) rfl))) (by decide) (backOf (W := 2) (rm4 l Z a0 hw [] p1 h8 n0 Z1) hZ (hw _ (List.mem_of_getElem? (i := 17) rfl)) (hw _ (List.mem_of_getElem? (i := 11) rfl)) (by decide) (by decide)) (g := (mkF m 18 #[.val (.int p1)] [(.int p1), (.ref a8), (.ref a8)])) rfl (by rw [hml]; rfl) (argsL := [(.int p1)]) (rest := [(.ref a8), (.ref a8)]) (lenOf pd_4 rfl) rfl (by show 2 * 0 + _ ≤ _; exact Nat.le_of_eq rfl) (hb hby d2_18) (fun _ _ => ⟨rfl, e8, (by decide : 1 + 1 ≤ _), (by decide : 4 + 1 ≤ _)⟩)
  dsimp only [Pt.U, Pt.locs, Pt.cells, Pt.slots] at X9 l9 y9 z9 st9 hQ9
  subst l9 y9 z9
  obtain ⟨b9, kb9, x9, rfl, Nq9, Kq9, gb9, V9⟩ := hQ9
  have N9 := Fr.app N7 Nq9
  refine Goes.st st9 ?_
  show Goes _ _ _ _ (T9.setTop (mkF m 21 #[.val (.int p1)] [(.ref b9), (.ref a8), (.ref a8)]))
  have Z2 : n0 ≤ T9.heap.size := Nat.le_trans Z1 Kq9.1
  refine Goes.st (fun _ k => XS.iconst X9.here hx rfl (hb hby d2_21) k) ?_
  show Goes _ _ _ _ (T9.setTop (mkF m 22 #[.val (.int p1)] [(.int (0 : Int32)), (.ref b9), (.ref a8), (.ref a8)]))
  obtain ⟨_, _, ⟨T10, L10, k10, n10⟩, -, X10, ⟨Lc10, hQ10, l10, y10, z10⟩, st10⟩ := X9.specialBack hx (y := (⟨"java/lang/String", "<init>", "([BB)V"⟩ : MethodName)) rfl hown (mvT hZ (hw _ (List.mem_of_getElem? (i := 19) rfl))) (mvT hZ (hw _ (List.mem_of_getElem? (i := 20) rfl))) (mvT hZ (hw _ (List.mem_of_getElem? (i := 22) rfl))) (by decide) (backOf (W := 1) (rm5 l Z a0 hw [] a8 b9 T9.heap n0 Z2 (A8.keep Kq9) (Fv.keep Kq9 nin0) (Fc.keep Kq9 nin0) ga) hZ (hw _ (List.mem_of_getElem? (i := 22) rfl)) (hw _ (List.mem_of_getElem? (i := 6) rfl)) (by decide) (by decide)) (g := (mkF m 22 #[.val (.int p1)] [(.int (0 : Int32)), (.ref b9), (.ref a8), (.ref a8)])) rfl (by rw [hml]; rfl) (Steps.refl _) (a := a8) (argsL := [(.ref b9), (.int (0 : Int32))]) (rest := [(.ref a8)]) (lenOf pd_5 rfl) rfl (by show 2 * 0 + _ ≤ _; exact Nat.le_of_eq rfl) (hb hby d2_22) (fun _ _ => ⟨rfl, rfl, (by decide : 2 + 0 ≤ _), (by decide : 5 + 0 ≤ _)⟩)
  dsimp only [Pt.U, Pt.locs, Pt.cells, Pt.slots] at X10 l10 y10 z10 st10 hQ10
  subst l10 y10 z10
  obtain ⟨rfl, Nq10, Kq10, E10, Fv10, Fc10⟩ := hQ10
  have N10 := Fr.app N9 Nq10
  refine Goes.tr st10 ?_
  show Goes _ _ _ _ (T10.setTop (mkF m 25 #[.val (.int p1)] [(.ref a8)]))
  have hne : b9 ≠ a8 := Nat.ne_of_gt (Nat.lt_of_lt_of_le A8.lt gb9)
  exact leafA X10 hx Bd.notSynchronized Bd.returns rfl rfl (hb hby d2_25) (by decide) (by decide) ⟨a8, x9, rfl, N10, (((Keep.refl h0 []).ext E8).trans Kq9 all0).trans Kq10 (allS (Or.inr (Nat.le_of_eq g8.symm)) all0), E10, Fc10, b9, kb9, Fv10, V9.keep Kq10 (ninS hne nin0)⟩
theorem ef_7 (m : MethodId) (p1 : Int32) (p2 : Int32) : entryFrame m #[(.int p1), (.int p2)] 2 = mkF m 0 #[.val (.int p1), .val (.int p2)] [] := by first | (simp [entryFrame, mkF, argsToLocals, Value.category, maxLocals]; done) | rfl
def Q7 (Z : State) (p1 : Int32) (p2 : Int32) (cs : Int32) (h0 : Heap) (n0 : Nat) (v : Option Value) (h : Heap) (L : List Loc) : Prop := ∃ r, v = some r ∧ Fr n0 L ∧ Keep h0 h [] ∧ own_R Z h r
set_option maxRecDepth 65536 in
set_option maxHeartbeats 40000000 in
theorem rm7 (l : Launch) (Z : State) (a0 : Array Value) (hw : ∀ d ∈ tables_1, d.before a0 Z = true) (ws : List Jvm.Cond) (p1 : Int32) (p2 : Int32) (cs : Int32) (h0 : Heap) (n0 : Nat) (Z0 : n0 ≤ h0.size) (XO : Old Z n0 h0) (SC : Sta Z Z.heap "java/lang/String" "COMPACT_STRINGS" "Z" (.int cs)) (hcs : ¬ cs = (0 : Int32)) :
    MetFree l (⟨"com/example/rulefold/rulefold/PatternSubjectInPinLaw", "slot", "(II)Ljava/lang/String;"⟩ : MethodName) (head1 (Jvm.Cond.code (⟨"com/example/rulefold/rulefold/PatternSubjectInPinLaw", "slot", "(II)Ljava/lang/String;"⟩ : MethodName) method_3_code 2 (some (.object "java/lang/String")) :: ws) ({ frames := 3, cells := 2, slots := 5, locals := 39 } : Room)) (fun a U => a = #[(.int p1), (.int p2)] ∧ Z.Warmed39 U.vm ∧ U.heap = h0) (fun _ _ _ _ _ => True) (fun _ U o U' => ∃ v L, o = .returned v ∧ Q7 Z p1 p2 cs h0 n0 v U'.heap L ∧ FrameEnd U o U' L ({ frames := 3, cells := 2, slots := 5, locals := 39 } : Room).cells ({ frames := 3, cells := 2, slots := 5, locals := 39 } : Room).slots) := by
  refine MetFree.of_bodySF pn_7 hisR ?_
  intro p e s m args below meth c s₁ Bd hml0 hP hK
  obtain ⟨rfl, hZ, hh⟩ := hP
  have hx := Bd.exec
  have hby := Bd.bytes
  have hml : c.maxLocals = 2 := hml0
  have hown : s.vm.findClass "com/example/rulefold/rulefold/PatternSubjectInPinLaw" = some m.cls := findClass_of_methodNamed Bd.named
  have hnm := (name_of_methodNamed Bd.named Bd.method).1
  have X0 : Stand p l e ({ frames := 3, cells := 2, slots := 5, locals := 39 } : Room) s m #[(.int p1), (.int p2)] below meth c s₁ [] 0 0 := Stand.of_body Bd
  have e0 : s₁.heap = h0 := by rw [← hh, Bd.state]; rfl
  have N0 := Fr.nil n0
  show Goes p.tables e below (Ends below s (Q7 Z p1 p2 cs h0 n0) ({ frames := 3, cells := 2, slots := 5, locals := 39 } : Room).cells ({ frames := 3, cells := 2, slots := 5, locals := 39 } : Room).slots) (s₁.setTop (entryFrame m #[(.int p1), (.int p2)] 2))
  refine Goes.cast (ef_7 m p1 p2) ?_
  refine Goes.st (fun _ k => XS.iloadN X0.here hx rfl (hb hby d7_0) rfl k) ?_
  show Goes _ _ _ _ (s₁.setTop (mkF m 1 #[.val (.int p1), .val (.int p2)] [(.int p1)]))
  refine Goes.st (fun _ k => XS.bipush X0.here hx rfl (hb hby d7_1) k) ?_
  show Goes _ _ _ _ (s₁.setTop (mkF m 3 #[.val (.int p1), .val (.int p2)] [(.int (24 : Int32)), (.int p1)]))
  refine Goes.st (fun _ k => XS.iloadN X0.here hx rfl (hb hby d7_3) rfl k) ?_
  show Goes _ _ _ _ (s₁.setTop (mkF m 4 #[.val (.int p1), .val (.int p2)] [(.int p2), (.int (24 : Int32)), (.int p1)]))
  refine Goes.st (fun _ k => XS.iadd X0.here hx rfl (hb hby d7_4) rfl k) ?_
  show Goes _ _ _ _ (s₁.setTop (mkF m 5 #[.val (.int p1), .val (.int p2)] [(.int ((24 : Int32) + p2)), (.int p1)]))
  refine Goes.st (fun _ k => XS.iushr X0.here hx rfl (hb hby d7_5) rfl k) ?_
  show Goes _ _ _ _ (s₁.setTop (mkF m 6 #[.val (.int p1), .val (.int p2)] [(.int ((p1).toUInt32 >>> ((((24 : Int32) + p2)) &&& 31).toUInt32).toInt32)]))
  refine Goes.st (fun _ k => XS.iconst X0.here hx rfl (hb hby d7_6) k) ?_
  show Goes _ _ _ _ (s₁.setTop (mkF m 7 #[.val (.int p1), .val (.int p2)] [(.int (1 : Int32)), (.int ((p1).toUInt32 >>> ((((24 : Int32) + p2)) &&& 31).toUInt32).toInt32)]))
  refine Goes.st (fun _ k => XS.iand X0.here hx rfl (hb hby d7_7) rfl k) ?_
  show Goes _ _ _ _ (s₁.setTop (mkF m 8 #[.val (.int p1), .val (.int p2)] [(.int (((p1).toUInt32 >>> ((((24 : Int32) + p2)) &&& 31).toUInt32).toInt32 &&& (1 : Int32)))]))
  by_cases hc : (((p1).toUInt32 >>> ((((24 : Int32) + p2)) &&& 31).toUInt32).toInt32 &&& (1 : Int32)) = (0 : Int32)
  · skip
    refine Goes.st (fun _ k => XS.ifNo X0.here hx rfl (hb hby d7_8) rfl ((if0 _ _).trans (teq hc).2) k) ?_
    show Goes _ _ _ _ (s₁.setTop (mkF m 11 #[.val (.int p1), .val (.int p2)] []))
    refine Goes.st (fun _ k => XS.aconstNull X0.here hx rfl (hb hby d7_11) k) ?_
    show Goes _ _ _ _ (s₁.setTop (mkF m 12 #[.val (.int p1), .val (.int p2)] [.null]))
    exact leafA X0 hx Bd.notSynchronized Bd.returns rfl rfl (hb hby d7_12) (by decide) (by decide) ⟨_, rfl, N0, by rw [e0]; exact Keep.refl h0 [], Or.inl rfl⟩
  · skip
    refine Goes.st (fun _ k => XS.ifYes X0.here hx rfl (pc0 := 8) (pc' := 13) rfl (hb hby d7_8) rfl ((if0 _ _).trans (feq hc).2) (by decide) (by decide) k) ?_
    show Goes _ _ _ _ (s₁.setTop (mkF m 13 #[.val (.int p1), .val (.int p2)] []))
    refine Goes.st (fun _ k => XS.iloadN X0.here hx rfl (hb hby d7_13) rfl k) ?_
    show Goes _ _ _ _ (s₁.setTop (mkF m 14 #[.val (.int p1), .val (.int p2)] [(.int p1)]))
    refine Goes.st (fun _ k => XS.bipush X0.here hx rfl (hb hby d7_14) k) ?_
    show Goes _ _ _ _ (s₁.setTop (mkF m 16 #[.val (.int p1), .val (.int p2)] [(.int (8 : Int32)), (.int p1)]))
    refine Goes.st (fun _ k => XS.iloadN X0.here hx rfl (hb hby d7_16) rfl k) ?_
    show Goes _ _ _ _ (s₁.setTop (mkF m 17 #[.val (.int p1), .val (.int p2)] [(.int p2), (.int (8 : Int32)), (.int p1)]))
    refine Goes.st (fun _ k => XS.imul X0.here hx rfl (hb hby d7_17) rfl k) ?_
    show Goes _ _ _ _ (s₁.setTop (mkF m 18 #[.val (.int p1), .val (.int p2)] [(.int ((8 : Int32) * p2)), (.int p1)]))
    refine Goes.st (fun _ k => XS.iushr X0.here hx rfl (hb hby d7_18) rfl k) ?_
    show Goes _ _ _ _ (s₁.setTop (mkF m 19 #[.val (.int p1), .val (.int p2)] [(.int ((p1).toUInt32 >>> ((((8 : Int32) * p2)) &&& 31).toUInt32).toInt32)]))
    refine Goes.st (fun _ k => XS.sipush X0.here hx rfl (hb hby d7_19) k) ?_
    show Goes _ _ _ _ (s₁.setTop (mkF m 22 #[.val (.int p1), .val (.int p2)] [(.int (255 : Int32)), (.int ((p1).toUInt32 >>> ((((8 : Int32) * p2)) &&& 31).toUInt32).toInt32)]))
    refine Goes.st (fun _ k => XS.iand X0.here hx rfl (hb hby d7_22) rfl k) ?_
    show Goes _ _ _ _ (s₁.setTop (mkF m 23 #[.val (.int p1), .val (.int p2)] [(.int (((p1).toUInt32 >>> ((((8 : Int32) * p2)) &&& 31).toUInt32).toInt32 &&& (255 : Int32)))]))
    refine Goes.st (fun _ k => XS.i2c X0.here hx rfl (hb hby d7_23) rfl k) ?_
    show Goes _ _ _ _ (s₁.setTop (mkF m 24 #[.val (.int p1), .val (.int p2)] [(.int ((((p1).toUInt32 >>> ((((8 : Int32) * p2)) &&& 31).toUInt32).toInt32 &&& (255 : Int32))).toUInt32.toUInt16.toUInt32.toInt32)]))
    obtain ⟨_, _, ⟨T11, L11, k11, n11⟩, -, X11, ⟨Lc11, hQ11, l11, y11, z11⟩, st11⟩ := Jvm.LawKit.callS X0 hx (y := (⟨"java/lang/String", "valueOf", "(C)Ljava/lang/String;"⟩ : MethodName)) hown (mvT hZ (hw _ (List.mem_of_getElem? (i := 4) rfl))) (mvT hZ (hw _ (List.mem_of_getElem? (i := 5) rfl))) (mvT hZ (hw _ (List.mem_of_getElem? (i := 6) rfl))) (mvT hZ (hw _ (List.mem_of_getElem? (i := 7) rfl))) (by decide) (backOf (W := 0) (rm2 l Z a0 hw [] ((((p1).toUInt32 >>> ((((8 : Int32) * p2)) &&& 31).toUInt32).toInt32 &&& (255 : Int32))).toUInt32.toUInt16.toUInt32.toInt32 cs h0 n0 Z0 (own_ch _) XO SC hcs) hZ (hw _ (List.mem_of_getElem? (i := 7) rfl)) (hw _ (List.mem_of_getElem? (i := 6) rfl)) (by decide) (by decide)) (g := (mkF m 24 #[.val (.int p1), .val (.int p2)] [(.int ((((p1).toUInt32 >>> ((((8 : Int32) * p2)) &&& 31).toUInt32).toInt32 &&& (255 : Int32))).toUInt32.toUInt16.toUInt32.toInt32)])) rfl (by rw [hml]; rfl) (argsL := [(.int ((((p1).toUInt32 >>> ((((8 : Int32) * p2)) &&& 31).toUInt32).toInt32 &&& (255 : Int32))).toUInt32.toUInt16.toUInt32.toInt32)]) (rest := []) (lenOf pd_2 rfl) rfl (by show 2 * 0 + _ ≤ _; exact Nat.le_of_eq rfl) (hb hby d7_24) (fun _ _ => ⟨rfl, e0, (by decide : 0 + 2 ≤ _), (by decide : 0 + 5 ≤ _)⟩)
    dsimp only [Pt.U, Pt.locs, Pt.cells, Pt.slots] at X11 l11 y11 z11 st11 hQ11
    subst l11 y11 z11
    obtain ⟨a11, x11, rfl, Nq11, Kq11, S11⟩ := hQ11
    have N11 := Fr.app N0 Nq11
    refine Goes.st st11 ?_
    show Goes _ _ _ _ (T11.setTop (mkF m 27 #[.val (.int p1), .val (.int p2)] [(.ref a11)]))
    exact leafA X11 hx Bd.notSynchronized Bd.returns rfl rfl (hb hby d7_27) (by decide) (by decide) ⟨_, rfl, N11, Kq11, Or.inr ⟨a11, x11, rfl, S11⟩⟩
theorem ef_9 (m : MethodId) (a1 : Addr) : entryFrame m #[(.ref a1)] 1 = mkF m 0 #[.val (.ref a1)] [] := by first | (simp [entryFrame, mkF, argsToLocals, Value.category, maxLocals]; done) | rfl
def Q9 (Z : State) (a1 : Addr)  (h0 : Heap) (n0 : Nat) (v : Option Value) (h : Heap) (L : List Loc) : Prop := v = none ∧ Fr n0 L ∧ h = h0
set_option maxRecDepth 65536 in
set_option maxHeartbeats 40000000 in
theorem rm9 (l : Launch) (Z : State) (a0 : Array Value) (hw : ∀ d ∈ tables_1, d.before a0 Z = true) (ws : List Jvm.Cond) (a1 : Addr)  (h0 : Heap) (n0 : Nat) (Z0 : n0 ≤ h0.size)  :
    MetFree l (⟨"java/lang/Record", "<init>", "()V"⟩ : MethodName) (head1 (Jvm.Cond.code (⟨"java/lang/Record", "<init>", "()V"⟩ : MethodName) jdk_30_method_1_code 1 none :: ws) ({ frames := 1, cells := 0, slots := 0, locals := 12 } : Room)) (fun a U => a = #[(.ref a1)] ∧ Z.Warmed39 U.vm ∧ U.heap = h0) (fun _ _ _ _ _ => True) (fun _ U o U' => ∃ v L, o = .returned v ∧ Q9 Z a1  h0 n0 v U'.heap L ∧ FrameEnd U o U' L ({ frames := 1, cells := 0, slots := 0, locals := 12 } : Room).cells ({ frames := 1, cells := 0, slots := 0, locals := 12 } : Room).slots) := by
  refine MetFree.of_bodySF pn_9 hisR ?_
  intro p e s m args below meth c s₁ Bd hml0 hP hK
  obtain ⟨rfl, hZ, hh⟩ := hP
  have hx := Bd.exec
  have hby := Bd.bytes
  have hml : c.maxLocals = 1 := hml0
  have hown : s.vm.findClass "java/lang/Record" = some m.cls := findClass_of_methodNamed Bd.named
  have hnm := (name_of_methodNamed Bd.named Bd.method).1
  have X0 : Stand p l e ({ frames := 1, cells := 0, slots := 0, locals := 12 } : Room) s m #[(.ref a1)] below meth c s₁ [] 0 0 := Stand.of_body Bd
  have e0 : s₁.heap = h0 := by rw [← hh, Bd.state]; rfl
  have N0 := Fr.nil n0
  show Goes p.tables e below (Ends below s (Q9 Z a1  h0 n0) ({ frames := 1, cells := 0, slots := 0, locals := 12 } : Room).cells ({ frames := 1, cells := 0, slots := 0, locals := 12 } : Room).slots) (s₁.setTop (entryFrame m #[(.ref a1)] 1))
  refine Goes.cast (ef_9 m a1) ?_
  refine Goes.st (fun _ k => XS.aloadN X0.here hx rfl (hb hby d9_0) rfl rfl k) ?_
  show Goes _ _ _ _ (s₁.setTop (mkF m 1 #[.val (.ref a1)] [(.ref a1)]))
  obtain ⟨T12, X12, e12, st12⟩ := initO X0 hx hZ hown (hw _ (List.mem_of_getElem? (i := 46) rfl)) (hw _ (List.mem_of_getElem? (i := 24) rfl)) (hw _ (List.mem_of_getElem? (i := 25) rfl)) e0 (g := (mkF m 1 #[.val (.ref a1)] [(.ref a1)])) rfl (by rw [hml]; rfl) rfl (hb hby d9_1) (by decide) (W := 0) (by show 2 * 0 + _ ≤ _; exact Nat.le_of_eq rfl) (by decide)
  refine Goes.st st12 ?_
  show Goes _ _ _ _ (T12.setTop (mkF m 4 #[.val (.ref a1)] []))
  exact leafN X12 hx Bd.notSynchronized Bd.returns (hb hby d9_4) (by decide) (by decide) ⟨rfl, N0, e12⟩
theorem ef_8 (m : MethodId) (a1 : Addr) (a2 : Addr) (a3 : Addr) (p4 : Int32) (a5 : Addr) (p6 : Int32) : entryFrame m #[(.ref a1), (.ref a2), (.ref a3), (.int p4), (.ref a5), (.int p6)] 6 = mkF m 0 #[.val (.ref a1), .val (.ref a2), .val (.ref a3), .val (.int p4), .val (.ref a5), .val (.int p6)] [] := by first | (simp [entryFrame, mkF, argsToLocals, Value.category, maxLocals]; done) | rfl
def Q8 (Z : State) (a1 : Addr) (a2 : Addr) (a3 : Addr) (p4 : Int32) (a5 : Addr) (p6 : Int32)  (h0 : Heap) (n0 : Nat) (v : Option Value) (h : Heap) (L : List Loc) : Prop := v = none ∧ Fr n0 L ∧ Keep h0 h [a1] ∧ own_P Z h a1 a2 a3 p4 a5 p6
set_option maxRecDepth 65536 in
set_option maxHeartbeats 40000000 in
theorem rm8 (l : Launch) (Z : State) (a0 : Array Value) (hw : ∀ d ∈ tables_1, d.before a0 Z = true) (ws : List Jvm.Cond) (a1 : Addr) (a2 : Addr) (a3 : Addr) (p4 : Int32) (a5 : Addr) (p6 : Int32)  (h0 : Heap) (n0 : Nat) (Z0 : n0 ≤ h0.size) (E : Exa Z h0 a1 "com/example/rulefold/rulefold/CompiledBody$Pattern") (F_relation : Fld Z h0 a1 "com/example/rulefold/rulefold/CompiledBody$Pattern" "relation" "Ljava/lang/String;" .null) (F_subject : Fld Z h0 a1 "com/example/rulefold/rulefold/CompiledBody$Pattern" "subject" "Ljava/lang/String;" .null) (F_subjectVariable : Fld Z h0 a1 "com/example/rulefold/rulefold/CompiledBody$Pattern" "subjectVariable" "I" (.int (0 : Int32))) (F_object : Fld Z h0 a1 "com/example/rulefold/rulefold/CompiledBody$Pattern" "object" "Ljava/lang/String;" .null) (F_objectVariable : Fld Z h0 a1 "com/example/rulefold/rulefold/CompiledBody$Pattern" "objectVariable" "I" (.int (0 : Int32))) (ga : n0 ≤ a1) :
    MetFree l (⟨"com/example/rulefold/rulefold/CompiledBody$Pattern", "<init>", "(Ljava/lang/String;Ljava/lang/String;ILjava/lang/String;I)V"⟩ : MethodName) (head1 (Jvm.Cond.code (⟨"com/example/rulefold/rulefold/CompiledBody$Pattern", "<init>", "(Ljava/lang/String;Ljava/lang/String;ILjava/lang/String;I)V"⟩ : MethodName) prog_22_method_1_code 6 none :: ws) ({ frames := 2, cells := 0, slots := 0, locals := 24 } : Room)) (fun a U => a = #[(.ref a1), (.ref a2), (.ref a3), (.int p4), (.ref a5), (.int p6)] ∧ Z.Warmed39 U.vm ∧ U.heap = h0) (fun _ _ _ _ _ => True) (fun _ U o U' => ∃ v L, o = .returned v ∧ Q8 Z a1 a2 a3 p4 a5 p6  h0 n0 v U'.heap L ∧ FrameEnd U o U' L ({ frames := 2, cells := 0, slots := 0, locals := 24 } : Room).cells ({ frames := 2, cells := 0, slots := 0, locals := 24 } : Room).slots) := by
  refine MetFree.of_bodySF pn_8 hisR ?_
  intro p e s m args below meth c s₁ Bd hml0 hP hK
  obtain ⟨rfl, hZ, hh⟩ := hP
  have hx := Bd.exec
  have hby := Bd.bytes
  have hml : c.maxLocals = 6 := hml0
  have hown : s.vm.findClass "com/example/rulefold/rulefold/CompiledBody$Pattern" = some m.cls := findClass_of_methodNamed Bd.named
  have hnm := (name_of_methodNamed Bd.named Bd.method).1
  have X0 : Stand p l e ({ frames := 2, cells := 0, slots := 0, locals := 24 } : Room) s m #[(.ref a1), (.ref a2), (.ref a3), (.int p4), (.ref a5), (.int p6)] below meth c s₁ [] 0 0 := Stand.of_body Bd
  have e0 : s₁.heap = h0 := by rw [← hh, Bd.state]; rfl
  have N0 := Fr.nil n0
  show Goes p.tables e below (Ends below s (Q8 Z a1 a2 a3 p4 a5 p6  h0 n0) ({ frames := 2, cells := 0, slots := 0, locals := 24 } : Room).cells ({ frames := 2, cells := 0, slots := 0, locals := 24 } : Room).slots) (s₁.setTop (entryFrame m #[(.ref a1), (.ref a2), (.ref a3), (.int p4), (.ref a5), (.int p6)] 6))
  refine Goes.cast (ef_8 m a1 a2 a3 p4 a5 p6) ?_
  refine Goes.st (fun _ k => XS.aloadN X0.here hx rfl (hb hby d8_0) rfl rfl k) ?_
  show Goes _ _ _ _ (s₁.setTop (mkF m 1 #[.val (.ref a1), .val (.ref a2), .val (.ref a3), .val (.int p4), .val (.ref a5), .val (.int p6)] [(.ref a1)]))
  obtain ⟨_, _, ⟨T13, L13, k13, n13⟩, -, X13, ⟨Lc13, hQ13, l13, y13, z13⟩, st13⟩ := X0.specialBack hx (y := (⟨"java/lang/Record", "<init>", "()V"⟩ : MethodName)) rfl hown (mvT hZ (hw _ (List.mem_of_getElem? (i := 41) rfl))) (mvT hZ (hw _ (List.mem_of_getElem? (i := 42) rfl))) (mvT hZ (hw _ (List.mem_of_getElem? (i := 45) rfl))) (by decide) (backOf (W := 0) (rm9 l Z a0 hw [] a1 h0 n0 Z0) hZ (hw _ (List.mem_of_getElem? (i := 45) rfl)) (hw _ (List.mem_of_getElem? (i := 44) rfl)) (by decide) (by decide)) (g := (mkF m 1 #[.val (.ref a1), .val (.ref a2), .val (.ref a3), .val (.int p4), .val (.ref a5), .val (.int p6)] [(.ref a1)])) rfl (by rw [hml]; rfl) (Steps.refl _) (a := a1) (argsL := []) (rest := []) (lenOf pd_9 rfl) rfl (by show 2 * 0 + _ ≤ _; exact Nat.le_of_eq rfl) (hb hby d8_1) (fun _ _ => ⟨rfl, e0, (by decide : 0 + 0 ≤ _), (by decide : 0 + 0 ≤ _)⟩)
  dsimp only [Pt.U, Pt.locs, Pt.cells, Pt.slots] at X13 l13 y13 z13 st13 hQ13
  subst l13 y13 z13
  obtain ⟨rfl, Nq13, eq13⟩ := hQ13
  have N13 := Fr.app N0 Nq13
  refine Goes.tr st13 ?_
  show Goes _ _ _ _ (T13.setTop (mkF m 4 #[.val (.ref a1), .val (.ref a2), .val (.ref a3), .val (.int p4), .val (.ref a5), .val (.int p6)] []))
  refine Goes.st (fun _ k => XS.aloadN X13.here hx rfl (hb hby d8_4) rfl rfl k) ?_
  show Goes _ _ _ _ (T13.setTop (mkF m 5 #[.val (.ref a1), .val (.ref a2), .val (.ref a3), .val (.int p4), .val (.ref a5), .val (.int p6)] [(.ref a1)]))
  refine Goes.st (fun _ k => XS.aloadN X13.here hx rfl (hb hby d8_5) rfl rfl k) ?_
  show Goes _ _ _ _ (T13.setTop (mkF m 6 #[.val (.ref a1), .val (.ref a2), .val (.ref a3), .val (.int p4), .val (.ref a5), .val (.int p6)] [(.ref a2), (.ref a1)]))
  obtain ⟨T14, h14, X14, e14, W14, st14⟩ := putF X13 hx hZ hown (host := "") (Or.inl (hw _ (List.mem_of_getElem? (i := 47) rfl))) Via.refl eq13 F_relation E (Or.inr ⟨(hw _ (List.mem_of_getElem? (i := 48) rfl)), rfl, hnm⟩) (hw _ (List.mem_of_getElem? (i := 36) rfl)) (ty := (.object "java/lang/String")) (by decide) rfl rfl (g := (mkF m 6 #[.val (.ref a1), .val (.ref a2), .val (.ref a3), .val (.int p4), .val (.ref a5), .val (.int p6)] [(.ref a2), (.ref a1)])) rfl rfl (hb hby d8_6)
  refine Goes.st st14 ?_
  show Goes _ _ _ _ (T14.setTop (mkF m 9 #[.val (.ref a1), .val (.ref a2), .val (.ref a3), .val (.int p4), .val (.ref a5), .val (.int p6)] []))
  have N14 := Fr.snoc X14 N13 ga
  have F14_relation := F_relation.same W14
  have F14_subject := F_subject.other W14 (Or.inr (slot_ne (Or.inr (hw _ (List.mem_of_getElem? (i := 50) rfl))) (Or.inr (hw _ (List.mem_of_getElem? (i := 48) rfl))) (by decide) (t := .object "java/lang/String") (t' := .object "java/lang/String") (by decide) (by decide) : Jvm.RoadKit.slotOf Z "com/example/rulefold/rulefold/CompiledBody$Pattern" "subject" "Ljava/lang/String;" ≠ Jvm.RoadKit.slotOf Z "com/example/rulefold/rulefold/CompiledBody$Pattern" "relation" "Ljava/lang/String;"))
  have F14_subjectVariable := F_subjectVariable.other W14 (Or.inr (slot_ne (Or.inr (hw _ (List.mem_of_getElem? (i := 52) rfl))) (Or.inr (hw _ (List.mem_of_getElem? (i := 48) rfl))) (by decide) (t := .int) (t' := .object "java/lang/String") (by decide) (by decide) : Jvm.RoadKit.slotOf Z "com/example/rulefold/rulefold/CompiledBody$Pattern" "subjectVariable" "I" ≠ Jvm.RoadKit.slotOf Z "com/example/rulefold/rulefold/CompiledBody$Pattern" "relation" "Ljava/lang/String;"))
  have F14_object := F_object.other W14 (Or.inr (slot_ne (Or.inr (hw _ (List.mem_of_getElem? (i := 54) rfl))) (Or.inr (hw _ (List.mem_of_getElem? (i := 48) rfl))) (by decide) (t := .object "java/lang/String") (t' := .object "java/lang/String") (by decide) (by decide) : Jvm.RoadKit.slotOf Z "com/example/rulefold/rulefold/CompiledBody$Pattern" "object" "Ljava/lang/String;" ≠ Jvm.RoadKit.slotOf Z "com/example/rulefold/rulefold/CompiledBody$Pattern" "relation" "Ljava/lang/String;"))
  have F14_objectVariable := F_objectVariable.other W14 (Or.inr (slot_ne (Or.inr (hw _ (List.mem_of_getElem? (i := 56) rfl))) (Or.inr (hw _ (List.mem_of_getElem? (i := 48) rfl))) (by decide) (t := .int) (t' := .object "java/lang/String") (by decide) (by decide) : Jvm.RoadKit.slotOf Z "com/example/rulefold/rulefold/CompiledBody$Pattern" "objectVariable" "I" ≠ Jvm.RoadKit.slotOf Z "com/example/rulefold/rulefold/CompiledBody$Pattern" "relation" "Ljava/lang/String;"))
  have E14x := E.wr W14
  have K14 : Keep h0 h14 [a1] := (Keep.refl h0 [a1]).wr W14 (Or.inl (List.mem_cons_self ..))
  refine Goes.st (fun _ k => XS.aloadN X14.here hx rfl (hb hby d8_9) rfl rfl k) ?_
  show Goes _ _ _ _ (T14.setTop (mkF m 10 #[.val (.ref a1), .val (.ref a2), .val (.ref a3), .val (.int p4), .val (.ref a5), .val (.int p6)] [(.ref a1)]))
  refine Goes.st (fun _ k => XS.aloadN X14.here hx rfl (hb hby d8_10) rfl rfl k) ?_
  show Goes _ _ _ _ (T14.setTop (mkF m 11 #[.val (.ref a1), .val (.ref a2), .val (.ref a3), .val (.int p4), .val (.ref a5), .val (.int p6)] [(.ref a3), (.ref a1)]))
  obtain ⟨T15, h15, X15, e15, W15, st15⟩ := putF X14 hx hZ hown (host := "") (Or.inl (hw _ (List.mem_of_getElem? (i := 49) rfl))) Via.refl e14 F14_subject E14x (Or.inr ⟨(hw _ (List.mem_of_getElem? (i := 50) rfl)), rfl, hnm⟩) (hw _ (List.mem_of_getElem? (i := 36) rfl)) (ty := (.object "java/lang/String")) (by decide) rfl rfl (g := (mkF m 11 #[.val (.ref a1), .val (.ref a2), .val (.ref a3), .val (.int p4), .val (.ref a5), .val (.int p6)] [(.ref a3), (.ref a1)])) rfl rfl (hb hby d8_11)
  refine Goes.st st15 ?_
  show Goes _ _ _ _ (T15.setTop (mkF m 14 #[.val (.ref a1), .val (.ref a2), .val (.ref a3), .val (.int p4), .val (.ref a5), .val (.int p6)] []))
  have N15 := Fr.snoc X15 N14 ga
  have F15_relation := F14_relation.other W15 (Or.inr (slot_ne (Or.inr (hw _ (List.mem_of_getElem? (i := 48) rfl))) (Or.inr (hw _ (List.mem_of_getElem? (i := 50) rfl))) (by decide) (t := .object "java/lang/String") (t' := .object "java/lang/String") (by decide) (by decide) : Jvm.RoadKit.slotOf Z "com/example/rulefold/rulefold/CompiledBody$Pattern" "relation" "Ljava/lang/String;" ≠ Jvm.RoadKit.slotOf Z "com/example/rulefold/rulefold/CompiledBody$Pattern" "subject" "Ljava/lang/String;"))
  have F15_subject := F14_subject.same W15
  have F15_subjectVariable := F14_subjectVariable.other W15 (Or.inr (slot_ne (Or.inr (hw _ (List.mem_of_getElem? (i := 52) rfl))) (Or.inr (hw _ (List.mem_of_getElem? (i := 50) rfl))) (by decide) (t := .int) (t' := .object "java/lang/String") (by decide) (by decide) : Jvm.RoadKit.slotOf Z "com/example/rulefold/rulefold/CompiledBody$Pattern" "subjectVariable" "I" ≠ Jvm.RoadKit.slotOf Z "com/example/rulefold/rulefold/CompiledBody$Pattern" "subject" "Ljava/lang/String;"))
  have F15_object := F14_object.other W15 (Or.inr (slot_ne (Or.inr (hw _ (List.mem_of_getElem? (i := 54) rfl))) (Or.inr (hw _ (List.mem_of_getElem? (i := 50) rfl))) (by decide) (t := .object "java/lang/String") (t' := .object "java/lang/String") (by decide) (by decide) : Jvm.RoadKit.slotOf Z "com/example/rulefold/rulefold/CompiledBody$Pattern" "object" "Ljava/lang/String;" ≠ Jvm.RoadKit.slotOf Z "com/example/rulefold/rulefold/CompiledBody$Pattern" "subject" "Ljava/lang/String;"))
  have F15_objectVariable := F14_objectVariable.other W15 (Or.inr (slot_ne (Or.inr (hw _ (List.mem_of_getElem? (i := 56) rfl))) (Or.inr (hw _ (List.mem_of_getElem? (i := 50) rfl))) (by decide) (t := .int) (t' := .object "java/lang/String") (by decide) (by decide) : Jvm.RoadKit.slotOf Z "com/example/rulefold/rulefold/CompiledBody$Pattern" "objectVariable" "I" ≠ Jvm.RoadKit.slotOf Z "com/example/rulefold/rulefold/CompiledBody$Pattern" "subject" "Ljava/lang/String;"))
  have E15x := E14x.wr W15
  have K15 : Keep h0 h15 [a1] := K14.wr W15 (Or.inl (List.mem_cons_self ..))
  refine Goes.st (fun _ k => XS.aloadN X15.here hx rfl (hb hby d8_14) rfl rfl k) ?_
  show Goes _ _ _ _ (T15.setTop (mkF m 15 #[.val (.ref a1), .val (.ref a2), .val (.ref a3), .val (.int p4), .val (.ref a5), .val (.int p6)] [(.ref a1)]))
  refine Goes.st (fun _ k => XS.iloadN X15.here hx rfl (hb hby d8_15) rfl k) ?_
  show Goes _ _ _ _ (T15.setTop (mkF m 16 #[.val (.ref a1), .val (.ref a2), .val (.ref a3), .val (.int p4), .val (.ref a5), .val (.int p6)] [(.int p4), (.ref a1)]))
  obtain ⟨T16, h16, X16, e16, W16, st16⟩ := putF X15 hx hZ hown (host := "") (Or.inl (hw _ (List.mem_of_getElem? (i := 51) rfl))) Via.refl e15 F15_subjectVariable E15x (Or.inr ⟨(hw _ (List.mem_of_getElem? (i := 52) rfl)), rfl, hnm⟩) (hw _ (List.mem_of_getElem? (i := 36) rfl)) (ty := .int) (by decide) rfl rfl (g := (mkF m 16 #[.val (.ref a1), .val (.ref a2), .val (.ref a3), .val (.int p4), .val (.ref a5), .val (.int p6)] [(.int p4), (.ref a1)])) rfl rfl (hb hby d8_16)
  refine Goes.st st16 ?_
  show Goes _ _ _ _ (T16.setTop (mkF m 19 #[.val (.ref a1), .val (.ref a2), .val (.ref a3), .val (.int p4), .val (.ref a5), .val (.int p6)] []))
  have N16 := Fr.snoc X16 N15 ga
  have F16_relation := F15_relation.other W16 (Or.inr (slot_ne (Or.inr (hw _ (List.mem_of_getElem? (i := 48) rfl))) (Or.inr (hw _ (List.mem_of_getElem? (i := 52) rfl))) (by decide) (t := .object "java/lang/String") (t' := .int) (by decide) (by decide) : Jvm.RoadKit.slotOf Z "com/example/rulefold/rulefold/CompiledBody$Pattern" "relation" "Ljava/lang/String;" ≠ Jvm.RoadKit.slotOf Z "com/example/rulefold/rulefold/CompiledBody$Pattern" "subjectVariable" "I"))
  have F16_subject := F15_subject.other W16 (Or.inr (slot_ne (Or.inr (hw _ (List.mem_of_getElem? (i := 50) rfl))) (Or.inr (hw _ (List.mem_of_getElem? (i := 52) rfl))) (by decide) (t := .object "java/lang/String") (t' := .int) (by decide) (by decide) : Jvm.RoadKit.slotOf Z "com/example/rulefold/rulefold/CompiledBody$Pattern" "subject" "Ljava/lang/String;" ≠ Jvm.RoadKit.slotOf Z "com/example/rulefold/rulefold/CompiledBody$Pattern" "subjectVariable" "I"))
  have F16_subjectVariable := F15_subjectVariable.same W16
  have F16_object := F15_object.other W16 (Or.inr (slot_ne (Or.inr (hw _ (List.mem_of_getElem? (i := 54) rfl))) (Or.inr (hw _ (List.mem_of_getElem? (i := 52) rfl))) (by decide) (t := .object "java/lang/String") (t' := .int) (by decide) (by decide) : Jvm.RoadKit.slotOf Z "com/example/rulefold/rulefold/CompiledBody$Pattern" "object" "Ljava/lang/String;" ≠ Jvm.RoadKit.slotOf Z "com/example/rulefold/rulefold/CompiledBody$Pattern" "subjectVariable" "I"))
  have F16_objectVariable := F15_objectVariable.other W16 (Or.inr (slot_ne (Or.inr (hw _ (List.mem_of_getElem? (i := 56) rfl))) (Or.inr (hw _ (List.mem_of_getElem? (i := 52) rfl))) (by decide) (t := .int) (t' := .int) (by decide) (by decide) : Jvm.RoadKit.slotOf Z "com/example/rulefold/rulefold/CompiledBody$Pattern" "objectVariable" "I" ≠ Jvm.RoadKit.slotOf Z "com/example/rulefold/rulefold/CompiledBody$Pattern" "subjectVariable" "I"))
  have E16x := E15x.wr W16
  have K16 : Keep h0 h16 [a1] := K15.wr W16 (Or.inl (List.mem_cons_self ..))
  refine Goes.st (fun _ k => XS.aloadN X16.here hx rfl (hb hby d8_19) rfl rfl k) ?_
  show Goes _ _ _ _ (T16.setTop (mkF m 20 #[.val (.ref a1), .val (.ref a2), .val (.ref a3), .val (.int p4), .val (.ref a5), .val (.int p6)] [(.ref a1)]))
  refine Goes.st (fun _ k => XS.aload X16.here hx rfl (hb hby d8_20) rfl rfl k) ?_
  show Goes _ _ _ _ (T16.setTop (mkF m 22 #[.val (.ref a1), .val (.ref a2), .val (.ref a3), .val (.int p4), .val (.ref a5), .val (.int p6)] [(.ref a5), (.ref a1)]))
  obtain ⟨T17, h17, X17, e17, W17, st17⟩ := putF X16 hx hZ hown (host := "") (Or.inl (hw _ (List.mem_of_getElem? (i := 53) rfl))) Via.refl e16 F16_object E16x (Or.inr ⟨(hw _ (List.mem_of_getElem? (i := 54) rfl)), rfl, hnm⟩) (hw _ (List.mem_of_getElem? (i := 36) rfl)) (ty := (.object "java/lang/String")) (by decide) rfl rfl (g := (mkF m 22 #[.val (.ref a1), .val (.ref a2), .val (.ref a3), .val (.int p4), .val (.ref a5), .val (.int p6)] [(.ref a5), (.ref a1)])) rfl rfl (hb hby d8_22)
  refine Goes.st st17 ?_
  show Goes _ _ _ _ (T17.setTop (mkF m 25 #[.val (.ref a1), .val (.ref a2), .val (.ref a3), .val (.int p4), .val (.ref a5), .val (.int p6)] []))
  have N17 := Fr.snoc X17 N16 ga
  have F17_relation := F16_relation.other W17 (Or.inr (slot_ne (Or.inr (hw _ (List.mem_of_getElem? (i := 48) rfl))) (Or.inr (hw _ (List.mem_of_getElem? (i := 54) rfl))) (by decide) (t := .object "java/lang/String") (t' := .object "java/lang/String") (by decide) (by decide) : Jvm.RoadKit.slotOf Z "com/example/rulefold/rulefold/CompiledBody$Pattern" "relation" "Ljava/lang/String;" ≠ Jvm.RoadKit.slotOf Z "com/example/rulefold/rulefold/CompiledBody$Pattern" "object" "Ljava/lang/String;"))
  have F17_subject := F16_subject.other W17 (Or.inr (slot_ne (Or.inr (hw _ (List.mem_of_getElem? (i := 50) rfl))) (Or.inr (hw _ (List.mem_of_getElem? (i := 54) rfl))) (by decide) (t := .object "java/lang/String") (t' := .object "java/lang/String") (by decide) (by decide) : Jvm.RoadKit.slotOf Z "com/example/rulefold/rulefold/CompiledBody$Pattern" "subject" "Ljava/lang/String;" ≠ Jvm.RoadKit.slotOf Z "com/example/rulefold/rulefold/CompiledBody$Pattern" "object" "Ljava/lang/String;"))
  have F17_subjectVariable := F16_subjectVariable.other W17 (Or.inr (slot_ne (Or.inr (hw _ (List.mem_of_getElem? (i := 52) rfl))) (Or.inr (hw _ (List.mem_of_getElem? (i := 54) rfl))) (by decide) (t := .int) (t' := .object "java/lang/String") (by decide) (by decide) : Jvm.RoadKit.slotOf Z "com/example/rulefold/rulefold/CompiledBody$Pattern" "subjectVariable" "I" ≠ Jvm.RoadKit.slotOf Z "com/example/rulefold/rulefold/CompiledBody$Pattern" "object" "Ljava/lang/String;"))
  have F17_object := F16_object.same W17
  have F17_objectVariable := F16_objectVariable.other W17 (Or.inr (slot_ne (Or.inr (hw _ (List.mem_of_getElem? (i := 56) rfl))) (Or.inr (hw _ (List.mem_of_getElem? (i := 54) rfl))) (by decide) (t := .int) (t' := .object "java/lang/String") (by decide) (by decide) : Jvm.RoadKit.slotOf Z "com/example/rulefold/rulefold/CompiledBody$Pattern" "objectVariable" "I" ≠ Jvm.RoadKit.slotOf Z "com/example/rulefold/rulefold/CompiledBody$Pattern" "object" "Ljava/lang/String;"))
  have E17x := E16x.wr W17
  have K17 : Keep h0 h17 [a1] := K16.wr W17 (Or.inl (List.mem_cons_self ..))
  refine Goes.st (fun _ k => XS.aloadN X17.here hx rfl (hb hby d8_25) rfl rfl k) ?_
  show Goes _ _ _ _ (T17.setTop (mkF m 26 #[.val (.ref a1), .val (.ref a2), .val (.ref a3), .val (.int p4), .val (.ref a5), .val (.int p6)] [(.ref a1)]))
  refine Goes.st (fun _ k => XS.iload X17.here hx rfl (hb hby d8_26) rfl k) ?_
  show Goes _ _ _ _ (T17.setTop (mkF m 28 #[.val (.ref a1), .val (.ref a2), .val (.ref a3), .val (.int p4), .val (.ref a5), .val (.int p6)] [(.int p6), (.ref a1)]))
  obtain ⟨T18, h18, X18, e18, W18, st18⟩ := putF X17 hx hZ hown (host := "") (Or.inl (hw _ (List.mem_of_getElem? (i := 55) rfl))) Via.refl e17 F17_objectVariable E17x (Or.inr ⟨(hw _ (List.mem_of_getElem? (i := 56) rfl)), rfl, hnm⟩) (hw _ (List.mem_of_getElem? (i := 36) rfl)) (ty := .int) (by decide) rfl rfl (g := (mkF m 28 #[.val (.ref a1), .val (.ref a2), .val (.ref a3), .val (.int p4), .val (.ref a5), .val (.int p6)] [(.int p6), (.ref a1)])) rfl rfl (hb hby d8_28)
  refine Goes.st st18 ?_
  show Goes _ _ _ _ (T18.setTop (mkF m 31 #[.val (.ref a1), .val (.ref a2), .val (.ref a3), .val (.int p4), .val (.ref a5), .val (.int p6)] []))
  have N18 := Fr.snoc X18 N17 ga
  have F18_relation := F17_relation.other W18 (Or.inr (slot_ne (Or.inr (hw _ (List.mem_of_getElem? (i := 48) rfl))) (Or.inr (hw _ (List.mem_of_getElem? (i := 56) rfl))) (by decide) (t := .object "java/lang/String") (t' := .int) (by decide) (by decide) : Jvm.RoadKit.slotOf Z "com/example/rulefold/rulefold/CompiledBody$Pattern" "relation" "Ljava/lang/String;" ≠ Jvm.RoadKit.slotOf Z "com/example/rulefold/rulefold/CompiledBody$Pattern" "objectVariable" "I"))
  have F18_subject := F17_subject.other W18 (Or.inr (slot_ne (Or.inr (hw _ (List.mem_of_getElem? (i := 50) rfl))) (Or.inr (hw _ (List.mem_of_getElem? (i := 56) rfl))) (by decide) (t := .object "java/lang/String") (t' := .int) (by decide) (by decide) : Jvm.RoadKit.slotOf Z "com/example/rulefold/rulefold/CompiledBody$Pattern" "subject" "Ljava/lang/String;" ≠ Jvm.RoadKit.slotOf Z "com/example/rulefold/rulefold/CompiledBody$Pattern" "objectVariable" "I"))
  have F18_subjectVariable := F17_subjectVariable.other W18 (Or.inr (slot_ne (Or.inr (hw _ (List.mem_of_getElem? (i := 52) rfl))) (Or.inr (hw _ (List.mem_of_getElem? (i := 56) rfl))) (by decide) (t := .int) (t' := .int) (by decide) (by decide) : Jvm.RoadKit.slotOf Z "com/example/rulefold/rulefold/CompiledBody$Pattern" "subjectVariable" "I" ≠ Jvm.RoadKit.slotOf Z "com/example/rulefold/rulefold/CompiledBody$Pattern" "objectVariable" "I"))
  have F18_object := F17_object.other W18 (Or.inr (slot_ne (Or.inr (hw _ (List.mem_of_getElem? (i := 54) rfl))) (Or.inr (hw _ (List.mem_of_getElem? (i := 56) rfl))) (by decide) (t := .object "java/lang/String") (t' := .int) (by decide) (by decide) : Jvm.RoadKit.slotOf Z "com/example/rulefold/rulefold/CompiledBody$Pattern" "object" "Ljava/lang/String;" ≠ Jvm.RoadKit.slotOf Z "com/example/rulefold/rulefold/CompiledBody$Pattern" "objectVariable" "I"))
  have F18_objectVariable := F17_objectVariable.same W18
  have E18x := E17x.wr W18
  have K18 : Keep h0 h18 [a1] := K17.wr W18 (Or.inl (List.mem_cons_self ..))
  exact leafN X18 hx Bd.notSynchronized Bd.returns (hb hby d8_31) (by decide) (by decide) ⟨rfl, N18, by rw [e18]; exact K18, by rw [e18]; exact ⟨E18x, F18_relation, F18_subject, F18_subjectVariable, F18_object, F18_objectVariable⟩⟩
theorem ef_11 (m : MethodId) (a1 : Addr) (a2 : Addr) : entryFrame m #[(.ref a1), (.ref a2), .null, .null] 4 = mkF m 0 #[.val (.ref a1), .val (.ref a2), .val .null, .val .null] [] := by first | (simp [entryFrame, mkF, argsToLocals, Value.category, maxLocals]; done) | rfl
def Q11 (Z : State) (a1 : Addr) (a2 : Addr)  (h0 : Heap) (n0 : Nat) (v : Option Value) (h : Heap) (L : List Loc) : Prop := v = none ∧ Fr n0 L ∧ Keep h0 h [a1] ∧ own_T Z h a1 a2
set_option maxRecDepth 65536 in
set_option maxHeartbeats 40000000 in
theorem rm11 (l : Launch) (Z : State) (a0 : Array Value) (hw : ∀ d ∈ tables_1, d.before a0 Z = true) (ws : List Jvm.Cond) (a1 : Addr) (a2 : Addr)  (h0 : Heap) (n0 : Nat) (Z0 : n0 ≤ h0.size) (E : Exa Z h0 a1 "com/example/rulefold/rulefold/Triple") (F_subject : Fld Z h0 a1 "com/example/rulefold/rulefold/Triple" "subject" "Ljava/lang/String;" .null) (F_relation : Fld Z h0 a1 "com/example/rulefold/rulefold/Triple" "relation" "Ljava/lang/String;" .null) (F_object : Fld Z h0 a1 "com/example/rulefold/rulefold/Triple" "object" "Ljava/lang/String;" .null) (ga : n0 ≤ a1) :
    MetFree l (⟨"com/example/rulefold/rulefold/Triple", "<init>", "(Ljava/lang/String;Ljava/lang/String;Ljava/lang/String;)V"⟩ : MethodName) (head1 (Jvm.Cond.code (⟨"com/example/rulefold/rulefold/Triple", "<init>", "(Ljava/lang/String;Ljava/lang/String;Ljava/lang/String;)V"⟩ : MethodName) prog_67_method_1_code 4 none :: ws) ({ frames := 2, cells := 0, slots := 0, locals := 24 } : Room)) (fun a U => a = #[(.ref a1), (.ref a2), .null, .null] ∧ Z.Warmed39 U.vm ∧ U.heap = h0) (fun _ _ _ _ _ => True) (fun _ U o U' => ∃ v L, o = .returned v ∧ Q11 Z a1 a2  h0 n0 v U'.heap L ∧ FrameEnd U o U' L ({ frames := 2, cells := 0, slots := 0, locals := 24 } : Room).cells ({ frames := 2, cells := 0, slots := 0, locals := 24 } : Room).slots) := by
  refine MetFree.of_bodySF pn_11 hisR ?_
  intro p e s m args below meth c s₁ Bd hml0 hP hK
  obtain ⟨rfl, hZ, hh⟩ := hP
  have hx := Bd.exec
  have hby := Bd.bytes
  have hml : c.maxLocals = 4 := hml0
  have hown : s.vm.findClass "com/example/rulefold/rulefold/Triple" = some m.cls := findClass_of_methodNamed Bd.named
  have hnm := (name_of_methodNamed Bd.named Bd.method).1
  have X0 : Stand p l e ({ frames := 2, cells := 0, slots := 0, locals := 24 } : Room) s m #[(.ref a1), (.ref a2), .null, .null] below meth c s₁ [] 0 0 := Stand.of_body Bd
  have e0 : s₁.heap = h0 := by rw [← hh, Bd.state]; rfl
  have N0 := Fr.nil n0
  show Goes p.tables e below (Ends below s (Q11 Z a1 a2  h0 n0) ({ frames := 2, cells := 0, slots := 0, locals := 24 } : Room).cells ({ frames := 2, cells := 0, slots := 0, locals := 24 } : Room).slots) (s₁.setTop (entryFrame m #[(.ref a1), (.ref a2), .null, .null] 4))
  refine Goes.cast (ef_11 m a1 a2) ?_
  refine Goes.st (fun _ k => XS.aloadN X0.here hx rfl (hb hby d11_0) rfl rfl k) ?_
  show Goes _ _ _ _ (s₁.setTop (mkF m 1 #[.val (.ref a1), .val (.ref a2), .val .null, .val .null] [(.ref a1)]))
  obtain ⟨_, _, ⟨T19, L19, k19, n19⟩, -, X19, ⟨Lc19, hQ19, l19, y19, z19⟩, st19⟩ := X0.specialBack hx (y := (⟨"java/lang/Record", "<init>", "()V"⟩ : MethodName)) rfl hown (mvT hZ (hw _ (List.mem_of_getElem? (i := 68) rfl))) (mvT hZ (hw _ (List.mem_of_getElem? (i := 42) rfl))) (mvT hZ (hw _ (List.mem_of_getElem? (i := 45) rfl))) (by decide) (backOf (W := 0) (rm9 l Z a0 hw [] a1 h0 n0 Z0) hZ (hw _ (List.mem_of_getElem? (i := 45) rfl)) (hw _ (List.mem_of_getElem? (i := 44) rfl)) (by decide) (by decide)) (g := (mkF m 1 #[.val (.ref a1), .val (.ref a2), .val .null, .val .null] [(.ref a1)])) rfl (by rw [hml]; rfl) (Steps.refl _) (a := a1) (argsL := []) (rest := []) (lenOf pd_9 rfl) rfl (by show 2 * 0 + _ ≤ _; exact Nat.le_of_eq rfl) (hb hby d11_1) (fun _ _ => ⟨rfl, e0, (by decide : 0 + 0 ≤ _), (by decide : 0 + 0 ≤ _)⟩)
  dsimp only [Pt.U, Pt.locs, Pt.cells, Pt.slots] at X19 l19 y19 z19 st19 hQ19
  subst l19 y19 z19
  obtain ⟨rfl, Nq19, eq19⟩ := hQ19
  have N19 := Fr.app N0 Nq19
  refine Goes.tr st19 ?_
  show Goes _ _ _ _ (T19.setTop (mkF m 4 #[.val (.ref a1), .val (.ref a2), .val .null, .val .null] []))
  refine Goes.st (fun _ k => XS.aloadN X19.here hx rfl (hb hby d11_4) rfl rfl k) ?_
  show Goes _ _ _ _ (T19.setTop (mkF m 5 #[.val (.ref a1), .val (.ref a2), .val .null, .val .null] [(.ref a1)]))
  refine Goes.st (fun _ k => XS.aloadN X19.here hx rfl (hb hby d11_5) rfl rfl k) ?_
  show Goes _ _ _ _ (T19.setTop (mkF m 6 #[.val (.ref a1), .val (.ref a2), .val .null, .val .null] [(.ref a2), (.ref a1)]))
  obtain ⟨T20, h20, X20, e20, W20, st20⟩ := putF X19 hx hZ hown (host := "") (Or.inl (hw _ (List.mem_of_getElem? (i := 69) rfl))) Via.refl eq19 F_subject E (Or.inr ⟨(hw _ (List.mem_of_getElem? (i := 70) rfl)), rfl, hnm⟩) (hw _ (List.mem_of_getElem? (i := 63) rfl)) (ty := (.object "java/lang/String")) (by decide) rfl rfl (g := (mkF m 6 #[.val (.ref a1), .val (.ref a2), .val .null, .val .null] [(.ref a2), (.ref a1)])) rfl rfl (hb hby d11_6)
  refine Goes.st st20 ?_
  show Goes _ _ _ _ (T20.setTop (mkF m 9 #[.val (.ref a1), .val (.ref a2), .val .null, .val .null] []))
  have N20 := Fr.snoc X20 N19 ga
  have F20_subject := F_subject.same W20
  have F20_relation := F_relation.other W20 (Or.inr (slot_ne (Or.inr (hw _ (List.mem_of_getElem? (i := 72) rfl))) (Or.inr (hw _ (List.mem_of_getElem? (i := 70) rfl))) (by decide) (t := .object "java/lang/String") (t' := .object "java/lang/String") (by decide) (by decide) : Jvm.RoadKit.slotOf Z "com/example/rulefold/rulefold/Triple" "relation" "Ljava/lang/String;" ≠ Jvm.RoadKit.slotOf Z "com/example/rulefold/rulefold/Triple" "subject" "Ljava/lang/String;"))
  have F20_object := F_object.other W20 (Or.inr (slot_ne (Or.inr (hw _ (List.mem_of_getElem? (i := 74) rfl))) (Or.inr (hw _ (List.mem_of_getElem? (i := 70) rfl))) (by decide) (t := .object "java/lang/String") (t' := .object "java/lang/String") (by decide) (by decide) : Jvm.RoadKit.slotOf Z "com/example/rulefold/rulefold/Triple" "object" "Ljava/lang/String;" ≠ Jvm.RoadKit.slotOf Z "com/example/rulefold/rulefold/Triple" "subject" "Ljava/lang/String;"))
  have E20x := E.wr W20
  have K20 : Keep h0 h20 [a1] := (Keep.refl h0 [a1]).wr W20 (Or.inl (List.mem_cons_self ..))
  refine Goes.st (fun _ k => XS.aloadN X20.here hx rfl (hb hby d11_9) rfl rfl k) ?_
  show Goes _ _ _ _ (T20.setTop (mkF m 10 #[.val (.ref a1), .val (.ref a2), .val .null, .val .null] [(.ref a1)]))
  refine Goes.st (fun _ k => XS.aloadN X20.here hx rfl (hb hby d11_10) rfl rfl k) ?_
  show Goes _ _ _ _ (T20.setTop (mkF m 11 #[.val (.ref a1), .val (.ref a2), .val .null, .val .null] [.null, (.ref a1)]))
  obtain ⟨T21, h21, X21, e21, W21, st21⟩ := putF X20 hx hZ hown (host := "") (Or.inl (hw _ (List.mem_of_getElem? (i := 71) rfl))) Via.refl e20 F20_relation E20x (Or.inr ⟨(hw _ (List.mem_of_getElem? (i := 72) rfl)), rfl, hnm⟩) (hw _ (List.mem_of_getElem? (i := 63) rfl)) (ty := (.object "java/lang/String")) (by decide) rfl rfl (g := (mkF m 11 #[.val (.ref a1), .val (.ref a2), .val .null, .val .null] [.null, (.ref a1)])) rfl rfl (hb hby d11_11)
  refine Goes.st st21 ?_
  show Goes _ _ _ _ (T21.setTop (mkF m 14 #[.val (.ref a1), .val (.ref a2), .val .null, .val .null] []))
  have N21 := Fr.snoc X21 N20 ga
  have F21_subject := F20_subject.other W21 (Or.inr (slot_ne (Or.inr (hw _ (List.mem_of_getElem? (i := 70) rfl))) (Or.inr (hw _ (List.mem_of_getElem? (i := 72) rfl))) (by decide) (t := .object "java/lang/String") (t' := .object "java/lang/String") (by decide) (by decide) : Jvm.RoadKit.slotOf Z "com/example/rulefold/rulefold/Triple" "subject" "Ljava/lang/String;" ≠ Jvm.RoadKit.slotOf Z "com/example/rulefold/rulefold/Triple" "relation" "Ljava/lang/String;"))
  have F21_relation := F20_relation.same W21
  have F21_object := F20_object.other W21 (Or.inr (slot_ne (Or.inr (hw _ (List.mem_of_getElem? (i := 74) rfl))) (Or.inr (hw _ (List.mem_of_getElem? (i := 72) rfl))) (by decide) (t := .object "java/lang/String") (t' := .object "java/lang/String") (by decide) (by decide) : Jvm.RoadKit.slotOf Z "com/example/rulefold/rulefold/Triple" "object" "Ljava/lang/String;" ≠ Jvm.RoadKit.slotOf Z "com/example/rulefold/rulefold/Triple" "relation" "Ljava/lang/String;"))
  have E21x := E20x.wr W21
  have K21 : Keep h0 h21 [a1] := K20.wr W21 (Or.inl (List.mem_cons_self ..))
  refine Goes.st (fun _ k => XS.aloadN X21.here hx rfl (hb hby d11_14) rfl rfl k) ?_
  show Goes _ _ _ _ (T21.setTop (mkF m 15 #[.val (.ref a1), .val (.ref a2), .val .null, .val .null] [(.ref a1)]))
  refine Goes.st (fun _ k => XS.aloadN X21.here hx rfl (hb hby d11_15) rfl rfl k) ?_
  show Goes _ _ _ _ (T21.setTop (mkF m 16 #[.val (.ref a1), .val (.ref a2), .val .null, .val .null] [.null, (.ref a1)]))
  obtain ⟨T22, h22, X22, e22, W22, st22⟩ := putF X21 hx hZ hown (host := "") (Or.inl (hw _ (List.mem_of_getElem? (i := 73) rfl))) Via.refl e21 F21_object E21x (Or.inr ⟨(hw _ (List.mem_of_getElem? (i := 74) rfl)), rfl, hnm⟩) (hw _ (List.mem_of_getElem? (i := 63) rfl)) (ty := (.object "java/lang/String")) (by decide) rfl rfl (g := (mkF m 16 #[.val (.ref a1), .val (.ref a2), .val .null, .val .null] [.null, (.ref a1)])) rfl rfl (hb hby d11_16)
  refine Goes.st st22 ?_
  show Goes _ _ _ _ (T22.setTop (mkF m 19 #[.val (.ref a1), .val (.ref a2), .val .null, .val .null] []))
  have N22 := Fr.snoc X22 N21 ga
  have F22_subject := F21_subject.other W22 (Or.inr (slot_ne (Or.inr (hw _ (List.mem_of_getElem? (i := 70) rfl))) (Or.inr (hw _ (List.mem_of_getElem? (i := 74) rfl))) (by decide) (t := .object "java/lang/String") (t' := .object "java/lang/String") (by decide) (by decide) : Jvm.RoadKit.slotOf Z "com/example/rulefold/rulefold/Triple" "subject" "Ljava/lang/String;" ≠ Jvm.RoadKit.slotOf Z "com/example/rulefold/rulefold/Triple" "object" "Ljava/lang/String;"))
  have F22_relation := F21_relation.other W22 (Or.inr (slot_ne (Or.inr (hw _ (List.mem_of_getElem? (i := 72) rfl))) (Or.inr (hw _ (List.mem_of_getElem? (i := 74) rfl))) (by decide) (t := .object "java/lang/String") (t' := .object "java/lang/String") (by decide) (by decide) : Jvm.RoadKit.slotOf Z "com/example/rulefold/rulefold/Triple" "relation" "Ljava/lang/String;" ≠ Jvm.RoadKit.slotOf Z "com/example/rulefold/rulefold/Triple" "object" "Ljava/lang/String;"))
  have F22_object := F21_object.same W22
  have E22x := E21x.wr W22
  have K22 : Keep h0 h22 [a1] := K21.wr W22 (Or.inl (List.mem_cons_self ..))
  exact leafN X22 hx Bd.notSynchronized Bd.returns (hb hby d11_19) (by decide) (by decide) ⟨rfl, N22, by rw [e22]; exact K22, by rw [e22]; exact ⟨E22x, F22_subject, F22_relation, F22_object⟩⟩
theorem ef_13 (m : MethodId) (a1 : Addr) : entryFrame m #[(.ref a1)] 1 = mkF m 0 #[.val (.ref a1)] [] := by first | (simp [entryFrame, mkF, argsToLocals, Value.category, maxLocals]; done) | rfl
def Q13 (Z : State) (a1 : Addr)  (h0 : Heap) (n0 : Nat) (v : Option Value) (h : Heap) (L : List Loc) : Prop := v = some .null ∧ Fr n0 L ∧ h = h0
set_option maxRecDepth 65536 in
set_option maxHeartbeats 40000000 in
theorem rm13 (l : Launch) (Z : State) (a0 : Array Value) (hw : ∀ d ∈ tables_1, d.before a0 Z = true) (ws : List Jvm.Cond) (a1 : Addr)  (h0 : Heap) (n0 : Nat) (Z0 : n0 ≤ h0.size) (F : Fld Z h0 a1 "com/example/rulefold/rulefold/Triple" "relation" "Ljava/lang/String;" .null) :
    MetFree l (⟨"com/example/rulefold/rulefold/Triple", "relation", "()Ljava/lang/String;"⟩ : MethodName) (head1 (Jvm.Cond.code (⟨"com/example/rulefold/rulefold/Triple", "relation", "()Ljava/lang/String;"⟩ : MethodName) prog_67_method_6_code 1 (some (.object "java/lang/String")) :: ws) ({ frames := 0, cells := 0, slots := 0, locals := 0 } : Room)) (fun a U => a = #[(.ref a1)] ∧ Z.Warmed39 U.vm ∧ U.heap = h0) (fun _ _ _ _ _ => True) (fun _ U o U' => ∃ v L, o = .returned v ∧ Q13 Z a1  h0 n0 v U'.heap L ∧ FrameEnd U o U' L ({ frames := 0, cells := 0, slots := 0, locals := 0 } : Room).cells ({ frames := 0, cells := 0, slots := 0, locals := 0 } : Room).slots) := by
  refine MetFree.of_bodySF pn_13 hisR ?_
  intro p e s m args below meth c s₁ Bd hml0 hP hK
  obtain ⟨rfl, hZ, hh⟩ := hP
  have hx := Bd.exec
  have hby := Bd.bytes
  have hml : c.maxLocals = 1 := hml0
  have hown : s.vm.findClass "com/example/rulefold/rulefold/Triple" = some m.cls := findClass_of_methodNamed Bd.named
  have hnm := (name_of_methodNamed Bd.named Bd.method).1
  have X0 : Stand p l e ({ frames := 0, cells := 0, slots := 0, locals := 0 } : Room) s m #[(.ref a1)] below meth c s₁ [] 0 0 := Stand.of_body Bd
  have e0 : s₁.heap = h0 := by rw [← hh, Bd.state]; rfl
  have N0 := Fr.nil n0
  show Goes p.tables e below (Ends below s (Q13 Z a1  h0 n0) ({ frames := 0, cells := 0, slots := 0, locals := 0 } : Room).cells ({ frames := 0, cells := 0, slots := 0, locals := 0 } : Room).slots) (s₁.setTop (entryFrame m #[(.ref a1)] 1))
  refine Goes.cast (ef_13 m a1) ?_
  refine Goes.st (fun _ k => XS.aloadN X0.here hx rfl (hb hby d13_0) rfl rfl k) ?_
  show Goes _ _ _ _ (s₁.setTop (mkF m 1 #[.val (.ref a1)] [(.ref a1)]))
  obtain ⟨T23, X23, e23, st23⟩ := getF X0 hx hZ hown (host := "") (Or.inl (hw _ (List.mem_of_getElem? (i := 71) rfl))) Via.refl e0 F (g := (mkF m 1 #[.val (.ref a1)] [(.ref a1)])) rfl rfl (hb hby d13_1)
  refine Goes.st st23 ?_
  show Goes _ _ _ _ (T23.setTop (mkF m 4 #[.val (.ref a1)] [.null]))
  exact leafA X23 hx Bd.notSynchronized Bd.returns rfl rfl (hb hby d13_4) (by decide) (by decide) ⟨rfl, N0, e23⟩
theorem ef_16 (m : MethodId) (a1 : Addr) : entryFrame m #[(.ref a1)] 1 = mkF m 0 #[.val (.ref a1)] [] := by first | (simp [entryFrame, mkF, argsToLocals, Value.category, maxLocals]; done) | rfl
def Q16 (Z : State) (a1 : Addr)  (h0 : Heap) (n0 : Nat) (v : Option Value) (h : Heap) (L : List Loc) : Prop := v = some .null ∧ Fr n0 L ∧ h = h0
set_option maxRecDepth 65536 in
set_option maxHeartbeats 40000000 in
theorem rm16 (l : Launch) (Z : State) (a0 : Array Value) (hw : ∀ d ∈ tables_1, d.before a0 Z = true) (ws : List Jvm.Cond) (a1 : Addr)  (h0 : Heap) (n0 : Nat) (Z0 : n0 ≤ h0.size) (F : Fld Z h0 a1 "com/example/rulefold/rulefold/Triple" "object" "Ljava/lang/String;" .null) :
    MetFree l (⟨"com/example/rulefold/rulefold/Triple", "object", "()Ljava/lang/String;"⟩ : MethodName) (head1 (Jvm.Cond.code (⟨"com/example/rulefold/rulefold/Triple", "object", "()Ljava/lang/String;"⟩ : MethodName) prog_67_method_7_code 1 (some (.object "java/lang/String")) :: ws) ({ frames := 0, cells := 0, slots := 0, locals := 0 } : Room)) (fun a U => a = #[(.ref a1)] ∧ Z.Warmed39 U.vm ∧ U.heap = h0) (fun _ _ _ _ _ => True) (fun _ U o U' => ∃ v L, o = .returned v ∧ Q16 Z a1  h0 n0 v U'.heap L ∧ FrameEnd U o U' L ({ frames := 0, cells := 0, slots := 0, locals := 0 } : Room).cells ({ frames := 0, cells := 0, slots := 0, locals := 0 } : Room).slots) := by
  refine MetFree.of_bodySF pn_16 hisR ?_
  intro p e s m args below meth c s₁ Bd hml0 hP hK
  obtain ⟨rfl, hZ, hh⟩ := hP
  have hx := Bd.exec
  have hby := Bd.bytes
  have hml : c.maxLocals = 1 := hml0
  have hown : s.vm.findClass "com/example/rulefold/rulefold/Triple" = some m.cls := findClass_of_methodNamed Bd.named
  have hnm := (name_of_methodNamed Bd.named Bd.method).1
  have X0 : Stand p l e ({ frames := 0, cells := 0, slots := 0, locals := 0 } : Room) s m #[(.ref a1)] below meth c s₁ [] 0 0 := Stand.of_body Bd
  have e0 : s₁.heap = h0 := by rw [← hh, Bd.state]; rfl
  have N0 := Fr.nil n0
  show Goes p.tables e below (Ends below s (Q16 Z a1  h0 n0) ({ frames := 0, cells := 0, slots := 0, locals := 0 } : Room).cells ({ frames := 0, cells := 0, slots := 0, locals := 0 } : Room).slots) (s₁.setTop (entryFrame m #[(.ref a1)] 1))
  refine Goes.cast (ef_16 m a1) ?_
  refine Goes.st (fun _ k => XS.aloadN X0.here hx rfl (hb hby d16_0) rfl rfl k) ?_
  show Goes _ _ _ _ (s₁.setTop (mkF m 1 #[.val (.ref a1)] [(.ref a1)]))
  obtain ⟨T24, X24, e24, st24⟩ := getF X0 hx hZ hown (host := "") (Or.inl (hw _ (List.mem_of_getElem? (i := 73) rfl))) Via.refl e0 F (g := (mkF m 1 #[.val (.ref a1)] [(.ref a1)])) rfl rfl (hb hby d16_1)
  refine Goes.st st24 ?_
  show Goes _ _ _ _ (T24.setTop (mkF m 4 #[.val (.ref a1)] [.null]))
  exact leafA X24 hx Bd.notSynchronized Bd.returns rfl rfl (hb hby d16_4) (by decide) (by decide) ⟨rfl, N0, e24⟩
theorem ef_14 (m : MethodId) (a1 : Addr) : entryFrame m #[(.ref a1)] 1 = mkF m 0 #[.val (.ref a1)] [] := by first | (simp [entryFrame, mkF, argsToLocals, Value.category, maxLocals]; done) | rfl
def Q14 (Z : State) (a1 : Addr) (a2 : Addr) (h0 : Heap) (n0 : Nat) (v : Option Value) (h : Heap) (L : List Loc) : Prop := v = some (.ref a2) ∧ Fr n0 L ∧ h = h0
set_option maxRecDepth 65536 in
set_option maxHeartbeats 40000000 in
theorem rm14 (l : Launch) (Z : State) (a0 : Array Value) (hw : ∀ d ∈ tables_1, d.before a0 Z = true) (ws : List Jvm.Cond) (a1 : Addr) (a2 : Addr) (h0 : Heap) (n0 : Nat) (Z0 : n0 ≤ h0.size) (F : Fld Z h0 a1 "com/example/rulefold/rulefold/Triple" "subject" "Ljava/lang/String;" (.ref a2)) :
    MetFree l (⟨"com/example/rulefold/rulefold/Triple", "subject", "()Ljava/lang/String;"⟩ : MethodName) (head1 (Jvm.Cond.code (⟨"com/example/rulefold/rulefold/Triple", "subject", "()Ljava/lang/String;"⟩ : MethodName) prog_67_method_5_code 1 (some (.object "java/lang/String")) :: ws) ({ frames := 0, cells := 0, slots := 0, locals := 0 } : Room)) (fun a U => a = #[(.ref a1)] ∧ Z.Warmed39 U.vm ∧ U.heap = h0) (fun _ _ _ _ _ => True) (fun _ U o U' => ∃ v L, o = .returned v ∧ Q14 Z a1 a2 h0 n0 v U'.heap L ∧ FrameEnd U o U' L ({ frames := 0, cells := 0, slots := 0, locals := 0 } : Room).cells ({ frames := 0, cells := 0, slots := 0, locals := 0 } : Room).slots) := by
  refine MetFree.of_bodySF pn_14 hisR ?_
  intro p e s m args below meth c s₁ Bd hml0 hP hK
  obtain ⟨rfl, hZ, hh⟩ := hP
  have hx := Bd.exec
  have hby := Bd.bytes
  have hml : c.maxLocals = 1 := hml0
  have hown : s.vm.findClass "com/example/rulefold/rulefold/Triple" = some m.cls := findClass_of_methodNamed Bd.named
  have hnm := (name_of_methodNamed Bd.named Bd.method).1
  have X0 : Stand p l e ({ frames := 0, cells := 0, slots := 0, locals := 0 } : Room) s m #[(.ref a1)] below meth c s₁ [] 0 0 := Stand.of_body Bd
  have e0 : s₁.heap = h0 := by rw [← hh, Bd.state]; rfl
  have N0 := Fr.nil n0
  show Goes p.tables e below (Ends below s (Q14 Z a1 a2 h0 n0) ({ frames := 0, cells := 0, slots := 0, locals := 0 } : Room).cells ({ frames := 0, cells := 0, slots := 0, locals := 0 } : Room).slots) (s₁.setTop (entryFrame m #[(.ref a1)] 1))
  refine Goes.cast (ef_14 m a1) ?_
  refine Goes.st (fun _ k => XS.aloadN X0.here hx rfl (hb hby d14_0) rfl rfl k) ?_
  show Goes _ _ _ _ (s₁.setTop (mkF m 1 #[.val (.ref a1)] [(.ref a1)]))
  obtain ⟨T25, X25, e25, st25⟩ := getF X0 hx hZ hown (host := "") (Or.inl (hw _ (List.mem_of_getElem? (i := 69) rfl))) Via.refl e0 F (g := (mkF m 1 #[.val (.ref a1)] [(.ref a1)])) rfl rfl (hb hby d14_1)
  refine Goes.st st25 ?_
  show Goes _ _ _ _ (T25.setTop (mkF m 4 #[.val (.ref a1)] [(.ref a2)]))
  exact leafA X25 hx Bd.notSynchronized Bd.returns rfl rfl (hb hby d14_4) (by decide) (by decide) ⟨rfl, N0, e25⟩
theorem ef_18 (m : MethodId) (a1 : Addr) (a2 : Addr) : entryFrame m #[(.ref a1), (.ref a2)] 3 = mkF m 0 #[.val (.ref a1), .val (.ref a2), .unset] [] := by first | (simp [entryFrame, mkF, argsToLocals, Value.category, maxLocals]; done) | rfl
def Q18 (Z : State) (a1 : Addr) (a2 : Addr) (k1 : ClassId) (k2 : ClassId) (x : Int32) (y : Int32) (h0 : Heap) (n0 : Nat) (v : Option Value) (h : Heap) (L : List Loc) : Prop := v = some (.int (own_eq x y)) ∧ Fr n0 L ∧ h = h0
set_option maxRecDepth 65536 in
set_option maxHeartbeats 40000000 in
theorem rm18 (l : Launch) (Z : State) (a0 : Array Value) (hw : ∀ d ∈ tables_1, d.before a0 Z = true) (ws : List Jvm.Cond) (a1 : Addr) (a2 : Addr) (k1 : ClassId) (k2 : ClassId) (x : Int32) (y : Int32) (h0 : Heap) (n0 : Nat) (Z0 : n0 ≤ h0.size) (V1 : Arv Z h0 a1 k1 .byte (1 : Int32) [.int x] (.int (0 : Int32))) (V2 : Arv Z h0 a2 k2 .byte (1 : Int32) [.int y] (.int (0 : Int32))) :
    MetFree l (⟨"java/lang/StringLatin1", "equals", "([B[B)Z"⟩ : MethodName) (head1 (Jvm.Cond.code (⟨"java/lang/StringLatin1", "equals", "([B[B)Z"⟩ : MethodName) jdk_43_method_13_code 3 (some .boolean) :: ws) ({ frames := 0, cells := 0, slots := 0, locals := 0 } : Room)) (fun a U => a = #[(.ref a1), (.ref a2)] ∧ Z.Warmed39 U.vm ∧ U.heap = h0) (fun _ _ _ _ _ => True) (fun _ U o U' => ∃ v L, o = .returned v ∧ Q18 Z a1 a2 k1 k2 x y h0 n0 v U'.heap L ∧ FrameEnd U o U' L ({ frames := 0, cells := 0, slots := 0, locals := 0 } : Room).cells ({ frames := 0, cells := 0, slots := 0, locals := 0 } : Room).slots) := by
  refine MetFree.of_bodySF pn_18 hisR ?_
  intro p e s m args below meth c s₁ Bd hml0 hP hK
  obtain ⟨rfl, hZ, hh⟩ := hP
  have hx := Bd.exec
  have hby := Bd.bytes
  have hml : c.maxLocals = 3 := hml0
  have hown : s.vm.findClass "java/lang/StringLatin1" = some m.cls := findClass_of_methodNamed Bd.named
  have hnm := (name_of_methodNamed Bd.named Bd.method).1
  have X0 : Stand p l e ({ frames := 0, cells := 0, slots := 0, locals := 0 } : Room) s m #[(.ref a1), (.ref a2)] below meth c s₁ [] 0 0 := Stand.of_body Bd
  have e0 : s₁.heap = h0 := by rw [← hh, Bd.state]; rfl
  have N0 := Fr.nil n0
  show Goes p.tables e below (Ends below s (Q18 Z a1 a2 k1 k2 x y h0 n0) ({ frames := 0, cells := 0, slots := 0, locals := 0 } : Room).cells ({ frames := 0, cells := 0, slots := 0, locals := 0 } : Room).slots) (s₁.setTop (entryFrame m #[(.ref a1), (.ref a2)] 3))
  refine Goes.cast (ef_18 m a1 a2) ?_
  obtain ⟨cl1, Ar1, q1, S1, M1, H1, G1⟩ := V1
  obtain ⟨cl2, Ar2, q2, S2, M2, H2, G2⟩ := V2
  refine Goes.st (fun _ k => XS.aloadN X0.here hx rfl (hb hby d18_0) rfl rfl k) ?_
  show Goes _ _ _ _ (s₁.setTop (mkF m 1 #[.val (.ref a1), .val (.ref a2), .unset] [(.ref a1)]))
  refine Goes.st (X0.arraylength hx (by rw [e0]; exact Ar1.1) (State.isArrayOf_alike hZ.alike Ar1.2.1) (g := (mkF m 1 #[.val (.ref a1), .val (.ref a2), .unset] [(.ref a1)])) rfl rfl (hb hby d18_1)) ?_
  rw [len_of S1 M1]
  show Goes _ _ _ _ (s₁.setTop (mkF m 2 #[.val (.ref a1), .val (.ref a2), .unset] [(.int (1 : Int32))]))
  refine Goes.st (fun _ k => XS.aloadN X0.here hx rfl (hb hby d18_2) rfl rfl k) ?_
  show Goes _ _ _ _ (s₁.setTop (mkF m 3 #[.val (.ref a1), .val (.ref a2), .unset] [(.ref a2), (.int (1 : Int32))]))
  refine Goes.st (X0.arraylength hx (by rw [e0]; exact Ar2.1) (State.isArrayOf_alike hZ.alike Ar2.2.1) (g := (mkF m 3 #[.val (.ref a1), .val (.ref a2), .unset] [(.ref a2), (.int (1 : Int32))])) rfl rfl (hb hby d18_3)) ?_
  rw [len_of S2 M2]
  show Goes _ _ _ _ (s₁.setTop (mkF m 4 #[.val (.ref a1), .val (.ref a2), .unset] [(.int (1 : Int32)), (.int (1 : Int32))]))
  refine Goes.st (fun _ k => XS.icmpNo X0.here hx rfl (hb hby d18_4) rfl (by decide) k) ?_
  show Goes _ _ _ _ (s₁.setTop (mkF m 7 #[.val (.ref a1), .val (.ref a2), .unset] []))
  refine Goes.st (fun _ k => XS.iconst X0.here hx rfl (hb hby d18_7) k) ?_
  show Goes _ _ _ _ (s₁.setTop (mkF m 8 #[.val (.ref a1), .val (.ref a2), .unset] [(.int (0 : Int32))]))
  refine Goes.st (fun _ k => XS.istoreN X0.here hx rfl (hb hby d18_8) rfl (l' := #[.val (.ref a1), .val (.ref a2), .val (.int (0 : Int32))]) rfl k) ?_
  show Goes _ _ _ _ (s₁.setTop (mkF m 9 #[.val (.ref a1), .val (.ref a2), .val (.int (0 : Int32))] []))
  refine Goes.st (fun _ k => XS.iloadN X0.here hx rfl (hb hby d18_9) rfl k) ?_
  show Goes _ _ _ _ (s₁.setTop (mkF m 10 #[.val (.ref a1), .val (.ref a2), .val (.int (0 : Int32))] [(.int (0 : Int32))]))
  refine Goes.st (fun _ k => XS.aloadN X0.here hx rfl (hb hby d18_10) rfl rfl k) ?_
  show Goes _ _ _ _ (s₁.setTop (mkF m 11 #[.val (.ref a1), .val (.ref a2), .val (.int (0 : Int32))] [(.ref a1), (.int (0 : Int32))]))
  refine Goes.st (X0.arraylength hx (by rw [e0]; exact Ar1.1) (State.isArrayOf_alike hZ.alike Ar1.2.1) (g := (mkF m 11 #[.val (.ref a1), .val (.ref a2), .val (.int (0 : Int32))] [(.ref a1), (.int (0 : Int32))])) rfl rfl (hb hby d18_11)) ?_
  rw [len_of S1 M1]
  show Goes _ _ _ _ (s₁.setTop (mkF m 12 #[.val (.ref a1), .val (.ref a2), .val (.int (0 : Int32))] [(.int (1 : Int32)), (.int (0 : Int32))]))
  refine Goes.st (fun _ k => XS.icmpNo X0.here hx rfl (hb hby d18_12) rfl (by decide) k) ?_
  show Goes _ _ _ _ (s₁.setTop (mkF m 15 #[.val (.ref a1), .val (.ref a2), .val (.int (0 : Int32))] []))
  have hin1 : ¬ ((0 : Int32) < 0 ∨ cl1.slots.size ≤ (0 : Int32).toNatClampNeg) := inb_of S1 ⟨by decide, by decide⟩
  have hin2 : ¬ ((0 : Int32) < 0 ∨ cl2.slots.size ≤ (0 : Int32).toNatClampNeg) := inb_of S2 ⟨by decide, by decide⟩
  refine Goes.st (fun _ k => XS.aloadN X0.here hx rfl (hb hby d18_15) rfl rfl k) ?_
  show Goes _ _ _ _ (s₁.setTop (mkF m 16 #[.val (.ref a1), .val (.ref a2), .val (.int (0 : Int32))] [(.ref a1)]))
  refine Goes.st (fun _ k => XS.iloadN X0.here hx rfl (hb hby d18_16) rfl k) ?_
  show Goes _ _ _ _ (s₁.setTop (mkF m 17 #[.val (.ref a1), .val (.ref a2), .val (.int (0 : Int32))] [(.int (0 : Int32)), (.ref a1)]))
  refine Goes.st (X0.baloadBytes hx (by rw [e0]; exact Ar1.1) (State.isArrayOf_alike hZ.alike Ar1.2.1) Ar1.2.2 hin1 (H1.at hin1 rfl) (g := (mkF m 17 #[.val (.ref a1), .val (.ref a2), .val (.int (0 : Int32))] [(.int (0 : Int32)), (.ref a1)])) rfl rfl (hb hby d18_17)) ?_
  show Goes _ _ _ _ (s₁.setTop (mkF m 18 #[.val (.ref a1), .val (.ref a2), .val (.int (0 : Int32))] [(.int x)]))
  refine Goes.st (fun _ k => XS.aloadN X0.here hx rfl (hb hby d18_18) rfl rfl k) ?_
  show Goes _ _ _ _ (s₁.setTop (mkF m 19 #[.val (.ref a1), .val (.ref a2), .val (.int (0 : Int32))] [(.ref a2), (.int x)]))
  refine Goes.st (fun _ k => XS.iloadN X0.here hx rfl (hb hby d18_19) rfl k) ?_
  show Goes _ _ _ _ (s₁.setTop (mkF m 20 #[.val (.ref a1), .val (.ref a2), .val (.int (0 : Int32))] [(.int (0 : Int32)), (.ref a2), (.int x)]))
  refine Goes.st (X0.baloadBytes hx (by rw [e0]; exact Ar2.1) (State.isArrayOf_alike hZ.alike Ar2.2.1) Ar2.2.2 hin2 (H2.at hin2 rfl) (g := (mkF m 20 #[.val (.ref a1), .val (.ref a2), .val (.int (0 : Int32))] [(.int (0 : Int32)), (.ref a2), (.int x)])) rfl rfl (hb hby d18_20)) ?_
  show Goes _ _ _ _ (s₁.setTop (mkF m 21 #[.val (.ref a1), .val (.ref a2), .val (.int (0 : Int32))] [(.int y), (.int x)]))
  by_cases hc : x = y
  · skip
    refine Goes.st (fun _ k => XS.icmpYes X0.here hx rfl (pc0 := 21) (pc' := 26) rfl (hb hby d18_21) rfl (teq hc).1 (by decide) (by decide) k) ?_
    show Goes _ _ _ _ (s₁.setTop (mkF m 26 #[.val (.ref a1), .val (.ref a2), .val (.int (0 : Int32))] []))
    refine Goes.st (fun _ k => XS.iinc X0.here hx rfl (hb hby d18_26) rfl (l' := #[.val (.ref a1), .val (.ref a2), .val (.int ((0 : Int32) + (1 : Int32)))]) rfl k) ?_
    show Goes _ _ _ _ (s₁.setTop (mkF m 29 #[.val (.ref a1), .val (.ref a2), .val (.int ((0 : Int32) + (1 : Int32)))] []))
    refine Goes.st (fun _ k => XS.goto X0.here hx rfl (pc0 := 29) (pc' := 9) rfl (hb hby d18_29) (by decide) (by decide) k) ?_
    show Goes _ _ _ _ (s₁.setTop (mkF m 9 #[.val (.ref a1), .val (.ref a2), .val (.int ((0 : Int32) + (1 : Int32)))] []))
    show Goes _ _ _ _ (s₁.setTop (mkF m 9 #[.val (.ref a1), .val (.ref a2), .val (.int (1 : Int32))] []))
    refine Goes.st (fun _ k => XS.iloadN X0.here hx rfl (hb hby d18_9) rfl k) ?_
    show Goes _ _ _ _ (s₁.setTop (mkF m 10 #[.val (.ref a1), .val (.ref a2), .val (.int (1 : Int32))] [(.int (1 : Int32))]))
    refine Goes.st (fun _ k => XS.aloadN X0.here hx rfl (hb hby d18_10) rfl rfl k) ?_
    show Goes _ _ _ _ (s₁.setTop (mkF m 11 #[.val (.ref a1), .val (.ref a2), .val (.int (1 : Int32))] [(.ref a1), (.int (1 : Int32))]))
    refine Goes.st (X0.arraylength hx (by rw [e0]; exact Ar1.1) (State.isArrayOf_alike hZ.alike Ar1.2.1) (g := (mkF m 11 #[.val (.ref a1), .val (.ref a2), .val (.int (1 : Int32))] [(.ref a1), (.int (1 : Int32))])) rfl rfl (hb hby d18_11)) ?_
    rw [len_of S1 M1]
    show Goes _ _ _ _ (s₁.setTop (mkF m 12 #[.val (.ref a1), .val (.ref a2), .val (.int (1 : Int32))] [(.int (1 : Int32)), (.int (1 : Int32))]))
    refine Goes.st (fun _ k => XS.icmpYes X0.here hx rfl (pc0 := 12) (pc' := 32) rfl (hb hby d18_12) rfl (by decide) (by decide) (by decide) k) ?_
    show Goes _ _ _ _ (s₁.setTop (mkF m 32 #[.val (.ref a1), .val (.ref a2), .val (.int (1 : Int32))] []))
    refine Goes.st (fun _ k => XS.iconst X0.here hx rfl (hb hby d18_32) k) ?_
    show Goes _ _ _ _ (s₁.setTop (mkF m 33 #[.val (.ref a1), .val (.ref a2), .val (.int (1 : Int32))] [(.int (1 : Int32))]))
    exact leafZ X0 hx Bd.notSynchronized Bd.returns (hb hby d18_33) (by decide) (by decide) (by decide) ⟨by rw [own_eq, if_pos hc], N0, e0⟩
  · skip
    refine Goes.st (fun _ k => XS.icmpNo X0.here hx rfl (hb hby d18_21) rfl (feq hc).1 k) ?_
    show Goes _ _ _ _ (s₁.setTop (mkF m 24 #[.val (.ref a1), .val (.ref a2), .val (.int (0 : Int32))] []))
    refine Goes.st (fun _ k => XS.iconst X0.here hx rfl (hb hby d18_24) k) ?_
    show Goes _ _ _ _ (s₁.setTop (mkF m 25 #[.val (.ref a1), .val (.ref a2), .val (.int (0 : Int32))] [(.int (0 : Int32))]))
    exact leafZ X0 hx Bd.notSynchronized Bd.returns (hb hby d18_25) (by decide) (by decide) (by decide) ⟨by rw [own_eq, if_neg hc], N0, e0⟩
theorem ef_17 (m : MethodId) (a1 : Addr) (a2 : Addr) : entryFrame m #[(.ref a1), (.ref a2)] 3 = mkF m 0 #[.val (.ref a1), .val (.ref a2), .unset] [] := by first | (simp [entryFrame, mkF, argsToLocals, Value.category, maxLocals]; done) | rfl
def Q17 (Z : State) (a1 : Addr) (a2 : Addr) (x : Int32) (y : Int32) (cs : Int32) (h0 : Heap) (n0 : Nat) (v : Option Value) (h : Heap) (L : List Loc) : Prop := v = some (.int (own_eq x y)) ∧ Fr n0 L ∧ h = h0
set_option maxRecDepth 65536 in
set_option maxHeartbeats 40000000 in
theorem rm17 (l : Launch) (Z : State) (a0 : Array Value) (hw : ∀ d ∈ tables_1, d.before a0 Z = true) (ws : List Jvm.Cond) (a1 : Addr) (a2 : Addr) (x : Int32) (y : Int32) (cs : Int32) (h0 : Heap) (n0 : Nat) (Z0 : n0 ≤ h0.size) (S1 : own_S Z h0 a1 x) (S2 : own_S Z h0 a2 y) (XO : Old Z n0 h0) (SC : Sta Z Z.heap "java/lang/String" "COMPACT_STRINGS" "Z" (.int cs)) (hcs : ¬ cs = (0 : Int32)) :
    MetFree l (⟨"java/lang/String", "equals", "(Ljava/lang/Object;)Z"⟩ : MethodName) (head1 (Jvm.Cond.code (⟨"java/lang/String", "equals", "(Ljava/lang/Object;)Z"⟩ : MethodName) jdk_42_method_66_code 3 (some .boolean) :: ws) ({ frames := 1, cells := 0, slots := 0, locals := 14 } : Room)) (fun a U => a = #[(.ref a1), (.ref a2)] ∧ Z.Warmed39 U.vm ∧ U.heap = h0) (fun _ _ _ _ _ => True) (fun _ U o U' => ∃ v L, o = .returned v ∧ Q17 Z a1 a2 x y cs h0 n0 v U'.heap L ∧ FrameEnd U o U' L ({ frames := 1, cells := 0, slots := 0, locals := 14 } : Room).cells ({ frames := 1, cells := 0, slots := 0, locals := 14 } : Room).slots) := by
  refine MetFree.of_bodySF pn_17 hisR ?_
  intro p e s m args below meth c s₁ Bd hml0 hP hK
  obtain ⟨rfl, hZ, hh⟩ := hP
  have hx := Bd.exec
  have hby := Bd.bytes
  have hml : c.maxLocals = 3 := hml0
  have hown : s.vm.findClass "java/lang/String" = some m.cls := findClass_of_methodNamed Bd.named
  have hnm := (name_of_methodNamed Bd.named Bd.method).1
  have X0 : Stand p l e ({ frames := 1, cells := 0, slots := 0, locals := 14 } : Room) s m #[(.ref a1), (.ref a2)] below meth c s₁ [] 0 0 := Stand.of_body Bd
  have e0 : s₁.heap = h0 := by rw [← hh, Bd.state]; rfl
  have N0 := Fr.nil n0
  show Goes p.tables e below (Ends below s (Q17 Z a1 a2 x y cs h0 n0) ({ frames := 1, cells := 0, slots := 0, locals := 14 } : Room).cells ({ frames := 1, cells := 0, slots := 0, locals := 14 } : Room).slots) (s₁.setTop (entryFrame m #[(.ref a1), (.ref a2)] 3))
  refine Goes.cast (ef_17 m a1 a2) ?_
  refine Goes.st (fun _ k => XS.aloadN X0.here hx rfl (hb hby d17_0) rfl rfl k) ?_
  show Goes _ _ _ _ (s₁.setTop (mkF m 1 #[.val (.ref a1), .val (.ref a2), .unset] [(.ref a1)]))
  refine Goes.st (fun _ k => XS.aloadN X0.here hx rfl (hb hby d17_1) rfl rfl k) ?_
  show Goes _ _ _ _ (s₁.setTop (mkF m 2 #[.val (.ref a1), .val (.ref a2), .unset] [(.ref a2), (.ref a1)]))
  by_cases hc : a1 = a2
  · skip
    have hxy : x = y := by subst hc; exact S1.inj S2
    refine Goes.st (fun _ k => acmp X0 hx rfl (same := true) (x := (.ref a1)) (y := (.ref a2)) rfl rfl (pc0 := 2) (pc' := 5) rfl (hb hby d17_2) rfl (decide_eq_true (congrArg Value.ref hc)) (by decide) (by decide) k) ?_
    show Goes _ _ _ _ (s₁.setTop (mkF m 5 #[.val (.ref a1), .val (.ref a2), .unset] []))
    refine Goes.st (fun _ k => XS.iconst X0.here hx rfl (hb hby d17_5) k) ?_
    show Goes _ _ _ _ (s₁.setTop (mkF m 6 #[.val (.ref a1), .val (.ref a2), .unset] [(.int (1 : Int32))]))
    exact leafZ X0 hx Bd.notSynchronized Bd.returns (hb hby d17_6) (by decide) (by decide) (by decide) ⟨by rw [own_eq, if_pos hxy], N0, e0⟩
  · skip
    refine Goes.st (fun _ k => acmp X0 hx rfl (same := false) (x := (.ref a1)) (y := (.ref a2)) rfl rfl (pc0 := 2) (pc' := 7) rfl (hb hby d17_2) rfl (decide_eq_false fun q => hc (Value.ref.inj q)) (by decide) (by decide) k) ?_
    show Goes _ _ _ _ (s₁.setTop (mkF m 7 #[.val (.ref a1), .val (.ref a2), .unset] []))
    obtain ⟨E1, C1, t1, k1, F1, V1⟩ := S1
    obtain ⟨E2, C2, t2, k2, F2, V2⟩ := S2
    refine Goes.st (fun _ k => XS.aloadN X0.here hx rfl (hb hby d17_7) rfl rfl k) ?_
    show Goes _ _ _ _ (s₁.setTop (mkF m 8 #[.val (.ref a1), .val (.ref a2), .unset] [(.ref a2)]))
    obtain ⟨T26, X26, e26, st26⟩ := instY X0 hx hZ hown (hw _ (List.mem_of_getElem? (i := 13) rfl)) e0 (Ins.self E2) (g := (mkF m 8 #[.val (.ref a1), .val (.ref a2), .unset] [(.ref a2)])) rfl rfl (hb hby d17_8)
    refine Goes.st st26 ?_
    show Goes _ _ _ _ (T26.setTop (mkF m 11 #[.val (.ref a1), .val (.ref a2), .unset] [(.int (1 : Int32))]))
    refine Goes.st (fun _ k => XS.ifNo X26.here hx rfl (hb hby d17_11) rfl (by decide) k) ?_
    show Goes _ _ _ _ (T26.setTop (mkF m 14 #[.val (.ref a1), .val (.ref a2), .unset] []))
    refine Goes.st (fun _ k => XS.aloadN X26.here hx rfl (hb hby d17_14) rfl rfl k) ?_
    show Goes _ _ _ _ (T26.setTop (mkF m 15 #[.val (.ref a1), .val (.ref a2), .unset] [(.ref a2)]))
    obtain ⟨T27, X27, e27, st27⟩ := castY X26 hx hZ hown (hw _ (List.mem_of_getElem? (i := 13) rfl)) e26 (Ins.self E2) (g := (mkF m 15 #[.val (.ref a1), .val (.ref a2), .unset] [(.ref a2)])) rfl rfl (hb hby d17_15)
    refine Goes.st st27 ?_
    show Goes _ _ _ _ (T27.setTop (mkF m 18 #[.val (.ref a1), .val (.ref a2), .unset] [(.ref a2)]))
    refine Goes.st (fun _ k => XS.astoreN X27.here hx rfl (hb hby d17_18) rfl rfl (l' := #[.val (.ref a1), .val (.ref a2), .val (.ref a2)]) rfl k) ?_
    show Goes _ _ _ _ (T27.setTop (mkF m 19 #[.val (.ref a1), .val (.ref a2), .val (.ref a2)] []))
    obtain ⟨T28, X28, e28, st28⟩ := getS X27 hx hZ (host := "") hown (hw _ (List.mem_of_getElem? (i := 8) rfl)) Via.refl e27 (SC.ext XO.2) (g := (mkF m 19 #[.val (.ref a1), .val (.ref a2), .val (.ref a2)] [])) rfl (hb hby d17_19)
    refine Goes.st st28 ?_
    show Goes _ _ _ _ (T28.setTop (mkF m 22 #[.val (.ref a1), .val (.ref a2), .val (.ref a2)] [(.int cs)]))
    refine Goes.st (fun _ k => XS.ifNo X28.here hx rfl (hb hby d17_22) rfl ((if0 _ _).trans (feq hcs).1) k) ?_
    show Goes _ _ _ _ (T28.setTop (mkF m 25 #[.val (.ref a1), .val (.ref a2), .val (.ref a2)] []))
    refine Goes.st (fun _ k => XS.aloadN X28.here hx rfl (hb hby d17_25) rfl rfl k) ?_
    show Goes _ _ _ _ (T28.setTop (mkF m 26 #[.val (.ref a1), .val (.ref a2), .val (.ref a2)] [(.ref a1)]))
    obtain ⟨T29, X29, e29, st29⟩ := getF X28 hx hZ hown (host := "") (Or.inl (hw _ (List.mem_of_getElem? (i := 28) rfl))) Via.refl e28 C1 (g := (mkF m 26 #[.val (.ref a1), .val (.ref a2), .val (.ref a2)] [(.ref a1)])) rfl rfl (hb hby d17_26)
    refine Goes.st st29 ?_
    show Goes _ _ _ _ (T29.setTop (mkF m 29 #[.val (.ref a1), .val (.ref a2), .val (.ref a2)] [(.int (0 : Int32))]))
    refine Goes.st (fun _ k => XS.aloadN X29.here hx rfl (hb hby d17_29) rfl rfl k) ?_
    show Goes _ _ _ _ (T29.setTop (mkF m 30 #[.val (.ref a1), .val (.ref a2), .val (.ref a2)] [(.ref a2), (.int (0 : Int32))]))
    obtain ⟨T30, X30, e30, st30⟩ := getF X29 hx hZ hown (host := "") (Or.inl (hw _ (List.mem_of_getElem? (i := 28) rfl))) Via.refl e29 C2 (g := (mkF m 30 #[.val (.ref a1), .val (.ref a2), .val (.ref a2)] [(.ref a2), (.int (0 : Int32))])) rfl rfl (hb hby d17_30)
    refine Goes.st st30 ?_
    show Goes _ _ _ _ (T30.setTop (mkF m 33 #[.val (.ref a1), .val (.ref a2), .val (.ref a2)] [(.int (0 : Int32)), (.int (0 : Int32))]))
    refine Goes.st (fun _ k => XS.icmpNo X30.here hx rfl (hb hby d17_33) rfl (by decide) k) ?_
    show Goes _ _ _ _ (T30.setTop (mkF m 36 #[.val (.ref a1), .val (.ref a2), .val (.ref a2)] []))
    refine Goes.st (fun _ k => XS.aloadN X30.here hx rfl (hb hby d17_36) rfl rfl k) ?_
    show Goes _ _ _ _ (T30.setTop (mkF m 37 #[.val (.ref a1), .val (.ref a2), .val (.ref a2)] [(.ref a1)]))
    obtain ⟨T31, X31, e31, st31⟩ := getF X30 hx hZ hown (host := "") (Or.inl (hw _ (List.mem_of_getElem? (i := 26) rfl))) Via.refl e30 F1 (g := (mkF m 37 #[.val (.ref a1), .val (.ref a2), .val (.ref a2)] [(.ref a1)])) rfl rfl (hb hby d17_37)
    refine Goes.st st31 ?_
    show Goes _ _ _ _ (T31.setTop (mkF m 40 #[.val (.ref a1), .val (.ref a2), .val (.ref a2)] [(.ref t1)]))
    refine Goes.st (fun _ k => XS.aloadN X31.here hx rfl (hb hby d17_40) rfl rfl k) ?_
    show Goes _ _ _ _ (T31.setTop (mkF m 41 #[.val (.ref a1), .val (.ref a2), .val (.ref a2)] [(.ref a2), (.ref t1)]))
    obtain ⟨T32, X32, e32, st32⟩ := getF X31 hx hZ hown (host := "") (Or.inl (hw _ (List.mem_of_getElem? (i := 26) rfl))) Via.refl e31 F2 (g := (mkF m 41 #[.val (.ref a1), .val (.ref a2), .val (.ref a2)] [(.ref a2), (.ref t1)])) rfl rfl (hb hby d17_41)
    refine Goes.st st32 ?_
    show Goes _ _ _ _ (T32.setTop (mkF m 44 #[.val (.ref a1), .val (.ref a2), .val (.ref a2)] [(.ref t2), (.ref t1)]))
    obtain ⟨_, _, ⟨T33, L33, k33, n33⟩, -, X33, ⟨Lc33, hQ33, l33, y33, z33⟩, st33⟩ := Jvm.LawKit.callS X32 hx (y := (⟨"java/lang/StringLatin1", "equals", "([B[B)Z"⟩ : MethodName)) hown (mvT hZ (hw _ (List.mem_of_getElem? (i := 104) rfl))) (mvT hZ (hw _ (List.mem_of_getElem? (i := 105) rfl))) (mvT hZ (hw _ (List.mem_of_getElem? (i := 11) rfl))) (mvT hZ (hw _ (List.mem_of_getElem? (i := 106) rfl))) (by decide) (backOf (W := 0) (rm18 l Z a0 hw [] t1 t2 k1 k2 x y h0 n0 Z0 V1 V2) hZ (hw _ (List.mem_of_getElem? (i := 106) rfl)) (hw _ (List.mem_of_getElem? (i := 11) rfl)) (by decide) (by decide)) (g := (mkF m 44 #[.val (.ref a1), .val (.ref a2), .val (.ref a2)] [(.ref t2), (.ref t1)])) rfl (by rw [hml]; rfl) (argsL := [(.ref t1), (.ref t2)]) (rest := []) (lenOf pd_18 rfl) rfl (by show 2 * 0 + _ ≤ _; exact Nat.le_of_eq rfl) (hb hby d17_44) (fun _ _ => ⟨rfl, e32, (by decide : 0 + 0 ≤ _), (by decide : 0 + 0 ≤ _)⟩)
    dsimp only [Pt.U, Pt.locs, Pt.cells, Pt.slots] at X33 l33 y33 z33 st33 hQ33
    subst l33 y33 z33
    obtain ⟨rfl, Nq33, eq33⟩ := hQ33
    have N33 := Fr.app N0 Nq33
    refine Goes.st st33 ?_
    show Goes _ _ _ _ (T33.setTop (mkF m 47 #[.val (.ref a1), .val (.ref a2), .val (.ref a2)] [(.int (own_eq x y))]))
    by_cases hxy : x = y
    · skip
      have hq : own_eq x y = 1 := if_pos hxy
      rw [hq]
      show Goes _ _ _ _ (T33.setTop (mkF m 47 #[.val (.ref a1), .val (.ref a2), .val (.ref a2)] [(.int (1 : Int32))]))
      refine Goes.st (fun _ k => XS.ifNo X33.here hx rfl (hb hby d17_47) rfl (by decide) k) ?_
      show Goes _ _ _ _ (T33.setTop (mkF m 50 #[.val (.ref a1), .val (.ref a2), .val (.ref a2)] []))
      refine Goes.st (fun _ k => XS.iconst X33.here hx rfl (hb hby d17_50) k) ?_
      show Goes _ _ _ _ (T33.setTop (mkF m 51 #[.val (.ref a1), .val (.ref a2), .val (.ref a2)] [(.int (1 : Int32))]))
      refine Goes.st (fun _ k => XS.goto X33.here hx rfl (pc0 := 51) (pc' := 55) rfl (hb hby d17_51) (by decide) (by decide) k) ?_
      show Goes _ _ _ _ (T33.setTop (mkF m 55 #[.val (.ref a1), .val (.ref a2), .val (.ref a2)] [(.int (1 : Int32))]))
      exact leafZ X33 hx Bd.notSynchronized Bd.returns (hb hby d17_55) (by decide) (by decide) (by decide) ⟨by rw [hq], N33, eq33⟩
    · skip
      have hq : own_eq x y = 0 := if_neg hxy
      rw [hq]
      show Goes _ _ _ _ (T33.setTop (mkF m 47 #[.val (.ref a1), .val (.ref a2), .val (.ref a2)] [(.int (0 : Int32))]))
      refine Goes.st (fun _ k => XS.ifYes X33.here hx rfl (pc0 := 47) (pc' := 54) rfl (hb hby d17_47) rfl (by decide) (by decide) (by decide) k) ?_
      show Goes _ _ _ _ (T33.setTop (mkF m 54 #[.val (.ref a1), .val (.ref a2), .val (.ref a2)] []))
      refine Goes.st (fun _ k => XS.iconst X33.here hx rfl (hb hby d17_54) k) ?_
      show Goes _ _ _ _ (T33.setTop (mkF m 55 #[.val (.ref a1), .val (.ref a2), .val (.ref a2)] [(.int (0 : Int32))]))
      exact leafZ X33 hx Bd.notSynchronized Bd.returns (hb hby d17_55) (by decide) (by decide) (by decide) ⟨by rw [hq], N33, eq33⟩
theorem ef_10 (m : MethodId) (a1 : Addr) (bd : Addr) : entryFrame m #[(.ref a1), (.ref bd)] 2 = mkF m 0 #[.val (.ref a1), .val (.ref bd)] [] := by first | (simp [entryFrame, mkF, argsToLocals, Value.category, maxLocals]; done) | rfl
def Q10 (Z : State) (a1 : Addr) (bd : Addr) (a2 : Addr) (a3 : Addr) (p4 : Int32) (a5 : Addr) (p6 : Int32) (kb : ClassId) (r0 : Value) (r1 : Value) (r2 : Value) (h0 : Heap) (n0 : Nat) (v : Option Value) (h : Heap) (L : List Loc) : Prop := v = some (own_pick p4 (.ref a3) r0 r1 r2) ∧ Fr n0 L ∧ h = h0
set_option maxRecDepth 65536 in
set_option maxHeartbeats 40000000 in
theorem rm10 (l : Launch) (Z : State) (a0 : Array Value) (hw : ∀ d ∈ tables_1, d.before a0 Z = true) (ws : List Jvm.Cond) (a1 : Addr) (bd : Addr) (a2 : Addr) (a3 : Addr) (p4 : Int32) (a5 : Addr) (p6 : Int32) (kb : ClassId) (r0 : Value) (r1 : Value) (r2 : Value) (h0 : Heap) (n0 : Nat) (Z0 : n0 ≤ h0.size) (HP : own_P Z h0 a1 a2 a3 p4 a5 p6) (VB : Arv Z h0 bd kb (.object "java/lang/String") (3 : Int32) [r0, r1, r2] .null) (hv : own_V p4) (h0r : r0.isRef = true) (h1r : r1.isRef = true) (h2r : r2.isRef = true) :
    MetFree l (⟨"com/example/rulefold/rulefold/CompiledBody$Pattern", "subjectIn", "([Ljava/lang/String;)Ljava/lang/String;"⟩ : MethodName) (head1 (Jvm.Cond.code (⟨"com/example/rulefold/rulefold/CompiledBody$Pattern", "subjectIn", "([Ljava/lang/String;)Ljava/lang/String;"⟩ : MethodName) prog_22_method_3_code 2 (some (.object "java/lang/String")) :: ws) ({ frames := 0, cells := 0, slots := 0, locals := 0 } : Room)) (fun a U => a = #[(.ref a1), (.ref bd)] ∧ Z.Warmed39 U.vm ∧ U.heap = h0) (fun _ _ _ _ _ => True) (fun _ U o U' => ∃ v L, o = .returned v ∧ Q10 Z a1 bd a2 a3 p4 a5 p6 kb r0 r1 r2 h0 n0 v U'.heap L ∧ FrameEnd U o U' L ({ frames := 0, cells := 0, slots := 0, locals := 0 } : Room).cells ({ frames := 0, cells := 0, slots := 0, locals := 0 } : Room).slots) := by
  refine MetFree.of_bodySF pn_10 hisR ?_
  intro p e s m args below meth c s₁ Bd hml0 hP hK
  obtain ⟨rfl, hZ, hh⟩ := hP
  have hx := Bd.exec
  have hby := Bd.bytes
  have hml : c.maxLocals = 2 := hml0
  have hown : s.vm.findClass "com/example/rulefold/rulefold/CompiledBody$Pattern" = some m.cls := findClass_of_methodNamed Bd.named
  have hnm := (name_of_methodNamed Bd.named Bd.method).1
  have X0 : Stand p l e ({ frames := 0, cells := 0, slots := 0, locals := 0 } : Room) s m #[(.ref a1), (.ref bd)] below meth c s₁ [] 0 0 := Stand.of_body Bd
  have e0 : s₁.heap = h0 := by rw [← hh, Bd.state]; rfl
  have N0 := Fr.nil n0
  show Goes p.tables e below (Ends below s (Q10 Z a1 bd a2 a3 p4 a5 p6 kb r0 r1 r2 h0 n0) ({ frames := 0, cells := 0, slots := 0, locals := 0 } : Room).cells ({ frames := 0, cells := 0, slots := 0, locals := 0 } : Room).slots) (s₁.setTop (entryFrame m #[(.ref a1), (.ref bd)] 2))
  refine Goes.cast (ef_10 m a1 bd) ?_
  refine Goes.st (fun _ k => XS.aloadN X0.here hx rfl (hb hby d10_0) rfl rfl k) ?_
  show Goes _ _ _ _ (s₁.setTop (mkF m 1 #[.val (.ref a1), .val (.ref bd)] [(.ref a1)]))
  obtain ⟨T34, X34, e34, st34⟩ := getF X0 hx hZ hown (host := "") (Or.inl (hw _ (List.mem_of_getElem? (i := 51) rfl))) Via.refl e0 HP.2.2.2.1 (g := (mkF m 1 #[.val (.ref a1), .val (.ref bd)] [(.ref a1)])) rfl rfl (hb hby d10_1)
  refine Goes.st st34 ?_
  show Goes _ _ _ _ (T34.setTop (mkF m 4 #[.val (.ref a1), .val (.ref bd)] [(.int p4)]))
  refine Goes.st (fun _ k => XS.iconst X34.here hx rfl (hb hby d10_4) k) ?_
  show Goes _ _ _ _ (T34.setTop (mkF m 5 #[.val (.ref a1), .val (.ref bd)] [(.int (-1 : Int32)), (.int p4)]))
  by_cases hc : p4 = (-1 : Int32)
  · skip
    refine Goes.st (fun _ k => XS.icmpNo X34.here hx rfl (hb hby d10_5) rfl (teq hc).2 k) ?_
    show Goes _ _ _ _ (T34.setTop (mkF m 8 #[.val (.ref a1), .val (.ref bd)] []))
    refine Goes.st (fun _ k => XS.aloadN X34.here hx rfl (hb hby d10_8) rfl rfl k) ?_
    show Goes _ _ _ _ (T34.setTop (mkF m 9 #[.val (.ref a1), .val (.ref bd)] [(.ref a1)]))
    obtain ⟨T35, X35, e35, st35⟩ := getF X34 hx hZ hown (host := "") (Or.inl (hw _ (List.mem_of_getElem? (i := 49) rfl))) Via.refl e34 HP.2.2.1 (g := (mkF m 9 #[.val (.ref a1), .val (.ref bd)] [(.ref a1)])) rfl rfl (hb hby d10_9)
    refine Goes.st st35 ?_
    show Goes _ _ _ _ (T35.setTop (mkF m 12 #[.val (.ref a1), .val (.ref bd)] [(.ref a3)]))
    refine Goes.st (fun _ k => XS.goto X35.here hx rfl (pc0 := 12) (pc' := 21) rfl (hb hby d10_12) (by decide) (by decide) k) ?_
    show Goes _ _ _ _ (T35.setTop (mkF m 21 #[.val (.ref a1), .val (.ref bd)] [(.ref a3)]))
    exact leafA X35 hx Bd.notSynchronized Bd.returns rfl rfl (hb hby d10_21) (by decide) (by decide) ⟨by rw [own_pick_m hc], N0, e35⟩
  · skip
    refine Goes.st (fun _ k => XS.icmpYes X34.here hx rfl (pc0 := 5) (pc' := 15) rfl (hb hby d10_5) rfl (feq hc).2 (by decide) (by decide) k) ?_
    show Goes _ _ _ _ (T34.setTop (mkF m 15 #[.val (.ref a1), .val (.ref bd)] []))
    refine Goes.st (fun _ k => XS.aloadN X34.here hx rfl (hb hby d10_15) rfl rfl k) ?_
    show Goes _ _ _ _ (T34.setTop (mkF m 16 #[.val (.ref a1), .val (.ref bd)] [(.ref bd)]))
    refine Goes.st (fun _ k => XS.aloadN X34.here hx rfl (hb hby d10_16) rfl rfl k) ?_
    show Goes _ _ _ _ (T34.setTop (mkF m 17 #[.val (.ref a1), .val (.ref bd)] [(.ref a1), (.ref bd)]))
    obtain ⟨T36, X36, e36, st36⟩ := getF X34 hx hZ hown (host := "") (Or.inl (hw _ (List.mem_of_getElem? (i := 51) rfl))) Via.refl e34 HP.2.2.2.1 (g := (mkF m 17 #[.val (.ref a1), .val (.ref bd)] [(.ref a1), (.ref bd)])) rfl rfl (hb hby d10_17)
    refine Goes.st st36 ?_
    show Goes _ _ _ _ (T36.setTop (mkF m 20 #[.val (.ref a1), .val (.ref bd)] [(.int p4), (.ref bd)]))
    obtain ⟨cl, Ar, q, S, M, H, G⟩ := VB
    have hin : ¬ (p4 < 0 ∨ cl.slots.size ≤ p4.toNatClampNeg) := inb_of S (own_in hv hc)
    have hpr := own_pick_ref (s := p4) (v := .ref a3) (r0 := r0) (r1 := r1) (r2 := r2) rfl h0r h1r h2r
    refine Goes.st (X36.aaload hx (by rw [e36]; exact Ar.1) (State.isArrayOf_alike hZ.alike Ar.2.1) rfl Ar.2.2 hin (H.at hin (own_pick_at (v := .ref a3) hv hc)) (g := (mkF m 20 #[.val (.ref a1), .val (.ref bd)] [(.int p4), (.ref bd)])) rfl rfl (hb hby d10_20)) ?_
    show Goes _ _ _ _ (T36.setTop (mkF m 21 #[.val (.ref a1), .val (.ref bd)] [(own_pick p4 (.ref a3) r0 r1 r2)]))
    exact leafA X36 hx Bd.notSynchronized Bd.returns rfl hpr (hb hby d10_21) (by decide) (by decide) ⟨rfl, N0, e36⟩
theorem ef_15n (m : MethodId) (p1 : Int32) (a2 : Addr) (bd : Addr) : entryFrame m #[(.int p1), (.ref a2), .null, (.ref bd)] 4 = mkF m 0 #[.val (.int p1), .val (.ref a2), .val .null, .val (.ref bd)] [] := by first | (simp [entryFrame, mkF, argsToLocals, Value.category, maxLocals]; done) | rfl
def Q15n (Z : State) (p1 : Int32) (a2 : Addr) (bd : Addr)  (h0 : Heap) (n0 : Nat) (v : Option Value) (h : Heap) (L : List Loc) : Prop := v = some (.int (1 : Int32)) ∧ Fr n0 L ∧ h = h0
set_option maxRecDepth 65536 in
set_option maxHeartbeats 40000000 in
theorem rm15n (l : Launch) (Z : State) (a0 : Array Value) (hw : ∀ d ∈ tables_1, d.before a0 Z = true) (ws : List Jvm.Cond) (p1 : Int32) (a2 : Addr) (bd : Addr)  (h0 : Heap) (n0 : Nat) (Z0 : n0 ≤ h0.size)  :
    MetFree l (⟨"com/example/rulefold/rulefold/CompiledBody$Pattern", "bind", "(ILjava/lang/String;Ljava/lang/String;[Ljava/lang/String;)Z"⟩ : MethodName) (head1 (Jvm.Cond.code (⟨"com/example/rulefold/rulefold/CompiledBody$Pattern", "bind", "(ILjava/lang/String;Ljava/lang/String;[Ljava/lang/String;)Z"⟩ : MethodName) prog_22_method_7_code 4 (some .boolean) :: ws) ({ frames := 0, cells := 0, slots := 0, locals := 0 } : Room)) (fun a U => a = #[(.int p1), (.ref a2), .null, (.ref bd)] ∧ Z.Warmed39 U.vm ∧ U.heap = h0) (fun _ _ _ _ _ => True) (fun _ U o U' => ∃ v L, o = .returned v ∧ Q15n Z p1 a2 bd  h0 n0 v U'.heap L ∧ FrameEnd U o U' L ({ frames := 0, cells := 0, slots := 0, locals := 0 } : Room).cells ({ frames := 0, cells := 0, slots := 0, locals := 0 } : Room).slots) := by
  refine MetFree.of_bodySF pn_15 hisR ?_
  intro p e s m args below meth c s₁ Bd hml0 hP hK
  obtain ⟨rfl, hZ, hh⟩ := hP
  have hx := Bd.exec
  have hby := Bd.bytes
  have hml : c.maxLocals = 4 := hml0
  have hown : s.vm.findClass "com/example/rulefold/rulefold/CompiledBody$Pattern" = some m.cls := findClass_of_methodNamed Bd.named
  have hnm := (name_of_methodNamed Bd.named Bd.method).1
  have X0 : Stand p l e ({ frames := 0, cells := 0, slots := 0, locals := 0 } : Room) s m #[(.int p1), (.ref a2), .null, (.ref bd)] below meth c s₁ [] 0 0 := Stand.of_body Bd
  have e0 : s₁.heap = h0 := by rw [← hh, Bd.state]; rfl
  have N0 := Fr.nil n0
  show Goes p.tables e below (Ends below s (Q15n Z p1 a2 bd  h0 n0) ({ frames := 0, cells := 0, slots := 0, locals := 0 } : Room).cells ({ frames := 0, cells := 0, slots := 0, locals := 0 } : Room).slots) (s₁.setTop (entryFrame m #[(.int p1), (.ref a2), .null, (.ref bd)] 4))
  refine Goes.cast (ef_15n m p1 a2 bd) ?_
  refine Goes.st (fun _ k => XS.aloadN X0.here hx rfl (hb hby d15_0) rfl rfl k) ?_
  show Goes _ _ _ _ (s₁.setTop (mkF m 1 #[.val (.int p1), .val (.ref a2), .val .null, .val (.ref bd)] [.null]))
  refine Goes.st (fun _ k => XS.ifnonnullNo X0.here hx rfl (hb hby d15_1) rfl k) ?_
  show Goes _ _ _ _ (s₁.setTop (mkF m 4 #[.val (.int p1), .val (.ref a2), .val .null, .val (.ref bd)] []))
  refine Goes.st (fun _ k => XS.iconst X0.here hx rfl (hb hby d15_4) k) ?_
  show Goes _ _ _ _ (s₁.setTop (mkF m 5 #[.val (.int p1), .val (.ref a2), .val .null, .val (.ref bd)] [(.int (1 : Int32))]))
  exact leafZ X0 hx Bd.notSynchronized Bd.returns (hb hby d15_5) (by decide) (by decide) (by decide) ⟨rfl, N0, e0⟩
theorem ef_15 (m : MethodId) (p1 : Int32) (a2 : Addr) (a3 : Addr) (bd : Addr) : entryFrame m #[(.int p1), (.ref a2), (.ref a3), (.ref bd)] 4 = mkF m 0 #[.val (.int p1), .val (.ref a2), .val (.ref a3), .val (.ref bd)] [] := by first | (simp [entryFrame, mkF, argsToLocals, Value.category, maxLocals]; done) | rfl
def Q15 (Z : State) (p1 : Int32) (a2 : Addr) (a3 : Addr) (bd : Addr) (xs : Int32) (xt : Int32) (kb : ClassId) (r0 : Value) (r1 : Value) (r2 : Value) (cs : Int32) (h0 : Heap) (n0 : Nat) (v : Option Value) (h : Heap) (L : List Loc) : Prop := ∃ z, v = some (.int z) ∧ Fr n0 L ∧ (z = 0 ∨ z = 1) ∧ Keep h0 h [bd] ∧ ∃ q0 q1 q2, Arv Z h bd kb (.object "java/lang/String") (3 : Int32) [q0, q1, q2] .null ∧ q0.isRef = true ∧ q1.isRef = true ∧ q2.isRef = true ∧ (z = 1 → ∃ a x, own_pick p1 (.ref a2) q0 q1 q2 = .ref a ∧ own_S Z h a x ∧ own_S Z h a3 x)
set_option maxRecDepth 65536 in
set_option maxHeartbeats 40000000 in
theorem rm15 (l : Launch) (Z : State) (a0 : Array Value) (hw : ∀ d ∈ tables_1, d.before a0 Z = true) (ws : List Jvm.Cond) (p1 : Int32) (a2 : Addr) (a3 : Addr) (bd : Addr) (xs : Int32) (xt : Int32) (kb : ClassId) (r0 : Value) (r1 : Value) (r2 : Value) (cs : Int32) (h0 : Heap) (n0 : Nat) (Z0 : n0 ≤ h0.size) (hv : own_V p1) (S2 : own_S Z h0 a2 xs) (S3 : own_S Z h0 a3 xt) (VB : Arv Z h0 bd kb (.object "java/lang/String") (3 : Int32) [r0, r1, r2] .null) (OB : Ovr Z kb "java/lang/String") (R0 : own_R Z h0 r0) (R1 : own_R Z h0 r1) (R2 : own_R Z h0 r2) (gb : n0 ≤ bd) (XO : Old Z n0 h0) (SC : Sta Z Z.heap "java/lang/String" "COMPACT_STRINGS" "Z" (.int cs)) (hcs : ¬ cs = (0 : Int32)) :
    MetFree l (⟨"com/example/rulefold/rulefold/CompiledBody$Pattern", "bind", "(ILjava/lang/String;Ljava/lang/String;[Ljava/lang/String;)Z"⟩ : MethodName) (head1 (Jvm.Cond.code (⟨"com/example/rulefold/rulefold/CompiledBody$Pattern", "bind", "(ILjava/lang/String;Ljava/lang/String;[Ljava/lang/String;)Z"⟩ : MethodName) prog_22_method_7_code 4 (some .boolean) :: ws) ({ frames := 2, cells := 0, slots := 0, locals := 28 } : Room)) (fun a U => a = #[(.int p1), (.ref a2), (.ref a3), (.ref bd)] ∧ Z.Warmed39 U.vm ∧ U.heap = h0) (fun _ _ _ _ _ => True) (fun _ U o U' => ∃ v L, o = .returned v ∧ Q15 Z p1 a2 a3 bd xs xt kb r0 r1 r2 cs h0 n0 v U'.heap L ∧ FrameEnd U o U' L ({ frames := 2, cells := 0, slots := 0, locals := 28 } : Room).cells ({ frames := 2, cells := 0, slots := 0, locals := 28 } : Room).slots) := by
  refine MetFree.of_bodySF pn_15 hisR ?_
  intro p e s m args below meth c s₁ Bd hml0 hP hK
  obtain ⟨rfl, hZ, hh⟩ := hP
  have hx := Bd.exec
  have hby := Bd.bytes
  have hml : c.maxLocals = 4 := hml0
  have hown : s.vm.findClass "com/example/rulefold/rulefold/CompiledBody$Pattern" = some m.cls := findClass_of_methodNamed Bd.named
  have hnm := (name_of_methodNamed Bd.named Bd.method).1
  have X0 : Stand p l e ({ frames := 2, cells := 0, slots := 0, locals := 28 } : Room) s m #[(.int p1), (.ref a2), (.ref a3), (.ref bd)] below meth c s₁ [] 0 0 := Stand.of_body Bd
  have e0 : s₁.heap = h0 := by rw [← hh, Bd.state]; rfl
  have N0 := Fr.nil n0
  show Goes p.tables e below (Ends below s (Q15 Z p1 a2 a3 bd xs xt kb r0 r1 r2 cs h0 n0) ({ frames := 2, cells := 0, slots := 0, locals := 28 } : Room).cells ({ frames := 2, cells := 0, slots := 0, locals := 28 } : Room).slots) (s₁.setTop (entryFrame m #[(.int p1), (.ref a2), (.ref a3), (.ref bd)] 4))
  refine Goes.cast (ef_15 m p1 a2 a3 bd) ?_
  refine Goes.st (fun _ k => XS.aloadN X0.here hx rfl (hb hby d15_0) rfl rfl k) ?_
  show Goes _ _ _ _ (s₁.setTop (mkF m 1 #[.val (.int p1), .val (.ref a2), .val (.ref a3), .val (.ref bd)] [(.ref a3)]))
  refine Goes.st (fun _ k => XS.ifnonnullYes X0.here hx rfl (pc0 := 1) (pc' := 6) rfl (hb hby d15_1) rfl (by decide) (by decide) k) ?_
  show Goes _ _ _ _ (s₁.setTop (mkF m 6 #[.val (.int p1), .val (.ref a2), .val (.ref a3), .val (.ref bd)] []))
  refine Goes.st (fun _ k => XS.iloadN X0.here hx rfl (hb hby d15_6) rfl k) ?_
  show Goes _ _ _ _ (s₁.setTop (mkF m 7 #[.val (.int p1), .val (.ref a2), .val (.ref a3), .val (.ref bd)] [(.int p1)]))
  refine Goes.st (fun _ k => XS.iconst X0.here hx rfl (hb hby d15_7) k) ?_
  show Goes _ _ _ _ (s₁.setTop (mkF m 8 #[.val (.int p1), .val (.ref a2), .val (.ref a3), .val (.ref bd)] [(.int (-1 : Int32)), (.int p1)]))
  have e01 : ∀ x y : Int32, own_eq x y = 0 ∨ own_eq x y = 1 := fun x y => by unfold own_eq; split; exact Or.inr rfl; exact Or.inl rfl
  have eq1 : ∀ {x y : Int32}, own_eq x y = 1 → x = y := fun {x y} q => Decidable.byContradiction fun r => by rw [own_eq, if_neg r] at q; exact absurd q (by decide)
  by_cases hc : p1 = (-1 : Int32)
  · skip
    refine Goes.st (fun _ k => XS.icmpNo X0.here hx rfl (hb hby d15_8) rfl (teq hc).2 k) ?_
    show Goes _ _ _ _ (s₁.setTop (mkF m 11 #[.val (.int p1), .val (.ref a2), .val (.ref a3), .val (.ref bd)] []))
    refine Goes.st (fun _ k => XS.aloadN X0.here hx rfl (hb hby d15_11) rfl rfl k) ?_
    show Goes _ _ _ _ (s₁.setTop (mkF m 12 #[.val (.int p1), .val (.ref a2), .val (.ref a3), .val (.ref bd)] [(.ref a2)]))
    refine Goes.st (fun _ k => XS.aloadN X0.here hx rfl (hb hby d15_12) rfl rfl k) ?_
    show Goes _ _ _ _ (s₁.setTop (mkF m 13 #[.val (.int p1), .val (.ref a2), .val (.ref a3), .val (.ref bd)] [(.ref a3), (.ref a2)]))
    obtain ⟨cq37, kq37, qa37, qb37, qc37⟩ := isOf hZ e0 S2.1
    obtain ⟨_, _, ⟨T37, L37, k37, n37⟩, -, X37, ⟨Lc37, hQ37, l37, y37, z37⟩, st37⟩ := X0.virtualBack hx (y := (⟨"java/lang/String", "equals", "(Ljava/lang/Object;)Z"⟩ : MethodName)) (z := (⟨"java/lang/String", "equals", "(Ljava/lang/Object;)Z"⟩ : MethodName)) hown (mvT hZ (hw _ (List.mem_of_getElem? (i := 103) rfl))) (mvT hZ (hw _ (List.mem_of_getElem? (i := 99) rfl))) (notFace_of_selects (args := #[]) (mvT hZ (hw _ (List.mem_of_getElem? (i := 101) rfl)))) (mvT hZ (hw _ (List.mem_of_getElem? (i := 101) rfl))) (mvT hZ (hw _ (List.mem_of_getElem? (i := 100) rfl))) (by decide) (backOf (W := 0) (rm17 l Z a0 hw [] a2 a3 xs xt cs h0 n0 Z0 S2 S3 XO SC hcs) hZ (hw _ (List.mem_of_getElem? (i := 102) rfl)) (hw _ (List.mem_of_getElem? (i := 6) rfl)) (by decide) (by decide)) qa37 qc37 (g := (mkF m 13 #[.val (.int p1), .val (.ref a2), .val (.ref a3), .val (.ref bd)] [(.ref a3), (.ref a2)])) rfl (by rw [hml]; rfl) (Steps.refl _) (argsL := [(.ref a3)]) (rest := []) (lenOf pd_17 rfl) rfl (by show 2 * 0 + _ ≤ _; exact Nat.le_of_eq rfl) (hb hby d15_13) (fun _ _ => ⟨rfl, e0, (by decide : 0 + 0 ≤ _), (by decide : 0 + 0 ≤ _)⟩)
    dsimp only [Pt.U, Pt.locs, Pt.cells, Pt.slots] at X37 l37 y37 z37 st37 hQ37
    subst l37 y37 z37
    obtain ⟨rfl, Nq37, eq37⟩ := hQ37
    have N37 := Fr.app N0 Nq37
    refine Goes.tr st37 ?_
    show Goes _ _ _ _ (T37.setTop (mkF m 16 #[.val (.int p1), .val (.ref a2), .val (.ref a3), .val (.ref bd)] [(.int (own_eq xs xt))]))
    exact leafZ X37 hx Bd.notSynchronized Bd.returns (hb hby d15_16) (e01 xs xt) (by decide) (by decide) ⟨_, rfl, N37, e01 xs xt, by rw [eq37]; exact Keep.refl h0 [bd], r0, r1, r2, by rw [eq37]; exact VB, R0.ref, R1.ref, R2.ref, fun q => ⟨a2, xs, own_pick_m hc, by rw [eq37]; exact S2, by rw [eq37, eq1 q]; exact S3⟩⟩
  · skip
    refine Goes.st (fun _ k => XS.icmpYes X0.here hx rfl (pc0 := 8) (pc' := 17) rfl (hb hby d15_8) rfl (feq hc).2 (by decide) (by decide) k) ?_
    show Goes _ _ _ _ (s₁.setTop (mkF m 17 #[.val (.int p1), .val (.ref a2), .val (.ref a3), .val (.ref bd)] []))
    refine Goes.st (fun _ k => XS.aloadN X0.here hx rfl (hb hby d15_17) rfl rfl k) ?_
    show Goes _ _ _ _ (s₁.setTop (mkF m 18 #[.val (.int p1), .val (.ref a2), .val (.ref a3), .val (.ref bd)] [(.ref bd)]))
    refine Goes.st (fun _ k => XS.iloadN X0.here hx rfl (hb hby d15_18) rfl k) ?_
    show Goes _ _ _ _ (s₁.setTop (mkF m 19 #[.val (.int p1), .val (.ref a2), .val (.ref a3), .val (.ref bd)] [(.int p1), (.ref bd)]))
    obtain ⟨cl, Ar, q, S, M, H, G⟩ := id VB
    have hin : ¬ (p1 < 0 ∨ cl.slots.size ≤ p1.toNatClampNeg) := inb_of S (own_in hv hc)
    have hpk := own_pick_at (v := .ref a2) (r0 := r0) (r1 := r1) (r2 := r2) hv hc
    have hRp := own_pick_R (v := .ref a2) hc R0 R1 R2
    have hget := H.at hin hpk
    rcases hRp with hnl | ⟨a, x, hrf, Sx⟩
    · skip
      rw [hnl] at hget
      refine Goes.st (X0.aaload hx (by rw [e0]; exact Ar.1) (State.isArrayOf_alike hZ.alike Ar.2.1) rfl Ar.2.2 hin hget (g := (mkF m 19 #[.val (.int p1), .val (.ref a2), .val (.ref a3), .val (.ref bd)] [(.int p1), (.ref bd)])) rfl rfl (hb hby d15_19)) ?_
      show Goes _ _ _ _ (s₁.setTop (mkF m 20 #[.val (.int p1), .val (.ref a2), .val (.ref a3), .val (.ref bd)] [.null]))
      refine Goes.st (fun _ k => XS.ifnonnullNo X0.here hx rfl (hb hby d15_20) rfl k) ?_
      show Goes _ _ _ _ (s₁.setTop (mkF m 23 #[.val (.int p1), .val (.ref a2), .val (.ref a3), .val (.ref bd)] []))
      refine Goes.st (fun _ k => XS.aloadN X0.here hx rfl (hb hby d15_23) rfl rfl k) ?_
      show Goes _ _ _ _ (s₁.setTop (mkF m 24 #[.val (.int p1), .val (.ref a2), .val (.ref a3), .val (.ref bd)] [(.ref bd)]))
      refine Goes.st (fun _ k => XS.iloadN X0.here hx rfl (hb hby d15_24) rfl k) ?_
      show Goes _ _ _ _ (s₁.setTop (mkF m 25 #[.val (.int p1), .val (.ref a2), .val (.ref a3), .val (.ref bd)] [(.int p1), (.ref bd)]))
      refine Goes.st (fun _ k => XS.aloadN X0.here hx rfl (hb hby d15_25) rfl rfl k) ?_
      show Goes _ _ _ _ (s₁.setTop (mkF m 26 #[.val (.int p1), .val (.ref a2), .val (.ref a3), .val (.ref bd)] [(.ref a3), (.int p1), (.ref bd)]))
      obtain ⟨T38, h38, X38, e38, W38, st38⟩ := stR X0 hx hZ e0 Ar (j := p1) (v := (.ref a3)) hin rfl (Sto.ofV Ar q OB (Ins.self S3.1)) (g := (mkF m 26 #[.val (.int p1), .val (.ref a2), .val (.ref a3), .val (.ref bd)] [(.ref a3), (.int p1), (.ref bd)])) rfl rfl (hb hby d15_26)
      refine Goes.st st38 ?_
      show Goes _ _ _ _ (T38.setTop (mkF m 27 #[.val (.int p1), .val (.ref a2), .val (.ref a3), .val (.ref bd)] []))
      have N38 := Fr.snoc X38 N0 gb
      obtain ⟨hln, q0, q1, q2, hset, hpick, hr0, hr1, hr2⟩ := own_put hv hc (.ref a2) (.ref a3) r0 r1 r2 rfl R0.ref R1.ref R2.ref
      have V1 := Arv.set Ar q S M H G rfl W38 _ rfl hln
      rw [hset] at V1
      have K1 := Keep.of_wr W38
      refine Goes.st (fun _ k => XS.iconst X38.here hx rfl (hb hby d15_27) k) ?_
      show Goes _ _ _ _ (T38.setTop (mkF m 28 #[.val (.int p1), .val (.ref a2), .val (.ref a3), .val (.ref bd)] [(.int (1 : Int32))]))
      exact leafZ X38 hx Bd.notSynchronized Bd.returns (hb hby d15_28) (by decide) (by decide) (by decide) ⟨_, rfl, N38, Or.inr rfl, by rw [e38]; exact K1, q0, q1, q2, by rw [e38]; exact V1, hr0, hr1, hr2, fun _ => ⟨a3, xt, hpick, by rw [e38]; exact S3.keepB (hw _ (List.mem_of_getElem? (i := 14) rfl)) Ar K1, by rw [e38]; exact S3.keepB (hw _ (List.mem_of_getElem? (i := 14) rfl)) Ar K1⟩⟩
    · skip
      rw [hrf] at hget
      refine Goes.st (X0.aaload hx (by rw [e0]; exact Ar.1) (State.isArrayOf_alike hZ.alike Ar.2.1) rfl Ar.2.2 hin hget (g := (mkF m 19 #[.val (.int p1), .val (.ref a2), .val (.ref a3), .val (.ref bd)] [(.int p1), (.ref bd)])) rfl rfl (hb hby d15_19)) ?_
      show Goes _ _ _ _ (s₁.setTop (mkF m 20 #[.val (.int p1), .val (.ref a2), .val (.ref a3), .val (.ref bd)] [(.ref a)]))
      refine Goes.st (fun _ k => XS.ifnonnullYes X0.here hx rfl (pc0 := 20) (pc' := 29) rfl (hb hby d15_20) rfl (by decide) (by decide) k) ?_
      show Goes _ _ _ _ (s₁.setTop (mkF m 29 #[.val (.int p1), .val (.ref a2), .val (.ref a3), .val (.ref bd)] []))
      refine Goes.st (fun _ k => XS.aloadN X0.here hx rfl (hb hby d15_29) rfl rfl k) ?_
      show Goes _ _ _ _ (s₁.setTop (mkF m 30 #[.val (.int p1), .val (.ref a2), .val (.ref a3), .val (.ref bd)] [(.ref bd)]))
      refine Goes.st (fun _ k => XS.iloadN X0.here hx rfl (hb hby d15_30) rfl k) ?_
      show Goes _ _ _ _ (s₁.setTop (mkF m 31 #[.val (.int p1), .val (.ref a2), .val (.ref a3), .val (.ref bd)] [(.int p1), (.ref bd)]))
      refine Goes.st (X0.aaload hx (by rw [e0]; exact Ar.1) (State.isArrayOf_alike hZ.alike Ar.2.1) rfl Ar.2.2 hin hget (g := (mkF m 31 #[.val (.int p1), .val (.ref a2), .val (.ref a3), .val (.ref bd)] [(.int p1), (.ref bd)])) rfl rfl (hb hby d15_31)) ?_
      show Goes _ _ _ _ (s₁.setTop (mkF m 32 #[.val (.int p1), .val (.ref a2), .val (.ref a3), .val (.ref bd)] [(.ref a)]))
      refine Goes.st (fun _ k => XS.aloadN X0.here hx rfl (hb hby d15_32) rfl rfl k) ?_
      show Goes _ _ _ _ (s₁.setTop (mkF m 33 #[.val (.int p1), .val (.ref a2), .val (.ref a3), .val (.ref bd)] [(.ref a3), (.ref a)]))
      obtain ⟨cq39, kq39, qa39, qb39, qc39⟩ := isOf hZ e0 Sx.1
      obtain ⟨_, _, ⟨T39, L39, k39, n39⟩, -, X39, ⟨Lc39, hQ39, l39, y39, z39⟩, st39⟩ := X0.virtualBack hx (y := (⟨"java/lang/String", "equals", "(Ljava/lang/Object;)Z"⟩ : MethodName)) (z := (⟨"java/lang/String", "equals", "(Ljava/lang/Object;)Z"⟩ : MethodName)) hown (mvT hZ (hw _ (List.mem_of_getElem? (i := 103) rfl))) (mvT hZ (hw _ (List.mem_of_getElem? (i := 99) rfl))) (notFace_of_selects (args := #[]) (mvT hZ (hw _ (List.mem_of_getElem? (i := 101) rfl)))) (mvT hZ (hw _ (List.mem_of_getElem? (i := 101) rfl))) (mvT hZ (hw _ (List.mem_of_getElem? (i := 100) rfl))) (by decide) (backOf (W := 0) (rm17 l Z a0 hw [] a a3 x xt cs h0 n0 Z0 Sx S3 XO SC hcs) hZ (hw _ (List.mem_of_getElem? (i := 102) rfl)) (hw _ (List.mem_of_getElem? (i := 6) rfl)) (by decide) (by decide)) qa39 qc39 (g := (mkF m 33 #[.val (.int p1), .val (.ref a2), .val (.ref a3), .val (.ref bd)] [(.ref a3), (.ref a)])) rfl (by rw [hml]; rfl) (Steps.refl _) (argsL := [(.ref a3)]) (rest := []) (lenOf pd_17 rfl) rfl (by show 2 * 0 + _ ≤ _; exact Nat.le_of_eq rfl) (hb hby d15_33) (fun _ _ => ⟨rfl, e0, (by decide : 0 + 0 ≤ _), (by decide : 0 + 0 ≤ _)⟩)
      dsimp only [Pt.U, Pt.locs, Pt.cells, Pt.slots] at X39 l39 y39 z39 st39 hQ39
      subst l39 y39 z39
      obtain ⟨rfl, Nq39, eq39⟩ := hQ39
      have N39 := Fr.app N0 Nq39
      refine Goes.tr st39 ?_
      show Goes _ _ _ _ (T39.setTop (mkF m 36 #[.val (.int p1), .val (.ref a2), .val (.ref a3), .val (.ref bd)] [(.int (own_eq x xt))]))
      exact leafZ X39 hx Bd.notSynchronized Bd.returns (hb hby d15_36) (e01 x xt) (by decide) (by decide) ⟨_, rfl, N39, e01 x xt, by rw [eq39]; exact Keep.refl h0 [bd], r0, r1, r2, by rw [eq39]; exact VB, R0.ref, R1.ref, R2.ref, fun q => ⟨a, x, hrf, by rw [eq39]; exact Sx, by rw [eq39, eq1 q]; exact S3⟩⟩
theorem ef_12 (m : MethodId) (a1 : Addr) (tr : Addr) (bd : Addr) : entryFrame m #[(.ref a1), (.ref tr), (.ref bd)] 3 = mkF m 0 #[.val (.ref a1), .val (.ref tr), .val (.ref bd)] [] := by first | (simp [entryFrame, mkF, argsToLocals, Value.category, maxLocals]; done) | rfl
def Q12 (Z : State) (a1 : Addr) (tr : Addr) (bd : Addr) (a2 : Addr) (a3 : Addr) (p4 : Int32) (a5 : Addr) (p6 : Int32) (at_ : Addr) (xs : Int32) (xt : Int32) (kb : ClassId) (r0 : Value) (r1 : Value) (r2 : Value) (cs : Int32) (h0 : Heap) (n0 : Nat) (v : Option Value) (h : Heap) (L : List Loc) : Prop := ∃ z, v = some (.int z) ∧ Fr n0 L ∧ (z = 0 ∨ z = 1) ∧ Keep h0 h [bd] ∧ ∃ q0 q1 q2, Arv Z h bd kb (.object "java/lang/String") (3 : Int32) [q0, q1, q2] .null ∧ q0.isRef = true ∧ q1.isRef = true ∧ q2.isRef = true ∧ (z = 1 → ∃ a x, own_pick p4 (.ref a3) q0 q1 q2 = .ref a ∧ own_S Z h a x ∧ own_S Z h at_ x)
set_option maxRecDepth 65536 in
set_option maxHeartbeats 40000000 in
theorem rm12 (l : Launch) (Z : State) (a0 : Array Value) (hw : ∀ d ∈ tables_1, d.before a0 Z = true) (ws : List Jvm.Cond) (a1 : Addr) (tr : Addr) (bd : Addr) (a2 : Addr) (a3 : Addr) (p4 : Int32) (a5 : Addr) (p6 : Int32) (at_ : Addr) (xs : Int32) (xt : Int32) (kb : ClassId) (r0 : Value) (r1 : Value) (r2 : Value) (cs : Int32) (h0 : Heap) (n0 : Nat) (Z0 : n0 ≤ h0.size) (HP : own_P Z h0 a1 a2 a3 p4 a5 p6) (HT : own_T Z h0 tr at_) (hv : own_V p4) (S2 : own_S Z h0 a3 xs) (S3 : own_S Z h0 at_ xt) (VB : Arv Z h0 bd kb (.object "java/lang/String") (3 : Int32) [r0, r1, r2] .null) (OB : Ovr Z kb "java/lang/String") (R0 : own_R Z h0 r0) (R1 : own_R Z h0 r1) (R2 : own_R Z h0 r2) (gb : n0 ≤ bd) (XO : Old Z n0 h0) (SC : Sta Z Z.heap "java/lang/String" "COMPACT_STRINGS" "Z" (.int cs)) (hcs : ¬ cs = (0 : Int32)) :
    MetFree l (⟨"com/example/rulefold/rulefold/CompiledBody$Pattern", "unify", "(Lcom/example/rulefold/rulefold/Triple;[Ljava/lang/String;)Z"⟩ : MethodName) (head1 (Jvm.Cond.code (⟨"com/example/rulefold/rulefold/CompiledBody$Pattern", "unify", "(Lcom/example/rulefold/rulefold/Triple;[Ljava/lang/String;)Z"⟩ : MethodName) prog_22_method_6_code 3 (some .boolean) :: ws) ({ frames := 3, cells := 0, slots := 0, locals := 43 } : Room)) (fun a U => a = #[(.ref a1), (.ref tr), (.ref bd)] ∧ Z.Warmed39 U.vm ∧ U.heap = h0) (fun _ _ _ _ _ => True) (fun _ U o U' => ∃ v L, o = .returned v ∧ Q12 Z a1 tr bd a2 a3 p4 a5 p6 at_ xs xt kb r0 r1 r2 cs h0 n0 v U'.heap L ∧ FrameEnd U o U' L ({ frames := 3, cells := 0, slots := 0, locals := 43 } : Room).cells ({ frames := 3, cells := 0, slots := 0, locals := 43 } : Room).slots) := by
  refine MetFree.of_bodySF pn_12 hisR ?_
  intro p e s m args below meth c s₁ Bd hml0 hP hK
  obtain ⟨rfl, hZ, hh⟩ := hP
  have hx := Bd.exec
  have hby := Bd.bytes
  have hml : c.maxLocals = 3 := hml0
  have hown : s.vm.findClass "com/example/rulefold/rulefold/CompiledBody$Pattern" = some m.cls := findClass_of_methodNamed Bd.named
  have hnm := (name_of_methodNamed Bd.named Bd.method).1
  have X0 : Stand p l e ({ frames := 3, cells := 0, slots := 0, locals := 43 } : Room) s m #[(.ref a1), (.ref tr), (.ref bd)] below meth c s₁ [] 0 0 := Stand.of_body Bd
  have e0 : s₁.heap = h0 := by rw [← hh, Bd.state]; rfl
  have N0 := Fr.nil n0
  show Goes p.tables e below (Ends below s (Q12 Z a1 tr bd a2 a3 p4 a5 p6 at_ xs xt kb r0 r1 r2 cs h0 n0) ({ frames := 3, cells := 0, slots := 0, locals := 43 } : Room).cells ({ frames := 3, cells := 0, slots := 0, locals := 43 } : Room).slots) (s₁.setTop (entryFrame m #[(.ref a1), (.ref tr), (.ref bd)] 3))
  refine Goes.cast (ef_12 m a1 tr bd) ?_
  have nP : a1 ≠ bd := by obtain ⟨cb, Ab, -⟩ := id VB; exact ne_arr HP.1 (hw _ (List.mem_of_getElem? (i := 36) rfl)) Ab
  have nT : tr ≠ bd := by obtain ⟨cb, Ab, -⟩ := id VB; exact ne_arr HT.1 (hw _ (List.mem_of_getElem? (i := 63) rfl)) Ab
  refine Goes.st (fun _ k => XS.aloadN X0.here hx rfl (hb hby d12_0) rfl rfl k) ?_
  show Goes _ _ _ _ (s₁.setTop (mkF m 1 #[.val (.ref a1), .val (.ref tr), .val (.ref bd)] [(.ref tr)]))
  obtain ⟨cq40, kq40, qa40, qb40, qc40⟩ := isOf hZ e0 HT.1
  obtain ⟨_, _, ⟨T40, L40, k40, n40⟩, -, X40, ⟨Lc40, hQ40, l40, y40, z40⟩, st40⟩ := X0.virtualBack hx (y := (⟨"com/example/rulefold/rulefold/Triple", "relation", "()Ljava/lang/String;"⟩ : MethodName)) (z := (⟨"com/example/rulefold/rulefold/Triple", "relation", "()Ljava/lang/String;"⟩ : MethodName)) hown (mvT hZ (hw _ (List.mem_of_getElem? (i := 80) rfl))) (mvT hZ (hw _ (List.mem_of_getElem? (i := 81) rfl))) (notFace_of_selects (args := #[]) (mvT hZ (hw _ (List.mem_of_getElem? (i := 83) rfl)))) (mvT hZ (hw _ (List.mem_of_getElem? (i := 83) rfl))) (mvT hZ (hw _ (List.mem_of_getElem? (i := 82) rfl))) (by decide) (backOf (W := 0) (rm13 l Z a0 hw [] tr h0 n0 Z0 HT.2.2.1) hZ (hw _ (List.mem_of_getElem? (i := 84) rfl)) (hw _ (List.mem_of_getElem? (i := 64) rfl)) (by decide) (by decide)) qa40 qc40 (g := (mkF m 1 #[.val (.ref a1), .val (.ref tr), .val (.ref bd)] [(.ref tr)])) rfl (by rw [hml]; rfl) (Steps.refl _) (argsL := []) (rest := []) (lenOf pd_13 rfl) rfl (by show 2 * 0 + _ ≤ _; exact Nat.le_of_eq rfl) (hb hby d12_1) (fun _ _ => ⟨rfl, e0, (by decide : 0 + 0 ≤ _), (by decide : 0 + 0 ≤ _)⟩)
  dsimp only [Pt.U, Pt.locs, Pt.cells, Pt.slots] at X40 l40 y40 z40 st40 hQ40
  subst l40 y40 z40
  obtain ⟨rfl, Nq40, eq40⟩ := hQ40
  have N40 := Fr.app N0 Nq40
  refine Goes.tr st40 ?_
  show Goes _ _ _ _ (T40.setTop (mkF m 4 #[.val (.ref a1), .val (.ref tr), .val (.ref bd)] [.null]))
  refine Goes.st (fun _ k => XS.ifnullYes X40.here hx rfl (pc0 := 4) (pc' := 21) rfl (hb hby d12_4) rfl (by decide) (by decide) k) ?_
  show Goes _ _ _ _ (T40.setTop (mkF m 21 #[.val (.ref a1), .val (.ref tr), .val (.ref bd)] []))
  refine Goes.st (fun _ k => XS.aloadN X40.here hx rfl (hb hby d12_21) rfl rfl k) ?_
  show Goes _ _ _ _ (T40.setTop (mkF m 22 #[.val (.ref a1), .val (.ref tr), .val (.ref bd)] [(.ref a1)]))
  obtain ⟨T41, X41, e41, st41⟩ := getF X40 hx hZ hown (host := "") (Or.inl (hw _ (List.mem_of_getElem? (i := 51) rfl))) Via.refl eq40 HP.2.2.2.1 (g := (mkF m 22 #[.val (.ref a1), .val (.ref tr), .val (.ref bd)] [(.ref a1)])) rfl rfl (hb hby d12_22)
  refine Goes.st st41 ?_
  show Goes _ _ _ _ (T41.setTop (mkF m 25 #[.val (.ref a1), .val (.ref tr), .val (.ref bd)] [(.int p4)]))
  refine Goes.st (fun _ k => XS.aloadN X41.here hx rfl (hb hby d12_25) rfl rfl k) ?_
  show Goes _ _ _ _ (T41.setTop (mkF m 26 #[.val (.ref a1), .val (.ref tr), .val (.ref bd)] [(.ref a1), (.int p4)]))
  obtain ⟨T42, X42, e42, st42⟩ := getF X41 hx hZ hown (host := "") (Or.inl (hw _ (List.mem_of_getElem? (i := 49) rfl))) Via.refl e41 HP.2.2.1 (g := (mkF m 26 #[.val (.ref a1), .val (.ref tr), .val (.ref bd)] [(.ref a1), (.int p4)])) rfl rfl (hb hby d12_26)
  refine Goes.st st42 ?_
  show Goes _ _ _ _ (T42.setTop (mkF m 29 #[.val (.ref a1), .val (.ref tr), .val (.ref bd)] [(.ref a3), (.int p4)]))
  refine Goes.st (fun _ k => XS.aloadN X42.here hx rfl (hb hby d12_29) rfl rfl k) ?_
  show Goes _ _ _ _ (T42.setTop (mkF m 30 #[.val (.ref a1), .val (.ref tr), .val (.ref bd)] [(.ref tr), (.ref a3), (.int p4)]))
  obtain ⟨cq43, kq43, qa43, qb43, qc43⟩ := isOf hZ e42 HT.1
  obtain ⟨_, _, ⟨T43, L43, k43, n43⟩, -, X43, ⟨Lc43, hQ43, l43, y43, z43⟩, st43⟩ := X42.virtualBack hx (y := (⟨"com/example/rulefold/rulefold/Triple", "subject", "()Ljava/lang/String;"⟩ : MethodName)) (z := (⟨"com/example/rulefold/rulefold/Triple", "subject", "()Ljava/lang/String;"⟩ : MethodName)) hown (mvT hZ (hw _ (List.mem_of_getElem? (i := 85) rfl))) (mvT hZ (hw _ (List.mem_of_getElem? (i := 86) rfl))) (notFace_of_selects (args := #[]) (mvT hZ (hw _ (List.mem_of_getElem? (i := 88) rfl)))) (mvT hZ (hw _ (List.mem_of_getElem? (i := 88) rfl))) (mvT hZ (hw _ (List.mem_of_getElem? (i := 87) rfl))) (by decide) (backOf (W := 2) (rm14 l Z a0 hw [] tr at_ h0 n0 Z0 HT.2.1) hZ (hw _ (List.mem_of_getElem? (i := 89) rfl)) (hw _ (List.mem_of_getElem? (i := 64) rfl)) (by decide) (by decide)) qa43 qc43 (g := (mkF m 30 #[.val (.ref a1), .val (.ref tr), .val (.ref bd)] [(.ref tr), (.ref a3), (.int p4)])) rfl (by rw [hml]; rfl) (Steps.refl _) (argsL := []) (rest := [(.ref a3), (.int p4)]) (lenOf pd_14 rfl) rfl (by show 2 * 0 + _ ≤ _; exact Nat.le_of_eq rfl) (hb hby d12_30) (fun _ _ => ⟨rfl, e42, (by decide : 0 + 0 ≤ _), (by decide : 0 + 0 ≤ _)⟩)
  dsimp only [Pt.U, Pt.locs, Pt.cells, Pt.slots] at X43 l43 y43 z43 st43 hQ43
  subst l43 y43 z43
  obtain ⟨rfl, Nq43, eq43⟩ := hQ43
  have N43 := Fr.app N40 Nq43
  refine Goes.tr st43 ?_
  show Goes _ _ _ _ (T43.setTop (mkF m 33 #[.val (.ref a1), .val (.ref tr), .val (.ref bd)] [(.ref at_), (.ref a3), (.int p4)]))
  refine Goes.st (fun _ k => XS.aloadN X43.here hx rfl (hb hby d12_33) rfl rfl k) ?_
  show Goes _ _ _ _ (T43.setTop (mkF m 34 #[.val (.ref a1), .val (.ref tr), .val (.ref bd)] [(.ref bd), (.ref at_), (.ref a3), (.int p4)]))
  obtain ⟨_, _, ⟨T44, L44, k44, n44⟩, -, X44, ⟨Lc44, hQ44, l44, y44, z44⟩, st44⟩ := Jvm.LawKit.callS X43 hx (y := (⟨"com/example/rulefold/rulefold/CompiledBody$Pattern", "bind", "(ILjava/lang/String;Ljava/lang/String;[Ljava/lang/String;)Z"⟩ : MethodName)) hown (mvT hZ (hw _ (List.mem_of_getElem? (i := 90) rfl))) (mvT hZ (hw _ (List.mem_of_getElem? (i := 91) rfl))) (mvT hZ (hw _ (List.mem_of_getElem? (i := 37) rfl))) (mvT hZ (hw _ (List.mem_of_getElem? (i := 92) rfl))) (by decide) (backOf (W := 0) (rm15 l Z a0 hw [] p4 a3 at_ bd xs xt kb r0 r1 r2 cs h0 n0 Z0 hv S2 S3 VB OB R0 R1 R2 gb XO SC hcs) hZ (hw _ (List.mem_of_getElem? (i := 92) rfl)) (hw _ (List.mem_of_getElem? (i := 37) rfl)) (by decide) (by decide)) (g := (mkF m 34 #[.val (.ref a1), .val (.ref tr), .val (.ref bd)] [(.ref bd), (.ref at_), (.ref a3), (.int p4)])) rfl (by rw [hml]; rfl) (argsL := [(.int p4), (.ref a3), (.ref at_), (.ref bd)]) (rest := []) (lenOf pd_15 rfl) rfl (by show 2 * 0 + _ ≤ _; exact Nat.le_of_eq rfl) (hb hby d12_34) (fun _ _ => ⟨rfl, eq43, (by decide : 0 + 0 ≤ _), (by decide : 0 + 0 ≤ _)⟩)
  dsimp only [Pt.U, Pt.locs, Pt.cells, Pt.slots] at X44 l44 y44 z44 st44 hQ44
  subst l44 y44 z44
  obtain ⟨z44, rfl, Nq44, hz44, Kq44, q0, q1, q2, V44, hr0, hr1, hr2, HZ⟩ := hQ44
  have N44 := Fr.app N43 Nq44
  refine Goes.st st44 ?_
  show Goes _ _ _ _ (T44.setTop (mkF m 37 #[.val (.ref a1), .val (.ref tr), .val (.ref bd)] [(.int z44)]))
  rcases hz44 with hz | hz
  · skip
    refine Goes.st (fun _ k => XS.ifYes X44.here hx rfl (pc0 := 37) (pc' := 63) rfl (hb hby d12_37) rfl ((if0 _ _).trans (teq hz).1) (by decide) (by decide) k) ?_
    show Goes _ _ _ _ (T44.setTop (mkF m 63 #[.val (.ref a1), .val (.ref tr), .val (.ref bd)] []))
    refine Goes.st (fun _ k => XS.iconst X44.here hx rfl (hb hby d12_63) k) ?_
    show Goes _ _ _ _ (T44.setTop (mkF m 64 #[.val (.ref a1), .val (.ref tr), .val (.ref bd)] [(.int (0 : Int32))]))
    exact leafZ X44 hx Bd.notSynchronized Bd.returns (hb hby d12_64) (by decide) (by decide) (by decide) ⟨_, rfl, N44, Or.inl rfl, Kq44, q0, q1, q2, V44, hr0, hr1, hr2, fun q => absurd q (by decide)⟩
  · skip
    have hz0 : ¬ z44 = (0 : Int32) := by rw [hz]; decide
    refine Goes.st (fun _ k => XS.ifNo X44.here hx rfl (hb hby d12_37) rfl ((if0 _ _).trans (feq hz0).1) k) ?_
    show Goes _ _ _ _ (T44.setTop (mkF m 40 #[.val (.ref a1), .val (.ref tr), .val (.ref bd)] []))
    have HP2 := HP.keep Kq44 (ninS nP nin0)
    have HT2 := HT.keep Kq44 (ninS nT nin0)
    have Z2 : n0 ≤ T44.heap.size := Nat.le_trans Z0 Kq44.1
    refine Goes.st (fun _ k => XS.aloadN X44.here hx rfl (hb hby d12_40) rfl rfl k) ?_
    show Goes _ _ _ _ (T44.setTop (mkF m 41 #[.val (.ref a1), .val (.ref tr), .val (.ref bd)] [(.ref a1)]))
    obtain ⟨T45, X45, e45, st45⟩ := getF X44 hx hZ hown (host := "") (Or.inl (hw _ (List.mem_of_getElem? (i := 55) rfl))) Via.refl rfl HP2.2.2.2.2.2 (g := (mkF m 41 #[.val (.ref a1), .val (.ref tr), .val (.ref bd)] [(.ref a1)])) rfl rfl (hb hby d12_41)
    refine Goes.st st45 ?_
    show Goes _ _ _ _ (T45.setTop (mkF m 44 #[.val (.ref a1), .val (.ref tr), .val (.ref bd)] [(.int p6)]))
    refine Goes.st (fun _ k => XS.aloadN X45.here hx rfl (hb hby d12_44) rfl rfl k) ?_
    show Goes _ _ _ _ (T45.setTop (mkF m 45 #[.val (.ref a1), .val (.ref tr), .val (.ref bd)] [(.ref a1), (.int p6)]))
    obtain ⟨T46, X46, e46, st46⟩ := getF X45 hx hZ hown (host := "") (Or.inl (hw _ (List.mem_of_getElem? (i := 53) rfl))) Via.refl e45 HP2.2.2.2.2.1 (g := (mkF m 45 #[.val (.ref a1), .val (.ref tr), .val (.ref bd)] [(.ref a1), (.int p6)])) rfl rfl (hb hby d12_45)
    refine Goes.st st46 ?_
    show Goes _ _ _ _ (T46.setTop (mkF m 48 #[.val (.ref a1), .val (.ref tr), .val (.ref bd)] [(.ref a5), (.int p6)]))
    refine Goes.st (fun _ k => XS.aloadN X46.here hx rfl (hb hby d12_48) rfl rfl k) ?_
    show Goes _ _ _ _ (T46.setTop (mkF m 49 #[.val (.ref a1), .val (.ref tr), .val (.ref bd)] [(.ref tr), (.ref a5), (.int p6)]))
    obtain ⟨cq47, kq47, qa47, qb47, qc47⟩ := isOf hZ e46 HT2.1
    obtain ⟨_, _, ⟨T47, L47, k47, n47⟩, -, X47, ⟨Lc47, hQ47, l47, y47, z47⟩, st47⟩ := X46.virtualBack hx (y := (⟨"com/example/rulefold/rulefold/Triple", "object", "()Ljava/lang/String;"⟩ : MethodName)) (z := (⟨"com/example/rulefold/rulefold/Triple", "object", "()Ljava/lang/String;"⟩ : MethodName)) hown (mvT hZ (hw _ (List.mem_of_getElem? (i := 93) rfl))) (mvT hZ (hw _ (List.mem_of_getElem? (i := 94) rfl))) (notFace_of_selects (args := #[]) (mvT hZ (hw _ (List.mem_of_getElem? (i := 96) rfl)))) (mvT hZ (hw _ (List.mem_of_getElem? (i := 96) rfl))) (mvT hZ (hw _ (List.mem_of_getElem? (i := 95) rfl))) (by decide) (backOf (W := 2) (rm16 l Z a0 hw [] tr T44.heap n0 Z2 HT2.2.2.2) hZ (hw _ (List.mem_of_getElem? (i := 97) rfl)) (hw _ (List.mem_of_getElem? (i := 64) rfl)) (by decide) (by decide)) qa47 qc47 (g := (mkF m 49 #[.val (.ref a1), .val (.ref tr), .val (.ref bd)] [(.ref tr), (.ref a5), (.int p6)])) rfl (by rw [hml]; rfl) (Steps.refl _) (argsL := []) (rest := [(.ref a5), (.int p6)]) (lenOf pd_16 rfl) rfl (by show 2 * 0 + _ ≤ _; exact Nat.le_of_eq rfl) (hb hby d12_49) (fun _ _ => ⟨rfl, e46, (by decide : 0 + 0 ≤ _), (by decide : 0 + 0 ≤ _)⟩)
    dsimp only [Pt.U, Pt.locs, Pt.cells, Pt.slots] at X47 l47 y47 z47 st47 hQ47
    subst l47 y47 z47
    obtain ⟨rfl, Nq47, eq47⟩ := hQ47
    have N47 := Fr.app N44 Nq47
    refine Goes.tr st47 ?_
    show Goes _ _ _ _ (T47.setTop (mkF m 52 #[.val (.ref a1), .val (.ref tr), .val (.ref bd)] [.null, (.ref a5), (.int p6)]))
    refine Goes.st (fun _ k => XS.aloadN X47.here hx rfl (hb hby d12_52) rfl rfl k) ?_
    show Goes _ _ _ _ (T47.setTop (mkF m 53 #[.val (.ref a1), .val (.ref tr), .val (.ref bd)] [(.ref bd), .null, (.ref a5), (.int p6)]))
    obtain ⟨_, _, ⟨T48, L48, k48, n48⟩, -, X48, ⟨Lc48, hQ48, l48, y48, z48⟩, st48⟩ := Jvm.LawKit.callS X47 hx (y := (⟨"com/example/rulefold/rulefold/CompiledBody$Pattern", "bind", "(ILjava/lang/String;Ljava/lang/String;[Ljava/lang/String;)Z"⟩ : MethodName)) hown (mvT hZ (hw _ (List.mem_of_getElem? (i := 90) rfl))) (mvT hZ (hw _ (List.mem_of_getElem? (i := 91) rfl))) (mvT hZ (hw _ (List.mem_of_getElem? (i := 37) rfl))) (mvT hZ (hw _ (List.mem_of_getElem? (i := 92) rfl))) (by decide) (backOf (W := 0) (rm15n l Z a0 hw [] p6 a5 bd T44.heap n0 Z2) hZ (hw _ (List.mem_of_getElem? (i := 92) rfl)) (hw _ (List.mem_of_getElem? (i := 37) rfl)) (by decide) (by decide)) (g := (mkF m 53 #[.val (.ref a1), .val (.ref tr), .val (.ref bd)] [(.ref bd), .null, (.ref a5), (.int p6)])) rfl (by rw [hml]; rfl) (argsL := [(.int p6), (.ref a5), .null, (.ref bd)]) (rest := []) (lenOf pd_15 rfl) rfl (by show 2 * 0 + _ ≤ _; exact Nat.le_of_eq rfl) (hb hby d12_53) (fun _ _ => ⟨rfl, eq47, (by decide : 0 + 0 ≤ _), (by decide : 0 + 0 ≤ _)⟩)
    dsimp only [Pt.U, Pt.locs, Pt.cells, Pt.slots] at X48 l48 y48 z48 st48 hQ48
    subst l48 y48 z48
    obtain ⟨rfl, Nq48, eq48⟩ := hQ48
    have N48 := Fr.app N47 Nq48
    refine Goes.st st48 ?_
    show Goes _ _ _ _ (T48.setTop (mkF m 56 #[.val (.ref a1), .val (.ref tr), .val (.ref bd)] [(.int (1 : Int32))]))
    refine Goes.st (fun _ k => XS.ifNo X48.here hx rfl (hb hby d12_56) rfl (by decide) k) ?_
    show Goes _ _ _ _ (T48.setTop (mkF m 59 #[.val (.ref a1), .val (.ref tr), .val (.ref bd)] []))
    refine Goes.st (fun _ k => XS.iconst X48.here hx rfl (hb hby d12_59) k) ?_
    show Goes _ _ _ _ (T48.setTop (mkF m 60 #[.val (.ref a1), .val (.ref tr), .val (.ref bd)] [(.int (1 : Int32))]))
    refine Goes.st (fun _ k => XS.goto X48.here hx rfl (pc0 := 60) (pc' := 64) rfl (hb hby d12_60) (by decide) (by decide) k) ?_
    show Goes _ _ _ _ (T48.setTop (mkF m 64 #[.val (.ref a1), .val (.ref tr), .val (.ref bd)] [(.int (1 : Int32))]))
    exact leafZ X48 hx Bd.notSynchronized Bd.returns (hb hby d12_64) (by decide) (by decide) (by decide) ⟨_, rfl, N48, Or.inr rfl, by rw [eq48]; exact Kq44, q0, q1, q2, by rw [eq48]; exact V44, hr0, hr1, hr2, fun _ => by rw [eq48]; exact HZ hz⟩
theorem ef_0 (m : MethodId) (p1 : Int32) (p2 : Int32) (p3 : Int32) (p4 : Int32) (p5 : Int32) (p6 : Int32) : entryFrame m #[(.int p1), (.int p2), (.int p3), (.int p4), (.int p5), (.int p6)] maxLocals = mkF m 0 #[.val (.int p1), .val (.int p2), .val (.int p3), .val (.int p4), .val (.int p5), .val (.int p6), .unset, .unset, .unset, .unset, .unset, .unset, .unset, .unset, .unset, .unset, .unset, .unset, .unset, .unset, .unset] [] := by first | (simp [entryFrame, mkF, argsToLocals, Value.category, maxLocals]; done) | rfl
def Q0 (Z : State) (p1 : Int32) (p2 : Int32) (p3 : Int32) (p4 : Int32) (p5 : Int32) (p6 : Int32) (cs : Int32) (h0 : Heap) (n0 : Nat) (v : Option Value) (h : Heap) (L : List Loc) : Prop := v = some (.int (1 : Int32)) ∧ Fr n0 L
set_option maxRecDepth 65536 in
set_option maxHeartbeats 40000000 in
theorem rm0 (l : Launch) (Z : State) (a0 : Array Value) (hw : ∀ d ∈ tables_1, d.before a0 Z = true) (ws : List Jvm.Cond) (p1 : Int32) (p2 : Int32) (p3 : Int32) (p4 : Int32) (p5 : Int32) (p6 : Int32) (cs : Int32) (h0 : Heap) (n0 : Nat) (Z0 : n0 ≤ h0.size) (XO : Old Z n0 h0) (SC : Sta Z Z.heap "java/lang/String" "COMPACT_STRINGS" "Z" (.int cs)) (hcs : ¬ cs = (0 : Int32)) :
    MetFree l x (head1 (Jvm.Cond.code x code maxLocals ret :: ws) room_1) (fun a U => a = #[(.int p1), (.int p2), (.int p3), (.int p4), (.int p5), (.int p6)] ∧ Z.Warmed39 U.vm ∧ U.heap = h0) (fun _ _ _ _ _ => True) (fun _ U o U' => ∃ v L, o = .returned v ∧ Q0 Z p1 p2 p3 p4 p5 p6 cs h0 n0 v U'.heap L ∧ FrameEnd U o U' L room_1.cells room_1.slots) := by
  refine MetFree.of_bodySF pn_0 hisR ?_
  intro p e s m args below meth c s₁ Bd hml0 hP hK
  obtain ⟨rfl, hZ, hh⟩ := hP
  have hx := Bd.exec
  have hby := Bd.bytes
  have hml : c.maxLocals = 21 := hml0
  have hown : s.vm.findClass "com/example/rulefold/rulefold/PatternSubjectInPinLaw" = some m.cls := findClass_of_methodNamed Bd.named
  have hnm := (name_of_methodNamed Bd.named Bd.method).1
  have X0 : Stand p l e room_1 s m #[(.int p1), (.int p2), (.int p3), (.int p4), (.int p5), (.int p6)] below meth c s₁ [] 0 0 := Stand.of_body Bd
  have e0 : s₁.heap = h0 := by rw [← hh, Bd.state]; rfl
  have N0 := Fr.nil n0
  show Goes p.tables e below (Ends below s (Q0 Z p1 p2 p3 p4 p5 p6 cs h0 n0) room_1.cells room_1.slots) (s₁.setTop (entryFrame m #[(.int p1), (.int p2), (.int p3), (.int p4), (.int p5), (.int p6)] maxLocals))
  refine Goes.cast (ef_0 m p1 p2 p3 p4 p5 p6) ?_
  refine Goes.st (fun _ k => XS.iloadN X0.here hx rfl (hb hby at_0) rfl k) ?_
  show Goes _ _ _ _ (s₁.setTop (mkF m 1 #[.val (.int p1), .val (.int p2), .val (.int p3), .val (.int p4), .val (.int p5), .val (.int p6), .unset, .unset, .unset, .unset, .unset, .unset, .unset, .unset, .unset, .unset, .unset, .unset, .unset, .unset, .unset] [(.int p1)]))
  obtain ⟨_, _, ⟨T49, L49, k49, n49⟩, -, X49, ⟨Lc49, hQ49, l49, y49, z49⟩, st49⟩ := Jvm.LawKit.callS X0 hx (y := (⟨"com/example/rulefold/rulefold/PatternSubjectInPinLaw", "var", "(I)I"⟩ : MethodName)) hown (mvT hZ (hw _ (List.mem_of_getElem? (i := 0) rfl))) (mvT hZ (hw _ (List.mem_of_getElem? (i := 1) rfl))) (mvT hZ (hw _ (List.mem_of_getElem? (i := 2) rfl))) (mvT hZ (hw _ (List.mem_of_getElem? (i := 3) rfl))) (by decide) (backOf (W := 0) (rm1 l Z a0 hw [] p1 h0 n0 Z0) hZ (hw _ (List.mem_of_getElem? (i := 3) rfl)) (hw _ (List.mem_of_getElem? (i := 2) rfl)) (by decide) (by decide)) (g := (mkF m 1 #[.val (.int p1), .val (.int p2), .val (.int p3), .val (.int p4), .val (.int p5), .val (.int p6), .unset, .unset, .unset, .unset, .unset, .unset, .unset, .unset, .unset, .unset, .unset, .unset, .unset, .unset, .unset] [(.int p1)])) rfl (by rw [hml]; rfl) (argsL := [(.int p1)]) (rest := []) (lenOf pd_1 rfl) rfl (by show 2 * 0 + _ ≤ _; exact Nat.le_of_eq rfl) (hb hby at_1) (fun _ _ => ⟨rfl, e0, (by decide : 0 + 0 ≤ _), (by decide : 0 + 0 ≤ _)⟩)
  dsimp only [Pt.U, Pt.locs, Pt.cells, Pt.slots] at X49 l49 y49 z49 st49 hQ49
  subst l49 y49 z49
  obtain ⟨sv, rfl, Nq49, eq49, hsv⟩ := hQ49
  have N49 := Fr.app N0 Nq49
  refine Goes.st st49 ?_
  show Goes _ _ _ _ (T49.setTop (mkF m 4 #[.val (.int p1), .val (.int p2), .val (.int p3), .val (.int p4), .val (.int p5), .val (.int p6), .unset, .unset, .unset, .unset, .unset, .unset, .unset, .unset, .unset, .unset, .unset, .unset, .unset, .unset, .unset] [(.int sv)]))
  refine Goes.st (fun _ k => XS.istore X49.here hx rfl (hb hby at_4) rfl (l' := #[.val (.int p1), .val (.int p2), .val (.int p3), .val (.int p4), .val (.int p5), .val (.int p6), .val (.int sv), .unset, .unset, .unset, .unset, .unset, .unset, .unset, .unset, .unset, .unset, .unset, .unset, .unset, .unset]) rfl k) ?_
  show Goes _ _ _ _ (T49.setTop (mkF m 6 #[.val (.int p1), .val (.int p2), .val (.int p3), .val (.int p4), .val (.int p5), .val (.int p6), .val (.int sv), .unset, .unset, .unset, .unset, .unset, .unset, .unset, .unset, .unset, .unset, .unset, .unset, .unset, .unset] []))
  refine Goes.st (fun _ k => XS.iload X49.here hx rfl (hb hby at_6) rfl k) ?_
  show Goes _ _ _ _ (T49.setTop (mkF m 8 #[.val (.int p1), .val (.int p2), .val (.int p3), .val (.int p4), .val (.int p5), .val (.int p6), .val (.int sv), .unset, .unset, .unset, .unset, .unset, .unset, .unset, .unset, .unset, .unset, .unset, .unset, .unset, .unset] [(.int p6)]))
  obtain ⟨_, _, ⟨T50, L50, k50, n50⟩, -, X50, ⟨Lc50, hQ50, l50, y50, z50⟩, st50⟩ := Jvm.LawKit.callS X49 hx (y := (⟨"com/example/rulefold/rulefold/PatternSubjectInPinLaw", "var", "(I)I"⟩ : MethodName)) hown (mvT hZ (hw _ (List.mem_of_getElem? (i := 0) rfl))) (mvT hZ (hw _ (List.mem_of_getElem? (i := 1) rfl))) (mvT hZ (hw _ (List.mem_of_getElem? (i := 2) rfl))) (mvT hZ (hw _ (List.mem_of_getElem? (i := 3) rfl))) (by decide) (backOf (W := 0) (rm1 l Z a0 hw [] p6 h0 n0 Z0) hZ (hw _ (List.mem_of_getElem? (i := 3) rfl)) (hw _ (List.mem_of_getElem? (i := 2) rfl)) (by decide) (by decide)) (g := (mkF m 8 #[.val (.int p1), .val (.int p2), .val (.int p3), .val (.int p4), .val (.int p5), .val (.int p6), .val (.int sv), .unset, .unset, .unset, .unset, .unset, .unset, .unset, .unset, .unset, .unset, .unset, .unset, .unset, .unset] [(.int p6)])) rfl (by rw [hml]; rfl) (argsL := [(.int p6)]) (rest := []) (lenOf pd_1 rfl) rfl (by show 2 * 0 + _ ≤ _; exact Nat.le_of_eq rfl) (hb hby at_8) (fun _ _ => ⟨rfl, eq49, (by decide : 0 + 0 ≤ _), (by decide : 0 + 0 ≤ _)⟩)
  dsimp only [Pt.U, Pt.locs, Pt.cells, Pt.slots] at X50 l50 y50 z50 st50 hQ50
  subst l50 y50 z50
  obtain ⟨ov, rfl, Nq50, eq50, hov⟩ := hQ50
  have N50 := Fr.app N49 Nq50
  refine Goes.st st50 ?_
  show Goes _ _ _ _ (T50.setTop (mkF m 11 #[.val (.int p1), .val (.int p2), .val (.int p3), .val (.int p4), .val (.int p5), .val (.int p6), .val (.int sv), .unset, .unset, .unset, .unset, .unset, .unset, .unset, .unset, .unset, .unset, .unset, .unset, .unset, .unset] [(.int ov)]))
  refine Goes.st (fun _ k => XS.istore X50.here hx rfl (hb hby at_11) rfl (l' := #[.val (.int p1), .val (.int p2), .val (.int p3), .val (.int p4), .val (.int p5), .val (.int p6), .val (.int sv), .val (.int ov), .unset, .unset, .unset, .unset, .unset, .unset, .unset, .unset, .unset, .unset, .unset, .unset, .unset]) rfl k) ?_
  show Goes _ _ _ _ (T50.setTop (mkF m 13 #[.val (.int p1), .val (.int p2), .val (.int p3), .val (.int p4), .val (.int p5), .val (.int p6), .val (.int sv), .val (.int ov), .unset, .unset, .unset, .unset, .unset, .unset, .unset, .unset, .unset, .unset, .unset, .unset, .unset] []))
  refine Goes.st (fun _ k => XS.iloadN X50.here hx rfl (hb hby at_13) rfl k) ?_
  show Goes _ _ _ _ (T50.setTop (mkF m 14 #[.val (.int p1), .val (.int p2), .val (.int p3), .val (.int p4), .val (.int p5), .val (.int p6), .val (.int sv), .val (.int ov), .unset, .unset, .unset, .unset, .unset, .unset, .unset, .unset, .unset, .unset, .unset, .unset, .unset] [(.int p2)]))
  refine Goes.st (fun _ k => XS.sipush X50.here hx rfl (hb hby at_14) k) ?_
  show Goes _ _ _ _ (T50.setTop (mkF m 17 #[.val (.int p1), .val (.int p2), .val (.int p3), .val (.int p4), .val (.int p5), .val (.int p6), .val (.int sv), .val (.int ov), .unset, .unset, .unset, .unset, .unset, .unset, .unset, .unset, .unset, .unset, .unset, .unset, .unset] [(.int (255 : Int32)), (.int p2)]))
  refine Goes.st (fun _ k => XS.iand X50.here hx rfl (hb hby at_17) rfl k) ?_
  show Goes _ _ _ _ (T50.setTop (mkF m 18 #[.val (.int p1), .val (.int p2), .val (.int p3), .val (.int p4), .val (.int p5), .val (.int p6), .val (.int sv), .val (.int ov), .unset, .unset, .unset, .unset, .unset, .unset, .unset, .unset, .unset, .unset, .unset, .unset, .unset] [(.int (p2 &&& (255 : Int32)))]))
  refine Goes.st (fun _ k => XS.i2c X50.here hx rfl (hb hby at_18) rfl k) ?_
  show Goes _ _ _ _ (T50.setTop (mkF m 19 #[.val (.int p1), .val (.int p2), .val (.int p3), .val (.int p4), .val (.int p5), .val (.int p6), .val (.int sv), .val (.int ov), .unset, .unset, .unset, .unset, .unset, .unset, .unset, .unset, .unset, .unset, .unset, .unset, .unset] [(.int ((p2 &&& (255 : Int32))).toUInt32.toUInt16.toUInt32.toInt32)]))
  refine Goes.st (fun _ k => XS.istore X50.here hx rfl (hb hby at_19) rfl (l' := #[.val (.int p1), .val (.int p2), .val (.int p3), .val (.int p4), .val (.int p5), .val (.int p6), .val (.int sv), .val (.int ov), .val (.int ((p2 &&& (255 : Int32))).toUInt32.toUInt16.toUInt32.toInt32), .unset, .unset, .unset, .unset, .unset, .unset, .unset, .unset, .unset, .unset, .unset, .unset]) rfl k) ?_
  show Goes _ _ _ _ (T50.setTop (mkF m 21 #[.val (.int p1), .val (.int p2), .val (.int p3), .val (.int p4), .val (.int p5), .val (.int p6), .val (.int sv), .val (.int ov), .val (.int ((p2 &&& (255 : Int32))).toUInt32.toUInt16.toUInt32.toInt32), .unset, .unset, .unset, .unset, .unset, .unset, .unset, .unset, .unset, .unset, .unset, .unset] []))
  refine Goes.st (fun _ k => XS.iload X50.here hx rfl (hb hby at_21) rfl k) ?_
  show Goes _ _ _ _ (T50.setTop (mkF m 23 #[.val (.int p1), .val (.int p2), .val (.int p3), .val (.int p4), .val (.int p5), .val (.int p6), .val (.int sv), .val (.int ov), .val (.int ((p2 &&& (255 : Int32))).toUInt32.toUInt16.toUInt32.toInt32), .unset, .unset, .unset, .unset, .unset, .unset, .unset, .unset, .unset, .unset, .unset, .unset] [(.int ((p2 &&& (255 : Int32))).toUInt32.toUInt16.toUInt32.toInt32)]))
  obtain ⟨_, _, ⟨T51, L51, k51, n51⟩, -, X51, ⟨Lc51, hQ51, l51, y51, z51⟩, st51⟩ := Jvm.LawKit.callS X50 hx (y := (⟨"java/lang/String", "valueOf", "(C)Ljava/lang/String;"⟩ : MethodName)) hown (mvT hZ (hw _ (List.mem_of_getElem? (i := 4) rfl))) (mvT hZ (hw _ (List.mem_of_getElem? (i := 5) rfl))) (mvT hZ (hw _ (List.mem_of_getElem? (i := 6) rfl))) (mvT hZ (hw _ (List.mem_of_getElem? (i := 7) rfl))) (by decide) (backOf (W := 0) (rm2 l Z a0 hw [] ((p2 &&& (255 : Int32))).toUInt32.toUInt16.toUInt32.toInt32 cs h0 n0 Z0 (own_ch _) XO SC hcs) hZ (hw _ (List.mem_of_getElem? (i := 7) rfl)) (hw _ (List.mem_of_getElem? (i := 6) rfl)) (by decide) (by decide)) (g := (mkF m 23 #[.val (.int p1), .val (.int p2), .val (.int p3), .val (.int p4), .val (.int p5), .val (.int p6), .val (.int sv), .val (.int ov), .val (.int ((p2 &&& (255 : Int32))).toUInt32.toUInt16.toUInt32.toInt32), .unset, .unset, .unset, .unset, .unset, .unset, .unset, .unset, .unset, .unset, .unset, .unset] [(.int ((p2 &&& (255 : Int32))).toUInt32.toUInt16.toUInt32.toInt32)])) rfl (by rw [hml]; rfl) (argsL := [(.int ((p2 &&& (255 : Int32))).toUInt32.toUInt16.toUInt32.toInt32)]) (rest := []) (lenOf pd_2 rfl) rfl (by show 2 * 0 + _ ≤ _; exact Nat.le_of_eq rfl) (hb hby at_23) (fun _ _ => ⟨rfl, eq50, (by decide : 0 + 2 ≤ _), (by decide : 0 + 5 ≤ _)⟩)
  dsimp only [Pt.U, Pt.locs, Pt.cells, Pt.slots] at X51 l51 y51 z51 st51 hQ51
  subst l51 y51 z51
  obtain ⟨a_su, x_su, rfl, Nq51, Kq51, S_su⟩ := hQ51
  have N51 := Fr.app N50 Nq51
  refine Goes.st st51 ?_
  show Goes _ _ _ _ (T51.setTop (mkF m 26 #[.val (.int p1), .val (.int p2), .val (.int p3), .val (.int p4), .val (.int p5), .val (.int p6), .val (.int sv), .val (.int ov), .val (.int ((p2 &&& (255 : Int32))).toUInt32.toUInt16.toUInt32.toInt32), .unset, .unset, .unset, .unset, .unset, .unset, .unset, .unset, .unset, .unset, .unset, .unset] [(.ref a_su)]))
  have Zh51 : n0 ≤ T51.heap.size := Nat.le_trans Z0 Kq51.1
  have XO51 : Old Z n0 T51.heap := XO.keep Kq51 all0
  refine Goes.st (fun _ k => XS.astore X51.here hx rfl (hb hby at_26) rfl rfl (l' := #[.val (.int p1), .val (.int p2), .val (.int p3), .val (.int p4), .val (.int p5), .val (.int p6), .val (.int sv), .val (.int ov), .val (.int ((p2 &&& (255 : Int32))).toUInt32.toUInt16.toUInt32.toInt32), .val (.ref a_su), .unset, .unset, .unset, .unset, .unset, .unset, .unset, .unset, .unset, .unset, .unset]) rfl k) ?_
  show Goes _ _ _ _ (T51.setTop (mkF m 28 #[.val (.int p1), .val (.int p2), .val (.int p3), .val (.int p4), .val (.int p5), .val (.int p6), .val (.int sv), .val (.int ov), .val (.int ((p2 &&& (255 : Int32))).toUInt32.toUInt16.toUInt32.toInt32), .val (.ref a_su), .unset, .unset, .unset, .unset, .unset, .unset, .unset, .unset, .unset, .unset, .unset] []))
  refine Goes.st (fun _ k => XS.iload X51.here hx rfl (hb hby at_28) rfl k) ?_
  show Goes _ _ _ _ (T51.setTop (mkF m 30 #[.val (.int p1), .val (.int p2), .val (.int p3), .val (.int p4), .val (.int p5), .val (.int p6), .val (.int sv), .val (.int ov), .val (.int ((p2 &&& (255 : Int32))).toUInt32.toUInt16.toUInt32.toInt32), .val (.ref a_su), .unset, .unset, .unset, .unset, .unset, .unset, .unset, .unset, .unset, .unset, .unset] [(.int p6)]))
  refine Goes.st (fun _ k => XS.bipush X51.here hx rfl (hb hby at_30) k) ?_
  show Goes _ _ _ _ (T51.setTop (mkF m 32 #[.val (.int p1), .val (.int p2), .val (.int p3), .val (.int p4), .val (.int p5), .val (.int p6), .val (.int sv), .val (.int ov), .val (.int ((p2 &&& (255 : Int32))).toUInt32.toUInt16.toUInt32.toInt32), .val (.ref a_su), .unset, .unset, .unset, .unset, .unset, .unset, .unset, .unset, .unset, .unset, .unset] [(.int (8 : Int32)), (.int p6)]))
  refine Goes.st (fun _ k => XS.iushr X51.here hx rfl (hb hby at_32) rfl k) ?_
  show Goes _ _ _ _ (T51.setTop (mkF m 33 #[.val (.int p1), .val (.int p2), .val (.int p3), .val (.int p4), .val (.int p5), .val (.int p6), .val (.int sv), .val (.int ov), .val (.int ((p2 &&& (255 : Int32))).toUInt32.toUInt16.toUInt32.toInt32), .val (.ref a_su), .unset, .unset, .unset, .unset, .unset, .unset, .unset, .unset, .unset, .unset, .unset] [(.int ((p6).toUInt32 >>> (((8 : Int32)) &&& 31).toUInt32).toInt32)]))
  refine Goes.st (fun _ k => XS.sipush X51.here hx rfl (hb hby at_33) k) ?_
  show Goes _ _ _ _ (T51.setTop (mkF m 36 #[.val (.int p1), .val (.int p2), .val (.int p3), .val (.int p4), .val (.int p5), .val (.int p6), .val (.int sv), .val (.int ov), .val (.int ((p2 &&& (255 : Int32))).toUInt32.toUInt16.toUInt32.toInt32), .val (.ref a_su), .unset, .unset, .unset, .unset, .unset, .unset, .unset, .unset, .unset, .unset, .unset] [(.int (255 : Int32)), (.int ((p6).toUInt32 >>> (((8 : Int32)) &&& 31).toUInt32).toInt32)]))
  refine Goes.st (fun _ k => XS.iand X51.here hx rfl (hb hby at_36) rfl k) ?_
  show Goes _ _ _ _ (T51.setTop (mkF m 37 #[.val (.int p1), .val (.int p2), .val (.int p3), .val (.int p4), .val (.int p5), .val (.int p6), .val (.int sv), .val (.int ov), .val (.int ((p2 &&& (255 : Int32))).toUInt32.toUInt16.toUInt32.toInt32), .val (.ref a_su), .unset, .unset, .unset, .unset, .unset, .unset, .unset, .unset, .unset, .unset, .unset] [(.int (((p6).toUInt32 >>> (((8 : Int32)) &&& 31).toUInt32).toInt32 &&& (255 : Int32)))]))
  refine Goes.st (fun _ k => XS.i2c X51.here hx rfl (hb hby at_37) rfl k) ?_
  show Goes _ _ _ _ (T51.setTop (mkF m 38 #[.val (.int p1), .val (.int p2), .val (.int p3), .val (.int p4), .val (.int p5), .val (.int p6), .val (.int sv), .val (.int ov), .val (.int ((p2 &&& (255 : Int32))).toUInt32.toUInt16.toUInt32.toInt32), .val (.ref a_su), .unset, .unset, .unset, .unset, .unset, .unset, .unset, .unset, .unset, .unset, .unset] [(.int ((((p6).toUInt32 >>> (((8 : Int32)) &&& 31).toUInt32).toInt32 &&& (255 : Int32))).toUInt32.toUInt16.toUInt32.toInt32)]))
  obtain ⟨_, _, ⟨T52, L52, k52, n52⟩, -, X52, ⟨Lc52, hQ52, l52, y52, z52⟩, st52⟩ := Jvm.LawKit.callS X51 hx (y := (⟨"java/lang/String", "valueOf", "(C)Ljava/lang/String;"⟩ : MethodName)) hown (mvT hZ (hw _ (List.mem_of_getElem? (i := 4) rfl))) (mvT hZ (hw _ (List.mem_of_getElem? (i := 5) rfl))) (mvT hZ (hw _ (List.mem_of_getElem? (i := 6) rfl))) (mvT hZ (hw _ (List.mem_of_getElem? (i := 7) rfl))) (by decide) (backOf (W := 0) (rm2 l Z a0 hw [] ((((p6).toUInt32 >>> (((8 : Int32)) &&& 31).toUInt32).toInt32 &&& (255 : Int32))).toUInt32.toUInt16.toUInt32.toInt32 cs T51.heap n0 Zh51 (own_ch _) XO51 SC hcs) hZ (hw _ (List.mem_of_getElem? (i := 7) rfl)) (hw _ (List.mem_of_getElem? (i := 6) rfl)) (by decide) (by decide)) (g := (mkF m 38 #[.val (.int p1), .val (.int p2), .val (.int p3), .val (.int p4), .val (.int p5), .val (.int p6), .val (.int sv), .val (.int ov), .val (.int ((p2 &&& (255 : Int32))).toUInt32.toUInt16.toUInt32.toInt32), .val (.ref a_su), .unset, .unset, .unset, .unset, .unset, .unset, .unset, .unset, .unset, .unset, .unset] [(.int ((((p6).toUInt32 >>> (((8 : Int32)) &&& 31).toUInt32).toInt32 &&& (255 : Int32))).toUInt32.toUInt16.toUInt32.toInt32)])) rfl (by rw [hml]; rfl) (argsL := [(.int ((((p6).toUInt32 >>> (((8 : Int32)) &&& 31).toUInt32).toInt32 &&& (255 : Int32))).toUInt32.toUInt16.toUInt32.toInt32)]) (rest := []) (lenOf pd_2 rfl) rfl (by show 2 * 0 + _ ≤ _; exact Nat.le_of_eq rfl) (hb hby at_38) (fun _ _ => ⟨rfl, rfl, (by decide : 2 + 2 ≤ _), (by decide : 5 + 5 ≤ _)⟩)
  dsimp only [Pt.U, Pt.locs, Pt.cells, Pt.slots] at X52 l52 y52 z52 st52 hQ52
  subst l52 y52 z52
  obtain ⟨a_ob, x_ob, rfl, Nq52, Kq52, S_ob⟩ := hQ52
  have N52 := Fr.app N51 Nq52
  refine Goes.st st52 ?_
  show Goes _ _ _ _ (T52.setTop (mkF m 41 #[.val (.int p1), .val (.int p2), .val (.int p3), .val (.int p4), .val (.int p5), .val (.int p6), .val (.int sv), .val (.int ov), .val (.int ((p2 &&& (255 : Int32))).toUInt32.toUInt16.toUInt32.toInt32), .val (.ref a_su), .unset, .unset, .unset, .unset, .unset, .unset, .unset, .unset, .unset, .unset, .unset] [(.ref a_ob)]))
  have Zh52 : n0 ≤ T52.heap.size := Nat.le_trans Zh51 Kq52.1
  have XO52 : Old Z n0 T52.heap := XO51.keep Kq52 all0
  have S_su_52 := S_su.keep Kq52
  refine Goes.st (fun _ k => XS.astore X52.here hx rfl (hb hby at_41) rfl rfl (l' := #[.val (.int p1), .val (.int p2), .val (.int p3), .val (.int p4), .val (.int p5), .val (.int p6), .val (.int sv), .val (.int ov), .val (.int ((p2 &&& (255 : Int32))).toUInt32.toUInt16.toUInt32.toInt32), .val (.ref a_su), .val (.ref a_ob), .unset, .unset, .unset, .unset, .unset, .unset, .unset, .unset, .unset, .unset]) rfl k) ?_
  show Goes _ _ _ _ (T52.setTop (mkF m 43 #[.val (.int p1), .val (.int p2), .val (.int p3), .val (.int p4), .val (.int p5), .val (.int p6), .val (.int sv), .val (.int ov), .val (.int ((p2 &&& (255 : Int32))).toUInt32.toUInt16.toUInt32.toInt32), .val (.ref a_su), .val (.ref a_ob), .unset, .unset, .unset, .unset, .unset, .unset, .unset, .unset, .unset, .unset] []))
  refine Goes.st (fun _ k => XS.iloadN X52.here hx rfl (hb hby at_43) rfl k) ?_
  show Goes _ _ _ _ (T52.setTop (mkF m 44 #[.val (.int p1), .val (.int p2), .val (.int p3), .val (.int p4), .val (.int p5), .val (.int p6), .val (.int sv), .val (.int ov), .val (.int ((p2 &&& (255 : Int32))).toUInt32.toUInt16.toUInt32.toInt32), .val (.ref a_su), .val (.ref a_ob), .unset, .unset, .unset, .unset, .unset, .unset, .unset, .unset, .unset, .unset] [(.int p4)]))
  refine Goes.st (fun _ k => XS.sipush X52.here hx rfl (hb hby at_44) k) ?_
  show Goes _ _ _ _ (T52.setTop (mkF m 47 #[.val (.int p1), .val (.int p2), .val (.int p3), .val (.int p4), .val (.int p5), .val (.int p6), .val (.int sv), .val (.int ov), .val (.int ((p2 &&& (255 : Int32))).toUInt32.toUInt16.toUInt32.toInt32), .val (.ref a_su), .val (.ref a_ob), .unset, .unset, .unset, .unset, .unset, .unset, .unset, .unset, .unset, .unset] [(.int (255 : Int32)), (.int p4)]))
  refine Goes.st (fun _ k => XS.iand X52.here hx rfl (hb hby at_47) rfl k) ?_
  show Goes _ _ _ _ (T52.setTop (mkF m 48 #[.val (.int p1), .val (.int p2), .val (.int p3), .val (.int p4), .val (.int p5), .val (.int p6), .val (.int sv), .val (.int ov), .val (.int ((p2 &&& (255 : Int32))).toUInt32.toUInt16.toUInt32.toInt32), .val (.ref a_su), .val (.ref a_ob), .unset, .unset, .unset, .unset, .unset, .unset, .unset, .unset, .unset, .unset] [(.int (p4 &&& (255 : Int32)))]))
  refine Goes.st (fun _ k => XS.i2c X52.here hx rfl (hb hby at_48) rfl k) ?_
  show Goes _ _ _ _ (T52.setTop (mkF m 49 #[.val (.int p1), .val (.int p2), .val (.int p3), .val (.int p4), .val (.int p5), .val (.int p6), .val (.int sv), .val (.int ov), .val (.int ((p2 &&& (255 : Int32))).toUInt32.toUInt16.toUInt32.toInt32), .val (.ref a_su), .val (.ref a_ob), .unset, .unset, .unset, .unset, .unset, .unset, .unset, .unset, .unset, .unset] [(.int ((p4 &&& (255 : Int32))).toUInt32.toUInt16.toUInt32.toInt32)]))
  obtain ⟨_, _, ⟨T53, L53, k53, n53⟩, -, X53, ⟨Lc53, hQ53, l53, y53, z53⟩, st53⟩ := Jvm.LawKit.callS X52 hx (y := (⟨"java/lang/String", "valueOf", "(C)Ljava/lang/String;"⟩ : MethodName)) hown (mvT hZ (hw _ (List.mem_of_getElem? (i := 4) rfl))) (mvT hZ (hw _ (List.mem_of_getElem? (i := 5) rfl))) (mvT hZ (hw _ (List.mem_of_getElem? (i := 6) rfl))) (mvT hZ (hw _ (List.mem_of_getElem? (i := 7) rfl))) (by decide) (backOf (W := 0) (rm2 l Z a0 hw [] ((p4 &&& (255 : Int32))).toUInt32.toUInt16.toUInt32.toInt32 cs T52.heap n0 Zh52 (own_ch _) XO52 SC hcs) hZ (hw _ (List.mem_of_getElem? (i := 7) rfl)) (hw _ (List.mem_of_getElem? (i := 6) rfl)) (by decide) (by decide)) (g := (mkF m 49 #[.val (.int p1), .val (.int p2), .val (.int p3), .val (.int p4), .val (.int p5), .val (.int p6), .val (.int sv), .val (.int ov), .val (.int ((p2 &&& (255 : Int32))).toUInt32.toUInt16.toUInt32.toInt32), .val (.ref a_su), .val (.ref a_ob), .unset, .unset, .unset, .unset, .unset, .unset, .unset, .unset, .unset, .unset] [(.int ((p4 &&& (255 : Int32))).toUInt32.toUInt16.toUInt32.toInt32)])) rfl (by rw [hml]; rfl) (argsL := [(.int ((p4 &&& (255 : Int32))).toUInt32.toUInt16.toUInt32.toInt32)]) (rest := []) (lenOf pd_2 rfl) rfl (by show 2 * 0 + _ ≤ _; exact Nat.le_of_eq rfl) (hb hby at_49) (fun _ _ => ⟨rfl, rfl, (by decide : 4 + 2 ≤ _), (by decide : 10 + 5 ≤ _)⟩)
  dsimp only [Pt.U, Pt.locs, Pt.cells, Pt.slots] at X53 l53 y53 z53 st53 hQ53
  subst l53 y53 z53
  obtain ⟨a_re, x_re, rfl, Nq53, Kq53, S_re⟩ := hQ53
  have N53 := Fr.app N52 Nq53
  refine Goes.st st53 ?_
  show Goes _ _ _ _ (T53.setTop (mkF m 52 #[.val (.int p1), .val (.int p2), .val (.int p3), .val (.int p4), .val (.int p5), .val (.int p6), .val (.int sv), .val (.int ov), .val (.int ((p2 &&& (255 : Int32))).toUInt32.toUInt16.toUInt32.toInt32), .val (.ref a_su), .val (.ref a_ob), .unset, .unset, .unset, .unset, .unset, .unset, .unset, .unset, .unset, .unset] [(.ref a_re)]))
  have Zh53 : n0 ≤ T53.heap.size := Nat.le_trans Zh52 Kq53.1
  have XO53 : Old Z n0 T53.heap := XO52.keep Kq53 all0
  have S_su_53 := S_su_52.keep Kq53
  have S_ob_53 := S_ob.keep Kq53
  refine Goes.st (fun _ k => XS.astore X53.here hx rfl (hb hby at_52) rfl rfl (l' := #[.val (.int p1), .val (.int p2), .val (.int p3), .val (.int p4), .val (.int p5), .val (.int p6), .val (.int sv), .val (.int ov), .val (.int ((p2 &&& (255 : Int32))).toUInt32.toUInt16.toUInt32.toInt32), .val (.ref a_su), .val (.ref a_ob), .val (.ref a_re), .unset, .unset, .unset, .unset, .unset, .unset, .unset, .unset, .unset]) rfl k) ?_
  show Goes _ _ _ _ (T53.setTop (mkF m 54 #[.val (.int p1), .val (.int p2), .val (.int p3), .val (.int p4), .val (.int p5), .val (.int p6), .val (.int sv), .val (.int ov), .val (.int ((p2 &&& (255 : Int32))).toUInt32.toUInt16.toUInt32.toInt32), .val (.ref a_su), .val (.ref a_ob), .val (.ref a_re), .unset, .unset, .unset, .unset, .unset, .unset, .unset, .unset, .unset] []))
  refine Goes.st (fun _ k => XS.iconst X53.here hx rfl (hb hby at_54) k) ?_
  show Goes _ _ _ _ (T53.setTop (mkF m 55 #[.val (.int p1), .val (.int p2), .val (.int p3), .val (.int p4), .val (.int p5), .val (.int p6), .val (.int sv), .val (.int ov), .val (.int ((p2 &&& (255 : Int32))).toUInt32.toUInt16.toUInt32.toInt32), .val (.ref a_su), .val (.ref a_ob), .val (.ref a_re), .unset, .unset, .unset, .unset, .unset, .unset, .unset, .unset, .unset] [(.int (3 : Int32))]))
  obtain ⟨T54, h54, k54, X54, e54, E54, A54, O54, st54⟩ := newR X53 hx hZ hown (hw _ (List.mem_of_getElem? (i := 30) rfl)) (hw _ (List.mem_of_getElem? (i := 31) rfl)) rfl (g := (mkF m 55 #[.val (.int p1), .val (.int p2), .val (.int p3), .val (.int p4), .val (.int p5), .val (.int p6), .val (.int sv), .val (.int ov), .val (.int ((p2 &&& (255 : Int32))).toUInt32.toUInt16.toUInt32.toInt32), .val (.ref a_su), .val (.ref a_ob), .val (.ref a_re), .unset, .unset, .unset, .unset, .unset, .unset, .unset, .unset, .unset] [(.int (3 : Int32))])) rfl (hb hby at_55) rfl (by decide) (cap := 3) (by decide) (by decide) (by decide) (by decide)
  obtain ⟨b54, g54⟩ : ∃ z, z = (T53.heap).size := ⟨_, rfl⟩
  rw [← g54] at A54 st54
  refine Goes.st st54 ?_
  show Goes _ _ _ _ (T54.setTop (mkF m 58 #[.val (.int p1), .val (.int p2), .val (.int p3), .val (.int p4), .val (.int p5), .val (.int p6), .val (.int sv), .val (.int ov), .val (.int ((p2 &&& (255 : Int32))).toUInt32.toUInt16.toUInt32.toInt32), .val (.ref a_su), .val (.ref a_ob), .val (.ref a_re), .unset, .unset, .unset, .unset, .unset, .unset, .unset, .unset, .unset] [(.ref b54)]))
  have Kn54 : Keep T53.heap h54 [] := (Keep.refl _ []).ext E54
  have VB : Arv Z h54 b54 k54 (.object "java/lang/String") (3 : Int32) [.null, .null, .null] .null := (Arv.new A54 (by decide)).pad (pad_rep [] .null 3)
  have gb : n0 ≤ b54 := Nat.le_trans Zh53 (Nat.le_of_eq g54.symm)
  have Zh54 : n0 ≤ h54.size := Nat.le_trans Zh53 Kn54.1
  have XO54 : Old Z n0 h54 := XO53.keep Kn54 all0
  have S_su_54 := S_su_53.keep Kn54
  have S_ob_54 := S_ob_53.keep Kn54
  have S_re_54 := S_re.keep Kn54
  refine Goes.st (fun _ k => XS.astore X54.here hx rfl (hb hby at_58) rfl rfl (l' := #[.val (.int p1), .val (.int p2), .val (.int p3), .val (.int p4), .val (.int p5), .val (.int p6), .val (.int sv), .val (.int ov), .val (.int ((p2 &&& (255 : Int32))).toUInt32.toUInt16.toUInt32.toInt32), .val (.ref a_su), .val (.ref a_ob), .val (.ref a_re), .val (.ref b54), .unset, .unset, .unset, .unset, .unset, .unset, .unset, .unset]) rfl k) ?_
  show Goes _ _ _ _ (T54.setTop (mkF m 60 #[.val (.int p1), .val (.int p2), .val (.int p3), .val (.int p4), .val (.int p5), .val (.int p6), .val (.int sv), .val (.int ov), .val (.int ((p2 &&& (255 : Int32))).toUInt32.toUInt16.toUInt32.toInt32), .val (.ref a_su), .val (.ref a_ob), .val (.ref a_re), .val (.ref b54), .unset, .unset, .unset, .unset, .unset, .unset, .unset, .unset] []))
  refine Goes.st (fun _ k => XS.aload X54.here hx rfl (hb hby at_60) rfl rfl k) ?_
  show Goes _ _ _ _ (T54.setTop (mkF m 62 #[.val (.int p1), .val (.int p2), .val (.int p3), .val (.int p4), .val (.int p5), .val (.int p6), .val (.int sv), .val (.int ov), .val (.int ((p2 &&& (255 : Int32))).toUInt32.toUInt16.toUInt32.toInt32), .val (.ref a_su), .val (.ref a_ob), .val (.ref a_re), .val (.ref b54), .unset, .unset, .unset, .unset, .unset, .unset, .unset, .unset] [(.ref b54)]))
  refine Goes.st (fun _ k => XS.iconst X54.here hx rfl (hb hby at_62) k) ?_
  show Goes _ _ _ _ (T54.setTop (mkF m 63 #[.val (.int p1), .val (.int p2), .val (.int p3), .val (.int p4), .val (.int p5), .val (.int p6), .val (.int sv), .val (.int ov), .val (.int ((p2 &&& (255 : Int32))).toUInt32.toUInt16.toUInt32.toInt32), .val (.ref a_su), .val (.ref a_ob), .val (.ref a_re), .val (.ref b54), .unset, .unset, .unset, .unset, .unset, .unset, .unset, .unset] [(.int (0 : Int32)), (.ref b54)]))
  refine Goes.st (fun _ k => XS.iloadN X54.here hx rfl (hb hby at_63) rfl k) ?_
  show Goes _ _ _ _ (T54.setTop (mkF m 64 #[.val (.int p1), .val (.int p2), .val (.int p3), .val (.int p4), .val (.int p5), .val (.int p6), .val (.int sv), .val (.int ov), .val (.int ((p2 &&& (255 : Int32))).toUInt32.toUInt16.toUInt32.toInt32), .val (.ref a_su), .val (.ref a_ob), .val (.ref a_re), .val (.ref b54), .unset, .unset, .unset, .unset, .unset, .unset, .unset, .unset] [(.int p3), (.int (0 : Int32)), (.ref b54)]))
  refine Goes.st (fun _ k => XS.iconst X54.here hx rfl (hb hby at_64) k) ?_
  show Goes _ _ _ _ (T54.setTop (mkF m 65 #[.val (.int p1), .val (.int p2), .val (.int p3), .val (.int p4), .val (.int p5), .val (.int p6), .val (.int sv), .val (.int ov), .val (.int ((p2 &&& (255 : Int32))).toUInt32.toUInt16.toUInt32.toInt32), .val (.ref a_su), .val (.ref a_ob), .val (.ref a_re), .val (.ref b54), .unset, .unset, .unset, .unset, .unset, .unset, .unset, .unset] [(.int (0 : Int32)), (.int p3), (.int (0 : Int32)), (.ref b54)]))
  obtain ⟨_, _, ⟨T55, L55, k55, n55⟩, -, X55, ⟨Lc55, hQ55, l55, y55, z55⟩, st55⟩ := Jvm.LawKit.callS X54 hx (y := (⟨"com/example/rulefold/rulefold/PatternSubjectInPinLaw", "slot", "(II)Ljava/lang/String;"⟩ : MethodName)) hown (mvT hZ (hw _ (List.mem_of_getElem? (i := 32) rfl))) (mvT hZ (hw _ (List.mem_of_getElem? (i := 33) rfl))) (mvT hZ (hw _ (List.mem_of_getElem? (i := 2) rfl))) (mvT hZ (hw _ (List.mem_of_getElem? (i := 34) rfl))) (by decide) (backOf (W := 2) (rm7 l Z a0 hw [] p3 (0 : Int32) cs h54 n0 Zh54 XO54 SC hcs) hZ (hw _ (List.mem_of_getElem? (i := 34) rfl)) (hw _ (List.mem_of_getElem? (i := 2) rfl)) (by decide) (by decide)) (g := (mkF m 65 #[.val (.int p1), .val (.int p2), .val (.int p3), .val (.int p4), .val (.int p5), .val (.int p6), .val (.int sv), .val (.int ov), .val (.int ((p2 &&& (255 : Int32))).toUInt32.toUInt16.toUInt32.toInt32), .val (.ref a_su), .val (.ref a_ob), .val (.ref a_re), .val (.ref b54), .unset, .unset, .unset, .unset, .unset, .unset, .unset, .unset] [(.int (0 : Int32)), (.int p3), (.int (0 : Int32)), (.ref b54)])) rfl (by rw [hml]; rfl) (argsL := [(.int p3), (.int (0 : Int32))]) (rest := [(.int (0 : Int32)), (.ref b54)]) (lenOf pd_7 rfl) rfl (by show 2 * 0 + _ ≤ _; exact Nat.le_of_eq rfl) (hb hby at_65) (fun _ _ => ⟨rfl, e54, (by decide : 7 + 2 ≤ _), (by decide : 18 + 5 ≤ _)⟩)
  dsimp only [Pt.U, Pt.locs, Pt.cells, Pt.slots] at X55 l55 y55 z55 st55 hQ55
  subst l55 y55 z55
  obtain ⟨r0, rfl, Nq55, Kq55, R0⟩ := hQ55
  have N55 := Fr.app N53 Nq55
  refine Goes.st st55 ?_
  show Goes _ _ _ _ (T55.setTop (mkF m 68 #[.val (.int p1), .val (.int p2), .val (.int p3), .val (.int p4), .val (.int p5), .val (.int p6), .val (.int sv), .val (.int ov), .val (.int ((p2 &&& (255 : Int32))).toUInt32.toUInt16.toUInt32.toInt32), .val (.ref a_su), .val (.ref a_ob), .val (.ref a_re), .val (.ref b54), .unset, .unset, .unset, .unset, .unset, .unset, .unset, .unset] [r0, (.int (0 : Int32)), (.ref b54)]))
  have Zh55 : n0 ≤ T55.heap.size := Nat.le_trans Zh54 Kq55.1
  have XO55 : Old Z n0 T55.heap := XO54.keep Kq55 all0
  have S_su_55 := S_su_54.keep Kq55
  have S_ob_55 := S_ob_54.keep Kq55
  have S_re_55 := S_re_54.keep Kq55
  have VB_55 := VB.keep Kq55 nin0
  obtain ⟨cl55, Ar55, q55, S55, M55, H55, G55⟩ := id VB_55
  have hin55 : ¬ ((0 : Int32) < 0 ∨ cl55.slots.size ≤ ((0 : Int32)).toNatClampNeg) := inb_of S55 ⟨by decide, by decide⟩
  have Sto55 : Sto Z T55.heap b54 r0 := by rcases R0 with q | ⟨a, x, q, Sx⟩; exact Or.inl q; rw [q]; exact Sto.ofV Ar55 q55 O54 (Ins.self Sx.1)
  obtain ⟨T56, h56, X56, e56, W56, st56⟩ := stR X55 hx hZ rfl Ar55 (j := (0 : Int32)) (v := r0) hin55 rfl Sto55 (g := (mkF m 68 #[.val (.int p1), .val (.int p2), .val (.int p3), .val (.int p4), .val (.int p5), .val (.int p6), .val (.int sv), .val (.int ov), .val (.int ((p2 &&& (255 : Int32))).toUInt32.toUInt16.toUInt32.toInt32), .val (.ref a_su), .val (.ref a_ob), .val (.ref a_re), .val (.ref b54), .unset, .unset, .unset, .unset, .unset, .unset, .unset, .unset] [r0, (.int (0 : Int32)), (.ref b54)])) rfl rfl (hb hby at_68)
  refine Goes.st st56 ?_
  show Goes _ _ _ _ (T56.setTop (mkF m 69 #[.val (.int p1), .val (.int p2), .val (.int p3), .val (.int p4), .val (.int p5), .val (.int p6), .val (.int sv), .val (.int ov), .val (.int ((p2 &&& (255 : Int32))).toUInt32.toUInt16.toUInt32.toInt32), .val (.ref a_su), .val (.ref a_ob), .val (.ref a_re), .val (.ref b54), .unset, .unset, .unset, .unset, .unset, .unset, .unset, .unset] []))
  have N56 := Fr.snoc X56 N55 gb
  have VB_56 : Arv Z h56 b54 k54 (.object "java/lang/String") (3 : Int32) [r0, .null, .null] .null := Arv.set Ar55 q55 S55 M55 H55 G55 (by rcases ref_cases R0.ref with q | ⟨a, q⟩ <;> rw [q] <;> rfl) W56 0 rfl (Nat.le_of_ble_eq_true rfl)
  have Kw56 := Keep.of_wr W56
  have Zh56 : n0 ≤ h56.size := Nat.le_trans Zh55 Kw56.1
  have XO56 : Old Z n0 h56 := XO55.keep Kw56 (allS gb all0)
  have S_su_56 := S_su_55.keepB (hw _ (List.mem_of_getElem? (i := 14) rfl)) Ar55 Kw56
  have S_ob_56 := S_ob_55.keepB (hw _ (List.mem_of_getElem? (i := 14) rfl)) Ar55 Kw56
  have S_re_56 := S_re_55.keepB (hw _ (List.mem_of_getElem? (i := 14) rfl)) Ar55 Kw56
  have R0_56 := R0.keepB (hw _ (List.mem_of_getElem? (i := 14) rfl)) Ar55 Kw56
  refine Goes.st (fun _ k => XS.aload X56.here hx rfl (hb hby at_69) rfl rfl k) ?_
  show Goes _ _ _ _ (T56.setTop (mkF m 71 #[.val (.int p1), .val (.int p2), .val (.int p3), .val (.int p4), .val (.int p5), .val (.int p6), .val (.int sv), .val (.int ov), .val (.int ((p2 &&& (255 : Int32))).toUInt32.toUInt16.toUInt32.toInt32), .val (.ref a_su), .val (.ref a_ob), .val (.ref a_re), .val (.ref b54), .unset, .unset, .unset, .unset, .unset, .unset, .unset, .unset] [(.ref b54)]))
  refine Goes.st (fun _ k => XS.iconst X56.here hx rfl (hb hby at_71) k) ?_
  show Goes _ _ _ _ (T56.setTop (mkF m 72 #[.val (.int p1), .val (.int p2), .val (.int p3), .val (.int p4), .val (.int p5), .val (.int p6), .val (.int sv), .val (.int ov), .val (.int ((p2 &&& (255 : Int32))).toUInt32.toUInt16.toUInt32.toInt32), .val (.ref a_su), .val (.ref a_ob), .val (.ref a_re), .val (.ref b54), .unset, .unset, .unset, .unset, .unset, .unset, .unset, .unset] [(.int (1 : Int32)), (.ref b54)]))
  refine Goes.st (fun _ k => XS.iloadN X56.here hx rfl (hb hby at_72) rfl k) ?_
  show Goes _ _ _ _ (T56.setTop (mkF m 73 #[.val (.int p1), .val (.int p2), .val (.int p3), .val (.int p4), .val (.int p5), .val (.int p6), .val (.int sv), .val (.int ov), .val (.int ((p2 &&& (255 : Int32))).toUInt32.toUInt16.toUInt32.toInt32), .val (.ref a_su), .val (.ref a_ob), .val (.ref a_re), .val (.ref b54), .unset, .unset, .unset, .unset, .unset, .unset, .unset, .unset] [(.int p3), (.int (1 : Int32)), (.ref b54)]))
  refine Goes.st (fun _ k => XS.iconst X56.here hx rfl (hb hby at_73) k) ?_
  show Goes _ _ _ _ (T56.setTop (mkF m 74 #[.val (.int p1), .val (.int p2), .val (.int p3), .val (.int p4), .val (.int p5), .val (.int p6), .val (.int sv), .val (.int ov), .val (.int ((p2 &&& (255 : Int32))).toUInt32.toUInt16.toUInt32.toInt32), .val (.ref a_su), .val (.ref a_ob), .val (.ref a_re), .val (.ref b54), .unset, .unset, .unset, .unset, .unset, .unset, .unset, .unset] [(.int (1 : Int32)), (.int p3), (.int (1 : Int32)), (.ref b54)]))
  obtain ⟨_, _, ⟨T57, L57, k57, n57⟩, -, X57, ⟨Lc57, hQ57, l57, y57, z57⟩, st57⟩ := Jvm.LawKit.callS X56 hx (y := (⟨"com/example/rulefold/rulefold/PatternSubjectInPinLaw", "slot", "(II)Ljava/lang/String;"⟩ : MethodName)) hown (mvT hZ (hw _ (List.mem_of_getElem? (i := 32) rfl))) (mvT hZ (hw _ (List.mem_of_getElem? (i := 33) rfl))) (mvT hZ (hw _ (List.mem_of_getElem? (i := 2) rfl))) (mvT hZ (hw _ (List.mem_of_getElem? (i := 34) rfl))) (by decide) (backOf (W := 2) (rm7 l Z a0 hw [] p3 (1 : Int32) cs h56 n0 Zh56 XO56 SC hcs) hZ (hw _ (List.mem_of_getElem? (i := 34) rfl)) (hw _ (List.mem_of_getElem? (i := 2) rfl)) (by decide) (by decide)) (g := (mkF m 74 #[.val (.int p1), .val (.int p2), .val (.int p3), .val (.int p4), .val (.int p5), .val (.int p6), .val (.int sv), .val (.int ov), .val (.int ((p2 &&& (255 : Int32))).toUInt32.toUInt16.toUInt32.toInt32), .val (.ref a_su), .val (.ref a_ob), .val (.ref a_re), .val (.ref b54), .unset, .unset, .unset, .unset, .unset, .unset, .unset, .unset] [(.int (1 : Int32)), (.int p3), (.int (1 : Int32)), (.ref b54)])) rfl (by rw [hml]; rfl) (argsL := [(.int p3), (.int (1 : Int32))]) (rest := [(.int (1 : Int32)), (.ref b54)]) (lenOf pd_7 rfl) rfl (by show 2 * 0 + _ ≤ _; exact Nat.le_of_eq rfl) (hb hby at_74) (fun _ _ => ⟨rfl, e56, (by decide : 9 + 2 ≤ _), (by decide : 23 + 5 ≤ _)⟩)
  dsimp only [Pt.U, Pt.locs, Pt.cells, Pt.slots] at X57 l57 y57 z57 st57 hQ57
  subst l57 y57 z57
  obtain ⟨r1, rfl, Nq57, Kq57, R1⟩ := hQ57
  have N57 := Fr.app N56 Nq57
  refine Goes.st st57 ?_
  show Goes _ _ _ _ (T57.setTop (mkF m 77 #[.val (.int p1), .val (.int p2), .val (.int p3), .val (.int p4), .val (.int p5), .val (.int p6), .val (.int sv), .val (.int ov), .val (.int ((p2 &&& (255 : Int32))).toUInt32.toUInt16.toUInt32.toInt32), .val (.ref a_su), .val (.ref a_ob), .val (.ref a_re), .val (.ref b54), .unset, .unset, .unset, .unset, .unset, .unset, .unset, .unset] [r1, (.int (1 : Int32)), (.ref b54)]))
  have Zh57 : n0 ≤ T57.heap.size := Nat.le_trans Zh56 Kq57.1
  have XO57 : Old Z n0 T57.heap := XO56.keep Kq57 all0
  have S_su_57 := S_su_56.keep Kq57
  have S_ob_57 := S_ob_56.keep Kq57
  have S_re_57 := S_re_56.keep Kq57
  have VB_57 := VB_56.keep Kq57 nin0
  have R0_57 := R0_56.keep Kq57
  obtain ⟨cl57, Ar57, q57, S57, M57, H57, G57⟩ := id VB_57
  have hin57 : ¬ ((1 : Int32) < 0 ∨ cl57.slots.size ≤ ((1 : Int32)).toNatClampNeg) := inb_of S57 ⟨by decide, by decide⟩
  have Sto57 : Sto Z T57.heap b54 r1 := by rcases R1 with q | ⟨a, x, q, Sx⟩; exact Or.inl q; rw [q]; exact Sto.ofV Ar57 q57 O54 (Ins.self Sx.1)
  obtain ⟨T58, h58, X58, e58, W58, st58⟩ := stR X57 hx hZ rfl Ar57 (j := (1 : Int32)) (v := r1) hin57 rfl Sto57 (g := (mkF m 77 #[.val (.int p1), .val (.int p2), .val (.int p3), .val (.int p4), .val (.int p5), .val (.int p6), .val (.int sv), .val (.int ov), .val (.int ((p2 &&& (255 : Int32))).toUInt32.toUInt16.toUInt32.toInt32), .val (.ref a_su), .val (.ref a_ob), .val (.ref a_re), .val (.ref b54), .unset, .unset, .unset, .unset, .unset, .unset, .unset, .unset] [r1, (.int (1 : Int32)), (.ref b54)])) rfl rfl (hb hby at_77)
  refine Goes.st st58 ?_
  show Goes _ _ _ _ (T58.setTop (mkF m 78 #[.val (.int p1), .val (.int p2), .val (.int p3), .val (.int p4), .val (.int p5), .val (.int p6), .val (.int sv), .val (.int ov), .val (.int ((p2 &&& (255 : Int32))).toUInt32.toUInt16.toUInt32.toInt32), .val (.ref a_su), .val (.ref a_ob), .val (.ref a_re), .val (.ref b54), .unset, .unset, .unset, .unset, .unset, .unset, .unset, .unset] []))
  have N58 := Fr.snoc X58 N57 gb
  have VB_58 : Arv Z h58 b54 k54 (.object "java/lang/String") (3 : Int32) [r0, r1, .null] .null := Arv.set Ar57 q57 S57 M57 H57 G57 (by rcases ref_cases R1.ref with q | ⟨a, q⟩ <;> rw [q] <;> rfl) W58 1 rfl (Nat.le_of_ble_eq_true rfl)
  have Kw58 := Keep.of_wr W58
  have Zh58 : n0 ≤ h58.size := Nat.le_trans Zh57 Kw58.1
  have XO58 : Old Z n0 h58 := XO57.keep Kw58 (allS gb all0)
  have S_su_58 := S_su_57.keepB (hw _ (List.mem_of_getElem? (i := 14) rfl)) Ar57 Kw58
  have S_ob_58 := S_ob_57.keepB (hw _ (List.mem_of_getElem? (i := 14) rfl)) Ar57 Kw58
  have S_re_58 := S_re_57.keepB (hw _ (List.mem_of_getElem? (i := 14) rfl)) Ar57 Kw58
  have R0_58 := R0_57.keepB (hw _ (List.mem_of_getElem? (i := 14) rfl)) Ar57 Kw58
  have R1_58 := R1.keepB (hw _ (List.mem_of_getElem? (i := 14) rfl)) Ar57 Kw58
  refine Goes.st (fun _ k => XS.aload X58.here hx rfl (hb hby at_78) rfl rfl k) ?_
  show Goes _ _ _ _ (T58.setTop (mkF m 80 #[.val (.int p1), .val (.int p2), .val (.int p3), .val (.int p4), .val (.int p5), .val (.int p6), .val (.int sv), .val (.int ov), .val (.int ((p2 &&& (255 : Int32))).toUInt32.toUInt16.toUInt32.toInt32), .val (.ref a_su), .val (.ref a_ob), .val (.ref a_re), .val (.ref b54), .unset, .unset, .unset, .unset, .unset, .unset, .unset, .unset] [(.ref b54)]))
  refine Goes.st (fun _ k => XS.iconst X58.here hx rfl (hb hby at_80) k) ?_
  show Goes _ _ _ _ (T58.setTop (mkF m 81 #[.val (.int p1), .val (.int p2), .val (.int p3), .val (.int p4), .val (.int p5), .val (.int p6), .val (.int sv), .val (.int ov), .val (.int ((p2 &&& (255 : Int32))).toUInt32.toUInt16.toUInt32.toInt32), .val (.ref a_su), .val (.ref a_ob), .val (.ref a_re), .val (.ref b54), .unset, .unset, .unset, .unset, .unset, .unset, .unset, .unset] [(.int (2 : Int32)), (.ref b54)]))
  refine Goes.st (fun _ k => XS.iloadN X58.here hx rfl (hb hby at_81) rfl k) ?_
  show Goes _ _ _ _ (T58.setTop (mkF m 82 #[.val (.int p1), .val (.int p2), .val (.int p3), .val (.int p4), .val (.int p5), .val (.int p6), .val (.int sv), .val (.int ov), .val (.int ((p2 &&& (255 : Int32))).toUInt32.toUInt16.toUInt32.toInt32), .val (.ref a_su), .val (.ref a_ob), .val (.ref a_re), .val (.ref b54), .unset, .unset, .unset, .unset, .unset, .unset, .unset, .unset] [(.int p3), (.int (2 : Int32)), (.ref b54)]))
  refine Goes.st (fun _ k => XS.iconst X58.here hx rfl (hb hby at_82) k) ?_
  show Goes _ _ _ _ (T58.setTop (mkF m 83 #[.val (.int p1), .val (.int p2), .val (.int p3), .val (.int p4), .val (.int p5), .val (.int p6), .val (.int sv), .val (.int ov), .val (.int ((p2 &&& (255 : Int32))).toUInt32.toUInt16.toUInt32.toInt32), .val (.ref a_su), .val (.ref a_ob), .val (.ref a_re), .val (.ref b54), .unset, .unset, .unset, .unset, .unset, .unset, .unset, .unset] [(.int (2 : Int32)), (.int p3), (.int (2 : Int32)), (.ref b54)]))
  obtain ⟨_, _, ⟨T59, L59, k59, n59⟩, -, X59, ⟨Lc59, hQ59, l59, y59, z59⟩, st59⟩ := Jvm.LawKit.callS X58 hx (y := (⟨"com/example/rulefold/rulefold/PatternSubjectInPinLaw", "slot", "(II)Ljava/lang/String;"⟩ : MethodName)) hown (mvT hZ (hw _ (List.mem_of_getElem? (i := 32) rfl))) (mvT hZ (hw _ (List.mem_of_getElem? (i := 33) rfl))) (mvT hZ (hw _ (List.mem_of_getElem? (i := 2) rfl))) (mvT hZ (hw _ (List.mem_of_getElem? (i := 34) rfl))) (by decide) (backOf (W := 2) (rm7 l Z a0 hw [] p3 (2 : Int32) cs h58 n0 Zh58 XO58 SC hcs) hZ (hw _ (List.mem_of_getElem? (i := 34) rfl)) (hw _ (List.mem_of_getElem? (i := 2) rfl)) (by decide) (by decide)) (g := (mkF m 83 #[.val (.int p1), .val (.int p2), .val (.int p3), .val (.int p4), .val (.int p5), .val (.int p6), .val (.int sv), .val (.int ov), .val (.int ((p2 &&& (255 : Int32))).toUInt32.toUInt16.toUInt32.toInt32), .val (.ref a_su), .val (.ref a_ob), .val (.ref a_re), .val (.ref b54), .unset, .unset, .unset, .unset, .unset, .unset, .unset, .unset] [(.int (2 : Int32)), (.int p3), (.int (2 : Int32)), (.ref b54)])) rfl (by rw [hml]; rfl) (argsL := [(.int p3), (.int (2 : Int32))]) (rest := [(.int (2 : Int32)), (.ref b54)]) (lenOf pd_7 rfl) rfl (by show 2 * 0 + _ ≤ _; exact Nat.le_of_eq rfl) (hb hby at_83) (fun _ _ => ⟨rfl, e58, (by decide : 11 + 2 ≤ _), (by decide : 28 + 5 ≤ _)⟩)
  dsimp only [Pt.U, Pt.locs, Pt.cells, Pt.slots] at X59 l59 y59 z59 st59 hQ59
  subst l59 y59 z59
  obtain ⟨r2, rfl, Nq59, Kq59, R2⟩ := hQ59
  have N59 := Fr.app N58 Nq59
  refine Goes.st st59 ?_
  show Goes _ _ _ _ (T59.setTop (mkF m 86 #[.val (.int p1), .val (.int p2), .val (.int p3), .val (.int p4), .val (.int p5), .val (.int p6), .val (.int sv), .val (.int ov), .val (.int ((p2 &&& (255 : Int32))).toUInt32.toUInt16.toUInt32.toInt32), .val (.ref a_su), .val (.ref a_ob), .val (.ref a_re), .val (.ref b54), .unset, .unset, .unset, .unset, .unset, .unset, .unset, .unset] [r2, (.int (2 : Int32)), (.ref b54)]))
  have Zh59 : n0 ≤ T59.heap.size := Nat.le_trans Zh58 Kq59.1
  have XO59 : Old Z n0 T59.heap := XO58.keep Kq59 all0
  have S_su_59 := S_su_58.keep Kq59
  have S_ob_59 := S_ob_58.keep Kq59
  have S_re_59 := S_re_58.keep Kq59
  have VB_59 := VB_58.keep Kq59 nin0
  have R0_59 := R0_58.keep Kq59
  have R1_59 := R1_58.keep Kq59
  obtain ⟨cl59, Ar59, q59, S59, M59, H59, G59⟩ := id VB_59
  have hin59 : ¬ ((2 : Int32) < 0 ∨ cl59.slots.size ≤ ((2 : Int32)).toNatClampNeg) := inb_of S59 ⟨by decide, by decide⟩
  have Sto59 : Sto Z T59.heap b54 r2 := by rcases R2 with q | ⟨a, x, q, Sx⟩; exact Or.inl q; rw [q]; exact Sto.ofV Ar59 q59 O54 (Ins.self Sx.1)
  obtain ⟨T60, h60, X60, e60, W60, st60⟩ := stR X59 hx hZ rfl Ar59 (j := (2 : Int32)) (v := r2) hin59 rfl Sto59 (g := (mkF m 86 #[.val (.int p1), .val (.int p2), .val (.int p3), .val (.int p4), .val (.int p5), .val (.int p6), .val (.int sv), .val (.int ov), .val (.int ((p2 &&& (255 : Int32))).toUInt32.toUInt16.toUInt32.toInt32), .val (.ref a_su), .val (.ref a_ob), .val (.ref a_re), .val (.ref b54), .unset, .unset, .unset, .unset, .unset, .unset, .unset, .unset] [r2, (.int (2 : Int32)), (.ref b54)])) rfl rfl (hb hby at_86)
  refine Goes.st st60 ?_
  show Goes _ _ _ _ (T60.setTop (mkF m 87 #[.val (.int p1), .val (.int p2), .val (.int p3), .val (.int p4), .val (.int p5), .val (.int p6), .val (.int sv), .val (.int ov), .val (.int ((p2 &&& (255 : Int32))).toUInt32.toUInt16.toUInt32.toInt32), .val (.ref a_su), .val (.ref a_ob), .val (.ref a_re), .val (.ref b54), .unset, .unset, .unset, .unset, .unset, .unset, .unset, .unset] []))
  have N60 := Fr.snoc X60 N59 gb
  have VB_60 : Arv Z h60 b54 k54 (.object "java/lang/String") (3 : Int32) [r0, r1, r2] .null := Arv.set Ar59 q59 S59 M59 H59 G59 (by rcases ref_cases R2.ref with q | ⟨a, q⟩ <;> rw [q] <;> rfl) W60 2 rfl (Nat.le_of_ble_eq_true rfl)
  have Kw60 := Keep.of_wr W60
  have Zh60 : n0 ≤ h60.size := Nat.le_trans Zh59 Kw60.1
  have XO60 : Old Z n0 h60 := XO59.keep Kw60 (allS gb all0)
  have S_su_60 := S_su_59.keepB (hw _ (List.mem_of_getElem? (i := 14) rfl)) Ar59 Kw60
  have S_ob_60 := S_ob_59.keepB (hw _ (List.mem_of_getElem? (i := 14) rfl)) Ar59 Kw60
  have S_re_60 := S_re_59.keepB (hw _ (List.mem_of_getElem? (i := 14) rfl)) Ar59 Kw60
  have R0_60 := R0_59.keepB (hw _ (List.mem_of_getElem? (i := 14) rfl)) Ar59 Kw60
  have R1_60 := R1_59.keepB (hw _ (List.mem_of_getElem? (i := 14) rfl)) Ar59 Kw60
  have R2_60 := R2.keepB (hw _ (List.mem_of_getElem? (i := 14) rfl)) Ar59 Kw60
  obtain ⟨T61, h61, X61, e61, E61, A61, D61, -, st61⟩ := newO X60 hx hZ hown (hw _ (List.mem_of_getElem? (i := 35) rfl)) (hw _ (List.mem_of_getElem? (i := 36) rfl)) (hw _ (List.mem_of_getElem? (i := 37) rfl)) e60 (g := (mkF m 87 #[.val (.int p1), .val (.int p2), .val (.int p3), .val (.int p4), .val (.int p5), .val (.int p6), .val (.int sv), .val (.int ov), .val (.int ((p2 &&& (255 : Int32))).toUInt32.toUInt16.toUInt32.toInt32), .val (.ref a_su), .val (.ref a_ob), .val (.ref a_re), .val (.ref b54), .unset, .unset, .unset, .unset, .unset, .unset, .unset, .unset] [])) rfl (hb hby at_87) (by decide) (by decide)
  obtain ⟨a61, g61⟩ : ∃ z, z = (h60).size := ⟨_, rfl⟩
  rw [← g61] at A61 D61 st61
  refine Goes.st st61 ?_
  show Goes _ _ _ _ (T61.setTop (mkF m 90 #[.val (.int p1), .val (.int p2), .val (.int p3), .val (.int p4), .val (.int p5), .val (.int p6), .val (.int sv), .val (.int ov), .val (.int ((p2 &&& (255 : Int32))).toUInt32.toUInt16.toUInt32.toInt32), .val (.ref a_su), .val (.ref a_ob), .val (.ref a_re), .val (.ref b54), .unset, .unset, .unset, .unset, .unset, .unset, .unset, .unset] [(.ref a61)]))
  have F61_relation : Fld Z h61 a61 "com/example/rulefold/rulefold/CompiledBody$Pattern" "relation" "Ljava/lang/String;" .null := D61 (Or.inr (hw _ (List.mem_of_getElem? (i := 48) rfl))) (ty := .object "java/lang/String") (by decide)
  have F61_subject : Fld Z h61 a61 "com/example/rulefold/rulefold/CompiledBody$Pattern" "subject" "Ljava/lang/String;" .null := D61 (Or.inr (hw _ (List.mem_of_getElem? (i := 50) rfl))) (ty := .object "java/lang/String") (by decide)
  have F61_subjectVariable : Fld Z h61 a61 "com/example/rulefold/rulefold/CompiledBody$Pattern" "subjectVariable" "I" (.int (0 : Int32)) := D61 (Or.inr (hw _ (List.mem_of_getElem? (i := 52) rfl))) (ty := .int) (by decide)
  have F61_object : Fld Z h61 a61 "com/example/rulefold/rulefold/CompiledBody$Pattern" "object" "Ljava/lang/String;" .null := D61 (Or.inr (hw _ (List.mem_of_getElem? (i := 54) rfl))) (ty := .object "java/lang/String") (by decide)
  have F61_objectVariable : Fld Z h61 a61 "com/example/rulefold/rulefold/CompiledBody$Pattern" "objectVariable" "I" (.int (0 : Int32)) := D61 (Or.inr (hw _ (List.mem_of_getElem? (i := 56) rfl))) (ty := .int) (by decide)
  have gp : n0 ≤ a61 := Nat.le_trans Zh60 (Nat.le_of_eq g61.symm)
  have Zn61 : n0 ≤ h61.size := Nat.le_trans Zh60 E61.1
  refine Goes.st (fun _ k => XS.dup X61.here hx rfl (hb hby at_90) rfl rfl k) ?_
  show Goes _ _ _ _ (T61.setTop (mkF m 91 #[.val (.int p1), .val (.int p2), .val (.int p3), .val (.int p4), .val (.int p5), .val (.int p6), .val (.int sv), .val (.int ov), .val (.int ((p2 &&& (255 : Int32))).toUInt32.toUInt16.toUInt32.toInt32), .val (.ref a_su), .val (.ref a_ob), .val (.ref a_re), .val (.ref b54), .unset, .unset, .unset, .unset, .unset, .unset, .unset, .unset] [(.ref a61), (.ref a61)]))
  refine Goes.st (fun _ k => XS.aload X61.here hx rfl (hb hby at_91) rfl rfl k) ?_
  show Goes _ _ _ _ (T61.setTop (mkF m 93 #[.val (.int p1), .val (.int p2), .val (.int p3), .val (.int p4), .val (.int p5), .val (.int p6), .val (.int sv), .val (.int ov), .val (.int ((p2 &&& (255 : Int32))).toUInt32.toUInt16.toUInt32.toInt32), .val (.ref a_su), .val (.ref a_ob), .val (.ref a_re), .val (.ref b54), .unset, .unset, .unset, .unset, .unset, .unset, .unset, .unset] [(.ref a_re), (.ref a61), (.ref a61)]))
  refine Goes.st (fun _ k => XS.aload X61.here hx rfl (hb hby at_93) rfl rfl k) ?_
  show Goes _ _ _ _ (T61.setTop (mkF m 95 #[.val (.int p1), .val (.int p2), .val (.int p3), .val (.int p4), .val (.int p5), .val (.int p6), .val (.int sv), .val (.int ov), .val (.int ((p2 &&& (255 : Int32))).toUInt32.toUInt16.toUInt32.toInt32), .val (.ref a_su), .val (.ref a_ob), .val (.ref a_re), .val (.ref b54), .unset, .unset, .unset, .unset, .unset, .unset, .unset, .unset] [(.ref a_su), (.ref a_re), (.ref a61), (.ref a61)]))
  refine Goes.st (fun _ k => XS.iload X61.here hx rfl (hb hby at_95) rfl k) ?_
  show Goes _ _ _ _ (T61.setTop (mkF m 97 #[.val (.int p1), .val (.int p2), .val (.int p3), .val (.int p4), .val (.int p5), .val (.int p6), .val (.int sv), .val (.int ov), .val (.int ((p2 &&& (255 : Int32))).toUInt32.toUInt16.toUInt32.toInt32), .val (.ref a_su), .val (.ref a_ob), .val (.ref a_re), .val (.ref b54), .unset, .unset, .unset, .unset, .unset, .unset, .unset, .unset] [(.int sv), (.ref a_su), (.ref a_re), (.ref a61), (.ref a61)]))
  refine Goes.st (fun _ k => XS.aload X61.here hx rfl (hb hby at_97) rfl rfl k) ?_
  show Goes _ _ _ _ (T61.setTop (mkF m 99 #[.val (.int p1), .val (.int p2), .val (.int p3), .val (.int p4), .val (.int p5), .val (.int p6), .val (.int sv), .val (.int ov), .val (.int ((p2 &&& (255 : Int32))).toUInt32.toUInt16.toUInt32.toInt32), .val (.ref a_su), .val (.ref a_ob), .val (.ref a_re), .val (.ref b54), .unset, .unset, .unset, .unset, .unset, .unset, .unset, .unset] [(.ref a_ob), (.int sv), (.ref a_su), (.ref a_re), (.ref a61), (.ref a61)]))
  refine Goes.st (fun _ k => XS.iload X61.here hx rfl (hb hby at_99) rfl k) ?_
  show Goes _ _ _ _ (T61.setTop (mkF m 101 #[.val (.int p1), .val (.int p2), .val (.int p3), .val (.int p4), .val (.int p5), .val (.int p6), .val (.int sv), .val (.int ov), .val (.int ((p2 &&& (255 : Int32))).toUInt32.toUInt16.toUInt32.toInt32), .val (.ref a_su), .val (.ref a_ob), .val (.ref a_re), .val (.ref b54), .unset, .unset, .unset, .unset, .unset, .unset, .unset, .unset] [(.int ov), (.ref a_ob), (.int sv), (.ref a_su), (.ref a_re), (.ref a61), (.ref a61)]))
  obtain ⟨_, _, ⟨T62, L62, k62, n62⟩, -, X62, ⟨Lc62, hQ62, l62, y62, z62⟩, st62⟩ := X61.specialBack hx (y := (⟨"com/example/rulefold/rulefold/CompiledBody$Pattern", "<init>", "(Ljava/lang/String;Ljava/lang/String;ILjava/lang/String;I)V"⟩ : MethodName)) rfl hown (mvT hZ (hw _ (List.mem_of_getElem? (i := 38) rfl))) (mvT hZ (hw _ (List.mem_of_getElem? (i := 39) rfl))) (mvT hZ (hw _ (List.mem_of_getElem? (i := 40) rfl))) (by decide) (backOf (W := 1) (rm8 l Z a0 hw [] a61 a_re a_su sv a_ob ov h61 n0 Zn61 A61 F61_relation F61_subject F61_subjectVariable F61_object F61_objectVariable gp) hZ (hw _ (List.mem_of_getElem? (i := 40) rfl)) (hw _ (List.mem_of_getElem? (i := 37) rfl)) (by decide) (by decide)) (g := (mkF m 101 #[.val (.int p1), .val (.int p2), .val (.int p3), .val (.int p4), .val (.int p5), .val (.int p6), .val (.int sv), .val (.int ov), .val (.int ((p2 &&& (255 : Int32))).toUInt32.toUInt16.toUInt32.toInt32), .val (.ref a_su), .val (.ref a_ob), .val (.ref a_re), .val (.ref b54), .unset, .unset, .unset, .unset, .unset, .unset, .unset, .unset] [(.int ov), (.ref a_ob), (.int sv), (.ref a_su), (.ref a_re), (.ref a61), (.ref a61)])) rfl (by rw [hml]; rfl) (Steps.refl _) (a := a61) (argsL := [(.ref a_re), (.ref a_su), (.int sv), (.ref a_ob), (.int ov)]) (rest := [(.ref a61)]) (lenOf pd_8 rfl) rfl (by show 2 * 0 + _ ≤ _; exact Nat.le_of_eq rfl) (hb hby at_101) (fun _ _ => ⟨rfl, e61, (by decide : 14 + 0 ≤ _), (by decide : 38 + 0 ≤ _)⟩)
  dsimp only [Pt.U, Pt.locs, Pt.cells, Pt.slots] at X62 l62 y62 z62 st62 hQ62
  subst l62 y62 z62
  obtain ⟨rfl, Nq62, Kq62, HP⟩ := hQ62
  have N62 := Fr.app N60 Nq62
  refine Goes.tr st62 ?_
  show Goes _ _ _ _ (T62.setTop (mkF m 104 #[.val (.int p1), .val (.int p2), .val (.int p3), .val (.int p4), .val (.int p5), .val (.int p6), .val (.int sv), .val (.int ov), .val (.int ((p2 &&& (255 : Int32))).toUInt32.toUInt16.toUInt32.toInt32), .val (.ref a_su), .val (.ref a_ob), .val (.ref a_re), .val (.ref b54), .unset, .unset, .unset, .unset, .unset, .unset, .unset, .unset] [(.ref a61)]))
  have Kp62 : Keep h60 T62.heap [] := ((Keep.refl _ []).ext E61).trans Kq62 (allS (Or.inr (Nat.le_of_eq g61.symm)) all0)
  have Zh62 : n0 ≤ T62.heap.size := Nat.le_trans Zh60 Kp62.1
  have XO62 : Old Z n0 T62.heap := XO60.keep Kp62 all0
  have S_su_62 := S_su_60.keep Kp62
  have S_ob_62 := S_ob_60.keep Kp62
  have S_re_62 := S_re_60.keep Kp62
  have VB_62 := VB_60.keep Kp62 nin0
  have R0_62 := R0_60.keep Kp62
  have R1_62 := R1_60.keep Kp62
  have R2_62 := R2_60.keep Kp62
  have hpr : (own_pick sv (.ref a_su) r0 r1 r2).isRef = true := own_pick_ref rfl R0.ref R1.ref R2.ref
  refine Goes.st (fun _ k => XS.astore X62.here hx rfl (hb hby at_104) rfl rfl (l' := #[.val (.int p1), .val (.int p2), .val (.int p3), .val (.int p4), .val (.int p5), .val (.int p6), .val (.int sv), .val (.int ov), .val (.int ((p2 &&& (255 : Int32))).toUInt32.toUInt16.toUInt32.toInt32), .val (.ref a_su), .val (.ref a_ob), .val (.ref a_re), .val (.ref b54), .val (.ref a61), .unset, .unset, .unset, .unset, .unset, .unset, .unset]) rfl k) ?_
  show Goes _ _ _ _ (T62.setTop (mkF m 106 #[.val (.int p1), .val (.int p2), .val (.int p3), .val (.int p4), .val (.int p5), .val (.int p6), .val (.int sv), .val (.int ov), .val (.int ((p2 &&& (255 : Int32))).toUInt32.toUInt16.toUInt32.toInt32), .val (.ref a_su), .val (.ref a_ob), .val (.ref a_re), .val (.ref b54), .val (.ref a61), .unset, .unset, .unset, .unset, .unset, .unset, .unset] []))
  refine Goes.st (fun _ k => XS.iload X62.here hx rfl (hb hby at_106) rfl k) ?_
  show Goes _ _ _ _ (T62.setTop (mkF m 108 #[.val (.int p1), .val (.int p2), .val (.int p3), .val (.int p4), .val (.int p5), .val (.int p6), .val (.int sv), .val (.int ov), .val (.int ((p2 &&& (255 : Int32))).toUInt32.toUInt16.toUInt32.toInt32), .val (.ref a_su), .val (.ref a_ob), .val (.ref a_re), .val (.ref b54), .val (.ref a61), .unset, .unset, .unset, .unset, .unset, .unset, .unset] [(.int sv)]))
  refine Goes.st (fun _ k => XS.iconst X62.here hx rfl (hb hby at_108) k) ?_
  show Goes _ _ _ _ (T62.setTop (mkF m 109 #[.val (.int p1), .val (.int p2), .val (.int p3), .val (.int p4), .val (.int p5), .val (.int p6), .val (.int sv), .val (.int ov), .val (.int ((p2 &&& (255 : Int32))).toUInt32.toUInt16.toUInt32.toInt32), .val (.ref a_su), .val (.ref a_ob), .val (.ref a_re), .val (.ref b54), .val (.ref a61), .unset, .unset, .unset, .unset, .unset, .unset, .unset] [(.int (-1 : Int32)), (.int sv)]))
  have hsc := own_ch p2
  have J154 : Goes p.tables e below (Ends below s (Q0 Z p1 p2 p3 p4 p5 p6 cs h0 n0) room_1.cells room_1.slots) (T62.setTop (mkF m 154 #[.val (.int p1), .val (.int p2), .val (.int p3), .val (.int p4), .val (.int p5), .val (.int p6), .val (.int sv), .val (.int ov), .val (.int ((p2 &&& (255 : Int32))).toUInt32.toUInt16.toUInt32.toInt32), .val (.ref a_su), .val (.ref a_ob), .val (.ref a_re), .val (.ref b54), .val (.ref a61), .val (own_pick sv (.ref a_su) r0 r1 r2), .unset, .unset, .unset, .unset, .unset, .unset] [])) := by
    refine Goes.st (fun _ k => XS.aload X62.here hx rfl (hb hby at_154) rfl rfl k) ?_
    show Goes _ _ _ _ (T62.setTop (mkF m 156 #[.val (.int p1), .val (.int p2), .val (.int p3), .val (.int p4), .val (.int p5), .val (.int p6), .val (.int sv), .val (.int ov), .val (.int ((p2 &&& (255 : Int32))).toUInt32.toUInt16.toUInt32.toInt32), .val (.ref a_su), .val (.ref a_ob), .val (.ref a_re), .val (.ref b54), .val (.ref a61), .val (own_pick sv (.ref a_su) r0 r1 r2), .unset, .unset, .unset, .unset, .unset, .unset] [(.ref a61)]))
    refine Goes.st (fun _ k => XS.aload X62.here hx rfl (hb hby at_156) rfl rfl k) ?_
    show Goes _ _ _ _ (T62.setTop (mkF m 158 #[.val (.int p1), .val (.int p2), .val (.int p3), .val (.int p4), .val (.int p5), .val (.int p6), .val (.int sv), .val (.int ov), .val (.int ((p2 &&& (255 : Int32))).toUInt32.toUInt16.toUInt32.toInt32), .val (.ref a_su), .val (.ref a_ob), .val (.ref a_re), .val (.ref b54), .val (.ref a61), .val (own_pick sv (.ref a_su) r0 r1 r2), .unset, .unset, .unset, .unset, .unset, .unset] [(.ref b54), (.ref a61)]))
    obtain ⟨cq63, kq63, qa63, qb63, qc63⟩ := isOf hZ rfl HP.1
    obtain ⟨_, _, ⟨T63, L63, k63, n63⟩, -, X63, ⟨Lc63, hQ63, l63, y63, z63⟩, st63⟩ := X62.virtualBack hx (y := (⟨"com/example/rulefold/rulefold/CompiledBody$Pattern", "subjectIn", "([Ljava/lang/String;)Ljava/lang/String;"⟩ : MethodName)) (z := (⟨"com/example/rulefold/rulefold/CompiledBody$Pattern", "subjectIn", "([Ljava/lang/String;)Ljava/lang/String;"⟩ : MethodName)) hown (mvT hZ (hw _ (List.mem_of_getElem? (i := 57) rfl))) (mvT hZ (hw _ (List.mem_of_getElem? (i := 58) rfl))) (notFace_of_selects (args := #[]) (mvT hZ (hw _ (List.mem_of_getElem? (i := 60) rfl)))) (mvT hZ (hw _ (List.mem_of_getElem? (i := 60) rfl))) (mvT hZ (hw _ (List.mem_of_getElem? (i := 59) rfl))) (by decide) (backOf (W := 0) (rm10 l Z a0 hw [] a61 b54 a_re a_su sv a_ob ov k54 r0 r1 r2 T62.heap n0 Zh62 HP VB_62 hsv R0.ref R1.ref R2.ref) hZ (hw _ (List.mem_of_getElem? (i := 61) rfl)) (hw _ (List.mem_of_getElem? (i := 37) rfl)) (by decide) (by decide)) qa63 qc63 (g := (mkF m 158 #[.val (.int p1), .val (.int p2), .val (.int p3), .val (.int p4), .val (.int p5), .val (.int p6), .val (.int sv), .val (.int ov), .val (.int ((p2 &&& (255 : Int32))).toUInt32.toUInt16.toUInt32.toInt32), .val (.ref a_su), .val (.ref a_ob), .val (.ref a_re), .val (.ref b54), .val (.ref a61), .val (own_pick sv (.ref a_su) r0 r1 r2), .unset, .unset, .unset, .unset, .unset, .unset] [(.ref b54), (.ref a61)])) rfl (by rw [hml]; rfl) (Steps.refl _) (argsL := [(.ref b54)]) (rest := []) (lenOf pd_10 rfl) rfl (by show 2 * 0 + _ ≤ _; exact Nat.le_of_eq rfl) (hb hby at_158) (fun _ _ => ⟨rfl, rfl, (by decide : 14 + 0 ≤ _), (by decide : 38 + 0 ≤ _)⟩)
    dsimp only [Pt.U, Pt.locs, Pt.cells, Pt.slots] at X63 l63 y63 z63 st63 hQ63
    subst l63 y63 z63
    obtain ⟨rfl, Nq63, eq63⟩ := hQ63
    have N63 := Fr.app N62 Nq63
    refine Goes.tr st63 ?_
    show Goes _ _ _ _ (T63.setTop (mkF m 161 #[.val (.int p1), .val (.int p2), .val (.int p3), .val (.int p4), .val (.int p5), .val (.int p6), .val (.int sv), .val (.int ov), .val (.int ((p2 &&& (255 : Int32))).toUInt32.toUInt16.toUInt32.toInt32), .val (.ref a_su), .val (.ref a_ob), .val (.ref a_re), .val (.ref b54), .val (.ref a61), .val (own_pick sv (.ref a_su) r0 r1 r2), .unset, .unset, .unset, .unset, .unset, .unset] [(own_pick sv (.ref a_su) r0 r1 r2)]))
    refine Goes.st (fun _ k => XS.astore X63.here hx rfl (hb hby at_161) rfl hpr (l' := #[.val (.int p1), .val (.int p2), .val (.int p3), .val (.int p4), .val (.int p5), .val (.int p6), .val (.int sv), .val (.int ov), .val (.int ((p2 &&& (255 : Int32))).toUInt32.toUInt16.toUInt32.toInt32), .val (.ref a_su), .val (.ref a_ob), .val (.ref a_re), .val (.ref b54), .val (.ref a61), .val (own_pick sv (.ref a_su) r0 r1 r2), .val (own_pick sv (.ref a_su) r0 r1 r2), .unset, .unset, .unset, .unset, .unset]) (XS.store1 (o := .unset) rfl (Or.inl rfl) (own_cat hpr)) k) ?_
    show Goes _ _ _ _ (T63.setTop (mkF m 163 #[.val (.int p1), .val (.int p2), .val (.int p3), .val (.int p4), .val (.int p5), .val (.int p6), .val (.int sv), .val (.int ov), .val (.int ((p2 &&& (255 : Int32))).toUInt32.toUInt16.toUInt32.toInt32), .val (.ref a_su), .val (.ref a_ob), .val (.ref a_re), .val (.ref b54), .val (.ref a61), .val (own_pick sv (.ref a_su) r0 r1 r2), .val (own_pick sv (.ref a_su) r0 r1 r2), .unset, .unset, .unset, .unset, .unset] []))
    refine Goes.st (fun _ k => XS.aload X63.here hx rfl (hb hby at_163) rfl hpr k) ?_
    show Goes _ _ _ _ (T63.setTop (mkF m 165 #[.val (.int p1), .val (.int p2), .val (.int p3), .val (.int p4), .val (.int p5), .val (.int p6), .val (.int sv), .val (.int ov), .val (.int ((p2 &&& (255 : Int32))).toUInt32.toUInt16.toUInt32.toInt32), .val (.ref a_su), .val (.ref a_ob), .val (.ref a_re), .val (.ref b54), .val (.ref a61), .val (own_pick sv (.ref a_su) r0 r1 r2), .val (own_pick sv (.ref a_su) r0 r1 r2), .unset, .unset, .unset, .unset, .unset] [(own_pick sv (.ref a_su) r0 r1 r2)]))
    refine Goes.st (fun _ k => XS.aload X63.here hx rfl (hb hby at_165) rfl hpr k) ?_
    show Goes _ _ _ _ (T63.setTop (mkF m 167 #[.val (.int p1), .val (.int p2), .val (.int p3), .val (.int p4), .val (.int p5), .val (.int p6), .val (.int sv), .val (.int ov), .val (.int ((p2 &&& (255 : Int32))).toUInt32.toUInt16.toUInt32.toInt32), .val (.ref a_su), .val (.ref a_ob), .val (.ref a_re), .val (.ref b54), .val (.ref a61), .val (own_pick sv (.ref a_su) r0 r1 r2), .val (own_pick sv (.ref a_su) r0 r1 r2), .unset, .unset, .unset, .unset, .unset] [(own_pick sv (.ref a_su) r0 r1 r2), (own_pick sv (.ref a_su) r0 r1 r2)]))
    refine Goes.st (fun _ k => acmp X63 hx rfl (same := true) (x := (own_pick sv (.ref a_su) r0 r1 r2)) (y := (own_pick sv (.ref a_su) r0 r1 r2)) hpr hpr (pc0 := 167) (pc' := 172) rfl (hb hby at_167) rfl (decide_eq_true rfl) (by decide) (by decide) k) ?_
    show Goes _ _ _ _ (T63.setTop (mkF m 172 #[.val (.int p1), .val (.int p2), .val (.int p3), .val (.int p4), .val (.int p5), .val (.int p6), .val (.int sv), .val (.int ov), .val (.int ((p2 &&& (255 : Int32))).toUInt32.toUInt16.toUInt32.toInt32), .val (.ref a_su), .val (.ref a_ob), .val (.ref a_re), .val (.ref b54), .val (.ref a61), .val (own_pick sv (.ref a_su) r0 r1 r2), .val (own_pick sv (.ref a_su) r0 r1 r2), .unset, .unset, .unset, .unset, .unset] []))
    refine Goes.st (fun _ k => XS.iload X63.here hx rfl (hb hby at_172) rfl k) ?_
    show Goes _ _ _ _ (T63.setTop (mkF m 174 #[.val (.int p1), .val (.int p2), .val (.int p3), .val (.int p4), .val (.int p5), .val (.int p6), .val (.int sv), .val (.int ov), .val (.int ((p2 &&& (255 : Int32))).toUInt32.toUInt16.toUInt32.toInt32), .val (.ref a_su), .val (.ref a_ob), .val (.ref a_re), .val (.ref b54), .val (.ref a61), .val (own_pick sv (.ref a_su) r0 r1 r2), .val (own_pick sv (.ref a_su) r0 r1 r2), .unset, .unset, .unset, .unset, .unset] [(.int p5)]))
    refine Goes.st (fun _ k => XS.bipush X63.here hx rfl (hb hby at_174) k) ?_
    show Goes _ _ _ _ (T63.setTop (mkF m 176 #[.val (.int p1), .val (.int p2), .val (.int p3), .val (.int p4), .val (.int p5), .val (.int p6), .val (.int sv), .val (.int ov), .val (.int ((p2 &&& (255 : Int32))).toUInt32.toUInt16.toUInt32.toInt32), .val (.ref a_su), .val (.ref a_ob), .val (.ref a_re), .val (.ref b54), .val (.ref a61), .val (own_pick sv (.ref a_su) r0 r1 r2), .val (own_pick sv (.ref a_su) r0 r1 r2), .unset, .unset, .unset, .unset, .unset] [(.int (9 : Int32)), (.int p5)]))
    refine Goes.st (fun _ k => XS.iushr X63.here hx rfl (hb hby at_176) rfl k) ?_
    show Goes _ _ _ _ (T63.setTop (mkF m 177 #[.val (.int p1), .val (.int p2), .val (.int p3), .val (.int p4), .val (.int p5), .val (.int p6), .val (.int sv), .val (.int ov), .val (.int ((p2 &&& (255 : Int32))).toUInt32.toUInt16.toUInt32.toInt32), .val (.ref a_su), .val (.ref a_ob), .val (.ref a_re), .val (.ref b54), .val (.ref a61), .val (own_pick sv (.ref a_su) r0 r1 r2), .val (own_pick sv (.ref a_su) r0 r1 r2), .unset, .unset, .unset, .unset, .unset] [(.int ((p5).toUInt32 >>> (((9 : Int32)) &&& 31).toUInt32).toInt32)]))
    refine Goes.st (fun _ k => XS.iconst X63.here hx rfl (hb hby at_177) k) ?_
    show Goes _ _ _ _ (T63.setTop (mkF m 178 #[.val (.int p1), .val (.int p2), .val (.int p3), .val (.int p4), .val (.int p5), .val (.int p6), .val (.int sv), .val (.int ov), .val (.int ((p2 &&& (255 : Int32))).toUInt32.toUInt16.toUInt32.toInt32), .val (.ref a_su), .val (.ref a_ob), .val (.ref a_re), .val (.ref b54), .val (.ref a61), .val (own_pick sv (.ref a_su) r0 r1 r2), .val (own_pick sv (.ref a_su) r0 r1 r2), .unset, .unset, .unset, .unset, .unset] [(.int (3 : Int32)), (.int ((p5).toUInt32 >>> (((9 : Int32)) &&& 31).toUInt32).toInt32)]))
    refine Goes.st (fun _ k => XS.iand X63.here hx rfl (hb hby at_178) rfl k) ?_
    show Goes _ _ _ _ (T63.setTop (mkF m 179 #[.val (.int p1), .val (.int p2), .val (.int p3), .val (.int p4), .val (.int p5), .val (.int p6), .val (.int sv), .val (.int ov), .val (.int ((p2 &&& (255 : Int32))).toUInt32.toUInt16.toUInt32.toInt32), .val (.ref a_su), .val (.ref a_ob), .val (.ref a_re), .val (.ref b54), .val (.ref a61), .val (own_pick sv (.ref a_su) r0 r1 r2), .val (own_pick sv (.ref a_su) r0 r1 r2), .unset, .unset, .unset, .unset, .unset] [(.int (((p5).toUInt32 >>> (((9 : Int32)) &&& 31).toUInt32).toInt32 &&& (3 : Int32)))]))
    refine Goes.st (fun _ k => XS.istore X63.here hx rfl (hb hby at_179) rfl (l' := #[.val (.int p1), .val (.int p2), .val (.int p3), .val (.int p4), .val (.int p5), .val (.int p6), .val (.int sv), .val (.int ov), .val (.int ((p2 &&& (255 : Int32))).toUInt32.toUInt16.toUInt32.toInt32), .val (.ref a_su), .val (.ref a_ob), .val (.ref a_re), .val (.ref b54), .val (.ref a61), .val (own_pick sv (.ref a_su) r0 r1 r2), .val (own_pick sv (.ref a_su) r0 r1 r2), .val (.int (((p5).toUInt32 >>> (((9 : Int32)) &&& 31).toUInt32).toInt32 &&& (3 : Int32))), .unset, .unset, .unset, .unset]) rfl k) ?_
    show Goes _ _ _ _ (T63.setTop (mkF m 181 #[.val (.int p1), .val (.int p2), .val (.int p3), .val (.int p4), .val (.int p5), .val (.int p6), .val (.int sv), .val (.int ov), .val (.int ((p2 &&& (255 : Int32))).toUInt32.toUInt16.toUInt32.toInt32), .val (.ref a_su), .val (.ref a_ob), .val (.ref a_re), .val (.ref b54), .val (.ref a61), .val (own_pick sv (.ref a_su) r0 r1 r2), .val (own_pick sv (.ref a_su) r0 r1 r2), .val (.int (((p5).toUInt32 >>> (((9 : Int32)) &&& 31).toUInt32).toInt32 &&& (3 : Int32))), .unset, .unset, .unset, .unset] []))
    refine Goes.st (fun _ k => XS.iload X63.here hx rfl (hb hby at_181) rfl k) ?_
    show Goes _ _ _ _ (T63.setTop (mkF m 183 #[.val (.int p1), .val (.int p2), .val (.int p3), .val (.int p4), .val (.int p5), .val (.int p6), .val (.int sv), .val (.int ov), .val (.int ((p2 &&& (255 : Int32))).toUInt32.toUInt16.toUInt32.toInt32), .val (.ref a_su), .val (.ref a_ob), .val (.ref a_re), .val (.ref b54), .val (.ref a61), .val (own_pick sv (.ref a_su) r0 r1 r2), .val (own_pick sv (.ref a_su) r0 r1 r2), .val (.int (((p5).toUInt32 >>> (((9 : Int32)) &&& 31).toUInt32).toInt32 &&& (3 : Int32))), .unset, .unset, .unset, .unset] [(.int (((p5).toUInt32 >>> (((9 : Int32)) &&& 31).toUInt32).toInt32 &&& (3 : Int32)))]))
    have J239 : ∀ tc : Int32, ¬ ((255 : Int32) < tc) → Goes p.tables e below (Ends below s (Q0 Z p1 p2 p3 p4 p5 p6 cs h0 n0) room_1.cells room_1.slots) (T63.setTop (mkF m 239 #[.val (.int p1), .val (.int p2), .val (.int p3), .val (.int p4), .val (.int p5), .val (.int p6), .val (.int sv), .val (.int ov), .val (.int ((p2 &&& (255 : Int32))).toUInt32.toUInt16.toUInt32.toInt32), .val (.ref a_su), .val (.ref a_ob), .val (.ref a_re), .val (.ref b54), .val (.ref a61), .val (own_pick sv (.ref a_su) r0 r1 r2), .val (own_pick sv (.ref a_su) r0 r1 r2), .val (.int (((p5).toUInt32 >>> (((9 : Int32)) &&& 31).toUInt32).toInt32 &&& (3 : Int32))), .val (.int tc), .unset, .unset, .unset] [])) := by
      intro tc htc
      refine Goes.st (fun _ k => XS.iload X63.here hx rfl (hb hby at_239) rfl k) ?_
      show Goes _ _ _ _ (T63.setTop (mkF m 241 #[.val (.int p1), .val (.int p2), .val (.int p3), .val (.int p4), .val (.int p5), .val (.int p6), .val (.int sv), .val (.int ov), .val (.int ((p2 &&& (255 : Int32))).toUInt32.toUInt16.toUInt32.toInt32), .val (.ref a_su), .val (.ref a_ob), .val (.ref a_re), .val (.ref b54), .val (.ref a61), .val (own_pick sv (.ref a_su) r0 r1 r2), .val (own_pick sv (.ref a_su) r0 r1 r2), .val (.int (((p5).toUInt32 >>> (((9 : Int32)) &&& 31).toUInt32).toInt32 &&& (3 : Int32))), .val (.int tc), .unset, .unset, .unset] [(.int tc)]))
      obtain ⟨_, _, ⟨T64, L64, k64, n64⟩, -, X64, ⟨Lc64, hQ64, l64, y64, z64⟩, st64⟩ := Jvm.LawKit.callS X63 hx (y := (⟨"java/lang/String", "valueOf", "(C)Ljava/lang/String;"⟩ : MethodName)) hown (mvT hZ (hw _ (List.mem_of_getElem? (i := 4) rfl))) (mvT hZ (hw _ (List.mem_of_getElem? (i := 5) rfl))) (mvT hZ (hw _ (List.mem_of_getElem? (i := 6) rfl))) (mvT hZ (hw _ (List.mem_of_getElem? (i := 7) rfl))) (by decide) (backOf (W := 0) (rm2 l Z a0 hw [] tc cs T62.heap n0 Zh62 htc XO62 SC hcs) hZ (hw _ (List.mem_of_getElem? (i := 7) rfl)) (hw _ (List.mem_of_getElem? (i := 6) rfl)) (by decide) (by decide)) (g := (mkF m 241 #[.val (.int p1), .val (.int p2), .val (.int p3), .val (.int p4), .val (.int p5), .val (.int p6), .val (.int sv), .val (.int ov), .val (.int ((p2 &&& (255 : Int32))).toUInt32.toUInt16.toUInt32.toInt32), .val (.ref a_su), .val (.ref a_ob), .val (.ref a_re), .val (.ref b54), .val (.ref a61), .val (own_pick sv (.ref a_su) r0 r1 r2), .val (own_pick sv (.ref a_su) r0 r1 r2), .val (.int (((p5).toUInt32 >>> (((9 : Int32)) &&& 31).toUInt32).toInt32 &&& (3 : Int32))), .val (.int tc), .unset, .unset, .unset] [(.int tc)])) rfl (by rw [hml]; rfl) (argsL := [(.int tc)]) (rest := []) (lenOf pd_2 rfl) rfl (by show 2 * 0 + _ ≤ _; exact Nat.le_of_eq rfl) (hb hby at_241) (fun _ _ => ⟨rfl, eq63, (by decide : 14 + 2 ≤ _), (by decide : 38 + 5 ≤ _)⟩)
      dsimp only [Pt.U, Pt.locs, Pt.cells, Pt.slots] at X64 l64 y64 z64 st64 hQ64
      subst l64 y64 z64
      obtain ⟨a_t, x_t, rfl, Nq64, Kq64, S_t⟩ := hQ64
      have N64 := Fr.app N63 Nq64
      refine Goes.st st64 ?_
      show Goes _ _ _ _ (T64.setTop (mkF m 244 #[.val (.int p1), .val (.int p2), .val (.int p3), .val (.int p4), .val (.int p5), .val (.int p6), .val (.int sv), .val (.int ov), .val (.int ((p2 &&& (255 : Int32))).toUInt32.toUInt16.toUInt32.toInt32), .val (.ref a_su), .val (.ref a_ob), .val (.ref a_re), .val (.ref b54), .val (.ref a61), .val (own_pick sv (.ref a_su) r0 r1 r2), .val (own_pick sv (.ref a_su) r0 r1 r2), .val (.int (((p5).toUInt32 >>> (((9 : Int32)) &&& 31).toUInt32).toInt32 &&& (3 : Int32))), .val (.int tc), .unset, .unset, .unset] [(.ref a_t)]))
      have Zh64 : n0 ≤ T64.heap.size := Nat.le_trans Zh62 Kq64.1
      have XO64 : Old Z n0 T64.heap := XO62.keep Kq64 all0
      have S_su_64 := S_su_62.keep Kq64
      have S_ob_64 := S_ob_62.keep Kq64
      have S_re_64 := S_re_62.keep Kq64
      have VB_64 := VB_62.keep Kq64 nin0
      have R0_64 := R0_62.keep Kq64
      have R1_64 := R1_62.keep Kq64
      have R2_64 := R2_62.keep Kq64
      have HP_64 := HP.keep Kq64 nin0
      refine Goes.st (fun _ k => XS.astore X64.here hx rfl (hb hby at_244) rfl rfl (l' := #[.val (.int p1), .val (.int p2), .val (.int p3), .val (.int p4), .val (.int p5), .val (.int p6), .val (.int sv), .val (.int ov), .val (.int ((p2 &&& (255 : Int32))).toUInt32.toUInt16.toUInt32.toInt32), .val (.ref a_su), .val (.ref a_ob), .val (.ref a_re), .val (.ref b54), .val (.ref a61), .val (own_pick sv (.ref a_su) r0 r1 r2), .val (own_pick sv (.ref a_su) r0 r1 r2), .val (.int (((p5).toUInt32 >>> (((9 : Int32)) &&& 31).toUInt32).toInt32 &&& (3 : Int32))), .val (.int tc), .val (.ref a_t), .unset, .unset]) rfl k) ?_
      show Goes _ _ _ _ (T64.setTop (mkF m 246 #[.val (.int p1), .val (.int p2), .val (.int p3), .val (.int p4), .val (.int p5), .val (.int p6), .val (.int sv), .val (.int ov), .val (.int ((p2 &&& (255 : Int32))).toUInt32.toUInt16.toUInt32.toInt32), .val (.ref a_su), .val (.ref a_ob), .val (.ref a_re), .val (.ref b54), .val (.ref a61), .val (own_pick sv (.ref a_su) r0 r1 r2), .val (own_pick sv (.ref a_su) r0 r1 r2), .val (.int (((p5).toUInt32 >>> (((9 : Int32)) &&& 31).toUInt32).toInt32 &&& (3 : Int32))), .val (.int tc), .val (.ref a_t), .unset, .unset] []))
      refine Goes.st (fun _ k => XS.aload X64.here hx rfl (hb hby at_246) rfl rfl k) ?_
      show Goes _ _ _ _ (T64.setTop (mkF m 248 #[.val (.int p1), .val (.int p2), .val (.int p3), .val (.int p4), .val (.int p5), .val (.int p6), .val (.int sv), .val (.int ov), .val (.int ((p2 &&& (255 : Int32))).toUInt32.toUInt16.toUInt32.toInt32), .val (.ref a_su), .val (.ref a_ob), .val (.ref a_re), .val (.ref b54), .val (.ref a61), .val (own_pick sv (.ref a_su) r0 r1 r2), .val (own_pick sv (.ref a_su) r0 r1 r2), .val (.int (((p5).toUInt32 >>> (((9 : Int32)) &&& 31).toUInt32).toInt32 &&& (3 : Int32))), .val (.int tc), .val (.ref a_t), .unset, .unset] [(.ref a61)]))
      obtain ⟨T65, h65, X65, e65, E65, A65, D65, -, st65⟩ := newO X64 hx hZ hown (hw _ (List.mem_of_getElem? (i := 62) rfl)) (hw _ (List.mem_of_getElem? (i := 63) rfl)) (hw _ (List.mem_of_getElem? (i := 64) rfl)) rfl (g := (mkF m 248 #[.val (.int p1), .val (.int p2), .val (.int p3), .val (.int p4), .val (.int p5), .val (.int p6), .val (.int sv), .val (.int ov), .val (.int ((p2 &&& (255 : Int32))).toUInt32.toUInt16.toUInt32.toInt32), .val (.ref a_su), .val (.ref a_ob), .val (.ref a_re), .val (.ref b54), .val (.ref a61), .val (own_pick sv (.ref a_su) r0 r1 r2), .val (own_pick sv (.ref a_su) r0 r1 r2), .val (.int (((p5).toUInt32 >>> (((9 : Int32)) &&& 31).toUInt32).toInt32 &&& (3 : Int32))), .val (.int tc), .val (.ref a_t), .unset, .unset] [(.ref a61)])) rfl (hb hby at_248) (by decide) (by decide)
      obtain ⟨a65, g65⟩ : ∃ z, z = (T64.heap).size := ⟨_, rfl⟩
      rw [← g65] at A65 D65 st65
      refine Goes.st st65 ?_
      show Goes _ _ _ _ (T65.setTop (mkF m 251 #[.val (.int p1), .val (.int p2), .val (.int p3), .val (.int p4), .val (.int p5), .val (.int p6), .val (.int sv), .val (.int ov), .val (.int ((p2 &&& (255 : Int32))).toUInt32.toUInt16.toUInt32.toInt32), .val (.ref a_su), .val (.ref a_ob), .val (.ref a_re), .val (.ref b54), .val (.ref a61), .val (own_pick sv (.ref a_su) r0 r1 r2), .val (own_pick sv (.ref a_su) r0 r1 r2), .val (.int (((p5).toUInt32 >>> (((9 : Int32)) &&& 31).toUInt32).toInt32 &&& (3 : Int32))), .val (.int tc), .val (.ref a_t), .unset, .unset] [(.ref a65), (.ref a61)]))
      have F65_subject : Fld Z h65 a65 "com/example/rulefold/rulefold/Triple" "subject" "Ljava/lang/String;" .null := D65 (Or.inr (hw _ (List.mem_of_getElem? (i := 70) rfl))) (ty := .object "java/lang/String") (by decide)
      have F65_relation : Fld Z h65 a65 "com/example/rulefold/rulefold/Triple" "relation" "Ljava/lang/String;" .null := D65 (Or.inr (hw _ (List.mem_of_getElem? (i := 72) rfl))) (ty := .object "java/lang/String") (by decide)
      have F65_object : Fld Z h65 a65 "com/example/rulefold/rulefold/Triple" "object" "Ljava/lang/String;" .null := D65 (Or.inr (hw _ (List.mem_of_getElem? (i := 74) rfl))) (ty := .object "java/lang/String") (by decide)
      have gt : n0 ≤ a65 := Nat.le_trans Zh64 (Nat.le_of_eq g65.symm)
      have Zn65 : n0 ≤ h65.size := Nat.le_trans Zh64 E65.1
      refine Goes.st (fun _ k => XS.dup X65.here hx rfl (hb hby at_251) rfl rfl k) ?_
      show Goes _ _ _ _ (T65.setTop (mkF m 252 #[.val (.int p1), .val (.int p2), .val (.int p3), .val (.int p4), .val (.int p5), .val (.int p6), .val (.int sv), .val (.int ov), .val (.int ((p2 &&& (255 : Int32))).toUInt32.toUInt16.toUInt32.toInt32), .val (.ref a_su), .val (.ref a_ob), .val (.ref a_re), .val (.ref b54), .val (.ref a61), .val (own_pick sv (.ref a_su) r0 r1 r2), .val (own_pick sv (.ref a_su) r0 r1 r2), .val (.int (((p5).toUInt32 >>> (((9 : Int32)) &&& 31).toUInt32).toInt32 &&& (3 : Int32))), .val (.int tc), .val (.ref a_t), .unset, .unset] [(.ref a65), (.ref a65), (.ref a61)]))
      refine Goes.st (fun _ k => XS.aload X65.here hx rfl (hb hby at_252) rfl rfl k) ?_
      show Goes _ _ _ _ (T65.setTop (mkF m 254 #[.val (.int p1), .val (.int p2), .val (.int p3), .val (.int p4), .val (.int p5), .val (.int p6), .val (.int sv), .val (.int ov), .val (.int ((p2 &&& (255 : Int32))).toUInt32.toUInt16.toUInt32.toInt32), .val (.ref a_su), .val (.ref a_ob), .val (.ref a_re), .val (.ref b54), .val (.ref a61), .val (own_pick sv (.ref a_su) r0 r1 r2), .val (own_pick sv (.ref a_su) r0 r1 r2), .val (.int (((p5).toUInt32 >>> (((9 : Int32)) &&& 31).toUInt32).toInt32 &&& (3 : Int32))), .val (.int tc), .val (.ref a_t), .unset, .unset] [(.ref a_t), (.ref a65), (.ref a65), (.ref a61)]))
      refine Goes.st (fun _ k => XS.aconstNull X65.here hx rfl (hb hby at_254) k) ?_
      show Goes _ _ _ _ (T65.setTop (mkF m 255 #[.val (.int p1), .val (.int p2), .val (.int p3), .val (.int p4), .val (.int p5), .val (.int p6), .val (.int sv), .val (.int ov), .val (.int ((p2 &&& (255 : Int32))).toUInt32.toUInt16.toUInt32.toInt32), .val (.ref a_su), .val (.ref a_ob), .val (.ref a_re), .val (.ref b54), .val (.ref a61), .val (own_pick sv (.ref a_su) r0 r1 r2), .val (own_pick sv (.ref a_su) r0 r1 r2), .val (.int (((p5).toUInt32 >>> (((9 : Int32)) &&& 31).toUInt32).toInt32 &&& (3 : Int32))), .val (.int tc), .val (.ref a_t), .unset, .unset] [.null, (.ref a_t), (.ref a65), (.ref a65), (.ref a61)]))
      refine Goes.st (fun _ k => XS.aconstNull X65.here hx rfl (hb hby at_255) k) ?_
      show Goes _ _ _ _ (T65.setTop (mkF m 256 #[.val (.int p1), .val (.int p2), .val (.int p3), .val (.int p4), .val (.int p5), .val (.int p6), .val (.int sv), .val (.int ov), .val (.int ((p2 &&& (255 : Int32))).toUInt32.toUInt16.toUInt32.toInt32), .val (.ref a_su), .val (.ref a_ob), .val (.ref a_re), .val (.ref b54), .val (.ref a61), .val (own_pick sv (.ref a_su) r0 r1 r2), .val (own_pick sv (.ref a_su) r0 r1 r2), .val (.int (((p5).toUInt32 >>> (((9 : Int32)) &&& 31).toUInt32).toInt32 &&& (3 : Int32))), .val (.int tc), .val (.ref a_t), .unset, .unset] [.null, .null, (.ref a_t), (.ref a65), (.ref a65), (.ref a61)]))
      obtain ⟨_, _, ⟨T66, L66, k66, n66⟩, -, X66, ⟨Lc66, hQ66, l66, y66, z66⟩, st66⟩ := X65.specialBack hx (y := (⟨"com/example/rulefold/rulefold/Triple", "<init>", "(Ljava/lang/String;Ljava/lang/String;Ljava/lang/String;)V"⟩ : MethodName)) rfl hown (mvT hZ (hw _ (List.mem_of_getElem? (i := 65) rfl))) (mvT hZ (hw _ (List.mem_of_getElem? (i := 66) rfl))) (mvT hZ (hw _ (List.mem_of_getElem? (i := 67) rfl))) (by decide) (backOf (W := 2) (rm11 l Z a0 hw [] a65 a_t h65 n0 Zn65 A65 F65_subject F65_relation F65_object gt) hZ (hw _ (List.mem_of_getElem? (i := 67) rfl)) (hw _ (List.mem_of_getElem? (i := 64) rfl)) (by decide) (by decide)) (g := (mkF m 256 #[.val (.int p1), .val (.int p2), .val (.int p3), .val (.int p4), .val (.int p5), .val (.int p6), .val (.int sv), .val (.int ov), .val (.int ((p2 &&& (255 : Int32))).toUInt32.toUInt16.toUInt32.toInt32), .val (.ref a_su), .val (.ref a_ob), .val (.ref a_re), .val (.ref b54), .val (.ref a61), .val (own_pick sv (.ref a_su) r0 r1 r2), .val (own_pick sv (.ref a_su) r0 r1 r2), .val (.int (((p5).toUInt32 >>> (((9 : Int32)) &&& 31).toUInt32).toInt32 &&& (3 : Int32))), .val (.int tc), .val (.ref a_t), .unset, .unset] [.null, .null, (.ref a_t), (.ref a65), (.ref a65), (.ref a61)])) rfl (by rw [hml]; rfl) (Steps.refl _) (a := a65) (argsL := [(.ref a_t), .null, .null]) (rest := [(.ref a65), (.ref a61)]) (lenOf pd_11 rfl) rfl (by show 2 * 0 + _ ≤ _; exact Nat.le_of_eq rfl) (hb hby at_256) (fun _ _ => ⟨rfl, e65, (by decide : 17 + 0 ≤ _), (by decide : 46 + 0 ≤ _)⟩)
      dsimp only [Pt.U, Pt.locs, Pt.cells, Pt.slots] at X66 l66 y66 z66 st66 hQ66
      subst l66 y66 z66
      obtain ⟨rfl, Nq66, Kq66, HT⟩ := hQ66
      have N66 := Fr.app N64 Nq66
      refine Goes.tr st66 ?_
      show Goes _ _ _ _ (T66.setTop (mkF m 259 #[.val (.int p1), .val (.int p2), .val (.int p3), .val (.int p4), .val (.int p5), .val (.int p6), .val (.int sv), .val (.int ov), .val (.int ((p2 &&& (255 : Int32))).toUInt32.toUInt16.toUInt32.toInt32), .val (.ref a_su), .val (.ref a_ob), .val (.ref a_re), .val (.ref b54), .val (.ref a61), .val (own_pick sv (.ref a_su) r0 r1 r2), .val (own_pick sv (.ref a_su) r0 r1 r2), .val (.int (((p5).toUInt32 >>> (((9 : Int32)) &&& 31).toUInt32).toInt32 &&& (3 : Int32))), .val (.int tc), .val (.ref a_t), .unset, .unset] [(.ref a65), (.ref a61)]))
      have Kp66 : Keep T64.heap T66.heap [] := ((Keep.refl _ []).ext E65).trans Kq66 (allS (Or.inr (Nat.le_of_eq g65.symm)) all0)
      have Zh66 : n0 ≤ T66.heap.size := Nat.le_trans Zh64 Kp66.1
      have XO66 : Old Z n0 T66.heap := XO64.keep Kp66 all0
      have S_su_66 := S_su_64.keep Kp66
      have S_ob_66 := S_ob_64.keep Kp66
      have S_re_66 := S_re_64.keep Kp66
      have VB_66 := VB_64.keep Kp66 nin0
      have R0_66 := R0_64.keep Kp66
      have R1_66 := R1_64.keep Kp66
      have R2_66 := R2_64.keep Kp66
      have HP_66 := HP_64.keep Kp66 nin0
      have S_t_66 := S_t.keep Kp66
      refine Goes.st (fun _ k => XS.aload X66.here hx rfl (hb hby at_259) rfl rfl k) ?_
      show Goes _ _ _ _ (T66.setTop (mkF m 261 #[.val (.int p1), .val (.int p2), .val (.int p3), .val (.int p4), .val (.int p5), .val (.int p6), .val (.int sv), .val (.int ov), .val (.int ((p2 &&& (255 : Int32))).toUInt32.toUInt16.toUInt32.toInt32), .val (.ref a_su), .val (.ref a_ob), .val (.ref a_re), .val (.ref b54), .val (.ref a61), .val (own_pick sv (.ref a_su) r0 r1 r2), .val (own_pick sv (.ref a_su) r0 r1 r2), .val (.int (((p5).toUInt32 >>> (((9 : Int32)) &&& 31).toUInt32).toInt32 &&& (3 : Int32))), .val (.int tc), .val (.ref a_t), .unset, .unset] [(.ref b54), (.ref a65), (.ref a61)]))
      obtain ⟨cq67, kq67, qa67, qb67, qc67⟩ := isOf hZ rfl HP_66.1
      obtain ⟨_, _, ⟨T67, L67, k67, n67⟩, -, X67, ⟨Lc67, hQ67, l67, y67, z67⟩, st67⟩ := X66.virtualBack hx (y := (⟨"com/example/rulefold/rulefold/CompiledBody$Pattern", "unify", "(Lcom/example/rulefold/rulefold/Triple;[Ljava/lang/String;)Z"⟩ : MethodName)) (z := (⟨"com/example/rulefold/rulefold/CompiledBody$Pattern", "unify", "(Lcom/example/rulefold/rulefold/Triple;[Ljava/lang/String;)Z"⟩ : MethodName)) hown (mvT hZ (hw _ (List.mem_of_getElem? (i := 75) rfl))) (mvT hZ (hw _ (List.mem_of_getElem? (i := 76) rfl))) (notFace_of_selects (args := #[]) (mvT hZ (hw _ (List.mem_of_getElem? (i := 78) rfl)))) (mvT hZ (hw _ (List.mem_of_getElem? (i := 78) rfl))) (mvT hZ (hw _ (List.mem_of_getElem? (i := 77) rfl))) (by decide) (backOf (W := 0) (rm12 l Z a0 hw [] a61 a65 b54 a_re a_su sv a_ob ov a_t x_su x_t k54 r0 r1 r2 cs T66.heap n0 Zh66 HP_66 HT hsv S_su_66 S_t_66 VB_66 O54 R0_66 R1_66 R2_66 gb XO66 SC hcs) hZ (hw _ (List.mem_of_getElem? (i := 79) rfl)) (hw _ (List.mem_of_getElem? (i := 37) rfl)) (by decide) (by decide)) qa67 qc67 (g := (mkF m 261 #[.val (.int p1), .val (.int p2), .val (.int p3), .val (.int p4), .val (.int p5), .val (.int p6), .val (.int sv), .val (.int ov), .val (.int ((p2 &&& (255 : Int32))).toUInt32.toUInt16.toUInt32.toInt32), .val (.ref a_su), .val (.ref a_ob), .val (.ref a_re), .val (.ref b54), .val (.ref a61), .val (own_pick sv (.ref a_su) r0 r1 r2), .val (own_pick sv (.ref a_su) r0 r1 r2), .val (.int (((p5).toUInt32 >>> (((9 : Int32)) &&& 31).toUInt32).toInt32 &&& (3 : Int32))), .val (.int tc), .val (.ref a_t), .unset, .unset] [(.ref b54), (.ref a65), (.ref a61)])) rfl (by rw [hml]; rfl) (Steps.refl _) (argsL := [(.ref a65), (.ref b54)]) (rest := []) (lenOf pd_12 rfl) rfl (by show 2 * 0 + _ ≤ _; exact Nat.le_of_eq rfl) (hb hby at_261) (fun _ _ => ⟨rfl, rfl, (by decide : 17 + 0 ≤ _), (by decide : 46 + 0 ≤ _)⟩)
      dsimp only [Pt.U, Pt.locs, Pt.cells, Pt.slots] at X67 l67 y67 z67 st67 hQ67
      subst l67 y67 z67
      obtain ⟨z67, rfl, Nq67, hz67, Kq67, q0, q1, q2, V67, hr0, hr1, hr2, HZ⟩ := hQ67
      have N67 := Fr.app N66 Nq67
      refine Goes.tr st67 ?_
      show Goes _ _ _ _ (T67.setTop (mkF m 264 #[.val (.int p1), .val (.int p2), .val (.int p3), .val (.int p4), .val (.int p5), .val (.int p6), .val (.int sv), .val (.int ov), .val (.int ((p2 &&& (255 : Int32))).toUInt32.toUInt16.toUInt32.toInt32), .val (.ref a_su), .val (.ref a_ob), .val (.ref a_re), .val (.ref b54), .val (.ref a61), .val (own_pick sv (.ref a_su) r0 r1 r2), .val (own_pick sv (.ref a_su) r0 r1 r2), .val (.int (((p5).toUInt32 >>> (((9 : Int32)) &&& 31).toUInt32).toInt32 &&& (3 : Int32))), .val (.int tc), .val (.ref a_t), .unset, .unset] [(.int z67)]))
      refine Goes.st (fun _ k => XS.istore X67.here hx rfl (hb hby at_264) rfl (l' := #[.val (.int p1), .val (.int p2), .val (.int p3), .val (.int p4), .val (.int p5), .val (.int p6), .val (.int sv), .val (.int ov), .val (.int ((p2 &&& (255 : Int32))).toUInt32.toUInt16.toUInt32.toInt32), .val (.ref a_su), .val (.ref a_ob), .val (.ref a_re), .val (.ref b54), .val (.ref a61), .val (own_pick sv (.ref a_su) r0 r1 r2), .val (own_pick sv (.ref a_su) r0 r1 r2), .val (.int (((p5).toUInt32 >>> (((9 : Int32)) &&& 31).toUInt32).toInt32 &&& (3 : Int32))), .val (.int tc), .val (.ref a_t), .val (.int z67), .unset]) rfl k) ?_
      show Goes _ _ _ _ (T67.setTop (mkF m 266 #[.val (.int p1), .val (.int p2), .val (.int p3), .val (.int p4), .val (.int p5), .val (.int p6), .val (.int sv), .val (.int ov), .val (.int ((p2 &&& (255 : Int32))).toUInt32.toUInt16.toUInt32.toInt32), .val (.ref a_su), .val (.ref a_ob), .val (.ref a_re), .val (.ref b54), .val (.ref a61), .val (own_pick sv (.ref a_su) r0 r1 r2), .val (own_pick sv (.ref a_su) r0 r1 r2), .val (.int (((p5).toUInt32 >>> (((9 : Int32)) &&& 31).toUInt32).toInt32 &&& (3 : Int32))), .val (.int tc), .val (.ref a_t), .val (.int z67), .unset] []))
      refine Goes.st (fun _ k => XS.iload X67.here hx rfl (hb hby at_266) rfl k) ?_
      show Goes _ _ _ _ (T67.setTop (mkF m 268 #[.val (.int p1), .val (.int p2), .val (.int p3), .val (.int p4), .val (.int p5), .val (.int p6), .val (.int sv), .val (.int ov), .val (.int ((p2 &&& (255 : Int32))).toUInt32.toUInt16.toUInt32.toInt32), .val (.ref a_su), .val (.ref a_ob), .val (.ref a_re), .val (.ref b54), .val (.ref a61), .val (own_pick sv (.ref a_su) r0 r1 r2), .val (own_pick sv (.ref a_su) r0 r1 r2), .val (.int (((p5).toUInt32 >>> (((9 : Int32)) &&& 31).toUInt32).toInt32 &&& (3 : Int32))), .val (.int tc), .val (.ref a_t), .val (.int z67), .unset] [(.int z67)]))
      rcases hz67 with hz | hz
      · skip
        refine Goes.st (fun _ k => XS.ifNo X67.here hx rfl (hb hby at_268) rfl ((if0 _ _).trans (teq hz).2) k) ?_
        show Goes _ _ _ _ (T67.setTop (mkF m 271 #[.val (.int p1), .val (.int p2), .val (.int p3), .val (.int p4), .val (.int p5), .val (.int p6), .val (.int sv), .val (.int ov), .val (.int ((p2 &&& (255 : Int32))).toUInt32.toUInt16.toUInt32.toInt32), .val (.ref a_su), .val (.ref a_ob), .val (.ref a_re), .val (.ref b54), .val (.ref a61), .val (own_pick sv (.ref a_su) r0 r1 r2), .val (own_pick sv (.ref a_su) r0 r1 r2), .val (.int (((p5).toUInt32 >>> (((9 : Int32)) &&& 31).toUInt32).toInt32 &&& (3 : Int32))), .val (.int tc), .val (.ref a_t), .val (.int z67), .unset] []))
        refine Goes.st (fun _ k => XS.iconst X67.here hx rfl (hb hby at_271) k) ?_
        show Goes _ _ _ _ (T67.setTop (mkF m 272 #[.val (.int p1), .val (.int p2), .val (.int p3), .val (.int p4), .val (.int p5), .val (.int p6), .val (.int sv), .val (.int ov), .val (.int ((p2 &&& (255 : Int32))).toUInt32.toUInt16.toUInt32.toInt32), .val (.ref a_su), .val (.ref a_ob), .val (.ref a_re), .val (.ref b54), .val (.ref a61), .val (own_pick sv (.ref a_su) r0 r1 r2), .val (own_pick sv (.ref a_su) r0 r1 r2), .val (.int (((p5).toUInt32 >>> (((9 : Int32)) &&& 31).toUInt32).toInt32 &&& (3 : Int32))), .val (.int tc), .val (.ref a_t), .val (.int z67), .unset] [(.int (1 : Int32))]))
        exact leafZ X67 hx Bd.notSynchronized Bd.returns (hb hby at_272) (by decide) (by decide) (by decide) ⟨rfl, N67⟩
      · skip
        have hz0 : ¬ z67 = (0 : Int32) := by rw [hz]; decide
        refine Goes.st (fun _ k => XS.ifYes X67.here hx rfl (pc0 := 268) (pc' := 273) rfl (hb hby at_268) rfl ((if0 _ _).trans (feq hz0).2) (by decide) (by decide) k) ?_
        show Goes _ _ _ _ (T67.setTop (mkF m 273 #[.val (.int p1), .val (.int p2), .val (.int p3), .val (.int p4), .val (.int p5), .val (.int p6), .val (.int sv), .val (.int ov), .val (.int ((p2 &&& (255 : Int32))).toUInt32.toUInt16.toUInt32.toInt32), .val (.ref a_su), .val (.ref a_ob), .val (.ref a_re), .val (.ref b54), .val (.ref a61), .val (own_pick sv (.ref a_su) r0 r1 r2), .val (own_pick sv (.ref a_su) r0 r1 r2), .val (.int (((p5).toUInt32 >>> (((9 : Int32)) &&& 31).toUInt32).toInt32 &&& (3 : Int32))), .val (.int tc), .val (.ref a_t), .val (.int z67), .unset] []))
        obtain ⟨ar, xr, hpk, Sr, St⟩ := HZ hz
        have nP : a61 ≠ b54 := by obtain ⟨cb, Ab, -⟩ := id VB_66; exact ne_arr HP_66.1 (hw _ (List.mem_of_getElem? (i := 36) rfl)) Ab
        have HP2 := HP_66.keep Kq67 (ninS nP nin0)
        have Z2 : n0 ≤ T67.heap.size := Nat.le_trans Zh66 Kq67.1
        have XO2 : Old Z n0 T67.heap := XO66.keep Kq67 (allS gb all0)
        refine Goes.st (fun _ k => XS.aload X67.here hx rfl (hb hby at_273) rfl rfl k) ?_
        show Goes _ _ _ _ (T67.setTop (mkF m 275 #[.val (.int p1), .val (.int p2), .val (.int p3), .val (.int p4), .val (.int p5), .val (.int p6), .val (.int sv), .val (.int ov), .val (.int ((p2 &&& (255 : Int32))).toUInt32.toUInt16.toUInt32.toInt32), .val (.ref a_su), .val (.ref a_ob), .val (.ref a_re), .val (.ref b54), .val (.ref a61), .val (own_pick sv (.ref a_su) r0 r1 r2), .val (own_pick sv (.ref a_su) r0 r1 r2), .val (.int (((p5).toUInt32 >>> (((9 : Int32)) &&& 31).toUInt32).toInt32 &&& (3 : Int32))), .val (.int tc), .val (.ref a_t), .val (.int z67), .unset] [(.ref a61)]))
        refine Goes.st (fun _ k => XS.aload X67.here hx rfl (hb hby at_275) rfl rfl k) ?_
        show Goes _ _ _ _ (T67.setTop (mkF m 277 #[.val (.int p1), .val (.int p2), .val (.int p3), .val (.int p4), .val (.int p5), .val (.int p6), .val (.int sv), .val (.int ov), .val (.int ((p2 &&& (255 : Int32))).toUInt32.toUInt16.toUInt32.toInt32), .val (.ref a_su), .val (.ref a_ob), .val (.ref a_re), .val (.ref b54), .val (.ref a61), .val (own_pick sv (.ref a_su) r0 r1 r2), .val (own_pick sv (.ref a_su) r0 r1 r2), .val (.int (((p5).toUInt32 >>> (((9 : Int32)) &&& 31).toUInt32).toInt32 &&& (3 : Int32))), .val (.int tc), .val (.ref a_t), .val (.int z67), .unset] [(.ref b54), (.ref a61)]))
        obtain ⟨cq68, kq68, qa68, qb68, qc68⟩ := isOf hZ rfl HP2.1
        obtain ⟨_, _, ⟨T68, L68, k68, n68⟩, -, X68, ⟨Lc68, hQ68, l68, y68, z68⟩, st68⟩ := X67.virtualBack hx (y := (⟨"com/example/rulefold/rulefold/CompiledBody$Pattern", "subjectIn", "([Ljava/lang/String;)Ljava/lang/String;"⟩ : MethodName)) (z := (⟨"com/example/rulefold/rulefold/CompiledBody$Pattern", "subjectIn", "([Ljava/lang/String;)Ljava/lang/String;"⟩ : MethodName)) hown (mvT hZ (hw _ (List.mem_of_getElem? (i := 57) rfl))) (mvT hZ (hw _ (List.mem_of_getElem? (i := 58) rfl))) (notFace_of_selects (args := #[]) (mvT hZ (hw _ (List.mem_of_getElem? (i := 60) rfl)))) (mvT hZ (hw _ (List.mem_of_getElem? (i := 60) rfl))) (mvT hZ (hw _ (List.mem_of_getElem? (i := 59) rfl))) (by decide) (backOf (W := 0) (rm10 l Z a0 hw [] a61 b54 a_re a_su sv a_ob ov k54 q0 q1 q2 T67.heap n0 Z2 HP2 V67 hsv hr0 hr1 hr2) hZ (hw _ (List.mem_of_getElem? (i := 61) rfl)) (hw _ (List.mem_of_getElem? (i := 37) rfl)) (by decide) (by decide)) qa68 qc68 (g := (mkF m 277 #[.val (.int p1), .val (.int p2), .val (.int p3), .val (.int p4), .val (.int p5), .val (.int p6), .val (.int sv), .val (.int ov), .val (.int ((p2 &&& (255 : Int32))).toUInt32.toUInt16.toUInt32.toInt32), .val (.ref a_su), .val (.ref a_ob), .val (.ref a_re), .val (.ref b54), .val (.ref a61), .val (own_pick sv (.ref a_su) r0 r1 r2), .val (own_pick sv (.ref a_su) r0 r1 r2), .val (.int (((p5).toUInt32 >>> (((9 : Int32)) &&& 31).toUInt32).toInt32 &&& (3 : Int32))), .val (.int tc), .val (.ref a_t), .val (.int z67), .unset] [(.ref b54), (.ref a61)])) rfl (by rw [hml]; rfl) (Steps.refl _) (argsL := [(.ref b54)]) (rest := []) (lenOf pd_10 rfl) rfl (by show 2 * 0 + _ ≤ _; exact Nat.le_of_eq rfl) (hb hby at_277) (fun _ _ => ⟨rfl, rfl, (by decide : 17 + 0 ≤ _), (by decide : 46 + 0 ≤ _)⟩)
        dsimp only [Pt.U, Pt.locs, Pt.cells, Pt.slots] at X68 l68 y68 z68 st68 hQ68
        subst l68 y68 z68
        obtain ⟨rfl, Nq68, eq68⟩ := hQ68
        have N68 := Fr.app N67 Nq68
        refine Goes.tr st68 ?_
        show Goes _ _ _ _ (T68.setTop (mkF m 280 #[.val (.int p1), .val (.int p2), .val (.int p3), .val (.int p4), .val (.int p5), .val (.int p6), .val (.int sv), .val (.int ov), .val (.int ((p2 &&& (255 : Int32))).toUInt32.toUInt16.toUInt32.toInt32), .val (.ref a_su), .val (.ref a_ob), .val (.ref a_re), .val (.ref b54), .val (.ref a61), .val (own_pick sv (.ref a_su) r0 r1 r2), .val (own_pick sv (.ref a_su) r0 r1 r2), .val (.int (((p5).toUInt32 >>> (((9 : Int32)) &&& 31).toUInt32).toInt32 &&& (3 : Int32))), .val (.int tc), .val (.ref a_t), .val (.int z67), .unset] [(own_pick sv (.ref a_su) q0 q1 q2)]))
        rw [hpk]
        show Goes _ _ _ _ (T68.setTop (mkF m 280 #[.val (.int p1), .val (.int p2), .val (.int p3), .val (.int p4), .val (.int p5), .val (.int p6), .val (.int sv), .val (.int ov), .val (.int ((p2 &&& (255 : Int32))).toUInt32.toUInt16.toUInt32.toInt32), .val (.ref a_su), .val (.ref a_ob), .val (.ref a_re), .val (.ref b54), .val (.ref a61), .val (own_pick sv (.ref a_su) r0 r1 r2), .val (own_pick sv (.ref a_su) r0 r1 r2), .val (.int (((p5).toUInt32 >>> (((9 : Int32)) &&& 31).toUInt32).toInt32 &&& (3 : Int32))), .val (.int tc), .val (.ref a_t), .val (.int z67), .unset] [(.ref ar)]))
        refine Goes.st (fun _ k => XS.astore X68.here hx rfl (hb hby at_280) rfl rfl (l' := #[.val (.int p1), .val (.int p2), .val (.int p3), .val (.int p4), .val (.int p5), .val (.int p6), .val (.int sv), .val (.int ov), .val (.int ((p2 &&& (255 : Int32))).toUInt32.toUInt16.toUInt32.toInt32), .val (.ref a_su), .val (.ref a_ob), .val (.ref a_re), .val (.ref b54), .val (.ref a61), .val (own_pick sv (.ref a_su) r0 r1 r2), .val (own_pick sv (.ref a_su) r0 r1 r2), .val (.int (((p5).toUInt32 >>> (((9 : Int32)) &&& 31).toUInt32).toInt32 &&& (3 : Int32))), .val (.int tc), .val (.ref a_t), .val (.int z67), .val (.ref ar)]) rfl k) ?_
        show Goes _ _ _ _ (T68.setTop (mkF m 282 #[.val (.int p1), .val (.int p2), .val (.int p3), .val (.int p4), .val (.int p5), .val (.int p6), .val (.int sv), .val (.int ov), .val (.int ((p2 &&& (255 : Int32))).toUInt32.toUInt16.toUInt32.toInt32), .val (.ref a_su), .val (.ref a_ob), .val (.ref a_re), .val (.ref b54), .val (.ref a61), .val (own_pick sv (.ref a_su) r0 r1 r2), .val (own_pick sv (.ref a_su) r0 r1 r2), .val (.int (((p5).toUInt32 >>> (((9 : Int32)) &&& 31).toUInt32).toInt32 &&& (3 : Int32))), .val (.int tc), .val (.ref a_t), .val (.int z67), .val (.ref ar)] []))
        refine Goes.st (fun _ k => XS.aload X68.here hx rfl (hb hby at_282) rfl rfl k) ?_
        show Goes _ _ _ _ (T68.setTop (mkF m 284 #[.val (.int p1), .val (.int p2), .val (.int p3), .val (.int p4), .val (.int p5), .val (.int p6), .val (.int sv), .val (.int ov), .val (.int ((p2 &&& (255 : Int32))).toUInt32.toUInt16.toUInt32.toInt32), .val (.ref a_su), .val (.ref a_ob), .val (.ref a_re), .val (.ref b54), .val (.ref a61), .val (own_pick sv (.ref a_su) r0 r1 r2), .val (own_pick sv (.ref a_su) r0 r1 r2), .val (.int (((p5).toUInt32 >>> (((9 : Int32)) &&& 31).toUInt32).toInt32 &&& (3 : Int32))), .val (.int tc), .val (.ref a_t), .val (.int z67), .val (.ref ar)] [(.ref ar)]))
        refine Goes.st (fun _ k => XS.ifnullNo X68.here hx rfl (hb hby at_284) rfl k) ?_
        show Goes _ _ _ _ (T68.setTop (mkF m 287 #[.val (.int p1), .val (.int p2), .val (.int p3), .val (.int p4), .val (.int p5), .val (.int p6), .val (.int sv), .val (.int ov), .val (.int ((p2 &&& (255 : Int32))).toUInt32.toUInt16.toUInt32.toInt32), .val (.ref a_su), .val (.ref a_ob), .val (.ref a_re), .val (.ref b54), .val (.ref a61), .val (own_pick sv (.ref a_su) r0 r1 r2), .val (own_pick sv (.ref a_su) r0 r1 r2), .val (.int (((p5).toUInt32 >>> (((9 : Int32)) &&& 31).toUInt32).toInt32 &&& (3 : Int32))), .val (.int tc), .val (.ref a_t), .val (.int z67), .val (.ref ar)] []))
        refine Goes.st (fun _ k => XS.aload X68.here hx rfl (hb hby at_287) rfl rfl k) ?_
        show Goes _ _ _ _ (T68.setTop (mkF m 289 #[.val (.int p1), .val (.int p2), .val (.int p3), .val (.int p4), .val (.int p5), .val (.int p6), .val (.int sv), .val (.int ov), .val (.int ((p2 &&& (255 : Int32))).toUInt32.toUInt16.toUInt32.toInt32), .val (.ref a_su), .val (.ref a_ob), .val (.ref a_re), .val (.ref b54), .val (.ref a61), .val (own_pick sv (.ref a_su) r0 r1 r2), .val (own_pick sv (.ref a_su) r0 r1 r2), .val (.int (((p5).toUInt32 >>> (((9 : Int32)) &&& 31).toUInt32).toInt32 &&& (3 : Int32))), .val (.int tc), .val (.ref a_t), .val (.int z67), .val (.ref ar)] [(.ref ar)]))
        refine Goes.st (fun _ k => XS.aload X68.here hx rfl (hb hby at_289) rfl rfl k) ?_
        show Goes _ _ _ _ (T68.setTop (mkF m 291 #[.val (.int p1), .val (.int p2), .val (.int p3), .val (.int p4), .val (.int p5), .val (.int p6), .val (.int sv), .val (.int ov), .val (.int ((p2 &&& (255 : Int32))).toUInt32.toUInt16.toUInt32.toInt32), .val (.ref a_su), .val (.ref a_ob), .val (.ref a_re), .val (.ref b54), .val (.ref a61), .val (own_pick sv (.ref a_su) r0 r1 r2), .val (own_pick sv (.ref a_su) r0 r1 r2), .val (.int (((p5).toUInt32 >>> (((9 : Int32)) &&& 31).toUInt32).toInt32 &&& (3 : Int32))), .val (.int tc), .val (.ref a_t), .val (.int z67), .val (.ref ar)] [(.ref a_t), (.ref ar)]))
        obtain ⟨cq69, kq69, qa69, qb69, qc69⟩ := isOf hZ eq68 Sr.1
        obtain ⟨_, _, ⟨T69, L69, k69, n69⟩, -, X69, ⟨Lc69, hQ69, l69, y69, z69⟩, st69⟩ := X68.virtualBack hx (y := (⟨"java/lang/String", "equals", "(Ljava/lang/Object;)Z"⟩ : MethodName)) (z := (⟨"java/lang/String", "equals", "(Ljava/lang/Object;)Z"⟩ : MethodName)) hown (mvT hZ (hw _ (List.mem_of_getElem? (i := 98) rfl))) (mvT hZ (hw _ (List.mem_of_getElem? (i := 99) rfl))) (notFace_of_selects (args := #[]) (mvT hZ (hw _ (List.mem_of_getElem? (i := 101) rfl)))) (mvT hZ (hw _ (List.mem_of_getElem? (i := 101) rfl))) (mvT hZ (hw _ (List.mem_of_getElem? (i := 100) rfl))) (by decide) (backOf (W := 0) (rm17 l Z a0 hw [] ar a_t xr xr cs T67.heap n0 Z2 Sr St XO2 SC hcs) hZ (hw _ (List.mem_of_getElem? (i := 102) rfl)) (hw _ (List.mem_of_getElem? (i := 6) rfl)) (by decide) (by decide)) qa69 qc69 (g := (mkF m 291 #[.val (.int p1), .val (.int p2), .val (.int p3), .val (.int p4), .val (.int p5), .val (.int p6), .val (.int sv), .val (.int ov), .val (.int ((p2 &&& (255 : Int32))).toUInt32.toUInt16.toUInt32.toInt32), .val (.ref a_su), .val (.ref a_ob), .val (.ref a_re), .val (.ref b54), .val (.ref a61), .val (own_pick sv (.ref a_su) r0 r1 r2), .val (own_pick sv (.ref a_su) r0 r1 r2), .val (.int (((p5).toUInt32 >>> (((9 : Int32)) &&& 31).toUInt32).toInt32 &&& (3 : Int32))), .val (.int tc), .val (.ref a_t), .val (.int z67), .val (.ref ar)] [(.ref a_t), (.ref ar)])) rfl (by rw [hml]; rfl) (Steps.refl _) (argsL := [(.ref a_t)]) (rest := []) (lenOf pd_17 rfl) rfl (by show 2 * 0 + _ ≤ _; exact Nat.le_of_eq rfl) (hb hby at_291) (fun _ _ => ⟨rfl, eq68, (by decide : 17 + 0 ≤ _), (by decide : 46 + 0 ≤ _)⟩)
        dsimp only [Pt.U, Pt.locs, Pt.cells, Pt.slots] at X69 l69 y69 z69 st69 hQ69
        subst l69 y69 z69
        obtain ⟨rfl, Nq69, eq69⟩ := hQ69
        have N69 := Fr.app N68 Nq69
        refine Goes.tr st69 ?_
        show Goes _ _ _ _ (T69.setTop (mkF m 294 #[.val (.int p1), .val (.int p2), .val (.int p3), .val (.int p4), .val (.int p5), .val (.int p6), .val (.int sv), .val (.int ov), .val (.int ((p2 &&& (255 : Int32))).toUInt32.toUInt16.toUInt32.toInt32), .val (.ref a_su), .val (.ref a_ob), .val (.ref a_re), .val (.ref b54), .val (.ref a61), .val (own_pick sv (.ref a_su) r0 r1 r2), .val (own_pick sv (.ref a_su) r0 r1 r2), .val (.int (((p5).toUInt32 >>> (((9 : Int32)) &&& 31).toUInt32).toInt32 &&& (3 : Int32))), .val (.int tc), .val (.ref a_t), .val (.int z67), .val (.ref ar)] [(.int (own_eq xr xr))]))
        have hq : own_eq xr xr = 1 := if_pos rfl
        rw [hq]
        show Goes _ _ _ _ (T69.setTop (mkF m 294 #[.val (.int p1), .val (.int p2), .val (.int p3), .val (.int p4), .val (.int p5), .val (.int p6), .val (.int sv), .val (.int ov), .val (.int ((p2 &&& (255 : Int32))).toUInt32.toUInt16.toUInt32.toInt32), .val (.ref a_su), .val (.ref a_ob), .val (.ref a_re), .val (.ref b54), .val (.ref a61), .val (own_pick sv (.ref a_su) r0 r1 r2), .val (own_pick sv (.ref a_su) r0 r1 r2), .val (.int (((p5).toUInt32 >>> (((9 : Int32)) &&& 31).toUInt32).toInt32 &&& (3 : Int32))), .val (.int tc), .val (.ref a_t), .val (.int z67), .val (.ref ar)] [(.int (1 : Int32))]))
        refine Goes.st (fun _ k => XS.ifNo X69.here hx rfl (hb hby at_294) rfl (by decide) k) ?_
        show Goes _ _ _ _ (T69.setTop (mkF m 297 #[.val (.int p1), .val (.int p2), .val (.int p3), .val (.int p4), .val (.int p5), .val (.int p6), .val (.int sv), .val (.int ov), .val (.int ((p2 &&& (255 : Int32))).toUInt32.toUInt16.toUInt32.toInt32), .val (.ref a_su), .val (.ref a_ob), .val (.ref a_re), .val (.ref b54), .val (.ref a61), .val (own_pick sv (.ref a_su) r0 r1 r2), .val (own_pick sv (.ref a_su) r0 r1 r2), .val (.int (((p5).toUInt32 >>> (((9 : Int32)) &&& 31).toUInt32).toInt32 &&& (3 : Int32))), .val (.int tc), .val (.ref a_t), .val (.int z67), .val (.ref ar)] []))
        refine Goes.st (fun _ k => XS.iconst X69.here hx rfl (hb hby at_297) k) ?_
        show Goes _ _ _ _ (T69.setTop (mkF m 298 #[.val (.int p1), .val (.int p2), .val (.int p3), .val (.int p4), .val (.int p5), .val (.int p6), .val (.int sv), .val (.int ov), .val (.int ((p2 &&& (255 : Int32))).toUInt32.toUInt16.toUInt32.toInt32), .val (.ref a_su), .val (.ref a_ob), .val (.ref a_re), .val (.ref b54), .val (.ref a61), .val (own_pick sv (.ref a_su) r0 r1 r2), .val (own_pick sv (.ref a_su) r0 r1 r2), .val (.int (((p5).toUInt32 >>> (((9 : Int32)) &&& 31).toUInt32).toInt32 &&& (3 : Int32))), .val (.int tc), .val (.ref a_t), .val (.int z67), .val (.ref ar)] [(.int (1 : Int32))]))
        refine Goes.st (fun _ k => XS.goto X69.here hx rfl (pc0 := 298) (pc' := 302) rfl (hb hby at_298) (by decide) (by decide) k) ?_
        show Goes _ _ _ _ (T69.setTop (mkF m 302 #[.val (.int p1), .val (.int p2), .val (.int p3), .val (.int p4), .val (.int p5), .val (.int p6), .val (.int sv), .val (.int ov), .val (.int ((p2 &&& (255 : Int32))).toUInt32.toUInt16.toUInt32.toInt32), .val (.ref a_su), .val (.ref a_ob), .val (.ref a_re), .val (.ref b54), .val (.ref a61), .val (own_pick sv (.ref a_su) r0 r1 r2), .val (own_pick sv (.ref a_su) r0 r1 r2), .val (.int (((p5).toUInt32 >>> (((9 : Int32)) &&& 31).toUInt32).toInt32 &&& (3 : Int32))), .val (.int tc), .val (.ref a_t), .val (.int z67), .val (.ref ar)] [(.int (1 : Int32))]))
        exact leafZ X69 hx Bd.notSynchronized Bd.returns (hb hby at_302) (by decide) (by decide) (by decide) ⟨rfl, N69⟩
    by_cases hs183 : (((p5).toUInt32 >>> (((9 : Int32)) &&& 31).toUInt32).toInt32 &&& (3 : Int32)) = (0 : Int32)
    · skip
      refine Goes.st (fun _ k => XS.ifNo X63.here hx rfl (hb hby at_183) rfl ((if0 _ _).trans (teq hs183).2) k) ?_
      show Goes _ _ _ _ (T63.setTop (mkF m 186 #[.val (.int p1), .val (.int p2), .val (.int p3), .val (.int p4), .val (.int p5), .val (.int p6), .val (.int sv), .val (.int ov), .val (.int ((p2 &&& (255 : Int32))).toUInt32.toUInt16.toUInt32.toInt32), .val (.ref a_su), .val (.ref a_ob), .val (.ref a_re), .val (.ref b54), .val (.ref a61), .val (own_pick sv (.ref a_su) r0 r1 r2), .val (own_pick sv (.ref a_su) r0 r1 r2), .val (.int (((p5).toUInt32 >>> (((9 : Int32)) &&& 31).toUInt32).toInt32 &&& (3 : Int32))), .unset, .unset, .unset, .unset] []))
      refine Goes.st (fun _ k => XS.iload X63.here hx rfl (hb hby at_186) rfl k) ?_
      show Goes _ _ _ _ (T63.setTop (mkF m 188 #[.val (.int p1), .val (.int p2), .val (.int p3), .val (.int p4), .val (.int p5), .val (.int p6), .val (.int sv), .val (.int ov), .val (.int ((p2 &&& (255 : Int32))).toUInt32.toUInt16.toUInt32.toInt32), .val (.ref a_su), .val (.ref a_ob), .val (.ref a_re), .val (.ref b54), .val (.ref a61), .val (own_pick sv (.ref a_su) r0 r1 r2), .val (own_pick sv (.ref a_su) r0 r1 r2), .val (.int (((p5).toUInt32 >>> (((9 : Int32)) &&& 31).toUInt32).toInt32 &&& (3 : Int32))), .unset, .unset, .unset, .unset] [(.int ((p2 &&& (255 : Int32))).toUInt32.toUInt16.toUInt32.toInt32)]))
      refine Goes.st (fun _ k => XS.istore X63.here hx rfl (hb hby at_188) rfl (l' := #[.val (.int p1), .val (.int p2), .val (.int p3), .val (.int p4), .val (.int p5), .val (.int p6), .val (.int sv), .val (.int ov), .val (.int ((p2 &&& (255 : Int32))).toUInt32.toUInt16.toUInt32.toInt32), .val (.ref a_su), .val (.ref a_ob), .val (.ref a_re), .val (.ref b54), .val (.ref a61), .val (own_pick sv (.ref a_su) r0 r1 r2), .val (own_pick sv (.ref a_su) r0 r1 r2), .val (.int (((p5).toUInt32 >>> (((9 : Int32)) &&& 31).toUInt32).toInt32 &&& (3 : Int32))), .val (.int ((p2 &&& (255 : Int32))).toUInt32.toUInt16.toUInt32.toInt32), .unset, .unset, .unset]) rfl k) ?_
      show Goes _ _ _ _ (T63.setTop (mkF m 190 #[.val (.int p1), .val (.int p2), .val (.int p3), .val (.int p4), .val (.int p5), .val (.int p6), .val (.int sv), .val (.int ov), .val (.int ((p2 &&& (255 : Int32))).toUInt32.toUInt16.toUInt32.toInt32), .val (.ref a_su), .val (.ref a_ob), .val (.ref a_re), .val (.ref b54), .val (.ref a61), .val (own_pick sv (.ref a_su) r0 r1 r2), .val (own_pick sv (.ref a_su) r0 r1 r2), .val (.int (((p5).toUInt32 >>> (((9 : Int32)) &&& 31).toUInt32).toInt32 &&& (3 : Int32))), .val (.int ((p2 &&& (255 : Int32))).toUInt32.toUInt16.toUInt32.toInt32), .unset, .unset, .unset] []))
      refine Goes.st (fun _ k => XS.goto X63.here hx rfl (pc0 := 190) (pc' := 239) rfl (hb hby at_190) (by decide) (by decide) k) ?_
      show Goes _ _ _ _ (T63.setTop (mkF m 239 #[.val (.int p1), .val (.int p2), .val (.int p3), .val (.int p4), .val (.int p5), .val (.int p6), .val (.int sv), .val (.int ov), .val (.int ((p2 &&& (255 : Int32))).toUInt32.toUInt16.toUInt32.toInt32), .val (.ref a_su), .val (.ref a_ob), .val (.ref a_re), .val (.ref b54), .val (.ref a61), .val (own_pick sv (.ref a_su) r0 r1 r2), .val (own_pick sv (.ref a_su) r0 r1 r2), .val (.int (((p5).toUInt32 >>> (((9 : Int32)) &&& 31).toUInt32).toInt32 &&& (3 : Int32))), .val (.int ((p2 &&& (255 : Int32))).toUInt32.toUInt16.toUInt32.toInt32), .unset, .unset, .unset] []))
      exact J239 _ hsc
    · skip
      refine Goes.st (fun _ k => XS.ifYes X63.here hx rfl (pc0 := 183) (pc' := 193) rfl (hb hby at_183) rfl ((if0 _ _).trans (feq hs183).2) (by decide) (by decide) k) ?_
      show Goes _ _ _ _ (T63.setTop (mkF m 193 #[.val (.int p1), .val (.int p2), .val (.int p3), .val (.int p4), .val (.int p5), .val (.int p6), .val (.int sv), .val (.int ov), .val (.int ((p2 &&& (255 : Int32))).toUInt32.toUInt16.toUInt32.toInt32), .val (.ref a_su), .val (.ref a_ob), .val (.ref a_re), .val (.ref b54), .val (.ref a61), .val (own_pick sv (.ref a_su) r0 r1 r2), .val (own_pick sv (.ref a_su) r0 r1 r2), .val (.int (((p5).toUInt32 >>> (((9 : Int32)) &&& 31).toUInt32).toInt32 &&& (3 : Int32))), .unset, .unset, .unset, .unset] []))
      refine Goes.st (fun _ k => XS.iload X63.here hx rfl (hb hby at_193) rfl k) ?_
      show Goes _ _ _ _ (T63.setTop (mkF m 195 #[.val (.int p1), .val (.int p2), .val (.int p3), .val (.int p4), .val (.int p5), .val (.int p6), .val (.int sv), .val (.int ov), .val (.int ((p2 &&& (255 : Int32))).toUInt32.toUInt16.toUInt32.toInt32), .val (.ref a_su), .val (.ref a_ob), .val (.ref a_re), .val (.ref b54), .val (.ref a61), .val (own_pick sv (.ref a_su) r0 r1 r2), .val (own_pick sv (.ref a_su) r0 r1 r2), .val (.int (((p5).toUInt32 >>> (((9 : Int32)) &&& 31).toUInt32).toInt32 &&& (3 : Int32))), .unset, .unset, .unset, .unset] [(.int (((p5).toUInt32 >>> (((9 : Int32)) &&& 31).toUInt32).toInt32 &&& (3 : Int32)))]))
      refine Goes.st (fun _ k => XS.iconst X63.here hx rfl (hb hby at_195) k) ?_
      show Goes _ _ _ _ (T63.setTop (mkF m 196 #[.val (.int p1), .val (.int p2), .val (.int p3), .val (.int p4), .val (.int p5), .val (.int p6), .val (.int sv), .val (.int ov), .val (.int ((p2 &&& (255 : Int32))).toUInt32.toUInt16.toUInt32.toInt32), .val (.ref a_su), .val (.ref a_ob), .val (.ref a_re), .val (.ref b54), .val (.ref a61), .val (own_pick sv (.ref a_su) r0 r1 r2), .val (own_pick sv (.ref a_su) r0 r1 r2), .val (.int (((p5).toUInt32 >>> (((9 : Int32)) &&& 31).toUInt32).toInt32 &&& (3 : Int32))), .unset, .unset, .unset, .unset] [(.int (1 : Int32)), (.int (((p5).toUInt32 >>> (((9 : Int32)) &&& 31).toUInt32).toInt32 &&& (3 : Int32)))]))
      by_cases hs196 : (((p5).toUInt32 >>> (((9 : Int32)) &&& 31).toUInt32).toInt32 &&& (3 : Int32)) = (1 : Int32)
      · skip
        refine Goes.st (fun _ k => XS.icmpNo X63.here hx rfl (hb hby at_196) rfl (teq hs196).2 k) ?_
        show Goes _ _ _ _ (T63.setTop (mkF m 199 #[.val (.int p1), .val (.int p2), .val (.int p3), .val (.int p4), .val (.int p5), .val (.int p6), .val (.int sv), .val (.int ov), .val (.int ((p2 &&& (255 : Int32))).toUInt32.toUInt16.toUInt32.toInt32), .val (.ref a_su), .val (.ref a_ob), .val (.ref a_re), .val (.ref b54), .val (.ref a61), .val (own_pick sv (.ref a_su) r0 r1 r2), .val (own_pick sv (.ref a_su) r0 r1 r2), .val (.int (((p5).toUInt32 >>> (((9 : Int32)) &&& 31).toUInt32).toInt32 &&& (3 : Int32))), .unset, .unset, .unset, .unset] []))
        refine Goes.st (fun _ k => XS.iloadN X63.here hx rfl (hb hby at_199) rfl k) ?_
        show Goes _ _ _ _ (T63.setTop (mkF m 200 #[.val (.int p1), .val (.int p2), .val (.int p3), .val (.int p4), .val (.int p5), .val (.int p6), .val (.int sv), .val (.int ov), .val (.int ((p2 &&& (255 : Int32))).toUInt32.toUInt16.toUInt32.toInt32), .val (.ref a_su), .val (.ref a_ob), .val (.ref a_re), .val (.ref b54), .val (.ref a61), .val (own_pick sv (.ref a_su) r0 r1 r2), .val (own_pick sv (.ref a_su) r0 r1 r2), .val (.int (((p5).toUInt32 >>> (((9 : Int32)) &&& 31).toUInt32).toInt32 &&& (3 : Int32))), .unset, .unset, .unset, .unset] [(.int p3)]))
        refine Goes.st (fun _ k => XS.sipush X63.here hx rfl (hb hby at_200) k) ?_
        show Goes _ _ _ _ (T63.setTop (mkF m 203 #[.val (.int p1), .val (.int p2), .val (.int p3), .val (.int p4), .val (.int p5), .val (.int p6), .val (.int sv), .val (.int ov), .val (.int ((p2 &&& (255 : Int32))).toUInt32.toUInt16.toUInt32.toInt32), .val (.ref a_su), .val (.ref a_ob), .val (.ref a_re), .val (.ref b54), .val (.ref a61), .val (own_pick sv (.ref a_su) r0 r1 r2), .val (own_pick sv (.ref a_su) r0 r1 r2), .val (.int (((p5).toUInt32 >>> (((9 : Int32)) &&& 31).toUInt32).toInt32 &&& (3 : Int32))), .unset, .unset, .unset, .unset] [(.int (255 : Int32)), (.int p3)]))
        refine Goes.st (fun _ k => XS.iand X63.here hx rfl (hb hby at_203) rfl k) ?_
        show Goes _ _ _ _ (T63.setTop (mkF m 204 #[.val (.int p1), .val (.int p2), .val (.int p3), .val (.int p4), .val (.int p5), .val (.int p6), .val (.int sv), .val (.int ov), .val (.int ((p2 &&& (255 : Int32))).toUInt32.toUInt16.toUInt32.toInt32), .val (.ref a_su), .val (.ref a_ob), .val (.ref a_re), .val (.ref b54), .val (.ref a61), .val (own_pick sv (.ref a_su) r0 r1 r2), .val (own_pick sv (.ref a_su) r0 r1 r2), .val (.int (((p5).toUInt32 >>> (((9 : Int32)) &&& 31).toUInt32).toInt32 &&& (3 : Int32))), .unset, .unset, .unset, .unset] [(.int (p3 &&& (255 : Int32)))]))
        refine Goes.st (fun _ k => XS.i2c X63.here hx rfl (hb hby at_204) rfl k) ?_
        show Goes _ _ _ _ (T63.setTop (mkF m 205 #[.val (.int p1), .val (.int p2), .val (.int p3), .val (.int p4), .val (.int p5), .val (.int p6), .val (.int sv), .val (.int ov), .val (.int ((p2 &&& (255 : Int32))).toUInt32.toUInt16.toUInt32.toInt32), .val (.ref a_su), .val (.ref a_ob), .val (.ref a_re), .val (.ref b54), .val (.ref a61), .val (own_pick sv (.ref a_su) r0 r1 r2), .val (own_pick sv (.ref a_su) r0 r1 r2), .val (.int (((p5).toUInt32 >>> (((9 : Int32)) &&& 31).toUInt32).toInt32 &&& (3 : Int32))), .unset, .unset, .unset, .unset] [(.int ((p3 &&& (255 : Int32))).toUInt32.toUInt16.toUInt32.toInt32)]))
        refine Goes.st (fun _ k => XS.istore X63.here hx rfl (hb hby at_205) rfl (l' := #[.val (.int p1), .val (.int p2), .val (.int p3), .val (.int p4), .val (.int p5), .val (.int p6), .val (.int sv), .val (.int ov), .val (.int ((p2 &&& (255 : Int32))).toUInt32.toUInt16.toUInt32.toInt32), .val (.ref a_su), .val (.ref a_ob), .val (.ref a_re), .val (.ref b54), .val (.ref a61), .val (own_pick sv (.ref a_su) r0 r1 r2), .val (own_pick sv (.ref a_su) r0 r1 r2), .val (.int (((p5).toUInt32 >>> (((9 : Int32)) &&& 31).toUInt32).toInt32 &&& (3 : Int32))), .val (.int ((p3 &&& (255 : Int32))).toUInt32.toUInt16.toUInt32.toInt32), .unset, .unset, .unset]) rfl k) ?_
        show Goes _ _ _ _ (T63.setTop (mkF m 207 #[.val (.int p1), .val (.int p2), .val (.int p3), .val (.int p4), .val (.int p5), .val (.int p6), .val (.int sv), .val (.int ov), .val (.int ((p2 &&& (255 : Int32))).toUInt32.toUInt16.toUInt32.toInt32), .val (.ref a_su), .val (.ref a_ob), .val (.ref a_re), .val (.ref b54), .val (.ref a61), .val (own_pick sv (.ref a_su) r0 r1 r2), .val (own_pick sv (.ref a_su) r0 r1 r2), .val (.int (((p5).toUInt32 >>> (((9 : Int32)) &&& 31).toUInt32).toInt32 &&& (3 : Int32))), .val (.int ((p3 &&& (255 : Int32))).toUInt32.toUInt16.toUInt32.toInt32), .unset, .unset, .unset] []))
        refine Goes.st (fun _ k => XS.goto X63.here hx rfl (pc0 := 207) (pc' := 239) rfl (hb hby at_207) (by decide) (by decide) k) ?_
        show Goes _ _ _ _ (T63.setTop (mkF m 239 #[.val (.int p1), .val (.int p2), .val (.int p3), .val (.int p4), .val (.int p5), .val (.int p6), .val (.int sv), .val (.int ov), .val (.int ((p2 &&& (255 : Int32))).toUInt32.toUInt16.toUInt32.toInt32), .val (.ref a_su), .val (.ref a_ob), .val (.ref a_re), .val (.ref b54), .val (.ref a61), .val (own_pick sv (.ref a_su) r0 r1 r2), .val (own_pick sv (.ref a_su) r0 r1 r2), .val (.int (((p5).toUInt32 >>> (((9 : Int32)) &&& 31).toUInt32).toInt32 &&& (3 : Int32))), .val (.int ((p3 &&& (255 : Int32))).toUInt32.toUInt16.toUInt32.toInt32), .unset, .unset, .unset] []))
        exact J239 _ (own_ch _)
      · skip
        refine Goes.st (fun _ k => XS.icmpYes X63.here hx rfl (pc0 := 196) (pc' := 210) rfl (hb hby at_196) rfl (feq hs196).2 (by decide) (by decide) k) ?_
        show Goes _ _ _ _ (T63.setTop (mkF m 210 #[.val (.int p1), .val (.int p2), .val (.int p3), .val (.int p4), .val (.int p5), .val (.int p6), .val (.int sv), .val (.int ov), .val (.int ((p2 &&& (255 : Int32))).toUInt32.toUInt16.toUInt32.toInt32), .val (.ref a_su), .val (.ref a_ob), .val (.ref a_re), .val (.ref b54), .val (.ref a61), .val (own_pick sv (.ref a_su) r0 r1 r2), .val (own_pick sv (.ref a_su) r0 r1 r2), .val (.int (((p5).toUInt32 >>> (((9 : Int32)) &&& 31).toUInt32).toInt32 &&& (3 : Int32))), .unset, .unset, .unset, .unset] []))
        refine Goes.st (fun _ k => XS.iload X63.here hx rfl (hb hby at_210) rfl k) ?_
        show Goes _ _ _ _ (T63.setTop (mkF m 212 #[.val (.int p1), .val (.int p2), .val (.int p3), .val (.int p4), .val (.int p5), .val (.int p6), .val (.int sv), .val (.int ov), .val (.int ((p2 &&& (255 : Int32))).toUInt32.toUInt16.toUInt32.toInt32), .val (.ref a_su), .val (.ref a_ob), .val (.ref a_re), .val (.ref b54), .val (.ref a61), .val (own_pick sv (.ref a_su) r0 r1 r2), .val (own_pick sv (.ref a_su) r0 r1 r2), .val (.int (((p5).toUInt32 >>> (((9 : Int32)) &&& 31).toUInt32).toInt32 &&& (3 : Int32))), .unset, .unset, .unset, .unset] [(.int (((p5).toUInt32 >>> (((9 : Int32)) &&& 31).toUInt32).toInt32 &&& (3 : Int32)))]))
        refine Goes.st (fun _ k => XS.iconst X63.here hx rfl (hb hby at_212) k) ?_
        show Goes _ _ _ _ (T63.setTop (mkF m 213 #[.val (.int p1), .val (.int p2), .val (.int p3), .val (.int p4), .val (.int p5), .val (.int p6), .val (.int sv), .val (.int ov), .val (.int ((p2 &&& (255 : Int32))).toUInt32.toUInt16.toUInt32.toInt32), .val (.ref a_su), .val (.ref a_ob), .val (.ref a_re), .val (.ref b54), .val (.ref a61), .val (own_pick sv (.ref a_su) r0 r1 r2), .val (own_pick sv (.ref a_su) r0 r1 r2), .val (.int (((p5).toUInt32 >>> (((9 : Int32)) &&& 31).toUInt32).toInt32 &&& (3 : Int32))), .unset, .unset, .unset, .unset] [(.int (2 : Int32)), (.int (((p5).toUInt32 >>> (((9 : Int32)) &&& 31).toUInt32).toInt32 &&& (3 : Int32)))]))
        by_cases hs213 : (((p5).toUInt32 >>> (((9 : Int32)) &&& 31).toUInt32).toInt32 &&& (3 : Int32)) = (2 : Int32)
        · skip
          refine Goes.st (fun _ k => XS.icmpNo X63.here hx rfl (hb hby at_213) rfl (teq hs213).2 k) ?_
          show Goes _ _ _ _ (T63.setTop (mkF m 216 #[.val (.int p1), .val (.int p2), .val (.int p3), .val (.int p4), .val (.int p5), .val (.int p6), .val (.int sv), .val (.int ov), .val (.int ((p2 &&& (255 : Int32))).toUInt32.toUInt16.toUInt32.toInt32), .val (.ref a_su), .val (.ref a_ob), .val (.ref a_re), .val (.ref b54), .val (.ref a61), .val (own_pick sv (.ref a_su) r0 r1 r2), .val (own_pick sv (.ref a_su) r0 r1 r2), .val (.int (((p5).toUInt32 >>> (((9 : Int32)) &&& 31).toUInt32).toInt32 &&& (3 : Int32))), .unset, .unset, .unset, .unset] []))
          refine Goes.st (fun _ k => XS.iloadN X63.here hx rfl (hb hby at_216) rfl k) ?_
          show Goes _ _ _ _ (T63.setTop (mkF m 217 #[.val (.int p1), .val (.int p2), .val (.int p3), .val (.int p4), .val (.int p5), .val (.int p6), .val (.int sv), .val (.int ov), .val (.int ((p2 &&& (255 : Int32))).toUInt32.toUInt16.toUInt32.toInt32), .val (.ref a_su), .val (.ref a_ob), .val (.ref a_re), .val (.ref b54), .val (.ref a61), .val (own_pick sv (.ref a_su) r0 r1 r2), .val (own_pick sv (.ref a_su) r0 r1 r2), .val (.int (((p5).toUInt32 >>> (((9 : Int32)) &&& 31).toUInt32).toInt32 &&& (3 : Int32))), .unset, .unset, .unset, .unset] [(.int p3)]))
          refine Goes.st (fun _ k => XS.bipush X63.here hx rfl (hb hby at_217) k) ?_
          show Goes _ _ _ _ (T63.setTop (mkF m 219 #[.val (.int p1), .val (.int p2), .val (.int p3), .val (.int p4), .val (.int p5), .val (.int p6), .val (.int sv), .val (.int ov), .val (.int ((p2 &&& (255 : Int32))).toUInt32.toUInt16.toUInt32.toInt32), .val (.ref a_su), .val (.ref a_ob), .val (.ref a_re), .val (.ref b54), .val (.ref a61), .val (own_pick sv (.ref a_su) r0 r1 r2), .val (own_pick sv (.ref a_su) r0 r1 r2), .val (.int (((p5).toUInt32 >>> (((9 : Int32)) &&& 31).toUInt32).toInt32 &&& (3 : Int32))), .unset, .unset, .unset, .unset] [(.int (8 : Int32)), (.int p3)]))
          refine Goes.st (fun _ k => XS.iushr X63.here hx rfl (hb hby at_219) rfl k) ?_
          show Goes _ _ _ _ (T63.setTop (mkF m 220 #[.val (.int p1), .val (.int p2), .val (.int p3), .val (.int p4), .val (.int p5), .val (.int p6), .val (.int sv), .val (.int ov), .val (.int ((p2 &&& (255 : Int32))).toUInt32.toUInt16.toUInt32.toInt32), .val (.ref a_su), .val (.ref a_ob), .val (.ref a_re), .val (.ref b54), .val (.ref a61), .val (own_pick sv (.ref a_su) r0 r1 r2), .val (own_pick sv (.ref a_su) r0 r1 r2), .val (.int (((p5).toUInt32 >>> (((9 : Int32)) &&& 31).toUInt32).toInt32 &&& (3 : Int32))), .unset, .unset, .unset, .unset] [(.int ((p3).toUInt32 >>> (((8 : Int32)) &&& 31).toUInt32).toInt32)]))
          refine Goes.st (fun _ k => XS.sipush X63.here hx rfl (hb hby at_220) k) ?_
          show Goes _ _ _ _ (T63.setTop (mkF m 223 #[.val (.int p1), .val (.int p2), .val (.int p3), .val (.int p4), .val (.int p5), .val (.int p6), .val (.int sv), .val (.int ov), .val (.int ((p2 &&& (255 : Int32))).toUInt32.toUInt16.toUInt32.toInt32), .val (.ref a_su), .val (.ref a_ob), .val (.ref a_re), .val (.ref b54), .val (.ref a61), .val (own_pick sv (.ref a_su) r0 r1 r2), .val (own_pick sv (.ref a_su) r0 r1 r2), .val (.int (((p5).toUInt32 >>> (((9 : Int32)) &&& 31).toUInt32).toInt32 &&& (3 : Int32))), .unset, .unset, .unset, .unset] [(.int (255 : Int32)), (.int ((p3).toUInt32 >>> (((8 : Int32)) &&& 31).toUInt32).toInt32)]))
          refine Goes.st (fun _ k => XS.iand X63.here hx rfl (hb hby at_223) rfl k) ?_
          show Goes _ _ _ _ (T63.setTop (mkF m 224 #[.val (.int p1), .val (.int p2), .val (.int p3), .val (.int p4), .val (.int p5), .val (.int p6), .val (.int sv), .val (.int ov), .val (.int ((p2 &&& (255 : Int32))).toUInt32.toUInt16.toUInt32.toInt32), .val (.ref a_su), .val (.ref a_ob), .val (.ref a_re), .val (.ref b54), .val (.ref a61), .val (own_pick sv (.ref a_su) r0 r1 r2), .val (own_pick sv (.ref a_su) r0 r1 r2), .val (.int (((p5).toUInt32 >>> (((9 : Int32)) &&& 31).toUInt32).toInt32 &&& (3 : Int32))), .unset, .unset, .unset, .unset] [(.int (((p3).toUInt32 >>> (((8 : Int32)) &&& 31).toUInt32).toInt32 &&& (255 : Int32)))]))
          refine Goes.st (fun _ k => XS.i2c X63.here hx rfl (hb hby at_224) rfl k) ?_
          show Goes _ _ _ _ (T63.setTop (mkF m 225 #[.val (.int p1), .val (.int p2), .val (.int p3), .val (.int p4), .val (.int p5), .val (.int p6), .val (.int sv), .val (.int ov), .val (.int ((p2 &&& (255 : Int32))).toUInt32.toUInt16.toUInt32.toInt32), .val (.ref a_su), .val (.ref a_ob), .val (.ref a_re), .val (.ref b54), .val (.ref a61), .val (own_pick sv (.ref a_su) r0 r1 r2), .val (own_pick sv (.ref a_su) r0 r1 r2), .val (.int (((p5).toUInt32 >>> (((9 : Int32)) &&& 31).toUInt32).toInt32 &&& (3 : Int32))), .unset, .unset, .unset, .unset] [(.int ((((p3).toUInt32 >>> (((8 : Int32)) &&& 31).toUInt32).toInt32 &&& (255 : Int32))).toUInt32.toUInt16.toUInt32.toInt32)]))
          refine Goes.st (fun _ k => XS.istore X63.here hx rfl (hb hby at_225) rfl (l' := #[.val (.int p1), .val (.int p2), .val (.int p3), .val (.int p4), .val (.int p5), .val (.int p6), .val (.int sv), .val (.int ov), .val (.int ((p2 &&& (255 : Int32))).toUInt32.toUInt16.toUInt32.toInt32), .val (.ref a_su), .val (.ref a_ob), .val (.ref a_re), .val (.ref b54), .val (.ref a61), .val (own_pick sv (.ref a_su) r0 r1 r2), .val (own_pick sv (.ref a_su) r0 r1 r2), .val (.int (((p5).toUInt32 >>> (((9 : Int32)) &&& 31).toUInt32).toInt32 &&& (3 : Int32))), .val (.int ((((p3).toUInt32 >>> (((8 : Int32)) &&& 31).toUInt32).toInt32 &&& (255 : Int32))).toUInt32.toUInt16.toUInt32.toInt32), .unset, .unset, .unset]) rfl k) ?_
          show Goes _ _ _ _ (T63.setTop (mkF m 227 #[.val (.int p1), .val (.int p2), .val (.int p3), .val (.int p4), .val (.int p5), .val (.int p6), .val (.int sv), .val (.int ov), .val (.int ((p2 &&& (255 : Int32))).toUInt32.toUInt16.toUInt32.toInt32), .val (.ref a_su), .val (.ref a_ob), .val (.ref a_re), .val (.ref b54), .val (.ref a61), .val (own_pick sv (.ref a_su) r0 r1 r2), .val (own_pick sv (.ref a_su) r0 r1 r2), .val (.int (((p5).toUInt32 >>> (((9 : Int32)) &&& 31).toUInt32).toInt32 &&& (3 : Int32))), .val (.int ((((p3).toUInt32 >>> (((8 : Int32)) &&& 31).toUInt32).toInt32 &&& (255 : Int32))).toUInt32.toUInt16.toUInt32.toInt32), .unset, .unset, .unset] []))
          refine Goes.st (fun _ k => XS.goto X63.here hx rfl (pc0 := 227) (pc' := 239) rfl (hb hby at_227) (by decide) (by decide) k) ?_
          show Goes _ _ _ _ (T63.setTop (mkF m 239 #[.val (.int p1), .val (.int p2), .val (.int p3), .val (.int p4), .val (.int p5), .val (.int p6), .val (.int sv), .val (.int ov), .val (.int ((p2 &&& (255 : Int32))).toUInt32.toUInt16.toUInt32.toInt32), .val (.ref a_su), .val (.ref a_ob), .val (.ref a_re), .val (.ref b54), .val (.ref a61), .val (own_pick sv (.ref a_su) r0 r1 r2), .val (own_pick sv (.ref a_su) r0 r1 r2), .val (.int (((p5).toUInt32 >>> (((9 : Int32)) &&& 31).toUInt32).toInt32 &&& (3 : Int32))), .val (.int ((((p3).toUInt32 >>> (((8 : Int32)) &&& 31).toUInt32).toInt32 &&& (255 : Int32))).toUInt32.toUInt16.toUInt32.toInt32), .unset, .unset, .unset] []))
          exact J239 _ (own_ch _)
        · skip
          refine Goes.st (fun _ k => XS.icmpYes X63.here hx rfl (pc0 := 213) (pc' := 230) rfl (hb hby at_213) rfl (feq hs213).2 (by decide) (by decide) k) ?_
          show Goes _ _ _ _ (T63.setTop (mkF m 230 #[.val (.int p1), .val (.int p2), .val (.int p3), .val (.int p4), .val (.int p5), .val (.int p6), .val (.int sv), .val (.int ov), .val (.int ((p2 &&& (255 : Int32))).toUInt32.toUInt16.toUInt32.toInt32), .val (.ref a_su), .val (.ref a_ob), .val (.ref a_re), .val (.ref b54), .val (.ref a61), .val (own_pick sv (.ref a_su) r0 r1 r2), .val (own_pick sv (.ref a_su) r0 r1 r2), .val (.int (((p5).toUInt32 >>> (((9 : Int32)) &&& 31).toUInt32).toInt32 &&& (3 : Int32))), .unset, .unset, .unset, .unset] []))
          refine Goes.st (fun _ k => XS.iload X63.here hx rfl (hb hby at_230) rfl k) ?_
          show Goes _ _ _ _ (T63.setTop (mkF m 232 #[.val (.int p1), .val (.int p2), .val (.int p3), .val (.int p4), .val (.int p5), .val (.int p6), .val (.int sv), .val (.int ov), .val (.int ((p2 &&& (255 : Int32))).toUInt32.toUInt16.toUInt32.toInt32), .val (.ref a_su), .val (.ref a_ob), .val (.ref a_re), .val (.ref b54), .val (.ref a61), .val (own_pick sv (.ref a_su) r0 r1 r2), .val (own_pick sv (.ref a_su) r0 r1 r2), .val (.int (((p5).toUInt32 >>> (((9 : Int32)) &&& 31).toUInt32).toInt32 &&& (3 : Int32))), .unset, .unset, .unset, .unset] [(.int p5)]))
          refine Goes.st (fun _ k => XS.sipush X63.here hx rfl (hb hby at_232) k) ?_
          show Goes _ _ _ _ (T63.setTop (mkF m 235 #[.val (.int p1), .val (.int p2), .val (.int p3), .val (.int p4), .val (.int p5), .val (.int p6), .val (.int sv), .val (.int ov), .val (.int ((p2 &&& (255 : Int32))).toUInt32.toUInt16.toUInt32.toInt32), .val (.ref a_su), .val (.ref a_ob), .val (.ref a_re), .val (.ref b54), .val (.ref a61), .val (own_pick sv (.ref a_su) r0 r1 r2), .val (own_pick sv (.ref a_su) r0 r1 r2), .val (.int (((p5).toUInt32 >>> (((9 : Int32)) &&& 31).toUInt32).toInt32 &&& (3 : Int32))), .unset, .unset, .unset, .unset] [(.int (255 : Int32)), (.int p5)]))
          refine Goes.st (fun _ k => XS.iand X63.here hx rfl (hb hby at_235) rfl k) ?_
          show Goes _ _ _ _ (T63.setTop (mkF m 236 #[.val (.int p1), .val (.int p2), .val (.int p3), .val (.int p4), .val (.int p5), .val (.int p6), .val (.int sv), .val (.int ov), .val (.int ((p2 &&& (255 : Int32))).toUInt32.toUInt16.toUInt32.toInt32), .val (.ref a_su), .val (.ref a_ob), .val (.ref a_re), .val (.ref b54), .val (.ref a61), .val (own_pick sv (.ref a_su) r0 r1 r2), .val (own_pick sv (.ref a_su) r0 r1 r2), .val (.int (((p5).toUInt32 >>> (((9 : Int32)) &&& 31).toUInt32).toInt32 &&& (3 : Int32))), .unset, .unset, .unset, .unset] [(.int (p5 &&& (255 : Int32)))]))
          refine Goes.st (fun _ k => XS.i2c X63.here hx rfl (hb hby at_236) rfl k) ?_
          show Goes _ _ _ _ (T63.setTop (mkF m 237 #[.val (.int p1), .val (.int p2), .val (.int p3), .val (.int p4), .val (.int p5), .val (.int p6), .val (.int sv), .val (.int ov), .val (.int ((p2 &&& (255 : Int32))).toUInt32.toUInt16.toUInt32.toInt32), .val (.ref a_su), .val (.ref a_ob), .val (.ref a_re), .val (.ref b54), .val (.ref a61), .val (own_pick sv (.ref a_su) r0 r1 r2), .val (own_pick sv (.ref a_su) r0 r1 r2), .val (.int (((p5).toUInt32 >>> (((9 : Int32)) &&& 31).toUInt32).toInt32 &&& (3 : Int32))), .unset, .unset, .unset, .unset] [(.int ((p5 &&& (255 : Int32))).toUInt32.toUInt16.toUInt32.toInt32)]))
          refine Goes.st (fun _ k => XS.istore X63.here hx rfl (hb hby at_237) rfl (l' := #[.val (.int p1), .val (.int p2), .val (.int p3), .val (.int p4), .val (.int p5), .val (.int p6), .val (.int sv), .val (.int ov), .val (.int ((p2 &&& (255 : Int32))).toUInt32.toUInt16.toUInt32.toInt32), .val (.ref a_su), .val (.ref a_ob), .val (.ref a_re), .val (.ref b54), .val (.ref a61), .val (own_pick sv (.ref a_su) r0 r1 r2), .val (own_pick sv (.ref a_su) r0 r1 r2), .val (.int (((p5).toUInt32 >>> (((9 : Int32)) &&& 31).toUInt32).toInt32 &&& (3 : Int32))), .val (.int ((p5 &&& (255 : Int32))).toUInt32.toUInt16.toUInt32.toInt32), .unset, .unset, .unset]) rfl k) ?_
          show Goes _ _ _ _ (T63.setTop (mkF m 239 #[.val (.int p1), .val (.int p2), .val (.int p3), .val (.int p4), .val (.int p5), .val (.int p6), .val (.int sv), .val (.int ov), .val (.int ((p2 &&& (255 : Int32))).toUInt32.toUInt16.toUInt32.toInt32), .val (.ref a_su), .val (.ref a_ob), .val (.ref a_re), .val (.ref b54), .val (.ref a61), .val (own_pick sv (.ref a_su) r0 r1 r2), .val (own_pick sv (.ref a_su) r0 r1 r2), .val (.int (((p5).toUInt32 >>> (((9 : Int32)) &&& 31).toUInt32).toInt32 &&& (3 : Int32))), .val (.int ((p5 &&& (255 : Int32))).toUInt32.toUInt16.toUInt32.toInt32), .unset, .unset, .unset] []))
          exact J239 _ (own_ch _)
  by_cases hc : sv = (-1 : Int32)
  · skip
    refine Goes.st (fun _ k => XS.icmpNo X62.here hx rfl (hb hby at_109) rfl (teq hc).2 k) ?_
    show Goes _ _ _ _ (T62.setTop (mkF m 112 #[.val (.int p1), .val (.int p2), .val (.int p3), .val (.int p4), .val (.int p5), .val (.int p6), .val (.int sv), .val (.int ov), .val (.int ((p2 &&& (255 : Int32))).toUInt32.toUInt16.toUInt32.toInt32), .val (.ref a_su), .val (.ref a_ob), .val (.ref a_re), .val (.ref b54), .val (.ref a61), .unset, .unset, .unset, .unset, .unset, .unset, .unset] []))
    refine Goes.st (fun _ k => XS.aload X62.here hx rfl (hb hby at_112) rfl rfl k) ?_
    show Goes _ _ _ _ (T62.setTop (mkF m 114 #[.val (.int p1), .val (.int p2), .val (.int p3), .val (.int p4), .val (.int p5), .val (.int p6), .val (.int sv), .val (.int ov), .val (.int ((p2 &&& (255 : Int32))).toUInt32.toUInt16.toUInt32.toInt32), .val (.ref a_su), .val (.ref a_ob), .val (.ref a_re), .val (.ref b54), .val (.ref a61), .unset, .unset, .unset, .unset, .unset, .unset, .unset] [(.ref a_su)]))
    refine Goes.st (fun _ k => XS.astore X62.here hx rfl (hb hby at_114) rfl rfl (l' := #[.val (.int p1), .val (.int p2), .val (.int p3), .val (.int p4), .val (.int p5), .val (.int p6), .val (.int sv), .val (.int ov), .val (.int ((p2 &&& (255 : Int32))).toUInt32.toUInt16.toUInt32.toInt32), .val (.ref a_su), .val (.ref a_ob), .val (.ref a_re), .val (.ref b54), .val (.ref a61), .val (.ref a_su), .unset, .unset, .unset, .unset, .unset, .unset]) rfl k) ?_
    show Goes _ _ _ _ (T62.setTop (mkF m 116 #[.val (.int p1), .val (.int p2), .val (.int p3), .val (.int p4), .val (.int p5), .val (.int p6), .val (.int sv), .val (.int ov), .val (.int ((p2 &&& (255 : Int32))).toUInt32.toUInt16.toUInt32.toInt32), .val (.ref a_su), .val (.ref a_ob), .val (.ref a_re), .val (.ref b54), .val (.ref a61), .val (.ref a_su), .unset, .unset, .unset, .unset, .unset, .unset] []))
    refine Goes.st (fun _ k => XS.goto X62.here hx rfl (pc0 := 116) (pc' := 154) rfl (hb hby at_116) (by decide) (by decide) k) ?_
    show Goes _ _ _ _ (T62.setTop (mkF m 154 #[.val (.int p1), .val (.int p2), .val (.int p3), .val (.int p4), .val (.int p5), .val (.int p6), .val (.int sv), .val (.int ov), .val (.int ((p2 &&& (255 : Int32))).toUInt32.toUInt16.toUInt32.toInt32), .val (.ref a_su), .val (.ref a_ob), .val (.ref a_re), .val (.ref b54), .val (.ref a61), .val (.ref a_su), .unset, .unset, .unset, .unset, .unset, .unset] []))
    have hq : (own_pick sv (.ref a_su) r0 r1 r2) = .ref a_su := own_pick_m hc
    rw [hq] at J154
    exact J154
  · skip
    refine Goes.st (fun _ k => XS.icmpYes X62.here hx rfl (pc0 := 109) (pc' := 119) rfl (hb hby at_109) rfl (feq hc).2 (by decide) (by decide) k) ?_
    show Goes _ _ _ _ (T62.setTop (mkF m 119 #[.val (.int p1), .val (.int p2), .val (.int p3), .val (.int p4), .val (.int p5), .val (.int p6), .val (.int sv), .val (.int ov), .val (.int ((p2 &&& (255 : Int32))).toUInt32.toUInt16.toUInt32.toInt32), .val (.ref a_su), .val (.ref a_ob), .val (.ref a_re), .val (.ref b54), .val (.ref a61), .unset, .unset, .unset, .unset, .unset, .unset, .unset] []))
    refine Goes.st (fun _ k => XS.iload X62.here hx rfl (hb hby at_119) rfl k) ?_
    show Goes _ _ _ _ (T62.setTop (mkF m 121 #[.val (.int p1), .val (.int p2), .val (.int p3), .val (.int p4), .val (.int p5), .val (.int p6), .val (.int sv), .val (.int ov), .val (.int ((p2 &&& (255 : Int32))).toUInt32.toUInt16.toUInt32.toInt32), .val (.ref a_su), .val (.ref a_ob), .val (.ref a_re), .val (.ref b54), .val (.ref a61), .unset, .unset, .unset, .unset, .unset, .unset, .unset] [(.int sv)]))
    by_cases hd : sv = (0 : Int32)
    · skip
      refine Goes.st (fun _ k => XS.ifNo X62.here hx rfl (hb hby at_121) rfl ((if0 _ _).trans (teq hd).2) k) ?_
      show Goes _ _ _ _ (T62.setTop (mkF m 124 #[.val (.int p1), .val (.int p2), .val (.int p3), .val (.int p4), .val (.int p5), .val (.int p6), .val (.int sv), .val (.int ov), .val (.int ((p2 &&& (255 : Int32))).toUInt32.toUInt16.toUInt32.toInt32), .val (.ref a_su), .val (.ref a_ob), .val (.ref a_re), .val (.ref b54), .val (.ref a61), .unset, .unset, .unset, .unset, .unset, .unset, .unset] []))
      refine Goes.st (fun _ k => XS.aload X62.here hx rfl (hb hby at_124) rfl rfl k) ?_
      show Goes _ _ _ _ (T62.setTop (mkF m 126 #[.val (.int p1), .val (.int p2), .val (.int p3), .val (.int p4), .val (.int p5), .val (.int p6), .val (.int sv), .val (.int ov), .val (.int ((p2 &&& (255 : Int32))).toUInt32.toUInt16.toUInt32.toInt32), .val (.ref a_su), .val (.ref a_ob), .val (.ref a_re), .val (.ref b54), .val (.ref a61), .unset, .unset, .unset, .unset, .unset, .unset, .unset] [(.ref b54)]))
      refine Goes.st (fun _ k => XS.iconst X62.here hx rfl (hb hby at_126) k) ?_
      show Goes _ _ _ _ (T62.setTop (mkF m 127 #[.val (.int p1), .val (.int p2), .val (.int p3), .val (.int p4), .val (.int p5), .val (.int p6), .val (.int sv), .val (.int ov), .val (.int ((p2 &&& (255 : Int32))).toUInt32.toUInt16.toUInt32.toInt32), .val (.ref a_su), .val (.ref a_ob), .val (.ref a_re), .val (.ref b54), .val (.ref a61), .unset, .unset, .unset, .unset, .unset, .unset, .unset] [(.int (0 : Int32)), (.ref b54)]))
      obtain ⟨cl, Ar, q, S, M, H, G⟩ := id VB_62
      have hin : ¬ ((0 : Int32) < 0 ∨ cl.slots.size ≤ ((0 : Int32)).toNatClampNeg) := inb_of S ⟨by decide, by decide⟩
      refine Goes.st (X62.aaload hx (Ar.1) (State.isArrayOf_alike hZ.alike Ar.2.1) rfl Ar.2.2 hin (H.at hin rfl) (g := (mkF m 127 #[.val (.int p1), .val (.int p2), .val (.int p3), .val (.int p4), .val (.int p5), .val (.int p6), .val (.int sv), .val (.int ov), .val (.int ((p2 &&& (255 : Int32))).toUInt32.toUInt16.toUInt32.toInt32), .val (.ref a_su), .val (.ref a_ob), .val (.ref a_re), .val (.ref b54), .val (.ref a61), .unset, .unset, .unset, .unset, .unset, .unset, .unset] [(.int (0 : Int32)), (.ref b54)])) rfl rfl (hb hby at_127)) ?_
      show Goes _ _ _ _ (T62.setTop (mkF m 128 #[.val (.int p1), .val (.int p2), .val (.int p3), .val (.int p4), .val (.int p5), .val (.int p6), .val (.int sv), .val (.int ov), .val (.int ((p2 &&& (255 : Int32))).toUInt32.toUInt16.toUInt32.toInt32), .val (.ref a_su), .val (.ref a_ob), .val (.ref a_re), .val (.ref b54), .val (.ref a61), .unset, .unset, .unset, .unset, .unset, .unset, .unset] [r0]))
      refine Goes.st (fun _ k => XS.astore X62.here hx rfl (hb hby at_128) rfl R0.ref (l' := #[.val (.int p1), .val (.int p2), .val (.int p3), .val (.int p4), .val (.int p5), .val (.int p6), .val (.int sv), .val (.int ov), .val (.int ((p2 &&& (255 : Int32))).toUInt32.toUInt16.toUInt32.toInt32), .val (.ref a_su), .val (.ref a_ob), .val (.ref a_re), .val (.ref b54), .val (.ref a61), .val r0, .unset, .unset, .unset, .unset, .unset, .unset]) (XS.store1 (o := .unset) rfl (Or.inl rfl) (own_cat R0.ref)) k) ?_
      show Goes _ _ _ _ (T62.setTop (mkF m 130 #[.val (.int p1), .val (.int p2), .val (.int p3), .val (.int p4), .val (.int p5), .val (.int p6), .val (.int sv), .val (.int ov), .val (.int ((p2 &&& (255 : Int32))).toUInt32.toUInt16.toUInt32.toInt32), .val (.ref a_su), .val (.ref a_ob), .val (.ref a_re), .val (.ref b54), .val (.ref a61), .val r0, .unset, .unset, .unset, .unset, .unset, .unset] []))
      refine Goes.st (fun _ k => XS.goto X62.here hx rfl (pc0 := 130) (pc' := 154) rfl (hb hby at_130) (by decide) (by decide) k) ?_
      show Goes _ _ _ _ (T62.setTop (mkF m 154 #[.val (.int p1), .val (.int p2), .val (.int p3), .val (.int p4), .val (.int p5), .val (.int p6), .val (.int sv), .val (.int ov), .val (.int ((p2 &&& (255 : Int32))).toUInt32.toUInt16.toUInt32.toInt32), .val (.ref a_su), .val (.ref a_ob), .val (.ref a_re), .val (.ref b54), .val (.ref a61), .val r0, .unset, .unset, .unset, .unset, .unset, .unset] []))
      have hq : (own_pick sv (.ref a_su) r0 r1 r2) = r0 := by unfold own_pick; rw [if_neg hc, if_pos hd]
      rw [hq] at J154
      exact J154
    · skip
      refine Goes.st (fun _ k => XS.ifYes X62.here hx rfl (pc0 := 121) (pc' := 133) rfl (hb hby at_121) rfl ((if0 _ _).trans (feq hd).2) (by decide) (by decide) k) ?_
      show Goes _ _ _ _ (T62.setTop (mkF m 133 #[.val (.int p1), .val (.int p2), .val (.int p3), .val (.int p4), .val (.int p5), .val (.int p6), .val (.int sv), .val (.int ov), .val (.int ((p2 &&& (255 : Int32))).toUInt32.toUInt16.toUInt32.toInt32), .val (.ref a_su), .val (.ref a_ob), .val (.ref a_re), .val (.ref b54), .val (.ref a61), .unset, .unset, .unset, .unset, .unset, .unset, .unset] []))
      refine Goes.st (fun _ k => XS.iload X62.here hx rfl (hb hby at_133) rfl k) ?_
      show Goes _ _ _ _ (T62.setTop (mkF m 135 #[.val (.int p1), .val (.int p2), .val (.int p3), .val (.int p4), .val (.int p5), .val (.int p6), .val (.int sv), .val (.int ov), .val (.int ((p2 &&& (255 : Int32))).toUInt32.toUInt16.toUInt32.toInt32), .val (.ref a_su), .val (.ref a_ob), .val (.ref a_re), .val (.ref b54), .val (.ref a61), .unset, .unset, .unset, .unset, .unset, .unset, .unset] [(.int sv)]))
      refine Goes.st (fun _ k => XS.iconst X62.here hx rfl (hb hby at_135) k) ?_
      show Goes _ _ _ _ (T62.setTop (mkF m 136 #[.val (.int p1), .val (.int p2), .val (.int p3), .val (.int p4), .val (.int p5), .val (.int p6), .val (.int sv), .val (.int ov), .val (.int ((p2 &&& (255 : Int32))).toUInt32.toUInt16.toUInt32.toInt32), .val (.ref a_su), .val (.ref a_ob), .val (.ref a_re), .val (.ref b54), .val (.ref a61), .unset, .unset, .unset, .unset, .unset, .unset, .unset] [(.int (1 : Int32)), (.int sv)]))
      by_cases he : sv = (1 : Int32)
      · skip
        refine Goes.st (fun _ k => XS.icmpNo X62.here hx rfl (hb hby at_136) rfl (teq he).2 k) ?_
        show Goes _ _ _ _ (T62.setTop (mkF m 139 #[.val (.int p1), .val (.int p2), .val (.int p3), .val (.int p4), .val (.int p5), .val (.int p6), .val (.int sv), .val (.int ov), .val (.int ((p2 &&& (255 : Int32))).toUInt32.toUInt16.toUInt32.toInt32), .val (.ref a_su), .val (.ref a_ob), .val (.ref a_re), .val (.ref b54), .val (.ref a61), .unset, .unset, .unset, .unset, .unset, .unset, .unset] []))
        refine Goes.st (fun _ k => XS.aload X62.here hx rfl (hb hby at_139) rfl rfl k) ?_
        show Goes _ _ _ _ (T62.setTop (mkF m 141 #[.val (.int p1), .val (.int p2), .val (.int p3), .val (.int p4), .val (.int p5), .val (.int p6), .val (.int sv), .val (.int ov), .val (.int ((p2 &&& (255 : Int32))).toUInt32.toUInt16.toUInt32.toInt32), .val (.ref a_su), .val (.ref a_ob), .val (.ref a_re), .val (.ref b54), .val (.ref a61), .unset, .unset, .unset, .unset, .unset, .unset, .unset] [(.ref b54)]))
        refine Goes.st (fun _ k => XS.iconst X62.here hx rfl (hb hby at_141) k) ?_
        show Goes _ _ _ _ (T62.setTop (mkF m 142 #[.val (.int p1), .val (.int p2), .val (.int p3), .val (.int p4), .val (.int p5), .val (.int p6), .val (.int sv), .val (.int ov), .val (.int ((p2 &&& (255 : Int32))).toUInt32.toUInt16.toUInt32.toInt32), .val (.ref a_su), .val (.ref a_ob), .val (.ref a_re), .val (.ref b54), .val (.ref a61), .unset, .unset, .unset, .unset, .unset, .unset, .unset] [(.int (1 : Int32)), (.ref b54)]))
        obtain ⟨cl, Ar, q, S, M, H, G⟩ := id VB_62
        have hin : ¬ ((1 : Int32) < 0 ∨ cl.slots.size ≤ ((1 : Int32)).toNatClampNeg) := inb_of S ⟨by decide, by decide⟩
        refine Goes.st (X62.aaload hx (Ar.1) (State.isArrayOf_alike hZ.alike Ar.2.1) rfl Ar.2.2 hin (H.at hin rfl) (g := (mkF m 142 #[.val (.int p1), .val (.int p2), .val (.int p3), .val (.int p4), .val (.int p5), .val (.int p6), .val (.int sv), .val (.int ov), .val (.int ((p2 &&& (255 : Int32))).toUInt32.toUInt16.toUInt32.toInt32), .val (.ref a_su), .val (.ref a_ob), .val (.ref a_re), .val (.ref b54), .val (.ref a61), .unset, .unset, .unset, .unset, .unset, .unset, .unset] [(.int (1 : Int32)), (.ref b54)])) rfl rfl (hb hby at_142)) ?_
        show Goes _ _ _ _ (T62.setTop (mkF m 143 #[.val (.int p1), .val (.int p2), .val (.int p3), .val (.int p4), .val (.int p5), .val (.int p6), .val (.int sv), .val (.int ov), .val (.int ((p2 &&& (255 : Int32))).toUInt32.toUInt16.toUInt32.toInt32), .val (.ref a_su), .val (.ref a_ob), .val (.ref a_re), .val (.ref b54), .val (.ref a61), .unset, .unset, .unset, .unset, .unset, .unset, .unset] [r1]))
        refine Goes.st (fun _ k => XS.astore X62.here hx rfl (hb hby at_143) rfl R1.ref (l' := #[.val (.int p1), .val (.int p2), .val (.int p3), .val (.int p4), .val (.int p5), .val (.int p6), .val (.int sv), .val (.int ov), .val (.int ((p2 &&& (255 : Int32))).toUInt32.toUInt16.toUInt32.toInt32), .val (.ref a_su), .val (.ref a_ob), .val (.ref a_re), .val (.ref b54), .val (.ref a61), .val r1, .unset, .unset, .unset, .unset, .unset, .unset]) (XS.store1 (o := .unset) rfl (Or.inl rfl) (own_cat R1.ref)) k) ?_
        show Goes _ _ _ _ (T62.setTop (mkF m 145 #[.val (.int p1), .val (.int p2), .val (.int p3), .val (.int p4), .val (.int p5), .val (.int p6), .val (.int sv), .val (.int ov), .val (.int ((p2 &&& (255 : Int32))).toUInt32.toUInt16.toUInt32.toInt32), .val (.ref a_su), .val (.ref a_ob), .val (.ref a_re), .val (.ref b54), .val (.ref a61), .val r1, .unset, .unset, .unset, .unset, .unset, .unset] []))
        refine Goes.st (fun _ k => XS.goto X62.here hx rfl (pc0 := 145) (pc' := 154) rfl (hb hby at_145) (by decide) (by decide) k) ?_
        show Goes _ _ _ _ (T62.setTop (mkF m 154 #[.val (.int p1), .val (.int p2), .val (.int p3), .val (.int p4), .val (.int p5), .val (.int p6), .val (.int sv), .val (.int ov), .val (.int ((p2 &&& (255 : Int32))).toUInt32.toUInt16.toUInt32.toInt32), .val (.ref a_su), .val (.ref a_ob), .val (.ref a_re), .val (.ref b54), .val (.ref a61), .val r1, .unset, .unset, .unset, .unset, .unset, .unset] []))
        have hq : (own_pick sv (.ref a_su) r0 r1 r2) = r1 := by unfold own_pick; rw [if_neg hc, if_neg hd, if_pos he]
        rw [hq] at J154
        exact J154
      · skip
        refine Goes.st (fun _ k => XS.icmpYes X62.here hx rfl (pc0 := 136) (pc' := 148) rfl (hb hby at_136) rfl (feq he).2 (by decide) (by decide) k) ?_
        show Goes _ _ _ _ (T62.setTop (mkF m 148 #[.val (.int p1), .val (.int p2), .val (.int p3), .val (.int p4), .val (.int p5), .val (.int p6), .val (.int sv), .val (.int ov), .val (.int ((p2 &&& (255 : Int32))).toUInt32.toUInt16.toUInt32.toInt32), .val (.ref a_su), .val (.ref a_ob), .val (.ref a_re), .val (.ref b54), .val (.ref a61), .unset, .unset, .unset, .unset, .unset, .unset, .unset] []))
        refine Goes.st (fun _ k => XS.aload X62.here hx rfl (hb hby at_148) rfl rfl k) ?_
        show Goes _ _ _ _ (T62.setTop (mkF m 150 #[.val (.int p1), .val (.int p2), .val (.int p3), .val (.int p4), .val (.int p5), .val (.int p6), .val (.int sv), .val (.int ov), .val (.int ((p2 &&& (255 : Int32))).toUInt32.toUInt16.toUInt32.toInt32), .val (.ref a_su), .val (.ref a_ob), .val (.ref a_re), .val (.ref b54), .val (.ref a61), .unset, .unset, .unset, .unset, .unset, .unset, .unset] [(.ref b54)]))
        refine Goes.st (fun _ k => XS.iconst X62.here hx rfl (hb hby at_150) k) ?_
        show Goes _ _ _ _ (T62.setTop (mkF m 151 #[.val (.int p1), .val (.int p2), .val (.int p3), .val (.int p4), .val (.int p5), .val (.int p6), .val (.int sv), .val (.int ov), .val (.int ((p2 &&& (255 : Int32))).toUInt32.toUInt16.toUInt32.toInt32), .val (.ref a_su), .val (.ref a_ob), .val (.ref a_re), .val (.ref b54), .val (.ref a61), .unset, .unset, .unset, .unset, .unset, .unset, .unset] [(.int (2 : Int32)), (.ref b54)]))
        obtain ⟨cl, Ar, q, S, M, H, G⟩ := id VB_62
        have hin : ¬ ((2 : Int32) < 0 ∨ cl.slots.size ≤ ((2 : Int32)).toNatClampNeg) := inb_of S ⟨by decide, by decide⟩
        refine Goes.st (X62.aaload hx (Ar.1) (State.isArrayOf_alike hZ.alike Ar.2.1) rfl Ar.2.2 hin (H.at hin rfl) (g := (mkF m 151 #[.val (.int p1), .val (.int p2), .val (.int p3), .val (.int p4), .val (.int p5), .val (.int p6), .val (.int sv), .val (.int ov), .val (.int ((p2 &&& (255 : Int32))).toUInt32.toUInt16.toUInt32.toInt32), .val (.ref a_su), .val (.ref a_ob), .val (.ref a_re), .val (.ref b54), .val (.ref a61), .unset, .unset, .unset, .unset, .unset, .unset, .unset] [(.int (2 : Int32)), (.ref b54)])) rfl rfl (hb hby at_151)) ?_
        show Goes _ _ _ _ (T62.setTop (mkF m 152 #[.val (.int p1), .val (.int p2), .val (.int p3), .val (.int p4), .val (.int p5), .val (.int p6), .val (.int sv), .val (.int ov), .val (.int ((p2 &&& (255 : Int32))).toUInt32.toUInt16.toUInt32.toInt32), .val (.ref a_su), .val (.ref a_ob), .val (.ref a_re), .val (.ref b54), .val (.ref a61), .unset, .unset, .unset, .unset, .unset, .unset, .unset] [r2]))
        refine Goes.st (fun _ k => XS.astore X62.here hx rfl (hb hby at_152) rfl R2.ref (l' := #[.val (.int p1), .val (.int p2), .val (.int p3), .val (.int p4), .val (.int p5), .val (.int p6), .val (.int sv), .val (.int ov), .val (.int ((p2 &&& (255 : Int32))).toUInt32.toUInt16.toUInt32.toInt32), .val (.ref a_su), .val (.ref a_ob), .val (.ref a_re), .val (.ref b54), .val (.ref a61), .val r2, .unset, .unset, .unset, .unset, .unset, .unset]) (XS.store1 (o := .unset) rfl (Or.inl rfl) (own_cat R2.ref)) k) ?_
        show Goes _ _ _ _ (T62.setTop (mkF m 154 #[.val (.int p1), .val (.int p2), .val (.int p3), .val (.int p4), .val (.int p5), .val (.int p6), .val (.int sv), .val (.int ov), .val (.int ((p2 &&& (255 : Int32))).toUInt32.toUInt16.toUInt32.toInt32), .val (.ref a_su), .val (.ref a_ob), .val (.ref a_re), .val (.ref b54), .val (.ref a61), .val r2, .unset, .unset, .unset, .unset, .unset, .unset] []))
        have hq : (own_pick sv (.ref a_su) r0 r1 r2) = r2 := by unfold own_pick; rw [if_neg hc, if_neg hd, if_neg he]
        rw [hq] at J154
        exact J154
set_option maxRecDepth 65536 in
set_option maxHeartbeats 40000000 in
theorem comes_1 {Post : Tables → Env → Array Value → State → Outcome → State → Prop} (hpost : ∀ tb e args s v u, (limb_1_1.after args s (.returned v) u = true ∧ limb_1_2.after args s (.returned v) u = true ∧ True) → FrameEnd s (.returned v) u (Jvm.fieldLocs frame_1_writes args s ++ Jvm.arrayLocs frame_1_arrays args s ++ Jvm.staticLocs frame_1_statics s) 48 192 → Post tb e args s (.returned v) u) :
    ArmFor flags0 classFile x code maxLocals ret World_1 tables_1 room_1 Calls_1 rest_1 Pre_1 Post := by
  intro l hfl _ _ p e ha hc hk s m args below hf hA hF happ hP
  obtain ⟨hcalls, hrest, hpre⟩ := hP
  obtain ⟨-, -, -, hnamed, -, -, -, hat⟩ := (Spec.applies_iff hf).mp happ
  obtain ⟨hg, hn⟩ := and_e (Cond.before_iff.mp (show (Jvm.Cond.and given_1 narrow_1).before args s = true from hpre))
  obtain ⟨hq, hr0⟩ := and_e hg
  obtain ⟨hk0, hr1⟩ := and_e hr0
  obtain ⟨hk1, hr2⟩ := and_e hr1
  obtain ⟨hk2, hr3⟩ := and_e hr2
  obtain ⟨hk3, hr4⟩ := and_e hr3
  obtain ⟨hk4, hr5⟩ := and_e hr4
  obtain ⟨w0, w1, w2, w3, w4, w5, rfl⟩ : ∃ w0 w1 w2 w3 w4 w5 : Value, args = #[w0, w1, w2, w3, w4, w5] := by
    have hs : args.size = 6 := by simpa [Cond.value, given_1] using hq
    obtain ⟨L⟩ := args
    match L, hs with
    | [w0, w1, w2, w3, w4, w5], _ => exact ⟨w0, w1, w2, w3, w4, w5, rfl⟩
  have hw := fun d (hd : d ∈ tables_1) => atoms_spec (ws := Jvm.Cond.code x code maxLocals ret :: tables_1) hat d (List.mem_cons_of_mem _ hd)
  obtain ⟨i0, q0⟩ := is_v hk0
  obtain rfl : w0 = (.int i0) := Option.some.inj q0
  obtain ⟨i1, q1⟩ := is_v hk1
  obtain rfl : w1 = (.int i1) := Option.some.inj q1
  obtain ⟨i2, q2⟩ := is_v hk2
  obtain rfl : w2 = (.int i2) := Option.some.inj q2
  obtain ⟨i3, q3⟩ := is_v hk3
  obtain rfl : w3 = (.int i3) := Option.some.inj q3
  obtain ⟨i4, q4⟩ := is_v hk4
  obtain rfl : w4 = (.int i4) := Option.some.inj q4
  obtain ⟨i5, q5⟩ := is_v hr5
  obtain rfl : w5 = (.int i5) := Option.some.inj q5
  obtain ⟨hsets, hown0⟩ := atoms_of _ (rest_1_c_eq ▸ (show rest_1_c.before _ s = true from hrest))
  have n5 := not_v (Cond.before_iff.mp (hsets _ (List.mem_of_getElem? (i := 2) rfl)))
  obtain ⟨cs, e10⟩ := is_v (Cond.before_iff.mp (hsets _ (List.mem_of_getElem? (i := 1) rfl)))
  have S12 : Sta s s.heap "java/lang/String" "COMPACT_STRINGS" "Z" (.int cs) := Sta.start e10 (Or.inl (hsets _ (List.mem_of_getElem? (i := 0) rfl)))
  have c17 : ¬ (cs = (0 : Int32)) := gotF (Cond.eq_ints e10 (Term.int_eval (0))) n5
  obtain ⟨n, o, h1, h2, h3, _, L, rfl, ⟨rfl, N⟩, hq⟩ := rm0 l s _ hw tables_1 i0 i1 i2 i3 i4 i5 cs s.heap s.heap.size (Nat.le_refl _) (Old.start s) S12 c17 p e ha hc hk s m _ below hf ((Spec.applies_iff_loose hf).mp happ).1 ⟨rfl, State.Warmed39.refl s, rfl⟩ trivial
  refine ⟨n, _, h1, h2, h3, hpost _ _ _ _ _ _ ⟨Cond.after_iff.mpr rfl, Cond.after_iff.mpr (eq_i res_at (Term.int_eval (1)) rfl), trivial⟩ ⟨hq.1, hq.2.1, (hq.2.2.sift fun y hy => Or.inr (N y hy)).mono (by decide) (by decide)⟩⟩
theorem main_1_1 : Claimed_1_1 := comes_1 fun _ _ _ _ _ _ h hF => ⟨h.1, hF⟩
theorem main_1_2 : Claimed_1_2 := comes_1 fun _ _ _ _ _ _ h hF => ⟨h.2.1, hF⟩
end Jvm.Pilot.@@N@@
namespace Jvm.Pilot.@@N@@
open Jvm Jvm.ClassFile Sem Op Lib Jvm.Free Jvm.Stand Jvm.Pilot.@@N@@.Jvm.D
/-! MADE BY PROGRAM (witnessworld.py) out of the Statement's table words and the real class files: 20 classes; the members and pool entries that the words name. The judged class is class 1, her method 3. -/
namespace start1
open Jvm.ClassFile
def u (s : String) : CpInfo := .utf8 (stringToUtf16 s)
/-- a pool by its gaps: so many unusable entries, then the entry; so many at the end -/
def gap : Nat → List CpInfo → List CpInfo
  | 0, r => r
  | n + 1, r => .unusable :: gap n r
def poolList (es : List (Nat × CpInfo)) (last : Nat) : List CpInfo := es.foldr (fun e r => gap e.1 (e.2 :: r)) (gap last [])
def pool (es : List (Nat × CpInfo)) (last : Nat) : Array CpInfo := ⟨poolList es last⟩
def fileOf (pool : Array CpInfo) (this : Nat) (attrs : Array Attribute := #[]) (ms : Array MethodInfo := #[]) (fl : Nat := 33) (sup : Nat := 0) (ifs : Array Nat := #[]) (fds : Array FieldInfo := #[]) : ClassFile where
  minorVersion := 0
  majorVersion := 65
  constantPool := pool
  accessFlags := fl
  thisClass := this
  superClass := sup
  interfaces := ifs
  fields := fds
  methods := ms
  attributes := attrs
def plain (name : String) (sup : Option ClassId) : Class where
  name := name
  kind := .ordinary
  loader := none
  accessFlags := 33
  super := sup
  interfaces := #[]
  cf := none
  fields := #[]
  methods := #[]
  instanceTypes := #[]
  staticTypes := #[]
  resolved := #[]
  callSites := []
  init := .initialized
  statics := none
  mirror := none

def pool0 : Array CpInfo := pool [(5, u "<init>"), (0, u "()V"), (1, .class_ 10), (1, u "java/lang/Object")] 113

def k0c0 : Code := { maxStack := 0, maxLocals := 1, code := object_method_1_code, exceptionTable := #[], attributes := #[] }
def k0m0 : Method := { name := "<init>", desc := "()V", sig := { parameters := [], returnType := none }, accessFlags := 1, code := some k0c0 }
/-- java/lang/Object -/
def k0 : Class := { plain "java/lang/Object" none with
  accessFlags := 33
  interfaces := #[]
  cf := some (fileOf pool0 8 #[] #[{ accessFlags := 1, nameIndex := 5, descriptorIndex := 6, attributes := #[] }] 33 0 #[] #[])
  fields := #[]
  methods := #[k0m0]
  instanceTypes := #[]
  staticTypes := #[]
  resolved := Array.replicate 124 none
  statics := none }

def pool1 : Array CpInfo := pool [(2, .class_ 4), (1, u "java/lang/Object"), (0, u "<init>"), (0, u "()V"), (2, .methodref 10 11), (0, .class_ 12), (0, .nameAndType 13 14), (0, u "java/lang/String"), (0, u "valueOf"), (0, u "(C)Ljava/lang/String;"), (0, .methodref 16 17), (0, .class_ 18), (0, .nameAndType 19 20), (0, u "com/example/rulefold/rulefold/PatternSubjectInPinLaw"), (0, u "var"), (0, u "(I)I"), (0, .methodref 16 22), (0, .nameAndType 23 24), (0, u "slot"), (0, u "(II)Ljava/lang/String;"), (0, .class_ 26), (0, u "com/example/rulefold/rulefold/CompiledBody$Pattern"), (0, .methodref 25 28), (0, .nameAndType 5 29), (0, u "(Ljava/lang/String;Ljava/lang/String;ILjava/lang/String;I)V"), (0, .methodref 25 31), (0, .nameAndType 32 33), (0, u "subjectIn"), (0, u "([Ljava/lang/String;)Ljava/lang/String;"), (0, .class_ 35), (0, u "com/example/rulefold/rulefold/Triple"), (0, .methodref 34 37), (0, .nameAndType 5 38), (0, u "(Ljava/lang/String;Ljava/lang/String;Ljava/lang/String;)V"), (0, .methodref 25 40), (0, .nameAndType 41 42), (0, u "unify"), (0, u "(Lcom/example/rulefold/rulefold/Triple;[Ljava/lang/String;)Z"), (0, .methodref 10 44), (0, .nameAndType 45 46), (0, u "equals"), (0, u "(Ljava/lang/Object;)Z"), (3, u "law"), (0, u "(IIIIII)Z")] 6

def k1m0 : Method := { name := "<init>", desc := "()V", sig := { parameters := [], returnType := none }, accessFlags := 1, code := none }
def k1c1 : Code := { maxStack := 2, maxLocals := 2, code := method_2_code, exceptionTable := #[], attributes := #[] }
def k1m1 : Method := { name := "var", desc := "(I)I", sig := { parameters := [.int], returnType := some .int }, accessFlags := 10, code := some k1c1 }
def k1c2 : Code := { maxStack := 3, maxLocals := 2, code := method_3_code, exceptionTable := #[], attributes := #[] }
def k1m2 : Method := { name := "slot", desc := "(II)Ljava/lang/String;", sig := { parameters := [.int, .int], returnType := some (.object "java/lang/String") }, accessFlags := 10, code := some k1c2 }
def k1c3 : Code := { maxStack := 7, maxLocals := 21, code := code, exceptionTable := #[], attributes := #[] }
def k1m3 : Method := { name := "law", desc := "(IIIIII)Z", sig := { parameters := [.int, .int, .int, .int, .int, .int], returnType := some .boolean }, accessFlags := 9, code := some k1c3 }
/-- com/example/rulefold/rulefold/PatternSubjectInPinLaw -/
def k1 : Class := { plain "com/example/rulefold/rulefold/PatternSubjectInPinLaw" (some 0) with
  accessFlags := 49
  interfaces := #[]
  cf := some (fileOf pool1 16 #[] #[{ accessFlags := 1, nameIndex := 5, descriptorIndex := 6, attributes := #[] }, { accessFlags := 10, nameIndex := 19, descriptorIndex := 20, attributes := #[] }, { accessFlags := 10, nameIndex := 23, descriptorIndex := 24, attributes := #[] }, { accessFlags := 9, nameIndex := 50, descriptorIndex := 51, attributes := #[] }] 49 2 #[] #[])
  fields := #[]
  methods := #[k1m0, k1m1, k1m2, k1m3]
  instanceTypes := #[]
  staticTypes := #[]
  resolved := Array.replicate 58 none
  statics := none }

def pool2 : Array CpInfo := pool [(1, .class_ 2), (0, u "java/io/Serializable"), (0, .class_ 4), (0, u "java/lang/Object")] 2

/-- java/io/Serializable -/
def k2 : Class := { plain "java/io/Serializable" (some 0) with
  accessFlags := 1537
  interfaces := #[]
  cf := some (fileOf pool2 1 #[] #[] 1537 3 #[] #[])
  fields := #[]
  methods := #[]
  instanceTypes := #[]
  staticTypes := #[]
  resolved := Array.replicate 7 none
  statics := none }

def pool3 : Array CpInfo := pool [(1, .class_ 2), (0, u "java/lang/Comparable"), (0, .class_ 4), (0, u "java/lang/Object")] 7

/-- java/lang/Comparable -/
def k3 : Class := { plain "java/lang/Comparable" (some 0) with
  accessFlags := 1537
  interfaces := #[]
  cf := some (fileOf pool3 1 #[] #[] 1537 3 #[] #[])
  fields := #[]
  methods := #[]
  instanceTypes := #[]
  staticTypes := #[]
  resolved := Array.replicate 12 none
  statics := none }

def pool4 : Array CpInfo := pool [(2, .class_ 4), (1, u "java/lang/CharSequence"), (42, .class_ 48), (0, u "java/lang/CharSequence$1CodePointIterator"), (10, .class_ 60), (0, u "java/lang/CharSequence$1CharIterator"), (5, .class_ 67), (0, u "java/lang/Object")] 63

/-- java/lang/CharSequence -/
def k4 : Class := { plain "java/lang/CharSequence" (some 0) with
  accessFlags := 1537
  interfaces := #[]
  cf := some (fileOf pool4 2 #[.nestMembers #[47, 59]] #[] 1537 66 #[] #[])
  fields := #[]
  methods := #[]
  instanceTypes := #[]
  staticTypes := #[]
  resolved := Array.replicate 131 none
  statics := none }

def pool5 : Array CpInfo := pool [(1, .class_ 2), (0, u "java/lang/constant/Constable"), (0, .class_ 4), (0, u "java/lang/Object")] 6

/-- java/lang/constant/Constable -/
def k5 : Class := { plain "java/lang/constant/Constable" (some 0) with
  accessFlags := 1537
  interfaces := #[]
  cf := some (fileOf pool5 1 #[] #[] 1537 3 #[] #[])
  fields := #[]
  methods := #[]
  instanceTypes := #[]
  staticTypes := #[]
  resolved := Array.replicate 11 none
  statics := none }

def pool6 : Array CpInfo := pool [(1, .class_ 2), (0, u "java/lang/constant/ConstantDesc"), (0, .class_ 4), (0, u "java/lang/Object")] 32

/-- java/lang/constant/ConstantDesc -/
def k6 : Class := { plain "java/lang/constant/ConstantDesc" (some 0) with
  accessFlags := 1537
  interfaces := #[]
  cf := some (fileOf pool6 1 #[] #[] 1537 3 #[] #[])
  fields := #[]
  methods := #[]
  instanceTypes := #[]
  staticTypes := #[]
  resolved := Array.replicate 37 none
  statics := none }

def pool7 : Array CpInfo := pool [(1, .methodref 2 3), (0, .class_ 4), (0, .nameAndType 5 6), (0, u "java/lang/Object"), (0, u "<init>"), (0, u "()V"), (2, .fieldref 10 11), (0, .class_ 12), (0, .nameAndType 13 14), (0, u "java/lang/String"), (0, u "value"), (0, u "[B"), (0, .fieldref 10 16), (0, .nameAndType 17 18), (0, u "coder"), (0, u "B"), (2, u "hash"), (0, u "I"), (2, u "hashIsZero"), (0, u "Z"), (11, .fieldref 10 39), (0, .nameAndType 40 26), (0, u "COMPACT_STRINGS"), (12, u "toBytes"), (53, .class_ 109), (1, u "java/lang/StringLatin1"), (99, .methodref 10 210), (0, .nameAndType 5 211), (0, u "([BB)V"), (157, u "(C)Z"), (171, .methodref 107 542), (0, .nameAndType 543 544), (0, u "equals"), (0, u "([B[B)Z"), (28, u "(Ljava/lang/Object;)Z"), (1, .class_ 576), (0, u "java/lang/CharSequence"), (22, u "CASE_INSENSITIVE_ORDER"), (0, u "Ljava/util/Comparator;"), (181, u "valueOf"), (0, u "(C)Ljava/lang/String;"), (231, .methodref 107 1016), (0, .nameAndType 1017 369), (0, u "canEncode"), (0, .methodref 107 1019), (0, .nameAndType 53 1020), (0, u "(C)[B"), (80, u "serialPersistentFields"), (0, u "[Ljava/io/ObjectStreamField;"), (0, .class_ 1104), (0, u "java/lang/String$CaseInsensitiveComparator"), (1, .class_ 1107), (0, u "java/io/Serializable"), (0, .class_ 1109), (0, u "java/lang/Comparable"), (0, .class_ 1111), (0, u "java/lang/constant/Constable"), (0, .class_ 1113), (0, u "java/lang/constant/ConstantDesc"), (2, u "serialVersionUID"), (0, u "J"), (3, u "REPL"), (0, u "C"), (2, u "LATIN1"), (1, u "UTF16")] 323

def k7m0 : Method := { name := "<init>", desc := "()V", sig := { parameters := [], returnType := none }, accessFlags := 1, code := none }
def k7c1 : Code := { maxStack := 2, maxLocals := 3, code := jdk_42_method_66_code, exceptionTable := #[], attributes := #[] }
def k7m1 : Method := { name := "equals", desc := "(Ljava/lang/Object;)Z", sig := { parameters := [(.object "java/lang/Object")], returnType := some .boolean }, accessFlags := 1, code := some k7c1 }
def k7c2 : Code := { maxStack := 4, maxLocals := 1, code := jdk_42_method_139_code, exceptionTable := #[], attributes := #[] }
def k7m2 : Method := { name := "valueOf", desc := "(C)Ljava/lang/String;", sig := { parameters := [.char], returnType := some (.object "java/lang/String") }, accessFlags := 9, code := some k7c2 }
def k7c3 : Code := { maxStack := 2, maxLocals := 3, code := jdk_42_method_151_code, exceptionTable := #[], attributes := #[] }
def k7m3 : Method := { name := "<init>", desc := "([BB)V", sig := { parameters := [(.array .byte), .byte], returnType := none }, accessFlags := 0, code := some k7c3 }
/-- java/lang/String -/
def k7 : Class := { plain "java/lang/String" (some 0) with
  accessFlags := 49
  interfaces := #[2, 3, 4, 5, 6]
  cf := some (fileOf pool7 10 #[.nestMembers #[1103]] #[{ accessFlags := 1, nameIndex := 5, descriptorIndex := 6, attributes := #[] }, { accessFlags := 1, nameIndex := 543, descriptorIndex := 573, attributes := #[] }, { accessFlags := 9, nameIndex := 782, descriptorIndex := 783, attributes := #[] }, { accessFlags := 0, nameIndex := 5, descriptorIndex := 211, attributes := #[] }] 49 2 #[1106, 1108, 575, 1110, 1112] #[{ accessFlags := 18, nameIndex := 13, descriptorIndex := 14, attributes := #[] }, { accessFlags := 18, nameIndex := 17, descriptorIndex := 18, attributes := #[] }, { accessFlags := 2, nameIndex := 21, descriptorIndex := 22, attributes := #[] }, { accessFlags := 2, nameIndex := 25, descriptorIndex := 26, attributes := #[] }, { accessFlags := 26, nameIndex := 1116, descriptorIndex := 1117, attributes := #[] }, { accessFlags := 24, nameIndex := 40, descriptorIndex := 26, attributes := #[] }, { accessFlags := 26, nameIndex := 1101, descriptorIndex := 1102, attributes := #[] }, { accessFlags := 26, nameIndex := 1121, descriptorIndex := 1122, attributes := #[] }, { accessFlags := 25, nameIndex := 599, descriptorIndex := 600, attributes := #[] }, { accessFlags := 24, nameIndex := 1125, descriptorIndex := 18, attributes := #[] }, { accessFlags := 24, nameIndex := 1127, descriptorIndex := 18, attributes := #[] }])
  fields := #[{ name := "value", type := (.array .byte), accessFlags := 18, slot := 0, constantValue := 0 }, { name := "coder", type := .byte, accessFlags := 18, slot := 1, constantValue := 0 }, { name := "hash", type := .int, accessFlags := 2, slot := 2, constantValue := 0 }, { name := "hashIsZero", type := .boolean, accessFlags := 2, slot := 3, constantValue := 0 }, { name := "serialVersionUID", type := .long, accessFlags := 26, slot := 0, constantValue := 0 }, { name := "COMPACT_STRINGS", type := .boolean, accessFlags := 24, slot := 1, constantValue := 0 }, { name := "serialPersistentFields", type := (.array (.object "java/io/ObjectStreamField")), accessFlags := 26, slot := 2, constantValue := 0 }, { name := "REPL", type := .char, accessFlags := 26, slot := 3, constantValue := 0 }, { name := "CASE_INSENSITIVE_ORDER", type := (.object "java/util/Comparator"), accessFlags := 25, slot := 4, constantValue := 0 }, { name := "LATIN1", type := .byte, accessFlags := 24, slot := 5, constantValue := 0 }, { name := "UTF16", type := .byte, accessFlags := 24, slot := 6, constantValue := 0 }]
  methods := #[k7m0, k7m1, k7m2, k7m3]
  instanceTypes := #[(.array .byte), .byte, .int, .boolean]
  staticTypes := #[.long, .boolean, (.array (.object "java/io/ObjectStreamField")), .char, (.object "java/util/Comparator"), .byte, .byte]
  resolved := Array.replicate 1451 none
  statics := some 0 }

def pool8 : Array CpInfo := pool [(4, .class_ 6), (1, u "java/lang/Object"), (0, u "<init>"), (0, u "()V"), (5, .class_ 16), (1, u "java/lang/StringLatin1"), (73, u "canEncode"), (14, u "(C)Z"), (15, u "$assertionsDisabled"), (0, u "Z"), (98, .class_ 223), (1, u "java/lang/StringLatin1$LinesSpliterator"), (57, u "equals"), (0, u "([B[B)Z"), (97, u "toBytes"), (1, u "(C)[B"), (7, .class_ 391), (0, u "java/lang/StringLatin1$CharsSpliterator")] 3

def k8m0 : Method := { name := "<init>", desc := "()V", sig := { parameters := [], returnType := none }, accessFlags := 0, code := none }
def k8c1 : Code := { maxStack := 2, maxLocals := 1, code := jdk_43_method_3_code, exceptionTable := #[], attributes := #[] }
def k8m1 : Method := { name := "canEncode", desc := "(C)Z", sig := { parameters := [.char], returnType := some .boolean }, accessFlags := 9, code := some k8c1 }
def k8c2 : Code := { maxStack := 3, maxLocals := 3, code := jdk_43_method_13_code, exceptionTable := #[], attributes := #[] }
def k8m2 : Method := { name := "equals", desc := "([B[B)Z", sig := { parameters := [(.array .byte), (.array .byte)], returnType := some .boolean }, accessFlags := 9, code := some k8c2 }
def k8c3 : Code := { maxStack := 4, maxLocals := 1, code := jdk_43_method_46_code, exceptionTable := #[], attributes := #[] }
def k8m3 : Method := { name := "toBytes", desc := "(C)[B", sig := { parameters := [.char], returnType := some (.array .byte) }, accessFlags := 9, code := some k8c3 }
/-- java/lang/StringLatin1 -/
def k8 : Class := { plain "java/lang/StringLatin1" (some 0) with
  accessFlags := 48
  interfaces := #[]
  cf := some (fileOf pool8 14 #[.nestMembers #[390, 221]] #[{ accessFlags := 0, nameIndex := 7, descriptorIndex := 8, attributes := #[] }, { accessFlags := 9, nameIndex := 90, descriptorIndex := 105, attributes := #[] }, { accessFlags := 9, nameIndex := 281, descriptorIndex := 282, attributes := #[] }, { accessFlags := 9, nameIndex := 380, descriptorIndex := 382, attributes := #[] }] 48 4 #[] #[{ accessFlags := 4120, nameIndex := 121, descriptorIndex := 122, attributes := #[] }])
  fields := #[{ name := "$assertionsDisabled", type := .boolean, accessFlags := 4120, slot := 0, constantValue := 0 }]
  methods := #[k8m0, k8m1, k8m2, k8m3]
  instanceTypes := #[]
  staticTypes := #[.boolean]
  resolved := Array.replicate 395 none
  statics := none }

def pool9 : Array CpInfo := pool [(1, .methodref 2 3), (0, .class_ 4), (0, .nameAndType 5 6), (0, u "java/lang/Object"), (0, u "<init>"), (0, u "()V"), (0, .class_ 8), (0, u "java/lang/Record")] 13

def k9c0 : Code := { maxStack := 1, maxLocals := 1, code := jdk_30_method_1_code, exceptionTable := #[], attributes := #[] }
def k9m0 : Method := { name := "<init>", desc := "()V", sig := { parameters := [], returnType := none }, accessFlags := 4, code := some k9c0 }
/-- java/lang/Record -/
def k9 : Class := { plain "java/lang/Record" (some 0) with
  accessFlags := 1057
  interfaces := #[]
  cf := some (fileOf pool9 7 #[] #[{ accessFlags := 4, nameIndex := 5, descriptorIndex := 6, attributes := #[] }] 1057 2 #[] #[])
  fields := #[]
  methods := #[k9m0]
  instanceTypes := #[]
  staticTypes := #[]
  resolved := Array.replicate 22 none
  statics := none }

def pool10 : Array CpInfo := pool [(1, .class_ 2), (0, u "com/example/rulefold/rulefold/CompiledBody"), (0, .methodref 4 5), (0, .class_ 6), (0, .nameAndType 7 8), (0, u "java/lang/Record"), (0, u "<init>"), (0, u "()V"), (0, .fieldref 10 11), (0, .class_ 12), (0, .nameAndType 13 14), (0, u "com/example/rulefold/rulefold/CompiledBody$Pattern"), (0, u "relation"), (0, u "Ljava/lang/String;"), (0, .fieldref 10 16), (0, .nameAndType 17 14), (0, u "subject"), (0, .fieldref 10 19), (0, .nameAndType 20 21), (0, u "subjectVariable"), (0, u "I"), (0, .fieldref 10 23), (0, .nameAndType 24 14), (0, u "object"), (0, .fieldref 10 26), (0, .nameAndType 27 21), (0, u "objectVariable"), (2, .nameAndType 13 32), (1, u "()Ljava/lang/String;"), (1, .nameAndType 17 32), (11, .nameAndType 24 32), (2, u "(Ljava/lang/String;Ljava/lang/String;ILjava/lang/String;I)V"), (0, .class_ 51), (0, u "com/example/rulefold/rulefold/Triple"), (2, u "subjectIn"), (0, u "([Ljava/lang/String;)Ljava/lang/String;"), (6, .methodref 50 30), (0, .methodref 64 65), (0, .class_ 66), (0, .nameAndType 67 68), (0, u "java/lang/String"), (0, u "equals"), (0, u "(Ljava/lang/Object;)Z"), (0, .methodref 50 34), (0, .methodref 10 71), (0, .nameAndType 72 73), (0, u "bind"), (0, u "(ILjava/lang/String;Ljava/lang/String;[Ljava/lang/String;)Z"), (0, .methodref 50 46), (21, u "unify"), (0, u "(Lcom/example/rulefold/rulefold/Triple;[Ljava/lang/String;)Z")] 27

def k10c0 : Code := { maxStack := 2, maxLocals := 6, code := prog_22_method_1_code, exceptionTable := #[], attributes := #[] }
def k10m0 : Method := { name := "<init>", desc := "(Ljava/lang/String;Ljava/lang/String;ILjava/lang/String;I)V", sig := { parameters := [(.object "java/lang/String"), (.object "java/lang/String"), .int, (.object "java/lang/String"), .int], returnType := none }, accessFlags := 0, code := some k10c0 }
def k10c1 : Code := { maxStack := 2, maxLocals := 2, code := prog_22_method_3_code, exceptionTable := #[], attributes := #[] }
def k10m1 : Method := { name := "subjectIn", desc := "([Ljava/lang/String;)Ljava/lang/String;", sig := { parameters := [(.array (.object "java/lang/String"))], returnType := some (.object "java/lang/String") }, accessFlags := 0, code := some k10c1 }
def k10c2 : Code := { maxStack := 4, maxLocals := 3, code := prog_22_method_6_code, exceptionTable := #[], attributes := #[] }
def k10m2 : Method := { name := "unify", desc := "(Lcom/example/rulefold/rulefold/Triple;[Ljava/lang/String;)Z", sig := { parameters := [(.object "com/example/rulefold/rulefold/Triple"), (.array (.object "java/lang/String"))], returnType := some .boolean }, accessFlags := 0, code := some k10c2 }
def k10c3 : Code := { maxStack := 3, maxLocals := 4, code := prog_22_method_7_code, exceptionTable := #[], attributes := #[] }
def k10m3 : Method := { name := "bind", desc := "(ILjava/lang/String;Ljava/lang/String;[Ljava/lang/String;)Z", sig := { parameters := [.int, (.object "java/lang/String"), (.object "java/lang/String"), (.array (.object "java/lang/String"))], returnType := some .boolean }, accessFlags := 10, code := some k10c3 }
/-- com/example/rulefold/rulefold/CompiledBody$Pattern -/
def k10 : Class := { plain "com/example/rulefold/rulefold/CompiledBody$Pattern" (some 9) with
  accessFlags := 48
  interfaces := #[]
  cf := some (fileOf pool10 10 #[.nestHost 1] #[{ accessFlags := 0, nameIndex := 7, descriptorIndex := 49, attributes := #[] }, { accessFlags := 0, nameIndex := 54, descriptorIndex := 55, attributes := #[] }, { accessFlags := 0, nameIndex := 96, descriptorIndex := 97, attributes := #[] }, { accessFlags := 10, nameIndex := 72, descriptorIndex := 73, attributes := #[] }] 48 4 #[] #[{ accessFlags := 18, nameIndex := 13, descriptorIndex := 14, attributes := #[] }, { accessFlags := 18, nameIndex := 17, descriptorIndex := 14, attributes := #[] }, { accessFlags := 18, nameIndex := 20, descriptorIndex := 21, attributes := #[] }, { accessFlags := 18, nameIndex := 24, descriptorIndex := 14, attributes := #[] }, { accessFlags := 18, nameIndex := 27, descriptorIndex := 21, attributes := #[] }])
  fields := #[{ name := "relation", type := (.object "java/lang/String"), accessFlags := 18, slot := 0, constantValue := 0 }, { name := "subject", type := (.object "java/lang/String"), accessFlags := 18, slot := 1, constantValue := 0 }, { name := "subjectVariable", type := .int, accessFlags := 18, slot := 2, constantValue := 0 }, { name := "object", type := (.object "java/lang/String"), accessFlags := 18, slot := 3, constantValue := 0 }, { name := "objectVariable", type := .int, accessFlags := 18, slot := 4, constantValue := 0 }]
  methods := #[k10m0, k10m1, k10m2, k10m3]
  instanceTypes := #[(.object "java/lang/String"), (.object "java/lang/String"), .int, (.object "java/lang/String"), .int]
  staticTypes := #[]
  resolved := Array.replicate 125 none
  statics := none }

def pool11 : Array CpInfo := pool [(1, .methodref 2 3), (0, .class_ 4), (0, .nameAndType 5 6), (0, u "java/lang/Record"), (0, u "<init>"), (0, u "()V"), (0, .fieldref 8 9), (0, .class_ 10), (0, .nameAndType 11 12), (0, u "com/example/rulefold/rulefold/Triple"), (0, u "subject"), (0, u "Ljava/lang/String;"), (0, .fieldref 8 14), (0, .nameAndType 15 12), (0, u "relation"), (0, .fieldref 8 17), (0, .nameAndType 18 12), (0, u "object"), (12, u "(Ljava/lang/String;Ljava/lang/String;Ljava/lang/String;)V"), (3, u "()Ljava/lang/String;")] 24

def k11c0 : Code := { maxStack := 2, maxLocals := 4, code := prog_67_method_1_code, exceptionTable := #[], attributes := #[] }
def k11m0 : Method := { name := "<init>", desc := "(Ljava/lang/String;Ljava/lang/String;Ljava/lang/String;)V", sig := { parameters := [(.object "java/lang/String"), (.object "java/lang/String"), (.object "java/lang/String")], returnType := none }, accessFlags := 0, code := some k11c0 }
def k11c1 : Code := { maxStack := 1, maxLocals := 1, code := prog_67_method_5_code, exceptionTable := #[], attributes := #[] }
def k11m1 : Method := { name := "subject", desc := "()Ljava/lang/String;", sig := { parameters := [], returnType := some (.object "java/lang/String") }, accessFlags := 1, code := some k11c1 }
def k11c2 : Code := { maxStack := 1, maxLocals := 1, code := prog_67_method_6_code, exceptionTable := #[], attributes := #[] }
def k11m2 : Method := { name := "relation", desc := "()Ljava/lang/String;", sig := { parameters := [], returnType := some (.object "java/lang/String") }, accessFlags := 1, code := some k11c2 }
def k11c3 : Code := { maxStack := 1, maxLocals := 1, code := prog_67_method_7_code, exceptionTable := #[], attributes := #[] }
def k11m3 : Method := { name := "object", desc := "()Ljava/lang/String;", sig := { parameters := [], returnType := some (.object "java/lang/String") }, accessFlags := 1, code := some k11c3 }
/-- com/example/rulefold/rulefold/Triple -/
def k11 : Class := { plain "com/example/rulefold/rulefold/Triple" (some 9) with
  accessFlags := 48
  interfaces := #[]
  cf := some (fileOf pool11 8 #[] #[{ accessFlags := 0, nameIndex := 5, descriptorIndex := 31, attributes := #[] }, { accessFlags := 1, nameIndex := 11, descriptorIndex := 35, attributes := #[] }, { accessFlags := 1, nameIndex := 15, descriptorIndex := 35, attributes := #[] }, { accessFlags := 1, nameIndex := 18, descriptorIndex := 35, attributes := #[] }] 48 2 #[] #[{ accessFlags := 18, nameIndex := 11, descriptorIndex := 12, attributes := #[] }, { accessFlags := 18, nameIndex := 15, descriptorIndex := 12, attributes := #[] }, { accessFlags := 18, nameIndex := 18, descriptorIndex := 12, attributes := #[] }])
  fields := #[{ name := "subject", type := (.object "java/lang/String"), accessFlags := 18, slot := 0, constantValue := 0 }, { name := "relation", type := (.object "java/lang/String"), accessFlags := 18, slot := 1, constantValue := 0 }, { name := "object", type := (.object "java/lang/String"), accessFlags := 18, slot := 2, constantValue := 0 }]
  methods := #[k11m0, k11m1, k11m2, k11m3]
  instanceTypes := #[(.object "java/lang/String"), (.object "java/lang/String"), (.object "java/lang/String")]
  staticTypes := #[]
  resolved := Array.replicate 60 none
  statics := none }

def pool12 : Array CpInfo := pool [(2, .class_ 4), (1, u "java/lang/Object"), (0, u "<init>"), (0, u "()V"), (17, .class_ 26), (1, u "jdk/internal/util/Preconditions"), (28, .class_ 56), (0, u "jdk/internal/util/Preconditions$4"), (57, .class_ 115), (0, u "jdk/internal/util/Preconditions$1"), (7, u "SIOOBE_FORMATTER"), (0, u "Ljava/util/function/BiFunction;"), (0, .class_ 126), (0, u "jdk/internal/util/Preconditions$2"), (3, u "AIOOBE_FORMATTER"), (0, .class_ 132), (0, u "jdk/internal/util/Preconditions$3"), (3, u "IOOBE_FORMATTER")] 57

def k12m0 : Method := { name := "<init>", desc := "()V", sig := { parameters := [], returnType := none }, accessFlags := 1, code := none }
/-- jdk/internal/util/Preconditions -/
def k12 : Class := { plain "jdk/internal/util/Preconditions" (some 0) with
  accessFlags := 33
  interfaces := #[]
  cf := some (fileOf pool12 24 #[.nestMembers #[55, 131, 125, 114]] #[{ accessFlags := 1, nameIndex := 5, descriptorIndex := 6, attributes := #[] }] 33 2 #[] #[{ accessFlags := 25, nameIndex := 123, descriptorIndex := 124, attributes := #[] }, { accessFlags := 25, nameIndex := 130, descriptorIndex := 124, attributes := #[] }, { accessFlags := 25, nameIndex := 136, descriptorIndex := 124, attributes := #[] }])
  fields := #[{ name := "SIOOBE_FORMATTER", type := (.object "java/util/function/BiFunction"), accessFlags := 25, slot := 0, constantValue := 0 }, { name := "AIOOBE_FORMATTER", type := (.object "java/util/function/BiFunction"), accessFlags := 25, slot := 1, constantValue := 0 }, { name := "IOOBE_FORMATTER", type := (.object "java/util/function/BiFunction"), accessFlags := 25, slot := 2, constantValue := 0 }]
  methods := #[k12m0]
  instanceTypes := #[]
  staticTypes := #[(.object "java/util/function/BiFunction"), (.object "java/util/function/BiFunction"), (.object "java/util/function/BiFunction")]
  resolved := Array.replicate 194 none
  statics := some 1 }

def pool13 : Array CpInfo := pool [(9, u "<init>"), (6, .class_ 18), (1, u "java/lang/Object"), (0, u "()V"), (1, .class_ 23), (1, u "jdk/internal/util/ArraysSupport"), (0, u "LOG2_ARRAY_LONG_INDEX_SCALE"), (0, u "I"), (2, u "U"), (0, u "Ljdk/internal/misc/Unsafe;"), (8, u "BIG_ENDIAN"), (0, u "Z"), (8, u "LOG2_BYTE_BIT_SIZE"), (4, u "LOG2_ARRAY_INT_INDEX_SCALE"), (54, u "JLA"), (0, u "Ljdk/internal/access/JavaLangAccess;"), (11, u "LOG2_ARRAY_BOOLEAN_INDEX_SCALE"), (9, u "LOG2_ARRAY_BYTE_INDEX_SCALE"), (5, u "LOG2_ARRAY_CHAR_INDEX_SCALE"), (5, u "LOG2_ARRAY_SHORT_INDEX_SCALE"), (18, u "LOG2_ARRAY_FLOAT_INDEX_SCALE"), (24, u "LOG2_ARRAY_DOUBLE_INDEX_SCALE"), (89, u "T_BOOLEAN"), (2, u "T_CHAR"), (1, u "T_FLOAT"), (1, u "T_DOUBLE"), (1, u "T_BYTE"), (1, u "T_SHORT"), (1, u "T_INT"), (1, u "T_LONG"), (1, u "SOFT_MAX_ARRAY_LENGTH")] 83

def k13m0 : Method := { name := "<init>", desc := "()V", sig := { parameters := [], returnType := none }, accessFlags := 2, code := none }
/-- jdk/internal/util/ArraysSupport -/
def k13 : Class := { plain "jdk/internal/util/ArraysSupport" (some 0) with
  accessFlags := 33
  interfaces := #[]
  cf := some (fileOf pool13 21 #[] #[{ accessFlags := 2, nameIndex := 9, descriptorIndex := 19, attributes := #[] }] 33 16 #[] #[{ accessFlags := 24, nameIndex := 28, descriptorIndex := 29, attributes := #[] }, { accessFlags := 26, nameIndex := 38, descriptorIndex := 39, attributes := #[] }, { accessFlags := 25, nameIndex := 121, descriptorIndex := 25, attributes := #[] }, { accessFlags := 25, nameIndex := 131, descriptorIndex := 25, attributes := #[] }, { accessFlags := 25, nameIndex := 137, descriptorIndex := 25, attributes := #[] }, { accessFlags := 25, nameIndex := 143, descriptorIndex := 25, attributes := #[] }, { accessFlags := 25, nameIndex := 53, descriptorIndex := 25, attributes := #[] }, { accessFlags := 25, nameIndex := 24, descriptorIndex := 25, attributes := #[] }, { accessFlags := 25, nameIndex := 162, descriptorIndex := 25, attributes := #[] }, { accessFlags := 25, nameIndex := 187, descriptorIndex := 25, attributes := #[] }, { accessFlags := 26, nameIndex := 48, descriptorIndex := 25, attributes := #[] }, { accessFlags := 25, nameIndex := 277, descriptorIndex := 25, attributes := #[] }, { accessFlags := 25, nameIndex := 280, descriptorIndex := 25, attributes := #[] }, { accessFlags := 25, nameIndex := 282, descriptorIndex := 25, attributes := #[] }, { accessFlags := 25, nameIndex := 284, descriptorIndex := 25, attributes := #[] }, { accessFlags := 25, nameIndex := 286, descriptorIndex := 25, attributes := #[] }, { accessFlags := 25, nameIndex := 288, descriptorIndex := 25, attributes := #[] }, { accessFlags := 25, nameIndex := 290, descriptorIndex := 25, attributes := #[] }, { accessFlags := 25, nameIndex := 292, descriptorIndex := 25, attributes := #[] }, { accessFlags := 26, nameIndex := 108, descriptorIndex := 109, attributes := #[] }, { accessFlags := 25, nameIndex := 294, descriptorIndex := 25, attributes := #[] }])
  fields := #[{ name := "U", type := (.object "jdk/internal/misc/Unsafe"), accessFlags := 24, slot := 0, constantValue := 0 }, { name := "BIG_ENDIAN", type := .boolean, accessFlags := 26, slot := 1, constantValue := 0 }, { name := "LOG2_ARRAY_BOOLEAN_INDEX_SCALE", type := .int, accessFlags := 25, slot := 2, constantValue := 0 }, { name := "LOG2_ARRAY_BYTE_INDEX_SCALE", type := .int, accessFlags := 25, slot := 3, constantValue := 0 }, { name := "LOG2_ARRAY_CHAR_INDEX_SCALE", type := .int, accessFlags := 25, slot := 4, constantValue := 0 }, { name := "LOG2_ARRAY_SHORT_INDEX_SCALE", type := .int, accessFlags := 25, slot := 5, constantValue := 0 }, { name := "LOG2_ARRAY_INT_INDEX_SCALE", type := .int, accessFlags := 25, slot := 6, constantValue := 0 }, { name := "LOG2_ARRAY_LONG_INDEX_SCALE", type := .int, accessFlags := 25, slot := 7, constantValue := 0 }, { name := "LOG2_ARRAY_FLOAT_INDEX_SCALE", type := .int, accessFlags := 25, slot := 8, constantValue := 0 }, { name := "LOG2_ARRAY_DOUBLE_INDEX_SCALE", type := .int, accessFlags := 25, slot := 9, constantValue := 0 }, { name := "LOG2_BYTE_BIT_SIZE", type := .int, accessFlags := 26, slot := 10, constantValue := 0 }, { name := "T_BOOLEAN", type := .int, accessFlags := 25, slot := 11, constantValue := 0 }, { name := "T_CHAR", type := .int, accessFlags := 25, slot := 12, constantValue := 0 }, { name := "T_FLOAT", type := .int, accessFlags := 25, slot := 13, constantValue := 0 }, { name := "T_DOUBLE", type := .int, accessFlags := 25, slot := 14, constantValue := 0 }, { name := "T_BYTE", type := .int, accessFlags := 25, slot := 15, constantValue := 0 }, { name := "T_SHORT", type := .int, accessFlags := 25, slot := 16, constantValue := 0 }, { name := "T_INT", type := .int, accessFlags := 25, slot := 17, constantValue := 0 }, { name := "T_LONG", type := .int, accessFlags := 25, slot := 18, constantValue := 0 }, { name := "JLA", type := (.object "jdk/internal/access/JavaLangAccess"), accessFlags := 26, slot := 19, constantValue := 0 }, { name := "SOFT_MAX_ARRAY_LENGTH", type := .int, accessFlags := 25, slot := 20, constantValue := 0 }]
  methods := #[k13m0]
  instanceTypes := #[]
  staticTypes := #[(.object "jdk/internal/misc/Unsafe"), .boolean, .int, .int, .int, .int, .int, .int, .int, .int, .int, .int, .int, .int, .int, .int, .int, .int, .int, (.object "jdk/internal/access/JavaLangAccess"), .int]
  resolved := Array.replicate 378 none
  statics := none }

def pool14 : Array CpInfo := pool [(1, u "java/lang/Cloneable"), (0, .class_ 1), (0, u "java/lang/Object"), (0, .class_ 3)] 3

/-- java/lang/Cloneable -/
def k14 : Class := { plain "java/lang/Cloneable" (some 0) with
  accessFlags := 1537
  interfaces := #[]
  cf := some (fileOf pool14 2 #[] #[] 1537 4 #[] #[])
  fields := #[]
  methods := #[]
  instanceTypes := #[]
  staticTypes := #[]
  resolved := Array.replicate 8 none
  statics := none }

/-- the primitive byte -/
def k15 : Class := { plain "byte" none with kind := .primitive 'B', accessFlags := 0x411 }
/-- [B -/
def k16 : Class := { plain "[B" (some 0) with kind := .array 15 .byte, interfaces := #[14, 2], accessFlags := 1041 }

/-- the primitive int -/
def k17 : Class := { plain "int" none with kind := .primitive 'I', accessFlags := 0x411 }
/-- [I -/
def k18 : Class := { plain "[I" (some 0) with kind := .array 17 .int, interfaces := #[14, 2], accessFlags := 1041 }

/-- [Ljava/lang/String; -/
def k19 : Class := { plain "[Ljava/lang/String;" (some 0) with kind := .array 7 (.object "java/lang/String"), interfaces := #[14, 2], accessFlags := 1041 }

def heap : Heap := #[{ cls := 7, slots := #[.long 0, .int 1, .null, .int 0, .null, .int 0, .int 0], vm := .statics 7 },
  { cls := 12, slots := #[.null, .null, .null], vm := .statics 12 }]
def classes : Array Class := #[k0, k1, k2, k3, k4, k5, k6, k7, k8, k9, k10, k11, k12, k13, k14, k15, k16, k17, k18, k19]
def interned : List (Array UInt16 × Addr) := []
def slotsUsed : Nat := 10
def theMethod : MethodId := ⟨1, 3⟩
def args0 : Array Value := #[.int 1, .int 2, .int 3, .int 4, .int 5, .int 6]
def aboutOver (below : List Frame) : State where
  vm := { classes := classes, interned := interned.toArray }
  heap := heap
  slotsUsed := slotsUsed
  threads := #[{ frames := .invoking theMethod args0 :: below }]
def below0 : List Frame := [.native { method := ⟨0, 0⟩, args := #[] }]
def about1 : State := aboutOver below0
def p0 : Program := .bare "" "" ""
def e0 : Env := launch0.env 0 0 0
theorem w_frames : about1.frames = Frame.invoking theMethod args0 :: below0 := rfl
set_option maxRecDepth 65536 in
theorem w_args : argsFit about1.vm theMethod args0 = true := by decide +kernel
set_option maxRecDepth 65536 in
theorem w_heap : heapFits about1 = true := by decide +kernel
set_option maxRecDepth 65536 in
theorem w_runnable : about1.curStatus? = some .runnable := by decide +kernel
set_option maxRecDepth 65536 in
theorem w_alone : about1.alone = true := by decide +kernel
set_option maxRecDepth 65536 in
theorem w_named : about1.methodNamed? x = some theMethod := by decide +kernel
set_option maxRecDepth 65536 in
theorem w_hears : about1.hears theMethod below0 = true := by decide +kernel
set_option maxRecDepth 65536 in
theorem w_ripe : about1.ripe theMethod args0 below0 = true := by decide +kernel
theorem w_running : about1.status = .running := rfl
set_option maxRecDepth 65536 in
theorem w_room : about1.hasRoom e0.platform room_1 = true :=
  launch0.hasRoom_least _ room_1 (by decide +kernel) (by decide +kernel) (by decide +kernel) (by decide +kernel) (by decide +kernel) (by decide +kernel)
theorem allAtoms_all (ts : List Jvm.Cond) (a : Array Jvm.Value) (st : Jvm.State) : (allAtoms ts).before a st = ts.all (fun c => c.before a st) := by
  induction ts with
  | nil => rfl
  | cons c t ih =>
    show (Jvm.Cond.and c (allAtoms t)).before a st = _
    rw [Jvm.Cond.before_and, ih, List.all_cons]
def words1 : List Jvm.Cond := Jvm.Cond.code x code maxLocals ret :: tables_1
/-- a 'code' word, met by the world's own term for the bytes: nothing is compared byte by byte -/
theorem code_word {y : MethodName} {bytes : ByteArray} {mx : Nat} {rt : Option FieldType} {a : Array Value} {s : State} {m : MethodId} {meth : Method} {c : Code} (h1 : s.methodNamed? y = some m) (h2 : s.vm.method? m = some meth) (h3 : meth.code = some c) (h4 : c.code = bytes)
    (h5 : (c.maxLocals == mx && c.exceptionTable.isEmpty && decide (c.maxStack ≤ mostOperands) && decide (meth.sig.returnType = rt) && !meth.locks && decide (parseMethodDescriptor y.desc = some meth.sig)) = true) : (Jvm.Cond.code y bytes mx rt).before a s = true := by
  simp only [Bool.and_eq_true, beq_iff_eq, Bool.not_eq_true', decide_eq_true_eq] at h5
  obtain ⟨⟨⟨⟨⟨g1, g2⟩, g3⟩, g4⟩, g5⟩, g6⟩ := h5
  simp [Cond.before, Cond.holds, Cond.value, h1, h2, h3, h4, g1, g2, g3, g4, g5, g6]
def isCode : Jvm.Cond → Bool
  | .code _ _ _ _ => true
  | _ => false
theorem all_split {L : List Jvm.Cond} {P : Jvm.Cond → Bool} (h1 : L.all (fun c => isCode c || P c) = true) (h2 : ∀ c ∈ L.filter isCode, P c = true) : L.all P = true := by
  refine List.all_eq_true.mpr fun c hc => ?_
  have h := List.all_eq_true.mp h1 c hc
  rcases Bool.eq_false_or_eq_true (isCode c) with hi | hi
  · exact h2 c (List.mem_filter.mpr ⟨hc, hi⟩)
  · simpa [hi] using h
set_option maxRecDepth 65536 in
theorem w_c0 : (Jvm.Cond.code x code maxLocals ret).before args0 about1 = true := code_word (m := ⟨1, 3⟩) (meth := k1m3) (c := k1c3) (by decide +kernel) rfl rfl rfl (by decide +kernel)
set_option maxRecDepth 65536 in
theorem w_c1 : (Jvm.Cond.code ({ cls := "com/example/rulefold/rulefold/PatternSubjectInPinLaw", name := "var", desc := "(I)I" } : Jvm.MethodName) method_2_code (2 : Nat) (Option.some Jvm.ClassFile.FieldType.int)).before args0 about1 = true := code_word (m := ⟨1, 1⟩) (meth := k1m1) (c := k1c1) (by decide +kernel) rfl rfl rfl (by decide +kernel)
set_option maxRecDepth 65536 in
theorem w_c2 : (Jvm.Cond.code ({ cls := "java/lang/String", name := "valueOf", desc := "(C)Ljava/lang/String;" } : Jvm.MethodName) jdk_42_method_139_code (1 : Nat) (Option.some (Jvm.ClassFile.FieldType.object "java/lang/String"))).before args0 about1 = true := code_word (m := ⟨7, 2⟩) (meth := k7m2) (c := k7c2) (by decide +kernel) rfl rfl rfl (by decide +kernel)
set_option maxRecDepth 65536 in
theorem w_c3 : (Jvm.Cond.code ({ cls := "java/lang/StringLatin1", name := "canEncode", desc := "(C)Z" } : Jvm.MethodName) jdk_43_method_3_code (1 : Nat) (Option.some Jvm.ClassFile.FieldType.boolean)).before args0 about1 = true := code_word (m := ⟨8, 1⟩) (meth := k8m1) (c := k8c1) (by decide +kernel) rfl rfl rfl (by decide +kernel)
set_option maxRecDepth 65536 in
theorem w_c4 : (Jvm.Cond.code ({ cls := "java/lang/StringLatin1", name := "toBytes", desc := "(C)[B" } : Jvm.MethodName) jdk_43_method_46_code (1 : Nat) (Option.some (Jvm.ClassFile.FieldType.array Jvm.ClassFile.FieldType.byte))).before args0 about1 = true := code_word (m := ⟨8, 3⟩) (meth := k8m3) (c := k8c3) (by decide +kernel) rfl rfl rfl (by decide +kernel)
set_option maxRecDepth 65536 in
theorem w_c5 : (Jvm.Cond.code ({ cls := "java/lang/String", name := "<init>", desc := "([BB)V" } : Jvm.MethodName) jdk_42_method_151_code (3 : Nat) (Option.none : Option Jvm.ClassFile.FieldType)).before args0 about1 = true := code_word (m := ⟨7, 3⟩) (meth := k7m3) (c := k7c3) (by decide +kernel) rfl rfl rfl (by decide +kernel)
set_option maxRecDepth 65536 in
theorem w_c6 : (Jvm.Cond.code ({ cls := "java/lang/Object", name := "<init>", desc := "()V" } : Jvm.MethodName) object_method_1_code (1 : Nat) (Option.none : Option Jvm.ClassFile.FieldType)).before args0 about1 = true := code_word (m := ⟨0, 0⟩) (meth := k0m0) (c := k0c0) (by decide +kernel) rfl rfl rfl (by decide +kernel)
set_option maxRecDepth 65536 in
theorem w_c7 : (Jvm.Cond.code ({ cls := "com/example/rulefold/rulefold/PatternSubjectInPinLaw", name := "slot", desc := "(II)Ljava/lang/String;" } : Jvm.MethodName) method_3_code (2 : Nat) (Option.some (Jvm.ClassFile.FieldType.object "java/lang/String"))).before args0 about1 = true := code_word (m := ⟨1, 2⟩) (meth := k1m2) (c := k1c2) (by decide +kernel) rfl rfl rfl (by decide +kernel)
set_option maxRecDepth 65536 in
theorem w_c8 : (Jvm.Cond.code ({ cls := "com/example/rulefold/rulefold/CompiledBody$Pattern", name := "<init>", desc := "(Ljava/lang/String;Ljava/lang/String;ILjava/lang/String;I)V" } : Jvm.MethodName) prog_22_method_1_code (6 : Nat) (Option.none : Option Jvm.ClassFile.FieldType)).before args0 about1 = true := code_word (m := ⟨10, 0⟩) (meth := k10m0) (c := k10c0) (by decide +kernel) rfl rfl rfl (by decide +kernel)
set_option maxRecDepth 65536 in
theorem w_c9 : (Jvm.Cond.code ({ cls := "java/lang/Record", name := "<init>", desc := "()V" } : Jvm.MethodName) jdk_30_method_1_code (1 : Nat) (Option.none : Option Jvm.ClassFile.FieldType)).before args0 about1 = true := code_word (m := ⟨9, 0⟩) (meth := k9m0) (c := k9c0) (by decide +kernel) rfl rfl rfl (by decide +kernel)
set_option maxRecDepth 65536 in
theorem w_c10 : (Jvm.Cond.code ({ cls := "com/example/rulefold/rulefold/CompiledBody$Pattern", name := "subjectIn", desc := "([Ljava/lang/String;)Ljava/lang/String;" } : Jvm.MethodName) prog_22_method_3_code (2 : Nat) (Option.some (Jvm.ClassFile.FieldType.object "java/lang/String"))).before args0 about1 = true := code_word (m := ⟨10, 1⟩) (meth := k10m1) (c := k10c1) (by decide +kernel) rfl rfl rfl (by decide +kernel)
set_option maxRecDepth 65536 in
theorem w_c11 : (Jvm.Cond.code ({ cls := "com/example/rulefold/rulefold/Triple", name := "<init>", desc := "(Ljava/lang/String;Ljava/lang/String;Ljava/lang/String;)V" } : Jvm.MethodName) prog_67_method_1_code (4 : Nat) (Option.none : Option Jvm.ClassFile.FieldType)).before args0 about1 = true := code_word (m := ⟨11, 0⟩) (meth := k11m0) (c := k11c0) (by decide +kernel) rfl rfl rfl (by decide +kernel)
set_option maxRecDepth 65536 in
theorem w_c12 : (Jvm.Cond.code ({ cls := "com/example/rulefold/rulefold/CompiledBody$Pattern", name := "unify", desc := "(Lcom/example/rulefold/rulefold/Triple;[Ljava/lang/String;)Z" } : Jvm.MethodName) prog_22_method_6_code (3 : Nat) (Option.some Jvm.ClassFile.FieldType.boolean)).before args0 about1 = true := code_word (m := ⟨10, 2⟩) (meth := k10m2) (c := k10c2) (by decide +kernel) rfl rfl rfl (by decide +kernel)
set_option maxRecDepth 65536 in
theorem w_c13 : (Jvm.Cond.code ({ cls := "com/example/rulefold/rulefold/Triple", name := "relation", desc := "()Ljava/lang/String;" } : Jvm.MethodName) prog_67_method_6_code (1 : Nat) (Option.some (Jvm.ClassFile.FieldType.object "java/lang/String"))).before args0 about1 = true := code_word (m := ⟨11, 2⟩) (meth := k11m2) (c := k11c2) (by decide +kernel) rfl rfl rfl (by decide +kernel)
set_option maxRecDepth 65536 in
theorem w_c14 : (Jvm.Cond.code ({ cls := "com/example/rulefold/rulefold/Triple", name := "subject", desc := "()Ljava/lang/String;" } : Jvm.MethodName) prog_67_method_5_code (1 : Nat) (Option.some (Jvm.ClassFile.FieldType.object "java/lang/String"))).before args0 about1 = true := code_word (m := ⟨11, 1⟩) (meth := k11m1) (c := k11c1) (by decide +kernel) rfl rfl rfl (by decide +kernel)
set_option maxRecDepth 65536 in
theorem w_c15 : (Jvm.Cond.code ({ cls := "com/example/rulefold/rulefold/CompiledBody$Pattern", name := "bind", desc := "(ILjava/lang/String;Ljava/lang/String;[Ljava/lang/String;)Z" } : Jvm.MethodName) prog_22_method_7_code (4 : Nat) (Option.some Jvm.ClassFile.FieldType.boolean)).before args0 about1 = true := code_word (m := ⟨10, 3⟩) (meth := k10m3) (c := k10c3) (by decide +kernel) rfl rfl rfl (by decide +kernel)
set_option maxRecDepth 65536 in
theorem w_c16 : (Jvm.Cond.code ({ cls := "com/example/rulefold/rulefold/Triple", name := "object", desc := "()Ljava/lang/String;" } : Jvm.MethodName) prog_67_method_7_code (1 : Nat) (Option.some (Jvm.ClassFile.FieldType.object "java/lang/String"))).before args0 about1 = true := code_word (m := ⟨11, 3⟩) (meth := k11m3) (c := k11c3) (by decide +kernel) rfl rfl rfl (by decide +kernel)
set_option maxRecDepth 65536 in
theorem w_c17 : (Jvm.Cond.code ({ cls := "java/lang/String", name := "equals", desc := "(Ljava/lang/Object;)Z" } : Jvm.MethodName) jdk_42_method_66_code (3 : Nat) (Option.some Jvm.ClassFile.FieldType.boolean)).before args0 about1 = true := code_word (m := ⟨7, 1⟩) (meth := k7m1) (c := k7c1) (by decide +kernel) rfl rfl rfl (by decide +kernel)
set_option maxRecDepth 65536 in
theorem w_c18 : (Jvm.Cond.code ({ cls := "java/lang/StringLatin1", name := "equals", desc := "([B[B)Z" } : Jvm.MethodName) jdk_43_method_13_code (3 : Nat) (Option.some Jvm.ClassFile.FieldType.boolean)).before args0 about1 = true := code_word (m := ⟨8, 2⟩) (meth := k8m2) (c := k8c2) (by decide +kernel) rfl rfl rfl (by decide +kernel)
def codes1 : List Jvm.Cond := [Jvm.Cond.code x code maxLocals ret, Jvm.Cond.code ({ cls := "com/example/rulefold/rulefold/PatternSubjectInPinLaw", name := "var", desc := "(I)I" } : Jvm.MethodName) method_2_code (2 : Nat) (Option.some Jvm.ClassFile.FieldType.int), Jvm.Cond.code ({ cls := "java/lang/String", name := "valueOf", desc := "(C)Ljava/lang/String;" } : Jvm.MethodName) jdk_42_method_139_code (1 : Nat) (Option.some (Jvm.ClassFile.FieldType.object "java/lang/String")), Jvm.Cond.code ({ cls := "java/lang/StringLatin1", name := "canEncode", desc := "(C)Z" } : Jvm.MethodName) jdk_43_method_3_code (1 : Nat) (Option.some Jvm.ClassFile.FieldType.boolean), Jvm.Cond.code ({ cls := "java/lang/StringLatin1", name := "toBytes", desc := "(C)[B" } : Jvm.MethodName) jdk_43_method_46_code (1 : Nat) (Option.some (Jvm.ClassFile.FieldType.array Jvm.ClassFile.FieldType.byte)), Jvm.Cond.code ({ cls := "java/lang/String", name := "<init>", desc := "([BB)V" } : Jvm.MethodName) jdk_42_method_151_code (3 : Nat) (Option.none : Option Jvm.ClassFile.FieldType), Jvm.Cond.code ({ cls := "java/lang/Object", name := "<init>", desc := "()V" } : Jvm.MethodName) object_method_1_code (1 : Nat) (Option.none : Option Jvm.ClassFile.FieldType), Jvm.Cond.code ({ cls := "com/example/rulefold/rulefold/PatternSubjectInPinLaw", name := "slot", desc := "(II)Ljava/lang/String;" } : Jvm.MethodName) method_3_code (2 : Nat) (Option.some (Jvm.ClassFile.FieldType.object "java/lang/String")), Jvm.Cond.code ({ cls := "com/example/rulefold/rulefold/CompiledBody$Pattern", name := "<init>", desc := "(Ljava/lang/String;Ljava/lang/String;ILjava/lang/String;I)V" } : Jvm.MethodName) prog_22_method_1_code (6 : Nat) (Option.none : Option Jvm.ClassFile.FieldType), Jvm.Cond.code ({ cls := "java/lang/Record", name := "<init>", desc := "()V" } : Jvm.MethodName) jdk_30_method_1_code (1 : Nat) (Option.none : Option Jvm.ClassFile.FieldType), Jvm.Cond.code ({ cls := "com/example/rulefold/rulefold/CompiledBody$Pattern", name := "subjectIn", desc := "([Ljava/lang/String;)Ljava/lang/String;" } : Jvm.MethodName) prog_22_method_3_code (2 : Nat) (Option.some (Jvm.ClassFile.FieldType.object "java/lang/String")), Jvm.Cond.code ({ cls := "com/example/rulefold/rulefold/Triple", name := "<init>", desc := "(Ljava/lang/String;Ljava/lang/String;Ljava/lang/String;)V" } : Jvm.MethodName) prog_67_method_1_code (4 : Nat) (Option.none : Option Jvm.ClassFile.FieldType), Jvm.Cond.code ({ cls := "com/example/rulefold/rulefold/CompiledBody$Pattern", name := "unify", desc := "(Lcom/example/rulefold/rulefold/Triple;[Ljava/lang/String;)Z" } : Jvm.MethodName) prog_22_method_6_code (3 : Nat) (Option.some Jvm.ClassFile.FieldType.boolean), Jvm.Cond.code ({ cls := "com/example/rulefold/rulefold/Triple", name := "relation", desc := "()Ljava/lang/String;" } : Jvm.MethodName) prog_67_method_6_code (1 : Nat) (Option.some (Jvm.ClassFile.FieldType.object "java/lang/String")), Jvm.Cond.code ({ cls := "com/example/rulefold/rulefold/Triple", name := "subject", desc := "()Ljava/lang/String;" } : Jvm.MethodName) prog_67_method_5_code (1 : Nat) (Option.some (Jvm.ClassFile.FieldType.object "java/lang/String")), Jvm.Cond.code ({ cls := "com/example/rulefold/rulefold/CompiledBody$Pattern", name := "bind", desc := "(ILjava/lang/String;Ljava/lang/String;[Ljava/lang/String;)Z" } : Jvm.MethodName) prog_22_method_7_code (4 : Nat) (Option.some Jvm.ClassFile.FieldType.boolean), Jvm.Cond.code ({ cls := "com/example/rulefold/rulefold/Triple", name := "object", desc := "()Ljava/lang/String;" } : Jvm.MethodName) prog_67_method_7_code (1 : Nat) (Option.some (Jvm.ClassFile.FieldType.object "java/lang/String")), Jvm.Cond.code ({ cls := "java/lang/String", name := "equals", desc := "(Ljava/lang/Object;)Z" } : Jvm.MethodName) jdk_42_method_66_code (3 : Nat) (Option.some Jvm.ClassFile.FieldType.boolean), Jvm.Cond.code ({ cls := "java/lang/StringLatin1", name := "equals", desc := "([B[B)Z" } : Jvm.MethodName) jdk_43_method_13_code (3 : Nat) (Option.some Jvm.ClassFile.FieldType.boolean)]
set_option maxRecDepth 65536 in
theorem codes_eq : words1.filter isCode = codes1 := rfl
theorem w_codes : ∀ c ∈ words1.filter isCode, c.before args0 about1 = true := by
  rw [codes_eq]
  intro c hc
  simp only [codes1, List.mem_cons, List.not_mem_nil, or_false] at hc
  rcases hc with rfl | rfl | rfl | rfl | rfl | rfl | rfl | rfl | rfl | rfl | rfl | rfl | rfl | rfl | rfl | rfl | rfl | rfl | rfl
  · exact w_c0
  · exact w_c1
  · exact w_c2
  · exact w_c3
  · exact w_c4
  · exact w_c5
  · exact w_c6
  · exact w_c7
  · exact w_c8
  · exact w_c9
  · exact w_c10
  · exact w_c11
  · exact w_c12
  · exact w_c13
  · exact w_c14
  · exact w_c15
  · exact w_c16
  · exact w_c17
  · exact w_c18
set_option maxRecDepth 65536 in
theorem w_t1 : (words1.take 24).all (fun c => isCode c || c.before args0 about1) = true := by decide +kernel
set_option maxRecDepth 65536 in
theorem w_t2 : ((words1.drop 24).take 24).all (fun c => isCode c || c.before args0 about1) = true := by decide +kernel
set_option maxRecDepth 65536 in
theorem w_t3 : (((words1.drop 24).drop 24).take 24).all (fun c => isCode c || c.before args0 about1) = true := by decide +kernel
set_option maxRecDepth 65536 in
theorem w_t4 : ((((words1.drop 24).drop 24).drop 24).take 24).all (fun c => isCode c || c.before args0 about1) = true := by decide +kernel
set_option maxRecDepth 65536 in
theorem w_t5 : ((((words1.drop 24).drop 24).drop 24).drop 24).all (fun c => isCode c || c.before args0 about1) = true := by decide +kernel
theorem w_tables : (allAtoms (Jvm.Cond.code x code maxLocals ret :: tables_1)).before args0 about1 = true := by
  rw [allAtoms_all]
  show words1.all (fun c => c.before args0 about1) = true
  refine all_split ?_ w_codes
  rw [← List.take_append_drop 24 words1, List.all_append, w_t1, ← List.take_append_drop 24 (words1.drop 24), List.all_append, w_t2, ← List.take_append_drop 24 ((words1.drop 24).drop 24), List.all_append, w_t3, ← List.take_append_drop 24 (((words1.drop 24).drop 24).drop 24), List.all_append, w_t4, w_t5]
  rfl
set_option maxRecDepth 65536 in
theorem w_rest : rest_1_c.before args0 about1 = true := by decide +kernel
set_option maxRecDepth 65536 in
theorem w_case : (Jvm.Cond.and given_1 narrow_1).before args0 about1 = true := by decide +kernel
theorem w_applies : (headSpec (Jvm.Cond.code x code maxLocals ret :: tables_1) room_1).applies x e0.platform about1 = true :=
  (Spec.applies_iff w_frames).mpr ⟨w_running, w_runnable, w_alone, w_named, w_hears, w_ripe, w_room, w_tables⟩
theorem atStart : AtStart classFile x code maxLocals ret World_1 tables_1 room_1 Calls_1 rest_1 Pre_1 launch0 p0 e0 about1 theMethod args0 below0 :=
  ⟨lists_1, trivial, launch0.admits_env _ _ _, launch0.least_env, fairChoices_fair.cas, fairChoices_fair.clock, w_frames, w_args, w_heap, w_applies, trivial, w_rest, w_case⟩
end start1
theorem witness_1 : WitnessClaimed_1 := ⟨start1.p0, start1.e0, start1.about1, start1.theMethod, start1.args0, start1.below0, start1.atStart⟩
end Jvm.Pilot.@@N@@
