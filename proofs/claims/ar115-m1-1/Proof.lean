import JvmDerived
import JvmDerived.Pilot.@@N@@Statement
import JvmDerived.Pilot.@@N@@Code
set_option linter.unusedVariables false
set_option linter.unusedSimpArgs false
namespace Jvm.Pilot.@@N@@
open Jvm Jvm.ClassFile Sem Op Lib Jvm.Free Jvm.Stand Jvm.LawKit Jvm.RoadKit Bundle Jvm.Pilot.@@N@@.Jvm.D
/-! own kit: the walk's goal as one word (Goes), the end of a body (Ends), the five returns -/
section OwnKit
/-- from S the run comes to some state and outcome of which P holds -/
def Goes (tb : Tables) (e : Env) (below : List Frame) (P : State → Outcome → Prop) (S : State) : Prop := ∃ t o, Steps tb e below S t ∧ P t o
/-- what a body owes at its end -/
def Ends (below : List Frame) (s : State) (Q : Option Value → Heap → List Loc → Prop) (kc ks : Nat) (t : State) (o : Outcome) : Prop :=
  t.status = .running ∧ Ended t below o ∧ ∃ v L, o = .returned v ∧ Q v t.heap L ∧ FrameEnd s o t L kc ks
theorem Goes.st {tb : Tables} {e : Env} {below : List Frame} {P : State → Outcome → Prop} {S S' : State} (h : ∀ target, Steps tb e below S' target → Steps tb e below S target) (k : Goes tb e below P S') : Goes tb e below P S :=
  let ⟨t, o, h1, h2⟩ := k; ⟨t, o, h t h1, h2⟩
theorem Goes.tr {tb : Tables} {e : Env} {below : List Frame} {P : State → Outcome → Prop} {S S' : State} (h : Steps tb e below S S') (k : Goes tb e below P S') : Goes tb e below P S :=
  let ⟨t, o, h1, h2⟩ := k; ⟨t, o, h.trans h1, h2⟩
theorem Goes.cast {tb : Tables} {e : Env} {below : List Frame} {P : State → Outcome → Prop} {T : State} {g g' : JFrame} (q : g = g') (k : Goes tb e below P (T.setTop g')) : Goes tb e below P (T.setTop g) := q ▸ k
variable {p : Program} {l : Launch} {e : Env} {R : Room} {s : State} {m : MethodId} {args : Array Value} {below : List Frame} {meth : Method} {c : Code} {T : State} {locs : List Loc} {cells slots : Nat}
theorem own_out (X : Stand p l e R s m args below meth c T locs cells slots) {v : Option Value} (hv : meth.sig.returnType = none → v = none) (hlk : meth.locks = false) {S : State} {Q : Option Value → Heap → List Loc → Prop} {kc ks : Nat} (hc : cells ≤ kc) (hs : slots ≤ ks) (hQ : Q v T.heap locs)
    (go : ∀ fs, (∀ (f : JFrame) (acts : List Action), f.method = m → f.locked = none → f.entered = [] → (doReturn e (T.setTop f) acts v).1 = T.setFrames fs) → Steps p.tables e below S (T.setFrames fs)) : Goes p.tables e below (Ends below s Q kc ks) S := by
  obtain ⟨fs, hr, hrun, hended, hW, hsame⟩ := X.leave (v := v) hv hlk
  exact ⟨_, _, go fs hr, hrun, hended, _, _, rfl, hQ, ⟨_, rfl⟩, hW, hsame.mono hc hs⟩
/-- ireturn of a boolean -/
theorem leafZ (X : Stand p l e R s m args below meth c T locs cells slots) (hx : p.tables.exec = Jvm.exec) (hlk : meth.locks = false) (hret : meth.sig.returnType = some .boolean) {pc : Nat} {Ls : Array Slot} {z : Int32} {rest : List Value} (hd : decode c.code pc = .ok (.ireturn, 1)) (hz : z = 0 ∨ z = 1)
    {Q : Option Value → Heap → List Loc → Prop} {kc ks : Nat} (hc : cells ≤ kc) (hs : slots ≤ ks) (hQ : Q (some (.int z)) T.heap locs) : Goes p.tables e below (Ends below s Q kc ks) (T.setTop (mkF m pc Ls (.int z :: rest))) :=
  own_out X (fun h => by rw [hret] at h; cases h) hlk hc hs hQ fun fs hr => retOut X hx hret (by rcases hz with rfl | rfl <;> rfl) (Or.inl ⟨rfl, Or.inr (Or.inl rfl), z, rfl⟩) hd hr
/-- ireturn of an int -/
theorem leafI (X : Stand p l e R s m args below meth c T locs cells slots) (hx : p.tables.exec = Jvm.exec) (hlk : meth.locks = false) (hret : meth.sig.returnType = some .int) {pc : Nat} {Ls : Array Slot} {z : Int32} {rest : List Value} (hd : decode c.code pc = .ok (.ireturn, 1))
    {Q : Option Value → Heap → List Loc → Prop} {kc ks : Nat} (hc : cells ≤ kc) (hs : slots ≤ ks) (hQ : Q (some (.int z)) T.heap locs) : Goes p.tables e below (Ends below s Q kc ks) (T.setTop (mkF m pc Ls (.int z :: rest))) :=
  own_out X (fun h => by rw [hret] at h; cases h) hlk hc hs hQ fun fs hr => retOut X hx hret rfl (Or.inl ⟨rfl, Or.inl rfl, z, rfl⟩) hd hr
/-- lreturn -/
theorem leafJ (X : Stand p l e R s m args below meth c T locs cells slots) (hx : p.tables.exec = Jvm.exec) (hlk : meth.locks = false) (hret : meth.sig.returnType = some .long) {pc : Nat} {Ls : Array Slot} {z : Int64} {rest : List Value} (hd : decode c.code pc = .ok (.lreturn, 1))
    {Q : Option Value → Heap → List Loc → Prop} {kc ks : Nat} (hc : cells ≤ kc) (hs : slots ≤ ks) (hQ : Q (some (.long z)) T.heap locs) : Goes p.tables e below (Ends below s Q kc ks) (T.setTop (mkF m pc Ls (.long z :: rest))) :=
  own_out X (fun h => by rw [hret] at h; cases h) hlk hc hs hQ fun fs hr => retOut X hx hret rfl (Or.inr (Or.inl ⟨rfl, rfl, z, rfl⟩)) hd hr
/-- areturn -/
theorem leafA (X : Stand p l e R s m args below meth c T locs cells slots) (hx : p.tables.exec = Jvm.exec) (hlk : meth.locks = false) {t : FieldType} (hret : meth.sig.returnType = some t) (ht : t.isReference = true) {pc : Nat} {Ls : Array Slot} {w : Value} (hw : w.isRef = true) {rest : List Value} (hd : decode c.code pc = .ok (.areturn, 1))
    {Q : Option Value → Heap → List Loc → Prop} {kc ks : Nat} (hc : cells ≤ kc) (hs : slots ≤ ks) (hQ : Q (some w) T.heap locs) : Goes p.tables e below (Ends below s Q kc ks) (T.setTop (mkF m pc Ls (w :: rest))) :=
  own_out X (fun h => by rw [hret] at h; cases h) hlk hc hs hQ fun fs hr => retOut X hx hret (by rcases ref_cases hw with rfl | ⟨a, rfl⟩ <;> cases t <;> rfl) (Or.inr (Or.inr (Or.inr (Or.inr ⟨rfl, ht, hw⟩)))) hd hr
/-- return of nothing -/
theorem leafN (X : Stand p l e R s m args below meth c T locs cells slots) (hx : p.tables.exec = Jvm.exec) (hlk : meth.locks = false) (hret : meth.sig.returnType = none) {pc : Nat} {Ls : Array Slot} (hd : decode c.code pc = .ok (.return_, 1))
    {Q : Option Value → Heap → List Loc → Prop} {kc ks : Nat} (hc : cells ≤ kc) (hs : slots ≤ ks) (hQ : Q none T.heap locs) : Goes p.tables e below (Ends below s Q kc ks) (T.setTop (mkF m pc Ls [])) :=
  own_out X (fun _ => rfl) hlk hc hs hQ fun fs hr => X.returnOut hx hret hd hr
end OwnKit
theorem d1_0 : decode prog_77_method_1_code 0 = .ok (.aload_n 0, 1) := by decide +kernel
theorem d1_1 : decode prog_77_method_1_code 1 = .ok (.invokespecial 3, 3) := by decide +kernel
theorem d1_4 : decode prog_77_method_1_code 4 = .ok (.aload_n 0, 1) := by decide +kernel
theorem d1_5 : decode prog_77_method_1_code 5 = .ok (.iload_n 1, 1) := by decide +kernel
theorem d1_6 : decode prog_77_method_1_code 6 = .ok (.newarray .long, 2) := by decide +kernel
theorem d1_8 : decode prog_77_method_1_code 8 = .ok (.putfield 9, 3) := by decide +kernel
theorem d1_11 : decode prog_77_method_1_code 11 = .ok (.aload_n 0, 1) := by decide +kernel
theorem d1_12 : decode prog_77_method_1_code 12 = .ok (.iload_n 1, 1) := by decide +kernel
theorem d1_13 : decode prog_77_method_1_code 13 = .ok (.newarray .int, 2) := by decide +kernel
theorem d1_15 : decode prog_77_method_1_code 15 = .ok (.putfield 15, 3) := by decide +kernel
theorem d1_18 : decode prog_77_method_1_code 18 = .ok (.return_, 1) := by decide +kernel
theorem pn_1 : plainFor (⟨"com/example/careful_nets/carefulnets/statespace/Marking", "<init>", "(I)V"⟩ : MethodName) = true := by decide +kernel
theorem pd_1 : parseMethodDescriptor "(I)V" = some ⟨[.int], none⟩ := by decide +kernel
theorem d3_0 : decode prog_77_method_6_code 0 = .ok (.iconst 0, 1) := by decide +kernel
theorem d3_1 : decode prog_77_method_6_code 1 = .ok (.istore_n 1, 1) := by decide +kernel
theorem d3_2 : decode prog_77_method_6_code 2 = .ok (.iload_n 1, 1) := by decide +kernel
theorem d3_3 : decode prog_77_method_6_code 3 = .ok (.aload_n 0, 1) := by decide +kernel
theorem d3_4 : decode prog_77_method_6_code 4 = .ok (.getfield 19, 3) := by decide +kernel
theorem d3_7 : decode prog_77_method_6_code 7 = .ok (.if_icmp .ge 21, 3) := by decide +kernel
theorem d3_10 : decode prog_77_method_6_code 10 = .ok (.aload_n 0, 1) := by decide +kernel
theorem d3_11 : decode prog_77_method_6_code 11 = .ok (.getfield 9, 3) := by decide +kernel
theorem d3_14 : decode prog_77_method_6_code 14 = .ok (.aload_n 0, 1) := by decide +kernel
theorem d3_15 : decode prog_77_method_6_code 15 = .ok (.getfield 15, 3) := by decide +kernel
theorem d3_18 : decode prog_77_method_6_code 18 = .ok (.iload_n 1, 1) := by decide +kernel
theorem d3_19 : decode prog_77_method_6_code 19 = .ok (.iaload, 1) := by decide +kernel
theorem d3_20 : decode prog_77_method_6_code 20 = .ok (.lconst 0, 1) := by decide +kernel
theorem d3_21 : decode prog_77_method_6_code 21 = .ok (.lastore, 1) := by decide +kernel
theorem d3_22 : decode prog_77_method_6_code 22 = .ok (.iinc 1 1, 3) := by decide +kernel
theorem d3_25 : decode prog_77_method_6_code 25 = .ok (.goto (-23), 3) := by decide +kernel
theorem d3_28 : decode prog_77_method_6_code 28 = .ok (.aload_n 0, 1) := by decide +kernel
theorem d3_29 : decode prog_77_method_6_code 29 = .ok (.iconst 0, 1) := by decide +kernel
theorem d3_30 : decode prog_77_method_6_code 30 = .ok (.putfield 19, 3) := by decide +kernel
theorem d3_33 : decode prog_77_method_6_code 33 = .ok (.return_, 1) := by decide +kernel
theorem pn_3 : plainFor (⟨"com/example/careful_nets/carefulnets/statespace/Marking", "clear", "()V"⟩ : MethodName) = true := by decide +kernel
theorem pd_3 : parseMethodDescriptor "()V" = some ⟨[], none⟩ := by decide +kernel
theorem d4_0 : decode prog_77_method_3_code 0 = .ok (.aload_n 0, 1) := by decide +kernel
theorem d4_1 : decode prog_77_method_3_code 1 = .ok (.getfield 19, 3) := by decide +kernel
theorem d4_4 : decode prog_77_method_3_code 4 = .ok (.ireturn, 1) := by decide +kernel
theorem pn_4 : plainFor (⟨"com/example/careful_nets/carefulnets/statespace/Marking", "markedCount", "()I"⟩ : MethodName) = true := by decide +kernel
theorem pd_4 : parseMethodDescriptor "()I" = some ⟨[], (some .int)⟩ := by decide +kernel
theorem d5_0 : decode prog_77_method_2_code 0 = .ok (.aload_n 0, 1) := by decide +kernel
theorem d5_1 : decode prog_77_method_2_code 1 = .ok (.getfield 9, 3) := by decide +kernel
theorem d5_4 : decode prog_77_method_2_code 4 = .ok (.iload_n 1, 1) := by decide +kernel
theorem d5_5 : decode prog_77_method_2_code 5 = .ok (.laload, 1) := by decide +kernel
theorem d5_6 : decode prog_77_method_2_code 6 = .ok (.lreturn, 1) := by decide +kernel
theorem pn_5 : plainFor (⟨"com/example/careful_nets/carefulnets/statespace/Marking", "count", "(I)J"⟩ : MethodName) = true := by decide +kernel
theorem pd_5 : parseMethodDescriptor "(I)J" = some ⟨[.int], (some .long)⟩ := by decide +kernel
theorem d6_0 : decode prog_77_method_5_code 0 = .ok (.aload_n 0, 1) := by decide +kernel
theorem d6_1 : decode prog_77_method_5_code 1 = .ok (.getfield 19, 3) := by decide +kernel
theorem d6_4 : decode prog_77_method_5_code 4 = .ok (.ifCond .eq 28, 3) := by decide +kernel
theorem d6_32 : decode prog_77_method_5_code 32 = .ok (.iconst 0, 1) := by decide +kernel
theorem d6_33 : decode prog_77_method_5_code 33 = .ok (.ireturn, 1) := by decide +kernel
theorem pn_6 : plainFor (⟨"com/example/careful_nets/carefulnets/statespace/Marking", "marksBetween", "(II)Z"⟩ : MethodName) = true := by decide +kernel
theorem pd_6 : parseMethodDescriptor "(II)Z" = some ⟨[.int, .int], (some .boolean)⟩ := by decide +kernel
theorem d7_0 : decode method_2_code 0 = .ok (.lload_n 0, 1) := by decide +kernel
theorem d7_1 : decode method_2_code 1 = .ok (.ldc2_w 9, 3) := by decide +kernel
theorem d7_4 : decode method_2_code 4 = .ok (.land, 1) := by decide +kernel
theorem d7_5 : decode method_2_code 5 = .ok (.lstore_n 2, 1) := by decide +kernel
theorem d7_6 : decode method_2_code 6 = .ok (.lload_n 2, 1) := by decide +kernel
theorem d7_7 : decode method_2_code 7 = .ok (.lconst 0, 1) := by decide +kernel
theorem d7_8 : decode method_2_code 8 = .ok (.lcmp, 1) := by decide +kernel
theorem d7_9 : decode method_2_code 9 = .ok (.ifCond .ne 7, 3) := by decide +kernel
theorem d7_12 : decode method_2_code 12 = .ok (.lconst 1, 1) := by decide +kernel
theorem d7_13 : decode method_2_code 13 = .ok (.goto 4, 3) := by decide +kernel
theorem d7_16 : decode method_2_code 16 = .ok (.lload_n 2, 1) := by decide +kernel
theorem d7_17 : decode method_2_code 17 = .ok (.lreturn, 1) := by decide +kernel
theorem pn_7 : plainFor (⟨"com/example/careful_nets/carefulnets/statespace/MarkingClearPinLaw", "pos", "(J)J"⟩ : MethodName) = true := by decide +kernel
theorem pd_7 : parseMethodDescriptor "(J)J" = some ⟨[.long], (some .long)⟩ := by decide +kernel
theorem d8_0 : decode prog_77_method_7_code 0 = .ok (.aload_n 0, 1) := by decide +kernel
theorem d8_1 : decode prog_77_method_7_code 1 = .ok (.getfield 9, 3) := by decide +kernel
theorem d8_4 : decode prog_77_method_7_code 4 = .ok (.iload_n 1, 1) := by decide +kernel
theorem d8_5 : decode prog_77_method_7_code 5 = .ok (.lload_n 2, 1) := by decide +kernel
theorem d8_6 : decode prog_77_method_7_code 6 = .ok (.lastore, 1) := by decide +kernel
theorem d8_7 : decode prog_77_method_7_code 7 = .ok (.aload_n 0, 1) := by decide +kernel
theorem d8_8 : decode prog_77_method_7_code 8 = .ok (.getfield 15, 3) := by decide +kernel
theorem d8_11 : decode prog_77_method_7_code 11 = .ok (.aload_n 0, 1) := by decide +kernel
theorem d8_12 : decode prog_77_method_7_code 12 = .ok (.dup, 1) := by decide +kernel
theorem d8_13 : decode prog_77_method_7_code 13 = .ok (.getfield 19, 3) := by decide +kernel
theorem d8_16 : decode prog_77_method_7_code 16 = .ok (.dup_x1, 1) := by decide +kernel
theorem d8_17 : decode prog_77_method_7_code 17 = .ok (.iconst 1, 1) := by decide +kernel
theorem d8_18 : decode prog_77_method_7_code 18 = .ok (.iadd, 1) := by decide +kernel
theorem d8_19 : decode prog_77_method_7_code 19 = .ok (.putfield 19, 3) := by decide +kernel
theorem d8_22 : decode prog_77_method_7_code 22 = .ok (.iload_n 1, 1) := by decide +kernel
theorem d8_23 : decode prog_77_method_7_code 23 = .ok (.iastore, 1) := by decide +kernel
theorem d8_24 : decode prog_77_method_7_code 24 = .ok (.return_, 1) := by decide +kernel
theorem pn_8 : plainFor (⟨"com/example/careful_nets/carefulnets/statespace/Marking", "append", "(IJ)V"⟩ : MethodName) = true := by decide +kernel
theorem pd_8 : parseMethodDescriptor "(IJ)V" = some ⟨[.int, .long], none⟩ := by decide +kernel
theorem d9_0 : decode prog_77_method_8_code 0 = .ok (.aload_n 0, 1) := by decide +kernel
theorem d9_1 : decode prog_77_method_8_code 1 = .ok (.getfield 9, 3) := by decide +kernel
theorem d9_4 : decode prog_77_method_8_code 4 = .ok (.iload_n 1, 1) := by decide +kernel
theorem d9_5 : decode prog_77_method_8_code 5 = .ok (.ldc2_w 29, 3) := by decide +kernel
theorem d9_8 : decode prog_77_method_8_code 8 = .ok (.lastore, 1) := by decide +kernel
theorem d9_9 : decode prog_77_method_8_code 9 = .ok (.return_, 1) := by decide +kernel
theorem pn_9 : plainFor (⟨"com/example/careful_nets/carefulnets/statespace/Marking", "growWithoutEnd", "(I)V"⟩ : MethodName) = true := by decide +kernel
theorem pd_9 : parseMethodDescriptor "(I)V" = some ⟨[.int], none⟩ := by decide +kernel
theorem pn_0 : plainFor x = true := by decide +kernel
theorem pd_0 : parseMethodDescriptor "(IJJJJ)Z" = some ⟨[.int, .long, .long, .long, .long], (some .boolean)⟩ := by decide +kernel
theorem own_cl : ∀ j : Fin 5, (Int32.ofNat j.val).toNatClampNeg = j.val := by decide
theorem own_in4 : ∀ j : Fin 4, ¬ (Int32.ofNat j.val < 0) ∧ Int32.ofNat j.val < 4 := by decide
theorem own_up : ∀ j : Fin 5, Int32.ofNat j.val + 1 = Int32.ofNat (j.val + 1) := by decide
theorem own_ltF : ∀ i n : Fin 5, Int32.ofNat i.val < Int32.ofNat n.val ↔ i.val < n.val := by decide
theorem own_inj : ∀ i j : Fin 4, Int32.ofNat i.val = Int32.ofNat j.val → i.val = j.val := by decide
theorem own_lt {i n : Nat} (hi : i ≤ 4) (hn : n ≤ 4) : Int32.ofNat i < Int32.ofNat n ↔ i < n := own_ltF ⟨i, Nat.lt_succ_of_le hi⟩ ⟨n, Nat.lt_succ_of_le hn⟩
/-- a long[4] that holds c -/
def own_J (Z : State) (h : Heap) (b : Addr) (f : Nat → Int64) : Prop := ∃ cl : Cell, Arr Z h b cl .long ∧ cl.slots.size = (4 : Int32).toNatClampNeg ∧ ∀ j, j < 4 → cl.slots[j]? = some (.long (f j))
/-- an int[4] that holds f -/
def own_K (Z : State) (h : Heap) (b : Addr) (f : Nat → Int32) : Prop := ∃ cl : Cell, Arr Z h b cl .int ∧ cl.slots.size = (4 : Int32).toNatClampNeg ∧ ∀ j, j < 4 → cl.slots[j]? = some (.int (f j))
def own_set {α : Type} (f : Nat → α) (k : Nat) (x : α) : Nat → α := fun i => if i = k then x else f i
section OwnArr
variable {Z : State} {h h' : Heap} {a b : Addr} {sl : Nat} {v : Value}
theorem own_J.ext {f : Nat → Int64} (F : own_J Z h b f) (E : Ext h h') : own_J Z h' b f := let ⟨cl, A, r⟩ := F; ⟨cl, A.ext E, r⟩
theorem own_K.ext {f : Nat → Int32} (F : own_K Z h b f) (E : Ext h h') : own_K Z h' b f := let ⟨cl, A, r⟩ := F; ⟨cl, A.ext E, r⟩
theorem own_J.other {f : Nat → Int64} (F : own_J Z h b f) (W : Wr h h' a sl v) (q : b ≠ a) : own_J Z h' b f := let ⟨cl, A, r⟩ := F; ⟨cl, A.other W q, r⟩
theorem own_K.other {f : Nat → Int32} (F : own_K Z h b f) (W : Wr h h' a sl v) (q : b ≠ a) : own_K Z h' b f := let ⟨cl, A, r⟩ := F; ⟨cl, A.other W q, r⟩
theorem own_sl {cl : Cell} {k i : Nat} {w : Value} (hs : cl.slots.size = (4 : Int32).toNatClampNeg) (hk : k < 4) : (cl.setSlot k v).slots[i]? = if i = k then some v else cl.slots[i]? := by
  have h4 : cl.slots.size = 4 := hs
  simp only [Cell.setSlot, Array.getElem?_setIfInBounds]
  by_cases q : i = k
  · subst q; simp [h4, hk]
  · rw [if_neg q, if_neg (Ne.symm q)]
theorem own_J.set {f : Nat → Int64} {x : Int64} {k : Nat} {cl : Cell} (A : Arr Z h b cl .long) (S : cl.slots.size = (4 : Int32).toNatClampNeg) (H : ∀ j, j < 4 → cl.slots[j]? = some (.long (f j))) (hk : k < 4) (W : Wr h h' b k (.long x)) : own_J Z h' b (own_set f k x) := by
  refine ⟨_, A.same W, by rw [sz_set]; exact S, fun j hj => ?_⟩
  rw [own_sl (w := .null) S hk]
  unfold own_set
  by_cases q : j = k
  · rw [if_pos q, if_pos q]
  · rw [if_neg q, if_neg q]; exact H j hj
theorem own_K.set {f : Nat → Int32} {x : Int32} {k : Nat} {cl : Cell} (A : Arr Z h b cl .int) (S : cl.slots.size = (4 : Int32).toNatClampNeg) (H : ∀ j, j < 4 → cl.slots[j]? = some (.int (f j))) (hk : k < 4) (W : Wr h h' b k (.int x)) : own_K Z h' b (own_set f k x) := by
  refine ⟨_, A.same W, by rw [sz_set]; exact S, fun j hj => ?_⟩
  rw [own_sl (w := .null) S hk]
  unfold own_set
  by_cases q : j = k
  · rw [if_pos q, if_pos q]
  · rw [if_neg q, if_neg q]; exact H j hj
theorem own_J.new {k : ClassId} (A : Arr Z h a (newA k .long (4 : Int32)) .long) : own_J Z h a (fun _ => 0) :=
  ⟨_, A, sz_new _ _ _, fun j hj => by
    simp [newA, hj, defaultValue, Array.getElem?_replicate]⟩
theorem own_K.new {k : ClassId} (A : Arr Z h a (newA k .int (4 : Int32)) .int) : own_K Z h a (fun _ => 0) :=
  ⟨_, A, sz_new _ _ _, fun j hj => by
    simp [newA, hj, defaultValue, Array.getElem?_replicate]⟩
end OwnArr
/-- the object and its fields: counts in bc, marked in bm, n marked -/
def own_O (Z : State) (h : Heap) (a bc bm : Addr) (n : Int32) : Prop := Exa Z h a "com/example/careful_nets/carefulnets/statespace/Marking" ∧ Fld Z h a "com/example/careful_nets/carefulnets/statespace/Marking" "counts" "[J" (.ref bc) ∧ Fld Z h a "com/example/careful_nets/carefulnets/statespace/Marking" "marked" "[I" (.ref bm) ∧ Fld Z h a "com/example/careful_nets/carefulnets/statespace/Marking" "markedCount" "I" (.int n) ∧ bc ≠ a ∧ bm ≠ a ∧ bc ≠ bm
theorem own_O.other {Z : State} {h h' : Heap} {a bc bm d : Addr} {n : Int32} {sl : Nat} {v : Value} (O : own_O Z h a bc bm n) (W : Wr h h' d sl v) (q : a ≠ d) : own_O Z h' a bc bm n :=
  ⟨O.1.wr W, O.2.1.other W (Or.inl q), O.2.2.1.other W (Or.inl q), O.2.2.2.1.other W (Or.inl q), O.2.2.2.2⟩
/-- the marked places from i to n are places, and every place with a count is among them -/
def own_N (i n : Nat) (f : Nat → Int64) (g : Nat → Int32) : Prop := n ≤ 4 ∧ (∀ k, k < n → ∃ q, q < 4 ∧ g k = Int32.ofNat q) ∧ ∀ j, j < 4 → f j = 0 ∨ ∃ k, i ≤ k ∧ k < n ∧ g k = Int32.ofNat j
/-- a marking of n places (F: place 0 is marked) -/
def own_I (Z : State) (h : Heap) (a bc bm : Addr) (n : Nat) (F : Prop) : Prop := own_O Z h a bc bm (Int32.ofNat n) ∧ ∃ f g, own_J Z h bc f ∧ own_K Z h bm g ∧ own_N 0 n f g ∧ (F → ∃ k, k < n ∧ g k = 0)
theorem own_I.mono {Z : State} {h : Heap} {a bc bm : Addr} {n : Nat} {F G : Prop} (H : own_I Z h a bc bm n F) (q : G → F) : own_I Z h a bc bm n G :=
  let ⟨O, f, g, J, K, N, R⟩ := H; ⟨O, f, g, J, K, N, fun x => R (q x)⟩
theorem own_N.app {n : Nat} {f : Nat → Int64} {g : Nat → Int32} {x : Int64} {q : Nat} (N : own_N 0 n f g) (hn : n < 4) (hq : q < 4) : own_N 0 (n + 1) (own_set f q x) (own_set g n (Int32.ofNat q)) := by
  refine ⟨hn, fun k hk => ?_, fun j hj => ?_⟩
  · unfold own_set
    by_cases e : k = n
    · exact ⟨q, hq, if_pos e⟩
    · rw [if_neg e]; exact N.2.1 k (by omega)
  · by_cases e : j = q
    · exact Or.inr ⟨n, Nat.zero_le _, Nat.lt_succ_self _, by unfold own_set; rw [if_pos rfl, e]⟩
    · rcases N.2.2 j hj with r | ⟨k, r1, r2, r3⟩
      · exact Or.inl (by unfold own_set; rw [if_neg e]; exact r)
      · exact Or.inr ⟨k, r1, by omega, by unfold own_set; rw [if_neg (by omega)]; exact r3⟩
theorem own_N.step {i n : Nat} {f : Nat → Int64} {g : Nat → Int32} {q : Nat} (N : own_N i n f g) (hq : q < 4) (e : g i = Int32.ofNat q) : own_N (i + 1) n (own_set f q 0) g := by
  refine ⟨N.1, N.2.1, fun j hj => ?_⟩
  unfold own_set
  by_cases e2 : j = q
  · exact Or.inl (if_pos e2)
  · rw [if_neg e2]
    rcases N.2.2 j hj with r | ⟨k, r1, r2, r3⟩
    · exact Or.inl r
    · refine Or.inr ⟨k, ?_, r2, r3⟩
      have : k ≠ i := fun z => by subst z; exact e2 (own_inj ⟨j, hj⟩ ⟨q, hq⟩ (r3.symm.trans e))
      omega
theorem own_N.grow {n : Nat} {f : Nat → Int64} {g : Nat → Int32} {x : Int64} (N : own_N 0 n f g) (R : ∃ k, k < n ∧ g k = 0) : own_N 0 n (own_set f 0 x) g := by
  refine ⟨N.1, N.2.1, fun j hj => ?_⟩
  by_cases e : j = 0
  · obtain ⟨k, r1, r2⟩ := R
    exact Or.inr ⟨k, Nat.zero_le _, r1, by rw [e]; exact r2⟩
  · rcases N.2.2 j hj with r | r
    · exact Or.inl (by unfold own_set; rw [if_neg e]; exact r)
    · exact Or.inr r
theorem ef_7 (m : MethodId) (p1 : Int64) : entryFrame m #[(.long p1)] 4 = mkF m 0 #[.val (.long p1), .second, .unset, .unset] [] := by first | (simp [entryFrame, mkF, argsToLocals, Value.category, maxLocals]; done) | rfl
def Q7 (Z : State) (p1 : Int64)  (h0 : Heap) (n0 : Nat) (v : Option Value) (h : Heap) (L : List Loc) : Prop := ∃ z : Int64, v = some (.long z) ∧ Fr n0 L ∧ h = h0
set_option maxRecDepth 65536 in
set_option maxHeartbeats 40000000 in
theorem rm7 (l : Launch) (Z : State) (a0 : Array Value) (hw : ∀ d ∈ tables_1, d.before a0 Z = true) (ws : List Jvm.Cond) (p1 : Int64)  (h0 : Heap) (n0 : Nat) (Z0 : n0 ≤ h0.size)  :
    MetFree l (⟨"com/example/careful_nets/carefulnets/statespace/MarkingClearPinLaw", "pos", "(J)J"⟩ : MethodName) (head1 (Jvm.Cond.code (⟨"com/example/careful_nets/carefulnets/statespace/MarkingClearPinLaw", "pos", "(J)J"⟩ : MethodName) method_2_code 4 (some .long) :: ws) ({ frames := 0, cells := 0, slots := 0, locals := 0 } : Room)) (fun a U => a = #[(.long p1)] ∧ Z.Warmed39 U.vm ∧ U.heap = h0) (fun _ _ _ _ _ => True) (fun _ U o U' => ∃ v L, o = .returned v ∧ Q7 Z p1  h0 n0 v U'.heap L ∧ FrameEnd U o U' L ({ frames := 0, cells := 0, slots := 0, locals := 0 } : Room).cells ({ frames := 0, cells := 0, slots := 0, locals := 0 } : Room).slots) := by
  refine MetFree.of_bodySF pn_7 hisR ?_
  intro p e s m args below meth c s₁ Bd hml0 hP hK
  obtain ⟨rfl, hZ, hh⟩ := hP
  have hx := Bd.exec
  have hby := Bd.bytes
  have hml : c.maxLocals = 4 := hml0
  have hown : s.vm.findClass "com/example/careful_nets/carefulnets/statespace/MarkingClearPinLaw" = some m.cls := findClass_of_methodNamed Bd.named
  have hnm := (name_of_methodNamed Bd.named Bd.method).1
  have X0 : Stand p l e ({ frames := 0, cells := 0, slots := 0, locals := 0 } : Room) s m #[(.long p1)] below meth c s₁ [] 0 0 := Stand.of_body Bd
  have e0 : s₁.heap = h0 := by rw [← hh, Bd.state]; rfl
  have N0 := Fr.nil n0
  show Goes p.tables e below (Ends below s (Q7 Z p1  h0 n0) ({ frames := 0, cells := 0, slots := 0, locals := 0 } : Room).cells ({ frames := 0, cells := 0, slots := 0, locals := 0 } : Room).slots) (s₁.setTop (entryFrame m #[(.long p1)] 4))
  refine Goes.cast (ef_7 m p1) ?_
  refine Goes.st (fun _ k => XS.lloadN X0.here hx rfl (hb hby d7_0) rfl k) ?_
  show Goes _ _ _ _ (s₁.setTop (mkF m 1 #[.val (.long p1), .second, .unset, .unset] [(.long p1)]))
  refine Goes.st (X0.ldc2Long hx (v := (9223372036854775807 : Int64)) hown (mv hZ (hw _ (List.mem_of_getElem? (i := 41) rfl))) (g := (mkF m 1 #[.val (.long p1), .second, .unset, .unset] [(.long p1)])) rfl (hb hby d7_1)) ?_
  show Goes _ _ _ _ (s₁.setTop (mkF m 4 #[.val (.long p1), .second, .unset, .unset] [(.long (9223372036854775807 : Int64)), (.long p1)]))
  refine Goes.st (fun _ k => XS.land X0.here hx rfl (hb hby d7_4) rfl k) ?_
  show Goes _ _ _ _ (s₁.setTop (mkF m 5 #[.val (.long p1), .second, .unset, .unset] [(.long (p1 &&& (9223372036854775807 : Int64)))]))
  refine Goes.st (fun _ k => XS.lstoreN X0.here hx rfl (hb hby d7_5) rfl (l' := #[.val (.long p1), .second, .val (.long (p1 &&& (9223372036854775807 : Int64))), .second]) rfl k) ?_
  show Goes _ _ _ _ (s₁.setTop (mkF m 6 #[.val (.long p1), .second, .val (.long (p1 &&& (9223372036854775807 : Int64))), .second] []))
  refine Goes.st (fun _ k => XS.lloadN X0.here hx rfl (hb hby d7_6) rfl k) ?_
  show Goes _ _ _ _ (s₁.setTop (mkF m 7 #[.val (.long p1), .second, .val (.long (p1 &&& (9223372036854775807 : Int64))), .second] [(.long (p1 &&& (9223372036854775807 : Int64)))]))
  refine Goes.st (fun _ k => XS.lconst X0.here hx rfl (hb hby d7_7) k) ?_
  show Goes _ _ _ _ (s₁.setTop (mkF m 8 #[.val (.long p1), .second, .val (.long (p1 &&& (9223372036854775807 : Int64))), .second] [(.long (0 : Int64)), (.long (p1 &&& (9223372036854775807 : Int64)))]))
  refine Goes.st (fun _ k => XS.lcmp X0.here hx rfl (hb hby d7_8) rfl k) ?_
  show Goes _ _ _ _ (s₁.setTop (mkF m 9 #[.val (.long p1), .second, .val (.long (p1 &&& (9223372036854775807 : Int64))), .second] [(.int (lcmpW (p1 &&& (9223372036854775807 : Int64)) (0 : Int64)))]))
  by_cases hc9 : (lcmpW (p1 &&& (9223372036854775807 : Int64)) (0 : Int64)) = (0 : Int32)
  · skip
    refine Goes.st (fun _ k => XS.ifNo X0.here hx rfl (hb hby d7_9) rfl ((if0 _ _).trans (teq hc9).2) k) ?_
    show Goes _ _ _ _ (s₁.setTop (mkF m 12 #[.val (.long p1), .second, .val (.long (p1 &&& (9223372036854775807 : Int64))), .second] []))
    refine Goes.st (fun _ k => XS.lconst X0.here hx rfl (hb hby d7_12) k) ?_
    show Goes _ _ _ _ (s₁.setTop (mkF m 13 #[.val (.long p1), .second, .val (.long (p1 &&& (9223372036854775807 : Int64))), .second] [(.long (1 : Int64))]))
    refine Goes.st (fun _ k => XS.goto X0.here hx rfl (pc0 := 13) (pc' := 17) rfl (hb hby d7_13) (by decide) (by decide) k) ?_
    show Goes _ _ _ _ (s₁.setTop (mkF m 17 #[.val (.long p1), .second, .val (.long (p1 &&& (9223372036854775807 : Int64))), .second] [(.long (1 : Int64))]))
    exact leafJ X0 hx Bd.notSynchronized Bd.returns (hb hby d7_17) (by decide) (by decide) ⟨_, rfl, N0, e0⟩
  · skip
    refine Goes.st (fun _ k => XS.ifYes X0.here hx rfl (pc0 := 9) (pc' := 16) rfl (hb hby d7_9) rfl ((if0 _ _).trans (feq hc9).2) (by decide) (by decide) k) ?_
    show Goes _ _ _ _ (s₁.setTop (mkF m 16 #[.val (.long p1), .second, .val (.long (p1 &&& (9223372036854775807 : Int64))), .second] []))
    refine Goes.st (fun _ k => XS.lloadN X0.here hx rfl (hb hby d7_16) rfl k) ?_
    show Goes _ _ _ _ (s₁.setTop (mkF m 17 #[.val (.long p1), .second, .val (.long (p1 &&& (9223372036854775807 : Int64))), .second] [(.long (p1 &&& (9223372036854775807 : Int64)))]))
    exact leafJ X0 hx Bd.notSynchronized Bd.returns (hb hby d7_17) (by decide) (by decide) ⟨_, rfl, N0, e0⟩
theorem ef_1 (m : MethodId) (a1 : Addr) : entryFrame m #[(.ref a1), (.int (4 : Int32))] 2 = mkF m 0 #[.val (.ref a1), .val (.int (4 : Int32))] [] := by first | (simp [entryFrame, mkF, argsToLocals, Value.category, maxLocals]; done) | rfl
def Q1 (Z : State) (a1 : Addr)  (h0 : Heap) (n0 : Nat) (v : Option Value) (h : Heap) (L : List Loc) : Prop := v = none ∧ Fr n0 L ∧ h0.size ≤ h.size ∧ ∃ bc bm, h0.size ≤ bc ∧ h0.size ≤ bm ∧ own_I Z h a1 bc bm 0 False
set_option maxRecDepth 65536 in
set_option maxHeartbeats 40000000 in
theorem rm1 (l : Launch) (Z : State) (a0 : Array Value) (hw : ∀ d ∈ tables_1, d.before a0 Z = true) (ws : List Jvm.Cond) (a1 : Addr)  (h0 : Heap) (n0 : Nat) (Z0 : n0 ≤ h0.size) (E : Exa Z h0 a1 "com/example/careful_nets/carefulnets/statespace/Marking") (Fc : Fld Z h0 a1 "com/example/careful_nets/carefulnets/statespace/Marking" "counts" "[J" .null) (Fm : Fld Z h0 a1 "com/example/careful_nets/carefulnets/statespace/Marking" "marked" "[I" .null) (Fn : Fld Z h0 a1 "com/example/careful_nets/carefulnets/statespace/Marking" "markedCount" "I" (.int (0 : Int32))) (ga : n0 ≤ a1) :
    MetFree l (⟨"com/example/careful_nets/carefulnets/statespace/Marking", "<init>", "(I)V"⟩ : MethodName) (head1 (Jvm.Cond.code (⟨"com/example/careful_nets/carefulnets/statespace/Marking", "<init>", "(I)V"⟩ : MethodName) prog_77_method_1_code 2 none :: ws) ({ frames := 1, cells := 2, slots := 8, locals := 12 } : Room)) (fun a U => a = #[(.ref a1), (.int (4 : Int32))] ∧ Z.Warmed39 U.vm ∧ U.heap = h0) (fun _ _ _ _ _ => True) (fun _ U o U' => ∃ v L, o = .returned v ∧ Q1 Z a1  h0 n0 v U'.heap L ∧ FrameEnd U o U' L ({ frames := 1, cells := 2, slots := 8, locals := 12 } : Room).cells ({ frames := 1, cells := 2, slots := 8, locals := 12 } : Room).slots) := by
  refine MetFree.of_bodySF pn_1 hisR ?_
  intro p e s m args below meth c s₁ Bd hml0 hP hK
  obtain ⟨rfl, hZ, hh⟩ := hP
  have hx := Bd.exec
  have hby := Bd.bytes
  have hml : c.maxLocals = 2 := hml0
  have hown : s.vm.findClass "com/example/careful_nets/carefulnets/statespace/Marking" = some m.cls := findClass_of_methodNamed Bd.named
  have hnm := (name_of_methodNamed Bd.named Bd.method).1
  have X0 : Stand p l e ({ frames := 1, cells := 2, slots := 8, locals := 12 } : Room) s m #[(.ref a1), (.int (4 : Int32))] below meth c s₁ [] 0 0 := Stand.of_body Bd
  have e0 : s₁.heap = h0 := by rw [← hh, Bd.state]; rfl
  have N0 := Fr.nil n0
  show Goes p.tables e below (Ends below s (Q1 Z a1  h0 n0) ({ frames := 1, cells := 2, slots := 8, locals := 12 } : Room).cells ({ frames := 1, cells := 2, slots := 8, locals := 12 } : Room).slots) (s₁.setTop (entryFrame m #[(.ref a1), (.int (4 : Int32))] 2))
  refine Goes.cast (ef_1 m a1) ?_
  refine Goes.st (fun _ k => XS.aloadN X0.here hx rfl (hb hby d1_0) rfl rfl k) ?_
  show Goes _ _ _ _ (s₁.setTop (mkF m 1 #[.val (.ref a1), .val (.int (4 : Int32))] [(.ref a1)]))
  obtain ⟨T1, X1, e1, st1⟩ := initO X0 hx hZ hown (hw _ (List.mem_of_getElem? (i := 6) rfl)) (hw _ (List.mem_of_getElem? (i := 7) rfl)) (hw _ (List.mem_of_getElem? (i := 8) rfl)) e0 (g := (mkF m 1 #[.val (.ref a1), .val (.int (4 : Int32))] [(.ref a1)])) rfl (by rw [hml]; rfl) rfl (hb hby d1_1) (by decide) (W := 0) (by show 2 * 0 + _ ≤ _; exact Nat.le_of_eq rfl) (by decide)
  refine Goes.st st1 ?_
  show Goes _ _ _ _ (T1.setTop (mkF m 4 #[.val (.ref a1), .val (.int (4 : Int32))] []))
  refine Goes.st (fun _ k => XS.aloadN X1.here hx rfl (hb hby d1_4) rfl rfl k) ?_
  show Goes _ _ _ _ (T1.setTop (mkF m 5 #[.val (.ref a1), .val (.int (4 : Int32))] [(.ref a1)]))
  refine Goes.st (fun _ k => XS.iloadN X1.here hx rfl (hb hby d1_5) rfl k) ?_
  show Goes _ _ _ _ (T1.setTop (mkF m 6 #[.val (.ref a1), .val (.int (4 : Int32))] [(.int (4 : Int32)), (.ref a1)]))
  obtain ⟨T2, h2, k2, X2, e2, E2, A2, st2⟩ := newP X1 hx hZ (hw _ (List.mem_of_getElem? (i := 9) rfl)) e1 (g := (mkF m 6 #[.val (.ref a1), .val (.int (4 : Int32))] [(.int (4 : Int32)), (.ref a1)])) rfl (hb hby d1_6) rfl (by decide) (cap := 4) (by decide) (by decide) (by decide) (by decide)
  obtain ⟨b2, g2⟩ : ∃ z, z = (h0).size := ⟨_, rfl⟩
  rw [← g2] at A2 st2
  refine Goes.st st2 ?_
  show Goes _ _ _ _ (T2.setTop (mkF m 8 #[.val (.ref a1), .val (.int (4 : Int32))] [(.ref b2), (.ref a1)]))
  have J1 := own_J.new A2
  have ne1 : b2 ≠ a1 := fun q => Nat.lt_irrefl _ (Nat.lt_of_lt_of_le E.lt (Nat.le_of_eq (g2.symm.trans q)))
  have hE1 := E.ext E2
  obtain ⟨T3, h3, X3, e3, W3, st3⟩ := putF X2 hx hZ hown (host := "") (Or.inl (hw _ (List.mem_of_getElem? (i := 10) rfl))) Via.refl e2 (Fc.ext E2) hE1 (Or.inr ⟨(hw _ (List.mem_of_getElem? (i := 11) rfl)), rfl, hnm⟩) (hw _ (List.mem_of_getElem? (i := 1) rfl)) (ty := (.array .long)) (by decide) rfl rfl (g := (mkF m 8 #[.val (.ref a1), .val (.int (4 : Int32))] [(.ref b2), (.ref a1)])) rfl rfl (hb hby d1_8)
  refine Goes.st st3 ?_
  show Goes _ _ _ _ (T3.setTop (mkF m 11 #[.val (.ref a1), .val (.int (4 : Int32))] []))
  have N3 := Fr.snoc X3 N0 ga
  have hE2 := hE1.wr W3
  have J2 := J1.other W3 ne1
  have Fc2 := (Fc.ext E2).same W3
  have Fm2 := (Fm.ext E2).other W3 (Or.inr (slot_ne (Or.inr (hw _ (List.mem_of_getElem? (i := 14) rfl))) (Or.inr (hw _ (List.mem_of_getElem? (i := 11) rfl))) (by decide) (t := .array .int) (t' := .array .long) (by decide) (by decide) : Jvm.RoadKit.slotOf Z "com/example/careful_nets/carefulnets/statespace/Marking" "marked" "[I" ≠ Jvm.RoadKit.slotOf Z "com/example/careful_nets/carefulnets/statespace/Marking" "counts" "[J"))
  have Fn2 := (Fn.ext E2).other W3 (Or.inr (slot_ne (Or.inl (hw _ (List.mem_of_getElem? (i := 21) rfl))) (Or.inr (hw _ (List.mem_of_getElem? (i := 11) rfl))) (by decide) (t := .int) (t' := .array .long) (by decide) (by decide) : Jvm.RoadKit.slotOf Z "com/example/careful_nets/carefulnets/statespace/Marking" "markedCount" "I" ≠ Jvm.RoadKit.slotOf Z "com/example/careful_nets/carefulnets/statespace/Marking" "counts" "[J"))
  refine Goes.st (fun _ k => XS.aloadN X3.here hx rfl (hb hby d1_11) rfl rfl k) ?_
  show Goes _ _ _ _ (T3.setTop (mkF m 12 #[.val (.ref a1), .val (.int (4 : Int32))] [(.ref a1)]))
  refine Goes.st (fun _ k => XS.iloadN X3.here hx rfl (hb hby d1_12) rfl k) ?_
  show Goes _ _ _ _ (T3.setTop (mkF m 13 #[.val (.ref a1), .val (.int (4 : Int32))] [(.int (4 : Int32)), (.ref a1)]))
  obtain ⟨T4, h4, k4, X4, e4, E4, A4, st4⟩ := newP X3 hx hZ (hw _ (List.mem_of_getElem? (i := 12) rfl)) e3 (g := (mkF m 13 #[.val (.ref a1), .val (.int (4 : Int32))] [(.int (4 : Int32)), (.ref a1)])) rfl (hb hby d1_13) rfl (by decide) (cap := 4) (by decide) (by decide) (by decide) (by decide)
  obtain ⟨b4, g4⟩ : ∃ z, z = (h3).size := ⟨_, rfl⟩
  rw [← g4] at A4 st4
  refine Goes.st st4 ?_
  show Goes _ _ _ _ (T4.setTop (mkF m 15 #[.val (.ref a1), .val (.int (4 : Int32))] [(.ref b4), (.ref a1)]))
  have K3 := own_K.new A4
  have ne3 : b4 ≠ a1 := fun q => Nat.lt_irrefl _ (Nat.lt_of_lt_of_le hE2.lt (Nat.le_of_eq (g4.symm.trans q)))
  have lt3 : b2 < b4 := by
    obtain ⟨_, A, _⟩ := J2
    rw [g4]; exact A.lt
  obtain ⟨T5, h5, X5, e5, W5, st5⟩ := putF X4 hx hZ hown (host := "") (Or.inl (hw _ (List.mem_of_getElem? (i := 13) rfl))) Via.refl e4 (Fm2.ext E4) (hE2.ext E4) (Or.inr ⟨(hw _ (List.mem_of_getElem? (i := 14) rfl)), rfl, hnm⟩) (hw _ (List.mem_of_getElem? (i := 1) rfl)) (ty := (.array .int)) (by decide) rfl rfl (g := (mkF m 15 #[.val (.ref a1), .val (.int (4 : Int32))] [(.ref b4), (.ref a1)])) rfl rfl (hb hby d1_15)
  refine Goes.st st5 ?_
  show Goes _ _ _ _ (T5.setTop (mkF m 18 #[.val (.ref a1), .val (.int (4 : Int32))] []))
  have N5 := Fr.snoc X5 N3 ga
  have sz : h0.size ≤ h3.size := by rw [W3.size]; exact E2.1
  exact leafN X5 hx Bd.notSynchronized Bd.returns (hb hby d1_18) (by decide) (by decide) ⟨rfl, N5, by rw [e5, W5.size]; exact Nat.le_trans sz E4.1, b2, b4, Nat.le_of_eq g2.symm, Nat.le_trans sz (Nat.le_of_eq g4.symm), by rw [e5]; exact ⟨⟨(hE2.ext E4).wr W5, (Fc2.ext E4).other W5 (Or.inr (slot_ne (Or.inr (hw _ (List.mem_of_getElem? (i := 11) rfl))) (Or.inr (hw _ (List.mem_of_getElem? (i := 14) rfl))) (by decide) (t := .array .long) (t' := .array .int) (by decide) (by decide) : Jvm.RoadKit.slotOf Z "com/example/careful_nets/carefulnets/statespace/Marking" "counts" "[J" ≠ Jvm.RoadKit.slotOf Z "com/example/careful_nets/carefulnets/statespace/Marking" "marked" "[I")), (Fm2.ext E4).same W5, (Fn2.ext E4).other W5 (Or.inr (slot_ne (Or.inl (hw _ (List.mem_of_getElem? (i := 21) rfl))) (Or.inr (hw _ (List.mem_of_getElem? (i := 14) rfl))) (by decide) (t := .int) (t' := .array .int) (by decide) (by decide) : Jvm.RoadKit.slotOf Z "com/example/careful_nets/carefulnets/statespace/Marking" "markedCount" "I" ≠ Jvm.RoadKit.slotOf Z "com/example/careful_nets/carefulnets/statespace/Marking" "marked" "[I")), ne1, ne3, Nat.ne_of_lt lt3⟩, _, _, (J2.ext E4).other W5 ne1, K3.other W5 ne3, ⟨Nat.zero_le _, fun k hk => absurd hk (Nat.not_lt_zero k), fun j _ => Or.inl rfl⟩, fun q => q.elim⟩⟩
theorem ef_8 (m : MethodId) (a1 : Addr) (p2 : Int32) (p3 : Int64) : entryFrame m #[(.ref a1), (.int p2), (.long p3)] 4 = mkF m 0 #[.val (.ref a1), .val (.int p2), .val (.long p3), .second] [] := by first | (simp [entryFrame, mkF, argsToLocals, Value.category, maxLocals]; done) | rfl
def Q8 (Z : State) (a1 : Addr) (p2 : Int32) (p3 : Int64) (bc : Addr) (bm : Addr) (n : Nat) (q : Nat) (F : Prop) (h0 : Heap) (n0 : Nat) (v : Option Value) (h : Heap) (L : List Loc) : Prop := v = none ∧ Fr n0 L ∧ h0.size ≤ h.size ∧ own_I Z h a1 bc bm (n + 1) (F ∨ p2 = 0)
set_option maxRecDepth 65536 in
set_option maxHeartbeats 40000000 in
theorem rm8 (l : Launch) (Z : State) (a0 : Array Value) (hw : ∀ d ∈ tables_1, d.before a0 Z = true) (ws : List Jvm.Cond) (a1 : Addr) (p2 : Int32) (p3 : Int64) (bc : Addr) (bm : Addr) (n : Nat) (q : Nat) (F : Prop) (h0 : Heap) (n0 : Nat) (Z0 : n0 ≤ h0.size) (HI : own_I Z h0 a1 bc bm n F) (ga : n0 ≤ a1) (gc : n0 ≤ bc) (gm : n0 ≤ bm) (hn : n < 4) (hq : q < 4) (hp : p2 = Int32.ofNat q) :
    MetFree l (⟨"com/example/careful_nets/carefulnets/statespace/Marking", "append", "(IJ)V"⟩ : MethodName) (head1 (Jvm.Cond.code (⟨"com/example/careful_nets/carefulnets/statespace/Marking", "append", "(IJ)V"⟩ : MethodName) prog_77_method_7_code 4 none :: ws) ({ frames := 0, cells := 0, slots := 0, locals := 0 } : Room)) (fun a U => a = #[(.ref a1), (.int p2), (.long p3)] ∧ Z.Warmed39 U.vm ∧ U.heap = h0) (fun _ _ _ _ _ => True) (fun _ U o U' => ∃ v L, o = .returned v ∧ Q8 Z a1 p2 p3 bc bm n q F h0 n0 v U'.heap L ∧ FrameEnd U o U' L ({ frames := 0, cells := 0, slots := 0, locals := 0 } : Room).cells ({ frames := 0, cells := 0, slots := 0, locals := 0 } : Room).slots) := by
  refine MetFree.of_bodySF pn_8 hisR ?_
  intro p e s m args below meth c s₁ Bd hml0 hP hK
  obtain ⟨rfl, hZ, hh⟩ := hP
  have hx := Bd.exec
  have hby := Bd.bytes
  have hml : c.maxLocals = 4 := hml0
  have hown : s.vm.findClass "com/example/careful_nets/carefulnets/statespace/Marking" = some m.cls := findClass_of_methodNamed Bd.named
  have hnm := (name_of_methodNamed Bd.named Bd.method).1
  have X0 : Stand p l e ({ frames := 0, cells := 0, slots := 0, locals := 0 } : Room) s m #[(.ref a1), (.int p2), (.long p3)] below meth c s₁ [] 0 0 := Stand.of_body Bd
  have e0 : s₁.heap = h0 := by rw [← hh, Bd.state]; rfl
  have N0 := Fr.nil n0
  show Goes p.tables e below (Ends below s (Q8 Z a1 p2 p3 bc bm n q F h0 n0) ({ frames := 0, cells := 0, slots := 0, locals := 0 } : Room).cells ({ frames := 0, cells := 0, slots := 0, locals := 0 } : Room).slots) (s₁.setTop (entryFrame m #[(.ref a1), (.int p2), (.long p3)] 4))
  refine Goes.cast (ef_8 m a1 p2 p3) ?_
  obtain ⟨O, f, g, ⟨cl, Aj, Sj, Hj⟩, K, HN, HF⟩ := HI
  obtain ⟨E, Fc, Fm, Fn, nc, nm, ncm⟩ := id O
  have hq4 := own_in4 ⟨q, hq⟩
  have hqc := own_cl ⟨q, by omega⟩
  have hn4 := own_in4 ⟨n, hn⟩
  have hnc := own_cl ⟨n, by omega⟩
  refine Goes.st (fun _ k => XS.aloadN X0.here hx rfl (hb hby d8_0) rfl rfl k) ?_
  show Goes _ _ _ _ (s₁.setTop (mkF m 1 #[.val (.ref a1), .val (.int p2), .val (.long p3), .second] [(.ref a1)]))
  obtain ⟨T6, X6, e6, st6⟩ := getF X0 hx hZ hown (host := "") (Or.inl (hw _ (List.mem_of_getElem? (i := 10) rfl))) Via.refl e0 Fc (g := (mkF m 1 #[.val (.ref a1), .val (.int p2), .val (.long p3), .second] [(.ref a1)])) rfl rfl (hb hby d8_1)
  refine Goes.st st6 ?_
  show Goes _ _ _ _ (T6.setTop (mkF m 4 #[.val (.ref a1), .val (.int p2), .val (.long p3), .second] [(.ref bc)]))
  refine Goes.st (fun _ k => XS.iloadN X6.here hx rfl (hb hby d8_4) rfl k) ?_
  show Goes _ _ _ _ (T6.setTop (mkF m 5 #[.val (.ref a1), .val (.int p2), .val (.long p3), .second] [(.int p2), (.ref bc)]))
  refine Goes.st (fun _ k => XS.lloadN X6.here hx rfl (hb hby d8_5) rfl k) ?_
  show Goes _ _ _ _ (T6.setTop (mkF m 6 #[.val (.ref a1), .val (.int p2), .val (.long p3), .second] [(.long p3), (.int p2), (.ref bc)]))
  have hin : ¬ (p2 < 0 ∨ cl.slots.size ≤ p2.toNatClampNeg) := inb_of Sj (by rw [hp]; exact hq4)
  obtain ⟨T7, h7, X7, e7, W7, st7⟩ := stJ X6 hx hZ e6 Aj (j := p2) hin (g := (mkF m 6 #[.val (.ref a1), .val (.int p2), .val (.long p3), .second] [(.long p3), (.int p2), (.ref bc)])) rfl rfl (hb hby d8_6)
  refine Goes.st st7 ?_
  show Goes _ _ _ _ (T7.setTop (mkF m 7 #[.val (.ref a1), .val (.int p2), .val (.long p3), .second] []))
  have N7 := Fr.snoc X7 N0 gc
  have hW7 : Wr h0 h7 bc q (.long p3) := by have := W7; rw [hp, hqc] at this; exact this
  have J1 := own_J.set Aj Sj Hj hq hW7
  have K1 := K.other W7 ncm.symm
  have O1 := O.other W7 nc.symm
  refine Goes.st (fun _ k => XS.aloadN X7.here hx rfl (hb hby d8_7) rfl rfl k) ?_
  show Goes _ _ _ _ (T7.setTop (mkF m 8 #[.val (.ref a1), .val (.int p2), .val (.long p3), .second] [(.ref a1)]))
  obtain ⟨T8, X8, e8, st8⟩ := getF X7 hx hZ hown (host := "") (Or.inl (hw _ (List.mem_of_getElem? (i := 13) rfl))) Via.refl e7 O1.2.2.1 (g := (mkF m 8 #[.val (.ref a1), .val (.int p2), .val (.long p3), .second] [(.ref a1)])) rfl rfl (hb hby d8_8)
  refine Goes.st st8 ?_
  show Goes _ _ _ _ (T8.setTop (mkF m 11 #[.val (.ref a1), .val (.int p2), .val (.long p3), .second] [(.ref bm)]))
  refine Goes.st (fun _ k => XS.aloadN X8.here hx rfl (hb hby d8_11) rfl rfl k) ?_
  show Goes _ _ _ _ (T8.setTop (mkF m 12 #[.val (.ref a1), .val (.int p2), .val (.long p3), .second] [(.ref a1), (.ref bm)]))
  refine Goes.st (fun _ k => XS.dup X8.here hx rfl (hb hby d8_12) rfl rfl k) ?_
  show Goes _ _ _ _ (T8.setTop (mkF m 13 #[.val (.ref a1), .val (.int p2), .val (.long p3), .second] [(.ref a1), (.ref a1), (.ref bm)]))
  obtain ⟨T9, X9, e9, st9⟩ := getF X8 hx hZ hown (host := "") (Or.inl (hw _ (List.mem_of_getElem? (i := 20) rfl))) Via.refl e8 O1.2.2.2.1 (g := (mkF m 13 #[.val (.ref a1), .val (.int p2), .val (.long p3), .second] [(.ref a1), (.ref a1), (.ref bm)])) rfl rfl (hb hby d8_13)
  refine Goes.st st9 ?_
  show Goes _ _ _ _ (T9.setTop (mkF m 16 #[.val (.ref a1), .val (.int p2), .val (.long p3), .second] [(.int (Int32.ofNat n)), (.ref a1), (.ref bm)]))
  refine Goes.st (fun _ k => XS.dupX1 X9.here hx rfl (hb hby d8_16) rfl rfl rfl k) ?_
  show Goes _ _ _ _ (T9.setTop (mkF m 17 #[.val (.ref a1), .val (.int p2), .val (.long p3), .second] [(.int (Int32.ofNat n)), (.ref a1), (.int (Int32.ofNat n)), (.ref bm)]))
  refine Goes.st (fun _ k => XS.iconst X9.here hx rfl (hb hby d8_17) k) ?_
  show Goes _ _ _ _ (T9.setTop (mkF m 18 #[.val (.ref a1), .val (.int p2), .val (.long p3), .second] [(.int (1 : Int32)), (.int (Int32.ofNat n)), (.ref a1), (.int (Int32.ofNat n)), (.ref bm)]))
  refine Goes.st (fun _ k => XS.iadd X9.here hx rfl (hb hby d8_18) rfl k) ?_
  show Goes _ _ _ _ (T9.setTop (mkF m 19 #[.val (.ref a1), .val (.int p2), .val (.long p3), .second] [(.int ((Int32.ofNat n) + (1 : Int32))), (.ref a1), (.int (Int32.ofNat n)), (.ref bm)]))
  obtain ⟨T10, h10, X10, e10, W10, st10⟩ := putF X9 hx hZ hown (host := "") (Or.inl (hw _ (List.mem_of_getElem? (i := 20) rfl))) Via.refl e9 O1.2.2.2.1 O1.1 (Or.inl (hw _ (List.mem_of_getElem? (i := 21) rfl))) (hw _ (List.mem_of_getElem? (i := 1) rfl)) (ty := .int) (by decide) rfl rfl (g := (mkF m 19 #[.val (.ref a1), .val (.int p2), .val (.long p3), .second] [(.int ((Int32.ofNat n) + (1 : Int32))), (.ref a1), (.int (Int32.ofNat n)), (.ref bm)])) rfl rfl (hb hby d8_19)
  refine Goes.st st10 ?_
  show Goes _ _ _ _ (T10.setTop (mkF m 22 #[.val (.ref a1), .val (.int p2), .val (.long p3), .second] [(.int (Int32.ofNat n)), (.ref bm)]))
  have N10 := Fr.snoc X10 N7 ga
  have O2 : own_O Z h10 a1 bc bm (Int32.ofNat (n + 1)) := ⟨O1.1.wr W10, O1.2.1.other W10 (Or.inr (slot_ne (Or.inr (hw _ (List.mem_of_getElem? (i := 11) rfl))) (Or.inl (hw _ (List.mem_of_getElem? (i := 21) rfl))) (by decide) (t := .array .long) (t' := .int) (by decide) (by decide) : Jvm.RoadKit.slotOf Z "com/example/careful_nets/carefulnets/statespace/Marking" "counts" "[J" ≠ Jvm.RoadKit.slotOf Z "com/example/careful_nets/carefulnets/statespace/Marking" "markedCount" "I")), O1.2.2.1.other W10 (Or.inr (slot_ne (Or.inr (hw _ (List.mem_of_getElem? (i := 14) rfl))) (Or.inl (hw _ (List.mem_of_getElem? (i := 21) rfl))) (by decide) (t := .array .int) (t' := .int) (by decide) (by decide) : Jvm.RoadKit.slotOf Z "com/example/careful_nets/carefulnets/statespace/Marking" "marked" "[I" ≠ Jvm.RoadKit.slotOf Z "com/example/careful_nets/carefulnets/statespace/Marking" "markedCount" "I")), by rw [← own_up ⟨n, by omega⟩]; exact O1.2.2.2.1.same W10, nc, nm, ncm⟩
  obtain ⟨cl2, Ak, Sk, Hk⟩ := K1.other W10 nm
  have J2 := J1.other W10 nc
  refine Goes.st (fun _ k => XS.iloadN X10.here hx rfl (hb hby d8_22) rfl k) ?_
  show Goes _ _ _ _ (T10.setTop (mkF m 23 #[.val (.ref a1), .val (.int p2), .val (.long p3), .second] [(.int p2), (.int (Int32.ofNat n)), (.ref bm)]))
  have hin2 : ¬ (Int32.ofNat n < 0 ∨ cl2.slots.size ≤ (Int32.ofNat n).toNatClampNeg) := inb_of Sk hn4
  obtain ⟨T11, h11, X11, e11, W11, st11⟩ := stI X10 hx hZ e10 Ak (j := (Int32.ofNat n)) hin2 (g := (mkF m 23 #[.val (.ref a1), .val (.int p2), .val (.long p3), .second] [(.int p2), (.int (Int32.ofNat n)), (.ref bm)])) rfl rfl (hb hby d8_23)
  refine Goes.st st11 ?_
  show Goes _ _ _ _ (T11.setTop (mkF m 24 #[.val (.ref a1), .val (.int p2), .val (.long p3), .second] []))
  have N11 := Fr.snoc X11 N10 gm
  have hW11 : Wr h10 h11 bm n (.int (Int32.ofNat q)) := by have := W11; rw [hp, hnc] at this; exact this
  have K3 := own_K.set Ak Sk Hk hn hW11
  exact leafN X11 hx Bd.notSynchronized Bd.returns (hb hby d8_24) (by decide) (by decide) ⟨rfl, N11, by rw [e11, W11.size, W10.size, W7.size]; exact Nat.le_refl _, by rw [e11]; exact ⟨O2.other W11 nm.symm, _, _, J2.other W11 ncm, K3, HN.app hn hq, fun r => r.elim (fun r => let ⟨k, r1, r2⟩ := HF r; ⟨k, by omega, by unfold own_set; rw [if_neg (by omega)]; exact r2⟩) (fun r => ⟨n, Nat.lt_succ_self _, by unfold own_set; rw [if_pos rfl, ← hp]; exact r⟩)⟩⟩
theorem ef_9 (m : MethodId) (a1 : Addr) : entryFrame m #[(.ref a1), (.int (0 : Int32))] 2 = mkF m 0 #[.val (.ref a1), .val (.int (0 : Int32))] [] := by first | (simp [entryFrame, mkF, argsToLocals, Value.category, maxLocals]; done) | rfl
def Q9 (Z : State) (a1 : Addr) (bc : Addr) (bm : Addr) (n : Nat) (F : Prop) (h0 : Heap) (n0 : Nat) (v : Option Value) (h : Heap) (L : List Loc) : Prop := v = none ∧ Fr n0 L ∧ h0.size ≤ h.size ∧ own_I Z h a1 bc bm n F
set_option maxRecDepth 65536 in
set_option maxHeartbeats 40000000 in
theorem rm9 (l : Launch) (Z : State) (a0 : Array Value) (hw : ∀ d ∈ tables_1, d.before a0 Z = true) (ws : List Jvm.Cond) (a1 : Addr) (bc : Addr) (bm : Addr) (n : Nat) (F : Prop) (h0 : Heap) (n0 : Nat) (Z0 : n0 ≤ h0.size) (HI : own_I Z h0 a1 bc bm n F) (ga : n0 ≤ a1) (gc : n0 ≤ bc) (gm : n0 ≤ bm) (hF : F) :
    MetFree l (⟨"com/example/careful_nets/carefulnets/statespace/Marking", "growWithoutEnd", "(I)V"⟩ : MethodName) (head1 (Jvm.Cond.code (⟨"com/example/careful_nets/carefulnets/statespace/Marking", "growWithoutEnd", "(I)V"⟩ : MethodName) prog_77_method_8_code 2 none :: ws) ({ frames := 0, cells := 0, slots := 0, locals := 0 } : Room)) (fun a U => a = #[(.ref a1), (.int (0 : Int32))] ∧ Z.Warmed39 U.vm ∧ U.heap = h0) (fun _ _ _ _ _ => True) (fun _ U o U' => ∃ v L, o = .returned v ∧ Q9 Z a1 bc bm n F h0 n0 v U'.heap L ∧ FrameEnd U o U' L ({ frames := 0, cells := 0, slots := 0, locals := 0 } : Room).cells ({ frames := 0, cells := 0, slots := 0, locals := 0 } : Room).slots) := by
  refine MetFree.of_bodySF pn_9 hisR ?_
  intro p e s m args below meth c s₁ Bd hml0 hP hK
  obtain ⟨rfl, hZ, hh⟩ := hP
  have hx := Bd.exec
  have hby := Bd.bytes
  have hml : c.maxLocals = 2 := hml0
  have hown : s.vm.findClass "com/example/careful_nets/carefulnets/statespace/Marking" = some m.cls := findClass_of_methodNamed Bd.named
  have hnm := (name_of_methodNamed Bd.named Bd.method).1
  have X0 : Stand p l e ({ frames := 0, cells := 0, slots := 0, locals := 0 } : Room) s m #[(.ref a1), (.int (0 : Int32))] below meth c s₁ [] 0 0 := Stand.of_body Bd
  have e0 : s₁.heap = h0 := by rw [← hh, Bd.state]; rfl
  have N0 := Fr.nil n0
  show Goes p.tables e below (Ends below s (Q9 Z a1 bc bm n F h0 n0) ({ frames := 0, cells := 0, slots := 0, locals := 0 } : Room).cells ({ frames := 0, cells := 0, slots := 0, locals := 0 } : Room).slots) (s₁.setTop (entryFrame m #[(.ref a1), (.int (0 : Int32))] 2))
  refine Goes.cast (ef_9 m a1) ?_
  obtain ⟨O, f, g, ⟨cl, Aj, Sj, Hj⟩, K, HN, HF⟩ := HI
  obtain ⟨E, Fc, Fm, Fn, nc, nm, ncm⟩ := id O
  refine Goes.st (fun _ k => XS.aloadN X0.here hx rfl (hb hby d9_0) rfl rfl k) ?_
  show Goes _ _ _ _ (s₁.setTop (mkF m 1 #[.val (.ref a1), .val (.int (0 : Int32))] [(.ref a1)]))
  obtain ⟨T12, X12, e12, st12⟩ := getF X0 hx hZ hown (host := "") (Or.inl (hw _ (List.mem_of_getElem? (i := 10) rfl))) Via.refl e0 Fc (g := (mkF m 1 #[.val (.ref a1), .val (.int (0 : Int32))] [(.ref a1)])) rfl rfl (hb hby d9_1)
  refine Goes.st st12 ?_
  show Goes _ _ _ _ (T12.setTop (mkF m 4 #[.val (.ref a1), .val (.int (0 : Int32))] [(.ref bc)]))
  refine Goes.st (fun _ k => XS.iloadN X12.here hx rfl (hb hby d9_4) rfl k) ?_
  show Goes _ _ _ _ (T12.setTop (mkF m 5 #[.val (.ref a1), .val (.int (0 : Int32))] [(.int (0 : Int32)), (.ref bc)]))
  refine Goes.st (X12.ldc2Long hx (v := (9223372036854775807 : Int64)) hown (mv hZ (hw _ (List.mem_of_getElem? (i := 52) rfl))) (g := (mkF m 5 #[.val (.ref a1), .val (.int (0 : Int32))] [(.int (0 : Int32)), (.ref bc)])) rfl (hb hby d9_5)) ?_
  show Goes _ _ _ _ (T12.setTop (mkF m 8 #[.val (.ref a1), .val (.int (0 : Int32))] [(.long (9223372036854775807 : Int64)), (.int (0 : Int32)), (.ref bc)]))
  have hin : ¬ ((0 : Int32) < 0 ∨ cl.slots.size ≤ (0 : Int32).toNatClampNeg) := inb_of Sj (by decide)
  obtain ⟨T13, h13, X13, e13, W13, st13⟩ := stJ X12 hx hZ e12 Aj (j := (0 : Int32)) hin (g := (mkF m 8 #[.val (.ref a1), .val (.int (0 : Int32))] [(.long (9223372036854775807 : Int64)), (.int (0 : Int32)), (.ref bc)])) rfl rfl (hb hby d9_8)
  refine Goes.st st13 ?_
  show Goes _ _ _ _ (T13.setTop (mkF m 9 #[.val (.ref a1), .val (.int (0 : Int32))] []))
  have N13 := Fr.snoc X13 N0 gc
  exact leafN X13 hx Bd.notSynchronized Bd.returns (hb hby d9_9) (by decide) (by decide) ⟨rfl, N13, by rw [e13, W13.size]; exact Nat.le_refl _, by rw [e13]; exact ⟨O.other W13 nc.symm, _, _, own_J.set Aj Sj Hj (k := 0) (by decide) W13, K.other W13 ncm.symm, HN.grow (HF hF), HF⟩⟩
theorem ef_3 (m : MethodId) (a1 : Addr) : entryFrame m #[(.ref a1)] 2 = mkF m 0 #[.val (.ref a1), .unset] [] := by first | (simp [entryFrame, mkF, argsToLocals, Value.category, maxLocals]; done) | rfl
def Q3 (Z : State) (a1 : Addr) (bc : Addr) (bm : Addr) (n : Nat) (F : Prop) (h0 : Heap) (n0 : Nat) (v : Option Value) (h : Heap) (L : List Loc) : Prop := v = none ∧ Fr n0 L ∧ h0.size ≤ h.size ∧ own_I Z h a1 bc bm 0 False
set_option maxRecDepth 65536 in
set_option maxHeartbeats 40000000 in
theorem rm3 (l : Launch) (Z : State) (a0 : Array Value) (hw : ∀ d ∈ tables_1, d.before a0 Z = true) (ws : List Jvm.Cond) (a1 : Addr) (bc : Addr) (bm : Addr) (n : Nat) (F : Prop) (h0 : Heap) (n0 : Nat) (Z0 : n0 ≤ h0.size) (HI : own_I Z h0 a1 bc bm n F) (ga : n0 ≤ a1) (gc : n0 ≤ bc) (gm : n0 ≤ bm) :
    MetFree l (⟨"com/example/careful_nets/carefulnets/statespace/Marking", "clear", "()V"⟩ : MethodName) (head1 (Jvm.Cond.code (⟨"com/example/careful_nets/carefulnets/statespace/Marking", "clear", "()V"⟩ : MethodName) prog_77_method_6_code 2 none :: ws) ({ frames := 0, cells := 0, slots := 0, locals := 0 } : Room)) (fun a U => a = #[(.ref a1)] ∧ Z.Warmed39 U.vm ∧ U.heap = h0) (fun _ _ _ _ _ => True) (fun _ U o U' => ∃ v L, o = .returned v ∧ Q3 Z a1 bc bm n F h0 n0 v U'.heap L ∧ FrameEnd U o U' L ({ frames := 0, cells := 0, slots := 0, locals := 0 } : Room).cells ({ frames := 0, cells := 0, slots := 0, locals := 0 } : Room).slots) := by
  refine MetFree.of_bodySF pn_3 hisR ?_
  intro p e s m args below meth c s₁ Bd hml0 hP hK
  obtain ⟨rfl, hZ, hh⟩ := hP
  have hx := Bd.exec
  have hby := Bd.bytes
  have hml : c.maxLocals = 2 := hml0
  have hown : s.vm.findClass "com/example/careful_nets/carefulnets/statespace/Marking" = some m.cls := findClass_of_methodNamed Bd.named
  have hnm := (name_of_methodNamed Bd.named Bd.method).1
  have X0 : Stand p l e ({ frames := 0, cells := 0, slots := 0, locals := 0 } : Room) s m #[(.ref a1)] below meth c s₁ [] 0 0 := Stand.of_body Bd
  have e0 : s₁.heap = h0 := by rw [← hh, Bd.state]; rfl
  have N0 := Fr.nil n0
  show Goes p.tables e below (Ends below s (Q3 Z a1 bc bm n F h0 n0) ({ frames := 0, cells := 0, slots := 0, locals := 0 } : Room).cells ({ frames := 0, cells := 0, slots := 0, locals := 0 } : Room).slots) (s₁.setTop (entryFrame m #[(.ref a1)] 2))
  refine Goes.cast (ef_3 m a1) ?_
  obtain ⟨O0, f0, g, J0, K0, HN0, -⟩ := HI
  have hn4 : n ≤ 4 := HN0.1
  have loop : ∀ (k i : Nat), i + k = n → ∀ (T : State) (locs : List Loc) (X : Stand p l e ({ frames := 0, cells := 0, slots := 0, locals := 0 } : Room) s m #[(.ref a1)] below meth c T locs 0 0) (N : Fr n0 locs) (f : Nat → Int64), h0.size ≤ T.heap.size → own_O Z T.heap a1 bc bm (Int32.ofNat n) → own_J Z T.heap bc f → own_K Z T.heap bm g → own_N i n f g → Goes p.tables e below (Ends below s (Q3 Z a1 bc bm n F h0 n0) ({ frames := 0, cells := 0, slots := 0, locals := 0 } : Room).cells ({ frames := 0, cells := 0, slots := 0, locals := 0 } : Room).slots) (T.setTop (mkF m 2 #[.val (.ref a1), .val (.int (Int32.ofNat i))] [])) := by
    intro k
    induction k with
    | zero =>
      intro i hi T locs X N f hsz O J K HN
      have hc : ¬ (Int32.ofNat i < Int32.ofNat n) := fun q => by have := (own_lt (by omega) hn4).mp q; omega
      refine Goes.st (fun _ k => XS.iloadN X.here hx rfl (hb hby d3_2) rfl k) ?_
      show Goes _ _ _ _ (T.setTop (mkF m 3 #[.val (.ref a1), .val (.int (Int32.ofNat i))] [(.int (Int32.ofNat i))]))
      refine Goes.st (fun _ k => XS.aloadN X.here hx rfl (hb hby d3_3) rfl rfl k) ?_
      show Goes _ _ _ _ (T.setTop (mkF m 4 #[.val (.ref a1), .val (.int (Int32.ofNat i))] [(.ref a1), (.int (Int32.ofNat i))]))
      obtain ⟨T14, X14, e14, st14⟩ := getF X hx hZ hown (host := "") (Or.inl (hw _ (List.mem_of_getElem? (i := 20) rfl))) Via.refl rfl O.2.2.2.1 (g := (mkF m 4 #[.val (.ref a1), .val (.int (Int32.ofNat i))] [(.ref a1), (.int (Int32.ofNat i))])) rfl rfl (hb hby d3_4)
      refine Goes.st st14 ?_
      show Goes _ _ _ _ (T14.setTop (mkF m 7 #[.val (.ref a1), .val (.int (Int32.ofNat i))] [(.int (Int32.ofNat n)), (.int (Int32.ofNat i))]))
      refine Goes.st (fun _ k => XS.icmpYes X14.here hx rfl (pc0 := 7) (pc' := 28) rfl (hb hby d3_7) rfl (flt hc).2.1 (by decide) (by decide) k) ?_
      show Goes _ _ _ _ (T14.setTop (mkF m 28 #[.val (.ref a1), .val (.int (Int32.ofNat i))] []))
      refine Goes.st (fun _ k => XS.aloadN X14.here hx rfl (hb hby d3_28) rfl rfl k) ?_
      show Goes _ _ _ _ (T14.setTop (mkF m 29 #[.val (.ref a1), .val (.int (Int32.ofNat i))] [(.ref a1)]))
      refine Goes.st (fun _ k => XS.iconst X14.here hx rfl (hb hby d3_29) k) ?_
      show Goes _ _ _ _ (T14.setTop (mkF m 30 #[.val (.ref a1), .val (.int (Int32.ofNat i))] [(.int (0 : Int32)), (.ref a1)]))
      obtain ⟨T15, h15, X15, e15, W15, st15⟩ := putF X14 hx hZ hown (host := "") (Or.inl (hw _ (List.mem_of_getElem? (i := 20) rfl))) Via.refl e14 O.2.2.2.1 O.1 (Or.inl (hw _ (List.mem_of_getElem? (i := 21) rfl))) (hw _ (List.mem_of_getElem? (i := 1) rfl)) (ty := .int) (by decide) rfl rfl (g := (mkF m 30 #[.val (.ref a1), .val (.int (Int32.ofNat i))] [(.int (0 : Int32)), (.ref a1)])) rfl rfl (hb hby d3_30)
      refine Goes.st st15 ?_
      show Goes _ _ _ _ (T15.setTop (mkF m 33 #[.val (.ref a1), .val (.int (Int32.ofNat i))] []))
      have N15 := Fr.snoc X15 N ga
      exact leafN X15 hx Bd.notSynchronized Bd.returns (hb hby d3_33) (by decide) (by decide) ⟨rfl, N15, by rw [e15, W15.size]; exact hsz, by rw [e15]; exact ⟨⟨O.1.wr W15, O.2.1.other W15 (Or.inr (slot_ne (Or.inr (hw _ (List.mem_of_getElem? (i := 11) rfl))) (Or.inl (hw _ (List.mem_of_getElem? (i := 21) rfl))) (by decide) (t := .array .long) (t' := .int) (by decide) (by decide) : Jvm.RoadKit.slotOf Z "com/example/careful_nets/carefulnets/statespace/Marking" "counts" "[J" ≠ Jvm.RoadKit.slotOf Z "com/example/careful_nets/carefulnets/statespace/Marking" "markedCount" "I")), O.2.2.1.other W15 (Or.inr (slot_ne (Or.inr (hw _ (List.mem_of_getElem? (i := 14) rfl))) (Or.inl (hw _ (List.mem_of_getElem? (i := 21) rfl))) (by decide) (t := .array .int) (t' := .int) (by decide) (by decide) : Jvm.RoadKit.slotOf Z "com/example/careful_nets/carefulnets/statespace/Marking" "marked" "[I" ≠ Jvm.RoadKit.slotOf Z "com/example/careful_nets/carefulnets/statespace/Marking" "markedCount" "I")), O.2.2.2.1.same W15, O.2.2.2.2⟩, f, g, J.other W15 O.2.2.2.2.1, K.other W15 O.2.2.2.2.2.1, ⟨Nat.zero_le _, fun k hk => absurd hk (Nat.not_lt_zero k), fun j hj => (HN.2.2 j hj).elim Or.inl (fun ⟨k, r1, r2, _⟩ => absurd r2 (by omega))⟩, fun q => q.elim⟩⟩
    | succ k ih =>
      intro i hi T locs X N f hsz O J K HN
      have hc : Int32.ofNat i < Int32.ofNat n := (own_lt (by omega) hn4).mpr (by omega)
      obtain ⟨q, hq, hgq⟩ := HN.2.1 i (by omega)
      obtain ⟨cl, Aj, Sj, Hj⟩ := id J
      obtain ⟨cl2, Ak, Sk, Hk⟩ := id K
      have hi4 := own_in4 ⟨i, by omega⟩
      have hic : (Int32.ofNat i).toNatClampNeg = i := own_cl ⟨i, by omega⟩
      have hq4 := own_in4 ⟨q, hq⟩
      have hqc : (Int32.ofNat q).toNatClampNeg = q := own_cl ⟨q, by omega⟩
      refine Goes.st (fun _ k => XS.iloadN X.here hx rfl (hb hby d3_2) rfl k) ?_
      show Goes _ _ _ _ (T.setTop (mkF m 3 #[.val (.ref a1), .val (.int (Int32.ofNat i))] [(.int (Int32.ofNat i))]))
      refine Goes.st (fun _ k => XS.aloadN X.here hx rfl (hb hby d3_3) rfl rfl k) ?_
      show Goes _ _ _ _ (T.setTop (mkF m 4 #[.val (.ref a1), .val (.int (Int32.ofNat i))] [(.ref a1), (.int (Int32.ofNat i))]))
      obtain ⟨T16, X16, e16, st16⟩ := getF X hx hZ hown (host := "") (Or.inl (hw _ (List.mem_of_getElem? (i := 20) rfl))) Via.refl rfl O.2.2.2.1 (g := (mkF m 4 #[.val (.ref a1), .val (.int (Int32.ofNat i))] [(.ref a1), (.int (Int32.ofNat i))])) rfl rfl (hb hby d3_4)
      refine Goes.st st16 ?_
      show Goes _ _ _ _ (T16.setTop (mkF m 7 #[.val (.ref a1), .val (.int (Int32.ofNat i))] [(.int (Int32.ofNat n)), (.int (Int32.ofNat i))]))
      refine Goes.st (fun _ k => XS.icmpNo X16.here hx rfl (hb hby d3_7) rfl (tlt hc).2.1 k) ?_
      show Goes _ _ _ _ (T16.setTop (mkF m 10 #[.val (.ref a1), .val (.int (Int32.ofNat i))] []))
      refine Goes.st (fun _ k => XS.aloadN X16.here hx rfl (hb hby d3_10) rfl rfl k) ?_
      show Goes _ _ _ _ (T16.setTop (mkF m 11 #[.val (.ref a1), .val (.int (Int32.ofNat i))] [(.ref a1)]))
      obtain ⟨T17, X17, e17, st17⟩ := getF X16 hx hZ hown (host := "") (Or.inl (hw _ (List.mem_of_getElem? (i := 10) rfl))) Via.refl e16 O.2.1 (g := (mkF m 11 #[.val (.ref a1), .val (.int (Int32.ofNat i))] [(.ref a1)])) rfl rfl (hb hby d3_11)
      refine Goes.st st17 ?_
      show Goes _ _ _ _ (T17.setTop (mkF m 14 #[.val (.ref a1), .val (.int (Int32.ofNat i))] [(.ref bc)]))
      refine Goes.st (fun _ k => XS.aloadN X17.here hx rfl (hb hby d3_14) rfl rfl k) ?_
      show Goes _ _ _ _ (T17.setTop (mkF m 15 #[.val (.ref a1), .val (.int (Int32.ofNat i))] [(.ref a1), (.ref bc)]))
      obtain ⟨T18, X18, e18, st18⟩ := getF X17 hx hZ hown (host := "") (Or.inl (hw _ (List.mem_of_getElem? (i := 13) rfl))) Via.refl e17 O.2.2.1 (g := (mkF m 15 #[.val (.ref a1), .val (.int (Int32.ofNat i))] [(.ref a1), (.ref bc)])) rfl rfl (hb hby d3_15)
      refine Goes.st st18 ?_
      show Goes _ _ _ _ (T18.setTop (mkF m 18 #[.val (.ref a1), .val (.int (Int32.ofNat i))] [(.ref bm), (.ref bc)]))
      refine Goes.st (fun _ k => XS.iloadN X18.here hx rfl (hb hby d3_18) rfl k) ?_
      show Goes _ _ _ _ (T18.setTop (mkF m 19 #[.val (.ref a1), .val (.int (Int32.ofNat i))] [(.int (Int32.ofNat i)), (.ref bm), (.ref bc)]))
      have hin2 : ¬ (Int32.ofNat i < 0 ∨ cl2.slots.size ≤ (Int32.ofNat i).toNatClampNeg) := inb_of Sk hi4
      refine Goes.st (X18.iaload hx (by rw [e18]; exact Ak.1) (State.isArrayOf_alike hZ.alike Ak.2.1) Ak.2.2 hin2 (by rw [hic, Hk i (by omega), hgq]) (g := (mkF m 19 #[.val (.ref a1), .val (.int (Int32.ofNat i))] [(.int (Int32.ofNat i)), (.ref bm), (.ref bc)])) rfl rfl (hb hby d3_19)) ?_
      show Goes _ _ _ _ (T18.setTop (mkF m 20 #[.val (.ref a1), .val (.int (Int32.ofNat i))] [(.int (Int32.ofNat q)), (.ref bc)]))
      refine Goes.st (fun _ k => XS.lconst X18.here hx rfl (hb hby d3_20) k) ?_
      show Goes _ _ _ _ (T18.setTop (mkF m 21 #[.val (.ref a1), .val (.int (Int32.ofNat i))] [(.long (0 : Int64)), (.int (Int32.ofNat q)), (.ref bc)]))
      have hin : ¬ (Int32.ofNat q < 0 ∨ cl.slots.size ≤ (Int32.ofNat q).toNatClampNeg) := inb_of Sj hq4
      obtain ⟨T19, h19, X19, e19, W19, st19⟩ := stJ X18 hx hZ e18 Aj (j := (Int32.ofNat q)) hin (g := (mkF m 21 #[.val (.ref a1), .val (.int (Int32.ofNat i))] [(.long (0 : Int64)), (.int (Int32.ofNat q)), (.ref bc)])) rfl rfl (hb hby d3_21)
      refine Goes.st st19 ?_
      show Goes _ _ _ _ (T19.setTop (mkF m 22 #[.val (.ref a1), .val (.int (Int32.ofNat i))] []))
      have N19 := Fr.snoc X19 N gc
      have hW19 : Wr T.heap h19 bc q (.long 0) := by have := W19; rw [hqc] at this; exact this
      refine Goes.st (fun _ k => XS.iinc X19.here hx rfl (hb hby d3_22) rfl (l' := #[.val (.ref a1), .val (.int ((Int32.ofNat i) + (1 : Int32)))]) rfl k) ?_
      show Goes _ _ _ _ (T19.setTop (mkF m 25 #[.val (.ref a1), .val (.int ((Int32.ofNat i) + (1 : Int32)))] []))
      rw [own_up ⟨i, by omega⟩]
      show Goes _ _ _ _ (T19.setTop (mkF m 25 #[.val (.ref a1), .val (.int (Int32.ofNat (i + 1)))] []))
      refine Goes.st (fun _ k => XS.goto X19.here hx rfl (pc0 := 25) (pc' := 2) rfl (hb hby d3_25) (by decide) (by decide) k) ?_
      show Goes _ _ _ _ (T19.setTop (mkF m 2 #[.val (.ref a1), .val (.int (Int32.ofNat (i + 1)))] []))
      subst e19
      exact ih (i + 1) (by omega) _ _ X19 N19 _ (by rw [W19.size]; exact hsz) (O.other W19 O.2.2.2.2.1.symm) (own_J.set Aj Sj Hj hq hW19) (K.other W19 O.2.2.2.2.2.2.symm) (HN.step hq hgq)
  refine Goes.st (fun _ k => XS.iconst X0.here hx rfl (hb hby d3_0) k) ?_
  show Goes _ _ _ _ (s₁.setTop (mkF m 1 #[.val (.ref a1), .unset] [(.int (0 : Int32))]))
  refine Goes.st (fun _ k => XS.istoreN X0.here hx rfl (hb hby d3_1) rfl (l' := #[.val (.ref a1), .val (.int (0 : Int32))]) rfl k) ?_
  show Goes _ _ _ _ (s₁.setTop (mkF m 2 #[.val (.ref a1), .val (.int (0 : Int32))] []))
  exact loop n 0 (by omega) _ _ X0 N0 f0 (by rw [e0]; exact Nat.le_refl _) (by rw [e0]; exact O0) (by rw [e0]; exact J0) (by rw [e0]; exact K0) HN0
theorem ef_4 (m : MethodId) (a1 : Addr) : entryFrame m #[(.ref a1)] 1 = mkF m 0 #[.val (.ref a1)] [] := by first | (simp [entryFrame, mkF, argsToLocals, Value.category, maxLocals]; done) | rfl
def Q4 (Z : State) (a1 : Addr) (bc : Addr) (bm : Addr) (h0 : Heap) (n0 : Nat) (v : Option Value) (h : Heap) (L : List Loc) : Prop := v = some (.int (0 : Int32)) ∧ Fr n0 L ∧ h = h0
set_option maxRecDepth 65536 in
set_option maxHeartbeats 40000000 in
theorem rm4 (l : Launch) (Z : State) (a0 : Array Value) (hw : ∀ d ∈ tables_1, d.before a0 Z = true) (ws : List Jvm.Cond) (a1 : Addr) (bc : Addr) (bm : Addr) (h0 : Heap) (n0 : Nat) (Z0 : n0 ≤ h0.size) (HI : own_I Z h0 a1 bc bm 0 False) :
    MetFree l (⟨"com/example/careful_nets/carefulnets/statespace/Marking", "markedCount", "()I"⟩ : MethodName) (head1 (Jvm.Cond.code (⟨"com/example/careful_nets/carefulnets/statespace/Marking", "markedCount", "()I"⟩ : MethodName) prog_77_method_3_code 1 (some .int) :: ws) ({ frames := 0, cells := 0, slots := 0, locals := 0 } : Room)) (fun a U => a = #[(.ref a1)] ∧ Z.Warmed39 U.vm ∧ U.heap = h0) (fun _ _ _ _ _ => True) (fun _ U o U' => ∃ v L, o = .returned v ∧ Q4 Z a1 bc bm h0 n0 v U'.heap L ∧ FrameEnd U o U' L ({ frames := 0, cells := 0, slots := 0, locals := 0 } : Room).cells ({ frames := 0, cells := 0, slots := 0, locals := 0 } : Room).slots) := by
  refine MetFree.of_bodySF pn_4 hisR ?_
  intro p e s m args below meth c s₁ Bd hml0 hP hK
  obtain ⟨rfl, hZ, hh⟩ := hP
  have hx := Bd.exec
  have hby := Bd.bytes
  have hml : c.maxLocals = 1 := hml0
  have hown : s.vm.findClass "com/example/careful_nets/carefulnets/statespace/Marking" = some m.cls := findClass_of_methodNamed Bd.named
  have hnm := (name_of_methodNamed Bd.named Bd.method).1
  have X0 : Stand p l e ({ frames := 0, cells := 0, slots := 0, locals := 0 } : Room) s m #[(.ref a1)] below meth c s₁ [] 0 0 := Stand.of_body Bd
  have e0 : s₁.heap = h0 := by rw [← hh, Bd.state]; rfl
  have N0 := Fr.nil n0
  show Goes p.tables e below (Ends below s (Q4 Z a1 bc bm h0 n0) ({ frames := 0, cells := 0, slots := 0, locals := 0 } : Room).cells ({ frames := 0, cells := 0, slots := 0, locals := 0 } : Room).slots) (s₁.setTop (entryFrame m #[(.ref a1)] 1))
  refine Goes.cast (ef_4 m a1) ?_
  refine Goes.st (fun _ k => XS.aloadN X0.here hx rfl (hb hby d4_0) rfl rfl k) ?_
  show Goes _ _ _ _ (s₁.setTop (mkF m 1 #[.val (.ref a1)] [(.ref a1)]))
  obtain ⟨T20, X20, e20, st20⟩ := getF X0 hx hZ hown (host := "") (Or.inl (hw _ (List.mem_of_getElem? (i := 20) rfl))) Via.refl e0 HI.1.2.2.2.1 (g := (mkF m 1 #[.val (.ref a1)] [(.ref a1)])) rfl rfl (hb hby d4_1)
  refine Goes.st st20 ?_
  show Goes _ _ _ _ (T20.setTop (mkF m 4 #[.val (.ref a1)] [(.int (0 : Int32))]))
  exact leafI X20 hx Bd.notSynchronized Bd.returns (hb hby d4_4) (by decide) (by decide) ⟨rfl, N0, e20⟩
theorem ef_5 (m : MethodId) (a1 : Addr) (p2 : Int32) : entryFrame m #[(.ref a1), (.int p2)] 2 = mkF m 0 #[.val (.ref a1), .val (.int p2)] [] := by first | (simp [entryFrame, mkF, argsToLocals, Value.category, maxLocals]; done) | rfl
def Q5 (Z : State) (a1 : Addr) (p2 : Int32) (bc : Addr) (bm : Addr) (q : Nat) (h0 : Heap) (n0 : Nat) (v : Option Value) (h : Heap) (L : List Loc) : Prop := v = some (.long (0 : Int64)) ∧ Fr n0 L ∧ h = h0
set_option maxRecDepth 65536 in
set_option maxHeartbeats 40000000 in
theorem rm5 (l : Launch) (Z : State) (a0 : Array Value) (hw : ∀ d ∈ tables_1, d.before a0 Z = true) (ws : List Jvm.Cond) (a1 : Addr) (p2 : Int32) (bc : Addr) (bm : Addr) (q : Nat) (h0 : Heap) (n0 : Nat) (Z0 : n0 ≤ h0.size) (HI : own_I Z h0 a1 bc bm 0 False) (hq : q < 4) (hp : p2 = Int32.ofNat q) :
    MetFree l (⟨"com/example/careful_nets/carefulnets/statespace/Marking", "count", "(I)J"⟩ : MethodName) (head1 (Jvm.Cond.code (⟨"com/example/careful_nets/carefulnets/statespace/Marking", "count", "(I)J"⟩ : MethodName) prog_77_method_2_code 2 (some .long) :: ws) ({ frames := 0, cells := 0, slots := 0, locals := 0 } : Room)) (fun a U => a = #[(.ref a1), (.int p2)] ∧ Z.Warmed39 U.vm ∧ U.heap = h0) (fun _ _ _ _ _ => True) (fun _ U o U' => ∃ v L, o = .returned v ∧ Q5 Z a1 p2 bc bm q h0 n0 v U'.heap L ∧ FrameEnd U o U' L ({ frames := 0, cells := 0, slots := 0, locals := 0 } : Room).cells ({ frames := 0, cells := 0, slots := 0, locals := 0 } : Room).slots) := by
  refine MetFree.of_bodySF pn_5 hisR ?_
  intro p e s m args below meth c s₁ Bd hml0 hP hK
  obtain ⟨rfl, hZ, hh⟩ := hP
  have hx := Bd.exec
  have hby := Bd.bytes
  have hml : c.maxLocals = 2 := hml0
  have hown : s.vm.findClass "com/example/careful_nets/carefulnets/statespace/Marking" = some m.cls := findClass_of_methodNamed Bd.named
  have hnm := (name_of_methodNamed Bd.named Bd.method).1
  have X0 : Stand p l e ({ frames := 0, cells := 0, slots := 0, locals := 0 } : Room) s m #[(.ref a1), (.int p2)] below meth c s₁ [] 0 0 := Stand.of_body Bd
  have e0 : s₁.heap = h0 := by rw [← hh, Bd.state]; rfl
  have N0 := Fr.nil n0
  show Goes p.tables e below (Ends below s (Q5 Z a1 p2 bc bm q h0 n0) ({ frames := 0, cells := 0, slots := 0, locals := 0 } : Room).cells ({ frames := 0, cells := 0, slots := 0, locals := 0 } : Room).slots) (s₁.setTop (entryFrame m #[(.ref a1), (.int p2)] 2))
  refine Goes.cast (ef_5 m a1 p2) ?_
  obtain ⟨O, f, g, ⟨cl, Aj, Sj, Hj⟩, K, HN, -⟩ := HI
  have hf : f q = 0 := (HN.2.2 q hq).elim id (fun ⟨k, _, r2, _⟩ => absurd r2 (Nat.not_lt_zero k))
  have hq4 := own_in4 ⟨q, hq⟩
  have hqc : (Int32.ofNat q).toNatClampNeg = q := own_cl ⟨q, by omega⟩
  refine Goes.st (fun _ k => XS.aloadN X0.here hx rfl (hb hby d5_0) rfl rfl k) ?_
  show Goes _ _ _ _ (s₁.setTop (mkF m 1 #[.val (.ref a1), .val (.int p2)] [(.ref a1)]))
  obtain ⟨T21, X21, e21, st21⟩ := getF X0 hx hZ hown (host := "") (Or.inl (hw _ (List.mem_of_getElem? (i := 10) rfl))) Via.refl e0 O.2.1 (g := (mkF m 1 #[.val (.ref a1), .val (.int p2)] [(.ref a1)])) rfl rfl (hb hby d5_1)
  refine Goes.st st21 ?_
  show Goes _ _ _ _ (T21.setTop (mkF m 4 #[.val (.ref a1), .val (.int p2)] [(.ref bc)]))
  refine Goes.st (fun _ k => XS.iloadN X21.here hx rfl (hb hby d5_4) rfl k) ?_
  show Goes _ _ _ _ (T21.setTop (mkF m 5 #[.val (.ref a1), .val (.int p2)] [(.int p2), (.ref bc)]))
  have hin : ¬ (p2 < 0 ∨ cl.slots.size ≤ p2.toNatClampNeg) := inb_of Sj (by rw [hp]; exact hq4)
  refine Goes.st (X21.laload hx (by rw [e21]; exact Aj.1) (State.isArrayOf_alike hZ.alike Aj.2.1) Aj.2.2 hin (by rw [hp, hqc, Hj q hq, hf]) (g := (mkF m 5 #[.val (.ref a1), .val (.int p2)] [(.int p2), (.ref bc)])) rfl rfl (hb hby d5_5)) ?_
  show Goes _ _ _ _ (T21.setTop (mkF m 6 #[.val (.ref a1), .val (.int p2)] [(.long (0 : Int64))]))
  exact leafJ X21 hx Bd.notSynchronized Bd.returns (hb hby d5_6) (by decide) (by decide) ⟨rfl, N0, e21⟩
theorem ef_6 (m : MethodId) (a1 : Addr) (p2 : Int32) (p3 : Int32) : entryFrame m #[(.ref a1), (.int p2), (.int p3)] 5 = mkF m 0 #[.val (.ref a1), .val (.int p2), .val (.int p3), .unset, .unset] [] := by first | (simp [entryFrame, mkF, argsToLocals, Value.category, maxLocals]; done) | rfl
def Q6 (Z : State) (a1 : Addr) (p2 : Int32) (p3 : Int32) (bc : Addr) (bm : Addr) (h0 : Heap) (n0 : Nat) (v : Option Value) (h : Heap) (L : List Loc) : Prop := v = some (.int (0 : Int32)) ∧ Fr n0 L ∧ h = h0
set_option maxRecDepth 65536 in
set_option maxHeartbeats 40000000 in
theorem rm6 (l : Launch) (Z : State) (a0 : Array Value) (hw : ∀ d ∈ tables_1, d.before a0 Z = true) (ws : List Jvm.Cond) (a1 : Addr) (p2 : Int32) (p3 : Int32) (bc : Addr) (bm : Addr) (h0 : Heap) (n0 : Nat) (Z0 : n0 ≤ h0.size) (HI : own_I Z h0 a1 bc bm 0 False) :
    MetFree l (⟨"com/example/careful_nets/carefulnets/statespace/Marking", "marksBetween", "(II)Z"⟩ : MethodName) (head1 (Jvm.Cond.code (⟨"com/example/careful_nets/carefulnets/statespace/Marking", "marksBetween", "(II)Z"⟩ : MethodName) prog_77_method_5_code 5 (some .boolean) :: ws) ({ frames := 0, cells := 0, slots := 0, locals := 0 } : Room)) (fun a U => a = #[(.ref a1), (.int p2), (.int p3)] ∧ Z.Warmed39 U.vm ∧ U.heap = h0) (fun _ _ _ _ _ => True) (fun _ U o U' => ∃ v L, o = .returned v ∧ Q6 Z a1 p2 p3 bc bm h0 n0 v U'.heap L ∧ FrameEnd U o U' L ({ frames := 0, cells := 0, slots := 0, locals := 0 } : Room).cells ({ frames := 0, cells := 0, slots := 0, locals := 0 } : Room).slots) := by
  refine MetFree.of_bodySF pn_6 hisR ?_
  intro p e s m args below meth c s₁ Bd hml0 hP hK
  obtain ⟨rfl, hZ, hh⟩ := hP
  have hx := Bd.exec
  have hby := Bd.bytes
  have hml : c.maxLocals = 5 := hml0
  have hown : s.vm.findClass "com/example/careful_nets/carefulnets/statespace/Marking" = some m.cls := findClass_of_methodNamed Bd.named
  have hnm := (name_of_methodNamed Bd.named Bd.method).1
  have X0 : Stand p l e ({ frames := 0, cells := 0, slots := 0, locals := 0 } : Room) s m #[(.ref a1), (.int p2), (.int p3)] below meth c s₁ [] 0 0 := Stand.of_body Bd
  have e0 : s₁.heap = h0 := by rw [← hh, Bd.state]; rfl
  have N0 := Fr.nil n0
  show Goes p.tables e below (Ends below s (Q6 Z a1 p2 p3 bc bm h0 n0) ({ frames := 0, cells := 0, slots := 0, locals := 0 } : Room).cells ({ frames := 0, cells := 0, slots := 0, locals := 0 } : Room).slots) (s₁.setTop (entryFrame m #[(.ref a1), (.int p2), (.int p3)] 5))
  refine Goes.cast (ef_6 m a1 p2 p3) ?_
  refine Goes.st (fun _ k => XS.aloadN X0.here hx rfl (hb hby d6_0) rfl rfl k) ?_
  show Goes _ _ _ _ (s₁.setTop (mkF m 1 #[.val (.ref a1), .val (.int p2), .val (.int p3), .unset, .unset] [(.ref a1)]))
  obtain ⟨T22, X22, e22, st22⟩ := getF X0 hx hZ hown (host := "") (Or.inl (hw _ (List.mem_of_getElem? (i := 20) rfl))) Via.refl e0 HI.1.2.2.2.1 (g := (mkF m 1 #[.val (.ref a1), .val (.int p2), .val (.int p3), .unset, .unset] [(.ref a1)])) rfl rfl (hb hby d6_1)
  refine Goes.st st22 ?_
  show Goes _ _ _ _ (T22.setTop (mkF m 4 #[.val (.ref a1), .val (.int p2), .val (.int p3), .unset, .unset] [(.int (0 : Int32))]))
  refine Goes.st (fun _ k => XS.ifYes X22.here hx rfl (pc0 := 4) (pc' := 32) rfl (hb hby d6_4) rfl (by decide) (by decide) (by decide) k) ?_
  show Goes _ _ _ _ (T22.setTop (mkF m 32 #[.val (.ref a1), .val (.int p2), .val (.int p3), .unset, .unset] []))
  refine Goes.st (fun _ k => XS.iconst X22.here hx rfl (hb hby d6_32) k) ?_
  show Goes _ _ _ _ (T22.setTop (mkF m 33 #[.val (.ref a1), .val (.int p2), .val (.int p3), .unset, .unset] [(.int (0 : Int32))]))
  exact leafZ X22 hx Bd.notSynchronized Bd.returns (hb hby d6_33) (by decide) (by decide) (by decide) ⟨rfl, N0, e22⟩
theorem ef_0 (m : MethodId) (p1 : Int32) (p2 : Int64) (p3 : Int64) (p4 : Int64) (p5 : Int64) : entryFrame m #[(.int p1), (.long p2), (.long p3), (.long p4), (.long p5)] maxLocals = mkF m 0 #[.val (.int p1), .val (.long p2), .second, .val (.long p3), .second, .val (.long p4), .second, .val (.long p5), .second, .unset] [] := by first | (simp [entryFrame, mkF, argsToLocals, Value.category, maxLocals]; done) | rfl
def Q0 (Z : State) (p1 : Int32) (p2 : Int64) (p3 : Int64) (p4 : Int64) (p5 : Int64)  (h0 : Heap) (n0 : Nat) (v : Option Value) (h : Heap) (L : List Loc) : Prop := v = some (.int (1 : Int32)) ∧ Fr n0 L
set_option maxRecDepth 65536 in
set_option maxHeartbeats 40000000 in
theorem rm0 (l : Launch) (Z : State) (a0 : Array Value) (hw : ∀ d ∈ tables_1, d.before a0 Z = true) (ws : List Jvm.Cond) (p1 : Int32) (p2 : Int64) (p3 : Int64) (p4 : Int64) (p5 : Int64)  (h0 : Heap) (n0 : Nat) (Z0 : n0 ≤ h0.size)  :
    MetFree l x (head1 (Jvm.Cond.code x code maxLocals ret :: ws) room_1) (fun a U => a = #[(.int p1), (.long p2), (.long p3), (.long p4), (.long p5)] ∧ Z.Warmed39 U.vm ∧ U.heap = h0) (fun _ _ _ _ _ => True) (fun _ U o U' => ∃ v L, o = .returned v ∧ Q0 Z p1 p2 p3 p4 p5  h0 n0 v U'.heap L ∧ FrameEnd U o U' L room_1.cells room_1.slots) := by
  refine MetFree.of_bodySF pn_0 hisR ?_
  intro p e s m args below meth c s₁ Bd hml0 hP hK
  obtain ⟨rfl, hZ, hh⟩ := hP
  have hx := Bd.exec
  have hby := Bd.bytes
  have hml : c.maxLocals = 10 := hml0
  have hown : s.vm.findClass "com/example/careful_nets/carefulnets/statespace/MarkingClearPinLaw" = some m.cls := findClass_of_methodNamed Bd.named
  have hnm := (name_of_methodNamed Bd.named Bd.method).1
  have X0 : Stand p l e room_1 s m #[(.int p1), (.long p2), (.long p3), (.long p4), (.long p5)] below meth c s₁ [] 0 0 := Stand.of_body Bd
  have e0 : s₁.heap = h0 := by rw [← hh, Bd.state]; rfl
  have N0 := Fr.nil n0
  show Goes p.tables e below (Ends below s (Q0 Z p1 p2 p3 p4 p5  h0 n0) room_1.cells room_1.slots) (s₁.setTop (entryFrame m #[(.int p1), (.long p2), (.long p3), (.long p4), (.long p5)] maxLocals))
  refine Goes.cast (ef_0 m p1 p2 p3 p4 p5) ?_
  obtain ⟨T23, h23, X23, e23, E23, A23, D23, -, st23⟩ := newO X0 hx hZ hown (hw _ (List.mem_of_getElem? (i := 0) rfl)) (hw _ (List.mem_of_getElem? (i := 1) rfl)) (hw _ (List.mem_of_getElem? (i := 2) rfl)) e0 (g := (mkF m 0 #[.val (.int p1), .val (.long p2), .second, .val (.long p3), .second, .val (.long p4), .second, .val (.long p5), .second, .unset] [])) rfl (hb hby at_0) (by decide) (by decide)
  obtain ⟨a23, g23⟩ : ∃ z, z = (h0).size := ⟨_, rfl⟩
  rw [← g23] at A23 D23 st23
  refine Goes.st st23 ?_
  show Goes _ _ _ _ (T23.setTop (mkF m 3 #[.val (.int p1), .val (.long p2), .second, .val (.long p3), .second, .val (.long p4), .second, .val (.long p5), .second, .unset] [(.ref a23)]))
  have Fc23 : Fld Z h23 a23 "com/example/careful_nets/carefulnets/statespace/Marking" "counts" "[J" .null := D23 (Or.inr (hw _ (List.mem_of_getElem? (i := 11) rfl))) (ty := .array .long) (by decide)
  have Fm23 : Fld Z h23 a23 "com/example/careful_nets/carefulnets/statespace/Marking" "marked" "[I" .null := D23 (Or.inr (hw _ (List.mem_of_getElem? (i := 14) rfl))) (ty := .array .int) (by decide)
  have Fn23 : Fld Z h23 a23 "com/example/careful_nets/carefulnets/statespace/Marking" "markedCount" "I" (.int (0 : Int32)) := D23 (Or.inl (hw _ (List.mem_of_getElem? (i := 21) rfl))) (ty := .int) (by decide)
  have ga : n0 ≤ a23 := Nat.le_trans Z0 (Nat.le_of_eq g23.symm)
  have Z1 : n0 ≤ h23.size := Nat.le_trans Z0 E23.1
  refine Goes.st (fun _ k => XS.dup X23.here hx rfl (hb hby at_3) rfl rfl k) ?_
  show Goes _ _ _ _ (T23.setTop (mkF m 4 #[.val (.int p1), .val (.long p2), .second, .val (.long p3), .second, .val (.long p4), .second, .val (.long p5), .second, .unset] [(.ref a23), (.ref a23)]))
  refine Goes.st (fun _ k => XS.iconst X23.here hx rfl (hb hby at_4) k) ?_
  show Goes _ _ _ _ (T23.setTop (mkF m 5 #[.val (.int p1), .val (.long p2), .second, .val (.long p3), .second, .val (.long p4), .second, .val (.long p5), .second, .unset] [(.int (4 : Int32)), (.ref a23), (.ref a23)]))
  obtain ⟨_, _, ⟨T24, L24, k24, n24⟩, -, X24, ⟨Lc24, hQ24, l24, y24, z24⟩, st24⟩ := X23.specialBack hx (y := (⟨"com/example/careful_nets/carefulnets/statespace/Marking", "<init>", "(I)V"⟩ : MethodName)) rfl hown (mvT hZ (hw _ (List.mem_of_getElem? (i := 3) rfl))) (mvT hZ (hw _ (List.mem_of_getElem? (i := 4) rfl))) (mvT hZ (hw _ (List.mem_of_getElem? (i := 5) rfl))) (by decide) (backOf (W := 1) (rm1 l Z a0 hw [] a23 h23 n0 Z1 A23 Fc23 Fm23 Fn23 ga) hZ (hw _ (List.mem_of_getElem? (i := 5) rfl)) (hw _ (List.mem_of_getElem? (i := 2) rfl)) (by decide) (by decide)) (g := (mkF m 5 #[.val (.int p1), .val (.long p2), .second, .val (.long p3), .second, .val (.long p4), .second, .val (.long p5), .second, .unset] [(.int (4 : Int32)), (.ref a23), (.ref a23)])) rfl (by rw [hml]; rfl) (Steps.refl _) (a := a23) (argsL := [(.int (4 : Int32))]) (rest := [(.ref a23)]) (lenOf pd_1 rfl) rfl (by show 2 * 0 + _ ≤ _; exact Nat.le_of_eq rfl) (hb hby at_5) (fun _ _ => ⟨rfl, e23, (by decide : 1 + 2 ≤ _), (by decide : 3 + 8 ≤ _)⟩)
  dsimp only [Pt.U, Pt.locs, Pt.cells, Pt.slots] at X24 l24 y24 z24 st24 hQ24
  subst l24 y24 z24
  obtain ⟨rfl, Nq24, Sq24, bc, bm, gcq, gmq, HI0⟩ := hQ24
  have N24 := Fr.app N0 Nq24
  refine Goes.tr st24 ?_
  show Goes _ _ _ _ (T24.setTop (mkF m 8 #[.val (.int p1), .val (.long p2), .second, .val (.long p3), .second, .val (.long p4), .second, .val (.long p5), .second, .unset] [(.ref a23)]))
  have gc : n0 ≤ bc := Nat.le_trans Z1 gcq
  have gm : n0 ≤ bm := Nat.le_trans Z1 gmq
  have Z2 : n0 ≤ T24.heap.size := Nat.le_trans Z1 Sq24
  refine Goes.st (fun _ k => XS.astore X24.here hx rfl (hb hby at_8) rfl rfl (l' := #[.val (.int p1), .val (.long p2), .second, .val (.long p3), .second, .val (.long p4), .second, .val (.long p5), .second, .val (.ref a23)]) rfl k) ?_
  show Goes _ _ _ _ (T24.setTop (mkF m 10 #[.val (.int p1), .val (.long p2), .second, .val (.long p3), .second, .val (.long p4), .second, .val (.long p5), .second, .val (.ref a23)] []))
  have J113 : ∀ (T : State) (locs : List Loc) (X : Stand p l e room_1 s m #[(.int p1), (.long p2), (.long p3), (.long p4), (.long p5)] below meth c T locs 3 11) (N : Fr n0 locs) (ZT : n0 ≤ T.heap.size) (HI : own_I Z T.heap a23 bc bm 0 False), Goes p.tables e below (Ends below s (Q0 Z p1 p2 p3 p4 p5  h0 n0) room_1.cells room_1.slots) (T.setTop (mkF m 113 #[.val (.int p1), .val (.long p2), .second, .val (.long p3), .second, .val (.long p4), .second, .val (.long p5), .second, .val (.ref a23)] [])) := by
    intro T locs X N ZT HI
    refine Goes.st (fun _ k => XS.aload X.here hx rfl (hb hby at_113) rfl rfl k) ?_
    show Goes _ _ _ _ (T.setTop (mkF m 115 #[.val (.int p1), .val (.long p2), .second, .val (.long p3), .second, .val (.long p4), .second, .val (.long p5), .second, .val (.ref a23)] [(.ref a23)]))
    obtain ⟨cq25, kq25, qa25, qb25, qc25⟩ := isOf hZ rfl HI.1.1
    obtain ⟨_, _, ⟨T25, L25, k25, n25⟩, -, X25, ⟨Lc25, hQ25, l25, y25, z25⟩, st25⟩ := X.virtualBack hx (y := (⟨"com/example/careful_nets/carefulnets/statespace/Marking", "markedCount", "()I"⟩ : MethodName)) (z := (⟨"com/example/careful_nets/carefulnets/statespace/Marking", "markedCount", "()I"⟩ : MethodName)) hown (mvT hZ (hw _ (List.mem_of_getElem? (i := 22) rfl))) (mvT hZ (hw _ (List.mem_of_getElem? (i := 23) rfl))) (notFace_of_selects (args := #[]) (mvT hZ (hw _ (List.mem_of_getElem? (i := 25) rfl)))) (mvT hZ (hw _ (List.mem_of_getElem? (i := 25) rfl))) (mvT hZ (hw _ (List.mem_of_getElem? (i := 24) rfl))) (by decide) (backOf (W := 0) (rm4 l Z a0 hw [] a23  bc bm  T.heap n0 ZT HI ) hZ (hw _ (List.mem_of_getElem? (i := 26) rfl)) (hw _ (List.mem_of_getElem? (i := 2) rfl)) (by decide) (by decide)) qa25 qc25 (g := (mkF m 115 #[.val (.int p1), .val (.long p2), .second, .val (.long p3), .second, .val (.long p4), .second, .val (.long p5), .second, .val (.ref a23)] [(.ref a23)])) rfl (by rw [hml]; rfl) (Steps.refl _) (argsL := []) (rest := []) (lenOf pd_4 rfl) rfl (by show 2 * 0 + _ ≤ _; exact Nat.le_of_eq rfl) (hb hby at_115) (fun _ _ => ⟨rfl, rfl, (by decide : 3 + 0 ≤ _), (by decide : 11 + 0 ≤ _)⟩)
    dsimp only [Pt.U, Pt.locs, Pt.cells, Pt.slots] at X25 l25 y25 z25 st25 hQ25
    subst l25 y25 z25
    obtain ⟨rfl, Nq25, eq25⟩ := hQ25
    have N25 := Fr.app N Nq25
    refine Goes.tr st25 ?_
    show Goes _ _ _ _ (T25.setTop (mkF m 118 #[.val (.int p1), .val (.long p2), .second, .val (.long p3), .second, .val (.long p4), .second, .val (.long p5), .second, .val (.ref a23)] [(.int (0 : Int32))]))
    have HI25 : own_I Z T25.heap a23 bc bm 0 False := by rw [eq25]; exact HI
    have ZT25 : n0 ≤ T25.heap.size := by rw [eq25]; exact ZT
    refine Goes.st (fun _ k => XS.ifNo X25.here hx rfl (hb hby at_118) rfl (by decide) k) ?_
    show Goes _ _ _ _ (T25.setTop (mkF m 121 #[.val (.int p1), .val (.long p2), .second, .val (.long p3), .second, .val (.long p4), .second, .val (.long p5), .second, .val (.ref a23)] []))
    refine Goes.st (fun _ k => XS.aload X25.here hx rfl (hb hby at_121) rfl rfl k) ?_
    show Goes _ _ _ _ (T25.setTop (mkF m 123 #[.val (.int p1), .val (.long p2), .second, .val (.long p3), .second, .val (.long p4), .second, .val (.long p5), .second, .val (.ref a23)] [(.ref a23)]))
    refine Goes.st (fun _ k => XS.iconst X25.here hx rfl (hb hby at_123) k) ?_
    show Goes _ _ _ _ (T25.setTop (mkF m 124 #[.val (.int p1), .val (.long p2), .second, .val (.long p3), .second, .val (.long p4), .second, .val (.long p5), .second, .val (.ref a23)] [(.int (0 : Int32)), (.ref a23)]))
    obtain ⟨cq26, kq26, qa26, qb26, qc26⟩ := isOf hZ rfl HI25.1.1
    obtain ⟨_, _, ⟨T26, L26, k26, n26⟩, -, X26, ⟨Lc26, hQ26, l26, y26, z26⟩, st26⟩ := X25.virtualBack hx (y := (⟨"com/example/careful_nets/carefulnets/statespace/Marking", "count", "(I)J"⟩ : MethodName)) (z := (⟨"com/example/careful_nets/carefulnets/statespace/Marking", "count", "(I)J"⟩ : MethodName)) hown (mvT hZ (hw _ (List.mem_of_getElem? (i := 27) rfl))) (mvT hZ (hw _ (List.mem_of_getElem? (i := 28) rfl))) (notFace_of_selects (args := #[]) (mvT hZ (hw _ (List.mem_of_getElem? (i := 30) rfl)))) (mvT hZ (hw _ (List.mem_of_getElem? (i := 30) rfl))) (mvT hZ (hw _ (List.mem_of_getElem? (i := 29) rfl))) (by decide) (backOf (W := 0) (rm5 l Z a0 hw [] a23 (0 : Int32) bc bm 0 T25.heap n0 ZT25 HI25 (by decide) rfl) hZ (hw _ (List.mem_of_getElem? (i := 31) rfl)) (hw _ (List.mem_of_getElem? (i := 2) rfl)) (by decide) (by decide)) qa26 qc26 (g := (mkF m 124 #[.val (.int p1), .val (.long p2), .second, .val (.long p3), .second, .val (.long p4), .second, .val (.long p5), .second, .val (.ref a23)] [(.int (0 : Int32)), (.ref a23)])) rfl (by rw [hml]; rfl) (Steps.refl _) (argsL := [(.int (0 : Int32))]) (rest := []) (lenOf pd_5 rfl) rfl (by show 2 * 0 + _ ≤ _; exact Nat.le_of_eq rfl) (hb hby at_124) (fun _ _ => ⟨rfl, rfl, (by decide : 3 + 0 ≤ _), (by decide : 11 + 0 ≤ _)⟩)
    dsimp only [Pt.U, Pt.locs, Pt.cells, Pt.slots] at X26 l26 y26 z26 st26 hQ26
    subst l26 y26 z26
    obtain ⟨rfl, Nq26, eq26⟩ := hQ26
    have N26 := Fr.app N25 Nq26
    refine Goes.tr st26 ?_
    show Goes _ _ _ _ (T26.setTop (mkF m 127 #[.val (.int p1), .val (.long p2), .second, .val (.long p3), .second, .val (.long p4), .second, .val (.long p5), .second, .val (.ref a23)] [(.long (0 : Int64))]))
    have HI26 : own_I Z T26.heap a23 bc bm 0 False := by rw [eq26]; exact HI25
    have ZT26 : n0 ≤ T26.heap.size := by rw [eq26]; exact ZT25
    refine Goes.st (fun _ k => XS.lconst X26.here hx rfl (hb hby at_127) k) ?_
    show Goes _ _ _ _ (T26.setTop (mkF m 128 #[.val (.int p1), .val (.long p2), .second, .val (.long p3), .second, .val (.long p4), .second, .val (.long p5), .second, .val (.ref a23)] [(.long (0 : Int64)), (.long (0 : Int64))]))
    refine Goes.st (fun _ k => XS.lcmp X26.here hx rfl (hb hby at_128) rfl k) ?_
    show Goes _ _ _ _ (T26.setTop (mkF m 129 #[.val (.int p1), .val (.long p2), .second, .val (.long p3), .second, .val (.long p4), .second, .val (.long p5), .second, .val (.ref a23)] [(.int (lcmpW (0 : Int64) (0 : Int64)))]))
    refine Goes.st (fun _ k => XS.ifNo X26.here hx rfl (hb hby at_129) rfl ((if0 _ _).trans (teq ((lw_eq _ _).mpr rfl)).2) k) ?_
    show Goes _ _ _ _ (T26.setTop (mkF m 132 #[.val (.int p1), .val (.long p2), .second, .val (.long p3), .second, .val (.long p4), .second, .val (.long p5), .second, .val (.ref a23)] []))
    refine Goes.st (fun _ k => XS.aload X26.here hx rfl (hb hby at_132) rfl rfl k) ?_
    show Goes _ _ _ _ (T26.setTop (mkF m 134 #[.val (.int p1), .val (.long p2), .second, .val (.long p3), .second, .val (.long p4), .second, .val (.long p5), .second, .val (.ref a23)] [(.ref a23)]))
    refine Goes.st (fun _ k => XS.iconst X26.here hx rfl (hb hby at_134) k) ?_
    show Goes _ _ _ _ (T26.setTop (mkF m 135 #[.val (.int p1), .val (.long p2), .second, .val (.long p3), .second, .val (.long p4), .second, .val (.long p5), .second, .val (.ref a23)] [(.int (1 : Int32)), (.ref a23)]))
    obtain ⟨cq27, kq27, qa27, qb27, qc27⟩ := isOf hZ rfl HI26.1.1
    obtain ⟨_, _, ⟨T27, L27, k27, n27⟩, -, X27, ⟨Lc27, hQ27, l27, y27, z27⟩, st27⟩ := X26.virtualBack hx (y := (⟨"com/example/careful_nets/carefulnets/statespace/Marking", "count", "(I)J"⟩ : MethodName)) (z := (⟨"com/example/careful_nets/carefulnets/statespace/Marking", "count", "(I)J"⟩ : MethodName)) hown (mvT hZ (hw _ (List.mem_of_getElem? (i := 27) rfl))) (mvT hZ (hw _ (List.mem_of_getElem? (i := 28) rfl))) (notFace_of_selects (args := #[]) (mvT hZ (hw _ (List.mem_of_getElem? (i := 30) rfl)))) (mvT hZ (hw _ (List.mem_of_getElem? (i := 30) rfl))) (mvT hZ (hw _ (List.mem_of_getElem? (i := 29) rfl))) (by decide) (backOf (W := 0) (rm5 l Z a0 hw [] a23 (1 : Int32) bc bm 1 T26.heap n0 ZT26 HI26 (by decide) rfl) hZ (hw _ (List.mem_of_getElem? (i := 31) rfl)) (hw _ (List.mem_of_getElem? (i := 2) rfl)) (by decide) (by decide)) qa27 qc27 (g := (mkF m 135 #[.val (.int p1), .val (.long p2), .second, .val (.long p3), .second, .val (.long p4), .second, .val (.long p5), .second, .val (.ref a23)] [(.int (1 : Int32)), (.ref a23)])) rfl (by rw [hml]; rfl) (Steps.refl _) (argsL := [(.int (1 : Int32))]) (rest := []) (lenOf pd_5 rfl) rfl (by show 2 * 0 + _ ≤ _; exact Nat.le_of_eq rfl) (hb hby at_135) (fun _ _ => ⟨rfl, rfl, (by decide : 3 + 0 ≤ _), (by decide : 11 + 0 ≤ _)⟩)
    dsimp only [Pt.U, Pt.locs, Pt.cells, Pt.slots] at X27 l27 y27 z27 st27 hQ27
    subst l27 y27 z27
    obtain ⟨rfl, Nq27, eq27⟩ := hQ27
    have N27 := Fr.app N26 Nq27
    refine Goes.tr st27 ?_
    show Goes _ _ _ _ (T27.setTop (mkF m 138 #[.val (.int p1), .val (.long p2), .second, .val (.long p3), .second, .val (.long p4), .second, .val (.long p5), .second, .val (.ref a23)] [(.long (0 : Int64))]))
    have HI27 : own_I Z T27.heap a23 bc bm 0 False := by rw [eq27]; exact HI26
    have ZT27 : n0 ≤ T27.heap.size := by rw [eq27]; exact ZT26
    refine Goes.st (fun _ k => XS.lconst X27.here hx rfl (hb hby at_138) k) ?_
    show Goes _ _ _ _ (T27.setTop (mkF m 139 #[.val (.int p1), .val (.long p2), .second, .val (.long p3), .second, .val (.long p4), .second, .val (.long p5), .second, .val (.ref a23)] [(.long (0 : Int64)), (.long (0 : Int64))]))
    refine Goes.st (fun _ k => XS.lcmp X27.here hx rfl (hb hby at_139) rfl k) ?_
    show Goes _ _ _ _ (T27.setTop (mkF m 140 #[.val (.int p1), .val (.long p2), .second, .val (.long p3), .second, .val (.long p4), .second, .val (.long p5), .second, .val (.ref a23)] [(.int (lcmpW (0 : Int64) (0 : Int64)))]))
    refine Goes.st (fun _ k => XS.ifNo X27.here hx rfl (hb hby at_140) rfl ((if0 _ _).trans (teq ((lw_eq _ _).mpr rfl)).2) k) ?_
    show Goes _ _ _ _ (T27.setTop (mkF m 143 #[.val (.int p1), .val (.long p2), .second, .val (.long p3), .second, .val (.long p4), .second, .val (.long p5), .second, .val (.ref a23)] []))
    refine Goes.st (fun _ k => XS.aload X27.here hx rfl (hb hby at_143) rfl rfl k) ?_
    show Goes _ _ _ _ (T27.setTop (mkF m 145 #[.val (.int p1), .val (.long p2), .second, .val (.long p3), .second, .val (.long p4), .second, .val (.long p5), .second, .val (.ref a23)] [(.ref a23)]))
    refine Goes.st (fun _ k => XS.iconst X27.here hx rfl (hb hby at_145) k) ?_
    show Goes _ _ _ _ (T27.setTop (mkF m 146 #[.val (.int p1), .val (.long p2), .second, .val (.long p3), .second, .val (.long p4), .second, .val (.long p5), .second, .val (.ref a23)] [(.int (2 : Int32)), (.ref a23)]))
    obtain ⟨cq28, kq28, qa28, qb28, qc28⟩ := isOf hZ rfl HI27.1.1
    obtain ⟨_, _, ⟨T28, L28, k28, n28⟩, -, X28, ⟨Lc28, hQ28, l28, y28, z28⟩, st28⟩ := X27.virtualBack hx (y := (⟨"com/example/careful_nets/carefulnets/statespace/Marking", "count", "(I)J"⟩ : MethodName)) (z := (⟨"com/example/careful_nets/carefulnets/statespace/Marking", "count", "(I)J"⟩ : MethodName)) hown (mvT hZ (hw _ (List.mem_of_getElem? (i := 27) rfl))) (mvT hZ (hw _ (List.mem_of_getElem? (i := 28) rfl))) (notFace_of_selects (args := #[]) (mvT hZ (hw _ (List.mem_of_getElem? (i := 30) rfl)))) (mvT hZ (hw _ (List.mem_of_getElem? (i := 30) rfl))) (mvT hZ (hw _ (List.mem_of_getElem? (i := 29) rfl))) (by decide) (backOf (W := 0) (rm5 l Z a0 hw [] a23 (2 : Int32) bc bm 2 T27.heap n0 ZT27 HI27 (by decide) rfl) hZ (hw _ (List.mem_of_getElem? (i := 31) rfl)) (hw _ (List.mem_of_getElem? (i := 2) rfl)) (by decide) (by decide)) qa28 qc28 (g := (mkF m 146 #[.val (.int p1), .val (.long p2), .second, .val (.long p3), .second, .val (.long p4), .second, .val (.long p5), .second, .val (.ref a23)] [(.int (2 : Int32)), (.ref a23)])) rfl (by rw [hml]; rfl) (Steps.refl _) (argsL := [(.int (2 : Int32))]) (rest := []) (lenOf pd_5 rfl) rfl (by show 2 * 0 + _ ≤ _; exact Nat.le_of_eq rfl) (hb hby at_146) (fun _ _ => ⟨rfl, rfl, (by decide : 3 + 0 ≤ _), (by decide : 11 + 0 ≤ _)⟩)
    dsimp only [Pt.U, Pt.locs, Pt.cells, Pt.slots] at X28 l28 y28 z28 st28 hQ28
    subst l28 y28 z28
    obtain ⟨rfl, Nq28, eq28⟩ := hQ28
    have N28 := Fr.app N27 Nq28
    refine Goes.tr st28 ?_
    show Goes _ _ _ _ (T28.setTop (mkF m 149 #[.val (.int p1), .val (.long p2), .second, .val (.long p3), .second, .val (.long p4), .second, .val (.long p5), .second, .val (.ref a23)] [(.long (0 : Int64))]))
    have HI28 : own_I Z T28.heap a23 bc bm 0 False := by rw [eq28]; exact HI27
    have ZT28 : n0 ≤ T28.heap.size := by rw [eq28]; exact ZT27
    refine Goes.st (fun _ k => XS.lconst X28.here hx rfl (hb hby at_149) k) ?_
    show Goes _ _ _ _ (T28.setTop (mkF m 150 #[.val (.int p1), .val (.long p2), .second, .val (.long p3), .second, .val (.long p4), .second, .val (.long p5), .second, .val (.ref a23)] [(.long (0 : Int64)), (.long (0 : Int64))]))
    refine Goes.st (fun _ k => XS.lcmp X28.here hx rfl (hb hby at_150) rfl k) ?_
    show Goes _ _ _ _ (T28.setTop (mkF m 151 #[.val (.int p1), .val (.long p2), .second, .val (.long p3), .second, .val (.long p4), .second, .val (.long p5), .second, .val (.ref a23)] [(.int (lcmpW (0 : Int64) (0 : Int64)))]))
    refine Goes.st (fun _ k => XS.ifNo X28.here hx rfl (hb hby at_151) rfl ((if0 _ _).trans (teq ((lw_eq _ _).mpr rfl)).2) k) ?_
    show Goes _ _ _ _ (T28.setTop (mkF m 154 #[.val (.int p1), .val (.long p2), .second, .val (.long p3), .second, .val (.long p4), .second, .val (.long p5), .second, .val (.ref a23)] []))
    refine Goes.st (fun _ k => XS.aload X28.here hx rfl (hb hby at_154) rfl rfl k) ?_
    show Goes _ _ _ _ (T28.setTop (mkF m 156 #[.val (.int p1), .val (.long p2), .second, .val (.long p3), .second, .val (.long p4), .second, .val (.long p5), .second, .val (.ref a23)] [(.ref a23)]))
    refine Goes.st (fun _ k => XS.iconst X28.here hx rfl (hb hby at_156) k) ?_
    show Goes _ _ _ _ (T28.setTop (mkF m 157 #[.val (.int p1), .val (.long p2), .second, .val (.long p3), .second, .val (.long p4), .second, .val (.long p5), .second, .val (.ref a23)] [(.int (3 : Int32)), (.ref a23)]))
    obtain ⟨cq29, kq29, qa29, qb29, qc29⟩ := isOf hZ rfl HI28.1.1
    obtain ⟨_, _, ⟨T29, L29, k29, n29⟩, -, X29, ⟨Lc29, hQ29, l29, y29, z29⟩, st29⟩ := X28.virtualBack hx (y := (⟨"com/example/careful_nets/carefulnets/statespace/Marking", "count", "(I)J"⟩ : MethodName)) (z := (⟨"com/example/careful_nets/carefulnets/statespace/Marking", "count", "(I)J"⟩ : MethodName)) hown (mvT hZ (hw _ (List.mem_of_getElem? (i := 27) rfl))) (mvT hZ (hw _ (List.mem_of_getElem? (i := 28) rfl))) (notFace_of_selects (args := #[]) (mvT hZ (hw _ (List.mem_of_getElem? (i := 30) rfl)))) (mvT hZ (hw _ (List.mem_of_getElem? (i := 30) rfl))) (mvT hZ (hw _ (List.mem_of_getElem? (i := 29) rfl))) (by decide) (backOf (W := 0) (rm5 l Z a0 hw [] a23 (3 : Int32) bc bm 3 T28.heap n0 ZT28 HI28 (by decide) rfl) hZ (hw _ (List.mem_of_getElem? (i := 31) rfl)) (hw _ (List.mem_of_getElem? (i := 2) rfl)) (by decide) (by decide)) qa29 qc29 (g := (mkF m 157 #[.val (.int p1), .val (.long p2), .second, .val (.long p3), .second, .val (.long p4), .second, .val (.long p5), .second, .val (.ref a23)] [(.int (3 : Int32)), (.ref a23)])) rfl (by rw [hml]; rfl) (Steps.refl _) (argsL := [(.int (3 : Int32))]) (rest := []) (lenOf pd_5 rfl) rfl (by show 2 * 0 + _ ≤ _; exact Nat.le_of_eq rfl) (hb hby at_157) (fun _ _ => ⟨rfl, rfl, (by decide : 3 + 0 ≤ _), (by decide : 11 + 0 ≤ _)⟩)
    dsimp only [Pt.U, Pt.locs, Pt.cells, Pt.slots] at X29 l29 y29 z29 st29 hQ29
    subst l29 y29 z29
    obtain ⟨rfl, Nq29, eq29⟩ := hQ29
    have N29 := Fr.app N28 Nq29
    refine Goes.tr st29 ?_
    show Goes _ _ _ _ (T29.setTop (mkF m 160 #[.val (.int p1), .val (.long p2), .second, .val (.long p3), .second, .val (.long p4), .second, .val (.long p5), .second, .val (.ref a23)] [(.long (0 : Int64))]))
    have HI29 : own_I Z T29.heap a23 bc bm 0 False := by rw [eq29]; exact HI28
    have ZT29 : n0 ≤ T29.heap.size := by rw [eq29]; exact ZT28
    refine Goes.st (fun _ k => XS.lconst X29.here hx rfl (hb hby at_160) k) ?_
    show Goes _ _ _ _ (T29.setTop (mkF m 161 #[.val (.int p1), .val (.long p2), .second, .val (.long p3), .second, .val (.long p4), .second, .val (.long p5), .second, .val (.ref a23)] [(.long (0 : Int64)), (.long (0 : Int64))]))
    refine Goes.st (fun _ k => XS.lcmp X29.here hx rfl (hb hby at_161) rfl k) ?_
    show Goes _ _ _ _ (T29.setTop (mkF m 162 #[.val (.int p1), .val (.long p2), .second, .val (.long p3), .second, .val (.long p4), .second, .val (.long p5), .second, .val (.ref a23)] [(.int (lcmpW (0 : Int64) (0 : Int64)))]))
    refine Goes.st (fun _ k => XS.ifNo X29.here hx rfl (hb hby at_162) rfl ((if0 _ _).trans (teq ((lw_eq _ _).mpr rfl)).2) k) ?_
    show Goes _ _ _ _ (T29.setTop (mkF m 165 #[.val (.int p1), .val (.long p2), .second, .val (.long p3), .second, .val (.long p4), .second, .val (.long p5), .second, .val (.ref a23)] []))
    refine Goes.st (fun _ k => XS.aload X29.here hx rfl (hb hby at_165) rfl rfl k) ?_
    show Goes _ _ _ _ (T29.setTop (mkF m 167 #[.val (.int p1), .val (.long p2), .second, .val (.long p3), .second, .val (.long p4), .second, .val (.long p5), .second, .val (.ref a23)] [(.ref a23)]))
    refine Goes.st (fun _ k => XS.iconst X29.here hx rfl (hb hby at_167) k) ?_
    show Goes _ _ _ _ (T29.setTop (mkF m 168 #[.val (.int p1), .val (.long p2), .second, .val (.long p3), .second, .val (.long p4), .second, .val (.long p5), .second, .val (.ref a23)] [(.int (0 : Int32)), (.ref a23)]))
    refine Goes.st (fun _ k => XS.iconst X29.here hx rfl (hb hby at_168) k) ?_
    show Goes _ _ _ _ (T29.setTop (mkF m 169 #[.val (.int p1), .val (.long p2), .second, .val (.long p3), .second, .val (.long p4), .second, .val (.long p5), .second, .val (.ref a23)] [(.int (3 : Int32)), (.int (0 : Int32)), (.ref a23)]))
    obtain ⟨cq30, kq30, qa30, qb30, qc30⟩ := isOf hZ rfl HI29.1.1
    obtain ⟨_, _, ⟨T30, L30, k30, n30⟩, -, X30, ⟨Lc30, hQ30, l30, y30, z30⟩, st30⟩ := X29.virtualBack hx (y := (⟨"com/example/careful_nets/carefulnets/statespace/Marking", "marksBetween", "(II)Z"⟩ : MethodName)) (z := (⟨"com/example/careful_nets/carefulnets/statespace/Marking", "marksBetween", "(II)Z"⟩ : MethodName)) hown (mvT hZ (hw _ (List.mem_of_getElem? (i := 32) rfl))) (mvT hZ (hw _ (List.mem_of_getElem? (i := 33) rfl))) (notFace_of_selects (args := #[]) (mvT hZ (hw _ (List.mem_of_getElem? (i := 35) rfl)))) (mvT hZ (hw _ (List.mem_of_getElem? (i := 35) rfl))) (mvT hZ (hw _ (List.mem_of_getElem? (i := 34) rfl))) (by decide) (backOf (W := 0) (rm6 l Z a0 hw [] a23 (0 : Int32) (3 : Int32) bc bm  T29.heap n0 ZT29 HI29 ) hZ (hw _ (List.mem_of_getElem? (i := 36) rfl)) (hw _ (List.mem_of_getElem? (i := 2) rfl)) (by decide) (by decide)) qa30 qc30 (g := (mkF m 169 #[.val (.int p1), .val (.long p2), .second, .val (.long p3), .second, .val (.long p4), .second, .val (.long p5), .second, .val (.ref a23)] [(.int (3 : Int32)), (.int (0 : Int32)), (.ref a23)])) rfl (by rw [hml]; rfl) (Steps.refl _) (argsL := [(.int (0 : Int32)), (.int (3 : Int32))]) (rest := []) (lenOf pd_6 rfl) rfl (by show 2 * 0 + _ ≤ _; exact Nat.le_of_eq rfl) (hb hby at_169) (fun _ _ => ⟨rfl, rfl, (by decide : 3 + 0 ≤ _), (by decide : 11 + 0 ≤ _)⟩)
    dsimp only [Pt.U, Pt.locs, Pt.cells, Pt.slots] at X30 l30 y30 z30 st30 hQ30
    subst l30 y30 z30
    obtain ⟨rfl, Nq30, eq30⟩ := hQ30
    have N30 := Fr.app N29 Nq30
    refine Goes.tr st30 ?_
    show Goes _ _ _ _ (T30.setTop (mkF m 172 #[.val (.int p1), .val (.long p2), .second, .val (.long p3), .second, .val (.long p4), .second, .val (.long p5), .second, .val (.ref a23)] [(.int (0 : Int32))]))
    have HI30 : own_I Z T30.heap a23 bc bm 0 False := by rw [eq30]; exact HI29
    have ZT30 : n0 ≤ T30.heap.size := by rw [eq30]; exact ZT29
    refine Goes.st (fun _ k => XS.ifNo X30.here hx rfl (hb hby at_172) rfl (by decide) k) ?_
    show Goes _ _ _ _ (T30.setTop (mkF m 175 #[.val (.int p1), .val (.long p2), .second, .val (.long p3), .second, .val (.long p4), .second, .val (.long p5), .second, .val (.ref a23)] []))
    refine Goes.st (fun _ k => XS.iconst X30.here hx rfl (hb hby at_175) k) ?_
    show Goes _ _ _ _ (T30.setTop (mkF m 176 #[.val (.int p1), .val (.long p2), .second, .val (.long p3), .second, .val (.long p4), .second, .val (.long p5), .second, .val (.ref a23)] [(.int (1 : Int32))]))
    refine Goes.st (fun _ k => XS.goto X30.here hx rfl (pc0 := 176) (pc' := 180) rfl (hb hby at_176) (by decide) (by decide) k) ?_
    show Goes _ _ _ _ (T30.setTop (mkF m 180 #[.val (.int p1), .val (.long p2), .second, .val (.long p3), .second, .val (.long p4), .second, .val (.long p5), .second, .val (.ref a23)] [(.int (1 : Int32))]))
    exact leafZ X30 hx Bd.notSynchronized Bd.returns (hb hby at_180) (by decide) (by decide) (by decide) ⟨rfl, N30⟩
  have J108 : ∀ (T : State) (locs : List Loc) (X : Stand p l e room_1 s m #[(.int p1), (.long p2), (.long p3), (.long p4), (.long p5)] below meth c T locs 3 11) (N : Fr n0 locs) (ZT : n0 ≤ T.heap.size) (HI : ∃ n F, own_I Z T.heap a23 bc bm n F), Goes p.tables e below (Ends below s (Q0 Z p1 p2 p3 p4 p5  h0 n0) room_1.cells room_1.slots) (T.setTop (mkF m 108 #[.val (.int p1), .val (.long p2), .second, .val (.long p3), .second, .val (.long p4), .second, .val (.long p5), .second, .val (.ref a23)] [])) := by
    intro T locs X N ZT HI
    obtain ⟨n, F, HI⟩ := HI
    refine Goes.st (fun _ k => XS.aload X.here hx rfl (hb hby at_108) rfl rfl k) ?_
    show Goes _ _ _ _ (T.setTop (mkF m 110 #[.val (.int p1), .val (.long p2), .second, .val (.long p3), .second, .val (.long p4), .second, .val (.long p5), .second, .val (.ref a23)] [(.ref a23)]))
    obtain ⟨cq31, kq31, qa31, qb31, qc31⟩ := isOf hZ rfl HI.1.1
    obtain ⟨_, _, ⟨T31, L31, k31, n31⟩, -, X31, ⟨Lc31, hQ31, l31, y31, z31⟩, st31⟩ := X.virtualBack hx (y := (⟨"com/example/careful_nets/carefulnets/statespace/Marking", "clear", "()V"⟩ : MethodName)) (z := (⟨"com/example/careful_nets/carefulnets/statespace/Marking", "clear", "()V"⟩ : MethodName)) hown (mvT hZ (hw _ (List.mem_of_getElem? (i := 15) rfl))) (mvT hZ (hw _ (List.mem_of_getElem? (i := 16) rfl))) (notFace_of_selects (args := #[]) (mvT hZ (hw _ (List.mem_of_getElem? (i := 18) rfl)))) (mvT hZ (hw _ (List.mem_of_getElem? (i := 18) rfl))) (mvT hZ (hw _ (List.mem_of_getElem? (i := 17) rfl))) (by decide) (backOf (W := 0) (rm3 l Z a0 hw [] a23 bc bm n F T.heap n0 ZT HI ga gc gm) hZ (hw _ (List.mem_of_getElem? (i := 19) rfl)) (hw _ (List.mem_of_getElem? (i := 2) rfl)) (by decide) (by decide)) qa31 qc31 (g := (mkF m 110 #[.val (.int p1), .val (.long p2), .second, .val (.long p3), .second, .val (.long p4), .second, .val (.long p5), .second, .val (.ref a23)] [(.ref a23)])) rfl (by rw [hml]; rfl) (Steps.refl _) (argsL := []) (rest := []) (lenOf pd_3 rfl) rfl (by show 2 * 0 + _ ≤ _; exact Nat.le_of_eq rfl) (hb hby at_110) (fun _ _ => ⟨rfl, rfl, (by decide : 3 + 0 ≤ _), (by decide : 11 + 0 ≤ _)⟩)
    dsimp only [Pt.U, Pt.locs, Pt.cells, Pt.slots] at X31 l31 y31 z31 st31 hQ31
    subst l31 y31 z31
    obtain ⟨rfl, Nq31, Sq31, HI31⟩ := hQ31
    have N31 := Fr.app N Nq31
    refine Goes.tr st31 ?_
    show Goes _ _ _ _ (T31.setTop (mkF m 113 #[.val (.int p1), .val (.long p2), .second, .val (.long p3), .second, .val (.long p4), .second, .val (.long p5), .second, .val (.ref a23)] []))
    exact J113 _ _ X31 N31 (Nat.le_trans ZT Sq31) HI31
  have J96 : ∀ (T : State) (locs : List Loc) (X : Stand p l e room_1 s m #[(.int p1), (.long p2), (.long p3), (.long p4), (.long p5)] below meth c T locs 3 11) (N : Fr n0 locs) (ZT : n0 ≤ T.heap.size) (HI : ∃ n F, own_I Z T.heap a23 bc bm n F), Goes p.tables e below (Ends below s (Q0 Z p1 p2 p3 p4 p5  h0 n0) room_1.cells room_1.slots) (T.setTop (mkF m 96 #[.val (.int p1), .val (.long p2), .second, .val (.long p3), .second, .val (.long p4), .second, .val (.long p5), .second, .val (.ref a23)] [])) := by
    intro T locs X N ZT HI
    obtain ⟨n, F, HI⟩ := HI
    refine Goes.st (fun _ k => XS.iloadN X.here hx rfl (hb hby at_96) rfl k) ?_
    show Goes _ _ _ _ (T.setTop (mkF m 97 #[.val (.int p1), .val (.long p2), .second, .val (.long p3), .second, .val (.long p4), .second, .val (.long p5), .second, .val (.ref a23)] [(.int p1)]))
    refine Goes.st (fun _ k => XS.bipush X.here hx rfl (hb hby at_97) k) ?_
    show Goes _ _ _ _ (T.setTop (mkF m 99 #[.val (.int p1), .val (.long p2), .second, .val (.long p3), .second, .val (.long p4), .second, .val (.long p5), .second, .val (.ref a23)] [(.int (32 : Int32)), (.int p1)]))
    refine Goes.st (fun _ k => XS.iand X.here hx rfl (hb hby at_99) rfl k) ?_
    show Goes _ _ _ _ (T.setTop (mkF m 100 #[.val (.int p1), .val (.long p2), .second, .val (.long p3), .second, .val (.long p4), .second, .val (.long p5), .second, .val (.ref a23)] [(.int (p1 &&& (32 : Int32)))]))
    by_cases hc : (p1 &&& (32 : Int32)) = (0 : Int32)
    · skip
      refine Goes.st (fun _ k => XS.ifYes X.here hx rfl (pc0 := 100) (pc' := 108) rfl (hb hby at_100) rfl ((if0 _ _).trans (teq hc).1) (by decide) (by decide) k) ?_
      show Goes _ _ _ _ (T.setTop (mkF m 108 #[.val (.int p1), .val (.long p2), .second, .val (.long p3), .second, .val (.long p4), .second, .val (.long p5), .second, .val (.ref a23)] []))
      exact J108 _ _ X N ZT ⟨n, F, HI⟩
    · skip
      refine Goes.st (fun _ k => XS.ifNo X.here hx rfl (hb hby at_100) rfl ((if0 _ _).trans (feq hc).1) k) ?_
      show Goes _ _ _ _ (T.setTop (mkF m 103 #[.val (.int p1), .val (.long p2), .second, .val (.long p3), .second, .val (.long p4), .second, .val (.long p5), .second, .val (.ref a23)] []))
      refine Goes.st (fun _ k => XS.aload X.here hx rfl (hb hby at_103) rfl rfl k) ?_
      show Goes _ _ _ _ (T.setTop (mkF m 105 #[.val (.int p1), .val (.long p2), .second, .val (.long p3), .second, .val (.long p4), .second, .val (.long p5), .second, .val (.ref a23)] [(.ref a23)]))
      obtain ⟨cq32, kq32, qa32, qb32, qc32⟩ := isOf hZ rfl HI.1.1
      obtain ⟨_, _, ⟨T32, L32, k32, n32⟩, -, X32, ⟨Lc32, hQ32, l32, y32, z32⟩, st32⟩ := X.virtualBack hx (y := (⟨"com/example/careful_nets/carefulnets/statespace/Marking", "clear", "()V"⟩ : MethodName)) (z := (⟨"com/example/careful_nets/carefulnets/statespace/Marking", "clear", "()V"⟩ : MethodName)) hown (mvT hZ (hw _ (List.mem_of_getElem? (i := 15) rfl))) (mvT hZ (hw _ (List.mem_of_getElem? (i := 16) rfl))) (notFace_of_selects (args := #[]) (mvT hZ (hw _ (List.mem_of_getElem? (i := 18) rfl)))) (mvT hZ (hw _ (List.mem_of_getElem? (i := 18) rfl))) (mvT hZ (hw _ (List.mem_of_getElem? (i := 17) rfl))) (by decide) (backOf (W := 0) (rm3 l Z a0 hw [] a23 bc bm n F T.heap n0 ZT HI ga gc gm) hZ (hw _ (List.mem_of_getElem? (i := 19) rfl)) (hw _ (List.mem_of_getElem? (i := 2) rfl)) (by decide) (by decide)) qa32 qc32 (g := (mkF m 105 #[.val (.int p1), .val (.long p2), .second, .val (.long p3), .second, .val (.long p4), .second, .val (.long p5), .second, .val (.ref a23)] [(.ref a23)])) rfl (by rw [hml]; rfl) (Steps.refl _) (argsL := []) (rest := []) (lenOf pd_3 rfl) rfl (by show 2 * 0 + _ ≤ _; exact Nat.le_of_eq rfl) (hb hby at_105) (fun _ _ => ⟨rfl, rfl, (by decide : 3 + 0 ≤ _), (by decide : 11 + 0 ≤ _)⟩)
      dsimp only [Pt.U, Pt.locs, Pt.cells, Pt.slots] at X32 l32 y32 z32 st32 hQ32
      subst l32 y32 z32
      obtain ⟨rfl, Nq32, Sq32, HI32⟩ := hQ32
      have N32 := Fr.app N Nq32
      refine Goes.tr st32 ?_
      show Goes _ _ _ _ (T32.setTop (mkF m 108 #[.val (.int p1), .val (.long p2), .second, .val (.long p3), .second, .val (.long p4), .second, .val (.long p5), .second, .val (.ref a23)] []))
      exact J108 _ _ X32 N32 (Nat.le_trans ZT Sq32) ⟨_, _, HI32⟩
  have J77 : ∀ (T : State) (locs : List Loc) (X : Stand p l e room_1 s m #[(.int p1), (.long p2), (.long p3), (.long p4), (.long p5)] below meth c T locs 3 11) (N : Fr n0 locs) (ZT : n0 ≤ T.heap.size) (HI : ∃ n, n ≤ 4 ∧ own_I Z T.heap a23 bc bm n (¬ (p1 &&& (1 : Int32)) = (0 : Int32))), Goes p.tables e below (Ends below s (Q0 Z p1 p2 p3 p4 p5  h0 n0) room_1.cells room_1.slots) (T.setTop (mkF m 77 #[.val (.int p1), .val (.long p2), .second, .val (.long p3), .second, .val (.long p4), .second, .val (.long p5), .second, .val (.ref a23)] [])) := by
    intro T locs X N ZT HI
    obtain ⟨n, hn, HI⟩ := HI
    refine Goes.st (fun _ k => XS.iloadN X.here hx rfl (hb hby at_77) rfl k) ?_
    show Goes _ _ _ _ (T.setTop (mkF m 78 #[.val (.int p1), .val (.long p2), .second, .val (.long p3), .second, .val (.long p4), .second, .val (.long p5), .second, .val (.ref a23)] [(.int p1)]))
    refine Goes.st (fun _ k => XS.bipush X.here hx rfl (hb hby at_78) k) ?_
    show Goes _ _ _ _ (T.setTop (mkF m 80 #[.val (.int p1), .val (.long p2), .second, .val (.long p3), .second, .val (.long p4), .second, .val (.long p5), .second, .val (.ref a23)] [(.int (16 : Int32)), (.int p1)]))
    refine Goes.st (fun _ k => XS.iand X.here hx rfl (hb hby at_80) rfl k) ?_
    show Goes _ _ _ _ (T.setTop (mkF m 81 #[.val (.int p1), .val (.long p2), .second, .val (.long p3), .second, .val (.long p4), .second, .val (.long p5), .second, .val (.ref a23)] [(.int (p1 &&& (16 : Int32)))]))
    by_cases hc : (p1 &&& (16 : Int32)) = (0 : Int32)
    · skip
      refine Goes.st (fun _ k => XS.ifYes X.here hx rfl (pc0 := 81) (pc' := 96) rfl (hb hby at_81) rfl ((if0 _ _).trans (teq hc).1) (by decide) (by decide) k) ?_
      show Goes _ _ _ _ (T.setTop (mkF m 96 #[.val (.int p1), .val (.long p2), .second, .val (.long p3), .second, .val (.long p4), .second, .val (.long p5), .second, .val (.ref a23)] []))
      exact J96 _ _ X N ZT ⟨n, _, HI⟩
    · skip
      refine Goes.st (fun _ k => XS.ifNo X.here hx rfl (hb hby at_81) rfl ((if0 _ _).trans (feq hc).1) k) ?_
      show Goes _ _ _ _ (T.setTop (mkF m 84 #[.val (.int p1), .val (.long p2), .second, .val (.long p3), .second, .val (.long p4), .second, .val (.long p5), .second, .val (.ref a23)] []))
      refine Goes.st (fun _ k => XS.iloadN X.here hx rfl (hb hby at_84) rfl k) ?_
      show Goes _ _ _ _ (T.setTop (mkF m 85 #[.val (.int p1), .val (.long p2), .second, .val (.long p3), .second, .val (.long p4), .second, .val (.long p5), .second, .val (.ref a23)] [(.int p1)]))
      refine Goes.st (fun _ k => XS.iconst X.here hx rfl (hb hby at_85) k) ?_
      show Goes _ _ _ _ (T.setTop (mkF m 86 #[.val (.int p1), .val (.long p2), .second, .val (.long p3), .second, .val (.long p4), .second, .val (.long p5), .second, .val (.ref a23)] [(.int (1 : Int32)), (.int p1)]))
      refine Goes.st (fun _ k => XS.iand X.here hx rfl (hb hby at_86) rfl k) ?_
      show Goes _ _ _ _ (T.setTop (mkF m 87 #[.val (.int p1), .val (.long p2), .second, .val (.long p3), .second, .val (.long p4), .second, .val (.long p5), .second, .val (.ref a23)] [(.int (p1 &&& (1 : Int32)))]))
      by_cases hd : (p1 &&& (1 : Int32)) = (0 : Int32)
      · skip
        refine Goes.st (fun _ k => XS.ifYes X.here hx rfl (pc0 := 87) (pc' := 96) rfl (hb hby at_87) rfl ((if0 _ _).trans (teq hd).1) (by decide) (by decide) k) ?_
        show Goes _ _ _ _ (T.setTop (mkF m 96 #[.val (.int p1), .val (.long p2), .second, .val (.long p3), .second, .val (.long p4), .second, .val (.long p5), .second, .val (.ref a23)] []))
        exact J96 _ _ X N ZT ⟨n, _, HI⟩
      · skip
        refine Goes.st (fun _ k => XS.ifNo X.here hx rfl (hb hby at_87) rfl ((if0 _ _).trans (feq hd).1) k) ?_
        show Goes _ _ _ _ (T.setTop (mkF m 90 #[.val (.int p1), .val (.long p2), .second, .val (.long p3), .second, .val (.long p4), .second, .val (.long p5), .second, .val (.ref a23)] []))
        refine Goes.st (fun _ k => XS.aload X.here hx rfl (hb hby at_90) rfl rfl k) ?_
        show Goes _ _ _ _ (T.setTop (mkF m 92 #[.val (.int p1), .val (.long p2), .second, .val (.long p3), .second, .val (.long p4), .second, .val (.long p5), .second, .val (.ref a23)] [(.ref a23)]))
        refine Goes.st (fun _ k => XS.iconst X.here hx rfl (hb hby at_92) k) ?_
        show Goes _ _ _ _ (T.setTop (mkF m 93 #[.val (.int p1), .val (.long p2), .second, .val (.long p3), .second, .val (.long p4), .second, .val (.long p5), .second, .val (.ref a23)] [(.int (0 : Int32)), (.ref a23)]))
        obtain ⟨cq33, kq33, qa33, qb33, qc33⟩ := isOf hZ rfl HI.1.1
        obtain ⟨_, _, ⟨T33, L33, k33, n33⟩, -, X33, ⟨Lc33, hQ33, l33, y33, z33⟩, st33⟩ := X.virtualBack hx (y := (⟨"com/example/careful_nets/carefulnets/statespace/Marking", "growWithoutEnd", "(I)V"⟩ : MethodName)) (z := (⟨"com/example/careful_nets/carefulnets/statespace/Marking", "growWithoutEnd", "(I)V"⟩ : MethodName)) hown (mvT hZ (hw _ (List.mem_of_getElem? (i := 47) rfl))) (mvT hZ (hw _ (List.mem_of_getElem? (i := 48) rfl))) (notFace_of_selects (args := #[]) (mvT hZ (hw _ (List.mem_of_getElem? (i := 50) rfl)))) (mvT hZ (hw _ (List.mem_of_getElem? (i := 50) rfl))) (mvT hZ (hw _ (List.mem_of_getElem? (i := 49) rfl))) (by decide) (backOf (W := 0) (rm9 l Z a0 hw [] a23 bc bm n (¬ (p1 &&& (1 : Int32)) = (0 : Int32)) T.heap n0 ZT HI ga gc gm hd) hZ (hw _ (List.mem_of_getElem? (i := 51) rfl)) (hw _ (List.mem_of_getElem? (i := 2) rfl)) (by decide) (by decide)) qa33 qc33 (g := (mkF m 93 #[.val (.int p1), .val (.long p2), .second, .val (.long p3), .second, .val (.long p4), .second, .val (.long p5), .second, .val (.ref a23)] [(.int (0 : Int32)), (.ref a23)])) rfl (by rw [hml]; rfl) (Steps.refl _) (argsL := [(.int (0 : Int32))]) (rest := []) (lenOf pd_9 rfl) rfl (by show 2 * 0 + _ ≤ _; exact Nat.le_of_eq rfl) (hb hby at_93) (fun _ _ => ⟨rfl, rfl, (by decide : 3 + 0 ≤ _), (by decide : 11 + 0 ≤ _)⟩)
        dsimp only [Pt.U, Pt.locs, Pt.cells, Pt.slots] at X33 l33 y33 z33 st33 hQ33
        subst l33 y33 z33
        obtain ⟨rfl, Nq33, Sq33, HI33⟩ := hQ33
        have N33 := Fr.app N Nq33
        refine Goes.tr st33 ?_
        show Goes _ _ _ _ (T33.setTop (mkF m 96 #[.val (.int p1), .val (.long p2), .second, .val (.long p3), .second, .val (.long p4), .second, .val (.long p5), .second, .val (.ref a23)] []))
        exact J96 _ _ X33 N33 (Nat.le_trans ZT Sq33) ⟨_, _, HI33⟩
  have J59 : ∀ (T : State) (locs : List Loc) (X : Stand p l e room_1 s m #[(.int p1), (.long p2), (.long p3), (.long p4), (.long p5)] below meth c T locs 3 11) (N : Fr n0 locs) (ZT : n0 ≤ T.heap.size) (HI : ∃ n, n ≤ 3 ∧ own_I Z T.heap a23 bc bm n (¬ (p1 &&& (1 : Int32)) = (0 : Int32))), Goes p.tables e below (Ends below s (Q0 Z p1 p2 p3 p4 p5  h0 n0) room_1.cells room_1.slots) (T.setTop (mkF m 59 #[.val (.int p1), .val (.long p2), .second, .val (.long p3), .second, .val (.long p4), .second, .val (.long p5), .second, .val (.ref a23)] [])) := by
    intro T locs X N ZT HI
    obtain ⟨n, hn, HI⟩ := HI
    refine Goes.st (fun _ k => XS.iloadN X.here hx rfl (hb hby at_59) rfl k) ?_
    show Goes _ _ _ _ (T.setTop (mkF m 60 #[.val (.int p1), .val (.long p2), .second, .val (.long p3), .second, .val (.long p4), .second, .val (.long p5), .second, .val (.ref a23)] [(.int p1)]))
    refine Goes.st (fun _ k => XS.bipush X.here hx rfl (hb hby at_60) k) ?_
    show Goes _ _ _ _ (T.setTop (mkF m 62 #[.val (.int p1), .val (.long p2), .second, .val (.long p3), .second, .val (.long p4), .second, .val (.long p5), .second, .val (.ref a23)] [(.int (8 : Int32)), (.int p1)]))
    refine Goes.st (fun _ k => XS.iand X.here hx rfl (hb hby at_62) rfl k) ?_
    show Goes _ _ _ _ (T.setTop (mkF m 63 #[.val (.int p1), .val (.long p2), .second, .val (.long p3), .second, .val (.long p4), .second, .val (.long p5), .second, .val (.ref a23)] [(.int (p1 &&& (8 : Int32)))]))
    by_cases hc : (p1 &&& (8 : Int32)) = (0 : Int32)
    · skip
      refine Goes.st (fun _ k => XS.ifYes X.here hx rfl (pc0 := 63) (pc' := 77) rfl (hb hby at_63) rfl ((if0 _ _).trans (teq hc).1) (by decide) (by decide) k) ?_
      show Goes _ _ _ _ (T.setTop (mkF m 77 #[.val (.int p1), .val (.long p2), .second, .val (.long p3), .second, .val (.long p4), .second, .val (.long p5), .second, .val (.ref a23)] []))
      exact J77 _ _ X N ZT ⟨n, by omega, HI⟩
    · skip
      refine Goes.st (fun _ k => XS.ifNo X.here hx rfl (hb hby at_63) rfl ((if0 _ _).trans (feq hc).1) k) ?_
      show Goes _ _ _ _ (T.setTop (mkF m 66 #[.val (.int p1), .val (.long p2), .second, .val (.long p3), .second, .val (.long p4), .second, .val (.long p5), .second, .val (.ref a23)] []))
      refine Goes.st (fun _ k => XS.aload X.here hx rfl (hb hby at_66) rfl rfl k) ?_
      show Goes _ _ _ _ (T.setTop (mkF m 68 #[.val (.int p1), .val (.long p2), .second, .val (.long p3), .second, .val (.long p4), .second, .val (.long p5), .second, .val (.ref a23)] [(.ref a23)]))
      refine Goes.st (fun _ k => XS.iconst X.here hx rfl (hb hby at_68) k) ?_
      show Goes _ _ _ _ (T.setTop (mkF m 69 #[.val (.int p1), .val (.long p2), .second, .val (.long p3), .second, .val (.long p4), .second, .val (.long p5), .second, .val (.ref a23)] [(.int (3 : Int32)), (.ref a23)]))
      refine Goes.st (fun _ k => XS.lload X.here hx rfl (hb hby at_69) rfl k) ?_
      show Goes _ _ _ _ (T.setTop (mkF m 71 #[.val (.int p1), .val (.long p2), .second, .val (.long p3), .second, .val (.long p4), .second, .val (.long p5), .second, .val (.ref a23)] [(.long p5), (.int (3 : Int32)), (.ref a23)]))
      obtain ⟨_, _, ⟨T34, L34, k34, n34⟩, -, X34, ⟨Lc34, hQ34, l34, y34, z34⟩, st34⟩ := Jvm.LawKit.callS X hx (y := (⟨"com/example/careful_nets/carefulnets/statespace/MarkingClearPinLaw", "pos", "(J)J"⟩ : MethodName)) hown (mvT hZ (hw _ (List.mem_of_getElem? (i := 37) rfl))) (mvT hZ (hw _ (List.mem_of_getElem? (i := 38) rfl))) (mvT hZ (hw _ (List.mem_of_getElem? (i := 39) rfl))) (mvT hZ (hw _ (List.mem_of_getElem? (i := 40) rfl))) (by decide) (backOf (W := 2) (rm7 l Z a0 hw [] p5 T.heap n0 ZT) hZ (hw _ (List.mem_of_getElem? (i := 40) rfl)) (hw _ (List.mem_of_getElem? (i := 39) rfl)) (by decide) (by decide)) (g := (mkF m 71 #[.val (.int p1), .val (.long p2), .second, .val (.long p3), .second, .val (.long p4), .second, .val (.long p5), .second, .val (.ref a23)] [(.long p5), (.int (3 : Int32)), (.ref a23)])) rfl (by rw [hml]; rfl) (argsL := [(.long p5)]) (rest := [(.int (3 : Int32)), (.ref a23)]) (lenOf pd_7 rfl) rfl (by show 2 * 0 + _ ≤ _; exact Nat.le_of_eq rfl) (hb hby at_71) (fun _ _ => ⟨rfl, rfl, (by decide : 3 + 0 ≤ _), (by decide : 11 + 0 ≤ _)⟩)
      dsimp only [Pt.U, Pt.locs, Pt.cells, Pt.slots] at X34 l34 y34 z34 st34 hQ34
      subst l34 y34 z34
      obtain ⟨z34, rfl, Nq34, eq34⟩ := hQ34
      have N34 := Fr.app N Nq34
      refine Goes.st st34 ?_
      show Goes _ _ _ _ (T34.setTop (mkF m 74 #[.val (.int p1), .val (.long p2), .second, .val (.long p3), .second, .val (.long p4), .second, .val (.long p5), .second, .val (.ref a23)] [(.long z34), (.int (3 : Int32)), (.ref a23)]))
      obtain ⟨cq35, kq35, qa35, qb35, qc35⟩ := isOf hZ eq34 HI.1.1
      obtain ⟨_, _, ⟨T35, L35, k35, n35⟩, -, X35, ⟨Lc35, hQ35, l35, y35, z35⟩, st35⟩ := X34.virtualBack hx (y := (⟨"com/example/careful_nets/carefulnets/statespace/Marking", "append", "(IJ)V"⟩ : MethodName)) (z := (⟨"com/example/careful_nets/carefulnets/statespace/Marking", "append", "(IJ)V"⟩ : MethodName)) hown (mvT hZ (hw _ (List.mem_of_getElem? (i := 42) rfl))) (mvT hZ (hw _ (List.mem_of_getElem? (i := 43) rfl))) (notFace_of_selects (args := #[]) (mvT hZ (hw _ (List.mem_of_getElem? (i := 45) rfl)))) (mvT hZ (hw _ (List.mem_of_getElem? (i := 45) rfl))) (mvT hZ (hw _ (List.mem_of_getElem? (i := 44) rfl))) (by decide) (backOf (W := 0) (rm8 l Z a0 hw [] a23 (3 : Int32) z34 bc bm n 3 (¬ (p1 &&& (1 : Int32)) = (0 : Int32)) T.heap n0 ZT HI ga gc gm (by omega) (by decide) rfl) hZ (hw _ (List.mem_of_getElem? (i := 46) rfl)) (hw _ (List.mem_of_getElem? (i := 2) rfl)) (by decide) (by decide)) qa35 qc35 (g := (mkF m 74 #[.val (.int p1), .val (.long p2), .second, .val (.long p3), .second, .val (.long p4), .second, .val (.long p5), .second, .val (.ref a23)] [(.long z34), (.int (3 : Int32)), (.ref a23)])) rfl (by rw [hml]; rfl) (Steps.refl _) (argsL := [(.int (3 : Int32)), (.long z34)]) (rest := []) (lenOf pd_8 rfl) rfl (by show 2 * 0 + _ ≤ _; exact Nat.le_of_eq rfl) (hb hby at_74) (fun _ _ => ⟨rfl, eq34, (by decide : 3 + 0 ≤ _), (by decide : 11 + 0 ≤ _)⟩)
      dsimp only [Pt.U, Pt.locs, Pt.cells, Pt.slots] at X35 l35 y35 z35 st35 hQ35
      subst l35 y35 z35
      obtain ⟨rfl, Nq35, Sq35, HI35⟩ := hQ35
      have N35 := Fr.app N34 Nq35
      refine Goes.tr st35 ?_
      show Goes _ _ _ _ (T35.setTop (mkF m 77 #[.val (.int p1), .val (.long p2), .second, .val (.long p3), .second, .val (.long p4), .second, .val (.long p5), .second, .val (.ref a23)] []))
      exact J77 _ _ X35 N35 (Nat.le_trans ZT Sq35) ⟨n + 1, by omega, HI35.mono (fun q => Or.inl q)⟩
  have J42 : ∀ (T : State) (locs : List Loc) (X : Stand p l e room_1 s m #[(.int p1), (.long p2), (.long p3), (.long p4), (.long p5)] below meth c T locs 3 11) (N : Fr n0 locs) (ZT : n0 ≤ T.heap.size) (HI : ∃ n, n ≤ 2 ∧ own_I Z T.heap a23 bc bm n (¬ (p1 &&& (1 : Int32)) = (0 : Int32))), Goes p.tables e below (Ends below s (Q0 Z p1 p2 p3 p4 p5  h0 n0) room_1.cells room_1.slots) (T.setTop (mkF m 42 #[.val (.int p1), .val (.long p2), .second, .val (.long p3), .second, .val (.long p4), .second, .val (.long p5), .second, .val (.ref a23)] [])) := by
    intro T locs X N ZT HI
    obtain ⟨n, hn, HI⟩ := HI
    refine Goes.st (fun _ k => XS.iloadN X.here hx rfl (hb hby at_42) rfl k) ?_
    show Goes _ _ _ _ (T.setTop (mkF m 43 #[.val (.int p1), .val (.long p2), .second, .val (.long p3), .second, .val (.long p4), .second, .val (.long p5), .second, .val (.ref a23)] [(.int p1)]))
    refine Goes.st (fun _ k => XS.iconst X.here hx rfl (hb hby at_43) k) ?_
    show Goes _ _ _ _ (T.setTop (mkF m 44 #[.val (.int p1), .val (.long p2), .second, .val (.long p3), .second, .val (.long p4), .second, .val (.long p5), .second, .val (.ref a23)] [(.int (4 : Int32)), (.int p1)]))
    refine Goes.st (fun _ k => XS.iand X.here hx rfl (hb hby at_44) rfl k) ?_
    show Goes _ _ _ _ (T.setTop (mkF m 45 #[.val (.int p1), .val (.long p2), .second, .val (.long p3), .second, .val (.long p4), .second, .val (.long p5), .second, .val (.ref a23)] [(.int (p1 &&& (4 : Int32)))]))
    by_cases hc : (p1 &&& (4 : Int32)) = (0 : Int32)
    · skip
      refine Goes.st (fun _ k => XS.ifYes X.here hx rfl (pc0 := 45) (pc' := 59) rfl (hb hby at_45) rfl ((if0 _ _).trans (teq hc).1) (by decide) (by decide) k) ?_
      show Goes _ _ _ _ (T.setTop (mkF m 59 #[.val (.int p1), .val (.long p2), .second, .val (.long p3), .second, .val (.long p4), .second, .val (.long p5), .second, .val (.ref a23)] []))
      exact J59 _ _ X N ZT ⟨n, by omega, HI⟩
    · skip
      refine Goes.st (fun _ k => XS.ifNo X.here hx rfl (hb hby at_45) rfl ((if0 _ _).trans (feq hc).1) k) ?_
      show Goes _ _ _ _ (T.setTop (mkF m 48 #[.val (.int p1), .val (.long p2), .second, .val (.long p3), .second, .val (.long p4), .second, .val (.long p5), .second, .val (.ref a23)] []))
      refine Goes.st (fun _ k => XS.aload X.here hx rfl (hb hby at_48) rfl rfl k) ?_
      show Goes _ _ _ _ (T.setTop (mkF m 50 #[.val (.int p1), .val (.long p2), .second, .val (.long p3), .second, .val (.long p4), .second, .val (.long p5), .second, .val (.ref a23)] [(.ref a23)]))
      refine Goes.st (fun _ k => XS.iconst X.here hx rfl (hb hby at_50) k) ?_
      show Goes _ _ _ _ (T.setTop (mkF m 51 #[.val (.int p1), .val (.long p2), .second, .val (.long p3), .second, .val (.long p4), .second, .val (.long p5), .second, .val (.ref a23)] [(.int (2 : Int32)), (.ref a23)]))
      refine Goes.st (fun _ k => XS.lload X.here hx rfl (hb hby at_51) rfl k) ?_
      show Goes _ _ _ _ (T.setTop (mkF m 53 #[.val (.int p1), .val (.long p2), .second, .val (.long p3), .second, .val (.long p4), .second, .val (.long p5), .second, .val (.ref a23)] [(.long p4), (.int (2 : Int32)), (.ref a23)]))
      obtain ⟨_, _, ⟨T36, L36, k36, n36⟩, -, X36, ⟨Lc36, hQ36, l36, y36, z36⟩, st36⟩ := Jvm.LawKit.callS X hx (y := (⟨"com/example/careful_nets/carefulnets/statespace/MarkingClearPinLaw", "pos", "(J)J"⟩ : MethodName)) hown (mvT hZ (hw _ (List.mem_of_getElem? (i := 37) rfl))) (mvT hZ (hw _ (List.mem_of_getElem? (i := 38) rfl))) (mvT hZ (hw _ (List.mem_of_getElem? (i := 39) rfl))) (mvT hZ (hw _ (List.mem_of_getElem? (i := 40) rfl))) (by decide) (backOf (W := 2) (rm7 l Z a0 hw [] p4 T.heap n0 ZT) hZ (hw _ (List.mem_of_getElem? (i := 40) rfl)) (hw _ (List.mem_of_getElem? (i := 39) rfl)) (by decide) (by decide)) (g := (mkF m 53 #[.val (.int p1), .val (.long p2), .second, .val (.long p3), .second, .val (.long p4), .second, .val (.long p5), .second, .val (.ref a23)] [(.long p4), (.int (2 : Int32)), (.ref a23)])) rfl (by rw [hml]; rfl) (argsL := [(.long p4)]) (rest := [(.int (2 : Int32)), (.ref a23)]) (lenOf pd_7 rfl) rfl (by show 2 * 0 + _ ≤ _; exact Nat.le_of_eq rfl) (hb hby at_53) (fun _ _ => ⟨rfl, rfl, (by decide : 3 + 0 ≤ _), (by decide : 11 + 0 ≤ _)⟩)
      dsimp only [Pt.U, Pt.locs, Pt.cells, Pt.slots] at X36 l36 y36 z36 st36 hQ36
      subst l36 y36 z36
      obtain ⟨z36, rfl, Nq36, eq36⟩ := hQ36
      have N36 := Fr.app N Nq36
      refine Goes.st st36 ?_
      show Goes _ _ _ _ (T36.setTop (mkF m 56 #[.val (.int p1), .val (.long p2), .second, .val (.long p3), .second, .val (.long p4), .second, .val (.long p5), .second, .val (.ref a23)] [(.long z36), (.int (2 : Int32)), (.ref a23)]))
      obtain ⟨cq37, kq37, qa37, qb37, qc37⟩ := isOf hZ eq36 HI.1.1
      obtain ⟨_, _, ⟨T37, L37, k37, n37⟩, -, X37, ⟨Lc37, hQ37, l37, y37, z37⟩, st37⟩ := X36.virtualBack hx (y := (⟨"com/example/careful_nets/carefulnets/statespace/Marking", "append", "(IJ)V"⟩ : MethodName)) (z := (⟨"com/example/careful_nets/carefulnets/statespace/Marking", "append", "(IJ)V"⟩ : MethodName)) hown (mvT hZ (hw _ (List.mem_of_getElem? (i := 42) rfl))) (mvT hZ (hw _ (List.mem_of_getElem? (i := 43) rfl))) (notFace_of_selects (args := #[]) (mvT hZ (hw _ (List.mem_of_getElem? (i := 45) rfl)))) (mvT hZ (hw _ (List.mem_of_getElem? (i := 45) rfl))) (mvT hZ (hw _ (List.mem_of_getElem? (i := 44) rfl))) (by decide) (backOf (W := 0) (rm8 l Z a0 hw [] a23 (2 : Int32) z36 bc bm n 2 (¬ (p1 &&& (1 : Int32)) = (0 : Int32)) T.heap n0 ZT HI ga gc gm (by omega) (by decide) rfl) hZ (hw _ (List.mem_of_getElem? (i := 46) rfl)) (hw _ (List.mem_of_getElem? (i := 2) rfl)) (by decide) (by decide)) qa37 qc37 (g := (mkF m 56 #[.val (.int p1), .val (.long p2), .second, .val (.long p3), .second, .val (.long p4), .second, .val (.long p5), .second, .val (.ref a23)] [(.long z36), (.int (2 : Int32)), (.ref a23)])) rfl (by rw [hml]; rfl) (Steps.refl _) (argsL := [(.int (2 : Int32)), (.long z36)]) (rest := []) (lenOf pd_8 rfl) rfl (by show 2 * 0 + _ ≤ _; exact Nat.le_of_eq rfl) (hb hby at_56) (fun _ _ => ⟨rfl, eq36, (by decide : 3 + 0 ≤ _), (by decide : 11 + 0 ≤ _)⟩)
      dsimp only [Pt.U, Pt.locs, Pt.cells, Pt.slots] at X37 l37 y37 z37 st37 hQ37
      subst l37 y37 z37
      obtain ⟨rfl, Nq37, Sq37, HI37⟩ := hQ37
      have N37 := Fr.app N36 Nq37
      refine Goes.tr st37 ?_
      show Goes _ _ _ _ (T37.setTop (mkF m 59 #[.val (.int p1), .val (.long p2), .second, .val (.long p3), .second, .val (.long p4), .second, .val (.long p5), .second, .val (.ref a23)] []))
      exact J59 _ _ X37 N37 (Nat.le_trans ZT Sq37) ⟨n + 1, by omega, HI37.mono (fun q => Or.inl q)⟩
  have J26 : ∀ (T : State) (locs : List Loc) (X : Stand p l e room_1 s m #[(.int p1), (.long p2), (.long p3), (.long p4), (.long p5)] below meth c T locs 3 11) (N : Fr n0 locs) (ZT : n0 ≤ T.heap.size) (HI : ∃ n, n ≤ 1 ∧ own_I Z T.heap a23 bc bm n (¬ (p1 &&& (1 : Int32)) = (0 : Int32))), Goes p.tables e below (Ends below s (Q0 Z p1 p2 p3 p4 p5  h0 n0) room_1.cells room_1.slots) (T.setTop (mkF m 26 #[.val (.int p1), .val (.long p2), .second, .val (.long p3), .second, .val (.long p4), .second, .val (.long p5), .second, .val (.ref a23)] [])) := by
    intro T locs X N ZT HI
    obtain ⟨n, hn, HI⟩ := HI
    refine Goes.st (fun _ k => XS.iloadN X.here hx rfl (hb hby at_26) rfl k) ?_
    show Goes _ _ _ _ (T.setTop (mkF m 27 #[.val (.int p1), .val (.long p2), .second, .val (.long p3), .second, .val (.long p4), .second, .val (.long p5), .second, .val (.ref a23)] [(.int p1)]))
    refine Goes.st (fun _ k => XS.iconst X.here hx rfl (hb hby at_27) k) ?_
    show Goes _ _ _ _ (T.setTop (mkF m 28 #[.val (.int p1), .val (.long p2), .second, .val (.long p3), .second, .val (.long p4), .second, .val (.long p5), .second, .val (.ref a23)] [(.int (2 : Int32)), (.int p1)]))
    refine Goes.st (fun _ k => XS.iand X.here hx rfl (hb hby at_28) rfl k) ?_
    show Goes _ _ _ _ (T.setTop (mkF m 29 #[.val (.int p1), .val (.long p2), .second, .val (.long p3), .second, .val (.long p4), .second, .val (.long p5), .second, .val (.ref a23)] [(.int (p1 &&& (2 : Int32)))]))
    by_cases hc : (p1 &&& (2 : Int32)) = (0 : Int32)
    · skip
      refine Goes.st (fun _ k => XS.ifYes X.here hx rfl (pc0 := 29) (pc' := 42) rfl (hb hby at_29) rfl ((if0 _ _).trans (teq hc).1) (by decide) (by decide) k) ?_
      show Goes _ _ _ _ (T.setTop (mkF m 42 #[.val (.int p1), .val (.long p2), .second, .val (.long p3), .second, .val (.long p4), .second, .val (.long p5), .second, .val (.ref a23)] []))
      exact J42 _ _ X N ZT ⟨n, by omega, HI⟩
    · skip
      refine Goes.st (fun _ k => XS.ifNo X.here hx rfl (hb hby at_29) rfl ((if0 _ _).trans (feq hc).1) k) ?_
      show Goes _ _ _ _ (T.setTop (mkF m 32 #[.val (.int p1), .val (.long p2), .second, .val (.long p3), .second, .val (.long p4), .second, .val (.long p5), .second, .val (.ref a23)] []))
      refine Goes.st (fun _ k => XS.aload X.here hx rfl (hb hby at_32) rfl rfl k) ?_
      show Goes _ _ _ _ (T.setTop (mkF m 34 #[.val (.int p1), .val (.long p2), .second, .val (.long p3), .second, .val (.long p4), .second, .val (.long p5), .second, .val (.ref a23)] [(.ref a23)]))
      refine Goes.st (fun _ k => XS.iconst X.here hx rfl (hb hby at_34) k) ?_
      show Goes _ _ _ _ (T.setTop (mkF m 35 #[.val (.int p1), .val (.long p2), .second, .val (.long p3), .second, .val (.long p4), .second, .val (.long p5), .second, .val (.ref a23)] [(.int (1 : Int32)), (.ref a23)]))
      refine Goes.st (fun _ k => XS.lloadN X.here hx rfl (hb hby at_35) rfl k) ?_
      show Goes _ _ _ _ (T.setTop (mkF m 36 #[.val (.int p1), .val (.long p2), .second, .val (.long p3), .second, .val (.long p4), .second, .val (.long p5), .second, .val (.ref a23)] [(.long p3), (.int (1 : Int32)), (.ref a23)]))
      obtain ⟨_, _, ⟨T38, L38, k38, n38⟩, -, X38, ⟨Lc38, hQ38, l38, y38, z38⟩, st38⟩ := Jvm.LawKit.callS X hx (y := (⟨"com/example/careful_nets/carefulnets/statespace/MarkingClearPinLaw", "pos", "(J)J"⟩ : MethodName)) hown (mvT hZ (hw _ (List.mem_of_getElem? (i := 37) rfl))) (mvT hZ (hw _ (List.mem_of_getElem? (i := 38) rfl))) (mvT hZ (hw _ (List.mem_of_getElem? (i := 39) rfl))) (mvT hZ (hw _ (List.mem_of_getElem? (i := 40) rfl))) (by decide) (backOf (W := 2) (rm7 l Z a0 hw [] p3 T.heap n0 ZT) hZ (hw _ (List.mem_of_getElem? (i := 40) rfl)) (hw _ (List.mem_of_getElem? (i := 39) rfl)) (by decide) (by decide)) (g := (mkF m 36 #[.val (.int p1), .val (.long p2), .second, .val (.long p3), .second, .val (.long p4), .second, .val (.long p5), .second, .val (.ref a23)] [(.long p3), (.int (1 : Int32)), (.ref a23)])) rfl (by rw [hml]; rfl) (argsL := [(.long p3)]) (rest := [(.int (1 : Int32)), (.ref a23)]) (lenOf pd_7 rfl) rfl (by show 2 * 0 + _ ≤ _; exact Nat.le_of_eq rfl) (hb hby at_36) (fun _ _ => ⟨rfl, rfl, (by decide : 3 + 0 ≤ _), (by decide : 11 + 0 ≤ _)⟩)
      dsimp only [Pt.U, Pt.locs, Pt.cells, Pt.slots] at X38 l38 y38 z38 st38 hQ38
      subst l38 y38 z38
      obtain ⟨z38, rfl, Nq38, eq38⟩ := hQ38
      have N38 := Fr.app N Nq38
      refine Goes.st st38 ?_
      show Goes _ _ _ _ (T38.setTop (mkF m 39 #[.val (.int p1), .val (.long p2), .second, .val (.long p3), .second, .val (.long p4), .second, .val (.long p5), .second, .val (.ref a23)] [(.long z38), (.int (1 : Int32)), (.ref a23)]))
      obtain ⟨cq39, kq39, qa39, qb39, qc39⟩ := isOf hZ eq38 HI.1.1
      obtain ⟨_, _, ⟨T39, L39, k39, n39⟩, -, X39, ⟨Lc39, hQ39, l39, y39, z39⟩, st39⟩ := X38.virtualBack hx (y := (⟨"com/example/careful_nets/carefulnets/statespace/Marking", "append", "(IJ)V"⟩ : MethodName)) (z := (⟨"com/example/careful_nets/carefulnets/statespace/Marking", "append", "(IJ)V"⟩ : MethodName)) hown (mvT hZ (hw _ (List.mem_of_getElem? (i := 42) rfl))) (mvT hZ (hw _ (List.mem_of_getElem? (i := 43) rfl))) (notFace_of_selects (args := #[]) (mvT hZ (hw _ (List.mem_of_getElem? (i := 45) rfl)))) (mvT hZ (hw _ (List.mem_of_getElem? (i := 45) rfl))) (mvT hZ (hw _ (List.mem_of_getElem? (i := 44) rfl))) (by decide) (backOf (W := 0) (rm8 l Z a0 hw [] a23 (1 : Int32) z38 bc bm n 1 (¬ (p1 &&& (1 : Int32)) = (0 : Int32)) T.heap n0 ZT HI ga gc gm (by omega) (by decide) rfl) hZ (hw _ (List.mem_of_getElem? (i := 46) rfl)) (hw _ (List.mem_of_getElem? (i := 2) rfl)) (by decide) (by decide)) qa39 qc39 (g := (mkF m 39 #[.val (.int p1), .val (.long p2), .second, .val (.long p3), .second, .val (.long p4), .second, .val (.long p5), .second, .val (.ref a23)] [(.long z38), (.int (1 : Int32)), (.ref a23)])) rfl (by rw [hml]; rfl) (Steps.refl _) (argsL := [(.int (1 : Int32)), (.long z38)]) (rest := []) (lenOf pd_8 rfl) rfl (by show 2 * 0 + _ ≤ _; exact Nat.le_of_eq rfl) (hb hby at_39) (fun _ _ => ⟨rfl, eq38, (by decide : 3 + 0 ≤ _), (by decide : 11 + 0 ≤ _)⟩)
      dsimp only [Pt.U, Pt.locs, Pt.cells, Pt.slots] at X39 l39 y39 z39 st39 hQ39
      subst l39 y39 z39
      obtain ⟨rfl, Nq39, Sq39, HI39⟩ := hQ39
      have N39 := Fr.app N38 Nq39
      refine Goes.tr st39 ?_
      show Goes _ _ _ _ (T39.setTop (mkF m 42 #[.val (.int p1), .val (.long p2), .second, .val (.long p3), .second, .val (.long p4), .second, .val (.long p5), .second, .val (.ref a23)] []))
      exact J42 _ _ X39 N39 (Nat.le_trans ZT Sq39) ⟨n + 1, by omega, HI39.mono (fun q => Or.inl q)⟩
  obtain ⟨n, hnn⟩ : ∃ n : Nat, n = 0 := ⟨_, rfl⟩
  rw [← hnn] at HI0
  refine Goes.st (fun _ k => XS.iloadN X24.here hx rfl (hb hby at_10) rfl k) ?_
  show Goes _ _ _ _ (T24.setTop (mkF m 11 #[.val (.int p1), .val (.long p2), .second, .val (.long p3), .second, .val (.long p4), .second, .val (.long p5), .second, .val (.ref a23)] [(.int p1)]))
  refine Goes.st (fun _ k => XS.iconst X24.here hx rfl (hb hby at_11) k) ?_
  show Goes _ _ _ _ (T24.setTop (mkF m 12 #[.val (.int p1), .val (.long p2), .second, .val (.long p3), .second, .val (.long p4), .second, .val (.long p5), .second, .val (.ref a23)] [(.int (1 : Int32)), (.int p1)]))
  refine Goes.st (fun _ k => XS.iand X24.here hx rfl (hb hby at_12) rfl k) ?_
  show Goes _ _ _ _ (T24.setTop (mkF m 13 #[.val (.int p1), .val (.long p2), .second, .val (.long p3), .second, .val (.long p4), .second, .val (.long p5), .second, .val (.ref a23)] [(.int (p1 &&& (1 : Int32)))]))
  by_cases hc : (p1 &&& (1 : Int32)) = (0 : Int32)
  · skip
    refine Goes.st (fun _ k => XS.ifYes X24.here hx rfl (pc0 := 13) (pc' := 26) rfl (hb hby at_13) rfl ((if0 _ _).trans (teq hc).1) (by decide) (by decide) k) ?_
    show Goes _ _ _ _ (T24.setTop (mkF m 26 #[.val (.int p1), .val (.long p2), .second, .val (.long p3), .second, .val (.long p4), .second, .val (.long p5), .second, .val (.ref a23)] []))
    exact J26 _ _ X24 N24 Z2 ⟨n, by omega, HI0.mono (fun q => (q hc).elim)⟩
  · skip
    refine Goes.st (fun _ k => XS.ifNo X24.here hx rfl (hb hby at_13) rfl ((if0 _ _).trans (feq hc).1) k) ?_
    show Goes _ _ _ _ (T24.setTop (mkF m 16 #[.val (.int p1), .val (.long p2), .second, .val (.long p3), .second, .val (.long p4), .second, .val (.long p5), .second, .val (.ref a23)] []))
    refine Goes.st (fun _ k => XS.aload X24.here hx rfl (hb hby at_16) rfl rfl k) ?_
    show Goes _ _ _ _ (T24.setTop (mkF m 18 #[.val (.int p1), .val (.long p2), .second, .val (.long p3), .second, .val (.long p4), .second, .val (.long p5), .second, .val (.ref a23)] [(.ref a23)]))
    refine Goes.st (fun _ k => XS.iconst X24.here hx rfl (hb hby at_18) k) ?_
    show Goes _ _ _ _ (T24.setTop (mkF m 19 #[.val (.int p1), .val (.long p2), .second, .val (.long p3), .second, .val (.long p4), .second, .val (.long p5), .second, .val (.ref a23)] [(.int (0 : Int32)), (.ref a23)]))
    refine Goes.st (fun _ k => XS.lloadN X24.here hx rfl (hb hby at_19) rfl k) ?_
    show Goes _ _ _ _ (T24.setTop (mkF m 20 #[.val (.int p1), .val (.long p2), .second, .val (.long p3), .second, .val (.long p4), .second, .val (.long p5), .second, .val (.ref a23)] [(.long p2), (.int (0 : Int32)), (.ref a23)]))
    obtain ⟨_, _, ⟨T40, L40, k40, n40⟩, -, X40, ⟨Lc40, hQ40, l40, y40, z40⟩, st40⟩ := Jvm.LawKit.callS X24 hx (y := (⟨"com/example/careful_nets/carefulnets/statespace/MarkingClearPinLaw", "pos", "(J)J"⟩ : MethodName)) hown (mvT hZ (hw _ (List.mem_of_getElem? (i := 37) rfl))) (mvT hZ (hw _ (List.mem_of_getElem? (i := 38) rfl))) (mvT hZ (hw _ (List.mem_of_getElem? (i := 39) rfl))) (mvT hZ (hw _ (List.mem_of_getElem? (i := 40) rfl))) (by decide) (backOf (W := 2) (rm7 l Z a0 hw [] p2 T24.heap n0 Z2) hZ (hw _ (List.mem_of_getElem? (i := 40) rfl)) (hw _ (List.mem_of_getElem? (i := 39) rfl)) (by decide) (by decide)) (g := (mkF m 20 #[.val (.int p1), .val (.long p2), .second, .val (.long p3), .second, .val (.long p4), .second, .val (.long p5), .second, .val (.ref a23)] [(.long p2), (.int (0 : Int32)), (.ref a23)])) rfl (by rw [hml]; rfl) (argsL := [(.long p2)]) (rest := [(.int (0 : Int32)), (.ref a23)]) (lenOf pd_7 rfl) rfl (by show 2 * 0 + _ ≤ _; exact Nat.le_of_eq rfl) (hb hby at_20) (fun _ _ => ⟨rfl, rfl, (by decide : 3 + 0 ≤ _), (by decide : 11 + 0 ≤ _)⟩)
    dsimp only [Pt.U, Pt.locs, Pt.cells, Pt.slots] at X40 l40 y40 z40 st40 hQ40
    subst l40 y40 z40
    obtain ⟨z40, rfl, Nq40, eq40⟩ := hQ40
    have N40 := Fr.app N24 Nq40
    refine Goes.st st40 ?_
    show Goes _ _ _ _ (T40.setTop (mkF m 23 #[.val (.int p1), .val (.long p2), .second, .val (.long p3), .second, .val (.long p4), .second, .val (.long p5), .second, .val (.ref a23)] [(.long z40), (.int (0 : Int32)), (.ref a23)]))
    obtain ⟨cq41, kq41, qa41, qb41, qc41⟩ := isOf hZ eq40 HI0.1.1
    obtain ⟨_, _, ⟨T41, L41, k41, n41⟩, -, X41, ⟨Lc41, hQ41, l41, y41, z41⟩, st41⟩ := X40.virtualBack hx (y := (⟨"com/example/careful_nets/carefulnets/statespace/Marking", "append", "(IJ)V"⟩ : MethodName)) (z := (⟨"com/example/careful_nets/carefulnets/statespace/Marking", "append", "(IJ)V"⟩ : MethodName)) hown (mvT hZ (hw _ (List.mem_of_getElem? (i := 42) rfl))) (mvT hZ (hw _ (List.mem_of_getElem? (i := 43) rfl))) (notFace_of_selects (args := #[]) (mvT hZ (hw _ (List.mem_of_getElem? (i := 45) rfl)))) (mvT hZ (hw _ (List.mem_of_getElem? (i := 45) rfl))) (mvT hZ (hw _ (List.mem_of_getElem? (i := 44) rfl))) (by decide) (backOf (W := 0) (rm8 l Z a0 hw [] a23 (0 : Int32) z40 bc bm n 0 False T24.heap n0 Z2 HI0 ga gc gm (by omega) (by decide) rfl) hZ (hw _ (List.mem_of_getElem? (i := 46) rfl)) (hw _ (List.mem_of_getElem? (i := 2) rfl)) (by decide) (by decide)) qa41 qc41 (g := (mkF m 23 #[.val (.int p1), .val (.long p2), .second, .val (.long p3), .second, .val (.long p4), .second, .val (.long p5), .second, .val (.ref a23)] [(.long z40), (.int (0 : Int32)), (.ref a23)])) rfl (by rw [hml]; rfl) (Steps.refl _) (argsL := [(.int (0 : Int32)), (.long z40)]) (rest := []) (lenOf pd_8 rfl) rfl (by show 2 * 0 + _ ≤ _; exact Nat.le_of_eq rfl) (hb hby at_23) (fun _ _ => ⟨rfl, eq40, (by decide : 3 + 0 ≤ _), (by decide : 11 + 0 ≤ _)⟩)
    dsimp only [Pt.U, Pt.locs, Pt.cells, Pt.slots] at X41 l41 y41 z41 st41 hQ41
    subst l41 y41 z41
    obtain ⟨rfl, Nq41, Sq41, HI41⟩ := hQ41
    have N41 := Fr.app N40 Nq41
    refine Goes.tr st41 ?_
    show Goes _ _ _ _ (T41.setTop (mkF m 26 #[.val (.int p1), .val (.long p2), .second, .val (.long p3), .second, .val (.long p4), .second, .val (.long p5), .second, .val (.ref a23)] []))
    exact J26 _ _ X41 N41 (Nat.le_trans Z2 Sq41) ⟨n + 1, by omega, HI41.mono (fun q => Or.inr rfl)⟩
set_option maxRecDepth 65536 in
set_option maxHeartbeats 40000000 in
theorem comes_1 {Post : Tables → Env → Array Value → State → Outcome → State → Prop} (hpost : ∀ tb e args s v u, (limb_1_1.after args s (.returned v) u = true ∧ limb_1_2.after args s (.returned v) u = true ∧ True) → FrameEnd s (.returned v) u (Jvm.fieldLocs frame_1_writes args s ++ Jvm.arrayLocs frame_1_arrays args s ++ Jvm.staticLocs frame_1_statics s) 16 128 → Post tb e args s (.returned v) u) :
    ArmFor flags0 classFile x code maxLocals ret World_1 tables_1 room_1 Calls_1 rest_1 Pre_1 Post := by
  intro l hfl _ _ p e ha hc hk s m args below hf hA hF happ hP
  obtain ⟨hcalls, hrest, hpre⟩ := hP
  obtain ⟨-, -, -, hnamed, -, -, -, hat⟩ := (Spec.applies_iff hf).mp happ
  obtain ⟨hg, hn⟩ := and_e (Cond.before_iff.mp (show (Jvm.Cond.and given_1 narrow_1).before args s = true from hpre))
  obtain ⟨hq, hr0⟩ := and_e hg
  obtain ⟨hk0, hr1⟩ := and_e hr0
  obtain ⟨hk1, hr2⟩ := and_e hr1
  obtain ⟨hk2, hr3⟩ := and_e hr2
  obtain ⟨hk3, hr4⟩ := and_e hr3
  obtain ⟨w0, w1, w2, w3, w4, rfl⟩ : ∃ w0 w1 w2 w3 w4 : Value, args = #[w0, w1, w2, w3, w4] := by
    have hs : args.size = 5 := by simpa [Cond.value, given_1] using hq
    obtain ⟨L⟩ := args
    match L, hs with
    | [w0, w1, w2, w3, w4], _ => exact ⟨w0, w1, w2, w3, w4, rfl⟩
  have hw := fun d (hd : d ∈ tables_1) => atoms_spec (ws := Jvm.Cond.code x code maxLocals ret :: tables_1) hat d (List.mem_cons_of_mem _ hd)
  obtain ⟨i0, q0⟩ := is_v hk0
  obtain rfl : w0 = (.int i0) := Option.some.inj q0
  obtain ⟨i1, q1⟩ := isL_v hk1
  obtain rfl : w1 = (.long i1) := Option.some.inj q1
  obtain ⟨i2, q2⟩ := isL_v hk2
  obtain rfl : w2 = (.long i2) := Option.some.inj q2
  obtain ⟨i3, q3⟩ := isL_v hk3
  obtain rfl : w3 = (.long i3) := Option.some.inj q3
  obtain ⟨i4, q4⟩ := isL_v hr4
  obtain rfl : w4 = (.long i4) := Option.some.inj q4
  obtain ⟨n, o, h1, h2, h3, _, L, rfl, ⟨rfl, N⟩, hq⟩ := rm0 l s _ hw tables_1 i0 i1 i2 i3 i4 s.heap s.heap.size (Nat.le_refl _) p e ha hc hk s m _ below hf ((Spec.applies_iff_loose hf).mp happ).1 ⟨rfl, State.Warmed39.refl s, rfl⟩ trivial
  refine ⟨n, _, h1, h2, h3, hpost _ _ _ _ _ _ ⟨Cond.after_iff.mpr rfl, Cond.after_iff.mpr (eq_i res_at (Term.int_eval (1)) rfl), trivial⟩ ⟨hq.1, hq.2.1, (hq.2.2.sift fun y hy => Or.inr (N y hy)).mono (by decide) (by decide)⟩⟩
theorem main_1_1 : Claimed_1_1 := comes_1 fun _ _ _ _ _ _ h hF => ⟨h.1, hF⟩
theorem main_1_2 : Claimed_1_2 := comes_1 fun _ _ _ _ _ _ h hF => ⟨h.2.1, hF⟩
end Jvm.Pilot.@@N@@
namespace Jvm.Pilot.@@N@@
open Jvm Jvm.ClassFile Sem Op Lib Jvm.Free Jvm.Stand Jvm.Pilot.@@N@@.Jvm.D
/-! MADE BY PROGRAM (witnessworld.py) out of the Statement's table words and the real class files: 11 classes; the members and pool entries that the words name. The judged class is class 1, her method 2. -/
namespace start1
open Jvm.ClassFile
def u (s : String) : CpInfo := .utf8 (stringToUtf16 s)
/-- a pool by its gaps: so many unusable entries, then the entry; so many at the end -/
def gap : Nat → List CpInfo → List CpInfo
  | 0, r => r
  | n + 1, r => .unusable :: gap n r
def poolList (es : List (Nat × CpInfo)) (last : Nat) : List CpInfo := es.foldr (fun e r => gap e.1 (e.2 :: r)) (gap last [])
def pool (es : List (Nat × CpInfo)) (last : Nat) : Array CpInfo := ⟨poolList es last⟩
def fileOf (pool : Array CpInfo) (this : Nat) (attrs : Array Attribute := #[]) (ms : Array MethodInfo := #[]) (fl : Nat := 33) (sup : Nat := 0) (ifs : Array Nat := #[]) (fds : Array FieldInfo := #[]) : ClassFile where
  minorVersion := 0
  majorVersion := 65
  constantPool := pool
  accessFlags := fl
  thisClass := this
  superClass := sup
  interfaces := ifs
  fields := fds
  methods := ms
  attributes := attrs
def plain (name : String) (sup : Option ClassId) : Class where
  name := name
  kind := .ordinary
  loader := none
  accessFlags := 33
  super := sup
  interfaces := #[]
  cf := none
  fields := #[]
  methods := #[]
  instanceTypes := #[]
  staticTypes := #[]
  resolved := #[]
  callSites := []
  init := .initialized
  statics := none
  mirror := none

def pool0 : Array CpInfo := pool [(5, u "<init>"), (0, u "()V"), (1, .class_ 10), (1, u "java/lang/Object")] 113

def k0c0 : Code := { maxStack := 0, maxLocals := 1, code := object_method_1_code, exceptionTable := #[], attributes := #[] }
def k0m0 : Method := { name := "<init>", desc := "()V", sig := { parameters := [], returnType := none }, accessFlags := 1, code := some k0c0 }
/-- java/lang/Object -/
def k0 : Class := { plain "java/lang/Object" none with
  accessFlags := 33
  interfaces := #[]
  cf := some (fileOf pool0 8 #[] #[{ accessFlags := 1, nameIndex := 5, descriptorIndex := 6, attributes := #[] }] 33 0 #[] #[])
  fields := #[]
  methods := #[k0m0]
  instanceTypes := #[]
  staticTypes := #[]
  resolved := Array.replicate 124 none
  statics := none }

def pool1 : Array CpInfo := pool [(2, .class_ 4), (1, u "java/lang/Object"), (0, u "<init>"), (0, u "()V"), (2, .long 9223372036854775807), (1, .class_ 12), (0, u "com/example/careful_nets/carefulnets/statespace/Marking"), (0, .methodref 11 14), (0, .nameAndType 5 15), (0, u "(I)V"), (0, .methodref 17 18), (0, .class_ 19), (0, .nameAndType 20 21), (0, u "com/example/careful_nets/carefulnets/statespace/MarkingClearPinLaw"), (0, u "pos"), (0, u "(J)J"), (0, .methodref 11 23), (0, .nameAndType 24 25), (0, u "append"), (0, u "(IJ)V"), (0, .methodref 11 27), (0, .nameAndType 28 15), (0, u "growWithoutEnd"), (0, .methodref 11 30), (0, .nameAndType 31 6), (0, u "clear"), (0, .methodref 11 33), (0, .nameAndType 34 35), (0, u "markedCount"), (0, u "()I"), (0, .methodref 11 37), (0, .nameAndType 38 39), (0, u "count"), (0, u "(I)J"), (0, .methodref 11 41), (0, .nameAndType 42 43), (0, u "marksBetween"), (0, u "(II)Z"), (3, u "law"), (0, u "(IJJJJ)Z")] 2

def k1m0 : Method := { name := "<init>", desc := "()V", sig := { parameters := [], returnType := none }, accessFlags := 1, code := none }
def k1c1 : Code := { maxStack := 4, maxLocals := 4, code := method_2_code, exceptionTable := #[], attributes := #[] }
def k1m1 : Method := { name := "pos", desc := "(J)J", sig := { parameters := [.long], returnType := some .long }, accessFlags := 10, code := some k1c1 }
def k1c2 : Code := { maxStack := 4, maxLocals := 10, code := code, exceptionTable := #[], attributes := #[] }
def k1m2 : Method := { name := "law", desc := "(IJJJJ)Z", sig := { parameters := [.int, .long, .long, .long, .long], returnType := some .boolean }, accessFlags := 9, code := some k1c2 }
/-- com/example/careful_nets/carefulnets/statespace/MarkingClearPinLaw -/
def k1 : Class := { plain "com/example/careful_nets/carefulnets/statespace/MarkingClearPinLaw" (some 0) with
  accessFlags := 49
  interfaces := #[]
  cf := some (fileOf pool1 17 #[] #[{ accessFlags := 1, nameIndex := 5, descriptorIndex := 6, attributes := #[] }, { accessFlags := 10, nameIndex := 20, descriptorIndex := 21, attributes := #[] }, { accessFlags := 9, nameIndex := 47, descriptorIndex := 48, attributes := #[] }] 49 2 #[] #[])
  fields := #[]
  methods := #[k1m0, k1m1, k1m2]
  instanceTypes := #[]
  staticTypes := #[]
  resolved := Array.replicate 51 none
  statics := none }

def pool2 : Array CpInfo := pool [(3, .methodref 4 5), (0, .class_ 6), (0, .nameAndType 7 8), (0, u "java/lang/Object"), (0, u "<init>"), (0, u "()V"), (0, .fieldref 10 11), (0, .class_ 12), (0, .nameAndType 13 14), (0, u "com/example/careful_nets/carefulnets/statespace/Marking"), (0, u "counts"), (0, u "[J"), (0, .fieldref 10 16), (0, .nameAndType 17 18), (0, u "marked"), (0, u "[I"), (0, .fieldref 10 20), (0, .nameAndType 21 22), (0, u "markedCount"), (0, u "I"), (6, .long 9223372036854775807), (3, u "clear"), (2, u "append"), (0, u "(IJ)V"), (6, u "OMEGA"), (0, u "J"), (1, u "(I)V"), (2, u "count"), (0, u "(I)J"), (0, u "()I"), (2, u "marksBetween"), (0, u "(II)Z"), (1, u "growWithoutEnd")] 5

def k2c0 : Code := { maxStack := 2, maxLocals := 2, code := prog_77_method_1_code, exceptionTable := #[], attributes := #[] }
def k2m0 : Method := { name := "<init>", desc := "(I)V", sig := { parameters := [.int], returnType := none }, accessFlags := 0, code := some k2c0 }
def k2c1 : Code := { maxStack := 2, maxLocals := 2, code := prog_77_method_2_code, exceptionTable := #[], attributes := #[] }
def k2m1 : Method := { name := "count", desc := "(I)J", sig := { parameters := [.int], returnType := some .long }, accessFlags := 0, code := some k2c1 }
def k2c2 : Code := { maxStack := 1, maxLocals := 1, code := prog_77_method_3_code, exceptionTable := #[], attributes := #[] }
def k2m2 : Method := { name := "markedCount", desc := "()I", sig := { parameters := [], returnType := some .int }, accessFlags := 0, code := some k2c2 }
def k2c3 : Code := { maxStack := 4, maxLocals := 5, code := prog_77_method_5_code, exceptionTable := #[], attributes := #[] }
def k2m3 : Method := { name := "marksBetween", desc := "(II)Z", sig := { parameters := [.int, .int], returnType := some .boolean }, accessFlags := 0, code := some k2c3 }
def k2c4 : Code := { maxStack := 4, maxLocals := 2, code := prog_77_method_6_code, exceptionTable := #[], attributes := #[] }
def k2m4 : Method := { name := "clear", desc := "()V", sig := { parameters := [], returnType := none }, accessFlags := 0, code := some k2c4 }
def k2c5 : Code := { maxStack := 5, maxLocals := 4, code := prog_77_method_7_code, exceptionTable := #[], attributes := #[] }
def k2m5 : Method := { name := "append", desc := "(IJ)V", sig := { parameters := [.int, .long], returnType := none }, accessFlags := 0, code := some k2c5 }
def k2c6 : Code := { maxStack := 4, maxLocals := 2, code := prog_77_method_8_code, exceptionTable := #[], attributes := #[] }
def k2m6 : Method := { name := "growWithoutEnd", desc := "(I)V", sig := { parameters := [.int], returnType := none }, accessFlags := 0, code := some k2c6 }
/-- com/example/careful_nets/carefulnets/statespace/Marking -/
def k2 : Class := { plain "com/example/careful_nets/carefulnets/statespace/Marking" (some 0) with
  accessFlags := 32
  interfaces := #[]
  cf := some (fileOf pool2 10 #[] #[{ accessFlags := 0, nameIndex := 7, descriptorIndex := 47, attributes := #[] }, { accessFlags := 0, nameIndex := 50, descriptorIndex := 51, attributes := #[] }, { accessFlags := 0, nameIndex := 21, descriptorIndex := 52, attributes := #[] }, { accessFlags := 0, nameIndex := 55, descriptorIndex := 56, attributes := #[] }, { accessFlags := 0, nameIndex := 33, descriptorIndex := 8, attributes := #[] }, { accessFlags := 0, nameIndex := 36, descriptorIndex := 37, attributes := #[] }, { accessFlags := 0, nameIndex := 58, descriptorIndex := 47, attributes := #[] }] 32 4 #[] #[{ accessFlags := 24, nameIndex := 44, descriptorIndex := 45, attributes := #[] }, { accessFlags := 18, nameIndex := 13, descriptorIndex := 14, attributes := #[] }, { accessFlags := 18, nameIndex := 17, descriptorIndex := 18, attributes := #[] }, { accessFlags := 2, nameIndex := 21, descriptorIndex := 22, attributes := #[] }])
  fields := #[{ name := "OMEGA", type := .long, accessFlags := 24, slot := 0, constantValue := 0 }, { name := "counts", type := (.array .long), accessFlags := 18, slot := 0, constantValue := 0 }, { name := "marked", type := (.array .int), accessFlags := 18, slot := 1, constantValue := 0 }, { name := "markedCount", type := .int, accessFlags := 2, slot := 2, constantValue := 0 }]
  methods := #[k2m0, k2m1, k2m2, k2m3, k2m4, k2m5, k2m6]
  instanceTypes := #[(.array .long), (.array .int), .int]
  staticTypes := #[.long]
  resolved := Array.replicate 64 none
  statics := none }

def pool3 : Array CpInfo := pool [(1, u "java/lang/Cloneable"), (0, .class_ 1), (0, u "java/lang/Object"), (0, .class_ 3)] 3

/-- java/lang/Cloneable -/
def k3 : Class := { plain "java/lang/Cloneable" (some 0) with
  accessFlags := 1537
  interfaces := #[]
  cf := some (fileOf pool3 2 #[] #[] 1537 4 #[] #[])
  fields := #[]
  methods := #[]
  instanceTypes := #[]
  staticTypes := #[]
  resolved := Array.replicate 8 none
  statics := none }

def pool4 : Array CpInfo := pool [(1, u "java/io/Serializable"), (0, .class_ 1), (0, u "java/lang/Object"), (0, .class_ 3)] 3

/-- java/io/Serializable -/
def k4 : Class := { plain "java/io/Serializable" (some 0) with
  accessFlags := 1537
  interfaces := #[]
  cf := some (fileOf pool4 2 #[] #[] 1537 4 #[] #[])
  fields := #[]
  methods := #[]
  instanceTypes := #[]
  staticTypes := #[]
  resolved := Array.replicate 8 none
  statics := none }

/-- the primitive byte -/
def k5 : Class := { plain "byte" none with kind := .primitive 'B', accessFlags := 0x411 }
/-- [B -/
def k6 : Class := { plain "[B" (some 0) with kind := .array 5 .byte, interfaces := #[3, 4], accessFlags := 1041 }

/-- the primitive int -/
def k7 : Class := { plain "int" none with kind := .primitive 'I', accessFlags := 0x411 }
/-- [I -/
def k8 : Class := { plain "[I" (some 0) with kind := .array 7 .int, interfaces := #[3, 4], accessFlags := 1041 }

/-- the primitive long -/
def k9 : Class := { plain "long" none with kind := .primitive 'J', accessFlags := 0x411 }
/-- [J -/
def k10 : Class := { plain "[J" (some 0) with kind := .array 9 .long, interfaces := #[3, 4], accessFlags := 1041 }

def heap : Heap := #[]
def classes : Array Class := #[k0, k1, k2, k3, k4, k5, k6, k7, k8, k9, k10]
def interned : List (Array UInt16 × Addr) := []
def slotsUsed : Nat := 0
def theMethod : MethodId := ⟨1, 2⟩
def args0 : Array Value := #[.int 63, .long 1, .long 2, .long 3, .long 4]
def aboutOver (below : List Frame) : State where
  vm := { classes := classes, interned := interned.toArray }
  heap := heap
  slotsUsed := slotsUsed
  threads := #[{ frames := .invoking theMethod args0 :: below }]
def below0 : List Frame := [.native { method := ⟨0, 0⟩, args := #[] }]
def about1 : State := aboutOver below0
def p0 : Program := .bare "" "" ""
def e0 : Env := launch0.env 0 0 0
theorem w_frames : about1.frames = Frame.invoking theMethod args0 :: below0 := rfl
set_option maxRecDepth 65536 in
theorem w_args : argsFit about1.vm theMethod args0 = true := by decide +kernel
set_option maxRecDepth 65536 in
theorem w_heap : heapFits about1 = true := by decide +kernel
set_option maxRecDepth 65536 in
theorem w_runnable : about1.curStatus? = some .runnable := by decide +kernel
set_option maxRecDepth 65536 in
theorem w_alone : about1.alone = true := by decide +kernel
set_option maxRecDepth 65536 in
theorem w_named : about1.methodNamed? x = some theMethod := by decide +kernel
set_option maxRecDepth 65536 in
theorem w_hears : about1.hears theMethod below0 = true := by decide +kernel
set_option maxRecDepth 65536 in
theorem w_ripe : about1.ripe theMethod args0 below0 = true := by decide +kernel
theorem w_running : about1.status = .running := rfl
set_option maxRecDepth 65536 in
theorem w_room : about1.hasRoom e0.platform room_1 = true :=
  launch0.hasRoom_least _ room_1 (by decide +kernel) (by decide +kernel) (by decide +kernel) (by decide +kernel) (by decide +kernel) (by decide +kernel)
theorem allAtoms_all (ts : List Jvm.Cond) (a : Array Jvm.Value) (st : Jvm.State) : (allAtoms ts).before a st = ts.all (fun c => c.before a st) := by
  induction ts with
  | nil => rfl
  | cons c t ih =>
    show (Jvm.Cond.and c (allAtoms t)).before a st = _
    rw [Jvm.Cond.before_and, ih, List.all_cons]
def words1 : List Jvm.Cond := Jvm.Cond.code x code maxLocals ret :: tables_1
/-- a 'code' word, met by the world's own term for the bytes: nothing is compared byte by byte -/
theorem code_word {y : MethodName} {bytes : ByteArray} {mx : Nat} {rt : Option FieldType} {a : Array Value} {s : State} {m : MethodId} {meth : Method} {c : Code} (h1 : s.methodNamed? y = some m) (h2 : s.vm.method? m = some meth) (h3 : meth.code = some c) (h4 : c.code = bytes)
    (h5 : (c.maxLocals == mx && c.exceptionTable.isEmpty && decide (c.maxStack ≤ mostOperands) && decide (meth.sig.returnType = rt) && !meth.locks && decide (parseMethodDescriptor y.desc = some meth.sig)) = true) : (Jvm.Cond.code y bytes mx rt).before a s = true := by
  simp only [Bool.and_eq_true, beq_iff_eq, Bool.not_eq_true', decide_eq_true_eq] at h5
  obtain ⟨⟨⟨⟨⟨g1, g2⟩, g3⟩, g4⟩, g5⟩, g6⟩ := h5
  simp [Cond.before, Cond.holds, Cond.value, h1, h2, h3, h4, g1, g2, g3, g4, g5, g6]
def isCode : Jvm.Cond → Bool
  | .code _ _ _ _ => true
  | _ => false
theorem all_split {L : List Jvm.Cond} {P : Jvm.Cond → Bool} (h1 : L.all (fun c => isCode c || P c) = true) (h2 : ∀ c ∈ L.filter isCode, P c = true) : L.all P = true := by
  refine List.all_eq_true.mpr fun c hc => ?_
  have h := List.all_eq_true.mp h1 c hc
  rcases Bool.eq_false_or_eq_true (isCode c) with hi | hi
  · exact h2 c (List.mem_filter.mpr ⟨hc, hi⟩)
  · simpa [hi] using h
set_option maxRecDepth 65536 in
theorem w_c0 : (Jvm.Cond.code x code maxLocals ret).before args0 about1 = true := code_word (m := ⟨1, 2⟩) (meth := k1m2) (c := k1c2) (by decide +kernel) rfl rfl rfl (by decide +kernel)
set_option maxRecDepth 65536 in
theorem w_c1 : (Jvm.Cond.code ({ cls := "com/example/careful_nets/carefulnets/statespace/Marking", name := "<init>", desc := "(I)V" } : Jvm.MethodName) prog_77_method_1_code (2 : Nat) (Option.none : Option Jvm.ClassFile.FieldType)).before args0 about1 = true := code_word (m := ⟨2, 0⟩) (meth := k2m0) (c := k2c0) (by decide +kernel) rfl rfl rfl (by decide +kernel)
set_option maxRecDepth 65536 in
theorem w_c2 : (Jvm.Cond.code ({ cls := "java/lang/Object", name := "<init>", desc := "()V" } : Jvm.MethodName) object_method_1_code (1 : Nat) (Option.none : Option Jvm.ClassFile.FieldType)).before args0 about1 = true := code_word (m := ⟨0, 0⟩) (meth := k0m0) (c := k0c0) (by decide +kernel) rfl rfl rfl (by decide +kernel)
set_option maxRecDepth 65536 in
theorem w_c3 : (Jvm.Cond.code ({ cls := "com/example/careful_nets/carefulnets/statespace/Marking", name := "clear", desc := "()V" } : Jvm.MethodName) prog_77_method_6_code (2 : Nat) (Option.none : Option Jvm.ClassFile.FieldType)).before args0 about1 = true := code_word (m := ⟨2, 4⟩) (meth := k2m4) (c := k2c4) (by decide +kernel) rfl rfl rfl (by decide +kernel)
set_option maxRecDepth 65536 in
theorem w_c4 : (Jvm.Cond.code ({ cls := "com/example/careful_nets/carefulnets/statespace/Marking", name := "markedCount", desc := "()I" } : Jvm.MethodName) prog_77_method_3_code (1 : Nat) (Option.some Jvm.ClassFile.FieldType.int)).before args0 about1 = true := code_word (m := ⟨2, 2⟩) (meth := k2m2) (c := k2c2) (by decide +kernel) rfl rfl rfl (by decide +kernel)
set_option maxRecDepth 65536 in
theorem w_c5 : (Jvm.Cond.code ({ cls := "com/example/careful_nets/carefulnets/statespace/Marking", name := "count", desc := "(I)J" } : Jvm.MethodName) prog_77_method_2_code (2 : Nat) (Option.some Jvm.ClassFile.FieldType.long)).before args0 about1 = true := code_word (m := ⟨2, 1⟩) (meth := k2m1) (c := k2c1) (by decide +kernel) rfl rfl rfl (by decide +kernel)
set_option maxRecDepth 65536 in
theorem w_c6 : (Jvm.Cond.code ({ cls := "com/example/careful_nets/carefulnets/statespace/Marking", name := "marksBetween", desc := "(II)Z" } : Jvm.MethodName) prog_77_method_5_code (5 : Nat) (Option.some Jvm.ClassFile.FieldType.boolean)).before args0 about1 = true := code_word (m := ⟨2, 3⟩) (meth := k2m3) (c := k2c3) (by decide +kernel) rfl rfl rfl (by decide +kernel)
set_option maxRecDepth 65536 in
theorem w_c7 : (Jvm.Cond.code ({ cls := "com/example/careful_nets/carefulnets/statespace/MarkingClearPinLaw", name := "pos", desc := "(J)J" } : Jvm.MethodName) method_2_code (4 : Nat) (Option.some Jvm.ClassFile.FieldType.long)).before args0 about1 = true := code_word (m := ⟨1, 1⟩) (meth := k1m1) (c := k1c1) (by decide +kernel) rfl rfl rfl (by decide +kernel)
set_option maxRecDepth 65536 in
theorem w_c8 : (Jvm.Cond.code ({ cls := "com/example/careful_nets/carefulnets/statespace/Marking", name := "append", desc := "(IJ)V" } : Jvm.MethodName) prog_77_method_7_code (4 : Nat) (Option.none : Option Jvm.ClassFile.FieldType)).before args0 about1 = true := code_word (m := ⟨2, 5⟩) (meth := k2m5) (c := k2c5) (by decide +kernel) rfl rfl rfl (by decide +kernel)
set_option maxRecDepth 65536 in
theorem w_c9 : (Jvm.Cond.code ({ cls := "com/example/careful_nets/carefulnets/statespace/Marking", name := "growWithoutEnd", desc := "(I)V" } : Jvm.MethodName) prog_77_method_8_code (2 : Nat) (Option.none : Option Jvm.ClassFile.FieldType)).before args0 about1 = true := code_word (m := ⟨2, 6⟩) (meth := k2m6) (c := k2c6) (by decide +kernel) rfl rfl rfl (by decide +kernel)
def codes1 : List Jvm.Cond := [Jvm.Cond.code x code maxLocals ret, Jvm.Cond.code ({ cls := "com/example/careful_nets/carefulnets/statespace/Marking", name := "<init>", desc := "(I)V" } : Jvm.MethodName) prog_77_method_1_code (2 : Nat) (Option.none : Option Jvm.ClassFile.FieldType), Jvm.Cond.code ({ cls := "java/lang/Object", name := "<init>", desc := "()V" } : Jvm.MethodName) object_method_1_code (1 : Nat) (Option.none : Option Jvm.ClassFile.FieldType), Jvm.Cond.code ({ cls := "com/example/careful_nets/carefulnets/statespace/Marking", name := "clear", desc := "()V" } : Jvm.MethodName) prog_77_method_6_code (2 : Nat) (Option.none : Option Jvm.ClassFile.FieldType), Jvm.Cond.code ({ cls := "com/example/careful_nets/carefulnets/statespace/Marking", name := "markedCount", desc := "()I" } : Jvm.MethodName) prog_77_method_3_code (1 : Nat) (Option.some Jvm.ClassFile.FieldType.int), Jvm.Cond.code ({ cls := "com/example/careful_nets/carefulnets/statespace/Marking", name := "count", desc := "(I)J" } : Jvm.MethodName) prog_77_method_2_code (2 : Nat) (Option.some Jvm.ClassFile.FieldType.long), Jvm.Cond.code ({ cls := "com/example/careful_nets/carefulnets/statespace/Marking", name := "marksBetween", desc := "(II)Z" } : Jvm.MethodName) prog_77_method_5_code (5 : Nat) (Option.some Jvm.ClassFile.FieldType.boolean), Jvm.Cond.code ({ cls := "com/example/careful_nets/carefulnets/statespace/MarkingClearPinLaw", name := "pos", desc := "(J)J" } : Jvm.MethodName) method_2_code (4 : Nat) (Option.some Jvm.ClassFile.FieldType.long), Jvm.Cond.code ({ cls := "com/example/careful_nets/carefulnets/statespace/Marking", name := "append", desc := "(IJ)V" } : Jvm.MethodName) prog_77_method_7_code (4 : Nat) (Option.none : Option Jvm.ClassFile.FieldType), Jvm.Cond.code ({ cls := "com/example/careful_nets/carefulnets/statespace/Marking", name := "growWithoutEnd", desc := "(I)V" } : Jvm.MethodName) prog_77_method_8_code (2 : Nat) (Option.none : Option Jvm.ClassFile.FieldType)]
set_option maxRecDepth 65536 in
theorem codes_eq : words1.filter isCode = codes1 := rfl
theorem w_codes : ∀ c ∈ words1.filter isCode, c.before args0 about1 = true := by
  rw [codes_eq]
  intro c hc
  simp only [codes1, List.mem_cons, List.not_mem_nil, or_false] at hc
  rcases hc with rfl | rfl | rfl | rfl | rfl | rfl | rfl | rfl | rfl | rfl
  · exact w_c0
  · exact w_c1
  · exact w_c2
  · exact w_c3
  · exact w_c4
  · exact w_c5
  · exact w_c6
  · exact w_c7
  · exact w_c8
  · exact w_c9
set_option maxRecDepth 65536 in
theorem w_t1 : (words1.take 24).all (fun c => isCode c || c.before args0 about1) = true := by decide +kernel
set_option maxRecDepth 65536 in
theorem w_t2 : ((words1.drop 24).take 24).all (fun c => isCode c || c.before args0 about1) = true := by decide +kernel
set_option maxRecDepth 65536 in
theorem w_t3 : ((words1.drop 24).drop 24).all (fun c => isCode c || c.before args0 about1) = true := by decide +kernel
theorem w_tables : (allAtoms (Jvm.Cond.code x code maxLocals ret :: tables_1)).before args0 about1 = true := by
  rw [allAtoms_all]
  show words1.all (fun c => c.before args0 about1) = true
  refine all_split ?_ w_codes
  rw [← List.take_append_drop 24 words1, List.all_append, w_t1, ← List.take_append_drop 24 (words1.drop 24), List.all_append, w_t2, w_t3]
  rfl
set_option maxRecDepth 65536 in
theorem w_case : (Jvm.Cond.and given_1 narrow_1).before args0 about1 = true := by decide +kernel
theorem w_applies : (headSpec (Jvm.Cond.code x code maxLocals ret :: tables_1) room_1).applies x e0.platform about1 = true :=
  (Spec.applies_iff w_frames).mpr ⟨w_running, w_runnable, w_alone, w_named, w_hears, w_ripe, w_room, w_tables⟩
theorem atStart : AtStart classFile x code maxLocals ret World_1 tables_1 room_1 Calls_1 rest_1 Pre_1 launch0 p0 e0 about1 theMethod args0 below0 :=
  ⟨lists_1, trivial, launch0.admits_env _ _ _, launch0.least_env, fairChoices_fair.cas, fairChoices_fair.clock, w_frames, w_args, w_heap, w_applies, trivial, trivial, w_case⟩
end start1
theorem witness_1 : WitnessClaimed_1 := ⟨start1.p0, start1.e0, start1.about1, start1.theMethod, start1.args0, start1.below0, start1.atStart⟩
end Jvm.Pilot.@@N@@
