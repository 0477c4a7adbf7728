import JvmDerived
import JvmDerived.Pilot.@@N@@Statement
import JvmDerived.Pilot.@@N@@Code
set_option linter.unusedVariables false
set_option linter.unusedSimpArgs false
namespace Jvm.Pilot.@@N@@
open Jvm Jvm.ClassFile Sem Op Lib Jvm.Free Jvm.Stand Jvm.LawKit Jvm.RoadKit Bundle Jvm.Pilot.@@N@@.Jvm.D
/-! own kit: the walk's goal as one word (Goes), the end of a body (Ends), the five returns -/
section OwnKit
/-- from S the run comes to some state and outcome of which P holds -/
def Goes (tb : Tables) (e : Env) (below : List Frame) (P : State → Outcome → Prop) (S : State) : Prop := ∃ t o, Steps tb e below S t ∧ P t o
/-- what a body owes at its end -/
def Ends (below : List Frame) (s : State) (Q : Option Value → Heap → List Loc → Prop) (kc ks : Nat) (t : State) (o : Outcome) : Prop :=
  t.status = .running ∧ Ended t below o ∧ ∃ v L, o = .returned v ∧ Q v t.heap L ∧ FrameEnd s o t L kc ks
theorem Goes.st {tb : Tables} {e : Env} {below : List Frame} {P : State → Outcome → Prop} {S S' : State} (h : ∀ target, Steps tb e below S' target → Steps tb e below S target) (k : Goes tb e below P S') : Goes tb e below P S :=
  let ⟨t, o, h1, h2⟩ := k; ⟨t, o, h t h1, h2⟩
theorem Goes.tr {tb : Tables} {e : Env} {below : List Frame} {P : State → Outcome → Prop} {S S' : State} (h : Steps tb e below S S') (k : Goes tb e below P S') : Goes tb e below P S :=
  let ⟨t, o, h1, h2⟩ := k; ⟨t, o, h.trans h1, h2⟩
theorem Goes.cast {tb : Tables} {e : Env} {below : List Frame} {P : State → Outcome → Prop} {T : State} {g g' : JFrame} (q : g = g') (k : Goes tb e below P (T.setTop g')) : Goes tb e below P (T.setTop g) := q ▸ k
variable {p : Program} {l : Launch} {e : Env} {R : Room} {s : State} {m : MethodId} {args : Array Value} {below : List Frame} {meth : Method} {c : Code} {T : State} {locs : List Loc} {cells slots : Nat}
theorem own_out (X : Stand p l e R s m args below meth c T locs cells slots) {v : Option Value} (hv : meth.sig.returnType = none → v = none) (hlk : meth.locks = false) {S : State} {Q : Option Value → Heap → List Loc → Prop} {kc ks : Nat} (hc : cells ≤ kc) (hs : slots ≤ ks) (hQ : Q v T.heap locs)
    (go : ∀ fs, (∀ (f : JFrame) (acts : List Action), f.method = m → f.locked = none → f.entered = [] → (doReturn e (T.setTop f) acts v).1 = T.setFrames fs) → Steps p.tables e below S (T.setFrames fs)) : Goes p.tables e below (Ends below s Q kc ks) S := by
  obtain ⟨fs, hr, hrun, hended, hW, hsame⟩ := X.leave (v := v) hv hlk
  exact ⟨_, _, go fs hr, hrun, hended, _, _, rfl, hQ, ⟨_, rfl⟩, hW, hsame.mono hc hs⟩
/-- ireturn of a boolean -/
theorem leafZ (X : Stand p l e R s m args below meth c T locs cells slots) (hx : p.tables.exec = Jvm.exec) (hlk : meth.locks = false) (hret : meth.sig.returnType = some .boolean) {pc : Nat} {Ls : Array Slot} {z : Int32} {rest : List Value} (hd : decode c.code pc = .ok (.ireturn, 1)) (hz : z = 0 ∨ z = 1)
    {Q : Option Value → Heap → List Loc → Prop} {kc ks : Nat} (hc : cells ≤ kc) (hs : slots ≤ ks) (hQ : Q (some (.int z)) T.heap locs) : Goes p.tables e below (Ends below s Q kc ks) (T.setTop (mkF m pc Ls (.int z :: rest))) :=
  own_out X (fun h => by rw [hret] at h; cases h) hlk hc hs hQ fun fs hr => retOut X hx hret (by rcases hz with rfl | rfl <;> rfl) (Or.inl ⟨rfl, Or.inr (Or.inl rfl), z, rfl⟩) hd hr
/-- ireturn of an int -/
theorem leafI (X : Stand p l e R s m args below meth c T locs cells slots) (hx : p.tables.exec = Jvm.exec) (hlk : meth.locks = false) (hret : meth.sig.returnType = some .int) {pc : Nat} {Ls : Array Slot} {z : Int32} {rest : List Value} (hd : decode c.code pc = .ok (.ireturn, 1))
    {Q : Option Value → Heap → List Loc → Prop} {kc ks : Nat} (hc : cells ≤ kc) (hs : slots ≤ ks) (hQ : Q (some (.int z)) T.heap locs) : Goes p.tables e below (Ends below s Q kc ks) (T.setTop (mkF m pc Ls (.int z :: rest))) :=
  own_out X (fun h => by rw [hret] at h; cases h) hlk hc hs hQ fun fs hr => retOut X hx hret rfl (Or.inl ⟨rfl, Or.inl rfl, z, rfl⟩) hd hr
/-- lreturn -/
theorem leafJ (X : Stand p l e R s m args below meth c T locs cells slots) (hx : p.tables.exec = Jvm.exec) (hlk : meth.locks = false) (hret : meth.sig.returnType = some .long) {pc : Nat} {Ls : Array Slot} {z : Int64} {rest : List Value} (hd : decode c.code pc = .ok (.lreturn, 1))
    {Q : Option Value → Heap → List Loc → Prop} {kc ks : Nat} (hc : cells ≤ kc) (hs : slots ≤ ks) (hQ : Q (some (.long z)) T.heap locs) : Goes p.tables e below (Ends below s Q kc ks) (T.setTop (mkF m pc Ls (.long z :: rest))) :=
  own_out X (fun h => by rw [hret] at h; cases h) hlk hc hs hQ fun fs hr => retOut X hx hret rfl (Or.inr (Or.inl ⟨rfl, rfl, z, rfl⟩)) hd hr
/-- areturn -/
theorem leafA (X : Stand p l e R s m args below meth c T locs cells slots) (hx : p.tables.exec = Jvm.exec) (hlk : meth.locks = false) {t : FieldType} (hret : meth.sig.returnType = some t) (ht : t.isReference = true) {pc : Nat} {Ls : Array Slot} {w : Value} (hw : w.isRef = true) {rest : List Value} (hd : decode c.code pc = .ok (.areturn, 1))
    {Q : Option Value → Heap → List Loc → Prop} {kc ks : Nat} (hc : cells ≤ kc) (hs : slots ≤ ks) (hQ : Q (some w) T.heap locs) : Goes p.tables e below (Ends below s Q kc ks) (T.setTop (mkF m pc Ls (w :: rest))) :=
  own_out X (fun h => by rw [hret] at h; cases h) hlk hc hs hQ fun fs hr => retOut X hx hret (by rcases ref_cases hw with rfl | ⟨a, rfl⟩ <;> cases t <;> rfl) (Or.inr (Or.inr (Or.inr (Or.inr ⟨rfl, ht, hw⟩)))) hd hr
/-- return of nothing -/
theorem leafN (X : Stand p l e R s m args below meth c T locs cells slots) (hx : p.tables.exec = Jvm.exec) (hlk : meth.locks = false) (hret : meth.sig.returnType = none) {pc : Nat} {Ls : Array Slot} (hd : decode c.code pc = .ok (.return_, 1))
    {Q : Option Value → Heap → List Loc → Prop} {kc ks : Nat} (hc : cells ≤ kc) (hs : slots ≤ ks) (hQ : Q none T.heap locs) : Goes p.tables e below (Ends below s Q kc ks) (T.setTop (mkF m pc Ls [])) :=
  own_out X (fun _ => rfl) hlk hc hs hQ fun fs hr => X.returnOut hx hret hd hr
end OwnKit
theorem d1_0 : decode prog_186_method_6_code 0 = .ok (.iload_n 0, 1) := by decide +kernel
theorem d1_1 : decode prog_186_method_6_code 1 = .ok (.bipush 9, 2) := by decide +kernel
theorem d1_3 : decode prog_186_method_6_code 3 = .ok (.if_icmp .eq 51, 3) := by decide +kernel
theorem d1_6 : decode prog_186_method_6_code 6 = .ok (.iload_n 0, 1) := by decide +kernel
theorem d1_7 : decode prog_186_method_6_code 7 = .ok (.bipush 10, 2) := by decide +kernel
theorem d1_9 : decode prog_186_method_6_code 9 = .ok (.if_icmp .eq 45, 3) := by decide +kernel
theorem d1_12 : decode prog_186_method_6_code 12 = .ok (.iload_n 0, 1) := by decide +kernel
theorem d1_13 : decode prog_186_method_6_code 13 = .ok (.bipush 13, 2) := by decide +kernel
theorem d1_15 : decode prog_186_method_6_code 15 = .ok (.if_icmp .eq 39, 3) := by decide +kernel
theorem d1_18 : decode prog_186_method_6_code 18 = .ok (.iload_n 0, 1) := by decide +kernel
theorem d1_19 : decode prog_186_method_6_code 19 = .ok (.bipush 32, 2) := by decide +kernel
theorem d1_21 : decode prog_186_method_6_code 21 = .ok (.if_icmp .lt 9, 3) := by decide +kernel
theorem d1_24 : decode prog_186_method_6_code 24 = .ok (.iload_n 0, 1) := by decide +kernel
theorem d1_25 : decode prog_186_method_6_code 25 = .ok (.ldc 30, 2) := by decide +kernel
theorem d1_27 : decode prog_186_method_6_code 27 = .ok (.if_icmp .le 27, 3) := by decide +kernel
theorem d1_30 : decode prog_186_method_6_code 30 = .ok (.iload_n 0, 1) := by decide +kernel
theorem d1_31 : decode prog_186_method_6_code 31 = .ok (.ldc 31, 2) := by decide +kernel
theorem d1_33 : decode prog_186_method_6_code 33 = .ok (.if_icmp .lt 9, 3) := by decide +kernel
theorem d1_36 : decode prog_186_method_6_code 36 = .ok (.iload_n 0, 1) := by decide +kernel
theorem d1_37 : decode prog_186_method_6_code 37 = .ok (.ldc 32, 2) := by decide +kernel
theorem d1_39 : decode prog_186_method_6_code 39 = .ok (.if_icmp .le 15, 3) := by decide +kernel
theorem d1_42 : decode prog_186_method_6_code 42 = .ok (.iload_n 0, 1) := by decide +kernel
theorem d1_43 : decode prog_186_method_6_code 43 = .ok (.ldc 33, 2) := by decide +kernel
theorem d1_45 : decode prog_186_method_6_code 45 = .ok (.if_icmp .lt 13, 3) := by decide +kernel
theorem d1_48 : decode prog_186_method_6_code 48 = .ok (.iload_n 0, 1) := by decide +kernel
theorem d1_49 : decode prog_186_method_6_code 49 = .ok (.ldc 34, 2) := by decide +kernel
theorem d1_51 : decode prog_186_method_6_code 51 = .ok (.if_icmp .gt 7, 3) := by decide +kernel
theorem d1_54 : decode prog_186_method_6_code 54 = .ok (.iconst 1, 1) := by decide +kernel
theorem d1_55 : decode prog_186_method_6_code 55 = .ok (.goto 4, 3) := by decide +kernel
theorem d1_58 : decode prog_186_method_6_code 58 = .ok (.iconst 0, 1) := by decide +kernel
theorem d1_59 : decode prog_186_method_6_code 59 = .ok (.ireturn, 1) := by decide +kernel
theorem pn_1 : plainFor (⟨"com/example/fenestra/fenestra/formats/XmlChars", "isAllowed", "(I)Z"⟩ : MethodName) = true := by decide +kernel
theorem pd_1 : parseMethodDescriptor "(I)Z" = some ⟨[.int], (some .boolean)⟩ := by decide +kernel
theorem d2_0 : decode method_2_code 0 = .ok (.iload_n 0, 1) := by decide +kernel
theorem d2_1 : decode method_2_code 1 = .ok (.ifCond .ge 5, 3) := by decide +kernel
theorem d2_4 : decode method_2_code 4 = .ok (.iconst 1, 1) := by decide +kernel
theorem d2_5 : decode method_2_code 5 = .ok (.ireturn, 1) := by decide +kernel
theorem d2_6 : decode method_2_code 6 = .ok (.iload_n 0, 1) := by decide +kernel
theorem d2_7 : decode method_2_code 7 = .ok (.ldc 7, 2) := by decide +kernel
theorem d2_9 : decode method_2_code 9 = .ok (.if_icmp .le 5, 3) := by decide +kernel
theorem d2_12 : decode method_2_code 12 = .ok (.iconst 1, 1) := by decide +kernel
theorem d2_13 : decode method_2_code 13 = .ok (.ireturn, 1) := by decide +kernel
theorem d2_14 : decode method_2_code 14 = .ok (.iload_n 0, 1) := by decide +kernel
theorem d2_15 : decode method_2_code 15 = .ok (.bipush 32, 2) := by decide +kernel
theorem d2_17 : decode method_2_code 17 = .ok (.if_icmp .ge 27, 3) := by decide +kernel
theorem d2_20 : decode method_2_code 20 = .ok (.iload_n 0, 1) := by decide +kernel
theorem d2_21 : decode method_2_code 21 = .ok (.bipush 9, 2) := by decide +kernel
theorem d2_23 : decode method_2_code 23 = .ok (.if_icmp .eq 19, 3) := by decide +kernel
theorem d2_26 : decode method_2_code 26 = .ok (.iload_n 0, 1) := by decide +kernel
theorem d2_27 : decode method_2_code 27 = .ok (.bipush 10, 2) := by decide +kernel
theorem d2_29 : decode method_2_code 29 = .ok (.if_icmp .eq 13, 3) := by decide +kernel
theorem d2_32 : decode method_2_code 32 = .ok (.iload_n 0, 1) := by decide +kernel
theorem d2_33 : decode method_2_code 33 = .ok (.bipush 13, 2) := by decide +kernel
theorem d2_35 : decode method_2_code 35 = .ok (.if_icmp .eq 7, 3) := by decide +kernel
theorem d2_38 : decode method_2_code 38 = .ok (.iconst 1, 1) := by decide +kernel
theorem d2_39 : decode method_2_code 39 = .ok (.goto 4, 3) := by decide +kernel
theorem d2_42 : decode method_2_code 42 = .ok (.iconst 0, 1) := by decide +kernel
theorem d2_43 : decode method_2_code 43 = .ok (.ireturn, 1) := by decide +kernel
theorem d2_44 : decode method_2_code 44 = .ok (.iload_n 0, 1) := by decide +kernel
theorem d2_45 : decode method_2_code 45 = .ok (.ldc 8, 2) := by decide +kernel
theorem d2_47 : decode method_2_code 47 = .ok (.if_icmp .lt 11, 3) := by decide +kernel
theorem d2_50 : decode method_2_code 50 = .ok (.iload_n 0, 1) := by decide +kernel
theorem d2_51 : decode method_2_code 51 = .ok (.ldc 9, 2) := by decide +kernel
theorem d2_53 : decode method_2_code 53 = .ok (.if_icmp .gt 5, 3) := by decide +kernel
theorem d2_56 : decode method_2_code 56 = .ok (.iconst 1, 1) := by decide +kernel
theorem d2_57 : decode method_2_code 57 = .ok (.ireturn, 1) := by decide +kernel
theorem d2_58 : decode method_2_code 58 = .ok (.iload_n 0, 1) := by decide +kernel
theorem d2_59 : decode method_2_code 59 = .ok (.ldc 10, 2) := by decide +kernel
theorem d2_61 : decode method_2_code 61 = .ok (.if_icmp .eq 9, 3) := by decide +kernel
theorem d2_64 : decode method_2_code 64 = .ok (.iload_n 0, 1) := by decide +kernel
theorem d2_65 : decode method_2_code 65 = .ok (.ldc 11, 2) := by decide +kernel
theorem d2_67 : decode method_2_code 67 = .ok (.if_icmp .ne 7, 3) := by decide +kernel
theorem d2_70 : decode method_2_code 70 = .ok (.iconst 1, 1) := by decide +kernel
theorem d2_71 : decode method_2_code 71 = .ok (.goto 4, 3) := by decide +kernel
theorem d2_74 : decode method_2_code 74 = .ok (.iconst 0, 1) := by decide +kernel
theorem d2_75 : decode method_2_code 75 = .ok (.ireturn, 1) := by decide +kernel
theorem pn_2 : plainFor (⟨"com/example/fenestra/fenestra/formats/XmlCharsIsAllowedPinLaw", "forbidden", "(I)Z"⟩ : MethodName) = true := by decide +kernel
theorem pd_2 : parseMethodDescriptor "(I)Z" = some ⟨[.int], (some .boolean)⟩ := by decide +kernel
theorem pn_0 : plainFor x = true := by decide +kernel
theorem pd_0 : parseMethodDescriptor "(III)Z" = some ⟨[.int, .int, .int], (some .boolean)⟩ := by decide +kernel
def own_P (x : Int) : Prop := x = 9 ∨ x = 10 ∨ x = 13 ∨ (32 ≤ x ∧ x ≤ 55295) ∨ (57344 ≤ x ∧ x ≤ 65533) ∨ (65536 ≤ x ∧ x ≤ 1114111)
def own_al (x : Int32) : Int32 := if x.toInt = 9 ∨ x.toInt = 10 ∨ x.toInt = 13 ∨ (32 ≤ x.toInt ∧ x.toInt ≤ 55295) ∨ (57344 ≤ x.toInt ∧ x.toInt ≤ 65533) ∨ (65536 ≤ x.toInt ∧ x.toInt ≤ 1114111) then 1 else 0
def own_fb (x : Int32) : Int32 := if x.toInt = 9 ∨ x.toInt = 10 ∨ x.toInt = 13 ∨ (32 ≤ x.toInt ∧ x.toInt ≤ 55295) ∨ (57344 ≤ x.toInt ∧ x.toInt ≤ 65533) ∨ (65536 ≤ x.toInt ∧ x.toInt ≤ 1114111) then 0 else 1
theorem own_al_y {x : Int32} (h : own_P x.toInt) : own_al x = 1 := if_pos h
theorem own_al_n {x : Int32} (h : ¬ own_P x.toInt) : own_al x = 0 := if_neg h
theorem own_fb_y {x : Int32} (h : own_P x.toInt) : own_fb x = 0 := if_pos h
theorem own_fb_n {x : Int32} (h : ¬ own_P x.toInt) : own_fb x = 1 := if_neg h
theorem own_both (x : Int32) : (own_al x = 1 ∧ own_fb x = 0) ∨ (own_al x = 0 ∧ own_fb x = 1) := by
  by_cases h : own_P x.toInt
  · exact Or.inl ⟨own_al_y h, own_fb_y h⟩
  · exact Or.inr ⟨own_al_n h, own_fb_n h⟩
/-- an array of 18 ints -/
def own_A (Z : State) (h : Heap) (a : Addr) : Prop := ∃ c : Cell, Arr Z h a c .int ∧ c.slots.size = (18 : Int32).toNatClampNeg ∧ ∀ k, k < c.slots.size → ∃ z : Int32, c.slots[k]? = some (.int z)
theorem own_A_wr {Z : State} {h h' : Heap} {a : Addr} {j x : Int32} {c : Cell} (A : Arr Z h a c .int) (S : c.slots.size = (18 : Int32).toNatClampNeg) (I : ∀ k, k < c.slots.size → ∃ z : Int32, c.slots[k]? = some (.int z)) (W : Wr h h' a j.toNatClampNeg (.int x)) : own_A Z h' a := by
  refine ⟨_, A.same W, by rw [sz_set]; exact S, fun k hk => ?_⟩
  rw [sz_set] at hk
  simp only [Cell.setSlot, Array.getElem?_setIfInBounds]
  split
  · rename_i e; subst e
    exact ⟨x, by simp [hk]⟩
  · exact I k hk
theorem own_A_new {Z : State} {h : Heap} {a : Addr} {k : ClassId} (A : Arr Z h a (newA k .int (18 : Int32)) .int) : own_A Z h a :=
  ⟨_, A, sz_new _ _ _, fun j hj => ⟨0, by rw [sz_new] at hj; have q : j < 18 := hj; simp [newA, q, defaultValue, Array.getElem?_replicate]⟩⟩
theorem own_idx (k : Int32) : ¬ ((k &&& 2147483647) % 18 < 0) ∧ (k &&& 2147483647) % 18 < 18 := by
  have h1 := c_mask k 2147483647 31 (by decide) (by decide)
  have h2 := (c_irem (k &&& 2147483647) 18 18 (by decide)).1
  rw [Int32.lt_iff_toInt_lt, Int32.lt_iff_toInt_lt]
  simp only [Int32.reduceToInt]
  have h3 : (0 : Int) ≤ (k &&& 2147483647).toInt := by rw [h1]; exact Int.emod_nonneg _ (by decide)
  rw [h2 h3]
  omega
theorem ef_1 (m : MethodId) (p1 : Int32) : entryFrame m #[(.int p1)] 1 = mkF m 0 #[.val (.int p1)] [] := by first | (simp [entryFrame, mkF, argsToLocals, Value.category, maxLocals]; done) | rfl
def Q1 (Z : State) (p1 : Int32)  (h0 : Heap) (n0 : Nat) (v : Option Value) (h : Heap) (L : List Loc) : Prop := v = some (.int (own_al p1)) ∧ Fr n0 L ∧ h = h0
set_option maxRecDepth 65536 in
set_option maxHeartbeats 40000000 in
theorem rm1 (l : Launch) (Z : State) (a0 : Array Value) (hw : ∀ d ∈ tables_1, d.before a0 Z = true) (ws : List Jvm.Cond) (p1 : Int32)  (h0 : Heap) (n0 : Nat) (Z0 : n0 ≤ h0.size)  :
    MetFree l (⟨"com/example/fenestra/fenestra/formats/XmlChars", "isAllowed", "(I)Z"⟩ : MethodName) (head1 (Jvm.Cond.code (⟨"com/example/fenestra/fenestra/formats/XmlChars", "isAllowed", "(I)Z"⟩ : MethodName) prog_186_method_6_code 1 (some .boolean) :: ws) ({ frames := 0, cells := 0, slots := 0, locals := 0 } : Room)) (fun a U => a = #[(.int p1)] ∧ Z.Warmed39 U.vm ∧ U.heap = h0) (fun _ _ _ _ _ => True) (fun _ U o U' => ∃ v L, o = .returned v ∧ Q1 Z p1  h0 n0 v U'.heap L ∧ FrameEnd U o U' L ({ frames := 0, cells := 0, slots := 0, locals := 0 } : Room).cells ({ frames := 0, cells := 0, slots := 0, locals := 0 } : Room).slots) := by
  refine MetFree.of_bodySF pn_1 hisR ?_
  intro p e s m args below meth c s₁ Bd hml0 hP hK
  obtain ⟨rfl, hZ, hh⟩ := hP
  have hx := Bd.exec
  have hby := Bd.bytes
  have hml : c.maxLocals = 1 := hml0
  have hown : s.vm.findClass "com/example/fenestra/fenestra/formats/XmlChars" = some m.cls := findClass_of_methodNamed Bd.named
  have hnm := (name_of_methodNamed Bd.named Bd.method).1
  have X0 : Stand p l e ({ frames := 0, cells := 0, slots := 0, locals := 0 } : Room) s m #[(.int p1)] below meth c s₁ [] 0 0 := Stand.of_body Bd
  have e0 : s₁.heap = h0 := by rw [← hh, Bd.state]; rfl
  have N0 := Fr.nil n0
  show Goes p.tables e below (Ends below s (Q1 Z p1  h0 n0) ({ frames := 0, cells := 0, slots := 0, locals := 0 } : Room).cells ({ frames := 0, cells := 0, slots := 0, locals := 0 } : Room).slots) (s₁.setTop (entryFrame m #[(.int p1)] 1))
  refine Goes.cast (ef_1 m p1) ?_
  refine Goes.st (fun _ k => XS.iloadN X0.here hx rfl (hb hby d1_0) rfl k) ?_
  show Goes _ _ _ _ (s₁.setTop (mkF m 1 #[.val (.int p1)] [(.int p1)]))
  refine Goes.st (fun _ k => XS.bipush X0.here hx rfl (hb hby d1_1) k) ?_
  show Goes _ _ _ _ (s₁.setTop (mkF m 3 #[.val (.int p1)] [(.int (9 : Int32)), (.int p1)]))
  by_cases hc3 : p1 = (9 : Int32)
  · skip
    refine Goes.st (fun _ k => XS.icmpYes X0.here hx rfl (pc0 := 3) (pc' := 54) rfl (hb hby d1_3) rfl (teq hc3).1 (by decide) (by decide) k) ?_
    show Goes _ _ _ _ (s₁.setTop (mkF m 54 #[.val (.int p1)] []))
    refine Goes.st (fun _ k => XS.iconst X0.here hx rfl (hb hby d1_54) k) ?_
    show Goes _ _ _ _ (s₁.setTop (mkF m 55 #[.val (.int p1)] [(.int (1 : Int32))]))
    refine Goes.st (fun _ k => XS.goto X0.here hx rfl (pc0 := 55) (pc' := 59) rfl (hb hby d1_55) (by decide) (by decide) k) ?_
    show Goes _ _ _ _ (s₁.setTop (mkF m 59 #[.val (.int p1)] [(.int (1 : Int32))]))
    have hP : own_P p1.toInt := by
      simp only [← Int32.toInt_inj, Int32.lt_iff_toInt_lt, Int32.reduceToInt] at hc3
      unfold own_P; omega
    exact leafZ X0 hx Bd.notSynchronized Bd.returns (hb hby d1_59) (by decide) (by decide) (by decide) ⟨by rw [own_al_y hP], N0, e0⟩
  · skip
    refine Goes.st (fun _ k => XS.icmpNo X0.here hx rfl (hb hby d1_3) rfl (feq hc3).1 k) ?_
    show Goes _ _ _ _ (s₁.setTop (mkF m 6 #[.val (.int p1)] []))
    refine Goes.st (fun _ k => XS.iloadN X0.here hx rfl (hb hby d1_6) rfl k) ?_
    show Goes _ _ _ _ (s₁.setTop (mkF m 7 #[.val (.int p1)] [(.int p1)]))
    refine Goes.st (fun _ k => XS.bipush X0.here hx rfl (hb hby d1_7) k) ?_
    show Goes _ _ _ _ (s₁.setTop (mkF m 9 #[.val (.int p1)] [(.int (10 : Int32)), (.int p1)]))
    by_cases hc9 : p1 = (10 : Int32)
    · skip
      refine Goes.st (fun _ k => XS.icmpYes X0.here hx rfl (pc0 := 9) (pc' := 54) rfl (hb hby d1_9) rfl (teq hc9).1 (by decide) (by decide) k) ?_
      show Goes _ _ _ _ (s₁.setTop (mkF m 54 #[.val (.int p1)] []))
      refine Goes.st (fun _ k => XS.iconst X0.here hx rfl (hb hby d1_54) k) ?_
      show Goes _ _ _ _ (s₁.setTop (mkF m 55 #[.val (.int p1)] [(.int (1 : Int32))]))
      refine Goes.st (fun _ k => XS.goto X0.here hx rfl (pc0 := 55) (pc' := 59) rfl (hb hby d1_55) (by decide) (by decide) k) ?_
      show Goes _ _ _ _ (s₁.setTop (mkF m 59 #[.val (.int p1)] [(.int (1 : Int32))]))
      have hP : own_P p1.toInt := by
        simp only [← Int32.toInt_inj, Int32.lt_iff_toInt_lt, Int32.reduceToInt] at hc3 hc9
        unfold own_P; omega
      exact leafZ X0 hx Bd.notSynchronized Bd.returns (hb hby d1_59) (by decide) (by decide) (by decide) ⟨by rw [own_al_y hP], N0, e0⟩
    · skip
      refine Goes.st (fun _ k => XS.icmpNo X0.here hx rfl (hb hby d1_9) rfl (feq hc9).1 k) ?_
      show Goes _ _ _ _ (s₁.setTop (mkF m 12 #[.val (.int p1)] []))
      refine Goes.st (fun _ k => XS.iloadN X0.here hx rfl (hb hby d1_12) rfl k) ?_
      show Goes _ _ _ _ (s₁.setTop (mkF m 13 #[.val (.int p1)] [(.int p1)]))
      refine Goes.st (fun _ k => XS.bipush X0.here hx rfl (hb hby d1_13) k) ?_
      show Goes _ _ _ _ (s₁.setTop (mkF m 15 #[.val (.int p1)] [(.int (13 : Int32)), (.int p1)]))
      by_cases hc15 : p1 = (13 : Int32)
      · skip
        refine Goes.st (fun _ k => XS.icmpYes X0.here hx rfl (pc0 := 15) (pc' := 54) rfl (hb hby d1_15) rfl (teq hc15).1 (by decide) (by decide) k) ?_
        show Goes _ _ _ _ (s₁.setTop (mkF m 54 #[.val (.int p1)] []))
        refine Goes.st (fun _ k => XS.iconst X0.here hx rfl (hb hby d1_54) k) ?_
        show Goes _ _ _ _ (s₁.setTop (mkF m 55 #[.val (.int p1)] [(.int (1 : Int32))]))
        refine Goes.st (fun _ k => XS.goto X0.here hx rfl (pc0 := 55) (pc' := 59) rfl (hb hby d1_55) (by decide) (by decide) k) ?_
        show Goes _ _ _ _ (s₁.setTop (mkF m 59 #[.val (.int p1)] [(.int (1 : Int32))]))
        have hP : own_P p1.toInt := by
          simp only [← Int32.toInt_inj, Int32.lt_iff_toInt_lt, Int32.reduceToInt] at hc3 hc9 hc15
          unfold own_P; omega
        exact leafZ X0 hx Bd.notSynchronized Bd.returns (hb hby d1_59) (by decide) (by decide) (by decide) ⟨by rw [own_al_y hP], N0, e0⟩
      · skip
        refine Goes.st (fun _ k => XS.icmpNo X0.here hx rfl (hb hby d1_15) rfl (feq hc15).1 k) ?_
        show Goes _ _ _ _ (s₁.setTop (mkF m 18 #[.val (.int p1)] []))
        refine Goes.st (fun _ k => XS.iloadN X0.here hx rfl (hb hby d1_18) rfl k) ?_
        show Goes _ _ _ _ (s₁.setTop (mkF m 19 #[.val (.int p1)] [(.int p1)]))
        refine Goes.st (fun _ k => XS.bipush X0.here hx rfl (hb hby d1_19) k) ?_
        show Goes _ _ _ _ (s₁.setTop (mkF m 21 #[.val (.int p1)] [(.int (32 : Int32)), (.int p1)]))
        by_cases hc21 : p1 < (32 : Int32)
        · skip
          refine Goes.st (fun _ k => XS.icmpYes X0.here hx rfl (pc0 := 21) (pc' := 30) rfl (hb hby d1_21) rfl (tlt hc21).1 (by decide) (by decide) k) ?_
          show Goes _ _ _ _ (s₁.setTop (mkF m 30 #[.val (.int p1)] []))
          refine Goes.st (fun _ k => XS.iloadN X0.here hx rfl (hb hby d1_30) rfl k) ?_
          show Goes _ _ _ _ (s₁.setTop (mkF m 31 #[.val (.int p1)] [(.int p1)]))
          refine Goes.st (X0.ldcInt hx (v := (57344 : Int32)) hown (mv hZ (hw _ (List.mem_of_getElem? (i := 17) rfl))) (g := (mkF m 31 #[.val (.int p1)] [(.int p1)])) rfl (hb hby d1_31)) ?_
          show Goes _ _ _ _ (s₁.setTop (mkF m 33 #[.val (.int p1)] [(.int (57344 : Int32)), (.int p1)]))
          by_cases hc33 : p1 < (57344 : Int32)
          · skip
            refine Goes.st (fun _ k => XS.icmpYes X0.here hx rfl (pc0 := 33) (pc' := 42) rfl (hb hby d1_33) rfl (tlt hc33).1 (by decide) (by decide) k) ?_
            show Goes _ _ _ _ (s₁.setTop (mkF m 42 #[.val (.int p1)] []))
            refine Goes.st (fun _ k => XS.iloadN X0.here hx rfl (hb hby d1_42) rfl k) ?_
            show Goes _ _ _ _ (s₁.setTop (mkF m 43 #[.val (.int p1)] [(.int p1)]))
            refine Goes.st (X0.ldcInt hx (v := (65536 : Int32)) hown (mv hZ (hw _ (List.mem_of_getElem? (i := 18) rfl))) (g := (mkF m 43 #[.val (.int p1)] [(.int p1)])) rfl (hb hby d1_43)) ?_
            show Goes _ _ _ _ (s₁.setTop (mkF m 45 #[.val (.int p1)] [(.int (65536 : Int32)), (.int p1)]))
            by_cases hc45 : p1 < (65536 : Int32)
            · skip
              refine Goes.st (fun _ k => XS.icmpYes X0.here hx rfl (pc0 := 45) (pc' := 58) rfl (hb hby d1_45) rfl (tlt hc45).1 (by decide) (by decide) k) ?_
              show Goes _ _ _ _ (s₁.setTop (mkF m 58 #[.val (.int p1)] []))
              refine Goes.st (fun _ k => XS.iconst X0.here hx rfl (hb hby d1_58) k) ?_
              show Goes _ _ _ _ (s₁.setTop (mkF m 59 #[.val (.int p1)] [(.int (0 : Int32))]))
              have hP : ¬ own_P p1.toInt := by
                simp only [← Int32.toInt_inj, Int32.lt_iff_toInt_lt, Int32.reduceToInt] at hc3 hc9 hc15 hc21 hc33 hc45
                unfold own_P; omega
              exact leafZ X0 hx Bd.notSynchronized Bd.returns (hb hby d1_59) (by decide) (by decide) (by decide) ⟨by rw [own_al_n hP], N0, e0⟩
            · skip
              refine Goes.st (fun _ k => XS.icmpNo X0.here hx rfl (hb hby d1_45) rfl (flt hc45).1 k) ?_
              show Goes _ _ _ _ (s₁.setTop (mkF m 48 #[.val (.int p1)] []))
              refine Goes.st (fun _ k => XS.iloadN X0.here hx rfl (hb hby d1_48) rfl k) ?_
              show Goes _ _ _ _ (s₁.setTop (mkF m 49 #[.val (.int p1)] [(.int p1)]))
              refine Goes.st (X0.ldcInt hx (v := (1114111 : Int32)) hown (mv hZ (hw _ (List.mem_of_getElem? (i := 25) rfl))) (g := (mkF m 49 #[.val (.int p1)] [(.int p1)])) rfl (hb hby d1_49)) ?_
              show Goes _ _ _ _ (s₁.setTop (mkF m 51 #[.val (.int p1)] [(.int (1114111 : Int32)), (.int p1)]))
              by_cases hc51 : (1114111 : Int32) < p1
              · skip
                refine Goes.st (fun _ k => XS.icmpYes X0.here hx rfl (pc0 := 51) (pc' := 58) rfl (hb hby d1_51) rfl (tlt hc51).2.2.1 (by decide) (by decide) k) ?_
                show Goes _ _ _ _ (s₁.setTop (mkF m 58 #[.val (.int p1)] []))
                refine Goes.st (fun _ k => XS.iconst X0.here hx rfl (hb hby d1_58) k) ?_
                show Goes _ _ _ _ (s₁.setTop (mkF m 59 #[.val (.int p1)] [(.int (0 : Int32))]))
                have hP : ¬ own_P p1.toInt := by
                  simp only [← Int32.toInt_inj, Int32.lt_iff_toInt_lt, Int32.reduceToInt] at hc3 hc9 hc15 hc21 hc33 hc45 hc51
                  unfold own_P; omega
                exact leafZ X0 hx Bd.notSynchronized Bd.returns (hb hby d1_59) (by decide) (by decide) (by decide) ⟨by rw [own_al_n hP], N0, e0⟩
              · skip
                refine Goes.st (fun _ k => XS.icmpNo X0.here hx rfl (hb hby d1_51) rfl (flt hc51).2.2.1 k) ?_
                show Goes _ _ _ _ (s₁.setTop (mkF m 54 #[.val (.int p1)] []))
                refine Goes.st (fun _ k => XS.iconst X0.here hx rfl (hb hby d1_54) k) ?_
                show Goes _ _ _ _ (s₁.setTop (mkF m 55 #[.val (.int p1)] [(.int (1 : Int32))]))
                refine Goes.st (fun _ k => XS.goto X0.here hx rfl (pc0 := 55) (pc' := 59) rfl (hb hby d1_55) (by decide) (by decide) k) ?_
                show Goes _ _ _ _ (s₁.setTop (mkF m 59 #[.val (.int p1)] [(.int (1 : Int32))]))
                have hP : own_P p1.toInt := by
                  simp only [← Int32.toInt_inj, Int32.lt_iff_toInt_lt, Int32.reduceToInt] at hc3 hc9 hc15 hc21 hc33 hc45 hc51
                  unfold own_P; omega
                exact leafZ X0 hx Bd.notSynchronized Bd.returns (hb hby d1_59) (by decide) (by decide) (by decide) ⟨by rw [own_al_y hP], N0, e0⟩
          · skip
            refine Goes.st (fun _ k => XS.icmpNo X0.here hx rfl (hb hby d1_33) rfl (flt hc33).1 k) ?_
            show Goes _ _ _ _ (s₁.setTop (mkF m 36 #[.val (.int p1)] []))
            refine Goes.st (fun _ k => XS.iloadN X0.here hx rfl (hb hby d1_36) rfl k) ?_
            show Goes _ _ _ _ (s₁.setTop (mkF m 37 #[.val (.int p1)] [(.int p1)]))
            refine Goes.st (X0.ldcInt hx (v := (65533 : Int32)) hown (mv hZ (hw _ (List.mem_of_getElem? (i := 24) rfl))) (g := (mkF m 37 #[.val (.int p1)] [(.int p1)])) rfl (hb hby d1_37)) ?_
            show Goes _ _ _ _ (s₁.setTop (mkF m 39 #[.val (.int p1)] [(.int (65533 : Int32)), (.int p1)]))
            by_cases hc39 : (65533 : Int32) < p1
            · skip
              refine Goes.st (fun _ k => XS.icmpNo X0.here hx rfl (hb hby d1_39) rfl (tlt hc39).2.2.2 k) ?_
              show Goes _ _ _ _ (s₁.setTop (mkF m 42 #[.val (.int p1)] []))
              refine Goes.st (fun _ k => XS.iloadN X0.here hx rfl (hb hby d1_42) rfl k) ?_
              show Goes _ _ _ _ (s₁.setTop (mkF m 43 #[.val (.int p1)] [(.int p1)]))
              refine Goes.st (X0.ldcInt hx (v := (65536 : Int32)) hown (mv hZ (hw _ (List.mem_of_getElem? (i := 18) rfl))) (g := (mkF m 43 #[.val (.int p1)] [(.int p1)])) rfl (hb hby d1_43)) ?_
              show Goes _ _ _ _ (s₁.setTop (mkF m 45 #[.val (.int p1)] [(.int (65536 : Int32)), (.int p1)]))
              by_cases hc45 : p1 < (65536 : Int32)
              · skip
                refine Goes.st (fun _ k => XS.icmpYes X0.here hx rfl (pc0 := 45) (pc' := 58) rfl (hb hby d1_45) rfl (tlt hc45).1 (by decide) (by decide) k) ?_
                show Goes _ _ _ _ (s₁.setTop (mkF m 58 #[.val (.int p1)] []))
                refine Goes.st (fun _ k => XS.iconst X0.here hx rfl (hb hby d1_58) k) ?_
                show Goes _ _ _ _ (s₁.setTop (mkF m 59 #[.val (.int p1)] [(.int (0 : Int32))]))
                have hP : ¬ own_P p1.toInt := by
                  simp only [← Int32.toInt_inj, Int32.lt_iff_toInt_lt, Int32.reduceToInt] at hc3 hc9 hc15 hc21 hc33 hc39 hc45
                  unfold own_P; omega
                exact leafZ X0 hx Bd.notSynchronized Bd.returns (hb hby d1_59) (by decide) (by decide) (by decide) ⟨by rw [own_al_n hP], N0, e0⟩
              · skip
                refine Goes.st (fun _ k => XS.icmpNo X0.here hx rfl (hb hby d1_45) rfl (flt hc45).1 k) ?_
                show Goes _ _ _ _ (s₁.setTop (mkF m 48 #[.val (.int p1)] []))
                refine Goes.st (fun _ k => XS.iloadN X0.here hx rfl (hb hby d1_48) rfl k) ?_
                show Goes _ _ _ _ (s₁.setTop (mkF m 49 #[.val (.int p1)] [(.int p1)]))
                refine Goes.st (X0.ldcInt hx (v := (1114111 : Int32)) hown (mv hZ (hw _ (List.mem_of_getElem? (i := 25) rfl))) (g := (mkF m 49 #[.val (.int p1)] [(.int p1)])) rfl (hb hby d1_49)) ?_
                show Goes _ _ _ _ (s₁.setTop (mkF m 51 #[.val (.int p1)] [(.int (1114111 : Int32)), (.int p1)]))
                by_cases hc51 : (1114111 : Int32) < p1
                · skip
                  refine Goes.st (fun _ k => XS.icmpYes X0.here hx rfl (pc0 := 51) (pc' := 58) rfl (hb hby d1_51) rfl (tlt hc51).2.2.1 (by decide) (by decide) k) ?_
                  show Goes _ _ _ _ (s₁.setTop (mkF m 58 #[.val (.int p1)] []))
                  refine Goes.st (fun _ k => XS.iconst X0.here hx rfl (hb hby d1_58) k) ?_
                  show Goes _ _ _ _ (s₁.setTop (mkF m 59 #[.val (.int p1)] [(.int (0 : Int32))]))
                  have hP : ¬ own_P p1.toInt := by
                    simp only [← Int32.toInt_inj, Int32.lt_iff_toInt_lt, Int32.reduceToInt] at hc3 hc9 hc15 hc21 hc33 hc39 hc45 hc51
                    unfold own_P; omega
                  exact leafZ X0 hx Bd.notSynchronized Bd.returns (hb hby d1_59) (by decide) (by decide) (by decide) ⟨by rw [own_al_n hP], N0, e0⟩
                · skip
                  refine Goes.st (fun _ k => XS.icmpNo X0.here hx rfl (hb hby d1_51) rfl (flt hc51).2.2.1 k) ?_
                  show Goes _ _ _ _ (s₁.setTop (mkF m 54 #[.val (.int p1)] []))
                  refine Goes.st (fun _ k => XS.iconst X0.here hx rfl (hb hby d1_54) k) ?_
                  show Goes _ _ _ _ (s₁.setTop (mkF m 55 #[.val (.int p1)] [(.int (1 : Int32))]))
                  refine Goes.st (fun _ k => XS.goto X0.here hx rfl (pc0 := 55) (pc' := 59) rfl (hb hby d1_55) (by decide) (by decide) k) ?_
                  show Goes _ _ _ _ (s₁.setTop (mkF m 59 #[.val (.int p1)] [(.int (1 : Int32))]))
                  have hP : own_P p1.toInt := by
                    simp only [← Int32.toInt_inj, Int32.lt_iff_toInt_lt, Int32.reduceToInt] at hc3 hc9 hc15 hc21 hc33 hc39 hc45 hc51
                    unfold own_P; omega
                  exact leafZ X0 hx Bd.notSynchronized Bd.returns (hb hby d1_59) (by decide) (by decide) (by decide) ⟨by rw [own_al_y hP], N0, e0⟩
            · skip
              refine Goes.st (fun _ k => XS.icmpYes X0.here hx rfl (pc0 := 39) (pc' := 54) rfl (hb hby d1_39) rfl (flt hc39).2.2.2 (by decide) (by decide) k) ?_
              show Goes _ _ _ _ (s₁.setTop (mkF m 54 #[.val (.int p1)] []))
              refine Goes.st (fun _ k => XS.iconst X0.here hx rfl (hb hby d1_54) k) ?_
              show Goes _ _ _ _ (s₁.setTop (mkF m 55 #[.val (.int p1)] [(.int (1 : Int32))]))
              refine Goes.st (fun _ k => XS.goto X0.here hx rfl (pc0 := 55) (pc' := 59) rfl (hb hby d1_55) (by decide) (by decide) k) ?_
              show Goes _ _ _ _ (s₁.setTop (mkF m 59 #[.val (.int p1)] [(.int (1 : Int32))]))
              have hP : own_P p1.toInt := by
                simp only [← Int32.toInt_inj, Int32.lt_iff_toInt_lt, Int32.reduceToInt] at hc3 hc9 hc15 hc21 hc33 hc39
                unfold own_P; omega
              exact leafZ X0 hx Bd.notSynchronized Bd.returns (hb hby d1_59) (by decide) (by decide) (by decide) ⟨by rw [own_al_y hP], N0, e0⟩
        · skip
          refine Goes.st (fun _ k => XS.icmpNo X0.here hx rfl (hb hby d1_21) rfl (flt hc21).1 k) ?_
          show Goes _ _ _ _ (s₁.setTop (mkF m 24 #[.val (.int p1)] []))
          refine Goes.st (fun _ k => XS.iloadN X0.here hx rfl (hb hby d1_24) rfl k) ?_
          show Goes _ _ _ _ (s₁.setTop (mkF m 25 #[.val (.int p1)] [(.int p1)]))
          refine Goes.st (X0.ldcInt hx (v := (55295 : Int32)) hown (mv hZ (hw _ (List.mem_of_getElem? (i := 23) rfl))) (g := (mkF m 25 #[.val (.int p1)] [(.int p1)])) rfl (hb hby d1_25)) ?_
          show Goes _ _ _ _ (s₁.setTop (mkF m 27 #[.val (.int p1)] [(.int (55295 : Int32)), (.int p1)]))
          by_cases hc27 : (55295 : Int32) < p1
          · skip
            refine Goes.st (fun _ k => XS.icmpNo X0.here hx rfl (hb hby d1_27) rfl (tlt hc27).2.2.2 k) ?_
            show Goes _ _ _ _ (s₁.setTop (mkF m 30 #[.val (.int p1)] []))
            refine Goes.st (fun _ k => XS.iloadN X0.here hx rfl (hb hby d1_30) rfl k) ?_
            show Goes _ _ _ _ (s₁.setTop (mkF m 31 #[.val (.int p1)] [(.int p1)]))
            refine Goes.st (X0.ldcInt hx (v := (57344 : Int32)) hown (mv hZ (hw _ (List.mem_of_getElem? (i := 17) rfl))) (g := (mkF m 31 #[.val (.int p1)] [(.int p1)])) rfl (hb hby d1_31)) ?_
            show Goes _ _ _ _ (s₁.setTop (mkF m 33 #[.val (.int p1)] [(.int (57344 : Int32)), (.int p1)]))
            by_cases hc33 : p1 < (57344 : Int32)
            · skip
              refine Goes.st (fun _ k => XS.icmpYes X0.here hx rfl (pc0 := 33) (pc' := 42) rfl (hb hby d1_33) rfl (tlt hc33).1 (by decide) (by decide) k) ?_
              show Goes _ _ _ _ (s₁.setTop (mkF m 42 #[.val (.int p1)] []))
              refine Goes.st (fun _ k => XS.iloadN X0.here hx rfl (hb hby d1_42) rfl k) ?_
              show Goes _ _ _ _ (s₁.setTop (mkF m 43 #[.val (.int p1)] [(.int p1)]))
              refine Goes.st (X0.ldcInt hx (v := (65536 : Int32)) hown (mv hZ (hw _ (List.mem_of_getElem? (i := 18) rfl))) (g := (mkF m 43 #[.val (.int p1)] [(.int p1)])) rfl (hb hby d1_43)) ?_
              show Goes _ _ _ _ (s₁.setTop (mkF m 45 #[.val (.int p1)] [(.int (65536 : Int32)), (.int p1)]))
              by_cases hc45 : p1 < (65536 : Int32)
              · skip
                refine Goes.st (fun _ k => XS.icmpYes X0.here hx rfl (pc0 := 45) (pc' := 58) rfl (hb hby d1_45) rfl (tlt hc45).1 (by decide) (by decide) k) ?_
                show Goes _ _ _ _ (s₁.setTop (mkF m 58 #[.val (.int p1)] []))
                refine Goes.st (fun _ k => XS.iconst X0.here hx rfl (hb hby d1_58) k) ?_
                show Goes _ _ _ _ (s₁.setTop (mkF m 59 #[.val (.int p1)] [(.int (0 : Int32))]))
                have hP : ¬ own_P p1.toInt := by
                  simp only [← Int32.toInt_inj, Int32.lt_iff_toInt_lt, Int32.reduceToInt] at hc3 hc9 hc15 hc21 hc27 hc33 hc45
                  unfold own_P; omega
                exact leafZ X0 hx Bd.notSynchronized Bd.returns (hb hby d1_59) (by decide) (by decide) (by decide) ⟨by rw [own_al_n hP], N0, e0⟩
              · skip
                refine Goes.st (fun _ k => XS.icmpNo X0.here hx rfl (hb hby d1_45) rfl (flt hc45).1 k) ?_
                show Goes _ _ _ _ (s₁.setTop (mkF m 48 #[.val (.int p1)] []))
                refine Goes.st (fun _ k => XS.iloadN X0.here hx rfl (hb hby d1_48) rfl k) ?_
                show Goes _ _ _ _ (s₁.setTop (mkF m 49 #[.val (.int p1)] [(.int p1)]))
                refine Goes.st (X0.ldcInt hx (v := (1114111 : Int32)) hown (mv hZ (hw _ (List.mem_of_getElem? (i := 25) rfl))) (g := (mkF m 49 #[.val (.int p1)] [(.int p1)])) rfl (hb hby d1_49)) ?_
                show Goes _ _ _ _ (s₁.setTop (mkF m 51 #[.val (.int p1)] [(.int (1114111 : Int32)), (.int p1)]))
                by_cases hc51 : (1114111 : Int32) < p1
                · skip
                  refine Goes.st (fun _ k => XS.icmpYes X0.here hx rfl (pc0 := 51) (pc' := 58) rfl (hb hby d1_51) rfl (tlt hc51).2.2.1 (by decide) (by decide) k) ?_
                  show Goes _ _ _ _ (s₁.setTop (mkF m 58 #[.val (.int p1)] []))
                  refine Goes.st (fun _ k => XS.iconst X0.here hx rfl (hb hby d1_58) k) ?_
                  show Goes _ _ _ _ (s₁.setTop (mkF m 59 #[.val (.int p1)] [(.int (0 : Int32))]))
                  have hP : ¬ own_P p1.toInt := by
                    simp only [← Int32.toInt_inj, Int32.lt_iff_toInt_lt, Int32.reduceToInt] at hc3 hc9 hc15 hc21 hc27 hc33 hc45 hc51
                    unfold own_P; omega
                  exact leafZ X0 hx Bd.notSynchronized Bd.returns (hb hby d1_59) (by decide) (by decide) (by decide) ⟨by rw [own_al_n hP], N0, e0⟩
                · skip
                  refine Goes.st (fun _ k => XS.icmpNo X0.here hx rfl (hb hby d1_51) rfl (flt hc51).2.2.1 k) ?_
                  show Goes _ _ _ _ (s₁.setTop (mkF m 54 #[.val (.int p1)] []))
                  refine Goes.st (fun _ k => XS.iconst X0.here hx rfl (hb hby d1_54) k) ?_
                  show Goes _ _ _ _ (s₁.setTop (mkF m 55 #[.val (.int p1)] [(.int (1 : Int32))]))
                  refine Goes.st (fun _ k => XS.goto X0.here hx rfl (pc0 := 55) (pc' := 59) rfl (hb hby d1_55) (by decide) (by decide) k) ?_
                  show Goes _ _ _ _ (s₁.setTop (mkF m 59 #[.val (.int p1)] [(.int (1 : Int32))]))
                  have hP : own_P p1.toInt := by
                    simp only [← Int32.toInt_inj, Int32.lt_iff_toInt_lt, Int32.reduceToInt] at hc3 hc9 hc15 hc21 hc27 hc33 hc45 hc51
                    unfold own_P; omega
                  exact leafZ X0 hx Bd.notSynchronized Bd.returns (hb hby d1_59) (by decide) (by decide) (by decide) ⟨by rw [own_al_y hP], N0, e0⟩
            · skip
              refine Goes.st (fun _ k => XS.icmpNo X0.here hx rfl (hb hby d1_33) rfl (flt hc33).1 k) ?_
              show Goes _ _ _ _ (s₁.setTop (mkF m 36 #[.val (.int p1)] []))
              refine Goes.st (fun _ k => XS.iloadN X0.here hx rfl (hb hby d1_36) rfl k) ?_
              show Goes _ _ _ _ (s₁.setTop (mkF m 37 #[.val (.int p1)] [(.int p1)]))
              refine Goes.st (X0.ldcInt hx (v := (65533 : Int32)) hown (mv hZ (hw _ (List.mem_of_getElem? (i := 24) rfl))) (g := (mkF m 37 #[.val (.int p1)] [(.int p1)])) rfl (hb hby d1_37)) ?_
              show Goes _ _ _ _ (s₁.setTop (mkF m 39 #[.val (.int p1)] [(.int (65533 : Int32)), (.int p1)]))
              by_cases hc39 : (65533 : Int32) < p1
              · skip
                refine Goes.st (fun _ k => XS.icmpNo X0.here hx rfl (hb hby d1_39) rfl (tlt hc39).2.2.2 k) ?_
                show Goes _ _ _ _ (s₁.setTop (mkF m 42 #[.val (.int p1)] []))
                refine Goes.st (fun _ k => XS.iloadN X0.here hx rfl (hb hby d1_42) rfl k) ?_
                show Goes _ _ _ _ (s₁.setTop (mkF m 43 #[.val (.int p1)] [(.int p1)]))
                refine Goes.st (X0.ldcInt hx (v := (65536 : Int32)) hown (mv hZ (hw _ (List.mem_of_getElem? (i := 18) rfl))) (g := (mkF m 43 #[.val (.int p1)] [(.int p1)])) rfl (hb hby d1_43)) ?_
                show Goes _ _ _ _ (s₁.setTop (mkF m 45 #[.val (.int p1)] [(.int (65536 : Int32)), (.int p1)]))
                by_cases hc45 : p1 < (65536 : Int32)
                · skip
                  refine Goes.st (fun _ k => XS.icmpYes X0.here hx rfl (pc0 := 45) (pc' := 58) rfl (hb hby d1_45) rfl (tlt hc45).1 (by decide) (by decide) k) ?_
                  show Goes _ _ _ _ (s₁.setTop (mkF m 58 #[.val (.int p1)] []))
                  refine Goes.st (fun _ k => XS.iconst X0.here hx rfl (hb hby d1_58) k) ?_
                  show Goes _ _ _ _ (s₁.setTop (mkF m 59 #[.val (.int p1)] [(.int (0 : Int32))]))
                  have hP : ¬ own_P p1.toInt := by
                    simp only [← Int32.toInt_inj, Int32.lt_iff_toInt_lt, Int32.reduceToInt] at hc3 hc9 hc15 hc21 hc27 hc33 hc39 hc45
                    unfold own_P; omega
                  exact leafZ X0 hx Bd.notSynchronized Bd.returns (hb hby d1_59) (by decide) (by decide) (by decide) ⟨by rw [own_al_n hP], N0, e0⟩
                · skip
                  refine Goes.st (fun _ k => XS.icmpNo X0.here hx rfl (hb hby d1_45) rfl (flt hc45).1 k) ?_
                  show Goes _ _ _ _ (s₁.setTop (mkF m 48 #[.val (.int p1)] []))
                  refine Goes.st (fun _ k => XS.iloadN X0.here hx rfl (hb hby d1_48) rfl k) ?_
                  show Goes _ _ _ _ (s₁.setTop (mkF m 49 #[.val (.int p1)] [(.int p1)]))
                  refine Goes.st (X0.ldcInt hx (v := (1114111 : Int32)) hown (mv hZ (hw _ (List.mem_of_getElem? (i := 25) rfl))) (g := (mkF m 49 #[.val (.int p1)] [(.int p1)])) rfl (hb hby d1_49)) ?_
                  show Goes _ _ _ _ (s₁.setTop (mkF m 51 #[.val (.int p1)] [(.int (1114111 : Int32)), (.int p1)]))
                  by_cases hc51 : (1114111 : Int32) < p1
                  · skip
                    refine Goes.st (fun _ k => XS.icmpYes X0.here hx rfl (pc0 := 51) (pc' := 58) rfl (hb hby d1_51) rfl (tlt hc51).2.2.1 (by decide) (by decide) k) ?_
                    show Goes _ _ _ _ (s₁.setTop (mkF m 58 #[.val (.int p1)] []))
                    refine Goes.st (fun _ k => XS.iconst X0.here hx rfl (hb hby d1_58) k) ?_
                    show Goes _ _ _ _ (s₁.setTop (mkF m 59 #[.val (.int p1)] [(.int (0 : Int32))]))
                    have hP : ¬ own_P p1.toInt := by
                      simp only [← Int32.toInt_inj, Int32.lt_iff_toInt_lt, Int32.reduceToInt] at hc3 hc9 hc15 hc21 hc27 hc33 hc39 hc45 hc51
                      unfold own_P; omega
                    exact leafZ X0 hx Bd.notSynchronized Bd.returns (hb hby d1_59) (by decide) (by decide) (by decide) ⟨by rw [own_al_n hP], N0, e0⟩
                  · skip
                    refine Goes.st (fun _ k => XS.icmpNo X0.here hx rfl (hb hby d1_51) rfl (flt hc51).2.2.1 k) ?_
                    show Goes _ _ _ _ (s₁.setTop (mkF m 54 #[.val (.int p1)] []))
                    refine Goes.st (fun _ k => XS.iconst X0.here hx rfl (hb hby d1_54) k) ?_
                    show Goes _ _ _ _ (s₁.setTop (mkF m 55 #[.val (.int p1)] [(.int (1 : Int32))]))
                    refine Goes.st (fun _ k => XS.goto X0.here hx rfl (pc0 := 55) (pc' := 59) rfl (hb hby d1_55) (by decide) (by decide) k) ?_
                    show Goes _ _ _ _ (s₁.setTop (mkF m 59 #[.val (.int p1)] [(.int (1 : Int32))]))
                    have hP : own_P p1.toInt := by
                      simp only [← Int32.toInt_inj, Int32.lt_iff_toInt_lt, Int32.reduceToInt] at hc3 hc9 hc15 hc21 hc27 hc33 hc39 hc45 hc51
                      unfold own_P; omega
                    exact leafZ X0 hx Bd.notSynchronized Bd.returns (hb hby d1_59) (by decide) (by decide) (by decide) ⟨by rw [own_al_y hP], N0, e0⟩
              · skip
                refine Goes.st (fun _ k => XS.icmpYes X0.here hx rfl (pc0 := 39) (pc' := 54) rfl (hb hby d1_39) rfl (flt hc39).2.2.2 (by decide) (by decide) k) ?_
                show Goes _ _ _ _ (s₁.setTop (mkF m 54 #[.val (.int p1)] []))
                refine Goes.st (fun _ k => XS.iconst X0.here hx rfl (hb hby d1_54) k) ?_
                show Goes _ _ _ _ (s₁.setTop (mkF m 55 #[.val (.int p1)] [(.int (1 : Int32))]))
                refine Goes.st (fun _ k => XS.goto X0.here hx rfl (pc0 := 55) (pc' := 59) rfl (hb hby d1_55) (by decide) (by decide) k) ?_
                show Goes _ _ _ _ (s₁.setTop (mkF m 59 #[.val (.int p1)] [(.int (1 : Int32))]))
                have hP : own_P p1.toInt := by
                  simp only [← Int32.toInt_inj, Int32.lt_iff_toInt_lt, Int32.reduceToInt] at hc3 hc9 hc15 hc21 hc27 hc33 hc39
                  unfold own_P; omega
                exact leafZ X0 hx Bd.notSynchronized Bd.returns (hb hby d1_59) (by decide) (by decide) (by decide) ⟨by rw [own_al_y hP], N0, e0⟩
          · skip
            refine Goes.st (fun _ k => XS.icmpYes X0.here hx rfl (pc0 := 27) (pc' := 54) rfl (hb hby d1_27) rfl (flt hc27).2.2.2 (by decide) (by decide) k) ?_
            show Goes _ _ _ _ (s₁.setTop (mkF m 54 #[.val (.int p1)] []))
            refine Goes.st (fun _ k => XS.iconst X0.here hx rfl (hb hby d1_54) k) ?_
            show Goes _ _ _ _ (s₁.setTop (mkF m 55 #[.val (.int p1)] [(.int (1 : Int32))]))
            refine Goes.st (fun _ k => XS.goto X0.here hx rfl (pc0 := 55) (pc' := 59) rfl (hb hby d1_55) (by decide) (by decide) k) ?_
            show Goes _ _ _ _ (s₁.setTop (mkF m 59 #[.val (.int p1)] [(.int (1 : Int32))]))
            have hP : own_P p1.toInt := by
              simp only [← Int32.toInt_inj, Int32.lt_iff_toInt_lt, Int32.reduceToInt] at hc3 hc9 hc15 hc21 hc27
              unfold own_P; omega
            exact leafZ X0 hx Bd.notSynchronized Bd.returns (hb hby d1_59) (by decide) (by decide) (by decide) ⟨by rw [own_al_y hP], N0, e0⟩
theorem ef_2 (m : MethodId) (p1 : Int32) : entryFrame m #[(.int p1)] 1 = mkF m 0 #[.val (.int p1)] [] := by first | (simp [entryFrame, mkF, argsToLocals, Value.category, maxLocals]; done) | rfl
def Q2 (Z : State) (p1 : Int32)  (h0 : Heap) (n0 : Nat) (v : Option Value) (h : Heap) (L : List Loc) : Prop := v = some (.int (own_fb p1)) ∧ Fr n0 L ∧ h = h0
set_option maxRecDepth 65536 in
set_option maxHeartbeats 40000000 in
theorem rm2 (l : Launch) (Z : State) (a0 : Array Value) (hw : ∀ d ∈ tables_1, d.before a0 Z = true) (ws : List Jvm.Cond) (p1 : Int32)  (h0 : Heap) (n0 : Nat) (Z0 : n0 ≤ h0.size)  :
    MetFree l (⟨"com/example/fenestra/fenestra/formats/XmlCharsIsAllowedPinLaw", "forbidden", "(I)Z"⟩ : MethodName) (head1 (Jvm.Cond.code (⟨"com/example/fenestra/fenestra/formats/XmlCharsIsAllowedPinLaw", "forbidden", "(I)Z"⟩ : MethodName) method_2_code 1 (some .boolean) :: ws) ({ frames := 0, cells := 0, slots := 0, locals := 0 } : Room)) (fun a U => a = #[(.int p1)] ∧ Z.Warmed39 U.vm ∧ U.heap = h0) (fun _ _ _ _ _ => True) (fun _ U o U' => ∃ v L, o = .returned v ∧ Q2 Z p1  h0 n0 v U'.heap L ∧ FrameEnd U o U' L ({ frames := 0, cells := 0, slots := 0, locals := 0 } : Room).cells ({ frames := 0, cells := 0, slots := 0, locals := 0 } : Room).slots) := by
  refine MetFree.of_bodySF pn_2 hisR ?_
  intro p e s m args below meth c s₁ Bd hml0 hP hK
  obtain ⟨rfl, hZ, hh⟩ := hP
  have hx := Bd.exec
  have hby := Bd.bytes
  have hml : c.maxLocals = 1 := hml0
  have hown : s.vm.findClass "com/example/fenestra/fenestra/formats/XmlCharsIsAllowedPinLaw" = some m.cls := findClass_of_methodNamed Bd.named
  have hnm := (name_of_methodNamed Bd.named Bd.method).1
  have X0 : Stand p l e ({ frames := 0, cells := 0, slots := 0, locals := 0 } : Room) s m #[(.int p1)] below meth c s₁ [] 0 0 := Stand.of_body Bd
  have e0 : s₁.heap = h0 := by rw [← hh, Bd.state]; rfl
  have N0 := Fr.nil n0
  show Goes p.tables e below (Ends below s (Q2 Z p1  h0 n0) ({ frames := 0, cells := 0, slots := 0, locals := 0 } : Room).cells ({ frames := 0, cells := 0, slots := 0, locals := 0 } : Room).slots) (s₁.setTop (entryFrame m #[(.int p1)] 1))
  refine Goes.cast (ef_2 m p1) ?_
  refine Goes.st (fun _ k => XS.iloadN X0.here hx rfl (hb hby d2_0) rfl k) ?_
  show Goes _ _ _ _ (s₁.setTop (mkF m 1 #[.val (.int p1)] [(.int p1)]))
  by_cases hc1 : p1 < (0 : Int32)
  · skip
    refine Goes.st (fun _ k => XS.ifNo X0.here hx rfl (hb hby d2_1) rfl ((if0 _ _).trans (tlt hc1).2.1) k) ?_
    show Goes _ _ _ _ (s₁.setTop (mkF m 4 #[.val (.int p1)] []))
    refine Goes.st (fun _ k => XS.iconst X0.here hx rfl (hb hby d2_4) k) ?_
    show Goes _ _ _ _ (s₁.setTop (mkF m 5 #[.val (.int p1)] [(.int (1 : Int32))]))
    have hP : ¬ own_P p1.toInt := by
      simp only [← Int32.toInt_inj, Int32.lt_iff_toInt_lt, Int32.reduceToInt] at hc1
      unfold own_P; omega
    exact leafZ X0 hx Bd.notSynchronized Bd.returns (hb hby d2_5) (by decide) (by decide) (by decide) ⟨by rw [own_fb_n hP], N0, e0⟩
  · skip
    refine Goes.st (fun _ k => XS.ifYes X0.here hx rfl (pc0 := 1) (pc' := 6) rfl (hb hby d2_1) rfl ((if0 _ _).trans (flt hc1).2.1) (by decide) (by decide) k) ?_
    show Goes _ _ _ _ (s₁.setTop (mkF m 6 #[.val (.int p1)] []))
    refine Goes.st (fun _ k => XS.iloadN X0.here hx rfl (hb hby d2_6) rfl k) ?_
    show Goes _ _ _ _ (s₁.setTop (mkF m 7 #[.val (.int p1)] [(.int p1)]))
    refine Goes.st (X0.ldcInt hx (v := (1114111 : Int32)) hown (mv hZ (hw _ (List.mem_of_getElem? (i := 9) rfl))) (g := (mkF m 7 #[.val (.int p1)] [(.int p1)])) rfl (hb hby d2_7)) ?_
    show Goes _ _ _ _ (s₁.setTop (mkF m 9 #[.val (.int p1)] [(.int (1114111 : Int32)), (.int p1)]))
    by_cases hc9 : (1114111 : Int32) < p1
    · skip
      refine Goes.st (fun _ k => XS.icmpNo X0.here hx rfl (hb hby d2_9) rfl (tlt hc9).2.2.2 k) ?_
      show Goes _ _ _ _ (s₁.setTop (mkF m 12 #[.val (.int p1)] []))
      refine Goes.st (fun _ k => XS.iconst X0.here hx rfl (hb hby d2_12) k) ?_
      show Goes _ _ _ _ (s₁.setTop (mkF m 13 #[.val (.int p1)] [(.int (1 : Int32))]))
      have hP : ¬ own_P p1.toInt := by
        simp only [← Int32.toInt_inj, Int32.lt_iff_toInt_lt, Int32.reduceToInt] at hc1 hc9
        unfold own_P; omega
      exact leafZ X0 hx Bd.notSynchronized Bd.returns (hb hby d2_13) (by decide) (by decide) (by decide) ⟨by rw [own_fb_n hP], N0, e0⟩
    · skip
      refine Goes.st (fun _ k => XS.icmpYes X0.here hx rfl (pc0 := 9) (pc' := 14) rfl (hb hby d2_9) rfl (flt hc9).2.2.2 (by decide) (by decide) k) ?_
      show Goes _ _ _ _ (s₁.setTop (mkF m 14 #[.val (.int p1)] []))
      refine Goes.st (fun _ k => XS.iloadN X0.here hx rfl (hb hby d2_14) rfl k) ?_
      show Goes _ _ _ _ (s₁.setTop (mkF m 15 #[.val (.int p1)] [(.int p1)]))
      refine Goes.st (fun _ k => XS.bipush X0.here hx rfl (hb hby d2_15) k) ?_
      show Goes _ _ _ _ (s₁.setTop (mkF m 17 #[.val (.int p1)] [(.int (32 : Int32)), (.int p1)]))
      by_cases hc17 : p1 < (32 : Int32)
      · skip
        refine Goes.st (fun _ k => XS.icmpNo X0.here hx rfl (hb hby d2_17) rfl (tlt hc17).2.1 k) ?_
        show Goes _ _ _ _ (s₁.setTop (mkF m 20 #[.val (.int p1)] []))
        refine Goes.st (fun _ k => XS.iloadN X0.here hx rfl (hb hby d2_20) rfl k) ?_
        show Goes _ _ _ _ (s₁.setTop (mkF m 21 #[.val (.int p1)] [(.int p1)]))
        refine Goes.st (fun _ k => XS.bipush X0.here hx rfl (hb hby d2_21) k) ?_
        show Goes _ _ _ _ (s₁.setTop (mkF m 23 #[.val (.int p1)] [(.int (9 : Int32)), (.int p1)]))
        by_cases hc23 : p1 = (9 : Int32)
        · skip
          refine Goes.st (fun _ k => XS.icmpYes X0.here hx rfl (pc0 := 23) (pc' := 42) rfl (hb hby d2_23) rfl (teq hc23).1 (by decide) (by decide) k) ?_
          show Goes _ _ _ _ (s₁.setTop (mkF m 42 #[.val (.int p1)] []))
          refine Goes.st (fun _ k => XS.iconst X0.here hx rfl (hb hby d2_42) k) ?_
          show Goes _ _ _ _ (s₁.setTop (mkF m 43 #[.val (.int p1)] [(.int (0 : Int32))]))
          have hP : own_P p1.toInt := by
            simp only [← Int32.toInt_inj, Int32.lt_iff_toInt_lt, Int32.reduceToInt] at hc1 hc9 hc17 hc23
            unfold own_P; omega
          exact leafZ X0 hx Bd.notSynchronized Bd.returns (hb hby d2_43) (by decide) (by decide) (by decide) ⟨by rw [own_fb_y hP], N0, e0⟩
        · skip
          refine Goes.st (fun _ k => XS.icmpNo X0.here hx rfl (hb hby d2_23) rfl (feq hc23).1 k) ?_
          show Goes _ _ _ _ (s₁.setTop (mkF m 26 #[.val (.int p1)] []))
          refine Goes.st (fun _ k => XS.iloadN X0.here hx rfl (hb hby d2_26) rfl k) ?_
          show Goes _ _ _ _ (s₁.setTop (mkF m 27 #[.val (.int p1)] [(.int p1)]))
          refine Goes.st (fun _ k => XS.bipush X0.here hx rfl (hb hby d2_27) k) ?_
          show Goes _ _ _ _ (s₁.setTop (mkF m 29 #[.val (.int p1)] [(.int (10 : Int32)), (.int p1)]))
          by_cases hc29 : p1 = (10 : Int32)
          · skip
            refine Goes.st (fun _ k => XS.icmpYes X0.here hx rfl (pc0 := 29) (pc' := 42) rfl (hb hby d2_29) rfl (teq hc29).1 (by decide) (by decide) k) ?_
            show Goes _ _ _ _ (s₁.setTop (mkF m 42 #[.val (.int p1)] []))
            refine Goes.st (fun _ k => XS.iconst X0.here hx rfl (hb hby d2_42) k) ?_
            show Goes _ _ _ _ (s₁.setTop (mkF m 43 #[.val (.int p1)] [(.int (0 : Int32))]))
            have hP : own_P p1.toInt := by
              simp only [← Int32.toInt_inj, Int32.lt_iff_toInt_lt, Int32.reduceToInt] at hc1 hc9 hc17 hc23 hc29
              unfold own_P; omega
            exact leafZ X0 hx Bd.notSynchronized Bd.returns (hb hby d2_43) (by decide) (by decide) (by decide) ⟨by rw [own_fb_y hP], N0, e0⟩
          · skip
            refine Goes.st (fun _ k => XS.icmpNo X0.here hx rfl (hb hby d2_29) rfl (feq hc29).1 k) ?_
            show Goes _ _ _ _ (s₁.setTop (mkF m 32 #[.val (.int p1)] []))
            refine Goes.st (fun _ k => XS.iloadN X0.here hx rfl (hb hby d2_32) rfl k) ?_
            show Goes _ _ _ _ (s₁.setTop (mkF m 33 #[.val (.int p1)] [(.int p1)]))
            refine Goes.st (fun _ k => XS.bipush X0.here hx rfl (hb hby d2_33) k) ?_
            show Goes _ _ _ _ (s₁.setTop (mkF m 35 #[.val (.int p1)] [(.int (13 : Int32)), (.int p1)]))
            by_cases hc35 : p1 = (13 : Int32)
            · skip
              refine Goes.st (fun _ k => XS.icmpYes X0.here hx rfl (pc0 := 35) (pc' := 42) rfl (hb hby d2_35) rfl (teq hc35).1 (by decide) (by decide) k) ?_
              show Goes _ _ _ _ (s₁.setTop (mkF m 42 #[.val (.int p1)] []))
              refine Goes.st (fun _ k => XS.iconst X0.here hx rfl (hb hby d2_42) k) ?_
              show Goes _ _ _ _ (s₁.setTop (mkF m 43 #[.val (.int p1)] [(.int (0 : Int32))]))
              have hP : own_P p1.toInt := by
                simp only [← Int32.toInt_inj, Int32.lt_iff_toInt_lt, Int32.reduceToInt] at hc1 hc9 hc17 hc23 hc29 hc35
                unfold own_P; omega
              exact leafZ X0 hx Bd.notSynchronized Bd.returns (hb hby d2_43) (by decide) (by decide) (by decide) ⟨by rw [own_fb_y hP], N0, e0⟩
            · skip
              refine Goes.st (fun _ k => XS.icmpNo X0.here hx rfl (hb hby d2_35) rfl (feq hc35).1 k) ?_
              show Goes _ _ _ _ (s₁.setTop (mkF m 38 #[.val (.int p1)] []))
              refine Goes.st (fun _ k => XS.iconst X0.here hx rfl (hb hby d2_38) k) ?_
              show Goes _ _ _ _ (s₁.setTop (mkF m 39 #[.val (.int p1)] [(.int (1 : Int32))]))
              refine Goes.st (fun _ k => XS.goto X0.here hx rfl (pc0 := 39) (pc' := 43) rfl (hb hby d2_39) (by decide) (by decide) k) ?_
              show Goes _ _ _ _ (s₁.setTop (mkF m 43 #[.val (.int p1)] [(.int (1 : Int32))]))
              have hP : ¬ own_P p1.toInt := by
                simp only [← Int32.toInt_inj, Int32.lt_iff_toInt_lt, Int32.reduceToInt] at hc1 hc9 hc17 hc23 hc29 hc35
                unfold own_P; omega
              exact leafZ X0 hx Bd.notSynchronized Bd.returns (hb hby d2_43) (by decide) (by decide) (by decide) ⟨by rw [own_fb_n hP], N0, e0⟩
      · skip
        refine Goes.st (fun _ k => XS.icmpYes X0.here hx rfl (pc0 := 17) (pc' := 44) rfl (hb hby d2_17) rfl (flt hc17).2.1 (by decide) (by decide) k) ?_
        show Goes _ _ _ _ (s₁.setTop (mkF m 44 #[.val (.int p1)] []))
        refine Goes.st (fun _ k => XS.iloadN X0.here hx rfl (hb hby d2_44) rfl k) ?_
        show Goes _ _ _ _ (s₁.setTop (mkF m 45 #[.val (.int p1)] [(.int p1)]))
        refine Goes.st (X0.ldcInt hx (v := (55296 : Int32)) hown (mv hZ (hw _ (List.mem_of_getElem? (i := 2) rfl))) (g := (mkF m 45 #[.val (.int p1)] [(.int p1)])) rfl (hb hby d2_45)) ?_
        show Goes _ _ _ _ (s₁.setTop (mkF m 47 #[.val (.int p1)] [(.int (55296 : Int32)), (.int p1)]))
        by_cases hc47 : p1 < (55296 : Int32)
        · skip
          refine Goes.st (fun _ k => XS.icmpYes X0.here hx rfl (pc0 := 47) (pc' := 58) rfl (hb hby d2_47) rfl (tlt hc47).1 (by decide) (by decide) k) ?_
          show Goes _ _ _ _ (s₁.setTop (mkF m 58 #[.val (.int p1)] []))
          refine Goes.st (fun _ k => XS.iloadN X0.here hx rfl (hb hby d2_58) rfl k) ?_
          show Goes _ _ _ _ (s₁.setTop (mkF m 59 #[.val (.int p1)] [(.int p1)]))
          refine Goes.st (X0.ldcInt hx (v := (65534 : Int32)) hown (mv hZ (hw _ (List.mem_of_getElem? (i := 6) rfl))) (g := (mkF m 59 #[.val (.int p1)] [(.int p1)])) rfl (hb hby d2_59)) ?_
          show Goes _ _ _ _ (s₁.setTop (mkF m 61 #[.val (.int p1)] [(.int (65534 : Int32)), (.int p1)]))
          by_cases hc61 : p1 = (65534 : Int32)
          · skip
            refine Goes.st (fun _ k => XS.icmpYes X0.here hx rfl (pc0 := 61) (pc' := 70) rfl (hb hby d2_61) rfl (teq hc61).1 (by decide) (by decide) k) ?_
            show Goes _ _ _ _ (s₁.setTop (mkF m 70 #[.val (.int p1)] []))
            refine Goes.st (fun _ k => XS.iconst X0.here hx rfl (hb hby d2_70) k) ?_
            show Goes _ _ _ _ (s₁.setTop (mkF m 71 #[.val (.int p1)] [(.int (1 : Int32))]))
            refine Goes.st (fun _ k => XS.goto X0.here hx rfl (pc0 := 71) (pc' := 75) rfl (hb hby d2_71) (by decide) (by decide) k) ?_
            show Goes _ _ _ _ (s₁.setTop (mkF m 75 #[.val (.int p1)] [(.int (1 : Int32))]))
            have hP : ¬ own_P p1.toInt := by
              simp only [← Int32.toInt_inj, Int32.lt_iff_toInt_lt, Int32.reduceToInt] at hc1 hc9 hc17 hc47 hc61
              unfold own_P; omega
            exact leafZ X0 hx Bd.notSynchronized Bd.returns (hb hby d2_75) (by decide) (by decide) (by decide) ⟨by rw [own_fb_n hP], N0, e0⟩
          · skip
            refine Goes.st (fun _ k => XS.icmpNo X0.here hx rfl (hb hby d2_61) rfl (feq hc61).1 k) ?_
            show Goes _ _ _ _ (s₁.setTop (mkF m 64 #[.val (.int p1)] []))
            refine Goes.st (fun _ k => XS.iloadN X0.here hx rfl (hb hby d2_64) rfl k) ?_
            show Goes _ _ _ _ (s₁.setTop (mkF m 65 #[.val (.int p1)] [(.int p1)]))
            refine Goes.st (X0.ldcInt hx (v := (65535 : Int32)) hown (mv hZ (hw _ (List.mem_of_getElem? (i := 7) rfl))) (g := (mkF m 65 #[.val (.int p1)] [(.int p1)])) rfl (hb hby d2_65)) ?_
            show Goes _ _ _ _ (s₁.setTop (mkF m 67 #[.val (.int p1)] [(.int (65535 : Int32)), (.int p1)]))
            by_cases hc67 : p1 = (65535 : Int32)
            · skip
              refine Goes.st (fun _ k => XS.icmpNo X0.here hx rfl (hb hby d2_67) rfl (teq hc67).2 k) ?_
              show Goes _ _ _ _ (s₁.setTop (mkF m 70 #[.val (.int p1)] []))
              refine Goes.st (fun _ k => XS.iconst X0.here hx rfl (hb hby d2_70) k) ?_
              show Goes _ _ _ _ (s₁.setTop (mkF m 71 #[.val (.int p1)] [(.int (1 : Int32))]))
              refine Goes.st (fun _ k => XS.goto X0.here hx rfl (pc0 := 71) (pc' := 75) rfl (hb hby d2_71) (by decide) (by decide) k) ?_
              show Goes _ _ _ _ (s₁.setTop (mkF m 75 #[.val (.int p1)] [(.int (1 : Int32))]))
              have hP : ¬ own_P p1.toInt := by
                simp only [← Int32.toInt_inj, Int32.lt_iff_toInt_lt, Int32.reduceToInt] at hc1 hc9 hc17 hc47 hc61 hc67
                unfold own_P; omega
              exact leafZ X0 hx Bd.notSynchronized Bd.returns (hb hby d2_75) (by decide) (by decide) (by decide) ⟨by rw [own_fb_n hP], N0, e0⟩
            · skip
              refine Goes.st (fun _ k => XS.icmpYes X0.here hx rfl (pc0 := 67) (pc' := 74) rfl (hb hby d2_67) rfl (feq hc67).2 (by decide) (by decide) k) ?_
              show Goes _ _ _ _ (s₁.setTop (mkF m 74 #[.val (.int p1)] []))
              refine Goes.st (fun _ k => XS.iconst X0.here hx rfl (hb hby d2_74) k) ?_
              show Goes _ _ _ _ (s₁.setTop (mkF m 75 #[.val (.int p1)] [(.int (0 : Int32))]))
              have hP : own_P p1.toInt := by
                simp only [← Int32.toInt_inj, Int32.lt_iff_toInt_lt, Int32.reduceToInt] at hc1 hc9 hc17 hc47 hc61 hc67
                unfold own_P; omega
              exact leafZ X0 hx Bd.notSynchronized Bd.returns (hb hby d2_75) (by decide) (by decide) (by decide) ⟨by rw [own_fb_y hP], N0, e0⟩
        · skip
          refine Goes.st (fun _ k => XS.icmpNo X0.here hx rfl (hb hby d2_47) rfl (flt hc47).1 k) ?_
          show Goes _ _ _ _ (s₁.setTop (mkF m 50 #[.val (.int p1)] []))
          refine Goes.st (fun _ k => XS.iloadN X0.here hx rfl (hb hby d2_50) rfl k) ?_
          show Goes _ _ _ _ (s₁.setTop (mkF m 51 #[.val (.int p1)] [(.int p1)]))
          refine Goes.st (X0.ldcInt hx (v := (57343 : Int32)) hown (mv hZ (hw _ (List.mem_of_getElem? (i := 3) rfl))) (g := (mkF m 51 #[.val (.int p1)] [(.int p1)])) rfl (hb hby d2_51)) ?_
          show Goes _ _ _ _ (s₁.setTop (mkF m 53 #[.val (.int p1)] [(.int (57343 : Int32)), (.int p1)]))
          by_cases hc53 : (57343 : Int32) < p1
          · skip
            refine Goes.st (fun _ k => XS.icmpYes X0.here hx rfl (pc0 := 53) (pc' := 58) rfl (hb hby d2_53) rfl (tlt hc53).2.2.1 (by decide) (by decide) k) ?_
            show Goes _ _ _ _ (s₁.setTop (mkF m 58 #[.val (.int p1)] []))
            refine Goes.st (fun _ k => XS.iloadN X0.here hx rfl (hb hby d2_58) rfl k) ?_
            show Goes _ _ _ _ (s₁.setTop (mkF m 59 #[.val (.int p1)] [(.int p1)]))
            refine Goes.st (X0.ldcInt hx (v := (65534 : Int32)) hown (mv hZ (hw _ (List.mem_of_getElem? (i := 6) rfl))) (g := (mkF m 59 #[.val (.int p1)] [(.int p1)])) rfl (hb hby d2_59)) ?_
            show Goes _ _ _ _ (s₁.setTop (mkF m 61 #[.val (.int p1)] [(.int (65534 : Int32)), (.int p1)]))
            by_cases hc61 : p1 = (65534 : Int32)
            · skip
              refine Goes.st (fun _ k => XS.icmpYes X0.here hx rfl (pc0 := 61) (pc' := 70) rfl (hb hby d2_61) rfl (teq hc61).1 (by decide) (by decide) k) ?_
              show Goes _ _ _ _ (s₁.setTop (mkF m 70 #[.val (.int p1)] []))
              refine Goes.st (fun _ k => XS.iconst X0.here hx rfl (hb hby d2_70) k) ?_
              show Goes _ _ _ _ (s₁.setTop (mkF m 71 #[.val (.int p1)] [(.int (1 : Int32))]))
              refine Goes.st (fun _ k => XS.goto X0.here hx rfl (pc0 := 71) (pc' := 75) rfl (hb hby d2_71) (by decide) (by decide) k) ?_
              show Goes _ _ _ _ (s₁.setTop (mkF m 75 #[.val (.int p1)] [(.int (1 : Int32))]))
              have hP : ¬ own_P p1.toInt := by
                simp only [← Int32.toInt_inj, Int32.lt_iff_toInt_lt, Int32.reduceToInt] at hc1 hc9 hc17 hc47 hc53 hc61
                unfold own_P; omega
              exact leafZ X0 hx Bd.notSynchronized Bd.returns (hb hby d2_75) (by decide) (by decide) (by decide) ⟨by rw [own_fb_n hP], N0, e0⟩
            · skip
              refine Goes.st (fun _ k => XS.icmpNo X0.here hx rfl (hb hby d2_61) rfl (feq hc61).1 k) ?_
              show Goes _ _ _ _ (s₁.setTop (mkF m 64 #[.val (.int p1)] []))
              refine Goes.st (fun _ k => XS.iloadN X0.here hx rfl (hb hby d2_64) rfl k) ?_
              show Goes _ _ _ _ (s₁.setTop (mkF m 65 #[.val (.int p1)] [(.int p1)]))
              refine Goes.st (X0.ldcInt hx (v := (65535 : Int32)) hown (mv hZ (hw _ (List.mem_of_getElem? (i := 7) rfl))) (g := (mkF m 65 #[.val (.int p1)] [(.int p1)])) rfl (hb hby d2_65)) ?_
              show Goes _ _ _ _ (s₁.setTop (mkF m 67 #[.val (.int p1)] [(.int (65535 : Int32)), (.int p1)]))
              by_cases hc67 : p1 = (65535 : Int32)
              · skip
                refine Goes.st (fun _ k => XS.icmpNo X0.here hx rfl (hb hby d2_67) rfl (teq hc67).2 k) ?_
                show Goes _ _ _ _ (s₁.setTop (mkF m 70 #[.val (.int p1)] []))
                refine Goes.st (fun _ k => XS.iconst X0.here hx rfl (hb hby d2_70) k) ?_
                show Goes _ _ _ _ (s₁.setTop (mkF m 71 #[.val (.int p1)] [(.int (1 : Int32))]))
                refine Goes.st (fun _ k => XS.goto X0.here hx rfl (pc0 := 71) (pc' := 75) rfl (hb hby d2_71) (by decide) (by decide) k) ?_
                show Goes _ _ _ _ (s₁.setTop (mkF m 75 #[.val (.int p1)] [(.int (1 : Int32))]))
                have hP : ¬ own_P p1.toInt := by
                  simp only [← Int32.toInt_inj, Int32.lt_iff_toInt_lt, Int32.reduceToInt] at hc1 hc9 hc17 hc47 hc53 hc61 hc67
                  unfold own_P; omega
                exact leafZ X0 hx Bd.notSynchronized Bd.returns (hb hby d2_75) (by decide) (by decide) (by decide) ⟨by rw [own_fb_n hP], N0, e0⟩
              · skip
                refine Goes.st (fun _ k => XS.icmpYes X0.here hx rfl (pc0 := 67) (pc' := 74) rfl (hb hby d2_67) rfl (feq hc67).2 (by decide) (by decide) k) ?_
                show Goes _ _ _ _ (s₁.setTop (mkF m 74 #[.val (.int p1)] []))
                refine Goes.st (fun _ k => XS.iconst X0.here hx rfl (hb hby d2_74) k) ?_
                show Goes _ _ _ _ (s₁.setTop (mkF m 75 #[.val (.int p1)] [(.int (0 : Int32))]))
                have hP : own_P p1.toInt := by
                  simp only [← Int32.toInt_inj, Int32.lt_iff_toInt_lt, Int32.reduceToInt] at hc1 hc9 hc17 hc47 hc53 hc61 hc67
                  unfold own_P; omega
                exact leafZ X0 hx Bd.notSynchronized Bd.returns (hb hby d2_75) (by decide) (by decide) (by decide) ⟨by rw [own_fb_y hP], N0, e0⟩
          · skip
            refine Goes.st (fun _ k => XS.icmpNo X0.here hx rfl (hb hby d2_53) rfl (flt hc53).2.2.1 k) ?_
            show Goes _ _ _ _ (s₁.setTop (mkF m 56 #[.val (.int p1)] []))
            refine Goes.st (fun _ k => XS.iconst X0.here hx rfl (hb hby d2_56) k) ?_
            show Goes _ _ _ _ (s₁.setTop (mkF m 57 #[.val (.int p1)] [(.int (1 : Int32))]))
            have hP : ¬ own_P p1.toInt := by
              simp only [← Int32.toInt_inj, Int32.lt_iff_toInt_lt, Int32.reduceToInt] at hc1 hc9 hc17 hc47 hc53
              unfold own_P; omega
            exact leafZ X0 hx Bd.notSynchronized Bd.returns (hb hby d2_57) (by decide) (by decide) (by decide) ⟨by rw [own_fb_n hP], N0, e0⟩
theorem ef_0 (m : MethodId) (p1 : Int32) (p2 : Int32) (p3 : Int32) : entryFrame m #[(.int p1), (.int p2), (.int p3)] maxLocals = mkF m 0 #[.val (.int p1), .val (.int p2), .val (.int p3), .unset, .unset, .unset, .unset] [] := by first | (simp [entryFrame, mkF, argsToLocals, Value.category, maxLocals]; done) | rfl
def Q0 (Z : State) (p1 : Int32) (p2 : Int32) (p3 : Int32)  (h0 : Heap) (n0 : Nat) (v : Option Value) (h : Heap) (L : List Loc) : Prop := v = some (.int (1 : Int32)) ∧ Fr n0 L
set_option maxRecDepth 65536 in
set_option maxHeartbeats 40000000 in
theorem rm0 (l : Launch) (Z : State) (a0 : Array Value) (hw : ∀ d ∈ tables_1, d.before a0 Z = true) (ws : List Jvm.Cond) (p1 : Int32) (p2 : Int32) (p3 : Int32)  (h0 : Heap) (n0 : Nat) (Z0 : n0 ≤ h0.size)  :
    MetFree l x (head1 (Jvm.Cond.code x code maxLocals ret :: ws) room_1) (fun a U => a = #[(.int p1), (.int p2), (.int p3)] ∧ Z.Warmed39 U.vm ∧ U.heap = h0) (fun _ _ _ _ _ => True) (fun _ U o U' => ∃ v L, o = .returned v ∧ Q0 Z p1 p2 p3  h0 n0 v U'.heap L ∧ FrameEnd U o U' L room_1.cells room_1.slots) := by
  refine MetFree.of_bodySF pn_0 hisR ?_
  intro p e s m args below meth c s₁ Bd hml0 hP hK
  obtain ⟨rfl, hZ, hh⟩ := hP
  have hx := Bd.exec
  have hby := Bd.bytes
  have hml : c.maxLocals = 7 := hml0
  have hown : s.vm.findClass "com/example/fenestra/fenestra/formats/XmlCharsIsAllowedPinLaw" = some m.cls := findClass_of_methodNamed Bd.named
  have hnm := (name_of_methodNamed Bd.named Bd.method).1
  have X0 : Stand p l e room_1 s m #[(.int p1), (.int p2), (.int p3)] below meth c s₁ [] 0 0 := Stand.of_body Bd
  have e0 : s₁.heap = h0 := by rw [← hh, Bd.state]; rfl
  have N0 := Fr.nil n0
  show Goes p.tables e below (Ends below s (Q0 Z p1 p2 p3  h0 n0) room_1.cells room_1.slots) (s₁.setTop (entryFrame m #[(.int p1), (.int p2), (.int p3)] maxLocals))
  refine Goes.cast (ef_0 m p1 p2 p3) ?_
  refine Goes.st (fun _ k => XS.bipush X0.here hx rfl (hb hby at_0) k) ?_
  show Goes _ _ _ _ (s₁.setTop (mkF m 2 #[.val (.int p1), .val (.int p2), .val (.int p3), .unset, .unset, .unset, .unset] [(.int (18 : Int32))]))
  obtain ⟨T1, h1, k1, X1, e1, E1, A1, st1⟩ := newP X0 hx hZ (hw _ (List.mem_of_getElem? (i := 0) rfl)) e0 (g := (mkF m 2 #[.val (.int p1), .val (.int p2), .val (.int p3), .unset, .unset, .unset, .unset] [(.int (18 : Int32))])) rfl (hb hby at_2) rfl (by decide) (cap := 18) (by decide) (by decide) (by decide) (by decide)
  obtain ⟨b, gb⟩ : ∃ z, z = h0.size := ⟨_, rfl⟩
  rw [← gb] at A1 st1
  have gn : n0 ≤ b := Nat.le_trans Z0 (Nat.le_of_eq gb.symm)
  have B1 := own_A_new A1
  refine Goes.st st1 ?_
  show Goes _ _ _ _ (T1.setTop (mkF m 4 #[.val (.int p1), .val (.int p2), .val (.int p3), .unset, .unset, .unset, .unset] [(.ref b)]))
  refine Goes.st (fun _ k => XS.dup X1.here hx rfl (hb hby at_4) rfl rfl k) ?_
  show Goes _ _ _ _ (T1.setTop (mkF m 5 #[.val (.int p1), .val (.int p2), .val (.int p3), .unset, .unset, .unset, .unset] [(.ref b), (.ref b)]))
  refine Goes.st (fun _ k => XS.iconst X1.here hx rfl (hb hby at_5) k) ?_
  show Goes _ _ _ _ (T1.setTop (mkF m 6 #[.val (.int p1), .val (.int p2), .val (.int p3), .unset, .unset, .unset, .unset] [(.int (0 : Int32)), (.ref b), (.ref b)]))
  refine Goes.st (fun _ k => XS.iconst X1.here hx rfl (hb hby at_6) k) ?_
  show Goes _ _ _ _ (T1.setTop (mkF m 7 #[.val (.int p1), .val (.int p2), .val (.int p3), .unset, .unset, .unset, .unset] [(.int (0 : Int32)), (.int (0 : Int32)), (.ref b), (.ref b)]))
  obtain ⟨cl2, Ar2, S2, I2⟩ := B1
  have hin2 : ¬ ((0 : Int32) < 0 ∨ cl2.slots.size ≤ ((0 : Int32)).toNatClampNeg) := inb_of S2 ⟨by decide, by decide⟩
  obtain ⟨T2, h2, X2, e2, W2, st2⟩ := stI X1 hx hZ e1 Ar2 (j := (0 : Int32)) hin2 (g := (mkF m 7 #[.val (.int p1), .val (.int p2), .val (.int p3), .unset, .unset, .unset, .unset] [(.int (0 : Int32)), (.int (0 : Int32)), (.ref b), (.ref b)])) rfl rfl (hb hby at_7)
  have B2 := own_A_wr Ar2 S2 I2 W2
  have N2 := Fr.snoc X2 N0 gn
  refine Goes.st st2 ?_
  show Goes _ _ _ _ (T2.setTop (mkF m 8 #[.val (.int p1), .val (.int p2), .val (.int p3), .unset, .unset, .unset, .unset] [(.ref b)]))
  refine Goes.st (fun _ k => XS.dup X2.here hx rfl (hb hby at_8) rfl rfl k) ?_
  show Goes _ _ _ _ (T2.setTop (mkF m 9 #[.val (.int p1), .val (.int p2), .val (.int p3), .unset, .unset, .unset, .unset] [(.ref b), (.ref b)]))
  refine Goes.st (fun _ k => XS.iconst X2.here hx rfl (hb hby at_9) k) ?_
  show Goes _ _ _ _ (T2.setTop (mkF m 10 #[.val (.int p1), .val (.int p2), .val (.int p3), .unset, .unset, .unset, .unset] [(.int (1 : Int32)), (.ref b), (.ref b)]))
  refine Goes.st (fun _ k => XS.bipush X2.here hx rfl (hb hby at_10) k) ?_
  show Goes _ _ _ _ (T2.setTop (mkF m 12 #[.val (.int p1), .val (.int p2), .val (.int p3), .unset, .unset, .unset, .unset] [(.int (9 : Int32)), (.int (1 : Int32)), (.ref b), (.ref b)]))
  obtain ⟨cl3, Ar3, S3, I3⟩ := B2
  have hin3 : ¬ ((1 : Int32) < 0 ∨ cl3.slots.size ≤ ((1 : Int32)).toNatClampNeg) := inb_of S3 ⟨by decide, by decide⟩
  obtain ⟨T3, h3, X3, e3, W3, st3⟩ := stI X2 hx hZ e2 Ar3 (j := (1 : Int32)) hin3 (g := (mkF m 12 #[.val (.int p1), .val (.int p2), .val (.int p3), .unset, .unset, .unset, .unset] [(.int (9 : Int32)), (.int (1 : Int32)), (.ref b), (.ref b)])) rfl rfl (hb hby at_12)
  have B3 := own_A_wr Ar3 S3 I3 W3
  have N3 := Fr.snoc X3 N2 gn
  refine Goes.st st3 ?_
  show Goes _ _ _ _ (T3.setTop (mkF m 13 #[.val (.int p1), .val (.int p2), .val (.int p3), .unset, .unset, .unset, .unset] [(.ref b)]))
  refine Goes.st (fun _ k => XS.dup X3.here hx rfl (hb hby at_13) rfl rfl k) ?_
  show Goes _ _ _ _ (T3.setTop (mkF m 14 #[.val (.int p1), .val (.int p2), .val (.int p3), .unset, .unset, .unset, .unset] [(.ref b), (.ref b)]))
  refine Goes.st (fun _ k => XS.iconst X3.here hx rfl (hb hby at_14) k) ?_
  show Goes _ _ _ _ (T3.setTop (mkF m 15 #[.val (.int p1), .val (.int p2), .val (.int p3), .unset, .unset, .unset, .unset] [(.int (2 : Int32)), (.ref b), (.ref b)]))
  refine Goes.st (fun _ k => XS.bipush X3.here hx rfl (hb hby at_15) k) ?_
  show Goes _ _ _ _ (T3.setTop (mkF m 17 #[.val (.int p1), .val (.int p2), .val (.int p3), .unset, .unset, .unset, .unset] [(.int (10 : Int32)), (.int (2 : Int32)), (.ref b), (.ref b)]))
  obtain ⟨cl4, Ar4, S4, I4⟩ := B3
  have hin4 : ¬ ((2 : Int32) < 0 ∨ cl4.slots.size ≤ ((2 : Int32)).toNatClampNeg) := inb_of S4 ⟨by decide, by decide⟩
  obtain ⟨T4, h4, X4, e4, W4, st4⟩ := stI X3 hx hZ e3 Ar4 (j := (2 : Int32)) hin4 (g := (mkF m 17 #[.val (.int p1), .val (.int p2), .val (.int p3), .unset, .unset, .unset, .unset] [(.int (10 : Int32)), (.int (2 : Int32)), (.ref b), (.ref b)])) rfl rfl (hb hby at_17)
  have B4 := own_A_wr Ar4 S4 I4 W4
  have N4 := Fr.snoc X4 N3 gn
  refine Goes.st st4 ?_
  show Goes _ _ _ _ (T4.setTop (mkF m 18 #[.val (.int p1), .val (.int p2), .val (.int p3), .unset, .unset, .unset, .unset] [(.ref b)]))
  refine Goes.st (fun _ k => XS.dup X4.here hx rfl (hb hby at_18) rfl rfl k) ?_
  show Goes _ _ _ _ (T4.setTop (mkF m 19 #[.val (.int p1), .val (.int p2), .val (.int p3), .unset, .unset, .unset, .unset] [(.ref b), (.ref b)]))
  refine Goes.st (fun _ k => XS.iconst X4.here hx rfl (hb hby at_19) k) ?_
  show Goes _ _ _ _ (T4.setTop (mkF m 20 #[.val (.int p1), .val (.int p2), .val (.int p3), .unset, .unset, .unset, .unset] [(.int (3 : Int32)), (.ref b), (.ref b)]))
  refine Goes.st (fun _ k => XS.bipush X4.here hx rfl (hb hby at_20) k) ?_
  show Goes _ _ _ _ (T4.setTop (mkF m 22 #[.val (.int p1), .val (.int p2), .val (.int p3), .unset, .unset, .unset, .unset] [(.int (13 : Int32)), (.int (3 : Int32)), (.ref b), (.ref b)]))
  obtain ⟨cl5, Ar5, S5, I5⟩ := B4
  have hin5 : ¬ ((3 : Int32) < 0 ∨ cl5.slots.size ≤ ((3 : Int32)).toNatClampNeg) := inb_of S5 ⟨by decide, by decide⟩
  obtain ⟨T5, h5, X5, e5, W5, st5⟩ := stI X4 hx hZ e4 Ar5 (j := (3 : Int32)) hin5 (g := (mkF m 22 #[.val (.int p1), .val (.int p2), .val (.int p3), .unset, .unset, .unset, .unset] [(.int (13 : Int32)), (.int (3 : Int32)), (.ref b), (.ref b)])) rfl rfl (hb hby at_22)
  have B5 := own_A_wr Ar5 S5 I5 W5
  have N5 := Fr.snoc X5 N4 gn
  refine Goes.st st5 ?_
  show Goes _ _ _ _ (T5.setTop (mkF m 23 #[.val (.int p1), .val (.int p2), .val (.int p3), .unset, .unset, .unset, .unset] [(.ref b)]))
  refine Goes.st (fun _ k => XS.dup X5.here hx rfl (hb hby at_23) rfl rfl k) ?_
  show Goes _ _ _ _ (T5.setTop (mkF m 24 #[.val (.int p1), .val (.int p2), .val (.int p3), .unset, .unset, .unset, .unset] [(.ref b), (.ref b)]))
  refine Goes.st (fun _ k => XS.iconst X5.here hx rfl (hb hby at_24) k) ?_
  show Goes _ _ _ _ (T5.setTop (mkF m 25 #[.val (.int p1), .val (.int p2), .val (.int p3), .unset, .unset, .unset, .unset] [(.int (4 : Int32)), (.ref b), (.ref b)]))
  refine Goes.st (fun _ k => XS.bipush X5.here hx rfl (hb hby at_25) k) ?_
  show Goes _ _ _ _ (T5.setTop (mkF m 27 #[.val (.int p1), .val (.int p2), .val (.int p3), .unset, .unset, .unset, .unset] [(.int (32 : Int32)), (.int (4 : Int32)), (.ref b), (.ref b)]))
  obtain ⟨cl6, Ar6, S6, I6⟩ := B5
  have hin6 : ¬ ((4 : Int32) < 0 ∨ cl6.slots.size ≤ ((4 : Int32)).toNatClampNeg) := inb_of S6 ⟨by decide, by decide⟩
  obtain ⟨T6, h6, X6, e6, W6, st6⟩ := stI X5 hx hZ e5 Ar6 (j := (4 : Int32)) hin6 (g := (mkF m 27 #[.val (.int p1), .val (.int p2), .val (.int p3), .unset, .unset, .unset, .unset] [(.int (32 : Int32)), (.int (4 : Int32)), (.ref b), (.ref b)])) rfl rfl (hb hby at_27)
  have B6 := own_A_wr Ar6 S6 I6 W6
  have N6 := Fr.snoc X6 N5 gn
  refine Goes.st st6 ?_
  show Goes _ _ _ _ (T6.setTop (mkF m 28 #[.val (.int p1), .val (.int p2), .val (.int p3), .unset, .unset, .unset, .unset] [(.ref b)]))
  refine Goes.st (fun _ k => XS.dup X6.here hx rfl (hb hby at_28) rfl rfl k) ?_
  show Goes _ _ _ _ (T6.setTop (mkF m 29 #[.val (.int p1), .val (.int p2), .val (.int p3), .unset, .unset, .unset, .unset] [(.ref b), (.ref b)]))
  refine Goes.st (fun _ k => XS.iconst X6.here hx rfl (hb hby at_29) k) ?_
  show Goes _ _ _ _ (T6.setTop (mkF m 30 #[.val (.int p1), .val (.int p2), .val (.int p3), .unset, .unset, .unset, .unset] [(.int (5 : Int32)), (.ref b), (.ref b)]))
  refine Goes.st (fun _ k => XS.bipush X6.here hx rfl (hb hby at_30) k) ?_
  show Goes _ _ _ _ (T6.setTop (mkF m 32 #[.val (.int p1), .val (.int p2), .val (.int p3), .unset, .unset, .unset, .unset] [(.int (127 : Int32)), (.int (5 : Int32)), (.ref b), (.ref b)]))
  obtain ⟨cl7, Ar7, S7, I7⟩ := B6
  have hin7 : ¬ ((5 : Int32) < 0 ∨ cl7.slots.size ≤ ((5 : Int32)).toNatClampNeg) := inb_of S7 ⟨by decide, by decide⟩
  obtain ⟨T7, h7, X7, e7, W7, st7⟩ := stI X6 hx hZ e6 Ar7 (j := (5 : Int32)) hin7 (g := (mkF m 32 #[.val (.int p1), .val (.int p2), .val (.int p3), .unset, .unset, .unset, .unset] [(.int (127 : Int32)), (.int (5 : Int32)), (.ref b), (.ref b)])) rfl rfl (hb hby at_32)
  have B7 := own_A_wr Ar7 S7 I7 W7
  have N7 := Fr.snoc X7 N6 gn
  refine Goes.st st7 ?_
  show Goes _ _ _ _ (T7.setTop (mkF m 33 #[.val (.int p1), .val (.int p2), .val (.int p3), .unset, .unset, .unset, .unset] [(.ref b)]))
  refine Goes.st (fun _ k => XS.dup X7.here hx rfl (hb hby at_33) rfl rfl k) ?_
  show Goes _ _ _ _ (T7.setTop (mkF m 34 #[.val (.int p1), .val (.int p2), .val (.int p3), .unset, .unset, .unset, .unset] [(.ref b), (.ref b)]))
  refine Goes.st (fun _ k => XS.bipush X7.here hx rfl (hb hby at_34) k) ?_
  show Goes _ _ _ _ (T7.setTop (mkF m 36 #[.val (.int p1), .val (.int p2), .val (.int p3), .unset, .unset, .unset, .unset] [(.int (6 : Int32)), (.ref b), (.ref b)]))
  refine Goes.st (X7.ldcInt hx (v := (55295 : Int32)) hown (mv hZ (hw _ (List.mem_of_getElem? (i := 1) rfl))) (g := (mkF m 36 #[.val (.int p1), .val (.int p2), .val (.int p3), .unset, .unset, .unset, .unset] [(.int (6 : Int32)), (.ref b), (.ref b)])) rfl (hb hby at_36)) ?_
  show Goes _ _ _ _ (T7.setTop (mkF m 38 #[.val (.int p1), .val (.int p2), .val (.int p3), .unset, .unset, .unset, .unset] [(.int (55295 : Int32)), (.int (6 : Int32)), (.ref b), (.ref b)]))
  obtain ⟨cl8, Ar8, S8, I8⟩ := B7
  have hin8 : ¬ ((6 : Int32) < 0 ∨ cl8.slots.size ≤ ((6 : Int32)).toNatClampNeg) := inb_of S8 ⟨by decide, by decide⟩
  obtain ⟨T8, h8, X8, e8, W8, st8⟩ := stI X7 hx hZ e7 Ar8 (j := (6 : Int32)) hin8 (g := (mkF m 38 #[.val (.int p1), .val (.int p2), .val (.int p3), .unset, .unset, .unset, .unset] [(.int (55295 : Int32)), (.int (6 : Int32)), (.ref b), (.ref b)])) rfl rfl (hb hby at_38)
  have B8 := own_A_wr Ar8 S8 I8 W8
  have N8 := Fr.snoc X8 N7 gn
  refine Goes.st st8 ?_
  show Goes _ _ _ _ (T8.setTop (mkF m 39 #[.val (.int p1), .val (.int p2), .val (.int p3), .unset, .unset, .unset, .unset] [(.ref b)]))
  refine Goes.st (fun _ k => XS.dup X8.here hx rfl (hb hby at_39) rfl rfl k) ?_
  show Goes _ _ _ _ (T8.setTop (mkF m 40 #[.val (.int p1), .val (.int p2), .val (.int p3), .unset, .unset, .unset, .unset] [(.ref b), (.ref b)]))
  refine Goes.st (fun _ k => XS.bipush X8.here hx rfl (hb hby at_40) k) ?_
  show Goes _ _ _ _ (T8.setTop (mkF m 42 #[.val (.int p1), .val (.int p2), .val (.int p3), .unset, .unset, .unset, .unset] [(.int (7 : Int32)), (.ref b), (.ref b)]))
  refine Goes.st (X8.ldcInt hx (v := (55296 : Int32)) hown (mv hZ (hw _ (List.mem_of_getElem? (i := 2) rfl))) (g := (mkF m 42 #[.val (.int p1), .val (.int p2), .val (.int p3), .unset, .unset, .unset, .unset] [(.int (7 : Int32)), (.ref b), (.ref b)])) rfl (hb hby at_42)) ?_
  show Goes _ _ _ _ (T8.setTop (mkF m 44 #[.val (.int p1), .val (.int p2), .val (.int p3), .unset, .unset, .unset, .unset] [(.int (55296 : Int32)), (.int (7 : Int32)), (.ref b), (.ref b)]))
  obtain ⟨cl9, Ar9, S9, I9⟩ := B8
  have hin9 : ¬ ((7 : Int32) < 0 ∨ cl9.slots.size ≤ ((7 : Int32)).toNatClampNeg) := inb_of S9 ⟨by decide, by decide⟩
  obtain ⟨T9, h9, X9, e9, W9, st9⟩ := stI X8 hx hZ e8 Ar9 (j := (7 : Int32)) hin9 (g := (mkF m 44 #[.val (.int p1), .val (.int p2), .val (.int p3), .unset, .unset, .unset, .unset] [(.int (55296 : Int32)), (.int (7 : Int32)), (.ref b), (.ref b)])) rfl rfl (hb hby at_44)
  have B9 := own_A_wr Ar9 S9 I9 W9
  have N9 := Fr.snoc X9 N8 gn
  refine Goes.st st9 ?_
  show Goes _ _ _ _ (T9.setTop (mkF m 45 #[.val (.int p1), .val (.int p2), .val (.int p3), .unset, .unset, .unset, .unset] [(.ref b)]))
  refine Goes.st (fun _ k => XS.dup X9.here hx rfl (hb hby at_45) rfl rfl k) ?_
  show Goes _ _ _ _ (T9.setTop (mkF m 46 #[.val (.int p1), .val (.int p2), .val (.int p3), .unset, .unset, .unset, .unset] [(.ref b), (.ref b)]))
  refine Goes.st (fun _ k => XS.bipush X9.here hx rfl (hb hby at_46) k) ?_
  show Goes _ _ _ _ (T9.setTop (mkF m 48 #[.val (.int p1), .val (.int p2), .val (.int p3), .unset, .unset, .unset, .unset] [(.int (8 : Int32)), (.ref b), (.ref b)]))
  refine Goes.st (X9.ldcInt hx (v := (57343 : Int32)) hown (mv hZ (hw _ (List.mem_of_getElem? (i := 3) rfl))) (g := (mkF m 48 #[.val (.int p1), .val (.int p2), .val (.int p3), .unset, .unset, .unset, .unset] [(.int (8 : Int32)), (.ref b), (.ref b)])) rfl (hb hby at_48)) ?_
  show Goes _ _ _ _ (T9.setTop (mkF m 50 #[.val (.int p1), .val (.int p2), .val (.int p3), .unset, .unset, .unset, .unset] [(.int (57343 : Int32)), (.int (8 : Int32)), (.ref b), (.ref b)]))
  obtain ⟨cl10, Ar10, S10, I10⟩ := B9
  have hin10 : ¬ ((8 : Int32) < 0 ∨ cl10.slots.size ≤ ((8 : Int32)).toNatClampNeg) := inb_of S10 ⟨by decide, by decide⟩
  obtain ⟨T10, h10, X10, e10, W10, st10⟩ := stI X9 hx hZ e9 Ar10 (j := (8 : Int32)) hin10 (g := (mkF m 50 #[.val (.int p1), .val (.int p2), .val (.int p3), .unset, .unset, .unset, .unset] [(.int (57343 : Int32)), (.int (8 : Int32)), (.ref b), (.ref b)])) rfl rfl (hb hby at_50)
  have B10 := own_A_wr Ar10 S10 I10 W10
  have N10 := Fr.snoc X10 N9 gn
  refine Goes.st st10 ?_
  show Goes _ _ _ _ (T10.setTop (mkF m 51 #[.val (.int p1), .val (.int p2), .val (.int p3), .unset, .unset, .unset, .unset] [(.ref b)]))
  refine Goes.st (fun _ k => XS.dup X10.here hx rfl (hb hby at_51) rfl rfl k) ?_
  show Goes _ _ _ _ (T10.setTop (mkF m 52 #[.val (.int p1), .val (.int p2), .val (.int p3), .unset, .unset, .unset, .unset] [(.ref b), (.ref b)]))
  refine Goes.st (fun _ k => XS.bipush X10.here hx rfl (hb hby at_52) k) ?_
  show Goes _ _ _ _ (T10.setTop (mkF m 54 #[.val (.int p1), .val (.int p2), .val (.int p3), .unset, .unset, .unset, .unset] [(.int (9 : Int32)), (.ref b), (.ref b)]))
  refine Goes.st (X10.ldcInt hx (v := (57344 : Int32)) hown (mv hZ (hw _ (List.mem_of_getElem? (i := 4) rfl))) (g := (mkF m 54 #[.val (.int p1), .val (.int p2), .val (.int p3), .unset, .unset, .unset, .unset] [(.int (9 : Int32)), (.ref b), (.ref b)])) rfl (hb hby at_54)) ?_
  show Goes _ _ _ _ (T10.setTop (mkF m 56 #[.val (.int p1), .val (.int p2), .val (.int p3), .unset, .unset, .unset, .unset] [(.int (57344 : Int32)), (.int (9 : Int32)), (.ref b), (.ref b)]))
  obtain ⟨cl11, Ar11, S11, I11⟩ := B10
  have hin11 : ¬ ((9 : Int32) < 0 ∨ cl11.slots.size ≤ ((9 : Int32)).toNatClampNeg) := inb_of S11 ⟨by decide, by decide⟩
  obtain ⟨T11, h11, X11, e11, W11, st11⟩ := stI X10 hx hZ e10 Ar11 (j := (9 : Int32)) hin11 (g := (mkF m 56 #[.val (.int p1), .val (.int p2), .val (.int p3), .unset, .unset, .unset, .unset] [(.int (57344 : Int32)), (.int (9 : Int32)), (.ref b), (.ref b)])) rfl rfl (hb hby at_56)
  have B11 := own_A_wr Ar11 S11 I11 W11
  have N11 := Fr.snoc X11 N10 gn
  refine Goes.st st11 ?_
  show Goes _ _ _ _ (T11.setTop (mkF m 57 #[.val (.int p1), .val (.int p2), .val (.int p3), .unset, .unset, .unset, .unset] [(.ref b)]))
  refine Goes.st (fun _ k => XS.dup X11.here hx rfl (hb hby at_57) rfl rfl k) ?_
  show Goes _ _ _ _ (T11.setTop (mkF m 58 #[.val (.int p1), .val (.int p2), .val (.int p3), .unset, .unset, .unset, .unset] [(.ref b), (.ref b)]))
  refine Goes.st (fun _ k => XS.bipush X11.here hx rfl (hb hby at_58) k) ?_
  show Goes _ _ _ _ (T11.setTop (mkF m 60 #[.val (.int p1), .val (.int p2), .val (.int p3), .unset, .unset, .unset, .unset] [(.int (10 : Int32)), (.ref b), (.ref b)]))
  refine Goes.st (X11.ldcInt hx (v := (65533 : Int32)) hown (mv hZ (hw _ (List.mem_of_getElem? (i := 5) rfl))) (g := (mkF m 60 #[.val (.int p1), .val (.int p2), .val (.int p3), .unset, .unset, .unset, .unset] [(.int (10 : Int32)), (.ref b), (.ref b)])) rfl (hb hby at_60)) ?_
  show Goes _ _ _ _ (T11.setTop (mkF m 62 #[.val (.int p1), .val (.int p2), .val (.int p3), .unset, .unset, .unset, .unset] [(.int (65533 : Int32)), (.int (10 : Int32)), (.ref b), (.ref b)]))
  obtain ⟨cl12, Ar12, S12, I12⟩ := B11
  have hin12 : ¬ ((10 : Int32) < 0 ∨ cl12.slots.size ≤ ((10 : Int32)).toNatClampNeg) := inb_of S12 ⟨by decide, by decide⟩
  obtain ⟨T12, h12, X12, e12, W12, st12⟩ := stI X11 hx hZ e11 Ar12 (j := (10 : Int32)) hin12 (g := (mkF m 62 #[.val (.int p1), .val (.int p2), .val (.int p3), .unset, .unset, .unset, .unset] [(.int (65533 : Int32)), (.int (10 : Int32)), (.ref b), (.ref b)])) rfl rfl (hb hby at_62)
  have B12 := own_A_wr Ar12 S12 I12 W12
  have N12 := Fr.snoc X12 N11 gn
  refine Goes.st st12 ?_
  show Goes _ _ _ _ (T12.setTop (mkF m 63 #[.val (.int p1), .val (.int p2), .val (.int p3), .unset, .unset, .unset, .unset] [(.ref b)]))
  refine Goes.st (fun _ k => XS.dup X12.here hx rfl (hb hby at_63) rfl rfl k) ?_
  show Goes _ _ _ _ (T12.setTop (mkF m 64 #[.val (.int p1), .val (.int p2), .val (.int p3), .unset, .unset, .unset, .unset] [(.ref b), (.ref b)]))
  refine Goes.st (fun _ k => XS.bipush X12.here hx rfl (hb hby at_64) k) ?_
  show Goes _ _ _ _ (T12.setTop (mkF m 66 #[.val (.int p1), .val (.int p2), .val (.int p3), .unset, .unset, .unset, .unset] [(.int (11 : Int32)), (.ref b), (.ref b)]))
  refine Goes.st (X12.ldcInt hx (v := (65534 : Int32)) hown (mv hZ (hw _ (List.mem_of_getElem? (i := 6) rfl))) (g := (mkF m 66 #[.val (.int p1), .val (.int p2), .val (.int p3), .unset, .unset, .unset, .unset] [(.int (11 : Int32)), (.ref b), (.ref b)])) rfl (hb hby at_66)) ?_
  show Goes _ _ _ _ (T12.setTop (mkF m 68 #[.val (.int p1), .val (.int p2), .val (.int p3), .unset, .unset, .unset, .unset] [(.int (65534 : Int32)), (.int (11 : Int32)), (.ref b), (.ref b)]))
  obtain ⟨cl13, Ar13, S13, I13⟩ := B12
  have hin13 : ¬ ((11 : Int32) < 0 ∨ cl13.slots.size ≤ ((11 : Int32)).toNatClampNeg) := inb_of S13 ⟨by decide, by decide⟩
  obtain ⟨T13, h13, X13, e13, W13, st13⟩ := stI X12 hx hZ e12 Ar13 (j := (11 : Int32)) hin13 (g := (mkF m 68 #[.val (.int p1), .val (.int p2), .val (.int p3), .unset, .unset, .unset, .unset] [(.int (65534 : Int32)), (.int (11 : Int32)), (.ref b), (.ref b)])) rfl rfl (hb hby at_68)
  have B13 := own_A_wr Ar13 S13 I13 W13
  have N13 := Fr.snoc X13 N12 gn
  refine Goes.st st13 ?_
  show Goes _ _ _ _ (T13.setTop (mkF m 69 #[.val (.int p1), .val (.int p2), .val (.int p3), .unset, .unset, .unset, .unset] [(.ref b)]))
  refine Goes.st (fun _ k => XS.dup X13.here hx rfl (hb hby at_69) rfl rfl k) ?_
  show Goes _ _ _ _ (T13.setTop (mkF m 70 #[.val (.int p1), .val (.int p2), .val (.int p3), .unset, .unset, .unset, .unset] [(.ref b), (.ref b)]))
  refine Goes.st (fun _ k => XS.bipush X13.here hx rfl (hb hby at_70) k) ?_
  show Goes _ _ _ _ (T13.setTop (mkF m 72 #[.val (.int p1), .val (.int p2), .val (.int p3), .unset, .unset, .unset, .unset] [(.int (12 : Int32)), (.ref b), (.ref b)]))
  refine Goes.st (X13.ldcInt hx (v := (65535 : Int32)) hown (mv hZ (hw _ (List.mem_of_getElem? (i := 7) rfl))) (g := (mkF m 72 #[.val (.int p1), .val (.int p2), .val (.int p3), .unset, .unset, .unset, .unset] [(.int (12 : Int32)), (.ref b), (.ref b)])) rfl (hb hby at_72)) ?_
  show Goes _ _ _ _ (T13.setTop (mkF m 74 #[.val (.int p1), .val (.int p2), .val (.int p3), .unset, .unset, .unset, .unset] [(.int (65535 : Int32)), (.int (12 : Int32)), (.ref b), (.ref b)]))
  obtain ⟨cl14, Ar14, S14, I14⟩ := B13
  have hin14 : ¬ ((12 : Int32) < 0 ∨ cl14.slots.size ≤ ((12 : Int32)).toNatClampNeg) := inb_of S14 ⟨by decide, by decide⟩
  obtain ⟨T14, h14, X14, e14, W14, st14⟩ := stI X13 hx hZ e13 Ar14 (j := (12 : Int32)) hin14 (g := (mkF m 74 #[.val (.int p1), .val (.int p2), .val (.int p3), .unset, .unset, .unset, .unset] [(.int (65535 : Int32)), (.int (12 : Int32)), (.ref b), (.ref b)])) rfl rfl (hb hby at_74)
  have B14 := own_A_wr Ar14 S14 I14 W14
  have N14 := Fr.snoc X14 N13 gn
  refine Goes.st st14 ?_
  show Goes _ _ _ _ (T14.setTop (mkF m 75 #[.val (.int p1), .val (.int p2), .val (.int p3), .unset, .unset, .unset, .unset] [(.ref b)]))
  refine Goes.st (fun _ k => XS.dup X14.here hx rfl (hb hby at_75) rfl rfl k) ?_
  show Goes _ _ _ _ (T14.setTop (mkF m 76 #[.val (.int p1), .val (.int p2), .val (.int p3), .unset, .unset, .unset, .unset] [(.ref b), (.ref b)]))
  refine Goes.st (fun _ k => XS.bipush X14.here hx rfl (hb hby at_76) k) ?_
  show Goes _ _ _ _ (T14.setTop (mkF m 78 #[.val (.int p1), .val (.int p2), .val (.int p3), .unset, .unset, .unset, .unset] [(.int (13 : Int32)), (.ref b), (.ref b)]))
  refine Goes.st (X14.ldcInt hx (v := (65536 : Int32)) hown (mv hZ (hw _ (List.mem_of_getElem? (i := 8) rfl))) (g := (mkF m 78 #[.val (.int p1), .val (.int p2), .val (.int p3), .unset, .unset, .unset, .unset] [(.int (13 : Int32)), (.ref b), (.ref b)])) rfl (hb hby at_78)) ?_
  show Goes _ _ _ _ (T14.setTop (mkF m 80 #[.val (.int p1), .val (.int p2), .val (.int p3), .unset, .unset, .unset, .unset] [(.int (65536 : Int32)), (.int (13 : Int32)), (.ref b), (.ref b)]))
  obtain ⟨cl15, Ar15, S15, I15⟩ := B14
  have hin15 : ¬ ((13 : Int32) < 0 ∨ cl15.slots.size ≤ ((13 : Int32)).toNatClampNeg) := inb_of S15 ⟨by decide, by decide⟩
  obtain ⟨T15, h15, X15, e15, W15, st15⟩ := stI X14 hx hZ e14 Ar15 (j := (13 : Int32)) hin15 (g := (mkF m 80 #[.val (.int p1), .val (.int p2), .val (.int p3), .unset, .unset, .unset, .unset] [(.int (65536 : Int32)), (.int (13 : Int32)), (.ref b), (.ref b)])) rfl rfl (hb hby at_80)
  have B15 := own_A_wr Ar15 S15 I15 W15
  have N15 := Fr.snoc X15 N14 gn
  refine Goes.st st15 ?_
  show Goes _ _ _ _ (T15.setTop (mkF m 81 #[.val (.int p1), .val (.int p2), .val (.int p3), .unset, .unset, .unset, .unset] [(.ref b)]))
  refine Goes.st (fun _ k => XS.dup X15.here hx rfl (hb hby at_81) rfl rfl k) ?_
  show Goes _ _ _ _ (T15.setTop (mkF m 82 #[.val (.int p1), .val (.int p2), .val (.int p3), .unset, .unset, .unset, .unset] [(.ref b), (.ref b)]))
  refine Goes.st (fun _ k => XS.bipush X15.here hx rfl (hb hby at_82) k) ?_
  show Goes _ _ _ _ (T15.setTop (mkF m 84 #[.val (.int p1), .val (.int p2), .val (.int p3), .unset, .unset, .unset, .unset] [(.int (14 : Int32)), (.ref b), (.ref b)]))
  refine Goes.st (X15.ldcInt hx (v := (1114111 : Int32)) hown (mv hZ (hw _ (List.mem_of_getElem? (i := 9) rfl))) (g := (mkF m 84 #[.val (.int p1), .val (.int p2), .val (.int p3), .unset, .unset, .unset, .unset] [(.int (14 : Int32)), (.ref b), (.ref b)])) rfl (hb hby at_84)) ?_
  show Goes _ _ _ _ (T15.setTop (mkF m 86 #[.val (.int p1), .val (.int p2), .val (.int p3), .unset, .unset, .unset, .unset] [(.int (1114111 : Int32)), (.int (14 : Int32)), (.ref b), (.ref b)]))
  obtain ⟨cl16, Ar16, S16, I16⟩ := B15
  have hin16 : ¬ ((14 : Int32) < 0 ∨ cl16.slots.size ≤ ((14 : Int32)).toNatClampNeg) := inb_of S16 ⟨by decide, by decide⟩
  obtain ⟨T16, h16, X16, e16, W16, st16⟩ := stI X15 hx hZ e15 Ar16 (j := (14 : Int32)) hin16 (g := (mkF m 86 #[.val (.int p1), .val (.int p2), .val (.int p3), .unset, .unset, .unset, .unset] [(.int (1114111 : Int32)), (.int (14 : Int32)), (.ref b), (.ref b)])) rfl rfl (hb hby at_86)
  have B16 := own_A_wr Ar16 S16 I16 W16
  have N16 := Fr.snoc X16 N15 gn
  refine Goes.st st16 ?_
  show Goes _ _ _ _ (T16.setTop (mkF m 87 #[.val (.int p1), .val (.int p2), .val (.int p3), .unset, .unset, .unset, .unset] [(.ref b)]))
  refine Goes.st (fun _ k => XS.dup X16.here hx rfl (hb hby at_87) rfl rfl k) ?_
  show Goes _ _ _ _ (T16.setTop (mkF m 88 #[.val (.int p1), .val (.int p2), .val (.int p3), .unset, .unset, .unset, .unset] [(.ref b), (.ref b)]))
  refine Goes.st (fun _ k => XS.bipush X16.here hx rfl (hb hby at_88) k) ?_
  show Goes _ _ _ _ (T16.setTop (mkF m 90 #[.val (.int p1), .val (.int p2), .val (.int p3), .unset, .unset, .unset, .unset] [(.int (15 : Int32)), (.ref b), (.ref b)]))
  refine Goes.st (X16.ldcInt hx (v := (1114112 : Int32)) hown (mv hZ (hw _ (List.mem_of_getElem? (i := 10) rfl))) (g := (mkF m 90 #[.val (.int p1), .val (.int p2), .val (.int p3), .unset, .unset, .unset, .unset] [(.int (15 : Int32)), (.ref b), (.ref b)])) rfl (hb hby at_90)) ?_
  show Goes _ _ _ _ (T16.setTop (mkF m 92 #[.val (.int p1), .val (.int p2), .val (.int p3), .unset, .unset, .unset, .unset] [(.int (1114112 : Int32)), (.int (15 : Int32)), (.ref b), (.ref b)]))
  obtain ⟨cl17, Ar17, S17, I17⟩ := B16
  have hin17 : ¬ ((15 : Int32) < 0 ∨ cl17.slots.size ≤ ((15 : Int32)).toNatClampNeg) := inb_of S17 ⟨by decide, by decide⟩
  obtain ⟨T17, h17, X17, e17, W17, st17⟩ := stI X16 hx hZ e16 Ar17 (j := (15 : Int32)) hin17 (g := (mkF m 92 #[.val (.int p1), .val (.int p2), .val (.int p3), .unset, .unset, .unset, .unset] [(.int (1114112 : Int32)), (.int (15 : Int32)), (.ref b), (.ref b)])) rfl rfl (hb hby at_92)
  have B17 := own_A_wr Ar17 S17 I17 W17
  have N17 := Fr.snoc X17 N16 gn
  refine Goes.st st17 ?_
  show Goes _ _ _ _ (T17.setTop (mkF m 93 #[.val (.int p1), .val (.int p2), .val (.int p3), .unset, .unset, .unset, .unset] [(.ref b)]))
  refine Goes.st (fun _ k => XS.dup X17.here hx rfl (hb hby at_93) rfl rfl k) ?_
  show Goes _ _ _ _ (T17.setTop (mkF m 94 #[.val (.int p1), .val (.int p2), .val (.int p3), .unset, .unset, .unset, .unset] [(.ref b), (.ref b)]))
  refine Goes.st (fun _ k => XS.bipush X17.here hx rfl (hb hby at_94) k) ?_
  show Goes _ _ _ _ (T17.setTop (mkF m 96 #[.val (.int p1), .val (.int p2), .val (.int p3), .unset, .unset, .unset, .unset] [(.int (16 : Int32)), (.ref b), (.ref b)]))
  refine Goes.st (X17.ldcInt hx (v := (-2147483648 : Int32)) hown (mv hZ (hw _ (List.mem_of_getElem? (i := 11) rfl))) (g := (mkF m 96 #[.val (.int p1), .val (.int p2), .val (.int p3), .unset, .unset, .unset, .unset] [(.int (16 : Int32)), (.ref b), (.ref b)])) rfl (hb hby at_96)) ?_
  show Goes _ _ _ _ (T17.setTop (mkF m 98 #[.val (.int p1), .val (.int p2), .val (.int p3), .unset, .unset, .unset, .unset] [(.int (-2147483648 : Int32)), (.int (16 : Int32)), (.ref b), (.ref b)]))
  obtain ⟨cl18, Ar18, S18, I18⟩ := B17
  have hin18 : ¬ ((16 : Int32) < 0 ∨ cl18.slots.size ≤ ((16 : Int32)).toNatClampNeg) := inb_of S18 ⟨by decide, by decide⟩
  obtain ⟨T18, h18, X18, e18, W18, st18⟩ := stI X17 hx hZ e17 Ar18 (j := (16 : Int32)) hin18 (g := (mkF m 98 #[.val (.int p1), .val (.int p2), .val (.int p3), .unset, .unset, .unset, .unset] [(.int (-2147483648 : Int32)), (.int (16 : Int32)), (.ref b), (.ref b)])) rfl rfl (hb hby at_98)
  have B18 := own_A_wr Ar18 S18 I18 W18
  have N18 := Fr.snoc X18 N17 gn
  refine Goes.st st18 ?_
  show Goes _ _ _ _ (T18.setTop (mkF m 99 #[.val (.int p1), .val (.int p2), .val (.int p3), .unset, .unset, .unset, .unset] [(.ref b)]))
  refine Goes.st (fun _ k => XS.dup X18.here hx rfl (hb hby at_99) rfl rfl k) ?_
  show Goes _ _ _ _ (T18.setTop (mkF m 100 #[.val (.int p1), .val (.int p2), .val (.int p3), .unset, .unset, .unset, .unset] [(.ref b), (.ref b)]))
  refine Goes.st (fun _ k => XS.bipush X18.here hx rfl (hb hby at_100) k) ?_
  show Goes _ _ _ _ (T18.setTop (mkF m 102 #[.val (.int p1), .val (.int p2), .val (.int p3), .unset, .unset, .unset, .unset] [(.int (17 : Int32)), (.ref b), (.ref b)]))
  refine Goes.st (X18.ldcInt hx (v := (2147483647 : Int32)) hown (mv hZ (hw _ (List.mem_of_getElem? (i := 12) rfl))) (g := (mkF m 102 #[.val (.int p1), .val (.int p2), .val (.int p3), .unset, .unset, .unset, .unset] [(.int (17 : Int32)), (.ref b), (.ref b)])) rfl (hb hby at_102)) ?_
  show Goes _ _ _ _ (T18.setTop (mkF m 104 #[.val (.int p1), .val (.int p2), .val (.int p3), .unset, .unset, .unset, .unset] [(.int (2147483647 : Int32)), (.int (17 : Int32)), (.ref b), (.ref b)]))
  obtain ⟨cl19, Ar19, S19, I19⟩ := B18
  have hin19 : ¬ ((17 : Int32) < 0 ∨ cl19.slots.size ≤ ((17 : Int32)).toNatClampNeg) := inb_of S19 ⟨by decide, by decide⟩
  obtain ⟨T19, h19, X19, e19, W19, st19⟩ := stI X18 hx hZ e18 Ar19 (j := (17 : Int32)) hin19 (g := (mkF m 104 #[.val (.int p1), .val (.int p2), .val (.int p3), .unset, .unset, .unset, .unset] [(.int (2147483647 : Int32)), (.int (17 : Int32)), (.ref b), (.ref b)])) rfl rfl (hb hby at_104)
  have B19 := own_A_wr Ar19 S19 I19 W19
  have N19 := Fr.snoc X19 N18 gn
  refine Goes.st st19 ?_
  show Goes _ _ _ _ (T19.setTop (mkF m 105 #[.val (.int p1), .val (.int p2), .val (.int p3), .unset, .unset, .unset, .unset] [(.ref b)]))
  obtain ⟨L20, X20, N20⟩ : ∃ Lf, Stand p l e room_1 s m #[(.int p1), (.int p2), (.int p3)] below meth c T19 Lf 1 18 ∧ Fr n0 Lf := ⟨_, X19, N19⟩
  refine Goes.st (fun _ k => XS.astoreN X20.here hx rfl (hb hby at_105) rfl rfl (l' := #[.val (.int p1), .val (.int p2), .val (.int p3), .val (.ref b), .unset, .unset, .unset]) rfl k) ?_
  show Goes _ _ _ _ (T19.setTop (mkF m 106 #[.val (.int p1), .val (.int p2), .val (.int p3), .val (.ref b), .unset, .unset, .unset] []))
  refine Goes.st (fun _ k => XS.aloadN X20.here hx rfl (hb hby at_106) rfl rfl k) ?_
  show Goes _ _ _ _ (T19.setTop (mkF m 107 #[.val (.int p1), .val (.int p2), .val (.int p3), .val (.ref b), .unset, .unset, .unset] [(.ref b)]))
  refine Goes.st (fun _ k => XS.iloadN X20.here hx rfl (hb hby at_107) rfl k) ?_
  show Goes _ _ _ _ (T19.setTop (mkF m 108 #[.val (.int p1), .val (.int p2), .val (.int p3), .val (.ref b), .unset, .unset, .unset] [(.int p2), (.ref b)]))
  refine Goes.st (X20.ldcInt hx (v := (2147483647 : Int32)) hown (mv hZ (hw _ (List.mem_of_getElem? (i := 12) rfl))) (g := (mkF m 108 #[.val (.int p1), .val (.int p2), .val (.int p3), .val (.ref b), .unset, .unset, .unset] [(.int p2), (.ref b)])) rfl (hb hby at_108)) ?_
  show Goes _ _ _ _ (T19.setTop (mkF m 110 #[.val (.int p1), .val (.int p2), .val (.int p3), .val (.ref b), .unset, .unset, .unset] [(.int (2147483647 : Int32)), (.int p2), (.ref b)]))
  refine Goes.st (fun _ k => XS.iand X20.here hx rfl (hb hby at_110) rfl k) ?_
  show Goes _ _ _ _ (T19.setTop (mkF m 111 #[.val (.int p1), .val (.int p2), .val (.int p3), .val (.ref b), .unset, .unset, .unset] [(.int (p2 &&& (2147483647 : Int32))), (.ref b)]))
  refine Goes.st (fun _ k => XS.aloadN X20.here hx rfl (hb hby at_111) rfl rfl k) ?_
  show Goes _ _ _ _ (T19.setTop (mkF m 112 #[.val (.int p1), .val (.int p2), .val (.int p3), .val (.ref b), .unset, .unset, .unset] [(.ref b), (.int (p2 &&& (2147483647 : Int32))), (.ref b)]))
  obtain ⟨cl21, Ar21, S21, I21⟩ := B19
  refine Goes.st (X20.arraylength hx (by rw [e19]; exact Ar21.1) (State.isArrayOf_alike hZ.alike Ar21.2.1) (g := (mkF m 112 #[.val (.int p1), .val (.int p2), .val (.int p3), .val (.ref b), .unset, .unset, .unset] [(.ref b), (.int (p2 &&& (2147483647 : Int32))), (.ref b)])) rfl rfl (hb hby at_112)) ?_
  rw [len_of S21 (by decide)]
  show Goes _ _ _ _ (T19.setTop (mkF m 113 #[.val (.int p1), .val (.int p2), .val (.int p3), .val (.ref b), .unset, .unset, .unset] [(.int (18 : Int32)), (.int (p2 &&& (2147483647 : Int32))), (.ref b)]))
  refine Goes.st (fun _ k => iremM X20 hx rfl (hb hby at_113) rfl (by decide) k) ?_
  show Goes _ _ _ _ (T19.setTop (mkF m 114 #[.val (.int p1), .val (.int p2), .val (.int p3), .val (.ref b), .unset, .unset, .unset] [(.int ((p2 &&& (2147483647 : Int32)) % (18 : Int32))), (.ref b)]))
  obtain ⟨jj, h_jj⟩ : ∃ z : Int32, z = ((p2 &&& (2147483647 : Int32)) % (18 : Int32)) := ⟨_, rfl⟩
  rw [← h_jj]
  show Goes _ _ _ _ (T19.setTop (mkF m 114 #[.val (.int p1), .val (.int p2), .val (.int p3), .val (.ref b), .unset, .unset, .unset] [(.int jj), (.ref b)]))
  have hin : ¬ (jj < 0 ∨ cl21.slots.size ≤ jj.toNatClampNeg) := inb_of S21 (by rw [h_jj]; exact own_idx p2)
  obtain ⟨zz, hzz⟩ := I21 jj.toNatClampNeg (Nat.lt_of_not_le fun q => hin (Or.inr q))
  refine Goes.st (X20.iaload hx (by rw [e19]; exact Ar21.1) (State.isArrayOf_alike hZ.alike Ar21.2.1) Ar21.2.2 hin hzz (g := (mkF m 114 #[.val (.int p1), .val (.int p2), .val (.int p3), .val (.ref b), .unset, .unset, .unset] [(.int jj), (.ref b)])) rfl rfl (hb hby at_114)) ?_
  show Goes _ _ _ _ (T19.setTop (mkF m 115 #[.val (.int p1), .val (.int p2), .val (.int p3), .val (.ref b), .unset, .unset, .unset] [(.int zz)]))
  refine Goes.st (fun _ k => XS.iloadN X20.here hx rfl (hb hby at_115) rfl k) ?_
  show Goes _ _ _ _ (T19.setTop (mkF m 116 #[.val (.int p1), .val (.int p2), .val (.int p3), .val (.ref b), .unset, .unset, .unset] [(.int p3), (.int zz)]))
  refine Goes.st (fun _ k => XS.bipush X20.here hx rfl (hb hby at_116) k) ?_
  show Goes _ _ _ _ (T19.setTop (mkF m 118 #[.val (.int p1), .val (.int p2), .val (.int p3), .val (.ref b), .unset, .unset, .unset] [(.int (7 : Int32)), (.int p3), (.int zz)]))
  refine Goes.st (fun _ k => XS.iand X20.here hx rfl (hb hby at_118) rfl k) ?_
  show Goes _ _ _ _ (T19.setTop (mkF m 119 #[.val (.int p1), .val (.int p2), .val (.int p3), .val (.ref b), .unset, .unset, .unset] [(.int (p3 &&& (7 : Int32))), (.int zz)]))
  refine Goes.st (fun _ k => XS.iconst X20.here hx rfl (hb hby at_119) k) ?_
  show Goes _ _ _ _ (T19.setTop (mkF m 120 #[.val (.int p1), .val (.int p2), .val (.int p3), .val (.ref b), .unset, .unset, .unset] [(.int (3 : Int32)), (.int (p3 &&& (7 : Int32))), (.int zz)]))
  refine Goes.st (fun _ k => XS.isub X20.here hx rfl (hb hby at_120) rfl k) ?_
  show Goes _ _ _ _ (T19.setTop (mkF m 121 #[.val (.int p1), .val (.int p2), .val (.int p3), .val (.ref b), .unset, .unset, .unset] [(.int ((p3 &&& (7 : Int32)) - (3 : Int32))), (.int zz)]))
  refine Goes.st (fun _ k => XS.iadd X20.here hx rfl (hb hby at_121) rfl k) ?_
  show Goes _ _ _ _ (T19.setTop (mkF m 122 #[.val (.int p1), .val (.int p2), .val (.int p3), .val (.ref b), .unset, .unset, .unset] [(.int (zz + ((p3 &&& (7 : Int32)) - (3 : Int32))))]))
  obtain ⟨yy, h_yy⟩ : ∃ z : Int32, z = (zz + ((p3 &&& (7 : Int32)) - (3 : Int32))) := ⟨_, rfl⟩
  rw [← h_yy]
  show Goes _ _ _ _ (T19.setTop (mkF m 122 #[.val (.int p1), .val (.int p2), .val (.int p3), .val (.ref b), .unset, .unset, .unset] [(.int yy)]))
  have Zk22 : n0 ≤ h19.size := Nat.le_of_lt (Nat.lt_of_le_of_lt gn Ar21.lt)
  refine Goes.st (fun _ k => XS.istore X20.here hx rfl (hb hby at_122) rfl (l' := #[.val (.int p1), .val (.int p2), .val (.int p3), .val (.ref b), .val (.int yy), .unset, .unset]) rfl k) ?_
  show Goes _ _ _ _ (T19.setTop (mkF m 124 #[.val (.int p1), .val (.int p2), .val (.int p3), .val (.ref b), .val (.int yy), .unset, .unset] []))
  refine Goes.st (fun _ k => XS.iloadN X20.here hx rfl (hb hby at_124) rfl k) ?_
  show Goes _ _ _ _ (T19.setTop (mkF m 125 #[.val (.int p1), .val (.int p2), .val (.int p3), .val (.ref b), .val (.int yy), .unset, .unset] [(.int p1)]))
  obtain ⟨_, _, ⟨T23, L23, k23, n23⟩, -, X23, ⟨Lc23, hQ23, l23, y23, z23⟩, st23⟩ := Jvm.LawKit.callS X20 hx (y := (⟨"com/example/fenestra/fenestra/formats/XmlChars", "isAllowed", "(I)Z"⟩ : MethodName)) hown (mvT hZ (hw _ (List.mem_of_getElem? (i := 13) rfl))) (mvT hZ (hw _ (List.mem_of_getElem? (i := 14) rfl))) (mvT hZ (hw _ (List.mem_of_getElem? (i := 15) rfl))) (mvT hZ (hw _ (List.mem_of_getElem? (i := 16) rfl))) (by decide) (backOf (W := 0) (rm1 l Z a0 hw [] p1 h19 n0 Zk22) hZ (hw _ (List.mem_of_getElem? (i := 16) rfl)) (hw _ (List.mem_of_getElem? (i := 15) rfl)) (by decide) (by decide)) (g := (mkF m 125 #[.val (.int p1), .val (.int p2), .val (.int p3), .val (.ref b), .val (.int yy), .unset, .unset] [(.int p1)])) rfl (by rw [hml]; rfl) (argsL := [(.int p1)]) (rest := []) (lenOf pd_1 rfl) rfl (by show 2 * 0 + _ ≤ _; exact Nat.le_of_eq rfl) (hb hby at_125) (fun _ _ => ⟨rfl, e19, (by decide : 1 + 0 ≤ _), (by decide : 18 + 0 ≤ _)⟩)
  dsimp only [Pt.U, Pt.locs, Pt.cells, Pt.slots] at X23 l23 y23 z23 st23 hQ23
  subst l23 y23 z23
  obtain ⟨rfl, Nq23, eq23⟩ := hQ23
  have N23 := Fr.app N20 Nq23
  refine Goes.st st23 ?_
  show Goes _ _ _ _ (T23.setTop (mkF m 128 #[.val (.int p1), .val (.int p2), .val (.int p3), .val (.ref b), .val (.int yy), .unset, .unset] [(.int (own_al p1))]))
  have Zk23 : n0 ≤ T23.heap.size := by rw [eq23]; exact Zk22
  refine Goes.st (fun _ k => XS.iloadN X23.here hx rfl (hb hby at_128) rfl k) ?_
  show Goes _ _ _ _ (T23.setTop (mkF m 129 #[.val (.int p1), .val (.int p2), .val (.int p3), .val (.ref b), .val (.int yy), .unset, .unset] [(.int p1), (.int (own_al p1))]))
  obtain ⟨_, _, ⟨T24, L24, k24, n24⟩, -, X24, ⟨Lc24, hQ24, l24, y24, z24⟩, st24⟩ := Jvm.LawKit.callS X23 hx (y := (⟨"com/example/fenestra/fenestra/formats/XmlCharsIsAllowedPinLaw", "forbidden", "(I)Z"⟩ : MethodName)) hown (mvT hZ (hw _ (List.mem_of_getElem? (i := 19) rfl))) (mvT hZ (hw _ (List.mem_of_getElem? (i := 20) rfl))) (mvT hZ (hw _ (List.mem_of_getElem? (i := 21) rfl))) (mvT hZ (hw _ (List.mem_of_getElem? (i := 22) rfl))) (by decide) (backOf (W := 1) (rm2 l Z a0 hw [] p1 T23.heap n0 Zk23) hZ (hw _ (List.mem_of_getElem? (i := 22) rfl)) (hw _ (List.mem_of_getElem? (i := 21) rfl)) (by decide) (by decide)) (g := (mkF m 129 #[.val (.int p1), .val (.int p2), .val (.int p3), .val (.ref b), .val (.int yy), .unset, .unset] [(.int p1), (.int (own_al p1))])) rfl (by rw [hml]; rfl) (argsL := [(.int p1)]) (rest := [(.int (own_al p1))]) (lenOf pd_2 rfl) rfl (by show 2 * 0 + _ ≤ _; exact Nat.le_of_eq rfl) (hb hby at_129) (fun _ _ => ⟨rfl, rfl, (by decide : 1 + 0 ≤ _), (by decide : 18 + 0 ≤ _)⟩)
  dsimp only [Pt.U, Pt.locs, Pt.cells, Pt.slots] at X24 l24 y24 z24 st24 hQ24
  subst l24 y24 z24
  obtain ⟨rfl, Nq24, eq24⟩ := hQ24
  have N24 := Fr.app N23 Nq24
  refine Goes.st st24 ?_
  show Goes _ _ _ _ (T24.setTop (mkF m 132 #[.val (.int p1), .val (.int p2), .val (.int p3), .val (.ref b), .val (.int yy), .unset, .unset] [(.int (own_fb p1)), (.int (own_al p1))]))
  have Zk24 : n0 ≤ T24.heap.size := by rw [eq24]; exact Zk23
  have J148 : Goes p.tables e below (Ends below s (Q0 Z p1 p2 p3  h0 n0) room_1.cells room_1.slots) (T24.setTop (mkF m 148 #[.val (.int p1), .val (.int p2), .val (.int p3), .val (.ref b), .val (.int yy), .unset, .unset] [(.int (1 : Int32))])) := by
    refine Goes.st (fun _ k => XS.istore X24.here hx rfl (hb hby at_148) rfl (l' := #[.val (.int p1), .val (.int p2), .val (.int p3), .val (.ref b), .val (.int yy), .val (.int (1 : Int32)), .unset]) rfl k) ?_
    show Goes _ _ _ _ (T24.setTop (mkF m 150 #[.val (.int p1), .val (.int p2), .val (.int p3), .val (.ref b), .val (.int yy), .val (.int (1 : Int32)), .unset] []))
    refine Goes.st (fun _ k => XS.iload X24.here hx rfl (hb hby at_150) rfl k) ?_
    show Goes _ _ _ _ (T24.setTop (mkF m 152 #[.val (.int p1), .val (.int p2), .val (.int p3), .val (.ref b), .val (.int yy), .val (.int (1 : Int32)), .unset] [(.int yy)]))
    obtain ⟨_, _, ⟨T25, L25, k25, n25⟩, -, X25, ⟨Lc25, hQ25, l25, y25, z25⟩, st25⟩ := Jvm.LawKit.callS X24 hx (y := (⟨"com/example/fenestra/fenestra/formats/XmlChars", "isAllowed", "(I)Z"⟩ : MethodName)) hown (mvT hZ (hw _ (List.mem_of_getElem? (i := 13) rfl))) (mvT hZ (hw _ (List.mem_of_getElem? (i := 14) rfl))) (mvT hZ (hw _ (List.mem_of_getElem? (i := 15) rfl))) (mvT hZ (hw _ (List.mem_of_getElem? (i := 16) rfl))) (by decide) (backOf (W := 0) (rm1 l Z a0 hw [] yy T24.heap n0 Zk24) hZ (hw _ (List.mem_of_getElem? (i := 16) rfl)) (hw _ (List.mem_of_getElem? (i := 15) rfl)) (by decide) (by decide)) (g := (mkF m 152 #[.val (.int p1), .val (.int p2), .val (.int p3), .val (.ref b), .val (.int yy), .val (.int (1 : Int32)), .unset] [(.int yy)])) rfl (by rw [hml]; rfl) (argsL := [(.int yy)]) (rest := []) (lenOf pd_1 rfl) rfl (by show 2 * 0 + _ ≤ _; exact Nat.le_of_eq rfl) (hb hby at_152) (fun _ _ => ⟨rfl, rfl, (by decide : 1 + 0 ≤ _), (by decide : 18 + 0 ≤ _)⟩)
    dsimp only [Pt.U, Pt.locs, Pt.cells, Pt.slots] at X25 l25 y25 z25 st25 hQ25
    subst l25 y25 z25
    obtain ⟨rfl, Nq25, eq25⟩ := hQ25
    have N25 := Fr.app N24 Nq25
    refine Goes.st st25 ?_
    show Goes _ _ _ _ (T25.setTop (mkF m 155 #[.val (.int p1), .val (.int p2), .val (.int p3), .val (.ref b), .val (.int yy), .val (.int (1 : Int32)), .unset] [(.int (own_al yy))]))
    have Zk25 : n0 ≤ T25.heap.size := by rw [eq25]; exact Zk24
    refine Goes.st (fun _ k => XS.iload X25.here hx rfl (hb hby at_155) rfl k) ?_
    show Goes _ _ _ _ (T25.setTop (mkF m 157 #[.val (.int p1), .val (.int p2), .val (.int p3), .val (.ref b), .val (.int yy), .val (.int (1 : Int32)), .unset] [(.int yy), (.int (own_al yy))]))
    obtain ⟨_, _, ⟨T26, L26, k26, n26⟩, -, X26, ⟨Lc26, hQ26, l26, y26, z26⟩, st26⟩ := Jvm.LawKit.callS X25 hx (y := (⟨"com/example/fenestra/fenestra/formats/XmlCharsIsAllowedPinLaw", "forbidden", "(I)Z"⟩ : MethodName)) hown (mvT hZ (hw _ (List.mem_of_getElem? (i := 19) rfl))) (mvT hZ (hw _ (List.mem_of_getElem? (i := 20) rfl))) (mvT hZ (hw _ (List.mem_of_getElem? (i := 21) rfl))) (mvT hZ (hw _ (List.mem_of_getElem? (i := 22) rfl))) (by decide) (backOf (W := 1) (rm2 l Z a0 hw [] yy T25.heap n0 Zk25) hZ (hw _ (List.mem_of_getElem? (i := 22) rfl)) (hw _ (List.mem_of_getElem? (i := 21) rfl)) (by decide) (by decide)) (g := (mkF m 157 #[.val (.int p1), .val (.int p2), .val (.int p3), .val (.ref b), .val (.int yy), .val (.int (1 : Int32)), .unset] [(.int yy), (.int (own_al yy))])) rfl (by rw [hml]; rfl) (argsL := [(.int yy)]) (rest := [(.int (own_al yy))]) (lenOf pd_2 rfl) rfl (by show 2 * 0 + _ ≤ _; exact Nat.le_of_eq rfl) (hb hby at_157) (fun _ _ => ⟨rfl, rfl, (by decide : 1 + 0 ≤ _), (by decide : 18 + 0 ≤ _)⟩)
    dsimp only [Pt.U, Pt.locs, Pt.cells, Pt.slots] at X26 l26 y26 z26 st26 hQ26
    subst l26 y26 z26
    obtain ⟨rfl, Nq26, eq26⟩ := hQ26
    have N26 := Fr.app N25 Nq26
    refine Goes.st st26 ?_
    show Goes _ _ _ _ (T26.setTop (mkF m 160 #[.val (.int p1), .val (.int p2), .val (.int p3), .val (.ref b), .val (.int yy), .val (.int (1 : Int32)), .unset] [(.int (own_fb yy)), (.int (own_al yy))]))
    have Zk26 : n0 ≤ T26.heap.size := by rw [eq26]; exact Zk25
    have J176 : Goes p.tables e below (Ends below s (Q0 Z p1 p2 p3  h0 n0) room_1.cells room_1.slots) (T26.setTop (mkF m 176 #[.val (.int p1), .val (.int p2), .val (.int p3), .val (.ref b), .val (.int yy), .val (.int (1 : Int32)), .unset] [(.int (1 : Int32))])) := by
      refine Goes.st (fun _ k => XS.istore X26.here hx rfl (hb hby at_176) rfl (l' := #[.val (.int p1), .val (.int p2), .val (.int p3), .val (.ref b), .val (.int yy), .val (.int (1 : Int32)), .val (.int (1 : Int32))]) rfl k) ?_
      show Goes _ _ _ _ (T26.setTop (mkF m 178 #[.val (.int p1), .val (.int p2), .val (.int p3), .val (.ref b), .val (.int yy), .val (.int (1 : Int32)), .val (.int (1 : Int32))] []))
      refine Goes.st (fun _ k => XS.iload X26.here hx rfl (hb hby at_178) rfl k) ?_
      show Goes _ _ _ _ (T26.setTop (mkF m 180 #[.val (.int p1), .val (.int p2), .val (.int p3), .val (.ref b), .val (.int yy), .val (.int (1 : Int32)), .val (.int (1 : Int32))] [(.int (1 : Int32))]))
      refine Goes.st (fun _ k => XS.ifNo X26.here hx rfl (hb hby at_180) rfl (by decide) k) ?_
      show Goes _ _ _ _ (T26.setTop (mkF m 183 #[.val (.int p1), .val (.int p2), .val (.int p3), .val (.ref b), .val (.int yy), .val (.int (1 : Int32)), .val (.int (1 : Int32))] []))
      refine Goes.st (fun _ k => XS.iload X26.here hx rfl (hb hby at_183) rfl k) ?_
      show Goes _ _ _ _ (T26.setTop (mkF m 185 #[.val (.int p1), .val (.int p2), .val (.int p3), .val (.ref b), .val (.int yy), .val (.int (1 : Int32)), .val (.int (1 : Int32))] [(.int (1 : Int32))]))
      refine Goes.st (fun _ k => XS.ifNo X26.here hx rfl (hb hby at_185) rfl (by decide) k) ?_
      show Goes _ _ _ _ (T26.setTop (mkF m 188 #[.val (.int p1), .val (.int p2), .val (.int p3), .val (.ref b), .val (.int yy), .val (.int (1 : Int32)), .val (.int (1 : Int32))] []))
      refine Goes.st (fun _ k => XS.iconst X26.here hx rfl (hb hby at_188) k) ?_
      show Goes _ _ _ _ (T26.setTop (mkF m 189 #[.val (.int p1), .val (.int p2), .val (.int p3), .val (.ref b), .val (.int yy), .val (.int (1 : Int32)), .val (.int (1 : Int32))] [(.int (1 : Int32))]))
      refine Goes.st (fun _ k => XS.goto X26.here hx rfl (pc0 := 189) (pc' := 193) rfl (hb hby at_189) (by decide) (by decide) k) ?_
      show Goes _ _ _ _ (T26.setTop (mkF m 193 #[.val (.int p1), .val (.int p2), .val (.int p3), .val (.ref b), .val (.int yy), .val (.int (1 : Int32)), .val (.int (1 : Int32))] [(.int (1 : Int32))]))
      exact leafZ X26 hx Bd.notSynchronized Bd.returns (hb hby at_193) (by decide) (by decide) (by decide) ⟨rfl, N26⟩
    rcases own_both yy with ⟨ha, hf⟩ | ⟨ha, hf⟩
    · skip
      rw [ha, hf]
      show Goes _ _ _ _ (T26.setTop (mkF m 160 #[.val (.int p1), .val (.int p2), .val (.int p3), .val (.ref b), .val (.int yy), .val (.int (1 : Int32)), .unset] [(.int (0 : Int32)), (.int (1 : Int32))]))
      refine Goes.st (fun _ k => XS.ifNo X26.here hx rfl (hb hby at_160) rfl (by decide) k) ?_
      show Goes _ _ _ _ (T26.setTop (mkF m 163 #[.val (.int p1), .val (.int p2), .val (.int p3), .val (.ref b), .val (.int yy), .val (.int (1 : Int32)), .unset] [(.int (1 : Int32))]))
      refine Goes.st (fun _ k => XS.iconst X26.here hx rfl (hb hby at_163) k) ?_
      show Goes _ _ _ _ (T26.setTop (mkF m 164 #[.val (.int p1), .val (.int p2), .val (.int p3), .val (.ref b), .val (.int yy), .val (.int (1 : Int32)), .unset] [(.int (1 : Int32)), (.int (1 : Int32))]))
      refine Goes.st (fun _ k => XS.goto X26.here hx rfl (pc0 := 164) (pc' := 168) rfl (hb hby at_164) (by decide) (by decide) k) ?_
      show Goes _ _ _ _ (T26.setTop (mkF m 168 #[.val (.int p1), .val (.int p2), .val (.int p3), .val (.ref b), .val (.int yy), .val (.int (1 : Int32)), .unset] [(.int (1 : Int32)), (.int (1 : Int32))]))
      refine Goes.st (fun _ k => XS.icmpNo X26.here hx rfl (hb hby at_168) rfl (by decide) k) ?_
      show Goes _ _ _ _ (T26.setTop (mkF m 171 #[.val (.int p1), .val (.int p2), .val (.int p3), .val (.ref b), .val (.int yy), .val (.int (1 : Int32)), .unset] []))
      refine Goes.st (fun _ k => XS.iconst X26.here hx rfl (hb hby at_171) k) ?_
      show Goes _ _ _ _ (T26.setTop (mkF m 172 #[.val (.int p1), .val (.int p2), .val (.int p3), .val (.ref b), .val (.int yy), .val (.int (1 : Int32)), .unset] [(.int (1 : Int32))]))
      refine Goes.st (fun _ k => XS.goto X26.here hx rfl (pc0 := 172) (pc' := 176) rfl (hb hby at_172) (by decide) (by decide) k) ?_
      show Goes _ _ _ _ (T26.setTop (mkF m 176 #[.val (.int p1), .val (.int p2), .val (.int p3), .val (.ref b), .val (.int yy), .val (.int (1 : Int32)), .unset] [(.int (1 : Int32))]))
      exact J176
    · skip
      rw [ha, hf]
      show Goes _ _ _ _ (T26.setTop (mkF m 160 #[.val (.int p1), .val (.int p2), .val (.int p3), .val (.ref b), .val (.int yy), .val (.int (1 : Int32)), .unset] [(.int (1 : Int32)), (.int (0 : Int32))]))
      refine Goes.st (fun _ k => XS.ifYes X26.here hx rfl (pc0 := 160) (pc' := 167) rfl (hb hby at_160) rfl (by decide) (by decide) (by decide) k) ?_
      show Goes _ _ _ _ (T26.setTop (mkF m 167 #[.val (.int p1), .val (.int p2), .val (.int p3), .val (.ref b), .val (.int yy), .val (.int (1 : Int32)), .unset] [(.int (0 : Int32))]))
      refine Goes.st (fun _ k => XS.iconst X26.here hx rfl (hb hby at_167) k) ?_
      show Goes _ _ _ _ (T26.setTop (mkF m 168 #[.val (.int p1), .val (.int p2), .val (.int p3), .val (.ref b), .val (.int yy), .val (.int (1 : Int32)), .unset] [(.int (0 : Int32)), (.int (0 : Int32))]))
      refine Goes.st (fun _ k => XS.icmpNo X26.here hx rfl (hb hby at_168) rfl (by decide) k) ?_
      show Goes _ _ _ _ (T26.setTop (mkF m 171 #[.val (.int p1), .val (.int p2), .val (.int p3), .val (.ref b), .val (.int yy), .val (.int (1 : Int32)), .unset] []))
      refine Goes.st (fun _ k => XS.iconst X26.here hx rfl (hb hby at_171) k) ?_
      show Goes _ _ _ _ (T26.setTop (mkF m 172 #[.val (.int p1), .val (.int p2), .val (.int p3), .val (.ref b), .val (.int yy), .val (.int (1 : Int32)), .unset] [(.int (1 : Int32))]))
      refine Goes.st (fun _ k => XS.goto X26.here hx rfl (pc0 := 172) (pc' := 176) rfl (hb hby at_172) (by decide) (by decide) k) ?_
      show Goes _ _ _ _ (T26.setTop (mkF m 176 #[.val (.int p1), .val (.int p2), .val (.int p3), .val (.ref b), .val (.int yy), .val (.int (1 : Int32)), .unset] [(.int (1 : Int32))]))
      exact J176
  rcases own_both p1 with ⟨ha, hf⟩ | ⟨ha, hf⟩
  · skip
    rw [ha, hf]
    show Goes _ _ _ _ (T24.setTop (mkF m 132 #[.val (.int p1), .val (.int p2), .val (.int p3), .val (.ref b), .val (.int yy), .unset, .unset] [(.int (0 : Int32)), (.int (1 : Int32))]))
    refine Goes.st (fun _ k => XS.ifNo X24.here hx rfl (hb hby at_132) rfl (by decide) k) ?_
    show Goes _ _ _ _ (T24.setTop (mkF m 135 #[.val (.int p1), .val (.int p2), .val (.int p3), .val (.ref b), .val (.int yy), .unset, .unset] [(.int (1 : Int32))]))
    refine Goes.st (fun _ k => XS.iconst X24.here hx rfl (hb hby at_135) k) ?_
    show Goes _ _ _ _ (T24.setTop (mkF m 136 #[.val (.int p1), .val (.int p2), .val (.int p3), .val (.ref b), .val (.int yy), .unset, .unset] [(.int (1 : Int32)), (.int (1 : Int32))]))
    refine Goes.st (fun _ k => XS.goto X24.here hx rfl (pc0 := 136) (pc' := 140) rfl (hb hby at_136) (by decide) (by decide) k) ?_
    show Goes _ _ _ _ (T24.setTop (mkF m 140 #[.val (.int p1), .val (.int p2), .val (.int p3), .val (.ref b), .val (.int yy), .unset, .unset] [(.int (1 : Int32)), (.int (1 : Int32))]))
    refine Goes.st (fun _ k => XS.icmpNo X24.here hx rfl (hb hby at_140) rfl (by decide) k) ?_
    show Goes _ _ _ _ (T24.setTop (mkF m 143 #[.val (.int p1), .val (.int p2), .val (.int p3), .val (.ref b), .val (.int yy), .unset, .unset] []))
    refine Goes.st (fun _ k => XS.iconst X24.here hx rfl (hb hby at_143) k) ?_
    show Goes _ _ _ _ (T24.setTop (mkF m 144 #[.val (.int p1), .val (.int p2), .val (.int p3), .val (.ref b), .val (.int yy), .unset, .unset] [(.int (1 : Int32))]))
    refine Goes.st (fun _ k => XS.goto X24.here hx rfl (pc0 := 144) (pc' := 148) rfl (hb hby at_144) (by decide) (by decide) k) ?_
    show Goes _ _ _ _ (T24.setTop (mkF m 148 #[.val (.int p1), .val (.int p2), .val (.int p3), .val (.ref b), .val (.int yy), .unset, .unset] [(.int (1 : Int32))]))
    exact J148
  · skip
    rw [ha, hf]
    show Goes _ _ _ _ (T24.setTop (mkF m 132 #[.val (.int p1), .val (.int p2), .val (.int p3), .val (.ref b), .val (.int yy), .unset, .unset] [(.int (1 : Int32)), (.int (0 : Int32))]))
    refine Goes.st (fun _ k => XS.ifYes X24.here hx rfl (pc0 := 132) (pc' := 139) rfl (hb hby at_132) rfl (by decide) (by decide) (by decide) k) ?_
    show Goes _ _ _ _ (T24.setTop (mkF m 139 #[.val (.int p1), .val (.int p2), .val (.int p3), .val (.ref b), .val (.int yy), .unset, .unset] [(.int (0 : Int32))]))
    refine Goes.st (fun _ k => XS.iconst X24.here hx rfl (hb hby at_139) k) ?_
    show Goes _ _ _ _ (T24.setTop (mkF m 140 #[.val (.int p1), .val (.int p2), .val (.int p3), .val (.ref b), .val (.int yy), .unset, .unset] [(.int (0 : Int32)), (.int (0 : Int32))]))
    refine Goes.st (fun _ k => XS.icmpNo X24.here hx rfl (hb hby at_140) rfl (by decide) k) ?_
    show Goes _ _ _ _ (T24.setTop (mkF m 143 #[.val (.int p1), .val (.int p2), .val (.int p3), .val (.ref b), .val (.int yy), .unset, .unset] []))
    refine Goes.st (fun _ k => XS.iconst X24.here hx rfl (hb hby at_143) k) ?_
    show Goes _ _ _ _ (T24.setTop (mkF m 144 #[.val (.int p1), .val (.int p2), .val (.int p3), .val (.ref b), .val (.int yy), .unset, .unset] [(.int (1 : Int32))]))
    refine Goes.st (fun _ k => XS.goto X24.here hx rfl (pc0 := 144) (pc' := 148) rfl (hb hby at_144) (by decide) (by decide) k) ?_
    show Goes _ _ _ _ (T24.setTop (mkF m 148 #[.val (.int p1), .val (.int p2), .val (.int p3), .val (.ref b), .val (.int yy), .unset, .unset] [(.int (1 : Int32))]))
    exact J148
set_option maxRecDepth 65536 in
set_option maxHeartbeats 40000000 in
theorem comes_1 {Post : Tables → Env → Array Value → State → Outcome → State → Prop} (hpost : ∀ tb e args s v u, (limb_1_1.after args s (.returned v) u = true ∧ limb_1_2.after args s (.returned v) u = true ∧ True) → FrameEnd s (.returned v) u (Jvm.fieldLocs frame_1_writes args s ++ Jvm.arrayLocs frame_1_arrays args s ++ Jvm.staticLocs frame_1_statics s) 16 128 → Post tb e args s (.returned v) u) :
    ArmFor flags0 classFile x code maxLocals ret World_1 tables_1 room_1 Calls_1 rest_1 Pre_1 Post := by
  intro l hfl _ _ p e ha hc hk s m args below hf hA hF happ hP
  obtain ⟨hcalls, hrest, hpre⟩ := hP
  obtain ⟨-, -, -, hnamed, -, -, -, hat⟩ := (Spec.applies_iff hf).mp happ
  obtain ⟨hg, hn⟩ := and_e (Cond.before_iff.mp (show (Jvm.Cond.and given_1 narrow_1).before args s = true from hpre))
  obtain ⟨hq, hr0⟩ := and_e hg
  obtain ⟨hk0, hr1⟩ := and_e hr0
  obtain ⟨hk1, hr2⟩ := and_e hr1
  obtain ⟨w0, w1, w2, rfl⟩ : ∃ w0 w1 w2 : Value, args = #[w0, w1, w2] := by
    have hs : args.size = 3 := by simpa [Cond.value, given_1] using hq
    obtain ⟨L⟩ := args
    match L, hs with
    | [w0, w1, w2], _ => exact ⟨w0, w1, w2, rfl⟩
  have hw := fun d (hd : d ∈ tables_1) => atoms_spec (ws := Jvm.Cond.code x code maxLocals ret :: tables_1) hat d (List.mem_cons_of_mem _ hd)
  obtain ⟨i0, q0⟩ := is_v hk0
  obtain rfl : w0 = (.int i0) := Option.some.inj q0
  obtain ⟨i1, q1⟩ := is_v hk1
  obtain rfl : w1 = (.int i1) := Option.some.inj q1
  obtain ⟨i2, q2⟩ := is_v hr2
  obtain rfl : w2 = (.int i2) := Option.some.inj q2
  obtain ⟨n, o, h1, h2, h3, _, L, rfl, ⟨rfl, N⟩, hq⟩ := rm0 l s _ hw tables_1 i0 i1 i2 s.heap s.heap.size (Nat.le_refl _) p e ha hc hk s m _ below hf ((Spec.applies_iff_loose hf).mp happ).1 ⟨rfl, State.Warmed39.refl s, rfl⟩ trivial
  refine ⟨n, _, h1, h2, h3, hpost _ _ _ _ _ _ ⟨Cond.after_iff.mpr rfl, Cond.after_iff.mpr (eq_i res_at (Term.int_eval (1)) rfl), trivial⟩ ⟨hq.1, hq.2.1, (hq.2.2.sift fun y hy => Or.inr (N y hy)).mono (by decide) (by decide)⟩⟩
theorem main_1_1 : Claimed_1_1 := comes_1 fun _ _ _ _ _ _ h hF => ⟨h.1, hF⟩
theorem main_1_2 : Claimed_1_2 := comes_1 fun _ _ _ _ _ _ h hF => ⟨h.2.1, hF⟩
end Jvm.Pilot.@@N@@
namespace Jvm.Pilot.@@N@@
open Jvm Jvm.ClassFile Sem Op Lib Jvm.Free Jvm.Stand Jvm.Pilot.@@N@@.Jvm.D
/-! MADE BY PROGRAM (witnessworld.py) out of the Statement's table words and the real class files: 9 classes; the members and pool entries that the words name. The judged class is class 1, her method 2. -/
namespace start1
open Jvm.ClassFile
def u (s : String) : CpInfo := .utf8 (stringToUtf16 s)
/-- a pool by its gaps: so many unusable entries, then the entry; so many at the end -/
def gap : Nat → List CpInfo → List CpInfo
  | 0, r => r
  | n + 1, r => .unusable :: gap n r
def poolList (es : List (Nat × CpInfo)) (last : Nat) : List CpInfo := es.foldr (fun e r => gap e.1 (e.2 :: r)) (gap last [])
def pool (es : List (Nat × CpInfo)) (last : Nat) : Array CpInfo := ⟨poolList es last⟩
def fileOf (pool : Array CpInfo) (this : Nat) (attrs : Array Attribute := #[]) (ms : Array MethodInfo := #[]) (fl : Nat := 33) (sup : Nat := 0) (ifs : Array Nat := #[]) (fds : Array FieldInfo := #[]) : ClassFile where
  minorVersion := 0
  majorVersion := 65
  constantPool := pool
  accessFlags := fl
  thisClass := this
  superClass := sup
  interfaces := ifs
  fields := fds
  methods := ms
  attributes := attrs
def plain (name : String) (sup : Option ClassId) : Class where
  name := name
  kind := .ordinary
  loader := none
  accessFlags := 33
  super := sup
  interfaces := #[]
  cf := none
  fields := #[]
  methods := #[]
  instanceTypes := #[]
  staticTypes := #[]
  resolved := #[]
  callSites := []
  init := .initialized
  statics := none
  mirror := none

def pool0 : Array CpInfo := pool [(5, u "<init>"), (0, u "()V"), (1, .class_ 10), (1, u "java/lang/Object")] 113

def k0m0 : Method := { name := "<init>", desc := "()V", sig := { parameters := [], returnType := none }, accessFlags := 1, code := none }
/-- java/lang/Object -/
def k0 : Class := { plain "java/lang/Object" none with
  accessFlags := 33
  interfaces := #[]
  cf := some (fileOf pool0 8 #[] #[{ accessFlags := 1, nameIndex := 5, descriptorIndex := 6, attributes := #[] }] 33 0 #[] #[])
  fields := #[]
  methods := #[k0m0]
  instanceTypes := #[]
  staticTypes := #[]
  resolved := Array.replicate 124 none
  statics := none }

def pool1 : Array CpInfo := pool [(2, .class_ 4), (1, u "java/lang/Object"), (0, u "<init>"), (0, u "()V"), (0, .integer 1114111), (0, .integer 55296), (0, .integer 57343), (0, .integer 65534), (0, .integer 65535), (0, .integer 55295), (0, .integer 57344), (0, .integer 65533), (0, .integer 65536), (0, .integer 1114112), (2, .integer 2147483648), (0, .integer 2147483647), (0, .methodref 22 23), (0, .class_ 24), (0, .nameAndType 25 26), (0, u "com/example/fenestra/fenestra/formats/XmlChars"), (0, u "isAllowed"), (0, u "(I)Z"), (0, .methodref 28 29), (0, .class_ 30), (0, .nameAndType 31 26), (0, u "com/example/fenestra/fenestra/formats/XmlCharsIsAllowedPinLaw"), (0, u "forbidden"), (3, u "law"), (0, u "(III)Z")] 4

def k1m0 : Method := { name := "<init>", desc := "()V", sig := { parameters := [], returnType := none }, accessFlags := 2, code := none }
def k1c1 : Code := { maxStack := 2, maxLocals := 1, code := method_2_code, exceptionTable := #[], attributes := #[] }
def k1m1 : Method := { name := "forbidden", desc := "(I)Z", sig := { parameters := [.int], returnType := some .boolean }, accessFlags := 10, code := some k1c1 }
def k1c2 : Code := { maxStack := 4, maxLocals := 7, code := code, exceptionTable := #[], attributes := #[] }
def k1m2 : Method := { name := "law", desc := "(III)Z", sig := { parameters := [.int, .int, .int], returnType := some .boolean }, accessFlags := 9, code := some k1c2 }
/-- com/example/fenestra/fenestra/formats/XmlCharsIsAllowedPinLaw -/
def k1 : Class := { plain "com/example/fenestra/fenestra/formats/XmlCharsIsAllowedPinLaw" (some 0) with
  accessFlags := 49
  interfaces := #[]
  cf := some (fileOf pool1 28 #[] #[{ accessFlags := 2, nameIndex := 5, descriptorIndex := 6, attributes := #[] }, { accessFlags := 10, nameIndex := 31, descriptorIndex := 26, attributes := #[] }, { accessFlags := 9, nameIndex := 35, descriptorIndex := 36, attributes := #[] }] 49 2 #[] #[])
  fields := #[]
  methods := #[k1m0, k1m1, k1m2]
  instanceTypes := #[]
  staticTypes := #[]
  resolved := Array.replicate 41 none
  statics := none }

def pool2 : Array CpInfo := pool [(2, .class_ 4), (1, u "java/lang/Object"), (0, u "<init>"), (0, u "()V"), (7, .class_ 16), (1, u "com/example/fenestra/fenestra/formats/XmlChars"), (8, u "(I)Z"), (4, .integer 55295), (0, .integer 57344), (0, .integer 65533), (0, .integer 65536), (0, .integer 1114111), (6, u "isAllowed")] 27

def k2m0 : Method := { name := "<init>", desc := "()V", sig := { parameters := [], returnType := none }, accessFlags := 2, code := none }
def k2c1 : Code := { maxStack := 2, maxLocals := 1, code := prog_186_method_6_code, exceptionTable := #[], attributes := #[] }
def k2m1 : Method := { name := "isAllowed", desc := "(I)Z", sig := { parameters := [.int], returnType := some .boolean }, accessFlags := 8, code := some k2c1 }
/-- com/example/fenestra/fenestra/formats/XmlChars -/
def k2 : Class := { plain "com/example/fenestra/fenestra/formats/XmlChars" (some 0) with
  accessFlags := 48
  interfaces := #[]
  cf := some (fileOf pool2 14 #[] #[{ accessFlags := 2, nameIndex := 5, descriptorIndex := 6, attributes := #[] }, { accessFlags := 8, nameIndex := 41, descriptorIndex := 25, attributes := #[] }] 48 2 #[] #[])
  fields := #[]
  methods := #[k2m0, k2m1]
  instanceTypes := #[]
  staticTypes := #[]
  resolved := Array.replicate 69 none
  statics := none }

def pool3 : Array CpInfo := pool [(1, u "java/lang/Cloneable"), (0, .class_ 1), (0, u "java/lang/Object"), (0, .class_ 3)] 3

/-- java/lang/Cloneable -/
def k3 : Class := { plain "java/lang/Cloneable" (some 0) with
  accessFlags := 1537
  interfaces := #[]
  cf := some (fileOf pool3 2 #[] #[] 1537 4 #[] #[])
  fields := #[]
  methods := #[]
  instanceTypes := #[]
  staticTypes := #[]
  resolved := Array.replicate 8 none
  statics := none }

def pool4 : Array CpInfo := pool [(1, u "java/io/Serializable"), (0, .class_ 1), (0, u "java/lang/Object"), (0, .class_ 3)] 3

/-- java/io/Serializable -/
def k4 : Class := { plain "java/io/Serializable" (some 0) with
  accessFlags := 1537
  interfaces := #[]
  cf := some (fileOf pool4 2 #[] #[] 1537 4 #[] #[])
  fields := #[]
  methods := #[]
  instanceTypes := #[]
  staticTypes := #[]
  resolved := Array.replicate 8 none
  statics := none }

/-- the primitive byte -/
def k5 : Class := { plain "byte" none with kind := .primitive 'B', accessFlags := 0x411 }
/-- [B -/
def k6 : Class := { plain "[B" (some 0) with kind := .array 5 .byte, interfaces := #[3, 4], accessFlags := 1041 }

/-- the primitive int -/
def k7 : Class := { plain "int" none with kind := .primitive 'I', accessFlags := 0x411 }
/-- [I -/
def k8 : Class := { plain "[I" (some 0) with kind := .array 7 .int, interfaces := #[3, 4], accessFlags := 1041 }

def heap : Heap := #[]
def classes : Array Class := #[k0, k1, k2, k3, k4, k5, k6, k7, k8]
def interned : List (Array UInt16 × Addr) := []
def slotsUsed : Nat := 0
def theMethod : MethodId := ⟨1, 2⟩
def args0 : Array Value := #[.int 65, .int 3, .int 4]
def aboutOver (below : List Frame) : State where
  vm := { classes := classes, interned := interned.toArray }
  heap := heap
  slotsUsed := slotsUsed
  threads := #[{ frames := .invoking theMethod args0 :: below }]
def below0 : List Frame := [.native { method := ⟨0, 0⟩, args := #[] }]
def about1 : State := aboutOver below0
def p0 : Program := .bare "" "" ""
def e0 : Env := launch0.env 0 0 0
theorem w_frames : about1.frames = Frame.invoking theMethod args0 :: below0 := rfl
set_option maxRecDepth 65536 in
theorem w_args : argsFit about1.vm theMethod args0 = true := by decide +kernel
set_option maxRecDepth 65536 in
theorem w_heap : heapFits about1 = true := by decide +kernel
set_option maxRecDepth 65536 in
theorem w_runnable : about1.curStatus? = some .runnable := by decide +kernel
set_option maxRecDepth 65536 in
theorem w_alone : about1.alone = true := by decide +kernel
set_option maxRecDepth 65536 in
theorem w_named : about1.methodNamed? x = some theMethod := by decide +kernel
set_option maxRecDepth 65536 in
theorem w_hears : about1.hears theMethod below0 = true := by decide +kernel
set_option maxRecDepth 65536 in
theorem w_ripe : about1.ripe theMethod args0 below0 = true := by decide +kernel
theorem w_running : about1.status = .running := rfl
set_option maxRecDepth 65536 in
theorem w_room : about1.hasRoom e0.platform room_1 = true :=
  launch0.hasRoom_least _ room_1 (by decide +kernel) (by decide +kernel) (by decide +kernel) (by decide +kernel) (by decide +kernel) (by decide +kernel)
theorem allAtoms_all (ts : List Jvm.Cond) (a : Array Jvm.Value) (st : Jvm.State) : (allAtoms ts).before a st = ts.all (fun c => c.before a st) := by
  induction ts with
  | nil => rfl
  | cons c t ih =>
    show (Jvm.Cond.and c (allAtoms t)).before a st = _
    rw [Jvm.Cond.before_and, ih, List.all_cons]
def words1 : List Jvm.Cond := Jvm.Cond.code x code maxLocals ret :: tables_1
/-- a 'code' word, met by the world's own term for the bytes: nothing is compared byte by byte -/
theorem code_word {y : MethodName} {bytes : ByteArray} {mx : Nat} {rt : Option FieldType} {a : Array Value} {s : State} {m : MethodId} {meth : Method} {c : Code} (h1 : s.methodNamed? y = some m) (h2 : s.vm.method? m = some meth) (h3 : meth.code = some c) (h4 : c.code = bytes)
    (h5 : (c.maxLocals == mx && c.exceptionTable.isEmpty && decide (c.maxStack ≤ mostOperands) && decide (meth.sig.returnType = rt) && !meth.locks && decide (parseMethodDescriptor y.desc = some meth.sig)) = true) : (Jvm.Cond.code y bytes mx rt).before a s = true := by
  simp only [Bool.and_eq_true, beq_iff_eq, Bool.not_eq_true', decide_eq_true_eq] at h5
  obtain ⟨⟨⟨⟨⟨g1, g2⟩, g3⟩, g4⟩, g5⟩, g6⟩ := h5
  simp [Cond.before, Cond.holds, Cond.value, h1, h2, h3, h4, g1, g2, g3, g4, g5, g6]
def isCode : Jvm.Cond → Bool
  | .code _ _ _ _ => true
  | _ => false
theorem all_split {L : List Jvm.Cond} {P : Jvm.Cond → Bool} (h1 : L.all (fun c => isCode c || P c) = true) (h2 : ∀ c ∈ L.filter isCode, P c = true) : L.all P = true := by
  refine List.all_eq_true.mpr fun c hc => ?_
  have h := List.all_eq_true.mp h1 c hc
  rcases Bool.eq_false_or_eq_true (isCode c) with hi | hi
  · exact h2 c (List.mem_filter.mpr ⟨hc, hi⟩)
  · simpa [hi] using h
set_option maxRecDepth 65536 in
theorem w_c0 : (Jvm.Cond.code x code maxLocals ret).before args0 about1 = true := code_word (m := ⟨1, 2⟩) (meth := k1m2) (c := k1c2) (by decide +kernel) rfl rfl rfl (by decide +kernel)
set_option maxRecDepth 65536 in
theorem w_c1 : (Jvm.Cond.code ({ cls := "com/example/fenestra/fenestra/formats/XmlChars", name := "isAllowed", desc := "(I)Z" } : Jvm.MethodName) prog_186_method_6_code (1 : Nat) (Option.some Jvm.ClassFile.FieldType.boolean)).before args0 about1 = true := code_word (m := ⟨2, 1⟩) (meth := k2m1) (c := k2c1) (by decide +kernel) rfl rfl rfl (by decide +kernel)
set_option maxRecDepth 65536 in
theorem w_c2 : (Jvm.Cond.code ({ cls := "com/example/fenestra/fenestra/formats/XmlCharsIsAllowedPinLaw", name := "forbidden", desc := "(I)Z" } : Jvm.MethodName) method_2_code (1 : Nat) (Option.some Jvm.ClassFile.FieldType.boolean)).before args0 about1 = true := code_word (m := ⟨1, 1⟩) (meth := k1m1) (c := k1c1) (by decide +kernel) rfl rfl rfl (by decide +kernel)
def codes1 : List Jvm.Cond := [Jvm.Cond.code x code maxLocals ret, Jvm.Cond.code ({ cls := "com/example/fenestra/fenestra/formats/XmlChars", name := "isAllowed", desc := "(I)Z" } : Jvm.MethodName) prog_186_method_6_code (1 : Nat) (Option.some Jvm.ClassFile.FieldType.boolean), Jvm.Cond.code ({ cls := "com/example/fenestra/fenestra/formats/XmlCharsIsAllowedPinLaw", name := "forbidden", desc := "(I)Z" } : Jvm.MethodName) method_2_code (1 : Nat) (Option.some Jvm.ClassFile.FieldType.boolean)]
set_option maxRecDepth 65536 in
theorem codes_eq : words1.filter isCode = codes1 := rfl
theorem w_codes : ∀ c ∈ words1.filter isCode, c.before args0 about1 = true := by
  rw [codes_eq]
  intro c hc
  simp only [codes1, List.mem_cons, List.not_mem_nil, or_false] at hc
  rcases hc with rfl | rfl | rfl
  · exact w_c0
  · exact w_c1
  · exact w_c2
set_option maxRecDepth 65536 in
theorem w_t1 : (words1.take 24).all (fun c => isCode c || c.before args0 about1) = true := by decide +kernel
set_option maxRecDepth 65536 in
theorem w_t2 : (words1.drop 24).all (fun c => isCode c || c.before args0 about1) = true := by decide +kernel
theorem w_tables : (allAtoms (Jvm.Cond.code x code maxLocals ret :: tables_1)).before args0 about1 = true := by
  rw [allAtoms_all]
  show words1.all (fun c => c.before args0 about1) = true
  refine all_split ?_ w_codes
  rw [← List.take_append_drop 24 words1, List.all_append, w_t1, w_t2]
  rfl
set_option maxRecDepth 65536 in
theorem w_case : (Jvm.Cond.and given_1 narrow_1).before args0 about1 = true := by decide +kernel
theorem w_applies : (headSpec (Jvm.Cond.code x code maxLocals ret :: tables_1) room_1).applies x e0.platform about1 = true :=
  (Spec.applies_iff w_frames).mpr ⟨w_running, w_runnable, w_alone, w_named, w_hears, w_ripe, w_room, w_tables⟩
theorem atStart : AtStart classFile x code maxLocals ret World_1 tables_1 room_1 Calls_1 rest_1 Pre_1 launch0 p0 e0 about1 theMethod args0 below0 :=
  ⟨lists_1, trivial, launch0.admits_env _ _ _, launch0.least_env, fairChoices_fair.cas, fairChoices_fair.clock, w_frames, w_args, w_heap, w_applies, trivial, trivial, w_case⟩
end start1
theorem witness_1 : WitnessClaimed_1 := ⟨start1.p0, start1.e0, start1.about1, start1.theMethod, start1.args0, start1.below0, start1.atStart⟩
end Jvm.Pilot.@@N@@
