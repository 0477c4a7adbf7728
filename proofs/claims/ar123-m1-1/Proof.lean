import JvmDerived
import JvmDerived.Pilot.@@N@@Statement
import JvmDerived.Pilot.@@N@@Code
set_option linter.unusedVariables false
set_option linter.unusedSimpArgs false
namespace Jvm.Pilot.@@N@@
open Jvm Jvm.ClassFile Sem Op Lib Jvm.Free Jvm.Stand Jvm.LawKit Jvm.RoadKit Bundle Jvm.Pilot.@@N@@.Jvm.D
/-! own kit: the walk's goal as one word (Goes), the end of a body (Ends), the five returns -/
section OwnKit
/-- from S the run comes to some state and outcome of which P holds -/
def Goes (tb : Tables) (e : Env) (below : List Frame) (P : State → Outcome → Prop) (S : State) : Prop := ∃ t o, Steps tb e below S t ∧ P t o
/-- what a body owes at its end -/
def Ends (below : List Frame) (s : State) (Q : Option Value → Heap → List Loc → Prop) (kc ks : Nat) (t : State) (o : Outcome) : Prop :=
  t.status = .running ∧ Ended t below o ∧ ∃ v L, o = .returned v ∧ Q v t.heap L ∧ FrameEnd s o t L kc ks
theorem Goes.st {tb : Tables} {e : Env} {below : List Frame} {P : State → Outcome → Prop} {S S' : State} (h : ∀ target, Steps tb e below S' target → Steps tb e below S target) (k : Goes tb e below P S') : Goes tb e below P S :=
  let ⟨t, o, h1, h2⟩ := k; ⟨t, o, h t h1, h2⟩
theorem Goes.tr {tb : Tables} {e : Env} {below : List Frame} {P : State → Outcome → Prop} {S S' : State} (h : Steps tb e below S S') (k : Goes tb e below P S') : Goes tb e below P S :=
  let ⟨t, o, h1, h2⟩ := k; ⟨t, o, h.trans h1, h2⟩
theorem Goes.cast {tb : Tables} {e : Env} {below : List Frame} {P : State → Outcome → Prop} {T : State} {g g' : JFrame} (q : g = g') (k : Goes tb e below P (T.setTop g')) : Goes tb e below P (T.setTop g) := q ▸ k
variable {p : Program} {l : Launch} {e : Env} {R : Room} {s : State} {m : MethodId} {args : Array Value} {below : List Frame} {meth : Method} {c : Code} {T : State} {locs : List Loc} {cells slots : Nat}
theorem own_out (X : Stand p l e R s m args below meth c T locs cells slots) {v : Option Value} (hv : meth.sig.returnType = none → v = none) (hlk : meth.locks = false) {S : State} {Q : Option Value → Heap → List Loc → Prop} {kc ks : Nat} (hc : cells ≤ kc) (hs : slots ≤ ks) (hQ : Q v T.heap locs)
    (go : ∀ fs, (∀ (f : JFrame) (acts : List Action), f.method = m → f.locked = none → f.entered = [] → (doReturn e (T.setTop f) acts v).1 = T.setFrames fs) → Steps p.tables e below S (T.setFrames fs)) : Goes p.tables e below (Ends below s Q kc ks) S := by
  obtain ⟨fs, hr, hrun, hended, hW, hsame⟩ := X.leave (v := v) hv hlk
  exact ⟨_, _, go fs hr, hrun, hended, _, _, rfl, hQ, ⟨_, rfl⟩, hW, hsame.mono hc hs⟩
/-- ireturn of a boolean -/
theorem leafZ (X : Stand p l e R s m args below meth c T locs cells slots) (hx : p.tables.exec = Jvm.exec) (hlk : meth.locks = false) (hret : meth.sig.returnType = some .boolean) {pc : Nat} {Ls : Array Slot} {z : Int32} {rest : List Value} (hd : decode c.code pc = .ok (.ireturn, 1)) (hz : z = 0 ∨ z = 1)
    {Q : Option Value → Heap → List Loc → Prop} {kc ks : Nat} (hc : cells ≤ kc) (hs : slots ≤ ks) (hQ : Q (some (.int z)) T.heap locs) : Goes p.tables e below (Ends below s Q kc ks) (T.setTop (mkF m pc Ls (.int z :: rest))) :=
  own_out X (fun h => by rw [hret] at h; cases h) hlk hc hs hQ fun fs hr => retOut X hx hret (by rcases hz with rfl | rfl <;> rfl) (Or.inl ⟨rfl, Or.inr (Or.inl rfl), z, rfl⟩) hd hr
/-- ireturn of an int -/
theorem leafI (X : Stand p l e R s m args below meth c T locs cells slots) (hx : p.tables.exec = Jvm.exec) (hlk : meth.locks = false) (hret : meth.sig.returnType = some .int) {pc : Nat} {Ls : Array Slot} {z : Int32} {rest : List Value} (hd : decode c.code pc = .ok (.ireturn, 1))
    {Q : Option Value → Heap → List Loc → Prop} {kc ks : Nat} (hc : cells ≤ kc) (hs : slots ≤ ks) (hQ : Q (some (.int z)) T.heap locs) : Goes p.tables e below (Ends below s Q kc ks) (T.setTop (mkF m pc Ls (.int z :: rest))) :=
  own_out X (fun h => by rw [hret] at h; cases h) hlk hc hs hQ fun fs hr => retOut X hx hret rfl (Or.inl ⟨rfl, Or.inl rfl, z, rfl⟩) hd hr
/-- lreturn -/
theorem leafJ (X : Stand p l e R s m args below meth c T locs cells slots) (hx : p.tables.exec = Jvm.exec) (hlk : meth.locks = false) (hret : meth.sig.returnType = some .long) {pc : Nat} {Ls : Array Slot} {z : Int64} {rest : List Value} (hd : decode c.code pc = .ok (.lreturn, 1))
    {Q : Option Value → Heap → List Loc → Prop} {kc ks : Nat} (hc : cells ≤ kc) (hs : slots ≤ ks) (hQ : Q (some (.long z)) T.heap locs) : Goes p.tables e below (Ends below s Q kc ks) (T.setTop (mkF m pc Ls (.long z :: rest))) :=
  own_out X (fun h => by rw [hret] at h; cases h) hlk hc hs hQ fun fs hr => retOut X hx hret rfl (Or.inr (Or.inl ⟨rfl, rfl, z, rfl⟩)) hd hr
/-- areturn -/
theorem leafA (X : Stand p l e R s m args below meth c T locs cells slots) (hx : p.tables.exec = Jvm.exec) (hlk : meth.locks = false) {t : FieldType} (hret : meth.sig.returnType = some t) (ht : t.isReference = true) {pc : Nat} {Ls : Array Slot} {w : Value} (hw : w.isRef = true) {rest : List Value} (hd : decode c.code pc = .ok (.areturn, 1))
    {Q : Option Value → Heap → List Loc → Prop} {kc ks : Nat} (hc : cells ≤ kc) (hs : slots ≤ ks) (hQ : Q (some w) T.heap locs) : Goes p.tables e below (Ends below s Q kc ks) (T.setTop (mkF m pc Ls (w :: rest))) :=
  own_out X (fun h => by rw [hret] at h; cases h) hlk hc hs hQ fun fs hr => retOut X hx hret (by rcases ref_cases hw with rfl | ⟨a, rfl⟩ <;> cases t <;> rfl) (Or.inr (Or.inr (Or.inr (Or.inr ⟨rfl, ht, hw⟩)))) hd hr
/-- return of nothing -/
theorem leafN (X : Stand p l e R s m args below meth c T locs cells slots) (hx : p.tables.exec = Jvm.exec) (hlk : meth.locks = false) (hret : meth.sig.returnType = none) {pc : Nat} {Ls : Array Slot} (hd : decode c.code pc = .ok (.return_, 1))
    {Q : Option Value → Heap → List Loc → Prop} {kc ks : Nat} (hc : cells ≤ kc) (hs : slots ≤ ks) (hQ : Q none T.heap locs) : Goes p.tables e below (Ends below s Q kc ks) (T.setTop (mkF m pc Ls [])) :=
  own_out X (fun _ => rfl) hlk hc hs hQ fun fs hr => X.returnOut hx hret hd hr
end OwnKit
theorem d1_0 : decode prog_1_method_9_code 0 = .ok (.iload_n 0, 1) := by decide +kernel
theorem d1_1 : decode prog_1_method_9_code 1 = .ok (.bipush 48, 2) := by decide +kernel
theorem d1_3 : decode prog_1_method_9_code 3 = .ok (.if_icmp .lt 9, 3) := by decide +kernel
theorem d1_6 : decode prog_1_method_9_code 6 = .ok (.iload_n 0, 1) := by decide +kernel
theorem d1_7 : decode prog_1_method_9_code 7 = .ok (.bipush 57, 2) := by decide +kernel
theorem d1_9 : decode prog_1_method_9_code 9 = .ok (.if_icmp .le 27, 3) := by decide +kernel
theorem d1_12 : decode prog_1_method_9_code 12 = .ok (.iload_n 0, 1) := by decide +kernel
theorem d1_13 : decode prog_1_method_9_code 13 = .ok (.bipush 65, 2) := by decide +kernel
theorem d1_15 : decode prog_1_method_9_code 15 = .ok (.if_icmp .lt 9, 3) := by decide +kernel
theorem d1_18 : decode prog_1_method_9_code 18 = .ok (.iload_n 0, 1) := by decide +kernel
theorem d1_19 : decode prog_1_method_9_code 19 = .ok (.bipush 90, 2) := by decide +kernel
theorem d1_21 : decode prog_1_method_9_code 21 = .ok (.if_icmp .le 15, 3) := by decide +kernel
theorem d1_24 : decode prog_1_method_9_code 24 = .ok (.iload_n 0, 1) := by decide +kernel
theorem d1_25 : decode prog_1_method_9_code 25 = .ok (.bipush 97, 2) := by decide +kernel
theorem d1_27 : decode prog_1_method_9_code 27 = .ok (.if_icmp .lt 13, 3) := by decide +kernel
theorem d1_30 : decode prog_1_method_9_code 30 = .ok (.iload_n 0, 1) := by decide +kernel
theorem d1_31 : decode prog_1_method_9_code 31 = .ok (.bipush 122, 2) := by decide +kernel
theorem d1_33 : decode prog_1_method_9_code 33 = .ok (.if_icmp .gt 7, 3) := by decide +kernel
theorem d1_36 : decode prog_1_method_9_code 36 = .ok (.iconst 1, 1) := by decide +kernel
theorem d1_37 : decode prog_1_method_9_code 37 = .ok (.goto 4, 3) := by decide +kernel
theorem d1_40 : decode prog_1_method_9_code 40 = .ok (.iconst 0, 1) := by decide +kernel
theorem d1_41 : decode prog_1_method_9_code 41 = .ok (.ireturn, 1) := by decide +kernel
theorem pn_1 : plainFor (⟨"com/example/conformer/conformer/ClauseLabels", "isLabelCharacter", "(C)Z"⟩ : MethodName) = true := by decide +kernel
theorem pd_1 : parseMethodDescriptor "(C)Z" = some ⟨[.char], (some .boolean)⟩ := by decide +kernel
theorem pn_0 : plainFor x = true := by decide +kernel
theorem pd_0 : parseMethodDescriptor "(I)Z" = some ⟨[.int], (some .boolean)⟩ := by decide +kernel
def own_A (x : Int) : Prop := (48 ≤ x ∧ x ≤ 57) ∨ (65 ≤ x ∧ x ≤ 90) ∨ (97 ≤ x ∧ x ≤ 122)
def own_a (x : Int32) : Int32 := if (48 ≤ x.toInt ∧ x.toInt ≤ 57) ∨ (65 ≤ x.toInt ∧ x.toInt ≤ 90) ∨ (97 ≤ x.toInt ∧ x.toInt ≤ 122) then 1 else 0
theorem own_a_y {x : Int32} (h : own_A x.toInt) : own_a x = 1 := if_pos h
theorem own_a_n {x : Int32} (h : ¬ own_A x.toInt) : own_a x = 0 := if_neg h
theorem own_nor : ∀ r : Fin 64, (r.val ||| 32) = r.val + 32 * (1 - r.val / 32) := by decide
theorem own_nat (n : Nat) : n ||| 32 = n + 32 * (1 - n / 32 % 2) := by
  have h1 : (n ||| 32) % 2 ^ 6 = n % 2 ^ 6 ||| 32 % 2 ^ 6 := Nat.or_mod_two_pow
  have h2 : (n ||| 32) / 2 ^ 6 = n / 2 ^ 6 ||| 32 / 2 ^ 6 := Nat.or_div_two_pow
  have h3 := own_nor ⟨n % 64, Nat.mod_lt _ (by decide)⟩
  simp only [show (2 : Nat) ^ 6 = 64 from rfl, show 32 % 64 = 32 from rfl, show 32 / 64 = 0 from rfl, Nat.or_zero] at h1 h2 h3
  rw [h3] at h1
  omega
theorem own_or {x : Int32} (h0 : 0 ≤ x.toInt) : (x ||| 32).toInt = x.toInt + 32 * (1 - x.toInt / 32 % 2) := by
  have e1 : x.toBitVec.toNat < 2147483648 := by
    have := x.toBitVec.isLt
    have h : x.toInt = x.toBitVec.toInt := rfl
    rw [h, BitVec.toInt_eq_toNat_cond] at h0
    split at h0 <;> omega
  have e2 : x.toInt = (x.toBitVec.toNat : Int) := by
    show x.toBitVec.toInt = _
    rw [BitVec.toInt_eq_toNat_cond, if_pos (by omega)]
  have e3 : (x ||| 32).toBitVec.toNat = x.toBitVec.toNat ||| 32 := by
    rw [Int32.toBitVec_or, BitVec.toNat_or]; rfl
  have e4 := own_nat x.toBitVec.toNat
  have e5 : x.toBitVec.toNat ||| 32 < 2147483648 := by
    have := Nat.or_lt_two_pow (n := 31) e1 (show 32 < 2 ^ 31 by decide); exact this
  have e6 : (x ||| 32).toInt = ((x ||| 32).toBitVec.toNat : Int) := by
    show (x ||| 32).toBitVec.toInt = _
    rw [BitVec.toInt_eq_toNat_cond, if_pos (by rw [e3]; omega)]
  rw [e6, e3, e2]
  omega
theorem ef_1 (m : MethodId) (p1 : Int32) : entryFrame m #[(.int p1)] 1 = mkF m 0 #[.val (.int p1)] [] := by first | (simp [entryFrame, mkF, argsToLocals, Value.category, maxLocals]; done) | rfl
def Q1 (Z : State) (p1 : Int32)  (h0 : Heap) (n0 : Nat) (v : Option Value) (h : Heap) (L : List Loc) : Prop := v = some (.int (own_a p1)) ∧ Fr n0 L ∧ h = h0
set_option maxRecDepth 65536 in
set_option maxHeartbeats 40000000 in
theorem rm1 (l : Launch) (Z : State) (a0 : Array Value) (hw : ∀ d ∈ tables_1, d.before a0 Z = true) (ws : List Jvm.Cond) (p1 : Int32)  (h0 : Heap) (n0 : Nat) (Z0 : n0 ≤ h0.size)  :
    MetFree l (⟨"com/example/conformer/conformer/ClauseLabels", "isLabelCharacter", "(C)Z"⟩ : MethodName) (head1 (Jvm.Cond.code (⟨"com/example/conformer/conformer/ClauseLabels", "isLabelCharacter", "(C)Z"⟩ : MethodName) prog_1_method_9_code 1 (some .boolean) :: ws) ({ frames := 0, cells := 0, slots := 0, locals := 0 } : Room)) (fun a U => a = #[(.int p1)] ∧ Z.Warmed39 U.vm ∧ U.heap = h0) (fun _ _ _ _ _ => True) (fun _ U o U' => ∃ v L, o = .returned v ∧ Q1 Z p1  h0 n0 v U'.heap L ∧ FrameEnd U o U' L ({ frames := 0, cells := 0, slots := 0, locals := 0 } : Room).cells ({ frames := 0, cells := 0, slots := 0, locals := 0 } : Room).slots) := by
  refine MetFree.of_bodySF pn_1 hisR ?_
  intro p e s m args below meth c s₁ Bd hml0 hP hK
  obtain ⟨rfl, hZ, hh⟩ := hP
  have hx := Bd.exec
  have hby := Bd.bytes
  have hml : c.maxLocals = 1 := hml0
  have hown : s.vm.findClass "com/example/conformer/conformer/ClauseLabels" = some m.cls := findClass_of_methodNamed Bd.named
  have hnm := (name_of_methodNamed Bd.named Bd.method).1
  have X0 : Stand p l e ({ frames := 0, cells := 0, slots := 0, locals := 0 } : Room) s m #[(.int p1)] below meth c s₁ [] 0 0 := Stand.of_body Bd
  have e0 : s₁.heap = h0 := by rw [← hh, Bd.state]; rfl
  have N0 := Fr.nil n0
  show Goes p.tables e below (Ends below s (Q1 Z p1  h0 n0) ({ frames := 0, cells := 0, slots := 0, locals := 0 } : Room).cells ({ frames := 0, cells := 0, slots := 0, locals := 0 } : Room).slots) (s₁.setTop (entryFrame m #[(.int p1)] 1))
  refine Goes.cast (ef_1 m p1) ?_
  refine Goes.st (fun _ k => XS.iloadN X0.here hx rfl (hb hby d1_0) rfl k) ?_
  show Goes _ _ _ _ (s₁.setTop (mkF m 1 #[.val (.int p1)] [(.int p1)]))
  refine Goes.st (fun _ k => XS.bipush X0.here hx rfl (hb hby d1_1) k) ?_
  show Goes _ _ _ _ (s₁.setTop (mkF m 3 #[.val (.int p1)] [(.int (48 : Int32)), (.int p1)]))
  by_cases hc3 : p1 < (48 : Int32)
  · skip
    refine Goes.st (fun _ k => XS.icmpYes X0.here hx rfl (pc0 := 3) (pc' := 12) rfl (hb hby d1_3) rfl (tlt hc3).1 (by decide) (by decide) k) ?_
    show Goes _ _ _ _ (s₁.setTop (mkF m 12 #[.val (.int p1)] []))
    refine Goes.st (fun _ k => XS.iloadN X0.here hx rfl (hb hby d1_12) rfl k) ?_
    show Goes _ _ _ _ (s₁.setTop (mkF m 13 #[.val (.int p1)] [(.int p1)]))
    refine Goes.st (fun _ k => XS.bipush X0.here hx rfl (hb hby d1_13) k) ?_
    show Goes _ _ _ _ (s₁.setTop (mkF m 15 #[.val (.int p1)] [(.int (65 : Int32)), (.int p1)]))
    by_cases hc15 : p1 < (65 : Int32)
    · skip
      refine Goes.st (fun _ k => XS.icmpYes X0.here hx rfl (pc0 := 15) (pc' := 24) rfl (hb hby d1_15) rfl (tlt hc15).1 (by decide) (by decide) k) ?_
      show Goes _ _ _ _ (s₁.setTop (mkF m 24 #[.val (.int p1)] []))
      refine Goes.st (fun _ k => XS.iloadN X0.here hx rfl (hb hby d1_24) rfl k) ?_
      show Goes _ _ _ _ (s₁.setTop (mkF m 25 #[.val (.int p1)] [(.int p1)]))
      refine Goes.st (fun _ k => XS.bipush X0.here hx rfl (hb hby d1_25) k) ?_
      show Goes _ _ _ _ (s₁.setTop (mkF m 27 #[.val (.int p1)] [(.int (97 : Int32)), (.int p1)]))
      by_cases hc27 : p1 < (97 : Int32)
      · skip
        refine Goes.st (fun _ k => XS.icmpYes X0.here hx rfl (pc0 := 27) (pc' := 40) rfl (hb hby d1_27) rfl (tlt hc27).1 (by decide) (by decide) k) ?_
        show Goes _ _ _ _ (s₁.setTop (mkF m 40 #[.val (.int p1)] []))
        refine Goes.st (fun _ k => XS.iconst X0.here hx rfl (hb hby d1_40) k) ?_
        show Goes _ _ _ _ (s₁.setTop (mkF m 41 #[.val (.int p1)] [(.int (0 : Int32))]))
        have hP : ¬ own_A p1.toInt := by
          simp only [← Int32.toInt_inj, Int32.lt_iff_toInt_lt, Int32.reduceToInt] at hc3 hc15 hc27
          unfold own_A; omega
        exact leafZ X0 hx Bd.notSynchronized Bd.returns (hb hby d1_41) (by decide) (by decide) (by decide) ⟨by rw [own_a_n hP], N0, e0⟩
      · skip
        refine Goes.st (fun _ k => XS.icmpNo X0.here hx rfl (hb hby d1_27) rfl (flt hc27).1 k) ?_
        show Goes _ _ _ _ (s₁.setTop (mkF m 30 #[.val (.int p1)] []))
        refine Goes.st (fun _ k => XS.iloadN X0.here hx rfl (hb hby d1_30) rfl k) ?_
        show Goes _ _ _ _ (s₁.setTop (mkF m 31 #[.val (.int p1)] [(.int p1)]))
        refine Goes.st (fun _ k => XS.bipush X0.here hx rfl (hb hby d1_31) k) ?_
        show Goes _ _ _ _ (s₁.setTop (mkF m 33 #[.val (.int p1)] [(.int (122 : Int32)), (.int p1)]))
        by_cases hc33 : (122 : Int32) < p1
        · skip
          refine Goes.st (fun _ k => XS.icmpYes X0.here hx rfl (pc0 := 33) (pc' := 40) rfl (hb hby d1_33) rfl (tlt hc33).2.2.1 (by decide) (by decide) k) ?_
          show Goes _ _ _ _ (s₁.setTop (mkF m 40 #[.val (.int p1)] []))
          refine Goes.st (fun _ k => XS.iconst X0.here hx rfl (hb hby d1_40) k) ?_
          show Goes _ _ _ _ (s₁.setTop (mkF m 41 #[.val (.int p1)] [(.int (0 : Int32))]))
          have hP : ¬ own_A p1.toInt := by
            simp only [← Int32.toInt_inj, Int32.lt_iff_toInt_lt, Int32.reduceToInt] at hc3 hc15 hc27 hc33
            unfold own_A; omega
          exact leafZ X0 hx Bd.notSynchronized Bd.returns (hb hby d1_41) (by decide) (by decide) (by decide) ⟨by rw [own_a_n hP], N0, e0⟩
        · skip
          refine Goes.st (fun _ k => XS.icmpNo X0.here hx rfl (hb hby d1_33) rfl (flt hc33).2.2.1 k) ?_
          show Goes _ _ _ _ (s₁.setTop (mkF m 36 #[.val (.int p1)] []))
          refine Goes.st (fun _ k => XS.iconst X0.here hx rfl (hb hby d1_36) k) ?_
          show Goes _ _ _ _ (s₁.setTop (mkF m 37 #[.val (.int p1)] [(.int (1 : Int32))]))
          refine Goes.st (fun _ k => XS.goto X0.here hx rfl (pc0 := 37) (pc' := 41) rfl (hb hby d1_37) (by decide) (by decide) k) ?_
          show Goes _ _ _ _ (s₁.setTop (mkF m 41 #[.val (.int p1)] [(.int (1 : Int32))]))
          have hP : own_A p1.toInt := by
            simp only [← Int32.toInt_inj, Int32.lt_iff_toInt_lt, Int32.reduceToInt] at hc3 hc15 hc27 hc33
            unfold own_A; omega
          exact leafZ X0 hx Bd.notSynchronized Bd.returns (hb hby d1_41) (by decide) (by decide) (by decide) ⟨by rw [own_a_y hP], N0, e0⟩
    · skip
      refine Goes.st (fun _ k => XS.icmpNo X0.here hx rfl (hb hby d1_15) rfl (flt hc15).1 k) ?_
      show Goes _ _ _ _ (s₁.setTop (mkF m 18 #[.val (.int p1)] []))
      refine Goes.st (fun _ k => XS.iloadN X0.here hx rfl (hb hby d1_18) rfl k) ?_
      show Goes _ _ _ _ (s₁.setTop (mkF m 19 #[.val (.int p1)] [(.int p1)]))
      refine Goes.st (fun _ k => XS.bipush X0.here hx rfl (hb hby d1_19) k) ?_
      show Goes _ _ _ _ (s₁.setTop (mkF m 21 #[.val (.int p1)] [(.int (90 : Int32)), (.int p1)]))
      by_cases hc21 : (90 : Int32) < p1
      · skip
        refine Goes.st (fun _ k => XS.icmpNo X0.here hx rfl (hb hby d1_21) rfl (tlt hc21).2.2.2 k) ?_
        show Goes _ _ _ _ (s₁.setTop (mkF m 24 #[.val (.int p1)] []))
        refine Goes.st (fun _ k => XS.iloadN X0.here hx rfl (hb hby d1_24) rfl k) ?_
        show Goes _ _ _ _ (s₁.setTop (mkF m 25 #[.val (.int p1)] [(.int p1)]))
        refine Goes.st (fun _ k => XS.bipush X0.here hx rfl (hb hby d1_25) k) ?_
        show Goes _ _ _ _ (s₁.setTop (mkF m 27 #[.val (.int p1)] [(.int (97 : Int32)), (.int p1)]))
        by_cases hc27 : p1 < (97 : Int32)
        · skip
          refine Goes.st (fun _ k => XS.icmpYes X0.here hx rfl (pc0 := 27) (pc' := 40) rfl (hb hby d1_27) rfl (tlt hc27).1 (by decide) (by decide) k) ?_
          show Goes _ _ _ _ (s₁.setTop (mkF m 40 #[.val (.int p1)] []))
          refine Goes.st (fun _ k => XS.iconst X0.here hx rfl (hb hby d1_40) k) ?_
          show Goes _ _ _ _ (s₁.setTop (mkF m 41 #[.val (.int p1)] [(.int (0 : Int32))]))
          have hP : ¬ own_A p1.toInt := by
            simp only [← Int32.toInt_inj, Int32.lt_iff_toInt_lt, Int32.reduceToInt] at hc3 hc15 hc21 hc27
            unfold own_A; omega
          exact leafZ X0 hx Bd.notSynchronized Bd.returns (hb hby d1_41) (by decide) (by decide) (by decide) ⟨by rw [own_a_n hP], N0, e0⟩
        · skip
          refine Goes.st (fun _ k => XS.icmpNo X0.here hx rfl (hb hby d1_27) rfl (flt hc27).1 k) ?_
          show Goes _ _ _ _ (s₁.setTop (mkF m 30 #[.val (.int p1)] []))
          refine Goes.st (fun _ k => XS.iloadN X0.here hx rfl (hb hby d1_30) rfl k) ?_
          show Goes _ _ _ _ (s₁.setTop (mkF m 31 #[.val (.int p1)] [(.int p1)]))
          refine Goes.st (fun _ k => XS.bipush X0.here hx rfl (hb hby d1_31) k) ?_
          show Goes _ _ _ _ (s₁.setTop (mkF m 33 #[.val (.int p1)] [(.int (122 : Int32)), (.int p1)]))
          by_cases hc33 : (122 : Int32) < p1
          · skip
            refine Goes.st (fun _ k => XS.icmpYes X0.here hx rfl (pc0 := 33) (pc' := 40) rfl (hb hby d1_33) rfl (tlt hc33).2.2.1 (by decide) (by decide) k) ?_
            show Goes _ _ _ _ (s₁.setTop (mkF m 40 #[.val (.int p1)] []))
            refine Goes.st (fun _ k => XS.iconst X0.here hx rfl (hb hby d1_40) k) ?_
            show Goes _ _ _ _ (s₁.setTop (mkF m 41 #[.val (.int p1)] [(.int (0 : Int32))]))
            have hP : ¬ own_A p1.toInt := by
              simp only [← Int32.toInt_inj, Int32.lt_iff_toInt_lt, Int32.reduceToInt] at hc3 hc15 hc21 hc27 hc33
              unfold own_A; omega
            exact leafZ X0 hx Bd.notSynchronized Bd.returns (hb hby d1_41) (by decide) (by decide) (by decide) ⟨by rw [own_a_n hP], N0, e0⟩
          · skip
            refine Goes.st (fun _ k => XS.icmpNo X0.here hx rfl (hb hby d1_33) rfl (flt hc33).2.2.1 k) ?_
            show Goes _ _ _ _ (s₁.setTop (mkF m 36 #[.val (.int p1)] []))
            refine Goes.st (fun _ k => XS.iconst X0.here hx rfl (hb hby d1_36) k) ?_
            show Goes _ _ _ _ (s₁.setTop (mkF m 37 #[.val (.int p1)] [(.int (1 : Int32))]))
            refine Goes.st (fun _ k => XS.goto X0.here hx rfl (pc0 := 37) (pc' := 41) rfl (hb hby d1_37) (by decide) (by decide) k) ?_
            show Goes _ _ _ _ (s₁.setTop (mkF m 41 #[.val (.int p1)] [(.int (1 : Int32))]))
            have hP : own_A p1.toInt := by
              simp only [← Int32.toInt_inj, Int32.lt_iff_toInt_lt, Int32.reduceToInt] at hc3 hc15 hc21 hc27 hc33
              unfold own_A; omega
            exact leafZ X0 hx Bd.notSynchronized Bd.returns (hb hby d1_41) (by decide) (by decide) (by decide) ⟨by rw [own_a_y hP], N0, e0⟩
      · skip
        refine Goes.st (fun _ k => XS.icmpYes X0.here hx rfl (pc0 := 21) (pc' := 36) rfl (hb hby d1_21) rfl (flt hc21).2.2.2 (by decide) (by decide) k) ?_
        show Goes _ _ _ _ (s₁.setTop (mkF m 36 #[.val (.int p1)] []))
        refine Goes.st (fun _ k => XS.iconst X0.here hx rfl (hb hby d1_36) k) ?_
        show Goes _ _ _ _ (s₁.setTop (mkF m 37 #[.val (.int p1)] [(.int (1 : Int32))]))
        refine Goes.st (fun _ k => XS.goto X0.here hx rfl (pc0 := 37) (pc' := 41) rfl (hb hby d1_37) (by decide) (by decide) k) ?_
        show Goes _ _ _ _ (s₁.setTop (mkF m 41 #[.val (.int p1)] [(.int (1 : Int32))]))
        have hP : own_A p1.toInt := by
          simp only [← Int32.toInt_inj, Int32.lt_iff_toInt_lt, Int32.reduceToInt] at hc3 hc15 hc21
          unfold own_A; omega
        exact leafZ X0 hx Bd.notSynchronized Bd.returns (hb hby d1_41) (by decide) (by decide) (by decide) ⟨by rw [own_a_y hP], N0, e0⟩
  · skip
    refine Goes.st (fun _ k => XS.icmpNo X0.here hx rfl (hb hby d1_3) rfl (flt hc3).1 k) ?_
    show Goes _ _ _ _ (s₁.setTop (mkF m 6 #[.val (.int p1)] []))
    refine Goes.st (fun _ k => XS.iloadN X0.here hx rfl (hb hby d1_6) rfl k) ?_
    show Goes _ _ _ _ (s₁.setTop (mkF m 7 #[.val (.int p1)] [(.int p1)]))
    refine Goes.st (fun _ k => XS.bipush X0.here hx rfl (hb hby d1_7) k) ?_
    show Goes _ _ _ _ (s₁.setTop (mkF m 9 #[.val (.int p1)] [(.int (57 : Int32)), (.int p1)]))
    by_cases hc9 : (57 : Int32) < p1
    · skip
      refine Goes.st (fun _ k => XS.icmpNo X0.here hx rfl (hb hby d1_9) rfl (tlt hc9).2.2.2 k) ?_
      show Goes _ _ _ _ (s₁.setTop (mkF m 12 #[.val (.int p1)] []))
      refine Goes.st (fun _ k => XS.iloadN X0.here hx rfl (hb hby d1_12) rfl k) ?_
      show Goes _ _ _ _ (s₁.setTop (mkF m 13 #[.val (.int p1)] [(.int p1)]))
      refine Goes.st (fun _ k => XS.bipush X0.here hx rfl (hb hby d1_13) k) ?_
      show Goes _ _ _ _ (s₁.setTop (mkF m 15 #[.val (.int p1)] [(.int (65 : Int32)), (.int p1)]))
      by_cases hc15 : p1 < (65 : Int32)
      · skip
        refine Goes.st (fun _ k => XS.icmpYes X0.here hx rfl (pc0 := 15) (pc' := 24) rfl (hb hby d1_15) rfl (tlt hc15).1 (by decide) (by decide) k) ?_
        show Goes _ _ _ _ (s₁.setTop (mkF m 24 #[.val (.int p1)] []))
        refine Goes.st (fun _ k => XS.iloadN X0.here hx rfl (hb hby d1_24) rfl k) ?_
        show Goes _ _ _ _ (s₁.setTop (mkF m 25 #[.val (.int p1)] [(.int p1)]))
        refine Goes.st (fun _ k => XS.bipush X0.here hx rfl (hb hby d1_25) k) ?_
        show Goes _ _ _ _ (s₁.setTop (mkF m 27 #[.val (.int p1)] [(.int (97 : Int32)), (.int p1)]))
        by_cases hc27 : p1 < (97 : Int32)
        · skip
          refine Goes.st (fun _ k => XS.icmpYes X0.here hx rfl (pc0 := 27) (pc' := 40) rfl (hb hby d1_27) rfl (tlt hc27).1 (by decide) (by decide) k) ?_
          show Goes _ _ _ _ (s₁.setTop (mkF m 40 #[.val (.int p1)] []))
          refine Goes.st (fun _ k => XS.iconst X0.here hx rfl (hb hby d1_40) k) ?_
          show Goes _ _ _ _ (s₁.setTop (mkF m 41 #[.val (.int p1)] [(.int (0 : Int32))]))
          have hP : ¬ own_A p1.toInt := by
            simp only [← Int32.toInt_inj, Int32.lt_iff_toInt_lt, Int32.reduceToInt] at hc3 hc9 hc15 hc27
            unfold own_A; omega
          exact leafZ X0 hx Bd.notSynchronized Bd.returns (hb hby d1_41) (by decide) (by decide) (by decide) ⟨by rw [own_a_n hP], N0, e0⟩
        · skip
          refine Goes.st (fun _ k => XS.icmpNo X0.here hx rfl (hb hby d1_27) rfl (flt hc27).1 k) ?_
          show Goes _ _ _ _ (s₁.setTop (mkF m 30 #[.val (.int p1)] []))
          refine Goes.st (fun _ k => XS.iloadN X0.here hx rfl (hb hby d1_30) rfl k) ?_
          show Goes _ _ _ _ (s₁.setTop (mkF m 31 #[.val (.int p1)] [(.int p1)]))
          refine Goes.st (fun _ k => XS.bipush X0.here hx rfl (hb hby d1_31) k) ?_
          show Goes _ _ _ _ (s₁.setTop (mkF m 33 #[.val (.int p1)] [(.int (122 : Int32)), (.int p1)]))
          by_cases hc33 : (122 : Int32) < p1
          · skip
            refine Goes.st (fun _ k => XS.icmpYes X0.here hx rfl (pc0 := 33) (pc' := 40) rfl (hb hby d1_33) rfl (tlt hc33).2.2.1 (by decide) (by decide) k) ?_
            show Goes _ _ _ _ (s₁.setTop (mkF m 40 #[.val (.int p1)] []))
            refine Goes.st (fun _ k => XS.iconst X0.here hx rfl (hb hby d1_40) k) ?_
            show Goes _ _ _ _ (s₁.setTop (mkF m 41 #[.val (.int p1)] [(.int (0 : Int32))]))
            have hP : ¬ own_A p1.toInt := by
              simp only [← Int32.toInt_inj, Int32.lt_iff_toInt_lt, Int32.reduceToInt] at hc3 hc9 hc15 hc27 hc33
              unfold own_A; omega
            exact leafZ X0 hx Bd.notSynchronized Bd.returns (hb hby d1_41) (by decide) (by decide) (by decide) ⟨by rw [own_a_n hP], N0, e0⟩
          · skip
            refine Goes.st (fun _ k => XS.icmpNo X0.here hx rfl (hb hby d1_33) rfl (flt hc33).2.2.1 k) ?_
            show Goes _ _ _ _ (s₁.setTop (mkF m 36 #[.val (.int p1)] []))
            refine Goes.st (fun _ k => XS.iconst X0.here hx rfl (hb hby d1_36) k) ?_
            show Goes _ _ _ _ (s₁.setTop (mkF m 37 #[.val (.int p1)] [(.int (1 : Int32))]))
            refine Goes.st (fun _ k => XS.goto X0.here hx rfl (pc0 := 37) (pc' := 41) rfl (hb hby d1_37) (by decide) (by decide) k) ?_
            show Goes _ _ _ _ (s₁.setTop (mkF m 41 #[.val (.int p1)] [(.int (1 : Int32))]))
            have hP : own_A p1.toInt := by
              simp only [← Int32.toInt_inj, Int32.lt_iff_toInt_lt, Int32.reduceToInt] at hc3 hc9 hc15 hc27 hc33
              unfold own_A; omega
            exact leafZ X0 hx Bd.notSynchronized Bd.returns (hb hby d1_41) (by decide) (by decide) (by decide) ⟨by rw [own_a_y hP], N0, e0⟩
      · skip
        refine Goes.st (fun _ k => XS.icmpNo X0.here hx rfl (hb hby d1_15) rfl (flt hc15).1 k) ?_
        show Goes _ _ _ _ (s₁.setTop (mkF m 18 #[.val (.int p1)] []))
        refine Goes.st (fun _ k => XS.iloadN X0.here hx rfl (hb hby d1_18) rfl k) ?_
        show Goes _ _ _ _ (s₁.setTop (mkF m 19 #[.val (.int p1)] [(.int p1)]))
        refine Goes.st (fun _ k => XS.bipush X0.here hx rfl (hb hby d1_19) k) ?_
        show Goes _ _ _ _ (s₁.setTop (mkF m 21 #[.val (.int p1)] [(.int (90 : Int32)), (.int p1)]))
        by_cases hc21 : (90 : Int32) < p1
        · skip
          refine Goes.st (fun _ k => XS.icmpNo X0.here hx rfl (hb hby d1_21) rfl (tlt hc21).2.2.2 k) ?_
          show Goes _ _ _ _ (s₁.setTop (mkF m 24 #[.val (.int p1)] []))
          refine Goes.st (fun _ k => XS.iloadN X0.here hx rfl (hb hby d1_24) rfl k) ?_
          show Goes _ _ _ _ (s₁.setTop (mkF m 25 #[.val (.int p1)] [(.int p1)]))
          refine Goes.st (fun _ k => XS.bipush X0.here hx rfl (hb hby d1_25) k) ?_
          show Goes _ _ _ _ (s₁.setTop (mkF m 27 #[.val (.int p1)] [(.int (97 : Int32)), (.int p1)]))
          by_cases hc27 : p1 < (97 : Int32)
          · skip
            refine Goes.st (fun _ k => XS.icmpYes X0.here hx rfl (pc0 := 27) (pc' := 40) rfl (hb hby d1_27) rfl (tlt hc27).1 (by decide) (by decide) k) ?_
            show Goes _ _ _ _ (s₁.setTop (mkF m 40 #[.val (.int p1)] []))
            refine Goes.st (fun _ k => XS.iconst X0.here hx rfl (hb hby d1_40) k) ?_
            show Goes _ _ _ _ (s₁.setTop (mkF m 41 #[.val (.int p1)] [(.int (0 : Int32))]))
            have hP : ¬ own_A p1.toInt := by
              simp only [← Int32.toInt_inj, Int32.lt_iff_toInt_lt, Int32.reduceToInt] at hc3 hc9 hc15 hc21 hc27
              unfold own_A; omega
            exact leafZ X0 hx Bd.notSynchronized Bd.returns (hb hby d1_41) (by decide) (by decide) (by decide) ⟨by rw [own_a_n hP], N0, e0⟩
          · skip
            refine Goes.st (fun _ k => XS.icmpNo X0.here hx rfl (hb hby d1_27) rfl (flt hc27).1 k) ?_
            show Goes _ _ _ _ (s₁.setTop (mkF m 30 #[.val (.int p1)] []))
            refine Goes.st (fun _ k => XS.iloadN X0.here hx rfl (hb hby d1_30) rfl k) ?_
            show Goes _ _ _ _ (s₁.setTop (mkF m 31 #[.val (.int p1)] [(.int p1)]))
            refine Goes.st (fun _ k => XS.bipush X0.here hx rfl (hb hby d1_31) k) ?_
            show Goes _ _ _ _ (s₁.setTop (mkF m 33 #[.val (.int p1)] [(.int (122 : Int32)), (.int p1)]))
            by_cases hc33 : (122 : Int32) < p1
            · skip
              refine Goes.st (fun _ k => XS.icmpYes X0.here hx rfl (pc0 := 33) (pc' := 40) rfl (hb hby d1_33) rfl (tlt hc33).2.2.1 (by decide) (by decide) k) ?_
              show Goes _ _ _ _ (s₁.setTop (mkF m 40 #[.val (.int p1)] []))
              refine Goes.st (fun _ k => XS.iconst X0.here hx rfl (hb hby d1_40) k) ?_
              show Goes _ _ _ _ (s₁.setTop (mkF m 41 #[.val (.int p1)] [(.int (0 : Int32))]))
              have hP : ¬ own_A p1.toInt := by
                simp only [← Int32.toInt_inj, Int32.lt_iff_toInt_lt, Int32.reduceToInt] at hc3 hc9 hc15 hc21 hc27 hc33
                unfold own_A; omega
              exact leafZ X0 hx Bd.notSynchronized Bd.returns (hb hby d1_41) (by decide) (by decide) (by decide) ⟨by rw [own_a_n hP], N0, e0⟩
            · skip
              refine Goes.st (fun _ k => XS.icmpNo X0.here hx rfl (hb hby d1_33) rfl (flt hc33).2.2.1 k) ?_
              show Goes _ _ _ _ (s₁.setTop (mkF m 36 #[.val (.int p1)] []))
              refine Goes.st (fun _ k => XS.iconst X0.here hx rfl (hb hby d1_36) k) ?_
              show Goes _ _ _ _ (s₁.setTop (mkF m 37 #[.val (.int p1)] [(.int (1 : Int32))]))
              refine Goes.st (fun _ k => XS.goto X0.here hx rfl (pc0 := 37) (pc' := 41) rfl (hb hby d1_37) (by decide) (by decide) k) ?_
              show Goes _ _ _ _ (s₁.setTop (mkF m 41 #[.val (.int p1)] [(.int (1 : Int32))]))
              have hP : own_A p1.toInt := by
                simp only [← Int32.toInt_inj, Int32.lt_iff_toInt_lt, Int32.reduceToInt] at hc3 hc9 hc15 hc21 hc27 hc33
                unfold own_A; omega
              exact leafZ X0 hx Bd.notSynchronized Bd.returns (hb hby d1_41) (by decide) (by decide) (by decide) ⟨by rw [own_a_y hP], N0, e0⟩
        · skip
          refine Goes.st (fun _ k => XS.icmpYes X0.here hx rfl (pc0 := 21) (pc' := 36) rfl (hb hby d1_21) rfl (flt hc21).2.2.2 (by decide) (by decide) k) ?_
          show Goes _ _ _ _ (s₁.setTop (mkF m 36 #[.val (.int p1)] []))
          refine Goes.st (fun _ k => XS.iconst X0.here hx rfl (hb hby d1_36) k) ?_
          show Goes _ _ _ _ (s₁.setTop (mkF m 37 #[.val (.int p1)] [(.int (1 : Int32))]))
          refine Goes.st (fun _ k => XS.goto X0.here hx rfl (pc0 := 37) (pc' := 41) rfl (hb hby d1_37) (by decide) (by decide) k) ?_
          show Goes _ _ _ _ (s₁.setTop (mkF m 41 #[.val (.int p1)] [(.int (1 : Int32))]))
          have hP : own_A p1.toInt := by
            simp only [← Int32.toInt_inj, Int32.lt_iff_toInt_lt, Int32.reduceToInt] at hc3 hc9 hc15 hc21
            unfold own_A; omega
          exact leafZ X0 hx Bd.notSynchronized Bd.returns (hb hby d1_41) (by decide) (by decide) (by decide) ⟨by rw [own_a_y hP], N0, e0⟩
    · skip
      refine Goes.st (fun _ k => XS.icmpYes X0.here hx rfl (pc0 := 9) (pc' := 36) rfl (hb hby d1_9) rfl (flt hc9).2.2.2 (by decide) (by decide) k) ?_
      show Goes _ _ _ _ (s₁.setTop (mkF m 36 #[.val (.int p1)] []))
      refine Goes.st (fun _ k => XS.iconst X0.here hx rfl (hb hby d1_36) k) ?_
      show Goes _ _ _ _ (s₁.setTop (mkF m 37 #[.val (.int p1)] [(.int (1 : Int32))]))
      refine Goes.st (fun _ k => XS.goto X0.here hx rfl (pc0 := 37) (pc' := 41) rfl (hb hby d1_37) (by decide) (by decide) k) ?_
      show Goes _ _ _ _ (s₁.setTop (mkF m 41 #[.val (.int p1)] [(.int (1 : Int32))]))
      have hP : own_A p1.toInt := by
        simp only [← Int32.toInt_inj, Int32.lt_iff_toInt_lt, Int32.reduceToInt] at hc3 hc9
        unfold own_A; omega
      exact leafZ X0 hx Bd.notSynchronized Bd.returns (hb hby d1_41) (by decide) (by decide) (by decide) ⟨by rw [own_a_y hP], N0, e0⟩
theorem ef_0 (m : MethodId) (p1 : Int32) : entryFrame m #[(.int p1)] maxLocals = mkF m 0 #[.val (.int p1), .unset, .unset, .unset, .unset, .unset] [] := by first | (simp [entryFrame, mkF, argsToLocals, Value.category, maxLocals]; done) | rfl
def Q0 (Z : State) (p1 : Int32)  (h0 : Heap) (n0 : Nat) (v : Option Value) (h : Heap) (L : List Loc) : Prop := v = some (.int (1 : Int32)) ∧ Fr n0 L
set_option maxRecDepth 65536 in
set_option maxHeartbeats 40000000 in
theorem rm0 (l : Launch) (Z : State) (a0 : Array Value) (hw : ∀ d ∈ tables_1, d.before a0 Z = true) (ws : List Jvm.Cond) (p1 : Int32)  (h0 : Heap) (n0 : Nat) (Z0 : n0 ≤ h0.size)  :
    MetFree l x (head1 (Jvm.Cond.code x code maxLocals ret :: ws) room_1) (fun a U => a = #[(.int p1)] ∧ Z.Warmed39 U.vm ∧ U.heap = h0) (fun _ _ _ _ _ => True) (fun _ U o U' => ∃ v L, o = .returned v ∧ Q0 Z p1  h0 n0 v U'.heap L ∧ FrameEnd U o U' L room_1.cells room_1.slots) := by
  refine MetFree.of_bodySF pn_0 hisR ?_
  intro p e s m args below meth c s₁ Bd hml0 hP hK
  obtain ⟨rfl, hZ, hh⟩ := hP
  have hx := Bd.exec
  have hby := Bd.bytes
  have hml : c.maxLocals = 6 := hml0
  have hown : s.vm.findClass "com/example/conformer/conformer/ClauseLabelsIsLabelCharacterPinLaw" = some m.cls := findClass_of_methodNamed Bd.named
  have hnm := (name_of_methodNamed Bd.named Bd.method).1
  have X0 : Stand p l e room_1 s m #[(.int p1)] below meth c s₁ [] 0 0 := Stand.of_body Bd
  have e0 : s₁.heap = h0 := by rw [← hh, Bd.state]; rfl
  have N0 := Fr.nil n0
  show Goes p.tables e below (Ends below s (Q0 Z p1  h0 n0) room_1.cells room_1.slots) (s₁.setTop (entryFrame m #[(.int p1)] maxLocals))
  refine Goes.cast (ef_0 m p1) ?_
  refine Goes.st (fun _ k => XS.iloadN X0.here hx rfl (hb hby at_0) rfl k) ?_
  show Goes _ _ _ _ (s₁.setTop (mkF m 1 #[.val (.int p1), .unset, .unset, .unset, .unset, .unset] [(.int p1)]))
  refine Goes.st (X0.ldcInt hx (v := (65535 : Int32)) hown (mv hZ (hw _ (List.mem_of_getElem? (i := 0) rfl))) (g := (mkF m 1 #[.val (.int p1), .unset, .unset, .unset, .unset, .unset] [(.int p1)])) rfl (hb hby at_1)) ?_
  show Goes _ _ _ _ (s₁.setTop (mkF m 3 #[.val (.int p1), .unset, .unset, .unset, .unset, .unset] [(.int (65535 : Int32)), (.int p1)]))
  refine Goes.st (fun _ k => XS.iand X0.here hx rfl (hb hby at_3) rfl k) ?_
  show Goes _ _ _ _ (s₁.setTop (mkF m 4 #[.val (.int p1), .unset, .unset, .unset, .unset, .unset] [(.int (p1 &&& (65535 : Int32)))]))
  refine Goes.st (fun _ k => XS.i2c X0.here hx rfl (hb hby at_4) rfl k) ?_
  show Goes _ _ _ _ (s₁.setTop (mkF m 5 #[.val (.int p1), .unset, .unset, .unset, .unset, .unset] [(.int ((p1 &&& (65535 : Int32))).toUInt32.toUInt16.toUInt32.toInt32)]))
  have hch := c_i2c (p1 &&& (65535 : Int32))
  obtain ⟨ch, h_ch⟩ : ∃ z : Int32, z = ((p1 &&& (65535 : Int32))).toUInt32.toUInt16.toUInt32.toInt32 := ⟨_, rfl⟩
  rw [← h_ch]
  show Goes _ _ _ _ (s₁.setTop (mkF m 5 #[.val (.int p1), .unset, .unset, .unset, .unset, .unset] [(.int ch)]))
  rw [← h_ch] at hch
  have hor := own_or hch.2.1
  have hd1 := c_isub ch 48
  have hd2 := rng32 (ch - 48)
  have hl1 := c_isub (ch ||| 32) 97
  have hl2 := rng32 ((ch ||| 32) - 97)
  refine Goes.st (fun _ k => XS.istoreN X0.here hx rfl (hb hby at_5) rfl (l' := #[.val (.int p1), .val (.int ch), .unset, .unset, .unset, .unset]) rfl k) ?_
  show Goes _ _ _ _ (s₁.setTop (mkF m 6 #[.val (.int p1), .val (.int ch), .unset, .unset, .unset, .unset] []))
  refine Goes.st (fun _ k => XS.iloadN X0.here hx rfl (hb hby at_6) rfl k) ?_
  show Goes _ _ _ _ (s₁.setTop (mkF m 7 #[.val (.int p1), .val (.int ch), .unset, .unset, .unset, .unset] [(.int ch)]))
  refine Goes.st (fun _ k => XS.bipush X0.here hx rfl (hb hby at_7) k) ?_
  show Goes _ _ _ _ (s₁.setTop (mkF m 9 #[.val (.int p1), .val (.int ch), .unset, .unset, .unset, .unset] [(.int (48 : Int32)), (.int ch)]))
  refine Goes.st (fun _ k => XS.isub X0.here hx rfl (hb hby at_9) rfl k) ?_
  show Goes _ _ _ _ (s₁.setTop (mkF m 10 #[.val (.int p1), .val (.int ch), .unset, .unset, .unset, .unset] [(.int (ch - (48 : Int32)))]))
  refine Goes.st (fun _ k => XS.istoreN X0.here hx rfl (hb hby at_10) rfl (l' := #[.val (.int p1), .val (.int ch), .val (.int (ch - (48 : Int32))), .unset, .unset, .unset]) rfl k) ?_
  show Goes _ _ _ _ (s₁.setTop (mkF m 11 #[.val (.int p1), .val (.int ch), .val (.int (ch - (48 : Int32))), .unset, .unset, .unset] []))
  refine Goes.st (fun _ k => XS.iloadN X0.here hx rfl (hb hby at_11) rfl k) ?_
  show Goes _ _ _ _ (s₁.setTop (mkF m 12 #[.val (.int p1), .val (.int ch), .val (.int (ch - (48 : Int32))), .unset, .unset, .unset] [(.int (ch - (48 : Int32)))]))
  by_cases hc12 : (ch - (48 : Int32)) < (0 : Int32)
  · skip
    refine Goes.st (fun _ k => XS.ifYes X0.here hx rfl (pc0 := 12) (pc' := 25) rfl (hb hby at_12) rfl ((if0 _ _).trans (tlt hc12).1) (by decide) (by decide) k) ?_
    show Goes _ _ _ _ (s₁.setTop (mkF m 25 #[.val (.int p1), .val (.int ch), .val (.int (ch - (48 : Int32))), .unset, .unset, .unset] []))
    refine Goes.st (fun _ k => XS.iconst X0.here hx rfl (hb hby at_25) k) ?_
    show Goes _ _ _ _ (s₁.setTop (mkF m 26 #[.val (.int p1), .val (.int ch), .val (.int (ch - (48 : Int32))), .unset, .unset, .unset] [(.int (0 : Int32))]))
    refine Goes.st (fun _ k => XS.istoreN X0.here hx rfl (hb hby at_26) rfl (l' := #[.val (.int p1), .val (.int ch), .val (.int (ch - (48 : Int32))), .val (.int (0 : Int32)), .unset, .unset]) rfl k) ?_
    show Goes _ _ _ _ (s₁.setTop (mkF m 27 #[.val (.int p1), .val (.int ch), .val (.int (ch - (48 : Int32))), .val (.int (0 : Int32)), .unset, .unset] []))
    refine Goes.st (fun _ k => XS.iloadN X0.here hx rfl (hb hby at_27) rfl k) ?_
    show Goes _ _ _ _ (s₁.setTop (mkF m 28 #[.val (.int p1), .val (.int ch), .val (.int (ch - (48 : Int32))), .val (.int (0 : Int32)), .unset, .unset] [(.int ch)]))
    refine Goes.st (fun _ k => XS.bipush X0.here hx rfl (hb hby at_28) k) ?_
    show Goes _ _ _ _ (s₁.setTop (mkF m 30 #[.val (.int p1), .val (.int ch), .val (.int (ch - (48 : Int32))), .val (.int (0 : Int32)), .unset, .unset] [(.int (32 : Int32)), (.int ch)]))
    refine Goes.st (fun _ k => XS.ior X0.here hx rfl (hb hby at_30) rfl k) ?_
    show Goes _ _ _ _ (s₁.setTop (mkF m 31 #[.val (.int p1), .val (.int ch), .val (.int (ch - (48 : Int32))), .val (.int (0 : Int32)), .unset, .unset] [(.int (ch ||| (32 : Int32)))]))
    refine Goes.st (fun _ k => XS.bipush X0.here hx rfl (hb hby at_31) k) ?_
    show Goes _ _ _ _ (s₁.setTop (mkF m 33 #[.val (.int p1), .val (.int ch), .val (.int (ch - (48 : Int32))), .val (.int (0 : Int32)), .unset, .unset] [(.int (97 : Int32)), (.int (ch ||| (32 : Int32)))]))
    refine Goes.st (fun _ k => XS.isub X0.here hx rfl (hb hby at_33) rfl k) ?_
    show Goes _ _ _ _ (s₁.setTop (mkF m 34 #[.val (.int p1), .val (.int ch), .val (.int (ch - (48 : Int32))), .val (.int (0 : Int32)), .unset, .unset] [(.int ((ch ||| (32 : Int32)) - (97 : Int32)))]))
    refine Goes.st (fun _ k => XS.istore X0.here hx rfl (hb hby at_34) rfl (l' := #[.val (.int p1), .val (.int ch), .val (.int (ch - (48 : Int32))), .val (.int (0 : Int32)), .val (.int ((ch ||| (32 : Int32)) - (97 : Int32))), .unset]) rfl k) ?_
    show Goes _ _ _ _ (s₁.setTop (mkF m 36 #[.val (.int p1), .val (.int ch), .val (.int (ch - (48 : Int32))), .val (.int (0 : Int32)), .val (.int ((ch ||| (32 : Int32)) - (97 : Int32))), .unset] []))
    refine Goes.st (fun _ k => XS.iload X0.here hx rfl (hb hby at_36) rfl k) ?_
    show Goes _ _ _ _ (s₁.setTop (mkF m 38 #[.val (.int p1), .val (.int ch), .val (.int (ch - (48 : Int32))), .val (.int (0 : Int32)), .val (.int ((ch ||| (32 : Int32)) - (97 : Int32))), .unset] [(.int ((ch ||| (32 : Int32)) - (97 : Int32)))]))
    by_cases hc38 : ((ch ||| (32 : Int32)) - (97 : Int32)) < (0 : Int32)
    · skip
      refine Goes.st (fun _ k => XS.ifYes X0.here hx rfl (pc0 := 38) (pc' := 52) rfl (hb hby at_38) rfl ((if0 _ _).trans (tlt hc38).1) (by decide) (by decide) k) ?_
      show Goes _ _ _ _ (s₁.setTop (mkF m 52 #[.val (.int p1), .val (.int ch), .val (.int (ch - (48 : Int32))), .val (.int (0 : Int32)), .val (.int ((ch ||| (32 : Int32)) - (97 : Int32))), .unset] []))
      refine Goes.st (fun _ k => XS.iconst X0.here hx rfl (hb hby at_52) k) ?_
      show Goes _ _ _ _ (s₁.setTop (mkF m 53 #[.val (.int p1), .val (.int ch), .val (.int (ch - (48 : Int32))), .val (.int (0 : Int32)), .val (.int ((ch ||| (32 : Int32)) - (97 : Int32))), .unset] [(.int (0 : Int32))]))
      refine Goes.st (fun _ k => XS.istore X0.here hx rfl (hb hby at_53) rfl (l' := #[.val (.int p1), .val (.int ch), .val (.int (ch - (48 : Int32))), .val (.int (0 : Int32)), .val (.int ((ch ||| (32 : Int32)) - (97 : Int32))), .val (.int (0 : Int32))]) rfl k) ?_
      show Goes _ _ _ _ (s₁.setTop (mkF m 55 #[.val (.int p1), .val (.int ch), .val (.int (ch - (48 : Int32))), .val (.int (0 : Int32)), .val (.int ((ch ||| (32 : Int32)) - (97 : Int32))), .val (.int (0 : Int32))] []))
      refine Goes.st (fun _ k => XS.iloadN X0.here hx rfl (hb hby at_55) rfl k) ?_
      show Goes _ _ _ _ (s₁.setTop (mkF m 56 #[.val (.int p1), .val (.int ch), .val (.int (ch - (48 : Int32))), .val (.int (0 : Int32)), .val (.int ((ch ||| (32 : Int32)) - (97 : Int32))), .val (.int (0 : Int32))] [(.int ch)]))
      obtain ⟨_, _, ⟨T1, L1, k1, n1⟩, -, X1, ⟨Lc1, hQ1, l1, y1, z1⟩, st1⟩ := Jvm.LawKit.callS X0 hx (y := (⟨"com/example/conformer/conformer/ClauseLabels", "isLabelCharacter", "(C)Z"⟩ : MethodName)) hown (mvT hZ (hw _ (List.mem_of_getElem? (i := 1) rfl))) (mvT hZ (hw _ (List.mem_of_getElem? (i := 2) rfl))) (mvT hZ (hw _ (List.mem_of_getElem? (i := 3) rfl))) (mvT hZ (hw _ (List.mem_of_getElem? (i := 4) rfl))) (by decide) (backOf (W := 0) (rm1 l Z a0 hw [] ch h0 n0 Z0) hZ (hw _ (List.mem_of_getElem? (i := 4) rfl)) (hw _ (List.mem_of_getElem? (i := 3) rfl)) (by decide) (by decide)) (g := (mkF m 56 #[.val (.int p1), .val (.int ch), .val (.int (ch - (48 : Int32))), .val (.int (0 : Int32)), .val (.int ((ch ||| (32 : Int32)) - (97 : Int32))), .val (.int (0 : Int32))] [(.int ch)])) rfl (by rw [hml]; rfl) (argsL := [(.int ch)]) (rest := []) (lenOf pd_1 rfl) rfl (by show 2 * 0 + _ ≤ _; exact Nat.le_of_eq rfl) (hb hby at_56) (fun _ _ => ⟨rfl, e0, (by decide : 0 + 0 ≤ _), (by decide : 0 + 0 ≤ _)⟩)
      dsimp only [Pt.U, Pt.locs, Pt.cells, Pt.slots] at X1 l1 y1 z1 st1 hQ1
      subst l1 y1 z1
      obtain ⟨rfl, Nq1, eq1⟩ := hQ1
      have N1 := Fr.app N0 Nq1
      refine Goes.st st1 ?_
      show Goes _ _ _ _ (T1.setTop (mkF m 59 #[.val (.int p1), .val (.int ch), .val (.int (ch - (48 : Int32))), .val (.int (0 : Int32)), .val (.int ((ch ||| (32 : Int32)) - (97 : Int32))), .val (.int (0 : Int32))] [(.int (own_a ch))]))
      have hP : ¬ own_A ch.toInt := by
        simp only [← Int32.toInt_inj, Int32.lt_iff_toInt_lt, Int32.reduceToInt] at hc12 hc38 hd1 hl1
        unfold own_A; omega
      refine Goes.st (fun _ k => XS.iloadN X1.here hx rfl (hb hby at_59) rfl k) ?_
      show Goes _ _ _ _ (T1.setTop (mkF m 60 #[.val (.int p1), .val (.int ch), .val (.int (ch - (48 : Int32))), .val (.int (0 : Int32)), .val (.int ((ch ||| (32 : Int32)) - (97 : Int32))), .val (.int (0 : Int32))] [(.int (0 : Int32)), (.int (own_a ch))]))
      refine Goes.st (fun _ k => XS.ifNo X1.here hx rfl (hb hby at_60) rfl (by decide) k) ?_
      show Goes _ _ _ _ (T1.setTop (mkF m 63 #[.val (.int p1), .val (.int ch), .val (.int (ch - (48 : Int32))), .val (.int (0 : Int32)), .val (.int ((ch ||| (32 : Int32)) - (97 : Int32))), .val (.int (0 : Int32))] [(.int (own_a ch))]))
      refine Goes.st (fun _ k => XS.iload X1.here hx rfl (hb hby at_63) rfl k) ?_
      show Goes _ _ _ _ (T1.setTop (mkF m 65 #[.val (.int p1), .val (.int ch), .val (.int (ch - (48 : Int32))), .val (.int (0 : Int32)), .val (.int ((ch ||| (32 : Int32)) - (97 : Int32))), .val (.int (0 : Int32))] [(.int (0 : Int32)), (.int (own_a ch))]))
      refine Goes.st (fun _ k => XS.ifYes X1.here hx rfl (pc0 := 65) (pc' := 72) rfl (hb hby at_65) rfl (by decide) (by decide) (by decide) k) ?_
      show Goes _ _ _ _ (T1.setTop (mkF m 72 #[.val (.int p1), .val (.int ch), .val (.int (ch - (48 : Int32))), .val (.int (0 : Int32)), .val (.int ((ch ||| (32 : Int32)) - (97 : Int32))), .val (.int (0 : Int32))] [(.int (own_a ch))]))
      refine Goes.st (fun _ k => XS.iconst X1.here hx rfl (hb hby at_72) k) ?_
      show Goes _ _ _ _ (T1.setTop (mkF m 73 #[.val (.int p1), .val (.int ch), .val (.int (ch - (48 : Int32))), .val (.int (0 : Int32)), .val (.int ((ch ||| (32 : Int32)) - (97 : Int32))), .val (.int (0 : Int32))] [(.int (0 : Int32)), (.int (own_a ch))]))
      refine Goes.st (fun _ k => XS.icmpNo X1.here hx rfl (hb hby at_73) rfl (teq (own_a_n hP)).2 k) ?_
      show Goes _ _ _ _ (T1.setTop (mkF m 76 #[.val (.int p1), .val (.int ch), .val (.int (ch - (48 : Int32))), .val (.int (0 : Int32)), .val (.int ((ch ||| (32 : Int32)) - (97 : Int32))), .val (.int (0 : Int32))] []))
      refine Goes.st (fun _ k => XS.iconst X1.here hx rfl (hb hby at_76) k) ?_
      show Goes _ _ _ _ (T1.setTop (mkF m 77 #[.val (.int p1), .val (.int ch), .val (.int (ch - (48 : Int32))), .val (.int (0 : Int32)), .val (.int ((ch ||| (32 : Int32)) - (97 : Int32))), .val (.int (0 : Int32))] [(.int (1 : Int32))]))
      refine Goes.st (fun _ k => XS.goto X1.here hx rfl (pc0 := 77) (pc' := 81) rfl (hb hby at_77) (by decide) (by decide) k) ?_
      show Goes _ _ _ _ (T1.setTop (mkF m 81 #[.val (.int p1), .val (.int ch), .val (.int (ch - (48 : Int32))), .val (.int (0 : Int32)), .val (.int ((ch ||| (32 : Int32)) - (97 : Int32))), .val (.int (0 : Int32))] [(.int (1 : Int32))]))
      exact leafZ X1 hx Bd.notSynchronized Bd.returns (hb hby at_81) (by decide) (by decide) (by decide) ⟨rfl, N1⟩
    · skip
      refine Goes.st (fun _ k => XS.ifNo X0.here hx rfl (hb hby at_38) rfl ((if0 _ _).trans (flt hc38).1) k) ?_
      show Goes _ _ _ _ (s₁.setTop (mkF m 41 #[.val (.int p1), .val (.int ch), .val (.int (ch - (48 : Int32))), .val (.int (0 : Int32)), .val (.int ((ch ||| (32 : Int32)) - (97 : Int32))), .unset] []))
      refine Goes.st (fun _ k => XS.iload X0.here hx rfl (hb hby at_41) rfl k) ?_
      show Goes _ _ _ _ (s₁.setTop (mkF m 43 #[.val (.int p1), .val (.int ch), .val (.int (ch - (48 : Int32))), .val (.int (0 : Int32)), .val (.int ((ch ||| (32 : Int32)) - (97 : Int32))), .unset] [(.int ((ch ||| (32 : Int32)) - (97 : Int32)))]))
      refine Goes.st (fun _ k => XS.bipush X0.here hx rfl (hb hby at_43) k) ?_
      show Goes _ _ _ _ (s₁.setTop (mkF m 45 #[.val (.int p1), .val (.int ch), .val (.int (ch - (48 : Int32))), .val (.int (0 : Int32)), .val (.int ((ch ||| (32 : Int32)) - (97 : Int32))), .unset] [(.int (26 : Int32)), (.int ((ch ||| (32 : Int32)) - (97 : Int32)))]))
      by_cases hc45 : ((ch ||| (32 : Int32)) - (97 : Int32)) < (26 : Int32)
      · skip
        refine Goes.st (fun _ k => XS.icmpNo X0.here hx rfl (hb hby at_45) rfl (tlt hc45).2.1 k) ?_
        show Goes _ _ _ _ (s₁.setTop (mkF m 48 #[.val (.int p1), .val (.int ch), .val (.int (ch - (48 : Int32))), .val (.int (0 : Int32)), .val (.int ((ch ||| (32 : Int32)) - (97 : Int32))), .unset] []))
        refine Goes.st (fun _ k => XS.iconst X0.here hx rfl (hb hby at_48) k) ?_
        show Goes _ _ _ _ (s₁.setTop (mkF m 49 #[.val (.int p1), .val (.int ch), .val (.int (ch - (48 : Int32))), .val (.int (0 : Int32)), .val (.int ((ch ||| (32 : Int32)) - (97 : Int32))), .unset] [(.int (1 : Int32))]))
        refine Goes.st (fun _ k => XS.goto X0.here hx rfl (pc0 := 49) (pc' := 53) rfl (hb hby at_49) (by decide) (by decide) k) ?_
        show Goes _ _ _ _ (s₁.setTop (mkF m 53 #[.val (.int p1), .val (.int ch), .val (.int (ch - (48 : Int32))), .val (.int (0 : Int32)), .val (.int ((ch ||| (32 : Int32)) - (97 : Int32))), .unset] [(.int (1 : Int32))]))
        refine Goes.st (fun _ k => XS.istore X0.here hx rfl (hb hby at_53) rfl (l' := #[.val (.int p1), .val (.int ch), .val (.int (ch - (48 : Int32))), .val (.int (0 : Int32)), .val (.int ((ch ||| (32 : Int32)) - (97 : Int32))), .val (.int (1 : Int32))]) rfl k) ?_
        show Goes _ _ _ _ (s₁.setTop (mkF m 55 #[.val (.int p1), .val (.int ch), .val (.int (ch - (48 : Int32))), .val (.int (0 : Int32)), .val (.int ((ch ||| (32 : Int32)) - (97 : Int32))), .val (.int (1 : Int32))] []))
        refine Goes.st (fun _ k => XS.iloadN X0.here hx rfl (hb hby at_55) rfl k) ?_
        show Goes _ _ _ _ (s₁.setTop (mkF m 56 #[.val (.int p1), .val (.int ch), .val (.int (ch - (48 : Int32))), .val (.int (0 : Int32)), .val (.int ((ch ||| (32 : Int32)) - (97 : Int32))), .val (.int (1 : Int32))] [(.int ch)]))
        obtain ⟨_, _, ⟨T2, L2, k2, n2⟩, -, X2, ⟨Lc2, hQ2, l2, y2, z2⟩, st2⟩ := Jvm.LawKit.callS X0 hx (y := (⟨"com/example/conformer/conformer/ClauseLabels", "isLabelCharacter", "(C)Z"⟩ : MethodName)) hown (mvT hZ (hw _ (List.mem_of_getElem? (i := 1) rfl))) (mvT hZ (hw _ (List.mem_of_getElem? (i := 2) rfl))) (mvT hZ (hw _ (List.mem_of_getElem? (i := 3) rfl))) (mvT hZ (hw _ (List.mem_of_getElem? (i := 4) rfl))) (by decide) (backOf (W := 0) (rm1 l Z a0 hw [] ch h0 n0 Z0) hZ (hw _ (List.mem_of_getElem? (i := 4) rfl)) (hw _ (List.mem_of_getElem? (i := 3) rfl)) (by decide) (by decide)) (g := (mkF m 56 #[.val (.int p1), .val (.int ch), .val (.int (ch - (48 : Int32))), .val (.int (0 : Int32)), .val (.int ((ch ||| (32 : Int32)) - (97 : Int32))), .val (.int (1 : Int32))] [(.int ch)])) rfl (by rw [hml]; rfl) (argsL := [(.int ch)]) (rest := []) (lenOf pd_1 rfl) rfl (by show 2 * 0 + _ ≤ _; exact Nat.le_of_eq rfl) (hb hby at_56) (fun _ _ => ⟨rfl, e0, (by decide : 0 + 0 ≤ _), (by decide : 0 + 0 ≤ _)⟩)
        dsimp only [Pt.U, Pt.locs, Pt.cells, Pt.slots] at X2 l2 y2 z2 st2 hQ2
        subst l2 y2 z2
        obtain ⟨rfl, Nq2, eq2⟩ := hQ2
        have N2 := Fr.app N0 Nq2
        refine Goes.st st2 ?_
        show Goes _ _ _ _ (T2.setTop (mkF m 59 #[.val (.int p1), .val (.int ch), .val (.int (ch - (48 : Int32))), .val (.int (0 : Int32)), .val (.int ((ch ||| (32 : Int32)) - (97 : Int32))), .val (.int (1 : Int32))] [(.int (own_a ch))]))
        have hP : own_A ch.toInt := by
          simp only [← Int32.toInt_inj, Int32.lt_iff_toInt_lt, Int32.reduceToInt] at hc12 hc38 hc45 hd1 hl1
          unfold own_A; omega
        refine Goes.st (fun _ k => XS.iloadN X2.here hx rfl (hb hby at_59) rfl k) ?_
        show Goes _ _ _ _ (T2.setTop (mkF m 60 #[.val (.int p1), .val (.int ch), .val (.int (ch - (48 : Int32))), .val (.int (0 : Int32)), .val (.int ((ch ||| (32 : Int32)) - (97 : Int32))), .val (.int (1 : Int32))] [(.int (0 : Int32)), (.int (own_a ch))]))
        refine Goes.st (fun _ k => XS.ifNo X2.here hx rfl (hb hby at_60) rfl (by decide) k) ?_
        show Goes _ _ _ _ (T2.setTop (mkF m 63 #[.val (.int p1), .val (.int ch), .val (.int (ch - (48 : Int32))), .val (.int (0 : Int32)), .val (.int ((ch ||| (32 : Int32)) - (97 : Int32))), .val (.int (1 : Int32))] [(.int (own_a ch))]))
        refine Goes.st (fun _ k => XS.iload X2.here hx rfl (hb hby at_63) rfl k) ?_
        show Goes _ _ _ _ (T2.setTop (mkF m 65 #[.val (.int p1), .val (.int ch), .val (.int (ch - (48 : Int32))), .val (.int (0 : Int32)), .val (.int ((ch ||| (32 : Int32)) - (97 : Int32))), .val (.int (1 : Int32))] [(.int (1 : Int32)), (.int (own_a ch))]))
        refine Goes.st (fun _ k => XS.ifNo X2.here hx rfl (hb hby at_65) rfl (by decide) k) ?_
        show Goes _ _ _ _ (T2.setTop (mkF m 68 #[.val (.int p1), .val (.int ch), .val (.int (ch - (48 : Int32))), .val (.int (0 : Int32)), .val (.int ((ch ||| (32 : Int32)) - (97 : Int32))), .val (.int (1 : Int32))] [(.int (own_a ch))]))
        refine Goes.st (fun _ k => XS.iconst X2.here hx rfl (hb hby at_68) k) ?_
        show Goes _ _ _ _ (T2.setTop (mkF m 69 #[.val (.int p1), .val (.int ch), .val (.int (ch - (48 : Int32))), .val (.int (0 : Int32)), .val (.int ((ch ||| (32 : Int32)) - (97 : Int32))), .val (.int (1 : Int32))] [(.int (1 : Int32)), (.int (own_a ch))]))
        refine Goes.st (fun _ k => XS.goto X2.here hx rfl (pc0 := 69) (pc' := 73) rfl (hb hby at_69) (by decide) (by decide) k) ?_
        show Goes _ _ _ _ (T2.setTop (mkF m 73 #[.val (.int p1), .val (.int ch), .val (.int (ch - (48 : Int32))), .val (.int (0 : Int32)), .val (.int ((ch ||| (32 : Int32)) - (97 : Int32))), .val (.int (1 : Int32))] [(.int (1 : Int32)), (.int (own_a ch))]))
        refine Goes.st (fun _ k => XS.icmpNo X2.here hx rfl (hb hby at_73) rfl (teq (own_a_y hP)).2 k) ?_
        show Goes _ _ _ _ (T2.setTop (mkF m 76 #[.val (.int p1), .val (.int ch), .val (.int (ch - (48 : Int32))), .val (.int (0 : Int32)), .val (.int ((ch ||| (32 : Int32)) - (97 : Int32))), .val (.int (1 : Int32))] []))
        refine Goes.st (fun _ k => XS.iconst X2.here hx rfl (hb hby at_76) k) ?_
        show Goes _ _ _ _ (T2.setTop (mkF m 77 #[.val (.int p1), .val (.int ch), .val (.int (ch - (48 : Int32))), .val (.int (0 : Int32)), .val (.int ((ch ||| (32 : Int32)) - (97 : Int32))), .val (.int (1 : Int32))] [(.int (1 : Int32))]))
        refine Goes.st (fun _ k => XS.goto X2.here hx rfl (pc0 := 77) (pc' := 81) rfl (hb hby at_77) (by decide) (by decide) k) ?_
        show Goes _ _ _ _ (T2.setTop (mkF m 81 #[.val (.int p1), .val (.int ch), .val (.int (ch - (48 : Int32))), .val (.int (0 : Int32)), .val (.int ((ch ||| (32 : Int32)) - (97 : Int32))), .val (.int (1 : Int32))] [(.int (1 : Int32))]))
        exact leafZ X2 hx Bd.notSynchronized Bd.returns (hb hby at_81) (by decide) (by decide) (by decide) ⟨rfl, N2⟩
      · skip
        refine Goes.st (fun _ k => XS.icmpYes X0.here hx rfl (pc0 := 45) (pc' := 52) rfl (hb hby at_45) rfl (flt hc45).2.1 (by decide) (by decide) k) ?_
        show Goes _ _ _ _ (s₁.setTop (mkF m 52 #[.val (.int p1), .val (.int ch), .val (.int (ch - (48 : Int32))), .val (.int (0 : Int32)), .val (.int ((ch ||| (32 : Int32)) - (97 : Int32))), .unset] []))
        refine Goes.st (fun _ k => XS.iconst X0.here hx rfl (hb hby at_52) k) ?_
        show Goes _ _ _ _ (s₁.setTop (mkF m 53 #[.val (.int p1), .val (.int ch), .val (.int (ch - (48 : Int32))), .val (.int (0 : Int32)), .val (.int ((ch ||| (32 : Int32)) - (97 : Int32))), .unset] [(.int (0 : Int32))]))
        refine Goes.st (fun _ k => XS.istore X0.here hx rfl (hb hby at_53) rfl (l' := #[.val (.int p1), .val (.int ch), .val (.int (ch - (48 : Int32))), .val (.int (0 : Int32)), .val (.int ((ch ||| (32 : Int32)) - (97 : Int32))), .val (.int (0 : Int32))]) rfl k) ?_
        show Goes _ _ _ _ (s₁.setTop (mkF m 55 #[.val (.int p1), .val (.int ch), .val (.int (ch - (48 : Int32))), .val (.int (0 : Int32)), .val (.int ((ch ||| (32 : Int32)) - (97 : Int32))), .val (.int (0 : Int32))] []))
        refine Goes.st (fun _ k => XS.iloadN X0.here hx rfl (hb hby at_55) rfl k) ?_
        show Goes _ _ _ _ (s₁.setTop (mkF m 56 #[.val (.int p1), .val (.int ch), .val (.int (ch - (48 : Int32))), .val (.int (0 : Int32)), .val (.int ((ch ||| (32 : Int32)) - (97 : Int32))), .val (.int (0 : Int32))] [(.int ch)]))
        obtain ⟨_, _, ⟨T3, L3, k3, n3⟩, -, X3, ⟨Lc3, hQ3, l3, y3, z3⟩, st3⟩ := Jvm.LawKit.callS X0 hx (y := (⟨"com/example/conformer/conformer/ClauseLabels", "isLabelCharacter", "(C)Z"⟩ : MethodName)) hown (mvT hZ (hw _ (List.mem_of_getElem? (i := 1) rfl))) (mvT hZ (hw _ (List.mem_of_getElem? (i := 2) rfl))) (mvT hZ (hw _ (List.mem_of_getElem? (i := 3) rfl))) (mvT hZ (hw _ (List.mem_of_getElem? (i := 4) rfl))) (by decide) (backOf (W := 0) (rm1 l Z a0 hw [] ch h0 n0 Z0) hZ (hw _ (List.mem_of_getElem? (i := 4) rfl)) (hw _ (List.mem_of_getElem? (i := 3) rfl)) (by decide) (by decide)) (g := (mkF m 56 #[.val (.int p1), .val (.int ch), .val (.int (ch - (48 : Int32))), .val (.int (0 : Int32)), .val (.int ((ch ||| (32 : Int32)) - (97 : Int32))), .val (.int (0 : Int32))] [(.int ch)])) rfl (by rw [hml]; rfl) (argsL := [(.int ch)]) (rest := []) (lenOf pd_1 rfl) rfl (by show 2 * 0 + _ ≤ _; exact Nat.le_of_eq rfl) (hb hby at_56) (fun _ _ => ⟨rfl, e0, (by decide : 0 + 0 ≤ _), (by decide : 0 + 0 ≤ _)⟩)
        dsimp only [Pt.U, Pt.locs, Pt.cells, Pt.slots] at X3 l3 y3 z3 st3 hQ3
        subst l3 y3 z3
        obtain ⟨rfl, Nq3, eq3⟩ := hQ3
        have N3 := Fr.app N0 Nq3
        refine Goes.st st3 ?_
        show Goes _ _ _ _ (T3.setTop (mkF m 59 #[.val (.int p1), .val (.int ch), .val (.int (ch - (48 : Int32))), .val (.int (0 : Int32)), .val (.int ((ch ||| (32 : Int32)) - (97 : Int32))), .val (.int (0 : Int32))] [(.int (own_a ch))]))
        have hP : ¬ own_A ch.toInt := by
          simp only [← Int32.toInt_inj, Int32.lt_iff_toInt_lt, Int32.reduceToInt] at hc12 hc38 hc45 hd1 hl1
          unfold own_A; omega
        refine Goes.st (fun _ k => XS.iloadN X3.here hx rfl (hb hby at_59) rfl k) ?_
        show Goes _ _ _ _ (T3.setTop (mkF m 60 #[.val (.int p1), .val (.int ch), .val (.int (ch - (48 : Int32))), .val (.int (0 : Int32)), .val (.int ((ch ||| (32 : Int32)) - (97 : Int32))), .val (.int (0 : Int32))] [(.int (0 : Int32)), (.int (own_a ch))]))
        refine Goes.st (fun _ k => XS.ifNo X3.here hx rfl (hb hby at_60) rfl (by decide) k) ?_
        show Goes _ _ _ _ (T3.setTop (mkF m 63 #[.val (.int p1), .val (.int ch), .val (.int (ch - (48 : Int32))), .val (.int (0 : Int32)), .val (.int ((ch ||| (32 : Int32)) - (97 : Int32))), .val (.int (0 : Int32))] [(.int (own_a ch))]))
        refine Goes.st (fun _ k => XS.iload X3.here hx rfl (hb hby at_63) rfl k) ?_
        show Goes _ _ _ _ (T3.setTop (mkF m 65 #[.val (.int p1), .val (.int ch), .val (.int (ch - (48 : Int32))), .val (.int (0 : Int32)), .val (.int ((ch ||| (32 : Int32)) - (97 : Int32))), .val (.int (0 : Int32))] [(.int (0 : Int32)), (.int (own_a ch))]))
        refine Goes.st (fun _ k => XS.ifYes X3.here hx rfl (pc0 := 65) (pc' := 72) rfl (hb hby at_65) rfl (by decide) (by decide) (by decide) k) ?_
        show Goes _ _ _ _ (T3.setTop (mkF m 72 #[.val (.int p1), .val (.int ch), .val (.int (ch - (48 : Int32))), .val (.int (0 : Int32)), .val (.int ((ch ||| (32 : Int32)) - (97 : Int32))), .val (.int (0 : Int32))] [(.int (own_a ch))]))
        refine Goes.st (fun _ k => XS.iconst X3.here hx rfl (hb hby at_72) k) ?_
        show Goes _ _ _ _ (T3.setTop (mkF m 73 #[.val (.int p1), .val (.int ch), .val (.int (ch - (48 : Int32))), .val (.int (0 : Int32)), .val (.int ((ch ||| (32 : Int32)) - (97 : Int32))), .val (.int (0 : Int32))] [(.int (0 : Int32)), (.int (own_a ch))]))
        refine Goes.st (fun _ k => XS.icmpNo X3.here hx rfl (hb hby at_73) rfl (teq (own_a_n hP)).2 k) ?_
        show Goes _ _ _ _ (T3.setTop (mkF m 76 #[.val (.int p1), .val (.int ch), .val (.int (ch - (48 : Int32))), .val (.int (0 : Int32)), .val (.int ((ch ||| (32 : Int32)) - (97 : Int32))), .val (.int (0 : Int32))] []))
        refine Goes.st (fun _ k => XS.iconst X3.here hx rfl (hb hby at_76) k) ?_
        show Goes _ _ _ _ (T3.setTop (mkF m 77 #[.val (.int p1), .val (.int ch), .val (.int (ch - (48 : Int32))), .val (.int (0 : Int32)), .val (.int ((ch ||| (32 : Int32)) - (97 : Int32))), .val (.int (0 : Int32))] [(.int (1 : Int32))]))
        refine Goes.st (fun _ k => XS.goto X3.here hx rfl (pc0 := 77) (pc' := 81) rfl (hb hby at_77) (by decide) (by decide) k) ?_
        show Goes _ _ _ _ (T3.setTop (mkF m 81 #[.val (.int p1), .val (.int ch), .val (.int (ch - (48 : Int32))), .val (.int (0 : Int32)), .val (.int ((ch ||| (32 : Int32)) - (97 : Int32))), .val (.int (0 : Int32))] [(.int (1 : Int32))]))
        exact leafZ X3 hx Bd.notSynchronized Bd.returns (hb hby at_81) (by decide) (by decide) (by decide) ⟨rfl, N3⟩
  · skip
    refine Goes.st (fun _ k => XS.ifNo X0.here hx rfl (hb hby at_12) rfl ((if0 _ _).trans (flt hc12).1) k) ?_
    show Goes _ _ _ _ (s₁.setTop (mkF m 15 #[.val (.int p1), .val (.int ch), .val (.int (ch - (48 : Int32))), .unset, .unset, .unset] []))
    refine Goes.st (fun _ k => XS.iloadN X0.here hx rfl (hb hby at_15) rfl k) ?_
    show Goes _ _ _ _ (s₁.setTop (mkF m 16 #[.val (.int p1), .val (.int ch), .val (.int (ch - (48 : Int32))), .unset, .unset, .unset] [(.int (ch - (48 : Int32)))]))
    refine Goes.st (fun _ k => XS.bipush X0.here hx rfl (hb hby at_16) k) ?_
    show Goes _ _ _ _ (s₁.setTop (mkF m 18 #[.val (.int p1), .val (.int ch), .val (.int (ch - (48 : Int32))), .unset, .unset, .unset] [(.int (10 : Int32)), (.int (ch - (48 : Int32)))]))
    by_cases hc18 : (ch - (48 : Int32)) < (10 : Int32)
    · skip
      refine Goes.st (fun _ k => XS.icmpNo X0.here hx rfl (hb hby at_18) rfl (tlt hc18).2.1 k) ?_
      show Goes _ _ _ _ (s₁.setTop (mkF m 21 #[.val (.int p1), .val (.int ch), .val (.int (ch - (48 : Int32))), .unset, .unset, .unset] []))
      refine Goes.st (fun _ k => XS.iconst X0.here hx rfl (hb hby at_21) k) ?_
      show Goes _ _ _ _ (s₁.setTop (mkF m 22 #[.val (.int p1), .val (.int ch), .val (.int (ch - (48 : Int32))), .unset, .unset, .unset] [(.int (1 : Int32))]))
      refine Goes.st (fun _ k => XS.goto X0.here hx rfl (pc0 := 22) (pc' := 26) rfl (hb hby at_22) (by decide) (by decide) k) ?_
      show Goes _ _ _ _ (s₁.setTop (mkF m 26 #[.val (.int p1), .val (.int ch), .val (.int (ch - (48 : Int32))), .unset, .unset, .unset] [(.int (1 : Int32))]))
      refine Goes.st (fun _ k => XS.istoreN X0.here hx rfl (hb hby at_26) rfl (l' := #[.val (.int p1), .val (.int ch), .val (.int (ch - (48 : Int32))), .val (.int (1 : Int32)), .unset, .unset]) rfl k) ?_
      show Goes _ _ _ _ (s₁.setTop (mkF m 27 #[.val (.int p1), .val (.int ch), .val (.int (ch - (48 : Int32))), .val (.int (1 : Int32)), .unset, .unset] []))
      refine Goes.st (fun _ k => XS.iloadN X0.here hx rfl (hb hby at_27) rfl k) ?_
      show Goes _ _ _ _ (s₁.setTop (mkF m 28 #[.val (.int p1), .val (.int ch), .val (.int (ch - (48 : Int32))), .val (.int (1 : Int32)), .unset, .unset] [(.int ch)]))
      refine Goes.st (fun _ k => XS.bipush X0.here hx rfl (hb hby at_28) k) ?_
      show Goes _ _ _ _ (s₁.setTop (mkF m 30 #[.val (.int p1), .val (.int ch), .val (.int (ch - (48 : Int32))), .val (.int (1 : Int32)), .unset, .unset] [(.int (32 : Int32)), (.int ch)]))
      refine Goes.st (fun _ k => XS.ior X0.here hx rfl (hb hby at_30) rfl k) ?_
      show Goes _ _ _ _ (s₁.setTop (mkF m 31 #[.val (.int p1), .val (.int ch), .val (.int (ch - (48 : Int32))), .val (.int (1 : Int32)), .unset, .unset] [(.int (ch ||| (32 : Int32)))]))
      refine Goes.st (fun _ k => XS.bipush X0.here hx rfl (hb hby at_31) k) ?_
      show Goes _ _ _ _ (s₁.setTop (mkF m 33 #[.val (.int p1), .val (.int ch), .val (.int (ch - (48 : Int32))), .val (.int (1 : Int32)), .unset, .unset] [(.int (97 : Int32)), (.int (ch ||| (32 : Int32)))]))
      refine Goes.st (fun _ k => XS.isub X0.here hx rfl (hb hby at_33) rfl k) ?_
      show Goes _ _ _ _ (s₁.setTop (mkF m 34 #[.val (.int p1), .val (.int ch), .val (.int (ch - (48 : Int32))), .val (.int (1 : Int32)), .unset, .unset] [(.int ((ch ||| (32 : Int32)) - (97 : Int32)))]))
      refine Goes.st (fun _ k => XS.istore X0.here hx rfl (hb hby at_34) rfl (l' := #[.val (.int p1), .val (.int ch), .val (.int (ch - (48 : Int32))), .val (.int (1 : Int32)), .val (.int ((ch ||| (32 : Int32)) - (97 : Int32))), .unset]) rfl k) ?_
      show Goes _ _ _ _ (s₁.setTop (mkF m 36 #[.val (.int p1), .val (.int ch), .val (.int (ch - (48 : Int32))), .val (.int (1 : Int32)), .val (.int ((ch ||| (32 : Int32)) - (97 : Int32))), .unset] []))
      refine Goes.st (fun _ k => XS.iload X0.here hx rfl (hb hby at_36) rfl k) ?_
      show Goes _ _ _ _ (s₁.setTop (mkF m 38 #[.val (.int p1), .val (.int ch), .val (.int (ch - (48 : Int32))), .val (.int (1 : Int32)), .val (.int ((ch ||| (32 : Int32)) - (97 : Int32))), .unset] [(.int ((ch ||| (32 : Int32)) - (97 : Int32)))]))
      by_cases hc38 : ((ch ||| (32 : Int32)) - (97 : Int32)) < (0 : Int32)
      · skip
        refine Goes.st (fun _ k => XS.ifYes X0.here hx rfl (pc0 := 38) (pc' := 52) rfl (hb hby at_38) rfl ((if0 _ _).trans (tlt hc38).1) (by decide) (by decide) k) ?_
        show Goes _ _ _ _ (s₁.setTop (mkF m 52 #[.val (.int p1), .val (.int ch), .val (.int (ch - (48 : Int32))), .val (.int (1 : Int32)), .val (.int ((ch ||| (32 : Int32)) - (97 : Int32))), .unset] []))
        refine Goes.st (fun _ k => XS.iconst X0.here hx rfl (hb hby at_52) k) ?_
        show Goes _ _ _ _ (s₁.setTop (mkF m 53 #[.val (.int p1), .val (.int ch), .val (.int (ch - (48 : Int32))), .val (.int (1 : Int32)), .val (.int ((ch ||| (32 : Int32)) - (97 : Int32))), .unset] [(.int (0 : Int32))]))
        refine Goes.st (fun _ k => XS.istore X0.here hx rfl (hb hby at_53) rfl (l' := #[.val (.int p1), .val (.int ch), .val (.int (ch - (48 : Int32))), .val (.int (1 : Int32)), .val (.int ((ch ||| (32 : Int32)) - (97 : Int32))), .val (.int (0 : Int32))]) rfl k) ?_
        show Goes _ _ _ _ (s₁.setTop (mkF m 55 #[.val (.int p1), .val (.int ch), .val (.int (ch - (48 : Int32))), .val (.int (1 : Int32)), .val (.int ((ch ||| (32 : Int32)) - (97 : Int32))), .val (.int (0 : Int32))] []))
        refine Goes.st (fun _ k => XS.iloadN X0.here hx rfl (hb hby at_55) rfl k) ?_
        show Goes _ _ _ _ (s₁.setTop (mkF m 56 #[.val (.int p1), .val (.int ch), .val (.int (ch - (48 : Int32))), .val (.int (1 : Int32)), .val (.int ((ch ||| (32 : Int32)) - (97 : Int32))), .val (.int (0 : Int32))] [(.int ch)]))
        obtain ⟨_, _, ⟨T4, L4, k4, n4⟩, -, X4, ⟨Lc4, hQ4, l4, y4, z4⟩, st4⟩ := Jvm.LawKit.callS X0 hx (y := (⟨"com/example/conformer/conformer/ClauseLabels", "isLabelCharacter", "(C)Z"⟩ : MethodName)) hown (mvT hZ (hw _ (List.mem_of_getElem? (i := 1) rfl))) (mvT hZ (hw _ (List.mem_of_getElem? (i := 2) rfl))) (mvT hZ (hw _ (List.mem_of_getElem? (i := 3) rfl))) (mvT hZ (hw _ (List.mem_of_getElem? (i := 4) rfl))) (by decide) (backOf (W := 0) (rm1 l Z a0 hw [] ch h0 n0 Z0) hZ (hw _ (List.mem_of_getElem? (i := 4) rfl)) (hw _ (List.mem_of_getElem? (i := 3) rfl)) (by decide) (by decide)) (g := (mkF m 56 #[.val (.int p1), .val (.int ch), .val (.int (ch - (48 : Int32))), .val (.int (1 : Int32)), .val (.int ((ch ||| (32 : Int32)) - (97 : Int32))), .val (.int (0 : Int32))] [(.int ch)])) rfl (by rw [hml]; rfl) (argsL := [(.int ch)]) (rest := []) (lenOf pd_1 rfl) rfl (by show 2 * 0 + _ ≤ _; exact Nat.le_of_eq rfl) (hb hby at_56) (fun _ _ => ⟨rfl, e0, (by decide : 0 + 0 ≤ _), (by decide : 0 + 0 ≤ _)⟩)
        dsimp only [Pt.U, Pt.locs, Pt.cells, Pt.slots] at X4 l4 y4 z4 st4 hQ4
        subst l4 y4 z4
        obtain ⟨rfl, Nq4, eq4⟩ := hQ4
        have N4 := Fr.app N0 Nq4
        refine Goes.st st4 ?_
        show Goes _ _ _ _ (T4.setTop (mkF m 59 #[.val (.int p1), .val (.int ch), .val (.int (ch - (48 : Int32))), .val (.int (1 : Int32)), .val (.int ((ch ||| (32 : Int32)) - (97 : Int32))), .val (.int (0 : Int32))] [(.int (own_a ch))]))
        have hP : own_A ch.toInt := by
          simp only [← Int32.toInt_inj, Int32.lt_iff_toInt_lt, Int32.reduceToInt] at hc12 hc18 hc38 hd1 hl1
          unfold own_A; omega
        refine Goes.st (fun _ k => XS.iloadN X4.here hx rfl (hb hby at_59) rfl k) ?_
        show Goes _ _ _ _ (T4.setTop (mkF m 60 #[.val (.int p1), .val (.int ch), .val (.int (ch - (48 : Int32))), .val (.int (1 : Int32)), .val (.int ((ch ||| (32 : Int32)) - (97 : Int32))), .val (.int (0 : Int32))] [(.int (1 : Int32)), (.int (own_a ch))]))
        refine Goes.st (fun _ k => XS.ifYes X4.here hx rfl (pc0 := 60) (pc' := 68) rfl (hb hby at_60) rfl (by decide) (by decide) (by decide) k) ?_
        show Goes _ _ _ _ (T4.setTop (mkF m 68 #[.val (.int p1), .val (.int ch), .val (.int (ch - (48 : Int32))), .val (.int (1 : Int32)), .val (.int ((ch ||| (32 : Int32)) - (97 : Int32))), .val (.int (0 : Int32))] [(.int (own_a ch))]))
        refine Goes.st (fun _ k => XS.iconst X4.here hx rfl (hb hby at_68) k) ?_
        show Goes _ _ _ _ (T4.setTop (mkF m 69 #[.val (.int p1), .val (.int ch), .val (.int (ch - (48 : Int32))), .val (.int (1 : Int32)), .val (.int ((ch ||| (32 : Int32)) - (97 : Int32))), .val (.int (0 : Int32))] [(.int (1 : Int32)), (.int (own_a ch))]))
        refine Goes.st (fun _ k => XS.goto X4.here hx rfl (pc0 := 69) (pc' := 73) rfl (hb hby at_69) (by decide) (by decide) k) ?_
        show Goes _ _ _ _ (T4.setTop (mkF m 73 #[.val (.int p1), .val (.int ch), .val (.int (ch - (48 : Int32))), .val (.int (1 : Int32)), .val (.int ((ch ||| (32 : Int32)) - (97 : Int32))), .val (.int (0 : Int32))] [(.int (1 : Int32)), (.int (own_a ch))]))
        refine Goes.st (fun _ k => XS.icmpNo X4.here hx rfl (hb hby at_73) rfl (teq (own_a_y hP)).2 k) ?_
        show Goes _ _ _ _ (T4.setTop (mkF m 76 #[.val (.int p1), .val (.int ch), .val (.int (ch - (48 : Int32))), .val (.int (1 : Int32)), .val (.int ((ch ||| (32 : Int32)) - (97 : Int32))), .val (.int (0 : Int32))] []))
        refine Goes.st (fun _ k => XS.iconst X4.here hx rfl (hb hby at_76) k) ?_
        show Goes _ _ _ _ (T4.setTop (mkF m 77 #[.val (.int p1), .val (.int ch), .val (.int (ch - (48 : Int32))), .val (.int (1 : Int32)), .val (.int ((ch ||| (32 : Int32)) - (97 : Int32))), .val (.int (0 : Int32))] [(.int (1 : Int32))]))
        refine Goes.st (fun _ k => XS.goto X4.here hx rfl (pc0 := 77) (pc' := 81) rfl (hb hby at_77) (by decide) (by decide) k) ?_
        show Goes _ _ _ _ (T4.setTop (mkF m 81 #[.val (.int p1), .val (.int ch), .val (.int (ch - (48 : Int32))), .val (.int (1 : Int32)), .val (.int ((ch ||| (32 : Int32)) - (97 : Int32))), .val (.int (0 : Int32))] [(.int (1 : Int32))]))
        exact leafZ X4 hx Bd.notSynchronized Bd.returns (hb hby at_81) (by decide) (by decide) (by decide) ⟨rfl, N4⟩
      · skip
        refine Goes.st (fun _ k => XS.ifNo X0.here hx rfl (hb hby at_38) rfl ((if0 _ _).trans (flt hc38).1) k) ?_
        show Goes _ _ _ _ (s₁.setTop (mkF m 41 #[.val (.int p1), .val (.int ch), .val (.int (ch - (48 : Int32))), .val (.int (1 : Int32)), .val (.int ((ch ||| (32 : Int32)) - (97 : Int32))), .unset] []))
        refine Goes.st (fun _ k => XS.iload X0.here hx rfl (hb hby at_41) rfl k) ?_
        show Goes _ _ _ _ (s₁.setTop (mkF m 43 #[.val (.int p1), .val (.int ch), .val (.int (ch - (48 : Int32))), .val (.int (1 : Int32)), .val (.int ((ch ||| (32 : Int32)) - (97 : Int32))), .unset] [(.int ((ch ||| (32 : Int32)) - (97 : Int32)))]))
        refine Goes.st (fun _ k => XS.bipush X0.here hx rfl (hb hby at_43) k) ?_
        show Goes _ _ _ _ (s₁.setTop (mkF m 45 #[.val (.int p1), .val (.int ch), .val (.int (ch - (48 : Int32))), .val (.int (1 : Int32)), .val (.int ((ch ||| (32 : Int32)) - (97 : Int32))), .unset] [(.int (26 : Int32)), (.int ((ch ||| (32 : Int32)) - (97 : Int32)))]))
        by_cases hc45 : ((ch ||| (32 : Int32)) - (97 : Int32)) < (26 : Int32)
        · skip
          refine Goes.st (fun _ k => XS.icmpNo X0.here hx rfl (hb hby at_45) rfl (tlt hc45).2.1 k) ?_
          show Goes _ _ _ _ (s₁.setTop (mkF m 48 #[.val (.int p1), .val (.int ch), .val (.int (ch - (48 : Int32))), .val (.int (1 : Int32)), .val (.int ((ch ||| (32 : Int32)) - (97 : Int32))), .unset] []))
          refine Goes.st (fun _ k => XS.iconst X0.here hx rfl (hb hby at_48) k) ?_
          show Goes _ _ _ _ (s₁.setTop (mkF m 49 #[.val (.int p1), .val (.int ch), .val (.int (ch - (48 : Int32))), .val (.int (1 : Int32)), .val (.int ((ch ||| (32 : Int32)) - (97 : Int32))), .unset] [(.int (1 : Int32))]))
          refine Goes.st (fun _ k => XS.goto X0.here hx rfl (pc0 := 49) (pc' := 53) rfl (hb hby at_49) (by decide) (by decide) k) ?_
          show Goes _ _ _ _ (s₁.setTop (mkF m 53 #[.val (.int p1), .val (.int ch), .val (.int (ch - (48 : Int32))), .val (.int (1 : Int32)), .val (.int ((ch ||| (32 : Int32)) - (97 : Int32))), .unset] [(.int (1 : Int32))]))
          refine Goes.st (fun _ k => XS.istore X0.here hx rfl (hb hby at_53) rfl (l' := #[.val (.int p1), .val (.int ch), .val (.int (ch - (48 : Int32))), .val (.int (1 : Int32)), .val (.int ((ch ||| (32 : Int32)) - (97 : Int32))), .val (.int (1 : Int32))]) rfl k) ?_
          show Goes _ _ _ _ (s₁.setTop (mkF m 55 #[.val (.int p1), .val (.int ch), .val (.int (ch - (48 : Int32))), .val (.int (1 : Int32)), .val (.int ((ch ||| (32 : Int32)) - (97 : Int32))), .val (.int (1 : Int32))] []))
          refine Goes.st (fun _ k => XS.iloadN X0.here hx rfl (hb hby at_55) rfl k) ?_
          show Goes _ _ _ _ (s₁.setTop (mkF m 56 #[.val (.int p1), .val (.int ch), .val (.int (ch - (48 : Int32))), .val (.int (1 : Int32)), .val (.int ((ch ||| (32 : Int32)) - (97 : Int32))), .val (.int (1 : Int32))] [(.int ch)]))
          obtain ⟨_, _, ⟨T5, L5, k5, n5⟩, -, X5, ⟨Lc5, hQ5, l5, y5, z5⟩, st5⟩ := Jvm.LawKit.callS X0 hx (y := (⟨"com/example/conformer/conformer/ClauseLabels", "isLabelCharacter", "(C)Z"⟩ : MethodName)) hown (mvT hZ (hw _ (List.mem_of_getElem? (i := 1) rfl))) (mvT hZ (hw _ (List.mem_of_getElem? (i := 2) rfl))) (mvT hZ (hw _ (List.mem_of_getElem? (i := 3) rfl))) (mvT hZ (hw _ (List.mem_of_getElem? (i := 4) rfl))) (by decide) (backOf (W := 0) (rm1 l Z a0 hw [] ch h0 n0 Z0) hZ (hw _ (List.mem_of_getElem? (i := 4) rfl)) (hw _ (List.mem_of_getElem? (i := 3) rfl)) (by decide) (by decide)) (g := (mkF m 56 #[.val (.int p1), .val (.int ch), .val (.int (ch - (48 : Int32))), .val (.int (1 : Int32)), .val (.int ((ch ||| (32 : Int32)) - (97 : Int32))), .val (.int (1 : Int32))] [(.int ch)])) rfl (by rw [hml]; rfl) (argsL := [(.int ch)]) (rest := []) (lenOf pd_1 rfl) rfl (by show 2 * 0 + _ ≤ _; exact Nat.le_of_eq rfl) (hb hby at_56) (fun _ _ => ⟨rfl, e0, (by decide : 0 + 0 ≤ _), (by decide : 0 + 0 ≤ _)⟩)
          dsimp only [Pt.U, Pt.locs, Pt.cells, Pt.slots] at X5 l5 y5 z5 st5 hQ5
          subst l5 y5 z5
          obtain ⟨rfl, Nq5, eq5⟩ := hQ5
          have N5 := Fr.app N0 Nq5
          refine Goes.st st5 ?_
          show Goes _ _ _ _ (T5.setTop (mkF m 59 #[.val (.int p1), .val (.int ch), .val (.int (ch - (48 : Int32))), .val (.int (1 : Int32)), .val (.int ((ch ||| (32 : Int32)) - (97 : Int32))), .val (.int (1 : Int32))] [(.int (own_a ch))]))
          have hP : own_A ch.toInt := by
            simp only [← Int32.toInt_inj, Int32.lt_iff_toInt_lt, Int32.reduceToInt] at hc12 hc18 hc38 hc45 hd1 hl1
            unfold own_A; omega
          refine Goes.st (fun _ k => XS.iloadN X5.here hx rfl (hb hby at_59) rfl k) ?_
          show Goes _ _ _ _ (T5.setTop (mkF m 60 #[.val (.int p1), .val (.int ch), .val (.int (ch - (48 : Int32))), .val (.int (1 : Int32)), .val (.int ((ch ||| (32 : Int32)) - (97 : Int32))), .val (.int (1 : Int32))] [(.int (1 : Int32)), (.int (own_a ch))]))
          refine Goes.st (fun _ k => XS.ifYes X5.here hx rfl (pc0 := 60) (pc' := 68) rfl (hb hby at_60) rfl (by decide) (by decide) (by decide) k) ?_
          show Goes _ _ _ _ (T5.setTop (mkF m 68 #[.val (.int p1), .val (.int ch), .val (.int (ch - (48 : Int32))), .val (.int (1 : Int32)), .val (.int ((ch ||| (32 : Int32)) - (97 : Int32))), .val (.int (1 : Int32))] [(.int (own_a ch))]))
          refine Goes.st (fun _ k => XS.iconst X5.here hx rfl (hb hby at_68) k) ?_
          show Goes _ _ _ _ (T5.setTop (mkF m 69 #[.val (.int p1), .val (.int ch), .val (.int (ch - (48 : Int32))), .val (.int (1 : Int32)), .val (.int ((ch ||| (32 : Int32)) - (97 : Int32))), .val (.int (1 : Int32))] [(.int (1 : Int32)), (.int (own_a ch))]))
          refine Goes.st (fun _ k => XS.goto X5.here hx rfl (pc0 := 69) (pc' := 73) rfl (hb hby at_69) (by decide) (by decide) k) ?_
          show Goes _ _ _ _ (T5.setTop (mkF m 73 #[.val (.int p1), .val (.int ch), .val (.int (ch - (48 : Int32))), .val (.int (1 : Int32)), .val (.int ((ch ||| (32 : Int32)) - (97 : Int32))), .val (.int (1 : Int32))] [(.int (1 : Int32)), (.int (own_a ch))]))
          refine Goes.st (fun _ k => XS.icmpNo X5.here hx rfl (hb hby at_73) rfl (teq (own_a_y hP)).2 k) ?_
          show Goes _ _ _ _ (T5.setTop (mkF m 76 #[.val (.int p1), .val (.int ch), .val (.int (ch - (48 : Int32))), .val (.int (1 : Int32)), .val (.int ((ch ||| (32 : Int32)) - (97 : Int32))), .val (.int (1 : Int32))] []))
          refine Goes.st (fun _ k => XS.iconst X5.here hx rfl (hb hby at_76) k) ?_
          show Goes _ _ _ _ (T5.setTop (mkF m 77 #[.val (.int p1), .val (.int ch), .val (.int (ch - (48 : Int32))), .val (.int (1 : Int32)), .val (.int ((ch ||| (32 : Int32)) - (97 : Int32))), .val (.int (1 : Int32))] [(.int (1 : Int32))]))
          refine Goes.st (fun _ k => XS.goto X5.here hx rfl (pc0 := 77) (pc' := 81) rfl (hb hby at_77) (by decide) (by decide) k) ?_
          show Goes _ _ _ _ (T5.setTop (mkF m 81 #[.val (.int p1), .val (.int ch), .val (.int (ch - (48 : Int32))), .val (.int (1 : Int32)), .val (.int ((ch ||| (32 : Int32)) - (97 : Int32))), .val (.int (1 : Int32))] [(.int (1 : Int32))]))
          exact leafZ X5 hx Bd.notSynchronized Bd.returns (hb hby at_81) (by decide) (by decide) (by decide) ⟨rfl, N5⟩
        · skip
          refine Goes.st (fun _ k => XS.icmpYes X0.here hx rfl (pc0 := 45) (pc' := 52) rfl (hb hby at_45) rfl (flt hc45).2.1 (by decide) (by decide) k) ?_
          show Goes _ _ _ _ (s₁.setTop (mkF m 52 #[.val (.int p1), .val (.int ch), .val (.int (ch - (48 : Int32))), .val (.int (1 : Int32)), .val (.int ((ch ||| (32 : Int32)) - (97 : Int32))), .unset] []))
          refine Goes.st (fun _ k => XS.iconst X0.here hx rfl (hb hby at_52) k) ?_
          show Goes _ _ _ _ (s₁.setTop (mkF m 53 #[.val (.int p1), .val (.int ch), .val (.int (ch - (48 : Int32))), .val (.int (1 : Int32)), .val (.int ((ch ||| (32 : Int32)) - (97 : Int32))), .unset] [(.int (0 : Int32))]))
          refine Goes.st (fun _ k => XS.istore X0.here hx rfl (hb hby at_53) rfl (l' := #[.val (.int p1), .val (.int ch), .val (.int (ch - (48 : Int32))), .val (.int (1 : Int32)), .val (.int ((ch ||| (32 : Int32)) - (97 : Int32))), .val (.int (0 : Int32))]) rfl k) ?_
          show Goes _ _ _ _ (s₁.setTop (mkF m 55 #[.val (.int p1), .val (.int ch), .val (.int (ch - (48 : Int32))), .val (.int (1 : Int32)), .val (.int ((ch ||| (32 : Int32)) - (97 : Int32))), .val (.int (0 : Int32))] []))
          refine Goes.st (fun _ k => XS.iloadN X0.here hx rfl (hb hby at_55) rfl k) ?_
          show Goes _ _ _ _ (s₁.setTop (mkF m 56 #[.val (.int p1), .val (.int ch), .val (.int (ch - (48 : Int32))), .val (.int (1 : Int32)), .val (.int ((ch ||| (32 : Int32)) - (97 : Int32))), .val (.int (0 : Int32))] [(.int ch)]))
          obtain ⟨_, _, ⟨T6, L6, k6, n6⟩, -, X6, ⟨Lc6, hQ6, l6, y6, z6⟩, st6⟩ := Jvm.LawKit.callS X0 hx (y := (⟨"com/example/conformer/conformer/ClauseLabels", "isLabelCharacter", "(C)Z"⟩ : MethodName)) hown (mvT hZ (hw _ (List.mem_of_getElem? (i := 1) rfl))) (mvT hZ (hw _ (List.mem_of_getElem? (i := 2) rfl))) (mvT hZ (hw _ (List.mem_of_getElem? (i := 3) rfl))) (mvT hZ (hw _ (List.mem_of_getElem? (i := 4) rfl))) (by decide) (backOf (W := 0) (rm1 l Z a0 hw [] ch h0 n0 Z0) hZ (hw _ (List.mem_of_getElem? (i := 4) rfl)) (hw _ (List.mem_of_getElem? (i := 3) rfl)) (by decide) (by decide)) (g := (mkF m 56 #[.val (.int p1), .val (.int ch), .val (.int (ch - (48 : Int32))), .val (.int (1 : Int32)), .val (.int ((ch ||| (32 : Int32)) - (97 : Int32))), .val (.int (0 : Int32))] [(.int ch)])) rfl (by rw [hml]; rfl) (argsL := [(.int ch)]) (rest := []) (lenOf pd_1 rfl) rfl (by show 2 * 0 + _ ≤ _; exact Nat.le_of_eq rfl) (hb hby at_56) (fun _ _ => ⟨rfl, e0, (by decide : 0 + 0 ≤ _), (by decide : 0 + 0 ≤ _)⟩)
          dsimp only [Pt.U, Pt.locs, Pt.cells, Pt.slots] at X6 l6 y6 z6 st6 hQ6
          subst l6 y6 z6
          obtain ⟨rfl, Nq6, eq6⟩ := hQ6
          have N6 := Fr.app N0 Nq6
          refine Goes.st st6 ?_
          show Goes _ _ _ _ (T6.setTop (mkF m 59 #[.val (.int p1), .val (.int ch), .val (.int (ch - (48 : Int32))), .val (.int (1 : Int32)), .val (.int ((ch ||| (32 : Int32)) - (97 : Int32))), .val (.int (0 : Int32))] [(.int (own_a ch))]))
          have hP : own_A ch.toInt := by
            simp only [← Int32.toInt_inj, Int32.lt_iff_toInt_lt, Int32.reduceToInt] at hc12 hc18 hc38 hc45 hd1 hl1
            unfold own_A; omega
          refine Goes.st (fun _ k => XS.iloadN X6.here hx rfl (hb hby at_59) rfl k) ?_
          show Goes _ _ _ _ (T6.setTop (mkF m 60 #[.val (.int p1), .val (.int ch), .val (.int (ch - (48 : Int32))), .val (.int (1 : Int32)), .val (.int ((ch ||| (32 : Int32)) - (97 : Int32))), .val (.int (0 : Int32))] [(.int (1 : Int32)), (.int (own_a ch))]))
          refine Goes.st (fun _ k => XS.ifYes X6.here hx rfl (pc0 := 60) (pc' := 68) rfl (hb hby at_60) rfl (by decide) (by decide) (by decide) k) ?_
          show Goes _ _ _ _ (T6.setTop (mkF m 68 #[.val (.int p1), .val (.int ch), .val (.int (ch - (48 : Int32))), .val (.int (1 : Int32)), .val (.int ((ch ||| (32 : Int32)) - (97 : Int32))), .val (.int (0 : Int32))] [(.int (own_a ch))]))
          refine Goes.st (fun _ k => XS.iconst X6.here hx rfl (hb hby at_68) k) ?_
          show Goes _ _ _ _ (T6.setTop (mkF m 69 #[.val (.int p1), .val (.int ch), .val (.int (ch - (48 : Int32))), .val (.int (1 : Int32)), .val (.int ((ch ||| (32 : Int32)) - (97 : Int32))), .val (.int (0 : Int32))] [(.int (1 : Int32)), (.int (own_a ch))]))
          refine Goes.st (fun _ k => XS.goto X6.here hx rfl (pc0 := 69) (pc' := 73) rfl (hb hby at_69) (by decide) (by decide) k) ?_
          show Goes _ _ _ _ (T6.setTop (mkF m 73 #[.val (.int p1), .val (.int ch), .val (.int (ch - (48 : Int32))), .val (.int (1 : Int32)), .val (.int ((ch ||| (32 : Int32)) - (97 : Int32))), .val (.int (0 : Int32))] [(.int (1 : Int32)), (.int (own_a ch))]))
          refine Goes.st (fun _ k => XS.icmpNo X6.here hx rfl (hb hby at_73) rfl (teq (own_a_y hP)).2 k) ?_
          show Goes _ _ _ _ (T6.setTop (mkF m 76 #[.val (.int p1), .val (.int ch), .val (.int (ch - (48 : Int32))), .val (.int (1 : Int32)), .val (.int ((ch ||| (32 : Int32)) - (97 : Int32))), .val (.int (0 : Int32))] []))
          refine Goes.st (fun _ k => XS.iconst X6.here hx rfl (hb hby at_76) k) ?_
          show Goes _ _ _ _ (T6.setTop (mkF m 77 #[.val (.int p1), .val (.int ch), .val (.int (ch - (48 : Int32))), .val (.int (1 : Int32)), .val (.int ((ch ||| (32 : Int32)) - (97 : Int32))), .val (.int (0 : Int32))] [(.int (1 : Int32))]))
          refine Goes.st (fun _ k => XS.goto X6.here hx rfl (pc0 := 77) (pc' := 81) rfl (hb hby at_77) (by decide) (by decide) k) ?_
          show Goes _ _ _ _ (T6.setTop (mkF m 81 #[.val (.int p1), .val (.int ch), .val (.int (ch - (48 : Int32))), .val (.int (1 : Int32)), .val (.int ((ch ||| (32 : Int32)) - (97 : Int32))), .val (.int (0 : Int32))] [(.int (1 : Int32))]))
          exact leafZ X6 hx Bd.notSynchronized Bd.returns (hb hby at_81) (by decide) (by decide) (by decide) ⟨rfl, N6⟩
    · skip
      refine Goes.st (fun _ k => XS.icmpYes X0.here hx rfl (pc0 := 18) (pc' := 25) rfl (hb hby at_18) rfl (flt hc18).2.1 (by decide) (by decide) k) ?_
      show Goes _ _ _ _ (s₁.setTop (mkF m 25 #[.val (.int p1), .val (.int ch), .val (.int (ch - (48 : Int32))), .unset, .unset, .unset] []))
      refine Goes.st (fun _ k => XS.iconst X0.here hx rfl (hb hby at_25) k) ?_
      show Goes _ _ _ _ (s₁.setTop (mkF m 26 #[.val (.int p1), .val (.int ch), .val (.int (ch - (48 : Int32))), .unset, .unset, .unset] [(.int (0 : Int32))]))
      refine Goes.st (fun _ k => XS.istoreN X0.here hx rfl (hb hby at_26) rfl (l' := #[.val (.int p1), .val (.int ch), .val (.int (ch - (48 : Int32))), .val (.int (0 : Int32)), .unset, .unset]) rfl k) ?_
      show Goes _ _ _ _ (s₁.setTop (mkF m 27 #[.val (.int p1), .val (.int ch), .val (.int (ch - (48 : Int32))), .val (.int (0 : Int32)), .unset, .unset] []))
      refine Goes.st (fun _ k => XS.iloadN X0.here hx rfl (hb hby at_27) rfl k) ?_
      show Goes _ _ _ _ (s₁.setTop (mkF m 28 #[.val (.int p1), .val (.int ch), .val (.int (ch - (48 : Int32))), .val (.int (0 : Int32)), .unset, .unset] [(.int ch)]))
      refine Goes.st (fun _ k => XS.bipush X0.here hx rfl (hb hby at_28) k) ?_
      show Goes _ _ _ _ (s₁.setTop (mkF m 30 #[.val (.int p1), .val (.int ch), .val (.int (ch - (48 : Int32))), .val (.int (0 : Int32)), .unset, .unset] [(.int (32 : Int32)), (.int ch)]))
      refine Goes.st (fun _ k => XS.ior X0.here hx rfl (hb hby at_30) rfl k) ?_
      show Goes _ _ _ _ (s₁.setTop (mkF m 31 #[.val (.int p1), .val (.int ch), .val (.int (ch - (48 : Int32))), .val (.int (0 : Int32)), .unset, .unset] [(.int (ch ||| (32 : Int32)))]))
      refine Goes.st (fun _ k => XS.bipush X0.here hx rfl (hb hby at_31) k) ?_
      show Goes _ _ _ _ (s₁.setTop (mkF m 33 #[.val (.int p1), .val (.int ch), .val (.int (ch - (48 : Int32))), .val (.int (0 : Int32)), .unset, .unset] [(.int (97 : Int32)), (.int (ch ||| (32 : Int32)))]))
      refine Goes.st (fun _ k => XS.isub X0.here hx rfl (hb hby at_33) rfl k) ?_
      show Goes _ _ _ _ (s₁.setTop (mkF m 34 #[.val (.int p1), .val (.int ch), .val (.int (ch - (48 : Int32))), .val (.int (0 : Int32)), .unset, .unset] [(.int ((ch ||| (32 : Int32)) - (97 : Int32)))]))
      refine Goes.st (fun _ k => XS.istore X0.here hx rfl (hb hby at_34) rfl (l' := #[.val (.int p1), .val (.int ch), .val (.int (ch - (48 : Int32))), .val (.int (0 : Int32)), .val (.int ((ch ||| (32 : Int32)) - (97 : Int32))), .unset]) rfl k) ?_
      show Goes _ _ _ _ (s₁.setTop (mkF m 36 #[.val (.int p1), .val (.int ch), .val (.int (ch - (48 : Int32))), .val (.int (0 : Int32)), .val (.int ((ch ||| (32 : Int32)) - (97 : Int32))), .unset] []))
      refine Goes.st (fun _ k => XS.iload X0.here hx rfl (hb hby at_36) rfl k) ?_
      show Goes _ _ _ _ (s₁.setTop (mkF m 38 #[.val (.int p1), .val (.int ch), .val (.int (ch - (48 : Int32))), .val (.int (0 : Int32)), .val (.int ((ch ||| (32 : Int32)) - (97 : Int32))), .unset] [(.int ((ch ||| (32 : Int32)) - (97 : Int32)))]))
      by_cases hc38 : ((ch ||| (32 : Int32)) - (97 : Int32)) < (0 : Int32)
      · skip
        refine Goes.st (fun _ k => XS.ifYes X0.here hx rfl (pc0 := 38) (pc' := 52) rfl (hb hby at_38) rfl ((if0 _ _).trans (tlt hc38).1) (by decide) (by decide) k) ?_
        show Goes _ _ _ _ (s₁.setTop (mkF m 52 #[.val (.int p1), .val (.int ch), .val (.int (ch - (48 : Int32))), .val (.int (0 : Int32)), .val (.int ((ch ||| (32 : Int32)) - (97 : Int32))), .unset] []))
        refine Goes.st (fun _ k => XS.iconst X0.here hx rfl (hb hby at_52) k) ?_
        show Goes _ _ _ _ (s₁.setTop (mkF m 53 #[.val (.int p1), .val (.int ch), .val (.int (ch - (48 : Int32))), .val (.int (0 : Int32)), .val (.int ((ch ||| (32 : Int32)) - (97 : Int32))), .unset] [(.int (0 : Int32))]))
        refine Goes.st (fun _ k => XS.istore X0.here hx rfl (hb hby at_53) rfl (l' := #[.val (.int p1), .val (.int ch), .val (.int (ch - (48 : Int32))), .val (.int (0 : Int32)), .val (.int ((ch ||| (32 : Int32)) - (97 : Int32))), .val (.int (0 : Int32))]) rfl k) ?_
        show Goes _ _ _ _ (s₁.setTop (mkF m 55 #[.val (.int p1), .val (.int ch), .val (.int (ch - (48 : Int32))), .val (.int (0 : Int32)), .val (.int ((ch ||| (32 : Int32)) - (97 : Int32))), .val (.int (0 : Int32))] []))
        refine Goes.st (fun _ k => XS.iloadN X0.here hx rfl (hb hby at_55) rfl k) ?_
        show Goes _ _ _ _ (s₁.setTop (mkF m 56 #[.val (.int p1), .val (.int ch), .val (.int (ch - (48 : Int32))), .val (.int (0 : Int32)), .val (.int ((ch ||| (32 : Int32)) - (97 : Int32))), .val (.int (0 : Int32))] [(.int ch)]))
        obtain ⟨_, _, ⟨T7, L7, k7, n7⟩, -, X7, ⟨Lc7, hQ7, l7, y7, z7⟩, st7⟩ := Jvm.LawKit.callS X0 hx (y := (⟨"com/example/conformer/conformer/ClauseLabels", "isLabelCharacter", "(C)Z"⟩ : MethodName)) hown (mvT hZ (hw _ (List.mem_of_getElem? (i := 1) rfl))) (mvT hZ (hw _ (List.mem_of_getElem? (i := 2) rfl))) (mvT hZ (hw _ (List.mem_of_getElem? (i := 3) rfl))) (mvT hZ (hw _ (List.mem_of_getElem? (i := 4) rfl))) (by decide) (backOf (W := 0) (rm1 l Z a0 hw [] ch h0 n0 Z0) hZ (hw _ (List.mem_of_getElem? (i := 4) rfl)) (hw _ (List.mem_of_getElem? (i := 3) rfl)) (by decide) (by decide)) (g := (mkF m 56 #[.val (.int p1), .val (.int ch), .val (.int (ch - (48 : Int32))), .val (.int (0 : Int32)), .val (.int ((ch ||| (32 : Int32)) - (97 : Int32))), .val (.int (0 : Int32))] [(.int ch)])) rfl (by rw [hml]; rfl) (argsL := [(.int ch)]) (rest := []) (lenOf pd_1 rfl) rfl (by show 2 * 0 + _ ≤ _; exact Nat.le_of_eq rfl) (hb hby at_56) (fun _ _ => ⟨rfl, e0, (by decide : 0 + 0 ≤ _), (by decide : 0 + 0 ≤ _)⟩)
        dsimp only [Pt.U, Pt.locs, Pt.cells, Pt.slots] at X7 l7 y7 z7 st7 hQ7
        subst l7 y7 z7
        obtain ⟨rfl, Nq7, eq7⟩ := hQ7
        have N7 := Fr.app N0 Nq7
        refine Goes.st st7 ?_
        show Goes _ _ _ _ (T7.setTop (mkF m 59 #[.val (.int p1), .val (.int ch), .val (.int (ch - (48 : Int32))), .val (.int (0 : Int32)), .val (.int ((ch ||| (32 : Int32)) - (97 : Int32))), .val (.int (0 : Int32))] [(.int (own_a ch))]))
        have hP : ¬ own_A ch.toInt := by
          simp only [← Int32.toInt_inj, Int32.lt_iff_toInt_lt, Int32.reduceToInt] at hc12 hc18 hc38 hd1 hl1
          unfold own_A; omega
        refine Goes.st (fun _ k => XS.iloadN X7.here hx rfl (hb hby at_59) rfl k) ?_
        show Goes _ _ _ _ (T7.setTop (mkF m 60 #[.val (.int p1), .val (.int ch), .val (.int (ch - (48 : Int32))), .val (.int (0 : Int32)), .val (.int ((ch ||| (32 : Int32)) - (97 : Int32))), .val (.int (0 : Int32))] [(.int (0 : Int32)), (.int (own_a ch))]))
        refine Goes.st (fun _ k => XS.ifNo X7.here hx rfl (hb hby at_60) rfl (by decide) k) ?_
        show Goes _ _ _ _ (T7.setTop (mkF m 63 #[.val (.int p1), .val (.int ch), .val (.int (ch - (48 : Int32))), .val (.int (0 : Int32)), .val (.int ((ch ||| (32 : Int32)) - (97 : Int32))), .val (.int (0 : Int32))] [(.int (own_a ch))]))
        refine Goes.st (fun _ k => XS.iload X7.here hx rfl (hb hby at_63) rfl k) ?_
        show Goes _ _ _ _ (T7.setTop (mkF m 65 #[.val (.int p1), .val (.int ch), .val (.int (ch - (48 : Int32))), .val (.int (0 : Int32)), .val (.int ((ch ||| (32 : Int32)) - (97 : Int32))), .val (.int (0 : Int32))] [(.int (0 : Int32)), (.int (own_a ch))]))
        refine Goes.st (fun _ k => XS.ifYes X7.here hx rfl (pc0 := 65) (pc' := 72) rfl (hb hby at_65) rfl (by decide) (by decide) (by decide) k) ?_
        show Goes _ _ _ _ (T7.setTop (mkF m 72 #[.val (.int p1), .val (.int ch), .val (.int (ch - (48 : Int32))), .val (.int (0 : Int32)), .val (.int ((ch ||| (32 : Int32)) - (97 : Int32))), .val (.int (0 : Int32))] [(.int (own_a ch))]))
        refine Goes.st (fun _ k => XS.iconst X7.here hx rfl (hb hby at_72) k) ?_
        show Goes _ _ _ _ (T7.setTop (mkF m 73 #[.val (.int p1), .val (.int ch), .val (.int (ch - (48 : Int32))), .val (.int (0 : Int32)), .val (.int ((ch ||| (32 : Int32)) - (97 : Int32))), .val (.int (0 : Int32))] [(.int (0 : Int32)), (.int (own_a ch))]))
        refine Goes.st (fun _ k => XS.icmpNo X7.here hx rfl (hb hby at_73) rfl (teq (own_a_n hP)).2 k) ?_
        show Goes _ _ _ _ (T7.setTop (mkF m 76 #[.val (.int p1), .val (.int ch), .val (.int (ch - (48 : Int32))), .val (.int (0 : Int32)), .val (.int ((ch ||| (32 : Int32)) - (97 : Int32))), .val (.int (0 : Int32))] []))
        refine Goes.st (fun _ k => XS.iconst X7.here hx rfl (hb hby at_76) k) ?_
        show Goes _ _ _ _ (T7.setTop (mkF m 77 #[.val (.int p1), .val (.int ch), .val (.int (ch - (48 : Int32))), .val (.int (0 : Int32)), .val (.int ((ch ||| (32 : Int32)) - (97 : Int32))), .val (.int (0 : Int32))] [(.int (1 : Int32))]))
        refine Goes.st (fun _ k => XS.goto X7.here hx rfl (pc0 := 77) (pc' := 81) rfl (hb hby at_77) (by decide) (by decide) k) ?_
        show Goes _ _ _ _ (T7.setTop (mkF m 81 #[.val (.int p1), .val (.int ch), .val (.int (ch - (48 : Int32))), .val (.int (0 : Int32)), .val (.int ((ch ||| (32 : Int32)) - (97 : Int32))), .val (.int (0 : Int32))] [(.int (1 : Int32))]))
        exact leafZ X7 hx Bd.notSynchronized Bd.returns (hb hby at_81) (by decide) (by decide) (by decide) ⟨rfl, N7⟩
      · skip
        refine Goes.st (fun _ k => XS.ifNo X0.here hx rfl (hb hby at_38) rfl ((if0 _ _).trans (flt hc38).1) k) ?_
        show Goes _ _ _ _ (s₁.setTop (mkF m 41 #[.val (.int p1), .val (.int ch), .val (.int (ch - (48 : Int32))), .val (.int (0 : Int32)), .val (.int ((ch ||| (32 : Int32)) - (97 : Int32))), .unset] []))
        refine Goes.st (fun _ k => XS.iload X0.here hx rfl (hb hby at_41) rfl k) ?_
        show Goes _ _ _ _ (s₁.setTop (mkF m 43 #[.val (.int p1), .val (.int ch), .val (.int (ch - (48 : Int32))), .val (.int (0 : Int32)), .val (.int ((ch ||| (32 : Int32)) - (97 : Int32))), .unset] [(.int ((ch ||| (32 : Int32)) - (97 : Int32)))]))
        refine Goes.st (fun _ k => XS.bipush X0.here hx rfl (hb hby at_43) k) ?_
        show Goes _ _ _ _ (s₁.setTop (mkF m 45 #[.val (.int p1), .val (.int ch), .val (.int (ch - (48 : Int32))), .val (.int (0 : Int32)), .val (.int ((ch ||| (32 : Int32)) - (97 : Int32))), .unset] [(.int (26 : Int32)), (.int ((ch ||| (32 : Int32)) - (97 : Int32)))]))
        by_cases hc45 : ((ch ||| (32 : Int32)) - (97 : Int32)) < (26 : Int32)
        · skip
          refine Goes.st (fun _ k => XS.icmpNo X0.here hx rfl (hb hby at_45) rfl (tlt hc45).2.1 k) ?_
          show Goes _ _ _ _ (s₁.setTop (mkF m 48 #[.val (.int p1), .val (.int ch), .val (.int (ch - (48 : Int32))), .val (.int (0 : Int32)), .val (.int ((ch ||| (32 : Int32)) - (97 : Int32))), .unset] []))
          refine Goes.st (fun _ k => XS.iconst X0.here hx rfl (hb hby at_48) k) ?_
          show Goes _ _ _ _ (s₁.setTop (mkF m 49 #[.val (.int p1), .val (.int ch), .val (.int (ch - (48 : Int32))), .val (.int (0 : Int32)), .val (.int ((ch ||| (32 : Int32)) - (97 : Int32))), .unset] [(.int (1 : Int32))]))
          refine Goes.st (fun _ k => XS.goto X0.here hx rfl (pc0 := 49) (pc' := 53) rfl (hb hby at_49) (by decide) (by decide) k) ?_
          show Goes _ _ _ _ (s₁.setTop (mkF m 53 #[.val (.int p1), .val (.int ch), .val (.int (ch - (48 : Int32))), .val (.int (0 : Int32)), .val (.int ((ch ||| (32 : Int32)) - (97 : Int32))), .unset] [(.int (1 : Int32))]))
          refine Goes.st (fun _ k => XS.istore X0.here hx rfl (hb hby at_53) rfl (l' := #[.val (.int p1), .val (.int ch), .val (.int (ch - (48 : Int32))), .val (.int (0 : Int32)), .val (.int ((ch ||| (32 : Int32)) - (97 : Int32))), .val (.int (1 : Int32))]) rfl k) ?_
          show Goes _ _ _ _ (s₁.setTop (mkF m 55 #[.val (.int p1), .val (.int ch), .val (.int (ch - (48 : Int32))), .val (.int (0 : Int32)), .val (.int ((ch ||| (32 : Int32)) - (97 : Int32))), .val (.int (1 : Int32))] []))
          refine Goes.st (fun _ k => XS.iloadN X0.here hx rfl (hb hby at_55) rfl k) ?_
          show Goes _ _ _ _ (s₁.setTop (mkF m 56 #[.val (.int p1), .val (.int ch), .val (.int (ch - (48 : Int32))), .val (.int (0 : Int32)), .val (.int ((ch ||| (32 : Int32)) - (97 : Int32))), .val (.int (1 : Int32))] [(.int ch)]))
          obtain ⟨_, _, ⟨T8, L8, k8, n8⟩, -, X8, ⟨Lc8, hQ8, l8, y8, z8⟩, st8⟩ := Jvm.LawKit.callS X0 hx (y := (⟨"com/example/conformer/conformer/ClauseLabels", "isLabelCharacter", "(C)Z"⟩ : MethodName)) hown (mvT hZ (hw _ (List.mem_of_getElem? (i := 1) rfl))) (mvT hZ (hw _ (List.mem_of_getElem? (i := 2) rfl))) (mvT hZ (hw _ (List.mem_of_getElem? (i := 3) rfl))) (mvT hZ (hw _ (List.mem_of_getElem? (i := 4) rfl))) (by decide) (backOf (W := 0) (rm1 l Z a0 hw [] ch h0 n0 Z0) hZ (hw _ (List.mem_of_getElem? (i := 4) rfl)) (hw _ (List.mem_of_getElem? (i := 3) rfl)) (by decide) (by decide)) (g := (mkF m 56 #[.val (.int p1), .val (.int ch), .val (.int (ch - (48 : Int32))), .val (.int (0 : Int32)), .val (.int ((ch ||| (32 : Int32)) - (97 : Int32))), .val (.int (1 : Int32))] [(.int ch)])) rfl (by rw [hml]; rfl) (argsL := [(.int ch)]) (rest := []) (lenOf pd_1 rfl) rfl (by show 2 * 0 + _ ≤ _; exact Nat.le_of_eq rfl) (hb hby at_56) (fun _ _ => ⟨rfl, e0, (by decide : 0 + 0 ≤ _), (by decide : 0 + 0 ≤ _)⟩)
          dsimp only [Pt.U, Pt.locs, Pt.cells, Pt.slots] at X8 l8 y8 z8 st8 hQ8
          subst l8 y8 z8
          obtain ⟨rfl, Nq8, eq8⟩ := hQ8
          have N8 := Fr.app N0 Nq8
          refine Goes.st st8 ?_
          show Goes _ _ _ _ (T8.setTop (mkF m 59 #[.val (.int p1), .val (.int ch), .val (.int (ch - (48 : Int32))), .val (.int (0 : Int32)), .val (.int ((ch ||| (32 : Int32)) - (97 : Int32))), .val (.int (1 : Int32))] [(.int (own_a ch))]))
          have hP : own_A ch.toInt := by
            simp only [← Int32.toInt_inj, Int32.lt_iff_toInt_lt, Int32.reduceToInt] at hc12 hc18 hc38 hc45 hd1 hl1
            unfold own_A; omega
          refine Goes.st (fun _ k => XS.iloadN X8.here hx rfl (hb hby at_59) rfl k) ?_
          show Goes _ _ _ _ (T8.setTop (mkF m 60 #[.val (.int p1), .val (.int ch), .val (.int (ch - (48 : Int32))), .val (.int (0 : Int32)), .val (.int ((ch ||| (32 : Int32)) - (97 : Int32))), .val (.int (1 : Int32))] [(.int (0 : Int32)), (.int (own_a ch))]))
          refine Goes.st (fun _ k => XS.ifNo X8.here hx rfl (hb hby at_60) rfl (by decide) k) ?_
          show Goes _ _ _ _ (T8.setTop (mkF m 63 #[.val (.int p1), .val (.int ch), .val (.int (ch - (48 : Int32))), .val (.int (0 : Int32)), .val (.int ((ch ||| (32 : Int32)) - (97 : Int32))), .val (.int (1 : Int32))] [(.int (own_a ch))]))
          refine Goes.st (fun _ k => XS.iload X8.here hx rfl (hb hby at_63) rfl k) ?_
          show Goes _ _ _ _ (T8.setTop (mkF m 65 #[.val (.int p1), .val (.int ch), .val (.int (ch - (48 : Int32))), .val (.int (0 : Int32)), .val (.int ((ch ||| (32 : Int32)) - (97 : Int32))), .val (.int (1 : Int32))] [(.int (1 : Int32)), (.int (own_a ch))]))
          refine Goes.st (fun _ k => XS.ifNo X8.here hx rfl (hb hby at_65) rfl (by decide) k) ?_
          show Goes _ _ _ _ (T8.setTop (mkF m 68 #[.val (.int p1), .val (.int ch), .val (.int (ch - (48 : Int32))), .val (.int (0 : Int32)), .val (.int ((ch ||| (32 : Int32)) - (97 : Int32))), .val (.int (1 : Int32))] [(.int (own_a ch))]))
          refine Goes.st (fun _ k => XS.iconst X8.here hx rfl (hb hby at_68) k) ?_
          show Goes _ _ _ _ (T8.setTop (mkF m 69 #[.val (.int p1), .val (.int ch), .val (.int (ch - (48 : Int32))), .val (.int (0 : Int32)), .val (.int ((ch ||| (32 : Int32)) - (97 : Int32))), .val (.int (1 : Int32))] [(.int (1 : Int32)), (.int (own_a ch))]))
          refine Goes.st (fun _ k => XS.goto X8.here hx rfl (pc0 := 69) (pc' := 73) rfl (hb hby at_69) (by decide) (by decide) k) ?_
          show Goes _ _ _ _ (T8.setTop (mkF m 73 #[.val (.int p1), .val (.int ch), .val (.int (ch - (48 : Int32))), .val (.int (0 : Int32)), .val (.int ((ch ||| (32 : Int32)) - (97 : Int32))), .val (.int (1 : Int32))] [(.int (1 : Int32)), (.int (own_a ch))]))
          refine Goes.st (fun _ k => XS.icmpNo X8.here hx rfl (hb hby at_73) rfl (teq (own_a_y hP)).2 k) ?_
          show Goes _ _ _ _ (T8.setTop (mkF m 76 #[.val (.int p1), .val (.int ch), .val (.int (ch - (48 : Int32))), .val (.int (0 : Int32)), .val (.int ((ch ||| (32 : Int32)) - (97 : Int32))), .val (.int (1 : Int32))] []))
          refine Goes.st (fun _ k => XS.iconst X8.here hx rfl (hb hby at_76) k) ?_
          show Goes _ _ _ _ (T8.setTop (mkF m 77 #[.val (.int p1), .val (.int ch), .val (.int (ch - (48 : Int32))), .val (.int (0 : Int32)), .val (.int ((ch ||| (32 : Int32)) - (97 : Int32))), .val (.int (1 : Int32))] [(.int (1 : Int32))]))
          refine Goes.st (fun _ k => XS.goto X8.here hx rfl (pc0 := 77) (pc' := 81) rfl (hb hby at_77) (by decide) (by decide) k) ?_
          show Goes _ _ _ _ (T8.setTop (mkF m 81 #[.val (.int p1), .val (.int ch), .val (.int (ch - (48 : Int32))), .val (.int (0 : Int32)), .val (.int ((ch ||| (32 : Int32)) - (97 : Int32))), .val (.int (1 : Int32))] [(.int (1 : Int32))]))
          exact leafZ X8 hx Bd.notSynchronized Bd.returns (hb hby at_81) (by decide) (by decide) (by decide) ⟨rfl, N8⟩
        · skip
          refine Goes.st (fun _ k => XS.icmpYes X0.here hx rfl (pc0 := 45) (pc' := 52) rfl (hb hby at_45) rfl (flt hc45).2.1 (by decide) (by decide) k) ?_
          show Goes _ _ _ _ (s₁.setTop (mkF m 52 #[.val (.int p1), .val (.int ch), .val (.int (ch - (48 : Int32))), .val (.int (0 : Int32)), .val (.int ((ch ||| (32 : Int32)) - (97 : Int32))), .unset] []))
          refine Goes.st (fun _ k => XS.iconst X0.here hx rfl (hb hby at_52) k) ?_
          show Goes _ _ _ _ (s₁.setTop (mkF m 53 #[.val (.int p1), .val (.int ch), .val (.int (ch - (48 : Int32))), .val (.int (0 : Int32)), .val (.int ((ch ||| (32 : Int32)) - (97 : Int32))), .unset] [(.int (0 : Int32))]))
          refine Goes.st (fun _ k => XS.istore X0.here hx rfl (hb hby at_53) rfl (l' := #[.val (.int p1), .val (.int ch), .val (.int (ch - (48 : Int32))), .val (.int (0 : Int32)), .val (.int ((ch ||| (32 : Int32)) - (97 : Int32))), .val (.int (0 : Int32))]) rfl k) ?_
          show Goes _ _ _ _ (s₁.setTop (mkF m 55 #[.val (.int p1), .val (.int ch), .val (.int (ch - (48 : Int32))), .val (.int (0 : Int32)), .val (.int ((ch ||| (32 : Int32)) - (97 : Int32))), .val (.int (0 : Int32))] []))
          refine Goes.st (fun _ k => XS.iloadN X0.here hx rfl (hb hby at_55) rfl k) ?_
          show Goes _ _ _ _ (s₁.setTop (mkF m 56 #[.val (.int p1), .val (.int ch), .val (.int (ch - (48 : Int32))), .val (.int (0 : Int32)), .val (.int ((ch ||| (32 : Int32)) - (97 : Int32))), .val (.int (0 : Int32))] [(.int ch)]))
          obtain ⟨_, _, ⟨T9, L9, k9, n9⟩, -, X9, ⟨Lc9, hQ9, l9, y9, z9⟩, st9⟩ := Jvm.LawKit.callS X0 hx (y := (⟨"com/example/conformer/conformer/ClauseLabels", "isLabelCharacter", "(C)Z"⟩ : MethodName)) hown (mvT hZ (hw _ (List.mem_of_getElem? (i := 1) rfl))) (mvT hZ (hw _ (List.mem_of_getElem? (i := 2) rfl))) (mvT hZ (hw _ (List.mem_of_getElem? (i := 3) rfl))) (mvT hZ (hw _ (List.mem_of_getElem? (i := 4) rfl))) (by decide) (backOf (W := 0) (rm1 l Z a0 hw [] ch h0 n0 Z0) hZ (hw _ (List.mem_of_getElem? (i := 4) rfl)) (hw _ (List.mem_of_getElem? (i := 3) rfl)) (by decide) (by decide)) (g := (mkF m 56 #[.val (.int p1), .val (.int ch), .val (.int (ch - (48 : Int32))), .val (.int (0 : Int32)), .val (.int ((ch ||| (32 : Int32)) - (97 : Int32))), .val (.int (0 : Int32))] [(.int ch)])) rfl (by rw [hml]; rfl) (argsL := [(.int ch)]) (rest := []) (lenOf pd_1 rfl) rfl (by show 2 * 0 + _ ≤ _; exact Nat.le_of_eq rfl) (hb hby at_56) (fun _ _ => ⟨rfl, e0, (by decide : 0 + 0 ≤ _), (by decide : 0 + 0 ≤ _)⟩)
          dsimp only [Pt.U, Pt.locs, Pt.cells, Pt.slots] at X9 l9 y9 z9 st9 hQ9
          subst l9 y9 z9
          obtain ⟨rfl, Nq9, eq9⟩ := hQ9
          have N9 := Fr.app N0 Nq9
          refine Goes.st st9 ?_
          show Goes _ _ _ _ (T9.setTop (mkF m 59 #[.val (.int p1), .val (.int ch), .val (.int (ch - (48 : Int32))), .val (.int (0 : Int32)), .val (.int ((ch ||| (32 : Int32)) - (97 : Int32))), .val (.int (0 : Int32))] [(.int (own_a ch))]))
          have hP : ¬ own_A ch.toInt := by
            simp only [← Int32.toInt_inj, Int32.lt_iff_toInt_lt, Int32.reduceToInt] at hc12 hc18 hc38 hc45 hd1 hl1
            unfold own_A; omega
          refine Goes.st (fun _ k => XS.iloadN X9.here hx rfl (hb hby at_59) rfl k) ?_
          show Goes _ _ _ _ (T9.setTop (mkF m 60 #[.val (.int p1), .val (.int ch), .val (.int (ch - (48 : Int32))), .val (.int (0 : Int32)), .val (.int ((ch ||| (32 : Int32)) - (97 : Int32))), .val (.int (0 : Int32))] [(.int (0 : Int32)), (.int (own_a ch))]))
          refine Goes.st (fun _ k => XS.ifNo X9.here hx rfl (hb hby at_60) rfl (by decide) k) ?_
          show Goes _ _ _ _ (T9.setTop (mkF m 63 #[.val (.int p1), .val (.int ch), .val (.int (ch - (48 : Int32))), .val (.int (0 : Int32)), .val (.int ((ch ||| (32 : Int32)) - (97 : Int32))), .val (.int (0 : Int32))] [(.int (own_a ch))]))
          refine Goes.st (fun _ k => XS.iload X9.here hx rfl (hb hby at_63) rfl k) ?_
          show Goes _ _ _ _ (T9.setTop (mkF m 65 #[.val (.int p1), .val (.int ch), .val (.int (ch - (48 : Int32))), .val (.int (0 : Int32)), .val (.int ((ch ||| (32 : Int32)) - (97 : Int32))), .val (.int (0 : Int32))] [(.int (0 : Int32)), (.int (own_a ch))]))
          refine Goes.st (fun _ k => XS.ifYes X9.here hx rfl (pc0 := 65) (pc' := 72) rfl (hb hby at_65) rfl (by decide) (by decide) (by decide) k) ?_
          show Goes _ _ _ _ (T9.setTop (mkF m 72 #[.val (.int p1), .val (.int ch), .val (.int (ch - (48 : Int32))), .val (.int (0 : Int32)), .val (.int ((ch ||| (32 : Int32)) - (97 : Int32))), .val (.int (0 : Int32))] [(.int (own_a ch))]))
          refine Goes.st (fun _ k => XS.iconst X9.here hx rfl (hb hby at_72) k) ?_
          show Goes _ _ _ _ (T9.setTop (mkF m 73 #[.val (.int p1), .val (.int ch), .val (.int (ch - (48 : Int32))), .val (.int (0 : Int32)), .val (.int ((ch ||| (32 : Int32)) - (97 : Int32))), .val (.int (0 : Int32))] [(.int (0 : Int32)), (.int (own_a ch))]))
          refine Goes.st (fun _ k => XS.icmpNo X9.here hx rfl (hb hby at_73) rfl (teq (own_a_n hP)).2 k) ?_
          show Goes _ _ _ _ (T9.setTop (mkF m 76 #[.val (.int p1), .val (.int ch), .val (.int (ch - (48 : Int32))), .val (.int (0 : Int32)), .val (.int ((ch ||| (32 : Int32)) - (97 : Int32))), .val (.int (0 : Int32))] []))
          refine Goes.st (fun _ k => XS.iconst X9.here hx rfl (hb hby at_76) k) ?_
          show Goes _ _ _ _ (T9.setTop (mkF m 77 #[.val (.int p1), .val (.int ch), .val (.int (ch - (48 : Int32))), .val (.int (0 : Int32)), .val (.int ((ch ||| (32 : Int32)) - (97 : Int32))), .val (.int (0 : Int32))] [(.int (1 : Int32))]))
          refine Goes.st (fun _ k => XS.goto X9.here hx rfl (pc0 := 77) (pc' := 81) rfl (hb hby at_77) (by decide) (by decide) k) ?_
          show Goes _ _ _ _ (T9.setTop (mkF m 81 #[.val (.int p1), .val (.int ch), .val (.int (ch - (48 : Int32))), .val (.int (0 : Int32)), .val (.int ((ch ||| (32 : Int32)) - (97 : Int32))), .val (.int (0 : Int32))] [(.int (1 : Int32))]))
          exact leafZ X9 hx Bd.notSynchronized Bd.returns (hb hby at_81) (by decide) (by decide) (by decide) ⟨rfl, N9⟩
set_option maxRecDepth 65536 in
set_option maxHeartbeats 40000000 in
theorem comes_1 {Post : Tables → Env → Array Value → State → Outcome → State → Prop} (hpost : ∀ tb e args s v u, (limb_1_1.after args s (.returned v) u = true ∧ limb_1_2.after args s (.returned v) u = true ∧ True) → FrameEnd s (.returned v) u (Jvm.fieldLocs frame_1_writes args s ++ Jvm.arrayLocs frame_1_arrays args s ++ Jvm.staticLocs frame_1_statics s) 0 0 → Post tb e args s (.returned v) u) :
    ArmFor flags0 classFile x code maxLocals ret World_1 tables_1 room_1 Calls_1 rest_1 Pre_1 Post := by
  intro l hfl _ _ p e ha hc hk s m args below hf hA hF happ hP
  obtain ⟨hcalls, hrest, hpre⟩ := hP
  obtain ⟨-, -, -, hnamed, -, -, -, hat⟩ := (Spec.applies_iff hf).mp happ
  obtain ⟨hg, hn⟩ := and_e (Cond.before_iff.mp (show (Jvm.Cond.and given_1 narrow_1).before args s = true from hpre))
  obtain ⟨hq, hr0⟩ := and_e hg
  obtain ⟨w0, rfl⟩ : ∃ w0 : Value, args = #[w0] := by
    have hs : args.size = 1 := by simpa [Cond.value, given_1] using hq
    obtain ⟨L⟩ := args
    match L, hs with
    | [w0], _ => exact ⟨w0, rfl⟩
  have hw := fun d (hd : d ∈ tables_1) => atoms_spec (ws := Jvm.Cond.code x code maxLocals ret :: tables_1) hat d (List.mem_cons_of_mem _ hd)
  obtain ⟨i0, q0⟩ := is_v hr0
  obtain rfl : w0 = (.int i0) := Option.some.inj q0
  obtain ⟨n, o, h1, h2, h3, _, L, rfl, ⟨rfl, N⟩, hq⟩ := rm0 l s _ hw tables_1 i0 s.heap s.heap.size (Nat.le_refl _) p e ha hc hk s m _ below hf ((Spec.applies_iff_loose hf).mp happ).1 ⟨rfl, State.Warmed39.refl s, rfl⟩ trivial
  refine ⟨n, _, h1, h2, h3, hpost _ _ _ _ _ _ ⟨Cond.after_iff.mpr rfl, Cond.after_iff.mpr (eq_i res_at (Term.int_eval (1)) rfl), trivial⟩ ⟨hq.1, hq.2.1, (hq.2.2.sift fun y hy => Or.inr (N y hy)).mono (by decide) (by decide)⟩⟩
theorem main_1_1 : Claimed_1_1 := comes_1 fun _ _ _ _ _ _ h hF => ⟨h.1, hF⟩
theorem main_1_2 : Claimed_1_2 := comes_1 fun _ _ _ _ _ _ h hF => ⟨h.2.1, hF⟩
end Jvm.Pilot.@@N@@
namespace Jvm.Pilot.@@N@@
open Jvm Jvm.ClassFile Sem Op Lib Jvm.Free Jvm.Stand Jvm.Pilot.@@N@@.Jvm.D
/-! MADE BY PROGRAM (witnessworld.py) out of the Statement's table words and the real class files: 9 classes; the members and pool entries that the words name. The judged class is class 1, her method 1. -/
namespace start1
open Jvm.ClassFile
def u (s : String) : CpInfo := .utf8 (stringToUtf16 s)
/-- a pool by its gaps: so many unusable entries, then the entry; so many at the end -/
def gap : Nat → List CpInfo → List CpInfo
  | 0, r => r
  | n + 1, r => .unusable :: gap n r
def poolList (es : List (Nat × CpInfo)) (last : Nat) : List CpInfo := es.foldr (fun e r => gap e.1 (e.2 :: r)) (gap last [])
def pool (es : List (Nat × CpInfo)) (last : Nat) : Array CpInfo := ⟨poolList es last⟩
def fileOf (pool : Array CpInfo) (this : Nat) (attrs : Array Attribute := #[]) (ms : Array MethodInfo := #[]) (fl : Nat := 33) (sup : Nat := 0) (ifs : Array Nat := #[]) (fds : Array FieldInfo := #[]) : ClassFile where
  minorVersion := 0
  majorVersion := 65
  constantPool := pool
  accessFlags := fl
  thisClass := this
  superClass := sup
  interfaces := ifs
  fields := fds
  methods := ms
  attributes := attrs
def plain (name : String) (sup : Option ClassId) : Class where
  name := name
  kind := .ordinary
  loader := none
  accessFlags := 33
  super := sup
  interfaces := #[]
  cf := none
  fields := #[]
  methods := #[]
  instanceTypes := #[]
  staticTypes := #[]
  resolved := #[]
  callSites := []
  init := .initialized
  statics := none
  mirror := none

def pool0 : Array CpInfo := pool [(5, u "<init>"), (0, u "()V"), (1, .class_ 10), (1, u "java/lang/Object")] 113

def k0m0 : Method := { name := "<init>", desc := "()V", sig := { parameters := [], returnType := none }, accessFlags := 1, code := none }
/-- java/lang/Object -/
def k0 : Class := { plain "java/lang/Object" none with
  accessFlags := 33
  interfaces := #[]
  cf := some (fileOf pool0 8 #[] #[{ accessFlags := 1, nameIndex := 5, descriptorIndex := 6, attributes := #[] }] 33 0 #[] #[])
  fields := #[]
  methods := #[k0m0]
  instanceTypes := #[]
  staticTypes := #[]
  resolved := Array.replicate 124 none
  statics := none }

def pool1 : Array CpInfo := pool [(2, .class_ 4), (1, u "java/lang/Object"), (0, u "<init>"), (0, u "()V"), (0, .integer 65535), (0, .methodref 9 10), (0, .class_ 11), (0, .nameAndType 12 13), (0, u "com/example/conformer/conformer/ClauseLabels"), (0, u "isLabelCharacter"), (0, u "(C)Z"), (0, .class_ 15), (0, u "com/example/conformer/conformer/ClauseLabelsIsLabelCharacterPinLaw"), (2, u "law"), (0, u "(I)Z")] 3

def k1m0 : Method := { name := "<init>", desc := "()V", sig := { parameters := [], returnType := none }, accessFlags := 2, code := none }
def k1c1 : Code := { maxStack := 2, maxLocals := 6, code := code, exceptionTable := #[], attributes := #[] }
def k1m1 : Method := { name := "law", desc := "(I)Z", sig := { parameters := [.int], returnType := some .boolean }, accessFlags := 9, code := some k1c1 }
/-- com/example/conformer/conformer/ClauseLabelsIsLabelCharacterPinLaw -/
def k1 : Class := { plain "com/example/conformer/conformer/ClauseLabelsIsLabelCharacterPinLaw" (some 0) with
  accessFlags := 49
  interfaces := #[]
  cf := some (fileOf pool1 14 #[] #[{ accessFlags := 2, nameIndex := 5, descriptorIndex := 6, attributes := #[] }, { accessFlags := 9, nameIndex := 18, descriptorIndex := 19, attributes := #[] }] 49 2 #[] #[])
  fields := #[]
  methods := #[k1m0, k1m1]
  instanceTypes := #[]
  staticTypes := #[]
  resolved := Array.replicate 23 none
  statics := none }

def pool2 : Array CpInfo := pool [(2, .class_ 4), (1, u "java/lang/Object"), (0, u "<init>"), (0, u "()V"), (1, .class_ 10), (1, u "com/example/conformer/conformer/ClauseLabels"), (20, u "isLabelCharacter"), (0, u "(C)Z"), (22, u "PART_INITIALS"), (0, u "Ljava/lang/String;"), (6, u "PART_WORD"), (0, u "Ljava/util/regex/Pattern;"), (6, u "RUN_INITIALS"), (2, u "RUN_WORD"), (6, u "JOINING_WORDS"), (0, u "Ljava/util/List;"), (61, u "PART_NAMES"), (38, u "RUN_WORDS")] 37

def k2m0 : Method := { name := "<init>", desc := "()V", sig := { parameters := [], returnType := none }, accessFlags := 2, code := none }
def k2c1 : Code := { maxStack := 2, maxLocals := 1, code := prog_1_method_9_code, exceptionTable := #[], attributes := #[] }
def k2m1 : Method := { name := "isLabelCharacter", desc := "(C)Z", sig := { parameters := [.char], returnType := some .boolean }, accessFlags := 8, code := some k2c1 }
/-- com/example/conformer/conformer/ClauseLabels -/
def k2 : Class := { plain "com/example/conformer/conformer/ClauseLabels" (some 0) with
  accessFlags := 32
  interfaces := #[]
  cf := some (fileOf pool2 8 #[] #[{ accessFlags := 2, nameIndex := 5, descriptorIndex := 6, attributes := #[] }, { accessFlags := 8, nameIndex := 31, descriptorIndex := 32, attributes := #[] }] 32 2 #[] #[{ accessFlags := 26, nameIndex := 144, descriptorIndex := 82, attributes := #[] }, { accessFlags := 26, nameIndex := 63, descriptorIndex := 64, attributes := #[] }, { accessFlags := 26, nameIndex := 55, descriptorIndex := 56, attributes := #[] }, { accessFlags := 26, nameIndex := 183, descriptorIndex := 82, attributes := #[] }, { accessFlags := 26, nameIndex := 74, descriptorIndex := 64, attributes := #[] }, { accessFlags := 26, nameIndex := 71, descriptorIndex := 56, attributes := #[] }, { accessFlags := 26, nameIndex := 81, descriptorIndex := 82, attributes := #[] }])
  fields := #[{ name := "PART_NAMES", type := (.object "java/util/List"), accessFlags := 26, slot := 0, constantValue := 0 }, { name := "PART_WORD", type := (.object "java/util/regex/Pattern"), accessFlags := 26, slot := 1, constantValue := 0 }, { name := "PART_INITIALS", type := (.object "java/lang/String"), accessFlags := 26, slot := 2, constantValue := 0 }, { name := "RUN_WORDS", type := (.object "java/util/List"), accessFlags := 26, slot := 3, constantValue := 0 }, { name := "RUN_WORD", type := (.object "java/util/regex/Pattern"), accessFlags := 26, slot := 4, constantValue := 0 }, { name := "RUN_INITIALS", type := (.object "java/lang/String"), accessFlags := 26, slot := 5, constantValue := 0 }, { name := "JOINING_WORDS", type := (.object "java/util/List"), accessFlags := 26, slot := 6, constantValue := 0 }]
  methods := #[k2m0, k2m1]
  instanceTypes := #[]
  staticTypes := #[(.object "java/util/List"), (.object "java/util/regex/Pattern"), (.object "java/lang/String"), (.object "java/util/List"), (.object "java/util/regex/Pattern"), (.object "java/lang/String"), (.object "java/util/List")]
  resolved := Array.replicate 221 none
  statics := none }

def pool3 : Array CpInfo := pool [(1, u "java/lang/Cloneable"), (0, .class_ 1), (0, u "java/lang/Object"), (0, .class_ 3)] 3

/-- java/lang/Cloneable -/
def k3 : Class := { plain "java/lang/Cloneable" (some 0) with
  accessFlags := 1537
  interfaces := #[]
  cf := some (fileOf pool3 2 #[] #[] 1537 4 #[] #[])
  fields := #[]
  methods := #[]
  instanceTypes := #[]
  staticTypes := #[]
  resolved := Array.replicate 8 none
  statics := none }

def pool4 : Array CpInfo := pool [(1, u "java/io/Serializable"), (0, .class_ 1), (0, u "java/lang/Object"), (0, .class_ 3)] 3

/-- java/io/Serializable -/
def k4 : Class := { plain "java/io/Serializable" (some 0) with
  accessFlags := 1537
  interfaces := #[]
  cf := some (fileOf pool4 2 #[] #[] 1537 4 #[] #[])
  fields := #[]
  methods := #[]
  instanceTypes := #[]
  staticTypes := #[]
  resolved := Array.replicate 8 none
  statics := none }

/-- the primitive byte -/
def k5 : Class := { plain "byte" none with kind := .primitive 'B', accessFlags := 0x411 }
/-- [B -/
def k6 : Class := { plain "[B" (some 0) with kind := .array 5 .byte, interfaces := #[3, 4], accessFlags := 1041 }

/-- the primitive int -/
def k7 : Class := { plain "int" none with kind := .primitive 'I', accessFlags := 0x411 }
/-- [I -/
def k8 : Class := { plain "[I" (some 0) with kind := .array 7 .int, interfaces := #[3, 4], accessFlags := 1041 }

def heap : Heap := #[]
def classes : Array Class := #[k0, k1, k2, k3, k4, k5, k6, k7, k8]
def interned : List (Array UInt16 × Addr) := []
def slotsUsed : Nat := 0
def theMethod : MethodId := ⟨1, 1⟩
def args0 : Array Value := #[.int 65]
def aboutOver (below : List Frame) : State where
  vm := { classes := classes, interned := interned.toArray }
  heap := heap
  slotsUsed := slotsUsed
  threads := #[{ frames := .invoking theMethod args0 :: below }]
def below0 : List Frame := [.native { method := ⟨0, 0⟩, args := #[] }]
def about1 : State := aboutOver below0
def p0 : Program := .bare "" "" ""
def e0 : Env := launch0.env 0 0 0
theorem w_frames : about1.frames = Frame.invoking theMethod args0 :: below0 := rfl
set_option maxRecDepth 65536 in
theorem w_args : argsFit about1.vm theMethod args0 = true := by decide +kernel
set_option maxRecDepth 65536 in
theorem w_heap : heapFits about1 = true := by decide +kernel
set_option maxRecDepth 65536 in
theorem w_runnable : about1.curStatus? = some .runnable := by decide +kernel
set_option maxRecDepth 65536 in
theorem w_alone : about1.alone = true := by decide +kernel
set_option maxRecDepth 65536 in
theorem w_named : about1.methodNamed? x = some theMethod := by decide +kernel
set_option maxRecDepth 65536 in
theorem w_hears : about1.hears theMethod below0 = true := by decide +kernel
set_option maxRecDepth 65536 in
theorem w_ripe : about1.ripe theMethod args0 below0 = true := by decide +kernel
theorem w_running : about1.status = .running := rfl
set_option maxRecDepth 65536 in
theorem w_room : about1.hasRoom e0.platform room_1 = true :=
  launch0.hasRoom_least _ room_1 (by decide +kernel) (by decide +kernel) (by decide +kernel) (by decide +kernel) (by decide +kernel) (by decide +kernel)
theorem allAtoms_all (ts : List Jvm.Cond) (a : Array Jvm.Value) (st : Jvm.State) : (allAtoms ts).before a st = ts.all (fun c => c.before a st) := by
  induction ts with
  | nil => rfl
  | cons c t ih =>
    show (Jvm.Cond.and c (allAtoms t)).before a st = _
    rw [Jvm.Cond.before_and, ih, List.all_cons]
def words1 : List Jvm.Cond := Jvm.Cond.code x code maxLocals ret :: tables_1
/-- a 'code' word, met by the world's own term for the bytes: nothing is compared byte by byte -/
theorem code_word {y : MethodName} {bytes : ByteArray} {mx : Nat} {rt : Option FieldType} {a : Array Value} {s : State} {m : MethodId} {meth : Method} {c : Code} (h1 : s.methodNamed? y = some m) (h2 : s.vm.method? m = some meth) (h3 : meth.code = some c) (h4 : c.code = bytes)
    (h5 : (c.maxLocals == mx && c.exceptionTable.isEmpty && decide (c.maxStack ≤ mostOperands) && decide (meth.sig.returnType = rt) && !meth.locks && decide (parseMethodDescriptor y.desc = some meth.sig)) = true) : (Jvm.Cond.code y bytes mx rt).before a s = true := by
  simp only [Bool.and_eq_true, beq_iff_eq, Bool.not_eq_true', decide_eq_true_eq] at h5
  obtain ⟨⟨⟨⟨⟨g1, g2⟩, g3⟩, g4⟩, g5⟩, g6⟩ := h5
  simp [Cond.before, Cond.holds, Cond.value, h1, h2, h3, h4, g1, g2, g3, g4, g5, g6]
def isCode : Jvm.Cond → Bool
  | .code _ _ _ _ => true
  | _ => false
theorem all_split {L : List Jvm.Cond} {P : Jvm.Cond → Bool} (h1 : L.all (fun c => isCode c || P c) = true) (h2 : ∀ c ∈ L.filter isCode, P c = true) : L.all P = true := by
  refine List.all_eq_true.mpr fun c hc => ?_
  have h := List.all_eq_true.mp h1 c hc
  rcases Bool.eq_false_or_eq_true (isCode c) with hi | hi
  · exact h2 c (List.mem_filter.mpr ⟨hc, hi⟩)
  · simpa [hi] using h
set_option maxRecDepth 65536 in
theorem w_c0 : (Jvm.Cond.code x code maxLocals ret).before args0 about1 = true := code_word (m := ⟨1, 1⟩) (meth := k1m1) (c := k1c1) (by decide +kernel) rfl rfl rfl (by decide +kernel)
set_option maxRecDepth 65536 in
theorem w_c1 : (Jvm.Cond.code ({ cls := "com/example/conformer/conformer/ClauseLabels", name := "isLabelCharacter", desc := "(C)Z" } : Jvm.MethodName) prog_1_method_9_code (1 : Nat) (Option.some Jvm.ClassFile.FieldType.boolean)).before args0 about1 = true := code_word (m := ⟨2, 1⟩) (meth := k2m1) (c := k2c1) (by decide +kernel) rfl rfl rfl (by decide +kernel)
def codes1 : List Jvm.Cond := [Jvm.Cond.code x code maxLocals ret, Jvm.Cond.code ({ cls := "com/example/conformer/conformer/ClauseLabels", name := "isLabelCharacter", desc := "(C)Z" } : Jvm.MethodName) prog_1_method_9_code (1 : Nat) (Option.some Jvm.ClassFile.FieldType.boolean)]
set_option maxRecDepth 65536 in
theorem codes_eq : words1.filter isCode = codes1 := rfl
theorem w_codes : ∀ c ∈ words1.filter isCode, c.before args0 about1 = true := by
  rw [codes_eq]
  intro c hc
  simp only [codes1, List.mem_cons, List.not_mem_nil, or_false] at hc
  rcases hc with rfl | rfl
  · exact w_c0
  · exact w_c1
set_option maxRecDepth 65536 in
theorem w_t1 : words1.all (fun c => isCode c || c.before args0 about1) = true := by decide +kernel
theorem w_tables : (allAtoms (Jvm.Cond.code x code maxLocals ret :: tables_1)).before args0 about1 = true := by
  rw [allAtoms_all]
  show words1.all (fun c => c.before args0 about1) = true
  refine all_split ?_ w_codes
  rw [w_t1]
set_option maxRecDepth 65536 in
theorem w_case : (Jvm.Cond.and given_1 narrow_1).before args0 about1 = true := by decide +kernel
theorem w_applies : (headSpec (Jvm.Cond.code x code maxLocals ret :: tables_1) room_1).applies x e0.platform about1 = true :=
  (Spec.applies_iff w_frames).mpr ⟨w_running, w_runnable, w_alone, w_named, w_hears, w_ripe, w_room, w_tables⟩
theorem atStart : AtStart classFile x code maxLocals ret World_1 tables_1 room_1 Calls_1 rest_1 Pre_1 launch0 p0 e0 about1 theMethod args0 below0 :=
  ⟨lists_1, trivial, launch0.admits_env _ _ _, launch0.least_env, fairChoices_fair.cas, fairChoices_fair.clock, w_frames, w_args, w_heap, w_applies, trivial, trivial, w_case⟩
end start1
theorem witness_1 : WitnessClaimed_1 := ⟨start1.p0, start1.e0, start1.about1, start1.theMethod, start1.args0, start1.below0, start1.atStart⟩
end Jvm.Pilot.@@N@@
