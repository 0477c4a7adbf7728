import JvmDerived
import JvmDerived.Pilot.@@N@@Statement
import JvmDerived.Pilot.@@N@@Code
set_option linter.unusedVariables false
set_option linter.unusedSimpArgs false
namespace Jvm.Pilot.@@N@@
open Jvm Jvm.ClassFile Sem Op Lib Jvm.Free Jvm.Stand Jvm.LawKit Jvm.RoadKit Bundle Jvm.Pilot.@@N@@.Jvm.D
/-! own kit: the walk's goal as one word (Goes), the end of a body (Ends), the five returns -/
section OwnKit
/-- from S the run comes to some state and outcome of which P holds -/
def Goes (tb : Tables) (e : Env) (below : List Frame) (P : State → Outcome → Prop) (S : State) : Prop := ∃ t o, Steps tb e below S t ∧ P t o
/-- what a body owes at its end -/
def Ends (below : List Frame) (s : State) (Q : Option Value → Heap → List Loc → Prop) (kc ks : Nat) (t : State) (o : Outcome) : Prop :=
  t.status = .running ∧ Ended t below o ∧ ∃ v L, o = .returned v ∧ Q v t.heap L ∧ FrameEnd s o t L kc ks
theorem Goes.st {tb : Tables} {e : Env} {below : List Frame} {P : State → Outcome → Prop} {S S' : State} (h : ∀ target, Steps tb e below S' target → Steps tb e below S target) (k : Goes tb e below P S') : Goes tb e below P S :=
  let ⟨t, o, h1, h2⟩ := k; ⟨t, o, h t h1, h2⟩
theorem Goes.tr {tb : Tables} {e : Env} {below : List Frame} {P : State → Outcome → Prop} {S S' : State} (h : Steps tb e below S S') (k : Goes tb e below P S') : Goes tb e below P S :=
  let ⟨t, o, h1, h2⟩ := k; ⟨t, o, h.trans h1, h2⟩
theorem Goes.cast {tb : Tables} {e : Env} {below : List Frame} {P : State → Outcome → Prop} {T : State} {g g' : JFrame} (q : g = g') (k : Goes tb e below P (T.setTop g')) : Goes tb e below P (T.setTop g) := q ▸ k
variable {p : Program} {l : Launch} {e : Env} {R : Room} {s : State} {m : MethodId} {args : Array Value} {below : List Frame} {meth : Method} {c : Code} {T : State} {locs : List Loc} {cells slots : Nat}
theorem own_out (X : Stand p l e R s m args below meth c T locs cells slots) {v : Option Value} (hv : meth.sig.returnType = none → v = none) (hlk : meth.locks = false) {S : State} {Q : Option Value → Heap → List Loc → Prop} {kc ks : Nat} (hc : cells ≤ kc) (hs : slots ≤ ks) (hQ : Q v T.heap locs)
    (go : ∀ fs, (∀ (f : JFrame) (acts : List Action), f.method = m → f.locked = none → f.entered = [] → (doReturn e (T.setTop f) acts v).1 = T.setFrames fs) → Steps p.tables e below S (T.setFrames fs)) : Goes p.tables e below (Ends below s Q kc ks) S := by
  obtain ⟨fs, hr, hrun, hended, hW, hsame⟩ := X.leave (v := v) hv hlk
  exact ⟨_, _, go fs hr, hrun, hended, _, _, rfl, hQ, ⟨_, rfl⟩, hW, hsame.mono hc hs⟩
/-- ireturn of a boolean -/
theorem leafZ (X : Stand p l e R s m args below meth c T locs cells slots) (hx : p.tables.exec = Jvm.exec) (hlk : meth.locks = false) (hret : meth.sig.returnType = some .boolean) {pc : Nat} {Ls : Array Slot} {z : Int32} {rest : List Value} (hd : decode c.code pc = .ok (.ireturn, 1)) (hz : z = 0 ∨ z = 1)
    {Q : Option Value → Heap → List Loc → Prop} {kc ks : Nat} (hc : cells ≤ kc) (hs : slots ≤ ks) (hQ : Q (some (.int z)) T.heap locs) : Goes p.tables e below (Ends below s Q kc ks) (T.setTop (mkF m pc Ls (.int z :: rest))) :=
  own_out X (fun h => by rw [hret] at h; cases h) hlk hc hs hQ fun fs hr => retOut X hx hret (by rcases hz with rfl | rfl <;> rfl) (Or.inl ⟨rfl, Or.inr (Or.inl rfl), z, rfl⟩) hd hr
/-- ireturn of an int -/
theorem leafI (X : Stand p l e R s m args below meth c T locs cells slots) (hx : p.tables.exec = Jvm.exec) (hlk : meth.locks = false) (hret : meth.sig.returnType = some .int) {pc : Nat} {Ls : Array Slot} {z : Int32} {rest : List Value} (hd : decode c.code pc = .ok (.ireturn, 1))
    {Q : Option Value → Heap → List Loc → Prop} {kc ks : Nat} (hc : cells ≤ kc) (hs : slots ≤ ks) (hQ : Q (some (.int z)) T.heap locs) : Goes p.tables e below (Ends below s Q kc ks) (T.setTop (mkF m pc Ls (.int z :: rest))) :=
  own_out X (fun h => by rw [hret] at h; cases h) hlk hc hs hQ fun fs hr => retOut X hx hret rfl (Or.inl ⟨rfl, Or.inl rfl, z, rfl⟩) hd hr
/-- lreturn -/
theorem leafJ (X : Stand p l e R s m args below meth c T locs cells slots) (hx : p.tables.exec = Jvm.exec) (hlk : meth.locks = false) (hret : meth.sig.returnType = some .long) {pc : Nat} {Ls : Array Slot} {z : Int64} {rest : List Value} (hd : decode c.code pc = .ok (.lreturn, 1))
    {Q : Option Value → Heap → List Loc → Prop} {kc ks : Nat} (hc : cells ≤ kc) (hs : slots ≤ ks) (hQ : Q (some (.long z)) T.heap locs) : Goes p.tables e below (Ends below s Q kc ks) (T.setTop (mkF m pc Ls (.long z :: rest))) :=
  own_out X (fun h => by rw [hret] at h; cases h) hlk hc hs hQ fun fs hr => retOut X hx hret rfl (Or.inr (Or.inl ⟨rfl, rfl, z, rfl⟩)) hd hr
/-- areturn -/
theorem leafA (X : Stand p l e R s m args below meth c T locs cells slots) (hx : p.tables.exec = Jvm.exec) (hlk : meth.locks = false) {t : FieldType} (hret : meth.sig.returnType = some t) (ht : t.isReference = true) {pc : Nat} {Ls : Array Slot} {w : Value} (hw : w.isRef = true) {rest : List Value} (hd : decode c.code pc = .ok (.areturn, 1))
    {Q : Option Value → Heap → List Loc → Prop} {kc ks : Nat} (hc : cells ≤ kc) (hs : slots ≤ ks) (hQ : Q (some w) T.heap locs) : Goes p.tables e below (Ends below s Q kc ks) (T.setTop (mkF m pc Ls (w :: rest))) :=
  own_out X (fun h => by rw [hret] at h; cases h) hlk hc hs hQ fun fs hr => retOut X hx hret (by rcases ref_cases hw with rfl | ⟨a, rfl⟩ <;> cases t <;> rfl) (Or.inr (Or.inr (Or.inr (Or.inr ⟨rfl, ht, hw⟩)))) hd hr
/-- return of nothing -/
theorem leafN (X : Stand p l e R s m args below meth c T locs cells slots) (hx : p.tables.exec = Jvm.exec) (hlk : meth.locks = false) (hret : meth.sig.returnType = none) {pc : Nat} {Ls : Array Slot} (hd : decode c.code pc = .ok (.return_, 1))
    {Q : Option Value → Heap → List Loc → Prop} {kc ks : Nat} (hc : cells ≤ kc) (hs : slots ≤ ks) (hQ : Q none T.heap locs) : Goes p.tables e below (Ends below s Q kc ks) (T.setTop (mkF m pc Ls [])) :=
  own_out X (fun _ => rfl) hlk hc hs hQ fun fs hr => X.returnOut hx hret hd hr
end OwnKit
theorem d1_0 : decode prog_22_method_13_code 0 = .ok (.iload_n 0, 1) := by decide +kernel
theorem d1_1 : decode prog_22_method_13_code 1 = .ok (.ldc 76, 2) := by decide +kernel
theorem d1_3 : decode prog_22_method_13_code 3 = .ok (.if_icmp .le 17, 3) := by decide +kernel
theorem d1_20 : decode prog_22_method_13_code 20 = .ok (.return_, 1) := by decide +kernel
theorem pn_1 : plainFor (⟨"com/example/wary_surfer/warysurfer/Graph", "checkPageCount", "(I)V"⟩ : MethodName) = true := by decide +kernel
theorem pd_1 : parseMethodDescriptor "(I)V" = some ⟨[.int], none⟩ := by decide +kernel
theorem pn_0 : plainFor x = true := by decide +kernel
theorem pd_0 : parseMethodDescriptor "(I)Z" = some ⟨[.int], (some .boolean)⟩ := by decide +kernel
theorem own_le (x : Int32) : ¬ ((2147483638 : Int32) < (2147483638 : Int32) - (x &&& 7)) := by
  have h1 := c_mask x 7 3 (by decide) (by decide)
  have h2 := c_isub (2147483638 : Int32) (x &&& 7)
  have h3 := rng32 ((2147483638 : Int32) - (x &&& 7))
  rw [Int32.lt_iff_toInt_lt]
  simp only [Int32.reduceToInt] at *
  omega
theorem ef_1 (m : MethodId) (p1 : Int32) : entryFrame m #[(.int p1)] 1 = mkF m 0 #[.val (.int p1)] [] := by first | (simp [entryFrame, mkF, argsToLocals, Value.category, maxLocals]; done) | rfl
def Q1 (Z : State) (p1 : Int32)  (h0 : Heap) (n0 : Nat) (v : Option Value) (h : Heap) (L : List Loc) : Prop := v = none ∧ Fr n0 L ∧ h = h0
set_option maxRecDepth 65536 in
set_option maxHeartbeats 40000000 in
theorem rm1 (l : Launch) (Z : State) (a0 : Array Value) (hw : ∀ d ∈ tables_1, d.before a0 Z = true) (ws : List Jvm.Cond) (p1 : Int32)  (h0 : Heap) (n0 : Nat) (Z0 : n0 ≤ h0.size) (hp : ¬ ((2147483638 : Int32) < p1)) :
    MetFree l (⟨"com/example/wary_surfer/warysurfer/Graph", "checkPageCount", "(I)V"⟩ : MethodName) (head1 (Jvm.Cond.code (⟨"com/example/wary_surfer/warysurfer/Graph", "checkPageCount", "(I)V"⟩ : MethodName) prog_22_method_13_code 1 none :: ws) ({ frames := 0, cells := 0, slots := 0, locals := 0 } : Room)) (fun a U => a = #[(.int p1)] ∧ Z.Warmed39 U.vm ∧ U.heap = h0) (fun _ _ _ _ _ => True) (fun _ U o U' => ∃ v L, o = .returned v ∧ Q1 Z p1  h0 n0 v U'.heap L ∧ FrameEnd U o U' L ({ frames := 0, cells := 0, slots := 0, locals := 0 } : Room).cells ({ frames := 0, cells := 0, slots := 0, locals := 0 } : Room).slots) := by
  refine MetFree.of_bodySF pn_1 hisR ?_
  intro p e s m args below meth c s₁ Bd hml0 hP hK
  obtain ⟨rfl, hZ, hh⟩ := hP
  have hx := Bd.exec
  have hby := Bd.bytes
  have hml : c.maxLocals = 1 := hml0
  have hown : s.vm.findClass "com/example/wary_surfer/warysurfer/Graph" = some m.cls := findClass_of_methodNamed Bd.named
  have hnm := (name_of_methodNamed Bd.named Bd.method).1
  have X0 : Stand p l e ({ frames := 0, cells := 0, slots := 0, locals := 0 } : Room) s m #[(.int p1)] below meth c s₁ [] 0 0 := Stand.of_body Bd
  have e0 : s₁.heap = h0 := by rw [← hh, Bd.state]; rfl
  have N0 := Fr.nil n0
  show Goes p.tables e below (Ends below s (Q1 Z p1  h0 n0) ({ frames := 0, cells := 0, slots := 0, locals := 0 } : Room).cells ({ frames := 0, cells := 0, slots := 0, locals := 0 } : Room).slots) (s₁.setTop (entryFrame m #[(.int p1)] 1))
  refine Goes.cast (ef_1 m p1) ?_
  refine Goes.st (fun _ k => XS.iloadN X0.here hx rfl (hb hby d1_0) rfl k) ?_
  show Goes _ _ _ _ (s₁.setTop (mkF m 1 #[.val (.int p1)] [(.int p1)]))
  refine Goes.st (X0.ldcInt hx (v := (2147483638 : Int32)) hown (mv hZ (hw _ (List.mem_of_getElem? (i := 5) rfl))) (g := (mkF m 1 #[.val (.int p1)] [(.int p1)])) rfl (hb hby d1_1)) ?_
  show Goes _ _ _ _ (s₁.setTop (mkF m 3 #[.val (.int p1)] [(.int (2147483638 : Int32)), (.int p1)]))
  refine Goes.st (fun _ k => XS.icmpYes X0.here hx rfl (pc0 := 3) (pc' := 20) rfl (hb hby d1_3) rfl (flt hp).2.2.2 (by decide) (by decide) k) ?_
  show Goes _ _ _ _ (s₁.setTop (mkF m 20 #[.val (.int p1)] []))
  exact leafN X0 hx Bd.notSynchronized Bd.returns (hb hby d1_20) (by decide) (by decide) ⟨rfl, N0, e0⟩
theorem ef_0 (m : MethodId) (p1 : Int32) : entryFrame m #[(.int p1)] maxLocals = mkF m 0 #[.val (.int p1), .unset, .unset] [] := by first | (simp [entryFrame, mkF, argsToLocals, Value.category, maxLocals]; done) | rfl
def Q0 (Z : State) (p1 : Int32)  (h0 : Heap) (n0 : Nat) (v : Option Value) (h : Heap) (L : List Loc) : Prop := v = some (.int (1 : Int32)) ∧ Fr n0 L
set_option maxRecDepth 65536 in
set_option maxHeartbeats 40000000 in
theorem rm0 (l : Launch) (Z : State) (a0 : Array Value) (hw : ∀ d ∈ tables_1, d.before a0 Z = true) (ws : List Jvm.Cond) (p1 : Int32)  (h0 : Heap) (n0 : Nat) (Z0 : n0 ≤ h0.size)  :
    MetFree l x (head1 (Jvm.Cond.code x code maxLocals ret :: ws) room_1) (fun a U => a = #[(.int p1)] ∧ Z.Warmed39 U.vm ∧ U.heap = h0) (fun _ _ _ _ _ => True) (fun _ U o U' => ∃ v L, o = .returned v ∧ Q0 Z p1  h0 n0 v U'.heap L ∧ FrameEnd U o U' L room_1.cells room_1.slots) := by
  refine MetFree.of_bodySF pn_0 hisR ?_
  intro p e s m args below meth c s₁ Bd hml0 hP hK
  obtain ⟨rfl, hZ, hh⟩ := hP
  have hx := Bd.exec
  have hby := Bd.bytes
  have hml : c.maxLocals = 3 := hml0
  have hown : s.vm.findClass "com/example/wary_surfer/warysurfer/GraphCheckPageCountPinLaw" = some m.cls := findClass_of_methodNamed Bd.named
  have hnm := (name_of_methodNamed Bd.named Bd.method).1
  have X0 : Stand p l e room_1 s m #[(.int p1)] below meth c s₁ [] 0 0 := Stand.of_body Bd
  have e0 : s₁.heap = h0 := by rw [← hh, Bd.state]; rfl
  have N0 := Fr.nil n0
  show Goes p.tables e below (Ends below s (Q0 Z p1  h0 n0) room_1.cells room_1.slots) (s₁.setTop (entryFrame m #[(.int p1)] maxLocals))
  refine Goes.cast (ef_0 m p1) ?_
  refine Goes.st (X0.ldcInt hx (v := (2147483638 : Int32)) hown (mv hZ (hw _ (List.mem_of_getElem? (i := 0) rfl))) (g := (mkF m 0 #[.val (.int p1), .unset, .unset] [])) rfl (hb hby at_0)) ?_
  show Goes _ _ _ _ (s₁.setTop (mkF m 2 #[.val (.int p1), .unset, .unset] [(.int (2147483638 : Int32))]))
  refine Goes.st (fun _ k => XS.istoreN X0.here hx rfl (hb hby at_2) rfl (l' := #[.val (.int p1), .val (.int (2147483638 : Int32)), .unset]) rfl k) ?_
  show Goes _ _ _ _ (s₁.setTop (mkF m 3 #[.val (.int p1), .val (.int (2147483638 : Int32)), .unset] []))
  refine Goes.st (fun _ k => XS.iloadN X0.here hx rfl (hb hby at_3) rfl k) ?_
  show Goes _ _ _ _ (s₁.setTop (mkF m 4 #[.val (.int p1), .val (.int (2147483638 : Int32)), .unset] [(.int p1)]))
  refine Goes.st (fun _ k => XS.iloadN X0.here hx rfl (hb hby at_4) rfl k) ?_
  show Goes _ _ _ _ (s₁.setTop (mkF m 5 #[.val (.int p1), .val (.int (2147483638 : Int32)), .unset] [(.int (2147483638 : Int32)), (.int p1)]))
  by_cases hc : (2147483638 : Int32) < p1
  · skip
    refine Goes.st (fun _ k => XS.icmpYes X0.here hx rfl (pc0 := 5) (pc' := 12) rfl (hb hby at_5) rfl (tlt hc).2.2.1 (by decide) (by decide) k) ?_
    show Goes _ _ _ _ (s₁.setTop (mkF m 12 #[.val (.int p1), .val (.int (2147483638 : Int32)), .unset] []))
    refine Goes.st (fun _ k => XS.iloadN X0.here hx rfl (hb hby at_12) rfl k) ?_
    show Goes _ _ _ _ (s₁.setTop (mkF m 13 #[.val (.int p1), .val (.int (2147483638 : Int32)), .unset] [(.int (2147483638 : Int32))]))
    refine Goes.st (fun _ k => XS.iloadN X0.here hx rfl (hb hby at_13) rfl k) ?_
    show Goes _ _ _ _ (s₁.setTop (mkF m 14 #[.val (.int p1), .val (.int (2147483638 : Int32)), .unset] [(.int p1), (.int (2147483638 : Int32))]))
    refine Goes.st (fun _ k => XS.bipush X0.here hx rfl (hb hby at_14) k) ?_
    show Goes _ _ _ _ (s₁.setTop (mkF m 16 #[.val (.int p1), .val (.int (2147483638 : Int32)), .unset] [(.int (7 : Int32)), (.int p1), (.int (2147483638 : Int32))]))
    refine Goes.st (fun _ k => XS.iand X0.here hx rfl (hb hby at_16) rfl k) ?_
    show Goes _ _ _ _ (s₁.setTop (mkF m 17 #[.val (.int p1), .val (.int (2147483638 : Int32)), .unset] [(.int (p1 &&& (7 : Int32))), (.int (2147483638 : Int32))]))
    refine Goes.st (fun _ k => XS.isub X0.here hx rfl (hb hby at_17) rfl k) ?_
    show Goes _ _ _ _ (s₁.setTop (mkF m 18 #[.val (.int p1), .val (.int (2147483638 : Int32)), .unset] [(.int ((2147483638 : Int32) - (p1 &&& (7 : Int32))))]))
    refine Goes.st (fun _ k => XS.istoreN X0.here hx rfl (hb hby at_18) rfl (l' := #[.val (.int p1), .val (.int (2147483638 : Int32)), .val (.int ((2147483638 : Int32) - (p1 &&& (7 : Int32))))]) rfl k) ?_
    show Goes _ _ _ _ (s₁.setTop (mkF m 19 #[.val (.int p1), .val (.int (2147483638 : Int32)), .val (.int ((2147483638 : Int32) - (p1 &&& (7 : Int32))))] []))
    refine Goes.st (fun _ k => XS.iloadN X0.here hx rfl (hb hby at_19) rfl k) ?_
    show Goes _ _ _ _ (s₁.setTop (mkF m 20 #[.val (.int p1), .val (.int (2147483638 : Int32)), .val (.int ((2147483638 : Int32) - (p1 &&& (7 : Int32))))] [(.int ((2147483638 : Int32) - (p1 &&& (7 : Int32))))]))
    obtain ⟨_, _, ⟨T1, L1, k1, n1⟩, -, X1, ⟨Lc1, hQ1, l1, y1, z1⟩, st1⟩ := Jvm.LawKit.callS X0 hx (y := (⟨"com/example/wary_surfer/warysurfer/Graph", "checkPageCount", "(I)V"⟩ : MethodName)) hown (mvT hZ (hw _ (List.mem_of_getElem? (i := 1) rfl))) (mvT hZ (hw _ (List.mem_of_getElem? (i := 2) rfl))) (mvT hZ (hw _ (List.mem_of_getElem? (i := 3) rfl))) (mvT hZ (hw _ (List.mem_of_getElem? (i := 4) rfl))) (by decide) (backOf (W := 0) (rm1 l Z a0 hw [] ((2147483638 : Int32) - (p1 &&& (7 : Int32))) h0 n0 Z0 (own_le p1)) hZ (hw _ (List.mem_of_getElem? (i := 4) rfl)) (hw _ (List.mem_of_getElem? (i := 3) rfl)) (by decide) (by decide)) (g := (mkF m 20 #[.val (.int p1), .val (.int (2147483638 : Int32)), .val (.int ((2147483638 : Int32) - (p1 &&& (7 : Int32))))] [(.int ((2147483638 : Int32) - (p1 &&& (7 : Int32))))])) rfl (by rw [hml]; rfl) (argsL := [(.int ((2147483638 : Int32) - (p1 &&& (7 : Int32))))]) (rest := []) (lenOf pd_1 rfl) rfl (by show 2 * 0 + _ ≤ _; exact Nat.le_of_eq rfl) (hb hby at_20) (fun _ _ => ⟨rfl, e0, (by decide : 0 + 0 ≤ _), (by decide : 0 + 0 ≤ _)⟩)
    dsimp only [Pt.U, Pt.locs, Pt.cells, Pt.slots] at X1 l1 y1 z1 st1 hQ1
    subst l1 y1 z1
    obtain ⟨rfl, Nq1, eq1⟩ := hQ1
    have N1 := Fr.app N0 Nq1
    refine Goes.st st1 ?_
    show Goes _ _ _ _ (T1.setTop (mkF m 23 #[.val (.int p1), .val (.int (2147483638 : Int32)), .val (.int ((2147483638 : Int32) - (p1 &&& (7 : Int32))))] []))
    refine Goes.st (fun _ k => XS.iloadN X1.here hx rfl (hb hby at_23) rfl k) ?_
    show Goes _ _ _ _ (T1.setTop (mkF m 24 #[.val (.int p1), .val (.int (2147483638 : Int32)), .val (.int ((2147483638 : Int32) - (p1 &&& (7 : Int32))))] [(.int ((2147483638 : Int32) - (p1 &&& (7 : Int32))))]))
    refine Goes.st (fun _ k => XS.iloadN X1.here hx rfl (hb hby at_24) rfl k) ?_
    show Goes _ _ _ _ (T1.setTop (mkF m 25 #[.val (.int p1), .val (.int (2147483638 : Int32)), .val (.int ((2147483638 : Int32) - (p1 &&& (7 : Int32))))] [(.int (2147483638 : Int32)), (.int ((2147483638 : Int32) - (p1 &&& (7 : Int32))))]))
    refine Goes.st (fun _ k => XS.icmpNo X1.here hx rfl (hb hby at_25) rfl (flt (own_le p1)).2.2.1 k) ?_
    show Goes _ _ _ _ (T1.setTop (mkF m 28 #[.val (.int p1), .val (.int (2147483638 : Int32)), .val (.int ((2147483638 : Int32) - (p1 &&& (7 : Int32))))] []))
    refine Goes.st (fun _ k => XS.iconst X1.here hx rfl (hb hby at_28) k) ?_
    show Goes _ _ _ _ (T1.setTop (mkF m 29 #[.val (.int p1), .val (.int (2147483638 : Int32)), .val (.int ((2147483638 : Int32) - (p1 &&& (7 : Int32))))] [(.int (1 : Int32))]))
    refine Goes.st (fun _ k => XS.goto X1.here hx rfl (pc0 := 29) (pc' := 33) rfl (hb hby at_29) (by decide) (by decide) k) ?_
    show Goes _ _ _ _ (T1.setTop (mkF m 33 #[.val (.int p1), .val (.int (2147483638 : Int32)), .val (.int ((2147483638 : Int32) - (p1 &&& (7 : Int32))))] [(.int (1 : Int32))]))
    exact leafZ X1 hx Bd.notSynchronized Bd.returns (hb hby at_33) (by decide) (by decide) (by decide) ⟨rfl, N1⟩
  · skip
    refine Goes.st (fun _ k => XS.icmpNo X0.here hx rfl (hb hby at_5) rfl (flt hc).2.2.1 k) ?_
    show Goes _ _ _ _ (s₁.setTop (mkF m 8 #[.val (.int p1), .val (.int (2147483638 : Int32)), .unset] []))
    refine Goes.st (fun _ k => XS.iloadN X0.here hx rfl (hb hby at_8) rfl k) ?_
    show Goes _ _ _ _ (s₁.setTop (mkF m 9 #[.val (.int p1), .val (.int (2147483638 : Int32)), .unset] [(.int p1)]))
    refine Goes.st (fun _ k => XS.goto X0.here hx rfl (pc0 := 9) (pc' := 18) rfl (hb hby at_9) (by decide) (by decide) k) ?_
    show Goes _ _ _ _ (s₁.setTop (mkF m 18 #[.val (.int p1), .val (.int (2147483638 : Int32)), .unset] [(.int p1)]))
    refine Goes.st (fun _ k => XS.istoreN X0.here hx rfl (hb hby at_18) rfl (l' := #[.val (.int p1), .val (.int (2147483638 : Int32)), .val (.int p1)]) rfl k) ?_
    show Goes _ _ _ _ (s₁.setTop (mkF m 19 #[.val (.int p1), .val (.int (2147483638 : Int32)), .val (.int p1)] []))
    refine Goes.st (fun _ k => XS.iloadN X0.here hx rfl (hb hby at_19) rfl k) ?_
    show Goes _ _ _ _ (s₁.setTop (mkF m 20 #[.val (.int p1), .val (.int (2147483638 : Int32)), .val (.int p1)] [(.int p1)]))
    obtain ⟨_, _, ⟨T2, L2, k2, n2⟩, -, X2, ⟨Lc2, hQ2, l2, y2, z2⟩, st2⟩ := Jvm.LawKit.callS X0 hx (y := (⟨"com/example/wary_surfer/warysurfer/Graph", "checkPageCount", "(I)V"⟩ : MethodName)) hown (mvT hZ (hw _ (List.mem_of_getElem? (i := 1) rfl))) (mvT hZ (hw _ (List.mem_of_getElem? (i := 2) rfl))) (mvT hZ (hw _ (List.mem_of_getElem? (i := 3) rfl))) (mvT hZ (hw _ (List.mem_of_getElem? (i := 4) rfl))) (by decide) (backOf (W := 0) (rm1 l Z a0 hw [] p1 h0 n0 Z0 hc) hZ (hw _ (List.mem_of_getElem? (i := 4) rfl)) (hw _ (List.mem_of_getElem? (i := 3) rfl)) (by decide) (by decide)) (g := (mkF m 20 #[.val (.int p1), .val (.int (2147483638 : Int32)), .val (.int p1)] [(.int p1)])) rfl (by rw [hml]; rfl) (argsL := [(.int p1)]) (rest := []) (lenOf pd_1 rfl) rfl (by show 2 * 0 + _ ≤ _; exact Nat.le_of_eq rfl) (hb hby at_20) (fun _ _ => ⟨rfl, e0, (by decide : 0 + 0 ≤ _), (by decide : 0 + 0 ≤ _)⟩)
    dsimp only [Pt.U, Pt.locs, Pt.cells, Pt.slots] at X2 l2 y2 z2 st2 hQ2
    subst l2 y2 z2
    obtain ⟨rfl, Nq2, eq2⟩ := hQ2
    have N2 := Fr.app N0 Nq2
    refine Goes.st st2 ?_
    show Goes _ _ _ _ (T2.setTop (mkF m 23 #[.val (.int p1), .val (.int (2147483638 : Int32)), .val (.int p1)] []))
    refine Goes.st (fun _ k => XS.iloadN X2.here hx rfl (hb hby at_23) rfl k) ?_
    show Goes _ _ _ _ (T2.setTop (mkF m 24 #[.val (.int p1), .val (.int (2147483638 : Int32)), .val (.int p1)] [(.int p1)]))
    refine Goes.st (fun _ k => XS.iloadN X2.here hx rfl (hb hby at_24) rfl k) ?_
    show Goes _ _ _ _ (T2.setTop (mkF m 25 #[.val (.int p1), .val (.int (2147483638 : Int32)), .val (.int p1)] [(.int (2147483638 : Int32)), (.int p1)]))
    refine Goes.st (fun _ k => XS.icmpNo X2.here hx rfl (hb hby at_25) rfl (flt hc).2.2.1 k) ?_
    show Goes _ _ _ _ (T2.setTop (mkF m 28 #[.val (.int p1), .val (.int (2147483638 : Int32)), .val (.int p1)] []))
    refine Goes.st (fun _ k => XS.iconst X2.here hx rfl (hb hby at_28) k) ?_
    show Goes _ _ _ _ (T2.setTop (mkF m 29 #[.val (.int p1), .val (.int (2147483638 : Int32)), .val (.int p1)] [(.int (1 : Int32))]))
    refine Goes.st (fun _ k => XS.goto X2.here hx rfl (pc0 := 29) (pc' := 33) rfl (hb hby at_29) (by decide) (by decide) k) ?_
    show Goes _ _ _ _ (T2.setTop (mkF m 33 #[.val (.int p1), .val (.int (2147483638 : Int32)), .val (.int p1)] [(.int (1 : Int32))]))
    exact leafZ X2 hx Bd.notSynchronized Bd.returns (hb hby at_33) (by decide) (by decide) (by decide) ⟨rfl, N2⟩
set_option maxRecDepth 65536 in
set_option maxHeartbeats 40000000 in
theorem comes_1 {Post : Tables → Env → Array Value → State → Outcome → State → Prop} (hpost : ∀ tb e args s v u, (limb_1_1.after args s (.returned v) u = true ∧ limb_1_2.after args s (.returned v) u = true ∧ True) → FrameEnd s (.returned v) u (Jvm.fieldLocs frame_1_writes args s ++ Jvm.arrayLocs frame_1_arrays args s ++ Jvm.staticLocs frame_1_statics s) 0 0 → Post tb e args s (.returned v) u) :
    ArmFor flags0 classFile x code maxLocals ret World_1 tables_1 room_1 Calls_1 rest_1 Pre_1 Post := by
  intro l hfl _ _ p e ha hc hk s m args below hf hA hF happ hP
  obtain ⟨hcalls, hrest, hpre⟩ := hP
  obtain ⟨-, -, -, hnamed, -, -, -, hat⟩ := (Spec.applies_iff hf).mp happ
  obtain ⟨hg, hn⟩ := and_e (Cond.before_iff.mp (show (Jvm.Cond.and given_1 narrow_1).before args s = true from hpre))
  obtain ⟨hq, hr0⟩ := and_e hg
  obtain ⟨w0, rfl⟩ : ∃ w0 : Value, args = #[w0] := by
    have hs : args.size = 1 := by simpa [Cond.value, given_1] using hq
    obtain ⟨L⟩ := args
    match L, hs with
    | [w0], _ => exact ⟨w0, rfl⟩
  have hw := fun d (hd : d ∈ tables_1) => atoms_spec (ws := Jvm.Cond.code x code maxLocals ret :: tables_1) hat d (List.mem_cons_of_mem _ hd)
  obtain ⟨i0, q0⟩ := is_v hr0
  obtain rfl : w0 = (.int i0) := Option.some.inj q0
  obtain ⟨n, o, h1, h2, h3, _, L, rfl, ⟨rfl, N⟩, hq⟩ := rm0 l s _ hw tables_1 i0 s.heap s.heap.size (Nat.le_refl _) p e ha hc hk s m _ below hf ((Spec.applies_iff_loose hf).mp happ).1 ⟨rfl, State.Warmed39.refl s, rfl⟩ trivial
  refine ⟨n, _, h1, h2, h3, hpost _ _ _ _ _ _ ⟨Cond.after_iff.mpr rfl, Cond.after_iff.mpr (eq_i res_at (Term.int_eval (1)) rfl), trivial⟩ ⟨hq.1, hq.2.1, (hq.2.2.sift fun y hy => Or.inr (N y hy)).mono (by decide) (by decide)⟩⟩
theorem main_1_1 : Claimed_1_1 := comes_1 fun _ _ _ _ _ _ h hF => ⟨h.1, hF⟩
theorem main_1_2 : Claimed_1_2 := comes_1 fun _ _ _ _ _ _ h hF => ⟨h.2.1, hF⟩
end Jvm.Pilot.@@N@@
namespace Jvm.Pilot.@@N@@
open Jvm Jvm.ClassFile Sem Op Lib Jvm.Free Jvm.Stand Jvm.Pilot.@@N@@.Jvm.D
/-! MADE BY PROGRAM (witnessworld.py) out of the Statement's table words and the real class files: 9 classes; the members and pool entries that the words name. The judged class is class 1, her method 1. -/
namespace start1
open Jvm.ClassFile
def u (s : String) : CpInfo := .utf8 (stringToUtf16 s)
/-- a pool by its gaps: so many unusable entries, then the entry; so many at the end -/
def gap : Nat → List CpInfo → List CpInfo
  | 0, r => r
  | n + 1, r => .unusable :: gap n r
def poolList (es : List (Nat × CpInfo)) (last : Nat) : List CpInfo := es.foldr (fun e r => gap e.1 (e.2 :: r)) (gap last [])
def pool (es : List (Nat × CpInfo)) (last : Nat) : Array CpInfo := ⟨poolList es last⟩
def fileOf (pool : Array CpInfo) (this : Nat) (attrs : Array Attribute := #[]) (ms : Array MethodInfo := #[]) (fl : Nat := 33) (sup : Nat := 0) (ifs : Array Nat := #[]) (fds : Array FieldInfo := #[]) : ClassFile where
  minorVersion := 0
  majorVersion := 65
  constantPool := pool
  accessFlags := fl
  thisClass := this
  superClass := sup
  interfaces := ifs
  fields := fds
  methods := ms
  attributes := attrs
def plain (name : String) (sup : Option ClassId) : Class where
  name := name
  kind := .ordinary
  loader := none
  accessFlags := 33
  super := sup
  interfaces := #[]
  cf := none
  fields := #[]
  methods := #[]
  instanceTypes := #[]
  staticTypes := #[]
  resolved := #[]
  callSites := []
  init := .initialized
  statics := none
  mirror := none

def pool0 : Array CpInfo := pool [(5, u "<init>"), (0, u "()V"), (1, .class_ 10), (1, u "java/lang/Object")] 113

def k0m0 : Method := { name := "<init>", desc := "()V", sig := { parameters := [], returnType := none }, accessFlags := 1, code := none }
/-- java/lang/Object -/
def k0 : Class := { plain "java/lang/Object" none with
  accessFlags := 33
  interfaces := #[]
  cf := some (fileOf pool0 8 #[] #[{ accessFlags := 1, nameIndex := 5, descriptorIndex := 6, attributes := #[] }] 33 0 #[] #[])
  fields := #[]
  methods := #[k0m0]
  instanceTypes := #[]
  staticTypes := #[]
  resolved := Array.replicate 124 none
  statics := none }

def pool1 : Array CpInfo := pool [(2, .class_ 4), (1, u "java/lang/Object"), (0, u "<init>"), (0, u "()V"), (0, .class_ 8), (0, u "com/example/wary_surfer/warysurfer/Graph"), (0, .integer 2147483638), (0, .methodref 7 11), (0, .nameAndType 12 13), (0, u "checkPageCount"), (0, u "(I)V"), (0, .class_ 15), (0, u "com/example/wary_surfer/warysurfer/GraphCheckPageCountPinLaw"), (2, u "law"), (0, u "(I)Z")] 3

def k1m0 : Method := { name := "<init>", desc := "()V", sig := { parameters := [], returnType := none }, accessFlags := 1, code := none }
def k1c1 : Code := { maxStack := 3, maxLocals := 3, code := code, exceptionTable := #[], attributes := #[] }
def k1m1 : Method := { name := "law", desc := "(I)Z", sig := { parameters := [.int], returnType := some .boolean }, accessFlags := 9, code := some k1c1 }
/-- com/example/wary_surfer/warysurfer/GraphCheckPageCountPinLaw -/
def k1 : Class := { plain "com/example/wary_surfer/warysurfer/GraphCheckPageCountPinLaw" (some 0) with
  accessFlags := 49
  interfaces := #[]
  cf := some (fileOf pool1 14 #[] #[{ accessFlags := 1, nameIndex := 5, descriptorIndex := 6, attributes := #[] }, { accessFlags := 9, nameIndex := 18, descriptorIndex := 19, attributes := #[] }] 49 2 #[] #[])
  fields := #[]
  methods := #[k1m0, k1m1]
  instanceTypes := #[]
  staticTypes := #[]
  resolved := Array.replicate 23 none
  statics := none }

def pool2 : Array CpInfo := pool [(4, .class_ 6), (1, u "java/lang/Object"), (3, .class_ 12), (1, u "com/example/wary_surfer/warysurfer/Graph"), (0, u "pageCount"), (0, u "I"), (2, u "offsets"), (0, u "[I"), (2, u "targets"), (54, .integer 2147483638), (3, u "MAX_PAGE"), (2, u "MAX_ARRAY_LENGTH"), (16, u "checkPageCount"), (0, u "(I)V"), (4, .class_ 107), (0, u "com/example/wary_surfer/warysurfer/Graph$Builder")] 18

def k2c0 : Code := { maxStack := 3, maxLocals := 1, code := prog_22_method_13_code, exceptionTable := #[], attributes := #[] }
def k2m0 : Method := { name := "checkPageCount", desc := "(I)V", sig := { parameters := [.int], returnType := none }, accessFlags := 8, code := some k2c0 }
/-- com/example/wary_surfer/warysurfer/Graph -/
def k2 : Class := { plain "com/example/wary_surfer/warysurfer/Graph" (some 0) with
  accessFlags := 49
  interfaces := #[]
  cf := some (fileOf pool2 10 #[.nestMembers #[106]] #[{ accessFlags := 8, nameIndex := 100, descriptorIndex := 101, attributes := #[] }] 49 4 #[] #[{ accessFlags := 25, nameIndex := 80, descriptorIndex := 14, attributes := #[] }, { accessFlags := 24, nameIndex := 83, descriptorIndex := 14, attributes := #[] }, { accessFlags := 18, nameIndex := 13, descriptorIndex := 14, attributes := #[] }, { accessFlags := 18, nameIndex := 17, descriptorIndex := 18, attributes := #[] }, { accessFlags := 18, nameIndex := 21, descriptorIndex := 18, attributes := #[] }])
  fields := #[{ name := "MAX_PAGE", type := .int, accessFlags := 25, slot := 0, constantValue := 0 }, { name := "MAX_ARRAY_LENGTH", type := .int, accessFlags := 24, slot := 1, constantValue := 0 }, { name := "pageCount", type := .int, accessFlags := 18, slot := 0, constantValue := 0 }, { name := "offsets", type := (.array .int), accessFlags := 18, slot := 1, constantValue := 0 }, { name := "targets", type := (.array .int), accessFlags := 18, slot := 2, constantValue := 0 }]
  methods := #[k2m0]
  instanceTypes := #[.int, (.array .int), (.array .int)]
  staticTypes := #[.int, .int]
  resolved := Array.replicate 126 none
  statics := none }

def pool3 : Array CpInfo := pool [(1, u "java/lang/Cloneable"), (0, .class_ 1), (0, u "java/lang/Object"), (0, .class_ 3)] 3

/-- java/lang/Cloneable -/
def k3 : Class := { plain "java/lang/Cloneable" (some 0) with
  accessFlags := 1537
  interfaces := #[]
  cf := some (fileOf pool3 2 #[] #[] 1537 4 #[] #[])
  fields := #[]
  methods := #[]
  instanceTypes := #[]
  staticTypes := #[]
  resolved := Array.replicate 8 none
  statics := none }

def pool4 : Array CpInfo := pool [(1, u "java/io/Serializable"), (0, .class_ 1), (0, u "java/lang/Object"), (0, .class_ 3)] 3

/-- java/io/Serializable -/
def k4 : Class := { plain "java/io/Serializable" (some 0) with
  accessFlags := 1537
  interfaces := #[]
  cf := some (fileOf pool4 2 #[] #[] 1537 4 #[] #[])
  fields := #[]
  methods := #[]
  instanceTypes := #[]
  staticTypes := #[]
  resolved := Array.replicate 8 none
  statics := none }

/-- the primitive byte -/
def k5 : Class := { plain "byte" none with kind := .primitive 'B', accessFlags := 0x411 }
/-- [B -/
def k6 : Class := { plain "[B" (some 0) with kind := .array 5 .byte, interfaces := #[3, 4], accessFlags := 1041 }

/-- the primitive int -/
def k7 : Class := { plain "int" none with kind := .primitive 'I', accessFlags := 0x411 }
/-- [I -/
def k8 : Class := { plain "[I" (some 0) with kind := .array 7 .int, interfaces := #[3, 4], accessFlags := 1041 }

def heap : Heap := #[]
def classes : Array Class := #[k0, k1, k2, k3, k4, k5, k6, k7, k8]
def interned : List (Array UInt16 × Addr) := []
def slotsUsed : Nat := 0
def theMethod : MethodId := ⟨1, 1⟩
def args0 : Array Value := #[.int 5]
def aboutOver (below : List Frame) : State where
  vm := { classes := classes, interned := interned.toArray }
  heap := heap
  slotsUsed := slotsUsed
  threads := #[{ frames := .invoking theMethod args0 :: below }]
def below0 : List Frame := [.native { method := ⟨0, 0⟩, args := #[] }]
def about1 : State := aboutOver below0
def p0 : Program := .bare "" "" ""
def e0 : Env := launch0.env 0 0 0
theorem w_frames : about1.frames = Frame.invoking theMethod args0 :: below0 := rfl
set_option maxRecDepth 65536 in
theorem w_args : argsFit about1.vm theMethod args0 = true := by decide +kernel
set_option maxRecDepth 65536 in
theorem w_heap : heapFits about1 = true := by decide +kernel
set_option maxRecDepth 65536 in
theorem w_runnable : about1.curStatus? = some .runnable := by decide +kernel
set_option maxRecDepth 65536 in
theorem w_alone : about1.alone = true := by decide +kernel
set_option maxRecDepth 65536 in
theorem w_named : about1.methodNamed? x = some theMethod := by decide +kernel
set_option maxRecDepth 65536 in
theorem w_hears : about1.hears theMethod below0 = true := by decide +kernel
set_option maxRecDepth 65536 in
theorem w_ripe : about1.ripe theMethod args0 below0 = true := by decide +kernel
theorem w_running : about1.status = .running := rfl
set_option maxRecDepth 65536 in
theorem w_room : about1.hasRoom e0.platform room_1 = true :=
  launch0.hasRoom_least _ room_1 (by decide +kernel) (by decide +kernel) (by decide +kernel) (by decide +kernel) (by decide +kernel) (by decide +kernel)
theorem allAtoms_all (ts : List Jvm.Cond) (a : Array Jvm.Value) (st : Jvm.State) : (allAtoms ts).before a st = ts.all (fun c => c.before a st) := by
  induction ts with
  | nil => rfl
  | cons c t ih =>
    show (Jvm.Cond.and c (allAtoms t)).before a st = _
    rw [Jvm.Cond.before_and, ih, List.all_cons]
def words1 : List Jvm.Cond := Jvm.Cond.code x code maxLocals ret :: tables_1
/-- a 'code' word, met by the world's own term for the bytes: nothing is compared byte by byte -/
theorem code_word {y : MethodName} {bytes : ByteArray} {mx : Nat} {rt : Option FieldType} {a : Array Value} {s : State} {m : MethodId} {meth : Method} {c : Code} (h1 : s.methodNamed? y = some m) (h2 : s.vm.method? m = some meth) (h3 : meth.code = some c) (h4 : c.code = bytes)
    (h5 : (c.maxLocals == mx && c.exceptionTable.isEmpty && decide (c.maxStack ≤ mostOperands) && decide (meth.sig.returnType = rt) && !meth.locks && decide (parseMethodDescriptor y.desc = some meth.sig)) = true) : (Jvm.Cond.code y bytes mx rt).before a s = true := by
  simp only [Bool.and_eq_true, beq_iff_eq, Bool.not_eq_true', decide_eq_true_eq] at h5
  obtain ⟨⟨⟨⟨⟨g1, g2⟩, g3⟩, g4⟩, g5⟩, g6⟩ := h5
  simp [Cond.before, Cond.holds, Cond.value, h1, h2, h3, h4, g1, g2, g3, g4, g5, g6]
def isCode : Jvm.Cond → Bool
  | .code _ _ _ _ => true
  | _ => false
theorem all_split {L : List Jvm.Cond} {P : Jvm.Cond → Bool} (h1 : L.all (fun c => isCode c || P c) = true) (h2 : ∀ c ∈ L.filter isCode, P c = true) : L.all P = true := by
  refine List.all_eq_true.mpr fun c hc => ?_
  have h := List.all_eq_true.mp h1 c hc
  rcases Bool.eq_false_or_eq_true (isCode c) with hi | hi
  · exact h2 c (List.mem_filter.mpr ⟨hc, hi⟩)
  · simpa [hi] using h
set_option maxRecDepth 65536 in
theorem w_c0 : (Jvm.Cond.code x code maxLocals ret).before args0 about1 = true := code_word (m := ⟨1, 1⟩) (meth := k1m1) (c := k1c1) (by decide +kernel) rfl rfl rfl (by decide +kernel)
set_option maxRecDepth 65536 in
theorem w_c1 : (Jvm.Cond.code ({ cls := "com/example/wary_surfer/warysurfer/Graph", name := "checkPageCount", desc := "(I)V" } : Jvm.MethodName) prog_22_method_13_code (1 : Nat) (Option.none : Option Jvm.ClassFile.FieldType)).before args0 about1 = true := code_word (m := ⟨2, 0⟩) (meth := k2m0) (c := k2c0) (by decide +kernel) rfl rfl rfl (by decide +kernel)
def codes1 : List Jvm.Cond := [Jvm.Cond.code x code maxLocals ret, Jvm.Cond.code ({ cls := "com/example/wary_surfer/warysurfer/Graph", name := "checkPageCount", desc := "(I)V" } : Jvm.MethodName) prog_22_method_13_code (1 : Nat) (Option.none : Option Jvm.ClassFile.FieldType)]
set_option maxRecDepth 65536 in
theorem codes_eq : words1.filter isCode = codes1 := rfl
theorem w_codes : ∀ c ∈ words1.filter isCode, c.before args0 about1 = true := by
  rw [codes_eq]
  intro c hc
  simp only [codes1, List.mem_cons, List.not_mem_nil, or_false] at hc
  rcases hc with rfl | rfl
  · exact w_c0
  · exact w_c1
set_option maxRecDepth 65536 in
theorem w_t1 : words1.all (fun c => isCode c || c.before args0 about1) = true := by decide +kernel
theorem w_tables : (allAtoms (Jvm.Cond.code x code maxLocals ret :: tables_1)).before args0 about1 = true := by
  rw [allAtoms_all]
  show words1.all (fun c => c.before args0 about1) = true
  refine all_split ?_ w_codes
  rw [w_t1]
set_option maxRecDepth 65536 in
theorem w_case : (Jvm.Cond.and given_1 narrow_1).before args0 about1 = true := by decide +kernel
theorem w_applies : (headSpec (Jvm.Cond.code x code maxLocals ret :: tables_1) room_1).applies x e0.platform about1 = true :=
  (Spec.applies_iff w_frames).mpr ⟨w_running, w_runnable, w_alone, w_named, w_hears, w_ripe, w_room, w_tables⟩
theorem atStart : AtStart classFile x code maxLocals ret World_1 tables_1 room_1 Calls_1 rest_1 Pre_1 launch0 p0 e0 about1 theMethod args0 below0 :=
  ⟨lists_1, trivial, launch0.admits_env _ _ _, launch0.least_env, fairChoices_fair.cas, fairChoices_fair.clock, w_frames, w_args, w_heap, w_applies, trivial, trivial, w_case⟩
end start1
theorem witness_1 : WitnessClaimed_1 := ⟨start1.p0, start1.e0, start1.about1, start1.theMethod, start1.args0, start1.below0, start1.atStart⟩
end Jvm.Pilot.@@N@@
