import JvmDerived
import JvmDerived.Pilot.@@N@@Statement
import JvmDerived.Pilot.@@N@@Code
set_option linter.unusedVariables false
set_option linter.unusedSimpArgs false
namespace Jvm.Pilot.@@N@@
open Jvm Jvm.ClassFile Sem Op Lib Jvm.Free Jvm.Stand Jvm.LawKit Jvm.RoadKit Bundle Jvm.Pilot.@@N@@.Jvm.D
/-! own kit: the walk's goal as one word (Goes), the end of a body (Ends), the five returns -/
section OwnKit
/-- from S the run comes to some state and outcome of which P holds -/
def Goes (tb : Tables) (e : Env) (below : List Frame) (P : State → Outcome → Prop) (S : State) : Prop := ∃ t o, Steps tb e below S t ∧ P t o
/-- what a body owes at its end -/
def Ends (below : List Frame) (s : State) (Q : Option Value → Heap → List Loc → Prop) (kc ks : Nat) (t : State) (o : Outcome) : Prop :=
  t.status = .running ∧ Ended t below o ∧ ∃ v L, o = .returned v ∧ Q v t.heap L ∧ FrameEnd s o t L kc ks
theorem Goes.st {tb : Tables} {e : Env} {below : List Frame} {P : State → Outcome → Prop} {S S' : State} (h : ∀ target, Steps tb e below S' target → Steps tb e below S target) (k : Goes tb e below P S') : Goes tb e below P S :=
  let ⟨t, o, h1, h2⟩ := k; ⟨t, o, h t h1, h2⟩
theorem Goes.tr {tb : Tables} {e : Env} {below : List Frame} {P : State → Outcome → Prop} {S S' : State} (h : Steps tb e below S S') (k : Goes tb e below P S') : Goes tb e below P S :=
  let ⟨t, o, h1, h2⟩ := k; ⟨t, o, h.trans h1, h2⟩
theorem Goes.cast {tb : Tables} {e : Env} {below : List Frame} {P : State → Outcome → Prop} {T : State} {g g' : JFrame} (q : g = g') (k : Goes tb e below P (T.setTop g')) : Goes tb e below P (T.setTop g) := q ▸ k
variable {p : Program} {l : Launch} {e : Env} {R : Room} {s : State} {m : MethodId} {args : Array Value} {below : List Frame} {meth : Method} {c : Code} {T : State} {locs : List Loc} {cells slots : Nat}
theorem own_out (X : Stand p l e R s m args below meth c T locs cells slots) {v : Option Value} (hv : meth.sig.returnType = none → v = none) (hlk : meth.locks = false) {S : State} {Q : Option Value → Heap → List Loc → Prop} {kc ks : Nat} (hc : cells ≤ kc) (hs : slots ≤ ks) (hQ : Q v T.heap locs)
    (go : ∀ fs, (∀ (f : JFrame) (acts : List Action), f.method = m → f.locked = none → f.entered = [] → (doReturn e (T.setTop f) acts v).1 = T.setFrames fs) → Steps p.tables e below S (T.setFrames fs)) : Goes p.tables e below (Ends below s Q kc ks) S := by
  obtain ⟨fs, hr, hrun, hended, hW, hsame⟩ := X.leave (v := v) hv hlk
  exact ⟨_, _, go fs hr, hrun, hended, _, _, rfl, hQ, ⟨_, rfl⟩, hW, hsame.mono hc hs⟩
/-- ireturn of a boolean -/
theorem leafZ (X : Stand p l e R s m args below meth c T locs cells slots) (hx : p.tables.exec = Jvm.exec) (hlk : meth.locks = false) (hret : meth.sig.returnType = some .boolean) {pc : Nat} {Ls : Array Slot} {z : Int32} {rest : List Value} (hd : decode c.code pc = .ok (.ireturn, 1)) (hz : z = 0 ∨ z = 1)
    {Q : Option Value → Heap → List Loc → Prop} {kc ks : Nat} (hc : cells ≤ kc) (hs : slots ≤ ks) (hQ : Q (some (.int z)) T.heap locs) : Goes p.tables e below (Ends below s Q kc ks) (T.setTop (mkF m pc Ls (.int z :: rest))) :=
  own_out X (fun h => by rw [hret] at h; cases h) hlk hc hs hQ fun fs hr => retOut X hx hret (by rcases hz with rfl | rfl <;> rfl) (Or.inl ⟨rfl, Or.inr (Or.inl rfl), z, rfl⟩) hd hr
/-- ireturn of an int -/
theorem leafI (X : Stand p l e R s m args below meth c T locs cells slots) (hx : p.tables.exec = Jvm.exec) (hlk : meth.locks = false) (hret : meth.sig.returnType = some .int) {pc : Nat} {Ls : Array Slot} {z : Int32} {rest : List Value} (hd : decode c.code pc = .ok (.ireturn, 1))
    {Q : Option Value → Heap → List Loc → Prop} {kc ks : Nat} (hc : cells ≤ kc) (hs : slots ≤ ks) (hQ : Q (some (.int z)) T.heap locs) : Goes p.tables e below (Ends below s Q kc ks) (T.setTop (mkF m pc Ls (.int z :: rest))) :=
  own_out X (fun h => by rw [hret] at h; cases h) hlk hc hs hQ fun fs hr => retOut X hx hret rfl (Or.inl ⟨rfl, Or.inl rfl, z, rfl⟩) hd hr
/-- lreturn -/
theorem leafJ (X : Stand p l e R s m args below meth c T locs cells slots) (hx : p.tables.exec = Jvm.exec) (hlk : meth.locks = false) (hret : meth.sig.returnType = some .long) {pc : Nat} {Ls : Array Slot} {z : Int64} {rest : List Value} (hd : decode c.code pc = .ok (.lreturn, 1))
    {Q : Option Value → Heap → List Loc → Prop} {kc ks : Nat} (hc : cells ≤ kc) (hs : slots ≤ ks) (hQ : Q (some (.long z)) T.heap locs) : Goes p.tables e below (Ends below s Q kc ks) (T.setTop (mkF m pc Ls (.long z :: rest))) :=
  own_out X (fun h => by rw [hret] at h; cases h) hlk hc hs hQ fun fs hr => retOut X hx hret rfl (Or.inr (Or.inl ⟨rfl, rfl, z, rfl⟩)) hd hr
/-- areturn -/
theorem leafA (X : Stand p l e R s m args below meth c T locs cells slots) (hx : p.tables.exec = Jvm.exec) (hlk : meth.locks = false) {t : FieldType} (hret : meth.sig.returnType = some t) (ht : t.isReference = true) {pc : Nat} {Ls : Array Slot} {w : Value} (hw : w.isRef = true) {rest : List Value} (hd : decode c.code pc = .ok (.areturn, 1))
    {Q : Option Value → Heap → List Loc → Prop} {kc ks : Nat} (hc : cells ≤ kc) (hs : slots ≤ ks) (hQ : Q (some w) T.heap locs) : Goes p.tables e below (Ends below s Q kc ks) (T.setTop (mkF m pc Ls (w :: rest))) :=
  own_out X (fun h => by rw [hret] at h; cases h) hlk hc hs hQ fun fs hr => retOut X hx hret (by rcases ref_cases hw with rfl | ⟨a, rfl⟩ <;> cases t <;> rfl) (Or.inr (Or.inr (Or.inr (Or.inr ⟨rfl, ht, hw⟩)))) hd hr
/-- return of nothing -/
theorem leafN (X : Stand p l e R s m args below meth c T locs cells slots) (hx : p.tables.exec = Jvm.exec) (hlk : meth.locks = false) (hret : meth.sig.returnType = none) {pc : Nat} {Ls : Array Slot} (hd : decode c.code pc = .ok (.return_, 1))
    {Q : Option Value → Heap → List Loc → Prop} {kc ks : Nat} (hc : cells ≤ kc) (hs : slots ≤ ks) (hQ : Q none T.heap locs) : Goes p.tables e below (Ends below s Q kc ks) (T.setTop (mkF m pc Ls [])) :=
  own_out X (fun _ => rfl) hlk hc hs hQ fun fs hr => X.returnOut hx hret hd hr
end OwnKit
theorem d1_0 : decode prog_13_method_6_code 0 = .ok (.lload_n 0, 1) := by decide +kernel
theorem d1_1 : decode prog_13_method_6_code 1 = .ok (.ldc2_w 128, 3) := by decide +kernel
theorem d1_4 : decode prog_13_method_6_code 4 = .ok (.iload_n 2, 1) := by decide +kernel
theorem d1_5 : decode prog_13_method_6_code 5 = .ok (.iconst 1, 1) := by decide +kernel
theorem d1_6 : decode prog_13_method_6_code 6 = .ok (.isub, 1) := by decide +kernel
theorem d1_7 : decode prog_13_method_6_code 7 = .ok (.i2l, 1) := by decide +kernel
theorem d1_8 : decode prog_13_method_6_code 8 = .ok (.lsub, 1) := by decide +kernel
theorem d1_9 : decode prog_13_method_6_code 9 = .ok (.lcmp, 1) := by decide +kernel
theorem d1_10 : decode prog_13_method_6_code 10 = .ok (.ifCond .gt 7, 3) := by decide +kernel
theorem d1_13 : decode prog_13_method_6_code 13 = .ok (.iconst 1, 1) := by decide +kernel
theorem d1_14 : decode prog_13_method_6_code 14 = .ok (.goto 4, 3) := by decide +kernel
theorem d1_17 : decode prog_13_method_6_code 17 = .ok (.iconst 0, 1) := by decide +kernel
theorem d1_18 : decode prog_13_method_6_code 18 = .ok (.ireturn, 1) := by decide +kernel
theorem pn_1 : plainFor (⟨"com/example/jouleline/jouleline/benchmark/Sweep", "seedsFit", "(JI)Z"⟩ : MethodName) = true := by decide +kernel
theorem pd_1 : parseMethodDescriptor "(JI)Z" = some ⟨[.long, .int], (some .boolean)⟩ := by decide +kernel
theorem pn_0 : plainFor x = true := by decide +kernel
theorem pd_0 : parseMethodDescriptor "(JIII)Z" = some ⟨[.long, .int, .int, .int], (some .boolean)⟩ := by decide +kernel
/-- the seeds fit -/
def own_F (s : Int64) (r : Int32) : Prop := s.toInt + (r.toInt - 1) ≤ 9223372036854775807
def own_f (s : Int64) (r : Int32) : Int32 := if s.toInt + (r.toInt - 1) ≤ 9223372036854775807 then 1 else 0
theorem own_f_y {s : Int64} {r : Int32} (h : own_F s r) : own_f s r = 1 := if_pos h
theorem own_f_n {s : Int64} {r : Int32} (h : ¬ own_F s r) : own_f s r = 0 := if_neg h
theorem own_r1 {r : Int32} (h : 1 ≤ r.toInt) : (r - 1).toInt64.toInt = r.toInt - 1 := by
  rw [c_i2l]
  have h1 := c_isub r 1
  have h2 := rng32 r
  have h3 := rng32 (r - 1)
  simp only [Int32.reduceToInt] at *
  omega
theorem own_top {s : Int64} {r : Int32} (h : 1 ≤ r.toInt) : ((9223372036854775807 : Int64) - (r - 1).toInt64 < s) ↔ ¬ own_F s r := by
  have h1 := c_lsub (9223372036854775807 : Int64) (r - 1).toInt64
  have h2 := own_r1 h
  have h3 := rng32 r
  have h4 := rng64 ((9223372036854775807 : Int64) - (r - 1).toInt64)
  have h5 := rng64 s
  rw [Int64.lt_iff_toInt_lt]
  unfold own_F
  simp only [Int64.reduceToInt] at *
  omega
theorem own_wrap {s : Int64} {r : Int32} (h : 1 ≤ r.toInt) : (s + (r - 1).toInt64 < s) ↔ ¬ own_F s r := by
  have h1 := c_ladd s (r - 1).toInt64
  have h2 := own_r1 h
  have h3 := rng32 r
  have h4 := rng64 (s + (r - 1).toInt64)
  have h5 := rng64 s
  rw [Int64.lt_iff_toInt_lt]
  unfold own_F
  omega
theorem own_runs (r : Int32) : 1 ≤ ((1 : Int32) + ((r &&& 2147483647) % 2147483647)).toInt := by
  have h1 := c_mask r 2147483647 31 (by decide) (by decide)
  have h2 := (c_irem (r &&& 2147483647) 2147483647 2147483647 (by decide)).1
  have h3 : (0 : Int) ≤ (r &&& 2147483647).toInt := by rw [h1]; exact Int.emod_nonneg _ (by decide)
  have h4 := h2 h3
  have h5 := c_iadd (1 : Int32) ((r &&& 2147483647) % 2147483647)
  have h6 := rng32 ((1 : Int32) + ((r &&& 2147483647) % 2147483647))
  simp only [Int32.reduceToInt] at *
  omega
theorem ef_1 (m : MethodId) (p1 : Int64) (p2 : Int32) : entryFrame m #[(.long p1), (.int p2)] 3 = mkF m 0 #[.val (.long p1), .second, .val (.int p2)] [] := by first | (simp [entryFrame, mkF, argsToLocals, Value.category, maxLocals]; done) | rfl
def Q1 (Z : State) (p1 : Int64) (p2 : Int32)  (h0 : Heap) (n0 : Nat) (v : Option Value) (h : Heap) (L : List Loc) : Prop := v = some (.int (own_f p1 p2)) ∧ Fr n0 L ∧ h = h0
set_option maxRecDepth 65536 in
set_option maxHeartbeats 40000000 in
theorem rm1 (l : Launch) (Z : State) (a0 : Array Value) (hw : ∀ d ∈ tables_1, d.before a0 Z = true) (ws : List Jvm.Cond) (p1 : Int64) (p2 : Int32)  (h0 : Heap) (n0 : Nat) (Z0 : n0 ≤ h0.size) (hp : 1 ≤ p2.toInt) :
    MetFree l (⟨"com/example/jouleline/jouleline/benchmark/Sweep", "seedsFit", "(JI)Z"⟩ : MethodName) (head1 (Jvm.Cond.code (⟨"com/example/jouleline/jouleline/benchmark/Sweep", "seedsFit", "(JI)Z"⟩ : MethodName) prog_13_method_6_code 3 (some .boolean) :: ws) ({ frames := 0, cells := 0, slots := 0, locals := 0 } : Room)) (fun a U => a = #[(.long p1), (.int p2)] ∧ Z.Warmed39 U.vm ∧ U.heap = h0) (fun _ _ _ _ _ => True) (fun _ U o U' => ∃ v L, o = .returned v ∧ Q1 Z p1 p2  h0 n0 v U'.heap L ∧ FrameEnd U o U' L ({ frames := 0, cells := 0, slots := 0, locals := 0 } : Room).cells ({ frames := 0, cells := 0, slots := 0, locals := 0 } : Room).slots) := by
  refine MetFree.of_bodySF pn_1 hisR ?_
  intro p e s m args below meth c s₁ Bd hml0 hP hK
  obtain ⟨rfl, hZ, hh⟩ := hP
  have hx := Bd.exec
  have hby := Bd.bytes
  have hml : c.maxLocals = 3 := hml0
  have hown : s.vm.findClass "com/example/jouleline/jouleline/benchmark/Sweep" = some m.cls := findClass_of_methodNamed Bd.named
  have hnm := (name_of_methodNamed Bd.named Bd.method).1
  have X0 : Stand p l e ({ frames := 0, cells := 0, slots := 0, locals := 0 } : Room) s m #[(.long p1), (.int p2)] below meth c s₁ [] 0 0 := Stand.of_body Bd
  have e0 : s₁.heap = h0 := by rw [← hh, Bd.state]; rfl
  have N0 := Fr.nil n0
  show Goes p.tables e below (Ends below s (Q1 Z p1 p2  h0 n0) ({ frames := 0, cells := 0, slots := 0, locals := 0 } : Room).cells ({ frames := 0, cells := 0, slots := 0, locals := 0 } : Room).slots) (s₁.setTop (entryFrame m #[(.long p1), (.int p2)] 3))
  refine Goes.cast (ef_1 m p1 p2) ?_
  refine Goes.st (fun _ k => XS.lloadN X0.here hx rfl (hb hby d1_0) rfl k) ?_
  show Goes _ _ _ _ (s₁.setTop (mkF m 1 #[.val (.long p1), .second, .val (.int p2)] [(.long p1)]))
  refine Goes.st (X0.ldc2Long hx (v := (9223372036854775807 : Int64)) hown (mv hZ (hw _ (List.mem_of_getElem? (i := 5) rfl))) (g := (mkF m 1 #[.val (.long p1), .second, .val (.int p2)] [(.long p1)])) rfl (hb hby d1_1)) ?_
  show Goes _ _ _ _ (s₁.setTop (mkF m 4 #[.val (.long p1), .second, .val (.int p2)] [(.long (9223372036854775807 : Int64)), (.long p1)]))
  refine Goes.st (fun _ k => XS.iloadN X0.here hx rfl (hb hby d1_4) rfl k) ?_
  show Goes _ _ _ _ (s₁.setTop (mkF m 5 #[.val (.long p1), .second, .val (.int p2)] [(.int p2), (.long (9223372036854775807 : Int64)), (.long p1)]))
  refine Goes.st (fun _ k => XS.iconst X0.here hx rfl (hb hby d1_5) k) ?_
  show Goes _ _ _ _ (s₁.setTop (mkF m 6 #[.val (.long p1), .second, .val (.int p2)] [(.int (1 : Int32)), (.int p2), (.long (9223372036854775807 : Int64)), (.long p1)]))
  refine Goes.st (fun _ k => XS.isub X0.here hx rfl (hb hby d1_6) rfl k) ?_
  show Goes _ _ _ _ (s₁.setTop (mkF m 7 #[.val (.long p1), .second, .val (.int p2)] [(.int (p2 - (1 : Int32))), (.long (9223372036854775807 : Int64)), (.long p1)]))
  refine Goes.st (fun _ k => XS.i2l X0.here hx rfl (hb hby d1_7) rfl k) ?_
  show Goes _ _ _ _ (s₁.setTop (mkF m 8 #[.val (.long p1), .second, .val (.int p2)] [(.long ((p2 - (1 : Int32))).toInt64), (.long (9223372036854775807 : Int64)), (.long p1)]))
  refine Goes.st (fun _ k => XS.lsub X0.here hx rfl (hb hby d1_8) rfl k) ?_
  show Goes _ _ _ _ (s₁.setTop (mkF m 9 #[.val (.long p1), .second, .val (.int p2)] [(.long ((9223372036854775807 : Int64) - ((p2 - (1 : Int32))).toInt64)), (.long p1)]))
  refine Goes.st (fun _ k => XS.lcmp X0.here hx rfl (hb hby d1_9) rfl k) ?_
  show Goes _ _ _ _ (s₁.setTop (mkF m 10 #[.val (.long p1), .second, .val (.int p2)] [(.int (lcmpW p1 ((9223372036854775807 : Int64) - ((p2 - (1 : Int32))).toInt64)))]))
  by_cases hc : (0 : Int32) < (lcmpW p1 ((9223372036854775807 : Int64) - ((p2 - (1 : Int32))).toInt64))
  · skip
    have hP := (own_top hp).mp ((lw_gt _ _).mp hc)
    refine Goes.st (fun _ k => XS.ifYes X0.here hx rfl (pc0 := 10) (pc' := 17) rfl (hb hby d1_10) rfl ((if0 _ _).trans (tlt hc).2.2.1) (by decide) (by decide) k) ?_
    show Goes _ _ _ _ (s₁.setTop (mkF m 17 #[.val (.long p1), .second, .val (.int p2)] []))
    refine Goes.st (fun _ k => XS.iconst X0.here hx rfl (hb hby d1_17) k) ?_
    show Goes _ _ _ _ (s₁.setTop (mkF m 18 #[.val (.long p1), .second, .val (.int p2)] [(.int (0 : Int32))]))
    exact leafZ X0 hx Bd.notSynchronized Bd.returns (hb hby d1_18) (by decide) (by decide) (by decide) ⟨by rw [own_f_n hP], N0, e0⟩
  · skip
    have hP : own_F p1 p2 := Classical.byContradiction fun q => hc ((lw_gt _ _).mpr ((own_top hp).mpr q))
    refine Goes.st (fun _ k => XS.ifNo X0.here hx rfl (hb hby d1_10) rfl ((if0 _ _).trans (flt hc).2.2.1) k) ?_
    show Goes _ _ _ _ (s₁.setTop (mkF m 13 #[.val (.long p1), .second, .val (.int p2)] []))
    refine Goes.st (fun _ k => XS.iconst X0.here hx rfl (hb hby d1_13) k) ?_
    show Goes _ _ _ _ (s₁.setTop (mkF m 14 #[.val (.long p1), .second, .val (.int p2)] [(.int (1 : Int32))]))
    refine Goes.st (fun _ k => XS.goto X0.here hx rfl (pc0 := 14) (pc' := 18) rfl (hb hby d1_14) (by decide) (by decide) k) ?_
    show Goes _ _ _ _ (s₁.setTop (mkF m 18 #[.val (.long p1), .second, .val (.int p2)] [(.int (1 : Int32))]))
    exact leafZ X0 hx Bd.notSynchronized Bd.returns (hb hby d1_18) (by decide) (by decide) (by decide) ⟨by rw [own_f_y hP], N0, e0⟩
theorem ef_0 (m : MethodId) (p1 : Int64) (p2 : Int32) (p3 : Int32) (p4 : Int32) : entryFrame m #[(.long p1), (.int p2), (.int p3), (.int p4)] maxLocals = mkF m 0 #[.val (.long p1), .second, .val (.int p2), .val (.int p3), .val (.int p4), .unset, .unset, .unset, .unset, .unset, .unset, .unset] [] := by first | (simp [entryFrame, mkF, argsToLocals, Value.category, maxLocals]; done) | rfl
def Q0 (Z : State) (p1 : Int64) (p2 : Int32) (p3 : Int32) (p4 : Int32)  (h0 : Heap) (n0 : Nat) (v : Option Value) (h : Heap) (L : List Loc) : Prop := v = some (.int (1 : Int32)) ∧ Fr n0 L
set_option maxRecDepth 65536 in
set_option maxHeartbeats 40000000 in
theorem rm0 (l : Launch) (Z : State) (a0 : Array Value) (hw : ∀ d ∈ tables_1, d.before a0 Z = true) (ws : List Jvm.Cond) (p1 : Int64) (p2 : Int32) (p3 : Int32) (p4 : Int32)  (h0 : Heap) (n0 : Nat) (Z0 : n0 ≤ h0.size)  :
    MetFree l x (head1 (Jvm.Cond.code x code maxLocals ret :: ws) room_1) (fun a U => a = #[(.long p1), (.int p2), (.int p3), (.int p4)] ∧ Z.Warmed39 U.vm ∧ U.heap = h0) (fun _ _ _ _ _ => True) (fun _ U o U' => ∃ v L, o = .returned v ∧ Q0 Z p1 p2 p3 p4  h0 n0 v U'.heap L ∧ FrameEnd U o U' L room_1.cells room_1.slots) := by
  refine MetFree.of_bodySF pn_0 hisR ?_
  intro p e s m args below meth c s₁ Bd hml0 hP hK
  obtain ⟨rfl, hZ, hh⟩ := hP
  have hx := Bd.exec
  have hby := Bd.bytes
  have hml : c.maxLocals = 12 := hml0
  have hown : s.vm.findClass "com/example/jouleline/jouleline/benchmark/SweepSeedsFitPinLaw" = some m.cls := findClass_of_methodNamed Bd.named
  have hnm := (name_of_methodNamed Bd.named Bd.method).1
  have X0 : Stand p l e room_1 s m #[(.long p1), (.int p2), (.int p3), (.int p4)] below meth c s₁ [] 0 0 := Stand.of_body Bd
  have e0 : s₁.heap = h0 := by rw [← hh, Bd.state]; rfl
  have N0 := Fr.nil n0
  show Goes p.tables e below (Ends below s (Q0 Z p1 p2 p3 p4  h0 n0) room_1.cells room_1.slots) (s₁.setTop (entryFrame m #[(.long p1), (.int p2), (.int p3), (.int p4)] maxLocals))
  refine Goes.cast (ef_0 m p1 p2 p3 p4) ?_
  refine Goes.st (fun _ k => XS.iconst X0.here hx rfl (hb hby at_0) k) ?_
  show Goes _ _ _ _ (s₁.setTop (mkF m 1 #[.val (.long p1), .second, .val (.int p2), .val (.int p3), .val (.int p4), .unset, .unset, .unset, .unset, .unset, .unset, .unset] [(.int (1 : Int32))]))
  refine Goes.st (fun _ k => XS.iloadN X0.here hx rfl (hb hby at_1) rfl k) ?_
  show Goes _ _ _ _ (s₁.setTop (mkF m 2 #[.val (.long p1), .second, .val (.int p2), .val (.int p3), .val (.int p4), .unset, .unset, .unset, .unset, .unset, .unset, .unset] [(.int p2), (.int (1 : Int32))]))
  refine Goes.st (X0.ldcInt hx (v := (2147483647 : Int32)) hown (mv hZ (hw _ (List.mem_of_getElem? (i := 0) rfl))) (g := (mkF m 2 #[.val (.long p1), .second, .val (.int p2), .val (.int p3), .val (.int p4), .unset, .unset, .unset, .unset, .unset, .unset, .unset] [(.int p2), (.int (1 : Int32))])) rfl (hb hby at_2)) ?_
  show Goes _ _ _ _ (s₁.setTop (mkF m 4 #[.val (.long p1), .second, .val (.int p2), .val (.int p3), .val (.int p4), .unset, .unset, .unset, .unset, .unset, .unset, .unset] [(.int (2147483647 : Int32)), (.int p2), (.int (1 : Int32))]))
  refine Goes.st (fun _ k => XS.iand X0.here hx rfl (hb hby at_4) rfl k) ?_
  show Goes _ _ _ _ (s₁.setTop (mkF m 5 #[.val (.long p1), .second, .val (.int p2), .val (.int p3), .val (.int p4), .unset, .unset, .unset, .unset, .unset, .unset, .unset] [(.int (p2 &&& (2147483647 : Int32))), (.int (1 : Int32))]))
  refine Goes.st (X0.ldcInt hx (v := (2147483647 : Int32)) hown (mv hZ (hw _ (List.mem_of_getElem? (i := 0) rfl))) (g := (mkF m 5 #[.val (.long p1), .second, .val (.int p2), .val (.int p3), .val (.int p4), .unset, .unset, .unset, .unset, .unset, .unset, .unset] [(.int (p2 &&& (2147483647 : Int32))), (.int (1 : Int32))])) rfl (hb hby at_5)) ?_
  show Goes _ _ _ _ (s₁.setTop (mkF m 7 #[.val (.long p1), .second, .val (.int p2), .val (.int p3), .val (.int p4), .unset, .unset, .unset, .unset, .unset, .unset, .unset] [(.int (2147483647 : Int32)), (.int (p2 &&& (2147483647 : Int32))), (.int (1 : Int32))]))
  refine Goes.st (fun _ k => iremM X0 hx rfl (hb hby at_7) rfl (by decide) k) ?_
  show Goes _ _ _ _ (s₁.setTop (mkF m 8 #[.val (.long p1), .second, .val (.int p2), .val (.int p3), .val (.int p4), .unset, .unset, .unset, .unset, .unset, .unset, .unset] [(.int ((p2 &&& (2147483647 : Int32)) % (2147483647 : Int32))), (.int (1 : Int32))]))
  refine Goes.st (fun _ k => XS.iadd X0.here hx rfl (hb hby at_8) rfl k) ?_
  show Goes _ _ _ _ (s₁.setTop (mkF m 9 #[.val (.long p1), .second, .val (.int p2), .val (.int p3), .val (.int p4), .unset, .unset, .unset, .unset, .unset, .unset, .unset] [(.int ((1 : Int32) + ((p2 &&& (2147483647 : Int32)) % (2147483647 : Int32))))]))
  have hrun := own_runs p2
  obtain ⟨rr, h_rr⟩ : ∃ z : Int32, z = ((1 : Int32) + ((p2 &&& (2147483647 : Int32)) % (2147483647 : Int32))) := ⟨_, rfl⟩
  rw [← h_rr]
  show Goes _ _ _ _ (s₁.setTop (mkF m 9 #[.val (.long p1), .second, .val (.int p2), .val (.int p3), .val (.int p4), .unset, .unset, .unset, .unset, .unset, .unset, .unset] [(.int rr)]))
  rw [← h_rr] at hrun
  refine Goes.st (fun _ k => XS.istore X0.here hx rfl (hb hby at_9) rfl (l' := #[.val (.long p1), .second, .val (.int p2), .val (.int p3), .val (.int p4), .val (.int rr), .unset, .unset, .unset, .unset, .unset, .unset]) rfl k) ?_
  show Goes _ _ _ _ (s₁.setTop (mkF m 11 #[.val (.long p1), .second, .val (.int p2), .val (.int p3), .val (.int p4), .val (.int rr), .unset, .unset, .unset, .unset, .unset, .unset] []))
  refine Goes.st (fun _ k => XS.iload X0.here hx rfl (hb hby at_11) rfl k) ?_
  show Goes _ _ _ _ (s₁.setTop (mkF m 13 #[.val (.long p1), .second, .val (.int p2), .val (.int p3), .val (.int p4), .val (.int rr), .unset, .unset, .unset, .unset, .unset, .unset] [(.int p4)]))
  refine Goes.st (fun _ k => XS.iconst X0.here hx rfl (hb hby at_13) k) ?_
  show Goes _ _ _ _ (s₁.setTop (mkF m 14 #[.val (.long p1), .second, .val (.int p2), .val (.int p3), .val (.int p4), .val (.int rr), .unset, .unset, .unset, .unset, .unset, .unset] [(.int (1 : Int32)), (.int p4)]))
  refine Goes.st (fun _ k => XS.iand X0.here hx rfl (hb hby at_14) rfl k) ?_
  show Goes _ _ _ _ (s₁.setTop (mkF m 15 #[.val (.long p1), .second, .val (.int p2), .val (.int p3), .val (.int p4), .val (.int rr), .unset, .unset, .unset, .unset, .unset, .unset] [(.int (p4 &&& (1 : Int32)))]))
  by_cases hc : (p4 &&& (1 : Int32)) = (0 : Int32)
  · skip
    refine Goes.st (fun _ k => XS.ifYes X0.here hx rfl (pc0 := 15) (pc' := 30) rfl (hb hby at_15) rfl ((if0 _ _).trans (teq hc).1) (by decide) (by decide) k) ?_
    show Goes _ _ _ _ (s₁.setTop (mkF m 30 #[.val (.long p1), .second, .val (.int p2), .val (.int p3), .val (.int p4), .val (.int rr), .unset, .unset, .unset, .unset, .unset, .unset] []))
    refine Goes.st (fun _ k => XS.lloadN X0.here hx rfl (hb hby at_30) rfl k) ?_
    show Goes _ _ _ _ (s₁.setTop (mkF m 31 #[.val (.long p1), .second, .val (.int p2), .val (.int p3), .val (.int p4), .val (.int rr), .unset, .unset, .unset, .unset, .unset, .unset] [(.long p1)]))
    refine Goes.st (fun _ k => XS.lstore X0.here hx rfl (hb hby at_31) rfl (l' := #[.val (.long p1), .second, .val (.int p2), .val (.int p3), .val (.int p4), .val (.int rr), .val (.long p1), .second, .unset, .unset, .unset, .unset]) rfl k) ?_
    show Goes _ _ _ _ (s₁.setTop (mkF m 33 #[.val (.long p1), .second, .val (.int p2), .val (.int p3), .val (.int p4), .val (.int rr), .val (.long p1), .second, .unset, .unset, .unset, .unset] []))
    refine Goes.st (fun _ k => XS.lload X0.here hx rfl (hb hby at_33) rfl k) ?_
    show Goes _ _ _ _ (s₁.setTop (mkF m 35 #[.val (.long p1), .second, .val (.int p2), .val (.int p3), .val (.int p4), .val (.int rr), .val (.long p1), .second, .unset, .unset, .unset, .unset] [(.long p1)]))
    refine Goes.st (fun _ k => XS.iload X0.here hx rfl (hb hby at_35) rfl k) ?_
    show Goes _ _ _ _ (s₁.setTop (mkF m 37 #[.val (.long p1), .second, .val (.int p2), .val (.int p3), .val (.int p4), .val (.int rr), .val (.long p1), .second, .unset, .unset, .unset, .unset] [(.int rr), (.long p1)]))
    obtain ⟨_, _, ⟨T1, L1, k1, n1⟩, -, X1, ⟨Lc1, hQ1, l1, y1, z1⟩, st1⟩ := Jvm.LawKit.callS X0 hx (y := (⟨"com/example/jouleline/jouleline/benchmark/Sweep", "seedsFit", "(JI)Z"⟩ : MethodName)) hown (mvT hZ (hw _ (List.mem_of_getElem? (i := 1) rfl))) (mvT hZ (hw _ (List.mem_of_getElem? (i := 2) rfl))) (mvT hZ (hw _ (List.mem_of_getElem? (i := 3) rfl))) (mvT hZ (hw _ (List.mem_of_getElem? (i := 4) rfl))) (by decide) (backOf (W := 0) (rm1 l Z a0 hw [] p1 rr h0 n0 Z0 hrun) hZ (hw _ (List.mem_of_getElem? (i := 4) rfl)) (hw _ (List.mem_of_getElem? (i := 3) rfl)) (by decide) (by decide)) (g := (mkF m 37 #[.val (.long p1), .second, .val (.int p2), .val (.int p3), .val (.int p4), .val (.int rr), .val (.long p1), .second, .unset, .unset, .unset, .unset] [(.int rr), (.long p1)])) rfl (by rw [hml]; rfl) (argsL := [(.long p1), (.int rr)]) (rest := []) (lenOf pd_1 rfl) rfl (by show 2 * 0 + _ ≤ _; exact Nat.le_of_eq rfl) (hb hby at_37) (fun _ _ => ⟨rfl, e0, (by decide : 0 + 0 ≤ _), (by decide : 0 + 0 ≤ _)⟩)
    dsimp only [Pt.U, Pt.locs, Pt.cells, Pt.slots] at X1 l1 y1 z1 st1 hQ1
    subst l1 y1 z1
    obtain ⟨rfl, Nq1, eq1⟩ := hQ1
    have N1 := Fr.app N0 Nq1
    refine Goes.st st1 ?_
    show Goes _ _ _ _ (T1.setTop (mkF m 40 #[.val (.long p1), .second, .val (.int p2), .val (.int p3), .val (.int p4), .val (.int rr), .val (.long p1), .second, .unset, .unset, .unset, .unset] [(.int (own_f p1 rr))]))
    refine Goes.st (fun _ k => XS.istore X1.here hx rfl (hb hby at_40) rfl (l' := #[.val (.long p1), .second, .val (.int p2), .val (.int p3), .val (.int p4), .val (.int rr), .val (.long p1), .second, .val (.int (own_f p1 rr)), .unset, .unset, .unset]) rfl k) ?_
    show Goes _ _ _ _ (T1.setTop (mkF m 42 #[.val (.long p1), .second, .val (.int p2), .val (.int p3), .val (.int p4), .val (.int rr), .val (.long p1), .second, .val (.int (own_f p1 rr)), .unset, .unset, .unset] []))
    refine Goes.st (fun _ k => XS.lload X1.here hx rfl (hb hby at_42) rfl k) ?_
    show Goes _ _ _ _ (T1.setTop (mkF m 44 #[.val (.long p1), .second, .val (.int p2), .val (.int p3), .val (.int p4), .val (.int rr), .val (.long p1), .second, .val (.int (own_f p1 rr)), .unset, .unset, .unset] [(.long p1)]))
    refine Goes.st (fun _ k => XS.iload X1.here hx rfl (hb hby at_44) rfl k) ?_
    show Goes _ _ _ _ (T1.setTop (mkF m 46 #[.val (.long p1), .second, .val (.int p2), .val (.int p3), .val (.int p4), .val (.int rr), .val (.long p1), .second, .val (.int (own_f p1 rr)), .unset, .unset, .unset] [(.int rr), (.long p1)]))
    refine Goes.st (fun _ k => XS.iconst X1.here hx rfl (hb hby at_46) k) ?_
    show Goes _ _ _ _ (T1.setTop (mkF m 47 #[.val (.long p1), .second, .val (.int p2), .val (.int p3), .val (.int p4), .val (.int rr), .val (.long p1), .second, .val (.int (own_f p1 rr)), .unset, .unset, .unset] [(.int (1 : Int32)), (.int rr), (.long p1)]))
    refine Goes.st (fun _ k => XS.isub X1.here hx rfl (hb hby at_47) rfl k) ?_
    show Goes _ _ _ _ (T1.setTop (mkF m 48 #[.val (.long p1), .second, .val (.int p2), .val (.int p3), .val (.int p4), .val (.int rr), .val (.long p1), .second, .val (.int (own_f p1 rr)), .unset, .unset, .unset] [(.int (rr - (1 : Int32))), (.long p1)]))
    refine Goes.st (fun _ k => XS.i2l X1.here hx rfl (hb hby at_48) rfl k) ?_
    show Goes _ _ _ _ (T1.setTop (mkF m 49 #[.val (.long p1), .second, .val (.int p2), .val (.int p3), .val (.int p4), .val (.int rr), .val (.long p1), .second, .val (.int (own_f p1 rr)), .unset, .unset, .unset] [(.long ((rr - (1 : Int32))).toInt64), (.long p1)]))
    refine Goes.st (fun _ k => XS.ladd X1.here hx rfl (hb hby at_49) rfl k) ?_
    show Goes _ _ _ _ (T1.setTop (mkF m 50 #[.val (.long p1), .second, .val (.int p2), .val (.int p3), .val (.int p4), .val (.int rr), .val (.long p1), .second, .val (.int (own_f p1 rr)), .unset, .unset, .unset] [(.long (p1 + ((rr - (1 : Int32))).toInt64))]))
    refine Goes.st (fun _ k => XS.lstore X1.here hx rfl (hb hby at_50) rfl (l' := #[.val (.long p1), .second, .val (.int p2), .val (.int p3), .val (.int p4), .val (.int rr), .val (.long p1), .second, .val (.int (own_f p1 rr)), .val (.long (p1 + ((rr - (1 : Int32))).toInt64)), .second, .unset]) rfl k) ?_
    show Goes _ _ _ _ (T1.setTop (mkF m 52 #[.val (.long p1), .second, .val (.int p2), .val (.int p3), .val (.int p4), .val (.int rr), .val (.long p1), .second, .val (.int (own_f p1 rr)), .val (.long (p1 + ((rr - (1 : Int32))).toInt64)), .second, .unset] []))
    refine Goes.st (fun _ k => XS.lload X1.here hx rfl (hb hby at_52) rfl k) ?_
    show Goes _ _ _ _ (T1.setTop (mkF m 54 #[.val (.long p1), .second, .val (.int p2), .val (.int p3), .val (.int p4), .val (.int rr), .val (.long p1), .second, .val (.int (own_f p1 rr)), .val (.long (p1 + ((rr - (1 : Int32))).toInt64)), .second, .unset] [(.long (p1 + ((rr - (1 : Int32))).toInt64))]))
    refine Goes.st (fun _ k => XS.lload X1.here hx rfl (hb hby at_54) rfl k) ?_
    show Goes _ _ _ _ (T1.setTop (mkF m 56 #[.val (.long p1), .second, .val (.int p2), .val (.int p3), .val (.int p4), .val (.int rr), .val (.long p1), .second, .val (.int (own_f p1 rr)), .val (.long (p1 + ((rr - (1 : Int32))).toInt64)), .second, .unset] [(.long p1), (.long (p1 + ((rr - (1 : Int32))).toInt64))]))
    refine Goes.st (fun _ k => XS.lcmp X1.here hx rfl (hb hby at_56) rfl k) ?_
    show Goes _ _ _ _ (T1.setTop (mkF m 57 #[.val (.long p1), .second, .val (.int p2), .val (.int p3), .val (.int p4), .val (.int rr), .val (.long p1), .second, .val (.int (own_f p1 rr)), .val (.long (p1 + ((rr - (1 : Int32))).toInt64)), .second, .unset] [(.int (lcmpW (p1 + ((rr - (1 : Int32))).toInt64) p1))]))
    by_cases hd : (lcmpW (p1 + ((rr - (1 : Int32))).toInt64) p1) < (0 : Int32)
    · skip
      have hP := own_f_n ((own_wrap hrun).mp ((lw_lt _ _).mp hd))
      refine Goes.st (fun _ k => XS.ifYes X1.here hx rfl (pc0 := 57) (pc' := 64) rfl (hb hby at_57) rfl ((if0 _ _).trans (tlt hd).1) (by decide) (by decide) k) ?_
      show Goes _ _ _ _ (T1.setTop (mkF m 64 #[.val (.long p1), .second, .val (.int p2), .val (.int p3), .val (.int p4), .val (.int rr), .val (.long p1), .second, .val (.int (own_f p1 rr)), .val (.long (p1 + ((rr - (1 : Int32))).toInt64)), .second, .unset] []))
      refine Goes.st (fun _ k => XS.iconst X1.here hx rfl (hb hby at_64) k) ?_
      show Goes _ _ _ _ (T1.setTop (mkF m 65 #[.val (.long p1), .second, .val (.int p2), .val (.int p3), .val (.int p4), .val (.int rr), .val (.long p1), .second, .val (.int (own_f p1 rr)), .val (.long (p1 + ((rr - (1 : Int32))).toInt64)), .second, .unset] [(.int (0 : Int32))]))
      refine Goes.st (fun _ k => XS.istore X1.here hx rfl (hb hby at_65) rfl (l' := #[.val (.long p1), .second, .val (.int p2), .val (.int p3), .val (.int p4), .val (.int rr), .val (.long p1), .second, .val (.int (own_f p1 rr)), .val (.long (p1 + ((rr - (1 : Int32))).toInt64)), .second, .val (.int (0 : Int32))]) rfl k) ?_
      show Goes _ _ _ _ (T1.setTop (mkF m 67 #[.val (.long p1), .second, .val (.int p2), .val (.int p3), .val (.int p4), .val (.int rr), .val (.long p1), .second, .val (.int (own_f p1 rr)), .val (.long (p1 + ((rr - (1 : Int32))).toInt64)), .second, .val (.int (0 : Int32))] []))
      refine Goes.st (fun _ k => XS.iload X1.here hx rfl (hb hby at_67) rfl k) ?_
      show Goes _ _ _ _ (T1.setTop (mkF m 69 #[.val (.long p1), .second, .val (.int p2), .val (.int p3), .val (.int p4), .val (.int rr), .val (.long p1), .second, .val (.int (own_f p1 rr)), .val (.long (p1 + ((rr - (1 : Int32))).toInt64)), .second, .val (.int (0 : Int32))] [(.int (own_f p1 rr))]))
      refine Goes.st (fun _ k => XS.iload X1.here hx rfl (hb hby at_69) rfl k) ?_
      show Goes _ _ _ _ (T1.setTop (mkF m 71 #[.val (.long p1), .second, .val (.int p2), .val (.int p3), .val (.int p4), .val (.int rr), .val (.long p1), .second, .val (.int (own_f p1 rr)), .val (.long (p1 + ((rr - (1 : Int32))).toInt64)), .second, .val (.int (0 : Int32))] [(.int (0 : Int32)), (.int (own_f p1 rr))]))
      refine Goes.st (fun _ k => XS.icmpNo X1.here hx rfl (hb hby at_71) rfl (teq hP).2 k) ?_
      show Goes _ _ _ _ (T1.setTop (mkF m 74 #[.val (.long p1), .second, .val (.int p2), .val (.int p3), .val (.int p4), .val (.int rr), .val (.long p1), .second, .val (.int (own_f p1 rr)), .val (.long (p1 + ((rr - (1 : Int32))).toInt64)), .second, .val (.int (0 : Int32))] []))
      refine Goes.st (fun _ k => XS.iconst X1.here hx rfl (hb hby at_74) k) ?_
      show Goes _ _ _ _ (T1.setTop (mkF m 75 #[.val (.long p1), .second, .val (.int p2), .val (.int p3), .val (.int p4), .val (.int rr), .val (.long p1), .second, .val (.int (own_f p1 rr)), .val (.long (p1 + ((rr - (1 : Int32))).toInt64)), .second, .val (.int (0 : Int32))] [(.int (1 : Int32))]))
      refine Goes.st (fun _ k => XS.goto X1.here hx rfl (pc0 := 75) (pc' := 79) rfl (hb hby at_75) (by decide) (by decide) k) ?_
      show Goes _ _ _ _ (T1.setTop (mkF m 79 #[.val (.long p1), .second, .val (.int p2), .val (.int p3), .val (.int p4), .val (.int rr), .val (.long p1), .second, .val (.int (own_f p1 rr)), .val (.long (p1 + ((rr - (1 : Int32))).toInt64)), .second, .val (.int (0 : Int32))] [(.int (1 : Int32))]))
      exact leafZ X1 hx Bd.notSynchronized Bd.returns (hb hby at_79) (by decide) (by decide) (by decide) ⟨rfl, N1⟩
    · skip
      have hP := own_f_y (Classical.byContradiction fun q => hd ((lw_lt _ _).mpr ((own_wrap hrun).mpr q)))
      refine Goes.st (fun _ k => XS.ifNo X1.here hx rfl (hb hby at_57) rfl ((if0 _ _).trans (flt hd).1) k) ?_
      show Goes _ _ _ _ (T1.setTop (mkF m 60 #[.val (.long p1), .second, .val (.int p2), .val (.int p3), .val (.int p4), .val (.int rr), .val (.long p1), .second, .val (.int (own_f p1 rr)), .val (.long (p1 + ((rr - (1 : Int32))).toInt64)), .second, .unset] []))
      refine Goes.st (fun _ k => XS.iconst X1.here hx rfl (hb hby at_60) k) ?_
      show Goes _ _ _ _ (T1.setTop (mkF m 61 #[.val (.long p1), .second, .val (.int p2), .val (.int p3), .val (.int p4), .val (.int rr), .val (.long p1), .second, .val (.int (own_f p1 rr)), .val (.long (p1 + ((rr - (1 : Int32))).toInt64)), .second, .unset] [(.int (1 : Int32))]))
      refine Goes.st (fun _ k => XS.goto X1.here hx rfl (pc0 := 61) (pc' := 65) rfl (hb hby at_61) (by decide) (by decide) k) ?_
      show Goes _ _ _ _ (T1.setTop (mkF m 65 #[.val (.long p1), .second, .val (.int p2), .val (.int p3), .val (.int p4), .val (.int rr), .val (.long p1), .second, .val (.int (own_f p1 rr)), .val (.long (p1 + ((rr - (1 : Int32))).toInt64)), .second, .unset] [(.int (1 : Int32))]))
      refine Goes.st (fun _ k => XS.istore X1.here hx rfl (hb hby at_65) rfl (l' := #[.val (.long p1), .second, .val (.int p2), .val (.int p3), .val (.int p4), .val (.int rr), .val (.long p1), .second, .val (.int (own_f p1 rr)), .val (.long (p1 + ((rr - (1 : Int32))).toInt64)), .second, .val (.int (1 : Int32))]) rfl k) ?_
      show Goes _ _ _ _ (T1.setTop (mkF m 67 #[.val (.long p1), .second, .val (.int p2), .val (.int p3), .val (.int p4), .val (.int rr), .val (.long p1), .second, .val (.int (own_f p1 rr)), .val (.long (p1 + ((rr - (1 : Int32))).toInt64)), .second, .val (.int (1 : Int32))] []))
      refine Goes.st (fun _ k => XS.iload X1.here hx rfl (hb hby at_67) rfl k) ?_
      show Goes _ _ _ _ (T1.setTop (mkF m 69 #[.val (.long p1), .second, .val (.int p2), .val (.int p3), .val (.int p4), .val (.int rr), .val (.long p1), .second, .val (.int (own_f p1 rr)), .val (.long (p1 + ((rr - (1 : Int32))).toInt64)), .second, .val (.int (1 : Int32))] [(.int (own_f p1 rr))]))
      refine Goes.st (fun _ k => XS.iload X1.here hx rfl (hb hby at_69) rfl k) ?_
      show Goes _ _ _ _ (T1.setTop (mkF m 71 #[.val (.long p1), .second, .val (.int p2), .val (.int p3), .val (.int p4), .val (.int rr), .val (.long p1), .second, .val (.int (own_f p1 rr)), .val (.long (p1 + ((rr - (1 : Int32))).toInt64)), .second, .val (.int (1 : Int32))] [(.int (1 : Int32)), (.int (own_f p1 rr))]))
      refine Goes.st (fun _ k => XS.icmpNo X1.here hx rfl (hb hby at_71) rfl (teq hP).2 k) ?_
      show Goes _ _ _ _ (T1.setTop (mkF m 74 #[.val (.long p1), .second, .val (.int p2), .val (.int p3), .val (.int p4), .val (.int rr), .val (.long p1), .second, .val (.int (own_f p1 rr)), .val (.long (p1 + ((rr - (1 : Int32))).toInt64)), .second, .val (.int (1 : Int32))] []))
      refine Goes.st (fun _ k => XS.iconst X1.here hx rfl (hb hby at_74) k) ?_
      show Goes _ _ _ _ (T1.setTop (mkF m 75 #[.val (.long p1), .second, .val (.int p2), .val (.int p3), .val (.int p4), .val (.int rr), .val (.long p1), .second, .val (.int (own_f p1 rr)), .val (.long (p1 + ((rr - (1 : Int32))).toInt64)), .second, .val (.int (1 : Int32))] [(.int (1 : Int32))]))
      refine Goes.st (fun _ k => XS.goto X1.here hx rfl (pc0 := 75) (pc' := 79) rfl (hb hby at_75) (by decide) (by decide) k) ?_
      show Goes _ _ _ _ (T1.setTop (mkF m 79 #[.val (.long p1), .second, .val (.int p2), .val (.int p3), .val (.int p4), .val (.int rr), .val (.long p1), .second, .val (.int (own_f p1 rr)), .val (.long (p1 + ((rr - (1 : Int32))).toInt64)), .second, .val (.int (1 : Int32))] [(.int (1 : Int32))]))
      exact leafZ X1 hx Bd.notSynchronized Bd.returns (hb hby at_79) (by decide) (by decide) (by decide) ⟨rfl, N1⟩
  · skip
    refine Goes.st (fun _ k => XS.ifNo X0.here hx rfl (hb hby at_15) rfl ((if0 _ _).trans (feq hc).1) k) ?_
    show Goes _ _ _ _ (s₁.setTop (mkF m 18 #[.val (.long p1), .second, .val (.int p2), .val (.int p3), .val (.int p4), .val (.int rr), .unset, .unset, .unset, .unset, .unset, .unset] []))
    refine Goes.st (X0.ldc2Long hx (v := (9223372036854775807 : Int64)) hown (mv hZ (hw _ (List.mem_of_getElem? (i := 6) rfl))) (g := (mkF m 18 #[.val (.long p1), .second, .val (.int p2), .val (.int p3), .val (.int p4), .val (.int rr), .unset, .unset, .unset, .unset, .unset, .unset] [])) rfl (hb hby at_18)) ?_
    show Goes _ _ _ _ (s₁.setTop (mkF m 21 #[.val (.long p1), .second, .val (.int p2), .val (.int p3), .val (.int p4), .val (.int rr), .unset, .unset, .unset, .unset, .unset, .unset] [(.long (9223372036854775807 : Int64))]))
    refine Goes.st (fun _ k => XS.iloadN X0.here hx rfl (hb hby at_21) rfl k) ?_
    show Goes _ _ _ _ (s₁.setTop (mkF m 22 #[.val (.long p1), .second, .val (.int p2), .val (.int p3), .val (.int p4), .val (.int rr), .unset, .unset, .unset, .unset, .unset, .unset] [(.int p3), (.long (9223372036854775807 : Int64))]))
    refine Goes.st (X0.ldcInt hx (v := (2147483647 : Int32)) hown (mv hZ (hw _ (List.mem_of_getElem? (i := 0) rfl))) (g := (mkF m 22 #[.val (.long p1), .second, .val (.int p2), .val (.int p3), .val (.int p4), .val (.int rr), .unset, .unset, .unset, .unset, .unset, .unset] [(.int p3), (.long (9223372036854775807 : Int64))])) rfl (hb hby at_22)) ?_
    show Goes _ _ _ _ (s₁.setTop (mkF m 24 #[.val (.long p1), .second, .val (.int p2), .val (.int p3), .val (.int p4), .val (.int rr), .unset, .unset, .unset, .unset, .unset, .unset] [(.int (2147483647 : Int32)), (.int p3), (.long (9223372036854775807 : Int64))]))
    refine Goes.st (fun _ k => XS.iand X0.here hx rfl (hb hby at_24) rfl k) ?_
    show Goes _ _ _ _ (s₁.setTop (mkF m 25 #[.val (.long p1), .second, .val (.int p2), .val (.int p3), .val (.int p4), .val (.int rr), .unset, .unset, .unset, .unset, .unset, .unset] [(.int (p3 &&& (2147483647 : Int32))), (.long (9223372036854775807 : Int64))]))
    refine Goes.st (fun _ k => XS.i2l X0.here hx rfl (hb hby at_25) rfl k) ?_
    show Goes _ _ _ _ (s₁.setTop (mkF m 26 #[.val (.long p1), .second, .val (.int p2), .val (.int p3), .val (.int p4), .val (.int rr), .unset, .unset, .unset, .unset, .unset, .unset] [(.long ((p3 &&& (2147483647 : Int32))).toInt64), (.long (9223372036854775807 : Int64))]))
    refine Goes.st (fun _ k => XS.lsub X0.here hx rfl (hb hby at_26) rfl k) ?_
    show Goes _ _ _ _ (s₁.setTop (mkF m 27 #[.val (.long p1), .second, .val (.int p2), .val (.int p3), .val (.int p4), .val (.int rr), .unset, .unset, .unset, .unset, .unset, .unset] [(.long ((9223372036854775807 : Int64) - ((p3 &&& (2147483647 : Int32))).toInt64))]))
    refine Goes.st (fun _ k => XS.goto X0.here hx rfl (pc0 := 27) (pc' := 31) rfl (hb hby at_27) (by decide) (by decide) k) ?_
    show Goes _ _ _ _ (s₁.setTop (mkF m 31 #[.val (.long p1), .second, .val (.int p2), .val (.int p3), .val (.int p4), .val (.int rr), .unset, .unset, .unset, .unset, .unset, .unset] [(.long ((9223372036854775807 : Int64) - ((p3 &&& (2147483647 : Int32))).toInt64))]))
    obtain ⟨sd, h_sd⟩ : ∃ z : Int64, z = ((9223372036854775807 : Int64) - ((p3 &&& (2147483647 : Int32))).toInt64) := ⟨_, rfl⟩
    rw [← h_sd]
    show Goes _ _ _ _ (s₁.setTop (mkF m 31 #[.val (.long p1), .second, .val (.int p2), .val (.int p3), .val (.int p4), .val (.int rr), .unset, .unset, .unset, .unset, .unset, .unset] [(.long sd)]))
    refine Goes.st (fun _ k => XS.lstore X0.here hx rfl (hb hby at_31) rfl (l' := #[.val (.long p1), .second, .val (.int p2), .val (.int p3), .val (.int p4), .val (.int rr), .val (.long sd), .second, .unset, .unset, .unset, .unset]) rfl k) ?_
    show Goes _ _ _ _ (s₁.setTop (mkF m 33 #[.val (.long p1), .second, .val (.int p2), .val (.int p3), .val (.int p4), .val (.int rr), .val (.long sd), .second, .unset, .unset, .unset, .unset] []))
    refine Goes.st (fun _ k => XS.lload X0.here hx rfl (hb hby at_33) rfl k) ?_
    show Goes _ _ _ _ (s₁.setTop (mkF m 35 #[.val (.long p1), .second, .val (.int p2), .val (.int p3), .val (.int p4), .val (.int rr), .val (.long sd), .second, .unset, .unset, .unset, .unset] [(.long sd)]))
    refine Goes.st (fun _ k => XS.iload X0.here hx rfl (hb hby at_35) rfl k) ?_
    show Goes _ _ _ _ (s₁.setTop (mkF m 37 #[.val (.long p1), .second, .val (.int p2), .val (.int p3), .val (.int p4), .val (.int rr), .val (.long sd), .second, .unset, .unset, .unset, .unset] [(.int rr), (.long sd)]))
    obtain ⟨_, _, ⟨T2, L2, k2, n2⟩, -, X2, ⟨Lc2, hQ2, l2, y2, z2⟩, st2⟩ := Jvm.LawKit.callS X0 hx (y := (⟨"com/example/jouleline/jouleline/benchmark/Sweep", "seedsFit", "(JI)Z"⟩ : MethodName)) hown (mvT hZ (hw _ (List.mem_of_getElem? (i := 1) rfl))) (mvT hZ (hw _ (List.mem_of_getElem? (i := 2) rfl))) (mvT hZ (hw _ (List.mem_of_getElem? (i := 3) rfl))) (mvT hZ (hw _ (List.mem_of_getElem? (i := 4) rfl))) (by decide) (backOf (W := 0) (rm1 l Z a0 hw [] sd rr h0 n0 Z0 hrun) hZ (hw _ (List.mem_of_getElem? (i := 4) rfl)) (hw _ (List.mem_of_getElem? (i := 3) rfl)) (by decide) (by decide)) (g := (mkF m 37 #[.val (.long p1), .second, .val (.int p2), .val (.int p3), .val (.int p4), .val (.int rr), .val (.long sd), .second, .unset, .unset, .unset, .unset] [(.int rr), (.long sd)])) rfl (by rw [hml]; rfl) (argsL := [(.long sd), (.int rr)]) (rest := []) (lenOf pd_1 rfl) rfl (by show 2 * 0 + _ ≤ _; exact Nat.le_of_eq rfl) (hb hby at_37) (fun _ _ => ⟨rfl, e0, (by decide : 0 + 0 ≤ _), (by decide : 0 + 0 ≤ _)⟩)
    dsimp only [Pt.U, Pt.locs, Pt.cells, Pt.slots] at X2 l2 y2 z2 st2 hQ2
    subst l2 y2 z2
    obtain ⟨rfl, Nq2, eq2⟩ := hQ2
    have N2 := Fr.app N0 Nq2
    refine Goes.st st2 ?_
    show Goes _ _ _ _ (T2.setTop (mkF m 40 #[.val (.long p1), .second, .val (.int p2), .val (.int p3), .val (.int p4), .val (.int rr), .val (.long sd), .second, .unset, .unset, .unset, .unset] [(.int (own_f sd rr))]))
    refine Goes.st (fun _ k => XS.istore X2.here hx rfl (hb hby at_40) rfl (l' := #[.val (.long p1), .second, .val (.int p2), .val (.int p3), .val (.int p4), .val (.int rr), .val (.long sd), .second, .val (.int (own_f sd rr)), .unset, .unset, .unset]) rfl k) ?_
    show Goes _ _ _ _ (T2.setTop (mkF m 42 #[.val (.long p1), .second, .val (.int p2), .val (.int p3), .val (.int p4), .val (.int rr), .val (.long sd), .second, .val (.int (own_f sd rr)), .unset, .unset, .unset] []))
    refine Goes.st (fun _ k => XS.lload X2.here hx rfl (hb hby at_42) rfl k) ?_
    show Goes _ _ _ _ (T2.setTop (mkF m 44 #[.val (.long p1), .second, .val (.int p2), .val (.int p3), .val (.int p4), .val (.int rr), .val (.long sd), .second, .val (.int (own_f sd rr)), .unset, .unset, .unset] [(.long sd)]))
    refine Goes.st (fun _ k => XS.iload X2.here hx rfl (hb hby at_44) rfl k) ?_
    show Goes _ _ _ _ (T2.setTop (mkF m 46 #[.val (.long p1), .second, .val (.int p2), .val (.int p3), .val (.int p4), .val (.int rr), .val (.long sd), .second, .val (.int (own_f sd rr)), .unset, .unset, .unset] [(.int rr), (.long sd)]))
    refine Goes.st (fun _ k => XS.iconst X2.here hx rfl (hb hby at_46) k) ?_
    show Goes _ _ _ _ (T2.setTop (mkF m 47 #[.val (.long p1), .second, .val (.int p2), .val (.int p3), .val (.int p4), .val (.int rr), .val (.long sd), .second, .val (.int (own_f sd rr)), .unset, .unset, .unset] [(.int (1 : Int32)), (.int rr), (.long sd)]))
    refine Goes.st (fun _ k => XS.isub X2.here hx rfl (hb hby at_47) rfl k) ?_
    show Goes _ _ _ _ (T2.setTop (mkF m 48 #[.val (.long p1), .second, .val (.int p2), .val (.int p3), .val (.int p4), .val (.int rr), .val (.long sd), .second, .val (.int (own_f sd rr)), .unset, .unset, .unset] [(.int (rr - (1 : Int32))), (.long sd)]))
    refine Goes.st (fun _ k => XS.i2l X2.here hx rfl (hb hby at_48) rfl k) ?_
    show Goes _ _ _ _ (T2.setTop (mkF m 49 #[.val (.long p1), .second, .val (.int p2), .val (.int p3), .val (.int p4), .val (.int rr), .val (.long sd), .second, .val (.int (own_f sd rr)), .unset, .unset, .unset] [(.long ((rr - (1 : Int32))).toInt64), (.long sd)]))
    refine Goes.st (fun _ k => XS.ladd X2.here hx rfl (hb hby at_49) rfl k) ?_
    show Goes _ _ _ _ (T2.setTop (mkF m 50 #[.val (.long p1), .second, .val (.int p2), .val (.int p3), .val (.int p4), .val (.int rr), .val (.long sd), .second, .val (.int (own_f sd rr)), .unset, .unset, .unset] [(.long (sd + ((rr - (1 : Int32))).toInt64))]))
    refine Goes.st (fun _ k => XS.lstore X2.here hx rfl (hb hby at_50) rfl (l' := #[.val (.long p1), .second, .val (.int p2), .val (.int p3), .val (.int p4), .val (.int rr), .val (.long sd), .second, .val (.int (own_f sd rr)), .val (.long (sd + ((rr - (1 : Int32))).toInt64)), .second, .unset]) rfl k) ?_
    show Goes _ _ _ _ (T2.setTop (mkF m 52 #[.val (.long p1), .second, .val (.int p2), .val (.int p3), .val (.int p4), .val (.int rr), .val (.long sd), .second, .val (.int (own_f sd rr)), .val (.long (sd + ((rr - (1 : Int32))).toInt64)), .second, .unset] []))
    refine Goes.st (fun _ k => XS.lload X2.here hx rfl (hb hby at_52) rfl k) ?_
    show Goes _ _ _ _ (T2.setTop (mkF m 54 #[.val (.long p1), .second, .val (.int p2), .val (.int p3), .val (.int p4), .val (.int rr), .val (.long sd), .second, .val (.int (own_f sd rr)), .val (.long (sd + ((rr - (1 : Int32))).toInt64)), .second, .unset] [(.long (sd + ((rr - (1 : Int32))).toInt64))]))
    refine Goes.st (fun _ k => XS.lload X2.here hx rfl (hb hby at_54) rfl k) ?_
    show Goes _ _ _ _ (T2.setTop (mkF m 56 #[.val (.long p1), .second, .val (.int p2), .val (.int p3), .val (.int p4), .val (.int rr), .val (.long sd), .second, .val (.int (own_f sd rr)), .val (.long (sd + ((rr - (1 : Int32))).toInt64)), .second, .unset] [(.long sd), (.long (sd + ((rr - (1 : Int32))).toInt64))]))
    refine Goes.st (fun _ k => XS.lcmp X2.here hx rfl (hb hby at_56) rfl k) ?_
    show Goes _ _ _ _ (T2.setTop (mkF m 57 #[.val (.long p1), .second, .val (.int p2), .val (.int p3), .val (.int p4), .val (.int rr), .val (.long sd), .second, .val (.int (own_f sd rr)), .val (.long (sd + ((rr - (1 : Int32))).toInt64)), .second, .unset] [(.int (lcmpW (sd + ((rr - (1 : Int32))).toInt64) sd))]))
    by_cases hd : (lcmpW (sd + ((rr - (1 : Int32))).toInt64) sd) < (0 : Int32)
    · skip
      have hP := own_f_n ((own_wrap hrun).mp ((lw_lt _ _).mp hd))
      refine Goes.st (fun _ k => XS.ifYes X2.here hx rfl (pc0 := 57) (pc' := 64) rfl (hb hby at_57) rfl ((if0 _ _).trans (tlt hd).1) (by decide) (by decide) k) ?_
      show Goes _ _ _ _ (T2.setTop (mkF m 64 #[.val (.long p1), .second, .val (.int p2), .val (.int p3), .val (.int p4), .val (.int rr), .val (.long sd), .second, .val (.int (own_f sd rr)), .val (.long (sd + ((rr - (1 : Int32))).toInt64)), .second, .unset] []))
      refine Goes.st (fun _ k => XS.iconst X2.here hx rfl (hb hby at_64) k) ?_
      show Goes _ _ _ _ (T2.setTop (mkF m 65 #[.val (.long p1), .second, .val (.int p2), .val (.int p3), .val (.int p4), .val (.int rr), .val (.long sd), .second, .val (.int (own_f sd rr)), .val (.long (sd + ((rr - (1 : Int32))).toInt64)), .second, .unset] [(.int (0 : Int32))]))
      refine Goes.st (fun _ k => XS.istore X2.here hx rfl (hb hby at_65) rfl (l' := #[.val (.long p1), .second, .val (.int p2), .val (.int p3), .val (.int p4), .val (.int rr), .val (.long sd), .second, .val (.int (own_f sd rr)), .val (.long (sd + ((rr - (1 : Int32))).toInt64)), .second, .val (.int (0 : Int32))]) rfl k) ?_
      show Goes _ _ _ _ (T2.setTop (mkF m 67 #[.val (.long p1), .second, .val (.int p2), .val (.int p3), .val (.int p4), .val (.int rr), .val (.long sd), .second, .val (.int (own_f sd rr)), .val (.long (sd + ((rr - (1 : Int32))).toInt64)), .second, .val (.int (0 : Int32))] []))
      refine Goes.st (fun _ k => XS.iload X2.here hx rfl (hb hby at_67) rfl k) ?_
      show Goes _ _ _ _ (T2.setTop (mkF m 69 #[.val (.long p1), .second, .val (.int p2), .val (.int p3), .val (.int p4), .val (.int rr), .val (.long sd), .second, .val (.int (own_f sd rr)), .val (.long (sd + ((rr - (1 : Int32))).toInt64)), .second, .val (.int (0 : Int32))] [(.int (own_f sd rr))]))
      refine Goes.st (fun _ k => XS.iload X2.here hx rfl (hb hby at_69) rfl k) ?_
      show Goes _ _ _ _ (T2.setTop (mkF m 71 #[.val (.long p1), .second, .val (.int p2), .val (.int p3), .val (.int p4), .val (.int rr), .val (.long sd), .second, .val (.int (own_f sd rr)), .val (.long (sd + ((rr - (1 : Int32))).toInt64)), .second, .val (.int (0 : Int32))] [(.int (0 : Int32)), (.int (own_f sd rr))]))
      refine Goes.st (fun _ k => XS.icmpNo X2.here hx rfl (hb hby at_71) rfl (teq hP).2 k) ?_
      show Goes _ _ _ _ (T2.setTop (mkF m 74 #[.val (.long p1), .second, .val (.int p2), .val (.int p3), .val (.int p4), .val (.int rr), .val (.long sd), .second, .val (.int (own_f sd rr)), .val (.long (sd + ((rr - (1 : Int32))).toInt64)), .second, .val (.int (0 : Int32))] []))
      refine Goes.st (fun _ k => XS.iconst X2.here hx rfl (hb hby at_74) k) ?_
      show Goes _ _ _ _ (T2.setTop (mkF m 75 #[.val (.long p1), .second, .val (.int p2), .val (.int p3), .val (.int p4), .val (.int rr), .val (.long sd), .second, .val (.int (own_f sd rr)), .val (.long (sd + ((rr - (1 : Int32))).toInt64)), .second, .val (.int (0 : Int32))] [(.int (1 : Int32))]))
      refine Goes.st (fun _ k => XS.goto X2.here hx rfl (pc0 := 75) (pc' := 79) rfl (hb hby at_75) (by decide) (by decide) k) ?_
      show Goes _ _ _ _ (T2.setTop (mkF m 79 #[.val (.long p1), .second, .val (.int p2), .val (.int p3), .val (.int p4), .val (.int rr), .val (.long sd), .second, .val (.int (own_f sd rr)), .val (.long (sd + ((rr - (1 : Int32))).toInt64)), .second, .val (.int (0 : Int32))] [(.int (1 : Int32))]))
      exact leafZ X2 hx Bd.notSynchronized Bd.returns (hb hby at_79) (by decide) (by decide) (by decide) ⟨rfl, N2⟩
    · skip
      have hP := own_f_y (Classical.byContradiction fun q => hd ((lw_lt _ _).mpr ((own_wrap hrun).mpr q)))
      refine Goes.st (fun _ k => XS.ifNo X2.here hx rfl (hb hby at_57) rfl ((if0 _ _).trans (flt hd).1) k) ?_
      show Goes _ _ _ _ (T2.setTop (mkF m 60 #[.val (.long p1), .second, .val (.int p2), .val (.int p3), .val (.int p4), .val (.int rr), .val (.long sd), .second, .val (.int (own_f sd rr)), .val (.long (sd + ((rr - (1 : Int32))).toInt64)), .second, .unset] []))
      refine Goes.st (fun _ k => XS.iconst X2.here hx rfl (hb hby at_60) k) ?_
      show Goes _ _ _ _ (T2.setTop (mkF m 61 #[.val (.long p1), .second, .val (.int p2), .val (.int p3), .val (.int p4), .val (.int rr), .val (.long sd), .second, .val (.int (own_f sd rr)), .val (.long (sd + ((rr - (1 : Int32))).toInt64)), .second, .unset] [(.int (1 : Int32))]))
      refine Goes.st (fun _ k => XS.goto X2.here hx rfl (pc0 := 61) (pc' := 65) rfl (hb hby at_61) (by decide) (by decide) k) ?_
      show Goes _ _ _ _ (T2.setTop (mkF m 65 #[.val (.long p1), .second, .val (.int p2), .val (.int p3), .val (.int p4), .val (.int rr), .val (.long sd), .second, .val (.int (own_f sd rr)), .val (.long (sd + ((rr - (1 : Int32))).toInt64)), .second, .unset] [(.int (1 : Int32))]))
      refine Goes.st (fun _ k => XS.istore X2.here hx rfl (hb hby at_65) rfl (l' := #[.val (.long p1), .second, .val (.int p2), .val (.int p3), .val (.int p4), .val (.int rr), .val (.long sd), .second, .val (.int (own_f sd rr)), .val (.long (sd + ((rr - (1 : Int32))).toInt64)), .second, .val (.int (1 : Int32))]) rfl k) ?_
      show Goes _ _ _ _ (T2.setTop (mkF m 67 #[.val (.long p1), .second, .val (.int p2), .val (.int p3), .val (.int p4), .val (.int rr), .val (.long sd), .second, .val (.int (own_f sd rr)), .val (.long (sd + ((rr - (1 : Int32))).toInt64)), .second, .val (.int (1 : Int32))] []))
      refine Goes.st (fun _ k => XS.iload X2.here hx rfl (hb hby at_67) rfl k) ?_
      show Goes _ _ _ _ (T2.setTop (mkF m 69 #[.val (.long p1), .second, .val (.int p2), .val (.int p3), .val (.int p4), .val (.int rr), .val (.long sd), .second, .val (.int (own_f sd rr)), .val (.long (sd + ((rr - (1 : Int32))).toInt64)), .second, .val (.int (1 : Int32))] [(.int (own_f sd rr))]))
      refine Goes.st (fun _ k => XS.iload X2.here hx rfl (hb hby at_69) rfl k) ?_
      show Goes _ _ _ _ (T2.setTop (mkF m 71 #[.val (.long p1), .second, .val (.int p2), .val (.int p3), .val (.int p4), .val (.int rr), .val (.long sd), .second, .val (.int (own_f sd rr)), .val (.long (sd + ((rr - (1 : Int32))).toInt64)), .second, .val (.int (1 : Int32))] [(.int (1 : Int32)), (.int (own_f sd rr))]))
      refine Goes.st (fun _ k => XS.icmpNo X2.here hx rfl (hb hby at_71) rfl (teq hP).2 k) ?_
      show Goes _ _ _ _ (T2.setTop (mkF m 74 #[.val (.long p1), .second, .val (.int p2), .val (.int p3), .val (.int p4), .val (.int rr), .val (.long sd), .second, .val (.int (own_f sd rr)), .val (.long (sd + ((rr - (1 : Int32))).toInt64)), .second, .val (.int (1 : Int32))] []))
      refine Goes.st (fun _ k => XS.iconst X2.here hx rfl (hb hby at_74) k) ?_
      show Goes _ _ _ _ (T2.setTop (mkF m 75 #[.val (.long p1), .second, .val (.int p2), .val (.int p3), .val (.int p4), .val (.int rr), .val (.long sd), .second, .val (.int (own_f sd rr)), .val (.long (sd + ((rr - (1 : Int32))).toInt64)), .second, .val (.int (1 : Int32))] [(.int (1 : Int32))]))
      refine Goes.st (fun _ k => XS.goto X2.here hx rfl (pc0 := 75) (pc' := 79) rfl (hb hby at_75) (by decide) (by decide) k) ?_
      show Goes _ _ _ _ (T2.setTop (mkF m 79 #[.val (.long p1), .second, .val (.int p2), .val (.int p3), .val (.int p4), .val (.int rr), .val (.long sd), .second, .val (.int (own_f sd rr)), .val (.long (sd + ((rr - (1 : Int32))).toInt64)), .second, .val (.int (1 : Int32))] [(.int (1 : Int32))]))
      exact leafZ X2 hx Bd.notSynchronized Bd.returns (hb hby at_79) (by decide) (by decide) (by decide) ⟨rfl, N2⟩
set_option maxRecDepth 65536 in
set_option maxHeartbeats 40000000 in
theorem comes_1 {Post : Tables → Env → Array Value → State → Outcome → State → Prop} (hpost : ∀ tb e args s v u, (limb_1_1.after args s (.returned v) u = true ∧ limb_1_2.after args s (.returned v) u = true ∧ True) → FrameEnd s (.returned v) u (Jvm.fieldLocs frame_1_writes args s ++ Jvm.arrayLocs frame_1_arrays args s ++ Jvm.staticLocs frame_1_statics s) 0 0 → Post tb e args s (.returned v) u) :
    ArmFor flags0 classFile x code maxLocals ret World_1 tables_1 room_1 Calls_1 rest_1 Pre_1 Post := by
  intro l hfl _ _ p e ha hc hk s m args below hf hA hF happ hP
  obtain ⟨hcalls, hrest, hpre⟩ := hP
  obtain ⟨-, -, -, hnamed, -, -, -, hat⟩ := (Spec.applies_iff hf).mp happ
  obtain ⟨hg, hn⟩ := and_e (Cond.before_iff.mp (show (Jvm.Cond.and given_1 narrow_1).before args s = true from hpre))
  obtain ⟨hq, hr0⟩ := and_e hg
  obtain ⟨hk0, hr1⟩ := and_e hr0
  obtain ⟨hk1, hr2⟩ := and_e hr1
  obtain ⟨hk2, hr3⟩ := and_e hr2
  obtain ⟨w0, w1, w2, w3, rfl⟩ : ∃ w0 w1 w2 w3 : Value, args = #[w0, w1, w2, w3] := by
    have hs : args.size = 4 := by simpa [Cond.value, given_1] using hq
    obtain ⟨L⟩ := args
    match L, hs with
    | [w0, w1, w2, w3], _ => exact ⟨w0, w1, w2, w3, rfl⟩
  have hw := fun d (hd : d ∈ tables_1) => atoms_spec (ws := Jvm.Cond.code x code maxLocals ret :: tables_1) hat d (List.mem_cons_of_mem _ hd)
  obtain ⟨i0, q0⟩ := isL_v hk0
  obtain rfl : w0 = (.long i0) := Option.some.inj q0
  obtain ⟨i1, q1⟩ := is_v hk1
  obtain rfl : w1 = (.int i1) := Option.some.inj q1
  obtain ⟨i2, q2⟩ := is_v hk2
  obtain rfl : w2 = (.int i2) := Option.some.inj q2
  obtain ⟨i3, q3⟩ := is_v hr3
  obtain rfl : w3 = (.int i3) := Option.some.inj q3
  obtain ⟨n, o, h1, h2, h3, _, L, rfl, ⟨rfl, N⟩, hq⟩ := rm0 l s _ hw tables_1 i0 i1 i2 i3 s.heap s.heap.size (Nat.le_refl _) p e ha hc hk s m _ below hf ((Spec.applies_iff_loose hf).mp happ).1 ⟨rfl, State.Warmed39.refl s, rfl⟩ trivial
  refine ⟨n, _, h1, h2, h3, hpost _ _ _ _ _ _ ⟨Cond.after_iff.mpr rfl, Cond.after_iff.mpr (eq_i res_at (Term.int_eval (1)) rfl), trivial⟩ ⟨hq.1, hq.2.1, (hq.2.2.sift fun y hy => Or.inr (N y hy)).mono (by decide) (by decide)⟩⟩
theorem main_1_1 : Claimed_1_1 := comes_1 fun _ _ _ _ _ _ h hF => ⟨h.1, hF⟩
theorem main_1_2 : Claimed_1_2 := comes_1 fun _ _ _ _ _ _ h hF => ⟨h.2.1, hF⟩
end Jvm.Pilot.@@N@@
namespace Jvm.Pilot.@@N@@
open Jvm Jvm.ClassFile Sem Op Lib Jvm.Free Jvm.Stand Jvm.Pilot.@@N@@.Jvm.D
/-! MADE BY PROGRAM (witnessworld.py) out of the Statement's table words and the real class files: 9 classes; the members and pool entries that the words name. The judged class is class 1, her method 1. -/
namespace start1
open Jvm.ClassFile
def u (s : String) : CpInfo := .utf8 (stringToUtf16 s)
/-- a pool by its gaps: so many unusable entries, then the entry; so many at the end -/
def gap : Nat → List CpInfo → List CpInfo
  | 0, r => r
  | n + 1, r => .unusable :: gap n r
def poolList (es : List (Nat × CpInfo)) (last : Nat) : List CpInfo := es.foldr (fun e r => gap e.1 (e.2 :: r)) (gap last [])
def pool (es : List (Nat × CpInfo)) (last : Nat) : Array CpInfo := ⟨poolList es last⟩
def fileOf (pool : Array CpInfo) (this : Nat) (attrs : Array Attribute := #[]) (ms : Array MethodInfo := #[]) (fl : Nat := 33) (sup : Nat := 0) (ifs : Array Nat := #[]) (fds : Array FieldInfo := #[]) : ClassFile where
  minorVersion := 0
  majorVersion := 65
  constantPool := pool
  accessFlags := fl
  thisClass := this
  superClass := sup
  interfaces := ifs
  fields := fds
  methods := ms
  attributes := attrs
def plain (name : String) (sup : Option ClassId) : Class where
  name := name
  kind := .ordinary
  loader := none
  accessFlags := 33
  super := sup
  interfaces := #[]
  cf := none
  fields := #[]
  methods := #[]
  instanceTypes := #[]
  staticTypes := #[]
  resolved := #[]
  callSites := []
  init := .initialized
  statics := none
  mirror := none

def pool0 : Array CpInfo := pool [(5, u "<init>"), (0, u "()V"), (1, .class_ 10), (1, u "java/lang/Object")] 113

def k0m0 : Method := { name := "<init>", desc := "()V", sig := { parameters := [], returnType := none }, accessFlags := 1, code := none }
/-- java/lang/Object -/
def k0 : Class := { plain "java/lang/Object" none with
  accessFlags := 33
  interfaces := #[]
  cf := some (fileOf pool0 8 #[] #[{ accessFlags := 1, nameIndex := 5, descriptorIndex := 6, attributes := #[] }] 33 0 #[] #[])
  fields := #[]
  methods := #[k0m0]
  instanceTypes := #[]
  staticTypes := #[]
  resolved := Array.replicate 124 none
  statics := none }

def pool1 : Array CpInfo := pool [(2, .class_ 4), (1, u "java/lang/Object"), (0, u "<init>"), (0, u "()V"), (0, .integer 2147483647), (4, .long 9223372036854775807), (1, .methodref 15 16), (0, .class_ 17), (0, .nameAndType 18 19), (0, u "com/example/jouleline/jouleline/benchmark/Sweep"), (0, u "seedsFit"), (0, u "(JI)Z"), (0, .class_ 21), (0, u "com/example/jouleline/jouleline/benchmark/SweepSeedsFitPinLaw"), (2, u "law"), (0, u "(JIII)Z")] 3

def k1m0 : Method := { name := "<init>", desc := "()V", sig := { parameters := [], returnType := none }, accessFlags := 2, code := none }
def k1c1 : Code := { maxStack := 4, maxLocals := 12, code := code, exceptionTable := #[], attributes := #[] }
def k1m1 : Method := { name := "law", desc := "(JIII)Z", sig := { parameters := [.long, .int, .int, .int], returnType := some .boolean }, accessFlags := 9, code := some k1c1 }
/-- com/example/jouleline/jouleline/benchmark/SweepSeedsFitPinLaw -/
def k1 : Class := { plain "com/example/jouleline/jouleline/benchmark/SweepSeedsFitPinLaw" (some 0) with
  accessFlags := 49
  interfaces := #[]
  cf := some (fileOf pool1 20 #[] #[{ accessFlags := 2, nameIndex := 5, descriptorIndex := 6, attributes := #[] }, { accessFlags := 9, nameIndex := 24, descriptorIndex := 25, attributes := #[] }] 49 2 #[] #[])
  fields := #[]
  methods := #[k1m0, k1m1]
  instanceTypes := #[]
  staticTypes := #[]
  resolved := Array.replicate 29 none
  statics := none }

def pool2 : Array CpInfo := pool [(2, .class_ 4), (1, u "java/lang/Object"), (0, u "<init>"), (0, u "()V"), (5, .class_ 14), (1, u "com/example/jouleline/jouleline/benchmark/Sweep"), (113, .long 9223372036854775807), (3, u "seedsFit"), (0, u "(JI)Z"), (5, .class_ 140), (0, u "com/example/jouleline/jouleline/benchmark/Sweep$1")] 71

def k2m0 : Method := { name := "<init>", desc := "()V", sig := { parameters := [], returnType := none }, accessFlags := 2, code := none }
def k2c1 : Code := { maxStack := 6, maxLocals := 3, code := prog_13_method_6_code, exceptionTable := #[], attributes := #[] }
def k2m1 : Method := { name := "seedsFit", desc := "(JI)Z", sig := { parameters := [.long, .int], returnType := some .boolean }, accessFlags := 9, code := some k2c1 }
/-- com/example/jouleline/jouleline/benchmark/Sweep -/
def k2 : Class := { plain "com/example/jouleline/jouleline/benchmark/Sweep" (some 0) with
  accessFlags := 49
  interfaces := #[]
  cf := some (fileOf pool2 12 #[.nestMembers #[139]] #[{ accessFlags := 2, nameIndex := 5, descriptorIndex := 6, attributes := #[] }, { accessFlags := 9, nameIndex := 132, descriptorIndex := 133, attributes := #[] }] 49 2 #[] #[])
  fields := #[]
  methods := #[k2m0, k2m1]
  instanceTypes := #[]
  staticTypes := #[]
  resolved := Array.replicate 212 none
  statics := none }

def pool3 : Array CpInfo := pool [(1, u "java/lang/Cloneable"), (0, .class_ 1), (0, u "java/lang/Object"), (0, .class_ 3)] 3

/-- java/lang/Cloneable -/
def k3 : Class := { plain "java/lang/Cloneable" (some 0) with
  accessFlags := 1537
  interfaces := #[]
  cf := some (fileOf pool3 2 #[] #[] 1537 4 #[] #[])
  fields := #[]
  methods := #[]
  instanceTypes := #[]
  staticTypes := #[]
  resolved := Array.replicate 8 none
  statics := none }

def pool4 : Array CpInfo := pool [(1, u "java/io/Serializable"), (0, .class_ 1), (0, u "java/lang/Object"), (0, .class_ 3)] 3

/-- java/io/Serializable -/
def k4 : Class := { plain "java/io/Serializable" (some 0) with
  accessFlags := 1537
  interfaces := #[]
  cf := some (fileOf pool4 2 #[] #[] 1537 4 #[] #[])
  fields := #[]
  methods := #[]
  instanceTypes := #[]
  staticTypes := #[]
  resolved := Array.replicate 8 none
  statics := none }

/-- the primitive byte -/
def k5 : Class := { plain "byte" none with kind := .primitive 'B', accessFlags := 0x411 }
/-- [B -/
def k6 : Class := { plain "[B" (some 0) with kind := .array 5 .byte, interfaces := #[3, 4], accessFlags := 1041 }

/-- the primitive int -/
def k7 : Class := { plain "int" none with kind := .primitive 'I', accessFlags := 0x411 }
/-- [I -/
def k8 : Class := { plain "[I" (some 0) with kind := .array 7 .int, interfaces := #[3, 4], accessFlags := 1041 }

def heap : Heap := #[]
def classes : Array Class := #[k0, k1, k2, k3, k4, k5, k6, k7, k8]
def interned : List (Array UInt16 × Addr) := []
def slotsUsed : Nat := 0
def theMethod : MethodId := ⟨1, 1⟩
def args0 : Array Value := #[.long 5, .int 3, .int 4, .int 1]
def aboutOver (below : List Frame) : State where
  vm := { classes := classes, interned := interned.toArray }
  heap := heap
  slotsUsed := slotsUsed
  threads := #[{ frames := .invoking theMethod args0 :: below }]
def below0 : List Frame := [.native { method := ⟨0, 0⟩, args := #[] }]
def about1 : State := aboutOver below0
def p0 : Program := .bare "" "" ""
def e0 : Env := launch0.env 0 0 0
theorem w_frames : about1.frames = Frame.invoking theMethod args0 :: below0 := rfl
set_option maxRecDepth 65536 in
theorem w_args : argsFit about1.vm theMethod args0 = true := by decide +kernel
set_option maxRecDepth 65536 in
theorem w_heap : heapFits about1 = true := by decide +kernel
set_option maxRecDepth 65536 in
theorem w_runnable : about1.curStatus? = some .runnable := by decide +kernel
set_option maxRecDepth 65536 in
theorem w_alone : about1.alone = true := by decide +kernel
set_option maxRecDepth 65536 in
theorem w_named : about1.methodNamed? x = some theMethod := by decide +kernel
set_option maxRecDepth 65536 in
theorem w_hears : about1.hears theMethod below0 = true := by decide +kernel
set_option maxRecDepth 65536 in
theorem w_ripe : about1.ripe theMethod args0 below0 = true := by decide +kernel
theorem w_running : about1.status = .running := rfl
set_option maxRecDepth 65536 in
theorem w_room : about1.hasRoom e0.platform room_1 = true :=
  launch0.hasRoom_least _ room_1 (by decide +kernel) (by decide +kernel) (by decide +kernel) (by decide +kernel) (by decide +kernel) (by decide +kernel)
theorem allAtoms_all (ts : List Jvm.Cond) (a : Array Jvm.Value) (st : Jvm.State) : (allAtoms ts).before a st = ts.all (fun c => c.before a st) := by
  induction ts with
  | nil => rfl
  | cons c t ih =>
    show (Jvm.Cond.and c (allAtoms t)).before a st = _
    rw [Jvm.Cond.before_and, ih, List.all_cons]
def words1 : List Jvm.Cond := Jvm.Cond.code x code maxLocals ret :: tables_1
/-- a 'code' word, met by the world's own term for the bytes: nothing is compared byte by byte -/
theorem code_word {y : MethodName} {bytes : ByteArray} {mx : Nat} {rt : Option FieldType} {a : Array Value} {s : State} {m : MethodId} {meth : Method} {c : Code} (h1 : s.methodNamed? y = some m) (h2 : s.vm.method? m = some meth) (h3 : meth.code = some c) (h4 : c.code = bytes)
    (h5 : (c.maxLocals == mx && c.exceptionTable.isEmpty && decide (c.maxStack ≤ mostOperands) && decide (meth.sig.returnType = rt) && !meth.locks && decide (parseMethodDescriptor y.desc = some meth.sig)) = true) : (Jvm.Cond.code y bytes mx rt).before a s = true := by
  simp only [Bool.and_eq_true, beq_iff_eq, Bool.not_eq_true', decide_eq_true_eq] at h5
  obtain ⟨⟨⟨⟨⟨g1, g2⟩, g3⟩, g4⟩, g5⟩, g6⟩ := h5
  simp [Cond.before, Cond.holds, Cond.value, h1, h2, h3, h4, g1, g2, g3, g4, g5, g6]
def isCode : Jvm.Cond → Bool
  | .code _ _ _ _ => true
  | _ => false
theorem all_split {L : List Jvm.Cond} {P : Jvm.Cond → Bool} (h1 : L.all (fun c => isCode c || P c) = true) (h2 : ∀ c ∈ L.filter isCode, P c = true) : L.all P = true := by
  refine List.all_eq_true.mpr fun c hc => ?_
  have h := List.all_eq_true.mp h1 c hc
  rcases Bool.eq_false_or_eq_true (isCode c) with hi | hi
  · exact h2 c (List.mem_filter.mpr ⟨hc, hi⟩)
  · simpa [hi] using h
set_option maxRecDepth 65536 in
theorem w_c0 : (Jvm.Cond.code x code maxLocals ret).before args0 about1 = true := code_word (m := ⟨1, 1⟩) (meth := k1m1) (c := k1c1) (by decide +kernel) rfl rfl rfl (by decide +kernel)
set_option maxRecDepth 65536 in
theorem w_c1 : (Jvm.Cond.code ({ cls := "com/example/jouleline/jouleline/benchmark/Sweep", name := "seedsFit", desc := "(JI)Z" } : Jvm.MethodName) prog_13_method_6_code (3 : Nat) (Option.some Jvm.ClassFile.FieldType.boolean)).before args0 about1 = true := code_word (m := ⟨2, 1⟩) (meth := k2m1) (c := k2c1) (by decide +kernel) rfl rfl rfl (by decide +kernel)
def codes1 : List Jvm.Cond := [Jvm.Cond.code x code maxLocals ret, Jvm.Cond.code ({ cls := "com/example/jouleline/jouleline/benchmark/Sweep", name := "seedsFit", desc := "(JI)Z" } : Jvm.MethodName) prog_13_method_6_code (3 : Nat) (Option.some Jvm.ClassFile.FieldType.boolean)]
set_option maxRecDepth 65536 in
theorem codes_eq : words1.filter isCode = codes1 := rfl
theorem w_codes : ∀ c ∈ words1.filter isCode, c.before args0 about1 = true := by
  rw [codes_eq]
  intro c hc
  simp only [codes1, List.mem_cons, List.not_mem_nil, or_false] at hc
  rcases hc with rfl | rfl
  · exact w_c0
  · exact w_c1
set_option maxRecDepth 65536 in
theorem w_t1 : words1.all (fun c => isCode c || c.before args0 about1) = true := by decide +kernel
theorem w_tables : (allAtoms (Jvm.Cond.code x code maxLocals ret :: tables_1)).before args0 about1 = true := by
  rw [allAtoms_all]
  show words1.all (fun c => c.before args0 about1) = true
  refine all_split ?_ w_codes
  rw [w_t1]
set_option maxRecDepth 65536 in
theorem w_case : (Jvm.Cond.and given_1 narrow_1).before args0 about1 = true := by decide +kernel
theorem w_applies : (headSpec (Jvm.Cond.code x code maxLocals ret :: tables_1) room_1).applies x e0.platform about1 = true :=
  (Spec.applies_iff w_frames).mpr ⟨w_running, w_runnable, w_alone, w_named, w_hears, w_ripe, w_room, w_tables⟩
theorem atStart : AtStart classFile x code maxLocals ret World_1 tables_1 room_1 Calls_1 rest_1 Pre_1 launch0 p0 e0 about1 theMethod args0 below0 :=
  ⟨lists_1, trivial, launch0.admits_env _ _ _, launch0.least_env, fairChoices_fair.cas, fairChoices_fair.clock, w_frames, w_args, w_heap, w_applies, trivial, trivial, w_case⟩
end start1
theorem witness_1 : WitnessClaimed_1 := ⟨start1.p0, start1.e0, start1.about1, start1.theMethod, start1.args0, start1.below0, start1.atStart⟩
end Jvm.Pilot.@@N@@
