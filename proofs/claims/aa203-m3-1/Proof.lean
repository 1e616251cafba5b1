import JvmDerived
import JvmDerived.Pilot.@@N@@Statement
import JvmDerived.Pilot.@@N@@Code
set_option linter.unusedVariables false
set_option linter.unusedSimpArgs false
namespace Jvm.RoadKit
open Sem ClassFile Op Lib Jvm.Stand Jvm.Free Jvm.LawKit
section Own
variable {p : Program} {l : Launch} {e : Env} {R : Room} {s : State} {m : MethodId} {args : Array Value} {below : List Frame} {meth : Method} {c : Code} {T T' : State} {locs : List Loc} {cells slots kc ks : Nat} {Q : Option Value → Heap → List Loc → Prop} {g g' : JFrame} {FE : Outcome → State → List Loc → Prop}
/-- from T with the frame g on top the body comes to its end: what it returns, the heap and the places written are as Q says; FE: the frame's own word of that end -/
def OFin (p : Program) (e : Env) (below : List Frame) (FE : Outcome → State → List Loc → Prop) (Q : Option Value → Heap → List Loc → Prop) (T : State) (g : JFrame) : Prop :=
  ∃ s₂ o, Steps p.tables e below (T.setTop g) s₂ ∧ s₂.status = .running ∧ Ended s₂ below o ∧ ∃ v L, o = .returned v ∧ Q v s₂.heap L ∧ FE o s₂ L
theorem OFin.st (st : ∀ target, Steps p.tables e below (T'.setTop g') target → Steps p.tables e below (T.setTop g) target) (h : OFin p e below FE Q T' g') : OFin p e below FE Q T g := by
  obtain ⟨s₂, o, h1, r⟩ := h; exact ⟨s₂, o, st _ h1, r⟩
theorem OFin.tr (st : Steps p.tables e below (T.setTop g) (T'.setTop g')) (h : OFin p e below FE Q T' g') : OFin p e below FE Q T g := h.st fun _ k => st.trans k
theorem OFin.cast (q : g = g') (h : OFin p e below FE Q T g') : OFin p e below FE Q T g := q ▸ h
/-- the end's frame: narrow (nothing interned), and wide (over the tables at hand) -/
theorem own_endN {v : Option Value} (hc : cells ≤ kc) (hs : slots ≤ ks) : ∀ fs : List Frame, s.WarmedH (T.setFrames fs).vm → s.sameButNew ({ T.setFrames fs with vm := s.vm } : State) locs cells slots → FrameEnd s (.returned v) (T.setFrames fs) locs kc ks :=
  fun fs hW h => ⟨⟨v, rfl⟩, hW, h.mono hc hs⟩
theorem own_endW {vm₁ : Vm} {n : Nat} {v : Option Value} (hS : s.Since vm₁ n) (hn : n ≤ T.heap.size) (hc : cells ≤ kc) (hs : slots ≤ ks) : ∀ fs : List Frame, (s.setVm vm₁).WarmedH (T.setFrames fs).vm → (s.setVm vm₁).sameButNew ({ T.setFrames fs with vm := vm₁ } : State) locs cells slots → ReturnedEndW s (.returned v) (T.setFrames fs) locs kc ks :=
  fun fs hW h => by
    obtain ⟨a, b, c'⟩ := hS.ended (U := T.setFrames fs) hW hn h
    exact ⟨⟨v, rfl⟩, a, b, c'.mono hc hs⟩
theorem own_retV (X : Stand p l e R s m args below meth c T locs cells slots) (hx : p.tables.exec = Jvm.exec) {pc : Nat} {Ls : Array Slot} (hret : meth.sig.returnType = none) (hlk : meth.locks = false) (hd : decode c.code pc = .ok (.return_, 1)) (hQ : Q none T.heap locs) (hE : ∀ fs : List Frame, s.WarmedH (T.setFrames fs).vm → s.sameButNew ({ T.setFrames fs with vm := s.vm } : State) locs cells slots → FE (.returned none) (T.setFrames fs) locs) : OFin p e below FE Q T (mkF m pc Ls []) := by
  obtain ⟨fs, hr, hrun, hended, hW, hsame⟩ := X.leave (v := none) (fun _ => rfl) hlk
  exact ⟨_, _, X.returnOut hx hret hd hr, hrun, hended, _, _, rfl, hQ, hE fs hW hsame⟩
theorem own_retI (X : Stand p l e R s m args below meth c T locs cells slots) (hx : p.tables.exec = Jvm.exec) {pc : Nat} {Ls : Array Slot} {z : Int32} {rest : List Value} (hret : meth.sig.returnType = some .int) (hlk : meth.locks = false) (hd : decode c.code pc = .ok (.ireturn, 1)) (hQ : Q (some (.int z)) T.heap locs) (hE : ∀ fs : List Frame, s.WarmedH (T.setFrames fs).vm → s.sameButNew ({ T.setFrames fs with vm := s.vm } : State) locs cells slots → FE (.returned (some (.int z))) (T.setFrames fs) locs) : OFin p e below FE Q T (mkF m pc Ls (.int z :: rest)) := by
  obtain ⟨fs, hr, hrun, hended, hW, hsame⟩ := X.leave (v := some (.int z)) (fun h => by rw [hret] at h; cases h) hlk
  exact ⟨_, _, retOut X hx hret rfl (Or.inl ⟨rfl, Or.inl rfl, z, rfl⟩) hd hr, hrun, hended, _, _, rfl, hQ, hE fs hW hsame⟩
theorem own_retN (X : Stand p l e R s m args below meth c T locs cells slots) (hx : p.tables.exec = Jvm.exec) {pc : Nat} {Ls : Array Slot} {z z' : Int32} {rest : List Value} {t : FieldType} (hret : meth.sig.returnType = some t) (hlk : meth.locks = false) (ht : t = .boolean ∨ t = .byte ∨ t = .char ∨ t = .short) (hz : nar t z = z') (hd : decode c.code pc = .ok (.ireturn, 1)) (hQ : Q (some (.int z')) T.heap locs) (hE : ∀ fs : List Frame, s.WarmedH (T.setFrames fs).vm → s.sameButNew ({ T.setFrames fs with vm := s.vm } : State) locs cells slots → FE (.returned (some (.int z'))) (T.setFrames fs) locs) : OFin p e below FE Q T (mkF m pc Ls (.int z :: rest)) := by
  subst hz
  obtain ⟨fs, hr, hrun, hended, hW, hsame⟩ := X.leave (v := some (.int (nar t z))) (fun h => by rw [hret] at h; cases h) hlk
  exact ⟨_, _, retN X hx hret ht hd hr, hrun, hended, _, _, rfl, hQ, hE fs hW hsame⟩
theorem own_retJ (X : Stand p l e R s m args below meth c T locs cells slots) (hx : p.tables.exec = Jvm.exec) {pc : Nat} {Ls : Array Slot} {z : Int64} {rest : List Value} (hret : meth.sig.returnType = some .long) (hlk : meth.locks = false) (hd : decode c.code pc = .ok (.lreturn, 1)) (hQ : Q (some (.long z)) T.heap locs) (hE : ∀ fs : List Frame, s.WarmedH (T.setFrames fs).vm → s.sameButNew ({ T.setFrames fs with vm := s.vm } : State) locs cells slots → FE (.returned (some (.long z))) (T.setFrames fs) locs) : OFin p e below FE Q T (mkF m pc Ls (.long z :: rest)) := by
  obtain ⟨fs, hr, hrun, hended, hW, hsame⟩ := X.leave (v := some (.long z)) (fun h => by rw [hret] at h; cases h) hlk
  exact ⟨_, _, retOut X hx hret rfl (Or.inr (Or.inl ⟨rfl, rfl, z, rfl⟩)) hd hr, hrun, hended, _, _, rfl, hQ, hE fs hW hsame⟩
theorem own_retR (X : Stand p l e R s m args below meth c T locs cells slots) (hx : p.tables.exec = Jvm.exec) {pc : Nat} {Ls : Array Slot} {w : Value} {t : FieldType} {rest : List Value} (hret : meth.sig.returnType = some t) (hlk : meth.locks = false) (ht : t.isReference = true) (hn : narrow t w = w) (hw : w.isRef = true) (hd : decode c.code pc = .ok (.areturn, 1)) (hQ : Q (some w) T.heap locs) (hE : ∀ fs : List Frame, s.WarmedH (T.setFrames fs).vm → s.sameButNew ({ T.setFrames fs with vm := s.vm } : State) locs cells slots → FE (.returned (some w)) (T.setFrames fs) locs) : OFin p e below FE Q T (mkF m pc Ls (w :: rest)) := by
  obtain ⟨fs, hr, hrun, hended, hW, hsame⟩ := X.leave (v := some w) (fun h => by rw [hret] at h; cases h) hlk
  exact ⟨_, _, retOut X hx hret hn (Or.inr (Or.inr (Or.inr (Or.inr ⟨rfl, ht, hw⟩)))) hd hr, hrun, hended, _, _, rfl, hQ, hE fs hW hsame⟩
end Own
end Jvm.RoadKit
namespace Jvm.RoadKit
open Sem ClassFile Op Lib Jvm.Stand Jvm.Free Jvm.LawKit
theorem own_fldI {args : Array Value} {s : State} {t : Term} {C n d : String} {a : Addr} {x : Int32} (ev : t.eval args s none [] s = some (.ref a)) (h : (Jvm.Cond.eq (Term.field t C n d) (Term.int x)).value args s none s [] = some true) : Fld s s.heap a C n d (.int x) := by
  obtain ⟨u, y, e1, e2, -, k2⟩ := cmp_v (Or.inl h)
  cases (Option.some.inj (e2.symm.trans (Term.int_eval x)) : y = .int x)
  obtain ⟨z, rfl⟩ := k2
  have q : z = x := by simpa [Jvm.Cond.value, e1, e2] using h
  subst q
  exact Fld.start ((fld_at ev).symm.trans e1)
theorem own_fldJ {args : Array Value} {s : State} {t : Term} {C n d : String} {a : Addr} {x : Int64} (ev : t.eval args s none [] s = some (.ref a)) (h : (Jvm.Cond.eq (Term.field t C n d) (Term.long x)).value args s none s [] = some true) : Fld s s.heap a C n d (.long x) := by
  obtain ⟨u, y, e1, e2, -, k2⟩ := cmp_v (Or.inl h)
  cases (Option.some.inj (e2.symm.trans (long_at x)) : y = .long x)
  obtain ⟨z, rfl⟩ := k2
  have q : z = x := by simpa [Jvm.Cond.value, e1, e2] using h
  subst q
  exact Fld.start ((fld_at ev).symm.trans e1)
end Jvm.RoadKit
namespace Jvm.RoadKit
theorem own_ite {α : Sort _} {P : α → Prop} {c : Prop} [Decidable c] {a b : α} (ha : P a) (hb : P b) : P (if c then a else b) := by split <;> assumption
theorem own_ite2 {α β : Sort _} {P : α → β → Prop} {c : Prop} [Decidable c] {a b : α} {a' b' : β} (ha : P a a') (hb : P b b') : P (if c then a else b) (if c then a' else b') := by split <;> assumption
/-- (x &&& 0x7fffffff) % d lies between 0 and d -/
theorem own_rem (x d : Int32) (n : Int) (hn : d.toInt = n) (h0 : 0 < n) : 0 ≤ ((x &&& (2147483647 : Int32)) % d).toInt ∧ ((x &&& (2147483647 : Int32)) % d).toInt < n := by
  have h1 := c_mask x (2147483647 : Int32) 31 (by decide) (by decide)
  have h2 := (c_irem (x &&& (2147483647 : Int32)) d n hn).1 (by rw [h1]; omega)
  rw [h2, h1]
  exact ⟨Int.emod_nonneg _ (by omega), Int.emod_lt_of_pos _ h0⟩
end Jvm.RoadKit
namespace Jvm.RoadKit
open Sem ClassFile Op Lib Jvm.Stand Jvm.Free Jvm.LawKit
theorem own_lremM {p : Program} {l : Launch} {e : Env} {R : Room} {s : State} {m : MethodId} {args : Array Value} {below : List Frame} {meth : Method} {c : Code} {T : State} {locs : List Loc} {cells slots : Nat} {g : JFrame} {target : State} (X : Stand p l e R s m args below meth c T locs cells slots) (hx : p.tables.exec = Jvm.exec) (hg : g.method = m) {x y : Int64} {rest : List Value} (hd : decode c.code g.pc = .ok (.lrem, 1)) (hs : g.stack = .long y :: .long x :: rest) (hy : y ≠ 0)
    (hr : Steps p.tables e below (T.setTop { g with pc := g.pc + 1, stack := .long (x % y) :: rest }) target) : Steps p.tables e below (T.setTop g) target :=
  XS.lrem X.here hx hg hd hs hy (by rw [lrem_mod]; exact hr)
end Jvm.RoadKit
namespace Jvm.RoadKit
open Sem ClassFile Op Lib Jvm.Stand Jvm.Free Jvm.LawKit
theorem own_pop2L {p : Program} {l : Launch} {e : Env} {R : Room} {s : State} {m : MethodId} {args : Array Value} {below : List Frame} {meth : Method} {c : Code} {T : State} {locs : List Loc} {cells slots : Nat} {g : JFrame} {target : State} (X : Stand p l e R s m args below meth c T locs cells slots) (hx : p.tables.exec = Jvm.exec) (hg : g.method = m) {x : Int64} {rest : List Value} (hd : decode c.code g.pc = .ok (.pop2, 1)) (hs : g.stack = .long x :: rest)
    (hr : Steps p.tables e below (T.setTop { g with pc := g.pc + 1, stack := rest }) target) : Steps p.tables e below (T.setTop g) target := by
  subst hg
  jvm_step X.here [X.here.top, hx, hd, hs, Value.category]
  exact hr
end Jvm.RoadKit
namespace Jvm.Pilot.@@N@@
open Jvm Jvm.ClassFile Sem Op Lib Jvm.Free Jvm.Stand Jvm.LawKit Jvm.RoadKit Bundle Jvm.Pilot.@@N@@.Jvm.D
theorem d1_0 : decode prog_67_method_4_code 0 = .ok (.aload_n 0, 1) := by decide +kernel
theorem d1_1 : decode prog_67_method_4_code 1 = .ok (.getfield 54, 3) := by decide +kernel
theorem d1_4 : decode prog_67_method_4_code 4 = .ok (.lload_n 1, 1) := by decide +kernel
theorem d1_5 : decode prog_67_method_4_code 5 = .ok (.ldc2_w 52, 3) := by decide +kernel
theorem d1_8 : decode prog_67_method_4_code 8 = .ok (.lxor, 1) := by decide +kernel
theorem d1_9 : decode prog_67_method_4_code 9 = .ok (.land, 1) := by decide +kernel
theorem d1_10 : decode prog_67_method_4_code 10 = .ok (.lload_n 3, 1) := by decide +kernel
theorem d1_11 : decode prog_67_method_4_code 11 = .ok (.ldc2_w 52, 3) := by decide +kernel
theorem d1_14 : decode prog_67_method_4_code 14 = .ok (.lxor, 1) := by decide +kernel
theorem d1_15 : decode prog_67_method_4_code 15 = .ok (.land, 1) := by decide +kernel
theorem d1_16 : decode prog_67_method_4_code 16 = .ok (.aload_n 0, 1) := by decide +kernel
theorem d1_17 : decode prog_67_method_4_code 17 = .ok (.getfield 58, 3) := by decide +kernel
theorem d1_20 : decode prog_67_method_4_code 20 = .ok (.lload_n 1, 1) := by decide +kernel
theorem d1_21 : decode prog_67_method_4_code 21 = .ok (.ldc2_w 52, 3) := by decide +kernel
theorem d1_24 : decode prog_67_method_4_code 24 = .ok (.lxor, 1) := by decide +kernel
theorem d1_25 : decode prog_67_method_4_code 25 = .ok (.land, 1) := by decide +kernel
theorem d1_26 : decode prog_67_method_4_code 26 = .ok (.lload_n 3, 1) := by decide +kernel
theorem d1_27 : decode prog_67_method_4_code 27 = .ok (.land, 1) := by decide +kernel
theorem d1_28 : decode prog_67_method_4_code 28 = .ok (.lor, 1) := by decide +kernel
theorem d1_29 : decode prog_67_method_4_code 29 = .ok (.aload_n 0, 1) := by decide +kernel
theorem d1_30 : decode prog_67_method_4_code 30 = .ok (.getfield 61, 3) := by decide +kernel
theorem d1_33 : decode prog_67_method_4_code 33 = .ok (.lload_n 1, 1) := by decide +kernel
theorem d1_34 : decode prog_67_method_4_code 34 = .ok (.land, 1) := by decide +kernel
theorem d1_35 : decode prog_67_method_4_code 35 = .ok (.lload_n 3, 1) := by decide +kernel
theorem d1_36 : decode prog_67_method_4_code 36 = .ok (.ldc2_w 52, 3) := by decide +kernel
theorem d1_39 : decode prog_67_method_4_code 39 = .ok (.lxor, 1) := by decide +kernel
theorem d1_40 : decode prog_67_method_4_code 40 = .ok (.land, 1) := by decide +kernel
theorem d1_41 : decode prog_67_method_4_code 41 = .ok (.lor, 1) := by decide +kernel
theorem d1_42 : decode prog_67_method_4_code 42 = .ok (.aload_n 0, 1) := by decide +kernel
theorem d1_43 : decode prog_67_method_4_code 43 = .ok (.getfield 64, 3) := by decide +kernel
theorem d1_46 : decode prog_67_method_4_code 46 = .ok (.lload_n 1, 1) := by decide +kernel
theorem d1_47 : decode prog_67_method_4_code 47 = .ok (.land, 1) := by decide +kernel
theorem d1_48 : decode prog_67_method_4_code 48 = .ok (.lload_n 3, 1) := by decide +kernel
theorem d1_49 : decode prog_67_method_4_code 49 = .ok (.land, 1) := by decide +kernel
theorem d1_50 : decode prog_67_method_4_code 50 = .ok (.lor, 1) := by decide +kernel
theorem d1_51 : decode prog_67_method_4_code 51 = .ok (.lreturn, 1) := by decide +kernel
theorem pn_com_example_verdikt_verdikt_model_BinaryOperator : plainName "com/example/verdikt/verdikt/model/BinaryOperator" = true := by first | (simp [plainName, overriddenIn]; done) | decide +kernel
theorem pd_0 : parseMethodDescriptor "(JJ)J" = some ⟨[.long, .long], some .long⟩ := by decide +kernel
theorem pn_com_example_verdikt_verdikt_model_BinaryOperatorApplyPinLaw : plainName "com/example/verdikt/verdikt/model/BinaryOperatorApplyPinLaw" = true := by first | (simp [plainName, overriddenIn]; done) | decide +kernel
theorem ef_rm1 (m : MethodId) (r0 : Addr) (q1 : Int64) (q2 : Int64) : entryFrame m #[(.ref r0), (.long q1), (.long q2)] 5 = mkF m 0 #[.val (.ref r0), .val (.long q1), .second, .val (.long q2), .second] [] := by first | (simp [entryFrame, mkF, argsToLocals, Value.category]; done) | rfl
def F1 (r0 : Addr) (q1 : Int64) (q2 : Int64) (f_withBothFalse_r0 : Int64) (f_withRightTrue_r0 : Int64) (f_withLeftTrue_r0 : Int64) (f_withBothTrue_r0 : Int64) : Int64 := (((((f_withBothFalse_r0 &&& (q1 ^^^ (-1 : Int64))) &&& (q2 ^^^ (-1 : Int64))) ||| ((f_withRightTrue_r0 &&& (q1 ^^^ (-1 : Int64))) &&& q2)) ||| ((f_withLeftTrue_r0 &&& q1) &&& (q2 ^^^ (-1 : Int64)))) ||| ((f_withBothTrue_r0 &&& q1) &&& q2))
def Q1 (r0 : Addr) (q1 : Int64) (q2 : Int64) (f_withBothFalse_r0 : Int64) (f_withRightTrue_r0 : Int64) (f_withLeftTrue_r0 : Int64) (f_withBothTrue_r0 : Int64) (h0 : Heap) (n0 : Nat) (v : Option Value) (h : Heap) (L : List Loc) : Prop := v = some (Value.long (F1 r0 q1 q2 f_withBothFalse_r0 f_withRightTrue_r0 f_withLeftTrue_r0 f_withBothTrue_r0)) ∧ Fr n0 L ∧ h = h0
set_option maxRecDepth 65536 in
set_option maxHeartbeats 40000000 in
theorem rm1 (l : Launch) (Z : State) (a0 : Array Value) (hw : ∀ d ∈ tables_1, d.before a0 Z = true) (ws : List Jvm.Cond) (r0 : Addr) (q1 : Int64) (q2 : Int64) (f_withBothFalse_r0 : Int64) (f_withRightTrue_r0 : Int64) (f_withLeftTrue_r0 : Int64) (f_withBothTrue_r0 : Int64) (h0 : Heap) (n0 : Nat) (O0 : Old Z n0 h0) (F_withBothFalse_r0 : Fld Z h0 r0 "com/example/verdikt/verdikt/model/BinaryOperator" "withBothFalse" "J" (.long f_withBothFalse_r0)) (F_withRightTrue_r0 : Fld Z h0 r0 "com/example/verdikt/verdikt/model/BinaryOperator" "withRightTrue" "J" (.long f_withRightTrue_r0)) (F_withLeftTrue_r0 : Fld Z h0 r0 "com/example/verdikt/verdikt/model/BinaryOperator" "withLeftTrue" "J" (.long f_withLeftTrue_r0)) (F_withBothTrue_r0 : Fld Z h0 r0 "com/example/verdikt/verdikt/model/BinaryOperator" "withBothTrue" "J" (.long f_withBothTrue_r0)) :
    MetFree l (⟨"com/example/verdikt/verdikt/model/BinaryOperator", "apply", "(JJ)J"⟩ : MethodName) (head1 (Jvm.Cond.code (⟨"com/example/verdikt/verdikt/model/BinaryOperator", "apply", "(JJ)J"⟩ : MethodName) prog_67_method_4_code 5 (some .long) :: ws) ({ frames := 0, cells := 0, slots := 0, locals := 0 } : Room)) (fun a U => a = #[(.ref r0), (.long q1), (.long q2)] ∧ Z.Warmed39 U.vm ∧ U.heap = h0) (fun _ _ _ _ _ => True) (fun _ U o U' => ∃ v L, o = .returned v ∧ Q1 r0 q1 q2 f_withBothFalse_r0 f_withRightTrue_r0 f_withLeftTrue_r0 f_withBothTrue_r0 h0 n0 v U'.heap L ∧ FrameEnd U o U' L ({ frames := 0, cells := 0, slots := 0, locals := 0 } : Room).cells ({ frames := 0, cells := 0, slots := 0, locals := 0 } : Room).slots) := by
  refine MetFree.of_bodySF (plainFor_of_name pn_com_example_verdikt_verdikt_model_BinaryOperator) hisR ?_
  intro p e s m args below meth c s₁ Bd hml0 hP hK
  obtain ⟨rfl, hZ, hh⟩ := hP
  have hx := Bd.exec
  have hby := Bd.bytes
  have hml : c.maxLocals = 5 := hml0
  have hown : s.vm.findClass "com/example/verdikt/verdikt/model/BinaryOperator" = some m.cls := findClass_of_methodNamed Bd.named
  have hnm := (name_of_methodNamed Bd.named Bd.method).1
  have X0 : Stand p l e ({ frames := 0, cells := 0, slots := 0, locals := 0 } : Room) s m #[(.ref r0), (.long q1), (.long q2)] below meth c s₁ [] 0 0 := Stand.of_body Bd
  have e0 : s₁.heap = h0 := by rw [← hh, Bd.state]; rfl
  have N0 := Fr.nil n0
  show OFin p e below (fun o t L => FrameEnd s o t L ({ frames := 0, cells := 0, slots := 0, locals := 0 } : Room).cells ({ frames := 0, cells := 0, slots := 0, locals := 0 } : Room).slots) (fun v h L => Q1 r0 q1 q2 f_withBothFalse_r0 f_withRightTrue_r0 f_withLeftTrue_r0 f_withBothTrue_r0 h0 n0 v h L) s₁ (entryFrame m #[(.ref r0), (.long q1), (.long q2)] 5)
  refine OFin.cast (ef_rm1 m r0 q1 q2) ?_
  show OFin p e below _ _ s₁ (mkF m 0 #[.val (.ref r0), .val (.long q1), .second, .val (.long q2), .second] [])
  refine OFin.st (fun t k => XS.aloadN X0.here hx rfl (hb hby d1_0) rfl rfl k) ?_
  show OFin p e below _ _ s₁ (mkF m 1 #[.val (.ref r0), .val (.long q1), .second, .val (.long q2), .second] [(.ref r0)])
  obtain ⟨T1, X1, e1, st1⟩ := getF X0 hx hZ hown (host := "") (Or.inl (hw _ (List.mem_of_getElem? (i := 10) rfl))) Via.refl e0 F_withBothFalse_r0 (g := (mkF m 1 #[.val (.ref r0), .val (.long q1), .second, .val (.long q2), .second] [(.ref r0)])) rfl rfl (hb hby d1_1)
  refine OFin.st st1 ?_
  show OFin p e below _ _ T1 (mkF m 4 #[.val (.ref r0), .val (.long q1), .second, .val (.long q2), .second] [(.long f_withBothFalse_r0)])
  refine OFin.st (fun t k => XS.lloadN X1.here hx rfl (hb hby d1_4) rfl k) ?_
  show OFin p e below _ _ T1 (mkF m 5 #[.val (.ref r0), .val (.long q1), .second, .val (.long q2), .second] [(.long q1), (.long f_withBothFalse_r0)])
  refine OFin.st (X1.ldc2Long hx hown (mvT hZ (hw _ (List.mem_of_getElem? (i := 12) rfl))) (g := (mkF m 5 #[.val (.ref r0), .val (.long q1), .second, .val (.long q2), .second] [(.long q1), (.long f_withBothFalse_r0)])) rfl (hb hby d1_5)) ?_
  show OFin p e below _ _ T1 (mkF m 8 #[.val (.ref r0), .val (.long q1), .second, .val (.long q2), .second] [(.long (-1 : Int64)), (.long q1), (.long f_withBothFalse_r0)])
  refine OFin.st (fun t k => XS.lxor X1.here hx rfl (hb hby d1_8) rfl k) ?_
  show OFin p e below _ _ T1 (mkF m 9 #[.val (.ref r0), .val (.long q1), .second, .val (.long q2), .second] [(.long (q1 ^^^ (-1 : Int64))), (.long f_withBothFalse_r0)])
  refine OFin.st (fun t k => XS.land X1.here hx rfl (hb hby d1_9) rfl k) ?_
  show OFin p e below _ _ T1 (mkF m 10 #[.val (.ref r0), .val (.long q1), .second, .val (.long q2), .second] [(.long (f_withBothFalse_r0 &&& (q1 ^^^ (-1 : Int64))))])
  refine OFin.st (fun t k => XS.lloadN X1.here hx rfl (hb hby d1_10) rfl k) ?_
  show OFin p e below _ _ T1 (mkF m 11 #[.val (.ref r0), .val (.long q1), .second, .val (.long q2), .second] [(.long q2), (.long (f_withBothFalse_r0 &&& (q1 ^^^ (-1 : Int64))))])
  refine OFin.st (X1.ldc2Long hx hown (mvT hZ (hw _ (List.mem_of_getElem? (i := 12) rfl))) (g := (mkF m 11 #[.val (.ref r0), .val (.long q1), .second, .val (.long q2), .second] [(.long q2), (.long (f_withBothFalse_r0 &&& (q1 ^^^ (-1 : Int64))))])) rfl (hb hby d1_11)) ?_
  show OFin p e below _ _ T1 (mkF m 14 #[.val (.ref r0), .val (.long q1), .second, .val (.long q2), .second] [(.long (-1 : Int64)), (.long q2), (.long (f_withBothFalse_r0 &&& (q1 ^^^ (-1 : Int64))))])
  refine OFin.st (fun t k => XS.lxor X1.here hx rfl (hb hby d1_14) rfl k) ?_
  show OFin p e below _ _ T1 (mkF m 15 #[.val (.ref r0), .val (.long q1), .second, .val (.long q2), .second] [(.long (q2 ^^^ (-1 : Int64))), (.long (f_withBothFalse_r0 &&& (q1 ^^^ (-1 : Int64))))])
  refine OFin.st (fun t k => XS.land X1.here hx rfl (hb hby d1_15) rfl k) ?_
  show OFin p e below _ _ T1 (mkF m 16 #[.val (.ref r0), .val (.long q1), .second, .val (.long q2), .second] [(.long ((f_withBothFalse_r0 &&& (q1 ^^^ (-1 : Int64))) &&& (q2 ^^^ (-1 : Int64))))])
  refine OFin.st (fun t k => XS.aloadN X1.here hx rfl (hb hby d1_16) rfl rfl k) ?_
  show OFin p e below _ _ T1 (mkF m 17 #[.val (.ref r0), .val (.long q1), .second, .val (.long q2), .second] [(.ref r0), (.long ((f_withBothFalse_r0 &&& (q1 ^^^ (-1 : Int64))) &&& (q2 ^^^ (-1 : Int64))))])
  obtain ⟨T2, X2, e2, st2⟩ := getF X1 hx hZ hown (host := "") (Or.inl (hw _ (List.mem_of_getElem? (i := 13) rfl))) Via.refl e1 F_withRightTrue_r0 (g := (mkF m 17 #[.val (.ref r0), .val (.long q1), .second, .val (.long q2), .second] [(.ref r0), (.long ((f_withBothFalse_r0 &&& (q1 ^^^ (-1 : Int64))) &&& (q2 ^^^ (-1 : Int64))))])) rfl rfl (hb hby d1_17)
  refine OFin.st st2 ?_
  show OFin p e below _ _ T2 (mkF m 20 #[.val (.ref r0), .val (.long q1), .second, .val (.long q2), .second] [(.long f_withRightTrue_r0), (.long ((f_withBothFalse_r0 &&& (q1 ^^^ (-1 : Int64))) &&& (q2 ^^^ (-1 : Int64))))])
  refine OFin.st (fun t k => XS.lloadN X2.here hx rfl (hb hby d1_20) rfl k) ?_
  show OFin p e below _ _ T2 (mkF m 21 #[.val (.ref r0), .val (.long q1), .second, .val (.long q2), .second] [(.long q1), (.long f_withRightTrue_r0), (.long ((f_withBothFalse_r0 &&& (q1 ^^^ (-1 : Int64))) &&& (q2 ^^^ (-1 : Int64))))])
  refine OFin.st (X2.ldc2Long hx hown (mvT hZ (hw _ (List.mem_of_getElem? (i := 12) rfl))) (g := (mkF m 21 #[.val (.ref r0), .val (.long q1), .second, .val (.long q2), .second] [(.long q1), (.long f_withRightTrue_r0), (.long ((f_withBothFalse_r0 &&& (q1 ^^^ (-1 : Int64))) &&& (q2 ^^^ (-1 : Int64))))])) rfl (hb hby d1_21)) ?_
  show OFin p e below _ _ T2 (mkF m 24 #[.val (.ref r0), .val (.long q1), .second, .val (.long q2), .second] [(.long (-1 : Int64)), (.long q1), (.long f_withRightTrue_r0), (.long ((f_withBothFalse_r0 &&& (q1 ^^^ (-1 : Int64))) &&& (q2 ^^^ (-1 : Int64))))])
  refine OFin.st (fun t k => XS.lxor X2.here hx rfl (hb hby d1_24) rfl k) ?_
  show OFin p e below _ _ T2 (mkF m 25 #[.val (.ref r0), .val (.long q1), .second, .val (.long q2), .second] [(.long (q1 ^^^ (-1 : Int64))), (.long f_withRightTrue_r0), (.long ((f_withBothFalse_r0 &&& (q1 ^^^ (-1 : Int64))) &&& (q2 ^^^ (-1 : Int64))))])
  refine OFin.st (fun t k => XS.land X2.here hx rfl (hb hby d1_25) rfl k) ?_
  show OFin p e below _ _ T2 (mkF m 26 #[.val (.ref r0), .val (.long q1), .second, .val (.long q2), .second] [(.long (f_withRightTrue_r0 &&& (q1 ^^^ (-1 : Int64)))), (.long ((f_withBothFalse_r0 &&& (q1 ^^^ (-1 : Int64))) &&& (q2 ^^^ (-1 : Int64))))])
  refine OFin.st (fun t k => XS.lloadN X2.here hx rfl (hb hby d1_26) rfl k) ?_
  show OFin p e below _ _ T2 (mkF m 27 #[.val (.ref r0), .val (.long q1), .second, .val (.long q2), .second] [(.long q2), (.long (f_withRightTrue_r0 &&& (q1 ^^^ (-1 : Int64)))), (.long ((f_withBothFalse_r0 &&& (q1 ^^^ (-1 : Int64))) &&& (q2 ^^^ (-1 : Int64))))])
  refine OFin.st (fun t k => XS.land X2.here hx rfl (hb hby d1_27) rfl k) ?_
  show OFin p e below _ _ T2 (mkF m 28 #[.val (.ref r0), .val (.long q1), .second, .val (.long q2), .second] [(.long ((f_withRightTrue_r0 &&& (q1 ^^^ (-1 : Int64))) &&& q2)), (.long ((f_withBothFalse_r0 &&& (q1 ^^^ (-1 : Int64))) &&& (q2 ^^^ (-1 : Int64))))])
  refine OFin.st (fun t k => XS.lor X2.here hx rfl (hb hby d1_28) rfl k) ?_
  show OFin p e below _ _ T2 (mkF m 29 #[.val (.ref r0), .val (.long q1), .second, .val (.long q2), .second] [(.long (((f_withBothFalse_r0 &&& (q1 ^^^ (-1 : Int64))) &&& (q2 ^^^ (-1 : Int64))) ||| ((f_withRightTrue_r0 &&& (q1 ^^^ (-1 : Int64))) &&& q2)))])
  refine OFin.st (fun t k => XS.aloadN X2.here hx rfl (hb hby d1_29) rfl rfl k) ?_
  show OFin p e below _ _ T2 (mkF m 30 #[.val (.ref r0), .val (.long q1), .second, .val (.long q2), .second] [(.ref r0), (.long (((f_withBothFalse_r0 &&& (q1 ^^^ (-1 : Int64))) &&& (q2 ^^^ (-1 : Int64))) ||| ((f_withRightTrue_r0 &&& (q1 ^^^ (-1 : Int64))) &&& q2)))])
  obtain ⟨T3, X3, e3, st3⟩ := getF X2 hx hZ hown (host := "") (Or.inl (hw _ (List.mem_of_getElem? (i := 15) rfl))) Via.refl e2 F_withLeftTrue_r0 (g := (mkF m 30 #[.val (.ref r0), .val (.long q1), .second, .val (.long q2), .second] [(.ref r0), (.long (((f_withBothFalse_r0 &&& (q1 ^^^ (-1 : Int64))) &&& (q2 ^^^ (-1 : Int64))) ||| ((f_withRightTrue_r0 &&& (q1 ^^^ (-1 : Int64))) &&& q2)))])) rfl rfl (hb hby d1_30)
  refine OFin.st st3 ?_
  show OFin p e below _ _ T3 (mkF m 33 #[.val (.ref r0), .val (.long q1), .second, .val (.long q2), .second] [(.long f_withLeftTrue_r0), (.long (((f_withBothFalse_r0 &&& (q1 ^^^ (-1 : Int64))) &&& (q2 ^^^ (-1 : Int64))) ||| ((f_withRightTrue_r0 &&& (q1 ^^^ (-1 : Int64))) &&& q2)))])
  refine OFin.st (fun t k => XS.lloadN X3.here hx rfl (hb hby d1_33) rfl k) ?_
  show OFin p e below _ _ T3 (mkF m 34 #[.val (.ref r0), .val (.long q1), .second, .val (.long q2), .second] [(.long q1), (.long f_withLeftTrue_r0), (.long (((f_withBothFalse_r0 &&& (q1 ^^^ (-1 : Int64))) &&& (q2 ^^^ (-1 : Int64))) ||| ((f_withRightTrue_r0 &&& (q1 ^^^ (-1 : Int64))) &&& q2)))])
  refine OFin.st (fun t k => XS.land X3.here hx rfl (hb hby d1_34) rfl k) ?_
  show OFin p e below _ _ T3 (mkF m 35 #[.val (.ref r0), .val (.long q1), .second, .val (.long q2), .second] [(.long (f_withLeftTrue_r0 &&& q1)), (.long (((f_withBothFalse_r0 &&& (q1 ^^^ (-1 : Int64))) &&& (q2 ^^^ (-1 : Int64))) ||| ((f_withRightTrue_r0 &&& (q1 ^^^ (-1 : Int64))) &&& q2)))])
  refine OFin.st (fun t k => XS.lloadN X3.here hx rfl (hb hby d1_35) rfl k) ?_
  show OFin p e below _ _ T3 (mkF m 36 #[.val (.ref r0), .val (.long q1), .second, .val (.long q2), .second] [(.long q2), (.long (f_withLeftTrue_r0 &&& q1)), (.long (((f_withBothFalse_r0 &&& (q1 ^^^ (-1 : Int64))) &&& (q2 ^^^ (-1 : Int64))) ||| ((f_withRightTrue_r0 &&& (q1 ^^^ (-1 : Int64))) &&& q2)))])
  refine OFin.st (X3.ldc2Long hx hown (mvT hZ (hw _ (List.mem_of_getElem? (i := 12) rfl))) (g := (mkF m 36 #[.val (.ref r0), .val (.long q1), .second, .val (.long q2), .second] [(.long q2), (.long (f_withLeftTrue_r0 &&& q1)), (.long (((f_withBothFalse_r0 &&& (q1 ^^^ (-1 : Int64))) &&& (q2 ^^^ (-1 : Int64))) ||| ((f_withRightTrue_r0 &&& (q1 ^^^ (-1 : Int64))) &&& q2)))])) rfl (hb hby d1_36)) ?_
  show OFin p e below _ _ T3 (mkF m 39 #[.val (.ref r0), .val (.long q1), .second, .val (.long q2), .second] [(.long (-1 : Int64)), (.long q2), (.long (f_withLeftTrue_r0 &&& q1)), (.long (((f_withBothFalse_r0 &&& (q1 ^^^ (-1 : Int64))) &&& (q2 ^^^ (-1 : Int64))) ||| ((f_withRightTrue_r0 &&& (q1 ^^^ (-1 : Int64))) &&& q2)))])
  refine OFin.st (fun t k => XS.lxor X3.here hx rfl (hb hby d1_39) rfl k) ?_
  show OFin p e below _ _ T3 (mkF m 40 #[.val (.ref r0), .val (.long q1), .second, .val (.long q2), .second] [(.long (q2 ^^^ (-1 : Int64))), (.long (f_withLeftTrue_r0 &&& q1)), (.long (((f_withBothFalse_r0 &&& (q1 ^^^ (-1 : Int64))) &&& (q2 ^^^ (-1 : Int64))) ||| ((f_withRightTrue_r0 &&& (q1 ^^^ (-1 : Int64))) &&& q2)))])
  refine OFin.st (fun t k => XS.land X3.here hx rfl (hb hby d1_40) rfl k) ?_
  show OFin p e below _ _ T3 (mkF m 41 #[.val (.ref r0), .val (.long q1), .second, .val (.long q2), .second] [(.long ((f_withLeftTrue_r0 &&& q1) &&& (q2 ^^^ (-1 : Int64)))), (.long (((f_withBothFalse_r0 &&& (q1 ^^^ (-1 : Int64))) &&& (q2 ^^^ (-1 : Int64))) ||| ((f_withRightTrue_r0 &&& (q1 ^^^ (-1 : Int64))) &&& q2)))])
  refine OFin.st (fun t k => XS.lor X3.here hx rfl (hb hby d1_41) rfl k) ?_
  show OFin p e below _ _ T3 (mkF m 42 #[.val (.ref r0), .val (.long q1), .second, .val (.long q2), .second] [(.long ((((f_withBothFalse_r0 &&& (q1 ^^^ (-1 : Int64))) &&& (q2 ^^^ (-1 : Int64))) ||| ((f_withRightTrue_r0 &&& (q1 ^^^ (-1 : Int64))) &&& q2)) ||| ((f_withLeftTrue_r0 &&& q1) &&& (q2 ^^^ (-1 : Int64)))))])
  refine OFin.st (fun t k => XS.aloadN X3.here hx rfl (hb hby d1_42) rfl rfl k) ?_
  show OFin p e below _ _ T3 (mkF m 43 #[.val (.ref r0), .val (.long q1), .second, .val (.long q2), .second] [(.ref r0), (.long ((((f_withBothFalse_r0 &&& (q1 ^^^ (-1 : Int64))) &&& (q2 ^^^ (-1 : Int64))) ||| ((f_withRightTrue_r0 &&& (q1 ^^^ (-1 : Int64))) &&& q2)) ||| ((f_withLeftTrue_r0 &&& q1) &&& (q2 ^^^ (-1 : Int64)))))])
  obtain ⟨T4, X4, e4, st4⟩ := getF X3 hx hZ hown (host := "") (Or.inl (hw _ (List.mem_of_getElem? (i := 17) rfl))) Via.refl e3 F_withBothTrue_r0 (g := (mkF m 43 #[.val (.ref r0), .val (.long q1), .second, .val (.long q2), .second] [(.ref r0), (.long ((((f_withBothFalse_r0 &&& (q1 ^^^ (-1 : Int64))) &&& (q2 ^^^ (-1 : Int64))) ||| ((f_withRightTrue_r0 &&& (q1 ^^^ (-1 : Int64))) &&& q2)) ||| ((f_withLeftTrue_r0 &&& q1) &&& (q2 ^^^ (-1 : Int64)))))])) rfl rfl (hb hby d1_43)
  refine OFin.st st4 ?_
  show OFin p e below _ _ T4 (mkF m 46 #[.val (.ref r0), .val (.long q1), .second, .val (.long q2), .second] [(.long f_withBothTrue_r0), (.long ((((f_withBothFalse_r0 &&& (q1 ^^^ (-1 : Int64))) &&& (q2 ^^^ (-1 : Int64))) ||| ((f_withRightTrue_r0 &&& (q1 ^^^ (-1 : Int64))) &&& q2)) ||| ((f_withLeftTrue_r0 &&& q1) &&& (q2 ^^^ (-1 : Int64)))))])
  refine OFin.st (fun t k => XS.lloadN X4.here hx rfl (hb hby d1_46) rfl k) ?_
  show OFin p e below _ _ T4 (mkF m 47 #[.val (.ref r0), .val (.long q1), .second, .val (.long q2), .second] [(.long q1), (.long f_withBothTrue_r0), (.long ((((f_withBothFalse_r0 &&& (q1 ^^^ (-1 : Int64))) &&& (q2 ^^^ (-1 : Int64))) ||| ((f_withRightTrue_r0 &&& (q1 ^^^ (-1 : Int64))) &&& q2)) ||| ((f_withLeftTrue_r0 &&& q1) &&& (q2 ^^^ (-1 : Int64)))))])
  refine OFin.st (fun t k => XS.land X4.here hx rfl (hb hby d1_47) rfl k) ?_
  show OFin p e below _ _ T4 (mkF m 48 #[.val (.ref r0), .val (.long q1), .second, .val (.long q2), .second] [(.long (f_withBothTrue_r0 &&& q1)), (.long ((((f_withBothFalse_r0 &&& (q1 ^^^ (-1 : Int64))) &&& (q2 ^^^ (-1 : Int64))) ||| ((f_withRightTrue_r0 &&& (q1 ^^^ (-1 : Int64))) &&& q2)) ||| ((f_withLeftTrue_r0 &&& q1) &&& (q2 ^^^ (-1 : Int64)))))])
  refine OFin.st (fun t k => XS.lloadN X4.here hx rfl (hb hby d1_48) rfl k) ?_
  show OFin p e below _ _ T4 (mkF m 49 #[.val (.ref r0), .val (.long q1), .second, .val (.long q2), .second] [(.long q2), (.long (f_withBothTrue_r0 &&& q1)), (.long ((((f_withBothFalse_r0 &&& (q1 ^^^ (-1 : Int64))) &&& (q2 ^^^ (-1 : Int64))) ||| ((f_withRightTrue_r0 &&& (q1 ^^^ (-1 : Int64))) &&& q2)) ||| ((f_withLeftTrue_r0 &&& q1) &&& (q2 ^^^ (-1 : Int64)))))])
  refine OFin.st (fun t k => XS.land X4.here hx rfl (hb hby d1_49) rfl k) ?_
  show OFin p e below _ _ T4 (mkF m 50 #[.val (.ref r0), .val (.long q1), .second, .val (.long q2), .second] [(.long ((f_withBothTrue_r0 &&& q1) &&& q2)), (.long ((((f_withBothFalse_r0 &&& (q1 ^^^ (-1 : Int64))) &&& (q2 ^^^ (-1 : Int64))) ||| ((f_withRightTrue_r0 &&& (q1 ^^^ (-1 : Int64))) &&& q2)) ||| ((f_withLeftTrue_r0 &&& q1) &&& (q2 ^^^ (-1 : Int64)))))])
  refine OFin.st (fun t k => XS.lor X4.here hx rfl (hb hby d1_50) rfl k) ?_
  show OFin p e below _ _ T4 (mkF m 51 #[.val (.ref r0), .val (.long q1), .second, .val (.long q2), .second] [(.long (((((f_withBothFalse_r0 &&& (q1 ^^^ (-1 : Int64))) &&& (q2 ^^^ (-1 : Int64))) ||| ((f_withRightTrue_r0 &&& (q1 ^^^ (-1 : Int64))) &&& q2)) ||| ((f_withLeftTrue_r0 &&& q1) &&& (q2 ^^^ (-1 : Int64)))) ||| ((f_withBothTrue_r0 &&& q1) &&& q2)))])
  exact own_retJ X4 hx Bd.returns Bd.notSynchronized (hb hby d1_51) ⟨(by rw [F1]; try rfl), N0, e4⟩ (own_endN (by decide) (by decide))
theorem own_IMPLIES (r0 : Addr) (q1 q2 : Int64) : F1 r0 q1 q2 (-1 : Int64) (-1 : Int64) (0 : Int64) (-1 : Int64) = ((q1 ^^^ (-1 : Int64)) ||| q2) := by
  rw [← Int64.toBitVec_inj, F1]
  simp only [Int64.toBitVec_and, Int64.toBitVec_or, Int64.toBitVec_xor]
  have e1 : (-1 : Int64).toBitVec = BitVec.allOnes 64 := by decide
  have e0 : (0 : Int64).toBitVec = 0#64 := by decide
  try rw [e1]
  try rw [e0]
  generalize q1.toBitVec = a
  generalize q2.toBitVec = b
  ext i hi
  simp only [BitVec.getElem_and, BitVec.getElem_or, BitVec.getElem_xor, BitVec.getElem_allOnes, BitVec.getElem_zero]
  cases a[i] <;> cases b[i] <;> rfl
theorem own_OR (r0 : Addr) (q1 q2 : Int64) : F1 r0 q1 q2 (0 : Int64) (-1 : Int64) (-1 : Int64) (-1 : Int64) = (q1 ||| q2) := by
  rw [← Int64.toBitVec_inj, F1]
  simp only [Int64.toBitVec_and, Int64.toBitVec_or, Int64.toBitVec_xor]
  have e1 : (-1 : Int64).toBitVec = BitVec.allOnes 64 := by decide
  have e0 : (0 : Int64).toBitVec = 0#64 := by decide
  try rw [e1]
  try rw [e0]
  generalize q1.toBitVec = a
  generalize q2.toBitVec = b
  ext i hi
  simp only [BitVec.getElem_and, BitVec.getElem_or, BitVec.getElem_xor, BitVec.getElem_allOnes, BitVec.getElem_zero]
  cases a[i] <;> cases b[i] <;> rfl
theorem own_XOR (r0 : Addr) (q1 q2 : Int64) : F1 r0 q1 q2 (0 : Int64) (-1 : Int64) (-1 : Int64) (0 : Int64) = (q1 ^^^ q2) := by
  rw [← Int64.toBitVec_inj, F1]
  simp only [Int64.toBitVec_and, Int64.toBitVec_or, Int64.toBitVec_xor]
  have e1 : (-1 : Int64).toBitVec = BitVec.allOnes 64 := by decide
  have e0 : (0 : Int64).toBitVec = 0#64 := by decide
  try rw [e1]
  try rw [e0]
  generalize q1.toBitVec = a
  generalize q2.toBitVec = b
  ext i hi
  simp only [BitVec.getElem_and, BitVec.getElem_or, BitVec.getElem_xor, BitVec.getElem_allOnes, BitVec.getElem_zero]
  cases a[i] <;> cases b[i] <;> rfl
theorem own_AND (r0 : Addr) (q1 q2 : Int64) : F1 r0 q1 q2 (0 : Int64) (0 : Int64) (0 : Int64) (-1 : Int64) = (q1 &&& q2) := by
  rw [← Int64.toBitVec_inj, F1]
  simp only [Int64.toBitVec_and, Int64.toBitVec_or, Int64.toBitVec_xor]
  have e1 : (-1 : Int64).toBitVec = BitVec.allOnes 64 := by decide
  have e0 : (0 : Int64).toBitVec = 0#64 := by decide
  try rw [e1]
  try rw [e0]
  generalize q1.toBitVec = a
  generalize q2.toBitVec = b
  ext i hi
  simp only [BitVec.getElem_and, BitVec.getElem_or, BitVec.getElem_xor, BitVec.getElem_allOnes, BitVec.getElem_zero]
  cases a[i] <;> cases b[i] <;> rfl
theorem own_EQUAL (r0 : Addr) (q1 q2 : Int64) : F1 r0 q1 q2 (-1 : Int64) (0 : Int64) (0 : Int64) (-1 : Int64) = ((q1 ^^^ q2) ^^^ (-1 : Int64)) := by
  rw [← Int64.toBitVec_inj, F1]
  simp only [Int64.toBitVec_and, Int64.toBitVec_or, Int64.toBitVec_xor]
  have e1 : (-1 : Int64).toBitVec = BitVec.allOnes 64 := by decide
  have e0 : (0 : Int64).toBitVec = 0#64 := by decide
  try rw [e1]
  try rw [e0]
  generalize q1.toBitVec = a
  generalize q2.toBitVec = b
  ext i hi
  simp only [BitVec.getElem_and, BitVec.getElem_or, BitVec.getElem_xor, BitVec.getElem_allOnes, BitVec.getElem_zero]
  cases a[i] <;> cases b[i] <;> rfl
theorem own_NOT_EQUAL (r0 : Addr) (q1 q2 : Int64) : F1 r0 q1 q2 (0 : Int64) (-1 : Int64) (-1 : Int64) (0 : Int64) = (q1 ^^^ q2) := by
  rw [← Int64.toBitVec_inj, F1]
  simp only [Int64.toBitVec_and, Int64.toBitVec_or, Int64.toBitVec_xor]
  have e1 : (-1 : Int64).toBitVec = BitVec.allOnes 64 := by decide
  have e0 : (0 : Int64).toBitVec = 0#64 := by decide
  try rw [e1]
  try rw [e0]
  generalize q1.toBitVec = a
  generalize q2.toBitVec = b
  ext i hi
  simp only [BitVec.getElem_and, BitVec.getElem_or, BitVec.getElem_xor, BitVec.getElem_allOnes, BitVec.getElem_zero]
  cases a[i] <;> cases b[i] <;> rfl
theorem ef_rm0 (m : MethodId) (p0 : Int32) (q1 : Int64) (q2 : Int64) : entryFrame m #[(.int p0), (.long q1), (.long q2)] maxLocals = mkF m 0 #[.val (.int p0), .val (.long q1), .second, .val (.long q2), .second, .unset, .unset, .unset, .unset] [] := by first | (simp [entryFrame, mkF, argsToLocals, Value.category, maxLocals]; done) | rfl
def F0 (p0 : Int32) (q1 : Int64) (q2 : Int64) (f_withBothFalse_w_IMPLIES : Int64) (f_withRightTrue_w_IMPLIES : Int64) (f_withLeftTrue_w_IMPLIES : Int64) (f_withBothTrue_w_IMPLIES : Int64) (f_withBothFalse_w_OR : Int64) (f_withRightTrue_w_OR : Int64) (f_withLeftTrue_w_OR : Int64) (f_withBothTrue_w_OR : Int64) (f_withBothFalse_w_XOR : Int64) (f_withRightTrue_w_XOR : Int64) (f_withLeftTrue_w_XOR : Int64) (f_withBothTrue_w_XOR : Int64) (f_withBothFalse_w_AND : Int64) (f_withRightTrue_w_AND : Int64) (f_withLeftTrue_w_AND : Int64) (f_withBothTrue_w_AND : Int64) (f_withBothFalse_w_EQUAL : Int64) (f_withRightTrue_w_EQUAL : Int64) (f_withLeftTrue_w_EQUAL : Int64) (f_withBothTrue_w_EQUAL : Int64) (f_withBothFalse_w_NOT_EQUAL : Int64) (f_withRightTrue_w_NOT_EQUAL : Int64) (f_withLeftTrue_w_NOT_EQUAL : Int64) (f_withBothTrue_w_NOT_EQUAL : Int64) (w_IMPLIES : Addr) (w_OR : Addr) (w_XOR : Addr) (w_AND : Addr) (w_EQUAL : Addr) (w_NOT_EQUAL : Addr) : Int32 := if ((p0 &&& (2147483647 : Int32)) % (6 : Int32)) = (0 : Int32) then (if (F1 w_IMPLIES q1 q2 f_withBothFalse_w_IMPLIES f_withRightTrue_w_IMPLIES f_withLeftTrue_w_IMPLIES f_withBothTrue_w_IMPLIES) = ((q1 ^^^ (-1 : Int64)) ||| q2) then (1 : Int32) else (0 : Int32)) else (if ((p0 &&& (2147483647 : Int32)) % (6 : Int32)) = (1 : Int32) then (if (F1 w_OR q1 q2 f_withBothFalse_w_OR f_withRightTrue_w_OR f_withLeftTrue_w_OR f_withBothTrue_w_OR) = (q1 ||| q2) then (1 : Int32) else (0 : Int32)) else (if ((p0 &&& (2147483647 : Int32)) % (6 : Int32)) = (2 : Int32) then (if (F1 w_XOR q1 q2 f_withBothFalse_w_XOR f_withRightTrue_w_XOR f_withLeftTrue_w_XOR f_withBothTrue_w_XOR) = (q1 ^^^ q2) then (1 : Int32) else (0 : Int32)) else (if ((p0 &&& (2147483647 : Int32)) % (6 : Int32)) = (3 : Int32) then (if (F1 w_AND q1 q2 f_withBothFalse_w_AND f_withRightTrue_w_AND f_withLeftTrue_w_AND f_withBothTrue_w_AND) = (q1 &&& q2) then (1 : Int32) else (0 : Int32)) else (if ((p0 &&& (2147483647 : Int32)) % (6 : Int32)) = (4 : Int32) then (if (F1 w_EQUAL q1 q2 f_withBothFalse_w_EQUAL f_withRightTrue_w_EQUAL f_withLeftTrue_w_EQUAL f_withBothTrue_w_EQUAL) = ((q1 ^^^ q2) ^^^ (-1 : Int64)) then (1 : Int32) else (0 : Int32)) else (if (F1 w_NOT_EQUAL q1 q2 f_withBothFalse_w_NOT_EQUAL f_withRightTrue_w_NOT_EQUAL f_withLeftTrue_w_NOT_EQUAL f_withBothTrue_w_NOT_EQUAL) = (q1 ^^^ q2) then (1 : Int32) else (0 : Int32))))))
def Q0 (p0 : Int32) (q1 : Int64) (q2 : Int64) (f_withBothFalse_w_IMPLIES : Int64) (f_withRightTrue_w_IMPLIES : Int64) (f_withLeftTrue_w_IMPLIES : Int64) (f_withBothTrue_w_IMPLIES : Int64) (f_withBothFalse_w_OR : Int64) (f_withRightTrue_w_OR : Int64) (f_withLeftTrue_w_OR : Int64) (f_withBothTrue_w_OR : Int64) (f_withBothFalse_w_XOR : Int64) (f_withRightTrue_w_XOR : Int64) (f_withLeftTrue_w_XOR : Int64) (f_withBothTrue_w_XOR : Int64) (f_withBothFalse_w_AND : Int64) (f_withRightTrue_w_AND : Int64) (f_withLeftTrue_w_AND : Int64) (f_withBothTrue_w_AND : Int64) (f_withBothFalse_w_EQUAL : Int64) (f_withRightTrue_w_EQUAL : Int64) (f_withLeftTrue_w_EQUAL : Int64) (f_withBothTrue_w_EQUAL : Int64) (f_withBothFalse_w_NOT_EQUAL : Int64) (f_withRightTrue_w_NOT_EQUAL : Int64) (f_withLeftTrue_w_NOT_EQUAL : Int64) (f_withBothTrue_w_NOT_EQUAL : Int64) (w_IMPLIES : Addr) (w_OR : Addr) (w_XOR : Addr) (w_AND : Addr) (w_EQUAL : Addr) (w_NOT_EQUAL : Addr) (h0 : Heap) (n0 : Nat) (v : Option Value) (h : Heap) (L : List Loc) : Prop := v = some (Value.int (F0 p0 q1 q2 f_withBothFalse_w_IMPLIES f_withRightTrue_w_IMPLIES f_withLeftTrue_w_IMPLIES f_withBothTrue_w_IMPLIES f_withBothFalse_w_OR f_withRightTrue_w_OR f_withLeftTrue_w_OR f_withBothTrue_w_OR f_withBothFalse_w_XOR f_withRightTrue_w_XOR f_withLeftTrue_w_XOR f_withBothTrue_w_XOR f_withBothFalse_w_AND f_withRightTrue_w_AND f_withLeftTrue_w_AND f_withBothTrue_w_AND f_withBothFalse_w_EQUAL f_withRightTrue_w_EQUAL f_withLeftTrue_w_EQUAL f_withBothTrue_w_EQUAL f_withBothFalse_w_NOT_EQUAL f_withRightTrue_w_NOT_EQUAL f_withLeftTrue_w_NOT_EQUAL f_withBothTrue_w_NOT_EQUAL w_IMPLIES w_OR w_XOR w_AND w_EQUAL w_NOT_EQUAL)) ∧ Fr n0 L ∧ h = h0
set_option maxRecDepth 65536 in
set_option maxHeartbeats 40000000 in
theorem rm0 (l : Launch) (Z : State) (a0 : Array Value) (hw : ∀ d ∈ tables_1, d.before a0 Z = true) (ws : List Jvm.Cond) (p0 : Int32) (q1 : Int64) (q2 : Int64) (f_withBothFalse_w_IMPLIES : Int64) (f_withRightTrue_w_IMPLIES : Int64) (f_withLeftTrue_w_IMPLIES : Int64) (f_withBothTrue_w_IMPLIES : Int64) (f_withBothFalse_w_OR : Int64) (f_withRightTrue_w_OR : Int64) (f_withLeftTrue_w_OR : Int64) (f_withBothTrue_w_OR : Int64) (f_withBothFalse_w_XOR : Int64) (f_withRightTrue_w_XOR : Int64) (f_withLeftTrue_w_XOR : Int64) (f_withBothTrue_w_XOR : Int64) (f_withBothFalse_w_AND : Int64) (f_withRightTrue_w_AND : Int64) (f_withLeftTrue_w_AND : Int64) (f_withBothTrue_w_AND : Int64) (f_withBothFalse_w_EQUAL : Int64) (f_withRightTrue_w_EQUAL : Int64) (f_withLeftTrue_w_EQUAL : Int64) (f_withBothTrue_w_EQUAL : Int64) (f_withBothFalse_w_NOT_EQUAL : Int64) (f_withRightTrue_w_NOT_EQUAL : Int64) (f_withLeftTrue_w_NOT_EQUAL : Int64) (f_withBothTrue_w_NOT_EQUAL : Int64) (w_IMPLIES : Addr) (w_OR : Addr) (w_XOR : Addr) (w_AND : Addr) (w_EQUAL : Addr) (w_NOT_EQUAL : Addr) (h0 : Heap) (n0 : Nat) (O0 : Old Z n0 h0) (E_w_IMPLIES : Exa Z h0 w_IMPLIES "com/example/verdikt/verdikt/model/BinaryOperator") (F_withBothFalse_w_IMPLIES : Fld Z h0 w_IMPLIES "com/example/verdikt/verdikt/model/BinaryOperator" "withBothFalse" "J" (.long f_withBothFalse_w_IMPLIES)) (F_withRightTrue_w_IMPLIES : Fld Z h0 w_IMPLIES "com/example/verdikt/verdikt/model/BinaryOperator" "withRightTrue" "J" (.long f_withRightTrue_w_IMPLIES)) (F_withLeftTrue_w_IMPLIES : Fld Z h0 w_IMPLIES "com/example/verdikt/verdikt/model/BinaryOperator" "withLeftTrue" "J" (.long f_withLeftTrue_w_IMPLIES)) (F_withBothTrue_w_IMPLIES : Fld Z h0 w_IMPLIES "com/example/verdikt/verdikt/model/BinaryOperator" "withBothTrue" "J" (.long f_withBothTrue_w_IMPLIES)) (E_w_OR : Exa Z h0 w_OR "com/example/verdikt/verdikt/model/BinaryOperator") (F_withBothFalse_w_OR : Fld Z h0 w_OR "com/example/verdikt/verdikt/model/BinaryOperator" "withBothFalse" "J" (.long f_withBothFalse_w_OR)) (F_withRightTrue_w_OR : Fld Z h0 w_OR "com/example/verdikt/verdikt/model/BinaryOperator" "withRightTrue" "J" (.long f_withRightTrue_w_OR)) (F_withLeftTrue_w_OR : Fld Z h0 w_OR "com/example/verdikt/verdikt/model/BinaryOperator" "withLeftTrue" "J" (.long f_withLeftTrue_w_OR)) (F_withBothTrue_w_OR : Fld Z h0 w_OR "com/example/verdikt/verdikt/model/BinaryOperator" "withBothTrue" "J" (.long f_withBothTrue_w_OR)) (E_w_XOR : Exa Z h0 w_XOR "com/example/verdikt/verdikt/model/BinaryOperator") (F_withBothFalse_w_XOR : Fld Z h0 w_XOR "com/example/verdikt/verdikt/model/BinaryOperator" "withBothFalse" "J" (.long f_withBothFalse_w_XOR)) (F_withRightTrue_w_XOR : Fld Z h0 w_XOR "com/example/verdikt/verdikt/model/BinaryOperator" "withRightTrue" "J" (.long f_withRightTrue_w_XOR)) (F_withLeftTrue_w_XOR : Fld Z h0 w_XOR "com/example/verdikt/verdikt/model/BinaryOperator" "withLeftTrue" "J" (.long f_withLeftTrue_w_XOR)) (F_withBothTrue_w_XOR : Fld Z h0 w_XOR "com/example/verdikt/verdikt/model/BinaryOperator" "withBothTrue" "J" (.long f_withBothTrue_w_XOR)) (E_w_AND : Exa Z h0 w_AND "com/example/verdikt/verdikt/model/BinaryOperator") (F_withBothFalse_w_AND : Fld Z h0 w_AND "com/example/verdikt/verdikt/model/BinaryOperator" "withBothFalse" "J" (.long f_withBothFalse_w_AND)) (F_withRightTrue_w_AND : Fld Z h0 w_AND "com/example/verdikt/verdikt/model/BinaryOperator" "withRightTrue" "J" (.long f_withRightTrue_w_AND)) (F_withLeftTrue_w_AND : Fld Z h0 w_AND "com/example/verdikt/verdikt/model/BinaryOperator" "withLeftTrue" "J" (.long f_withLeftTrue_w_AND)) (F_withBothTrue_w_AND : Fld Z h0 w_AND "com/example/verdikt/verdikt/model/BinaryOperator" "withBothTrue" "J" (.long f_withBothTrue_w_AND)) (E_w_EQUAL : Exa Z h0 w_EQUAL "com/example/verdikt/verdikt/model/BinaryOperator") (F_withBothFalse_w_EQUAL : Fld Z h0 w_EQUAL "com/example/verdikt/verdikt/model/BinaryOperator" "withBothFalse" "J" (.long f_withBothFalse_w_EQUAL)) (F_withRightTrue_w_EQUAL : Fld Z h0 w_EQUAL "com/example/verdikt/verdikt/model/BinaryOperator" "withRightTrue" "J" (.long f_withRightTrue_w_EQUAL)) (F_withLeftTrue_w_EQUAL : Fld Z h0 w_EQUAL "com/example/verdikt/verdikt/model/BinaryOperator" "withLeftTrue" "J" (.long f_withLeftTrue_w_EQUAL)) (F_withBothTrue_w_EQUAL : Fld Z h0 w_EQUAL "com/example/verdikt/verdikt/model/BinaryOperator" "withBothTrue" "J" (.long f_withBothTrue_w_EQUAL)) (E_w_NOT_EQUAL : Exa Z h0 w_NOT_EQUAL "com/example/verdikt/verdikt/model/BinaryOperator") (F_withBothFalse_w_NOT_EQUAL : Fld Z h0 w_NOT_EQUAL "com/example/verdikt/verdikt/model/BinaryOperator" "withBothFalse" "J" (.long f_withBothFalse_w_NOT_EQUAL)) (F_withRightTrue_w_NOT_EQUAL : Fld Z h0 w_NOT_EQUAL "com/example/verdikt/verdikt/model/BinaryOperator" "withRightTrue" "J" (.long f_withRightTrue_w_NOT_EQUAL)) (F_withLeftTrue_w_NOT_EQUAL : Fld Z h0 w_NOT_EQUAL "com/example/verdikt/verdikt/model/BinaryOperator" "withLeftTrue" "J" (.long f_withLeftTrue_w_NOT_EQUAL)) (F_withBothTrue_w_NOT_EQUAL : Fld Z h0 w_NOT_EQUAL "com/example/verdikt/verdikt/model/BinaryOperator" "withBothTrue" "J" (.long f_withBothTrue_w_NOT_EQUAL)) (S_IMPLIES : Sta Z Z.heap "com/example/verdikt/verdikt/model/BinaryOperator" "IMPLIES" "Lcom/example/verdikt/verdikt/model/BinaryOperator;" (.ref w_IMPLIES)) (S_OR : Sta Z Z.heap "com/example/verdikt/verdikt/model/BinaryOperator" "OR" "Lcom/example/verdikt/verdikt/model/BinaryOperator;" (.ref w_OR)) (S_XOR : Sta Z Z.heap "com/example/verdikt/verdikt/model/BinaryOperator" "XOR" "Lcom/example/verdikt/verdikt/model/BinaryOperator;" (.ref w_XOR)) (S_AND : Sta Z Z.heap "com/example/verdikt/verdikt/model/BinaryOperator" "AND" "Lcom/example/verdikt/verdikt/model/BinaryOperator;" (.ref w_AND)) (S_EQUAL : Sta Z Z.heap "com/example/verdikt/verdikt/model/BinaryOperator" "EQUAL" "Lcom/example/verdikt/verdikt/model/BinaryOperator;" (.ref w_EQUAL)) (S_NOT_EQUAL : Sta Z Z.heap "com/example/verdikt/verdikt/model/BinaryOperator" "NOT_EQUAL" "Lcom/example/verdikt/verdikt/model/BinaryOperator;" (.ref w_NOT_EQUAL)) :
    MetFree l x (head1 (Jvm.Cond.code x code maxLocals ret :: ws) room_1) (fun a U => a = #[(.int p0), (.long q1), (.long q2)] ∧ Z.Warmed39 U.vm ∧ U.heap = h0) (fun _ _ _ _ _ => True) (fun _ U o U' => ∃ v L, o = .returned v ∧ Q0 p0 q1 q2 f_withBothFalse_w_IMPLIES f_withRightTrue_w_IMPLIES f_withLeftTrue_w_IMPLIES f_withBothTrue_w_IMPLIES f_withBothFalse_w_OR f_withRightTrue_w_OR f_withLeftTrue_w_OR f_withBothTrue_w_OR f_withBothFalse_w_XOR f_withRightTrue_w_XOR f_withLeftTrue_w_XOR f_withBothTrue_w_XOR f_withBothFalse_w_AND f_withRightTrue_w_AND f_withLeftTrue_w_AND f_withBothTrue_w_AND f_withBothFalse_w_EQUAL f_withRightTrue_w_EQUAL f_withLeftTrue_w_EQUAL f_withBothTrue_w_EQUAL f_withBothFalse_w_NOT_EQUAL f_withRightTrue_w_NOT_EQUAL f_withLeftTrue_w_NOT_EQUAL f_withBothTrue_w_NOT_EQUAL w_IMPLIES w_OR w_XOR w_AND w_EQUAL w_NOT_EQUAL h0 n0 v U'.heap L ∧ FrameEnd U o U' L room_1.cells room_1.slots) := by
  refine MetFree.of_bodySF (plainFor_of_name pn_com_example_verdikt_verdikt_model_BinaryOperatorApplyPinLaw) hisR ?_
  intro p e s m args below meth c s₁ Bd hml0 hP hK
  obtain ⟨rfl, hZ, hh⟩ := hP
  have hx := Bd.exec
  have hby := Bd.bytes
  have hml : c.maxLocals = 9 := hml0
  have hown : s.vm.findClass "com/example/verdikt/verdikt/model/BinaryOperatorApplyPinLaw" = some m.cls := findClass_of_methodNamed Bd.named
  have hnm := (name_of_methodNamed Bd.named Bd.method).1
  have X0 : Stand p l e room_1 s m #[(.int p0), (.long q1), (.long q2)] below meth c s₁ [] 0 0 := Stand.of_body Bd
  have e0 : s₁.heap = h0 := by rw [← hh, Bd.state]; rfl
  have N0 := Fr.nil n0
  show OFin p e below (fun o t L => FrameEnd s o t L room_1.cells room_1.slots) (fun v h L => Q0 p0 q1 q2 f_withBothFalse_w_IMPLIES f_withRightTrue_w_IMPLIES f_withLeftTrue_w_IMPLIES f_withBothTrue_w_IMPLIES f_withBothFalse_w_OR f_withRightTrue_w_OR f_withLeftTrue_w_OR f_withBothTrue_w_OR f_withBothFalse_w_XOR f_withRightTrue_w_XOR f_withLeftTrue_w_XOR f_withBothTrue_w_XOR f_withBothFalse_w_AND f_withRightTrue_w_AND f_withLeftTrue_w_AND f_withBothTrue_w_AND f_withBothFalse_w_EQUAL f_withRightTrue_w_EQUAL f_withLeftTrue_w_EQUAL f_withBothTrue_w_EQUAL f_withBothFalse_w_NOT_EQUAL f_withRightTrue_w_NOT_EQUAL f_withLeftTrue_w_NOT_EQUAL f_withBothTrue_w_NOT_EQUAL w_IMPLIES w_OR w_XOR w_AND w_EQUAL w_NOT_EQUAL h0 n0 v h L) s₁ (entryFrame m #[(.int p0), (.long q1), (.long q2)] maxLocals)
  refine OFin.cast (ef_rm0 m p0 q1 q2) ?_
  show OFin p e below _ _ s₁ (mkF m 0 #[.val (.int p0), .val (.long q1), .second, .val (.long q2), .second, .unset, .unset, .unset, .unset] [])
  refine OFin.st (fun t k => XS.iloadN X0.here hx rfl (hb hby at_0) rfl k) ?_
  show OFin p e below _ _ s₁ (mkF m 1 #[.val (.int p0), .val (.long q1), .second, .val (.long q2), .second, .unset, .unset, .unset, .unset] [(.int p0)])
  refine OFin.st (X0.ldcInt hx hown (mvT hZ (hw _ (List.mem_of_getElem? (i := 0) rfl))) (g := (mkF m 1 #[.val (.int p0), .val (.long q1), .second, .val (.long q2), .second, .unset, .unset, .unset, .unset] [(.int p0)])) rfl (hb hby at_1)) ?_
  show OFin p e below _ _ s₁ (mkF m 3 #[.val (.int p0), .val (.long q1), .second, .val (.long q2), .second, .unset, .unset, .unset, .unset] [(.int (2147483647 : Int32)), (.int p0)])
  refine OFin.st (fun t k => XS.iand X0.here hx rfl (hb hby at_3) rfl k) ?_
  show OFin p e below _ _ s₁ (mkF m 4 #[.val (.int p0), .val (.long q1), .second, .val (.long q2), .second, .unset, .unset, .unset, .unset] [(.int (p0 &&& (2147483647 : Int32)))])
  refine OFin.st (fun t k => XS.bipush X0.here hx rfl (hb hby at_4) k) ?_
  show OFin p e below _ _ s₁ (mkF m 6 #[.val (.int p0), .val (.long q1), .second, .val (.long q2), .second, .unset, .unset, .unset, .unset] [(.int (6 : Int32)), (.int (p0 &&& (2147483647 : Int32)))])
  refine OFin.st (fun t k => iremM X0 hx rfl (hb hby at_6) rfl (by decide) k) ?_
  show OFin p e below _ _ s₁ (mkF m 7 #[.val (.int p0), .val (.long q1), .second, .val (.long q2), .second, .unset, .unset, .unset, .unset] [(.int ((p0 &&& (2147483647 : Int32)) % (6 : Int32)))])
  refine OFin.st (fun t k => XS.istore X0.here hx rfl (hb hby at_7) rfl (l' := #[.val (.int p0), .val (.long q1), .second, .val (.long q2), .second, .val (.int ((p0 &&& (2147483647 : Int32)) % (6 : Int32))), .unset, .unset, .unset]) rfl k) ?_
  show OFin p e below _ _ s₁ (mkF m 9 #[.val (.int p0), .val (.long q1), .second, .val (.long q2), .second, .val (.int ((p0 &&& (2147483647 : Int32)) % (6 : Int32))), .unset, .unset, .unset] [])
  refine OFin.st (fun t k => XS.iload X0.here hx rfl (hb hby at_9) rfl k) ?_
  show OFin p e below _ _ s₁ (mkF m 11 #[.val (.int p0), .val (.long q1), .second, .val (.long q2), .second, .val (.int ((p0 &&& (2147483647 : Int32)) % (6 : Int32))), .unset, .unset, .unset] [(.int ((p0 &&& (2147483647 : Int32)) % (6 : Int32)))])
  by_cases hc11 : ((p0 &&& (2147483647 : Int32)) % (6 : Int32)) = (0 : Int32)
  · refine OFin.st (fun t k => XS.ifNo X0.here hx rfl (hb hby at_11) rfl ((if0 _ _).trans (teq hc11).2) k) ?_
    show OFin p e below _ _ s₁ (mkF m 14 #[.val (.int p0), .val (.long q1), .second, .val (.long q2), .second, .val (.int ((p0 &&& (2147483647 : Int32)) % (6 : Int32))), .unset, .unset, .unset] [])
    obtain ⟨T1, X1, e1, st1⟩ := getS2 X0 hx hZ hown (host := "") (Or.inl (hw _ (List.mem_of_getElem? (i := 1) rfl))) Via.refl e0 (S_IMPLIES.ext O0.2) (g := (mkF m 14 #[.val (.int p0), .val (.long q1), .second, .val (.long q2), .second, .val (.int ((p0 &&& (2147483647 : Int32)) % (6 : Int32))), .unset, .unset, .unset] [])) rfl (hb hby at_14)
    refine OFin.st st1 ?_
    show OFin p e below _ _ T1 (mkF m 17 #[.val (.int p0), .val (.long q1), .second, .val (.long q2), .second, .val (.int ((p0 &&& (2147483647 : Int32)) % (6 : Int32))), .unset, .unset, .unset] [(.ref w_IMPLIES)])
    refine OFin.st (fun t k => XS.astore X1.here hx rfl (hb hby at_17) rfl rfl (l' := #[.val (.int p0), .val (.long q1), .second, .val (.long q2), .second, .val (.int ((p0 &&& (2147483647 : Int32)) % (6 : Int32))), .val (.ref w_IMPLIES), .unset, .unset]) rfl k) ?_
    show OFin p e below _ _ T1 (mkF m 19 #[.val (.int p0), .val (.long q1), .second, .val (.long q2), .second, .val (.int ((p0 &&& (2147483647 : Int32)) % (6 : Int32))), .val (.ref w_IMPLIES), .unset, .unset] [])
    refine OFin.st (fun t k => XS.lloadN X1.here hx rfl (hb hby at_19) rfl k) ?_
    show OFin p e below _ _ T1 (mkF m 20 #[.val (.int p0), .val (.long q1), .second, .val (.long q2), .second, .val (.int ((p0 &&& (2147483647 : Int32)) % (6 : Int32))), .val (.ref w_IMPLIES), .unset, .unset] [(.long q1)])
    refine OFin.st (X1.ldc2Long hx hown (mvT hZ (hw _ (List.mem_of_getElem? (i := 4) rfl))) (g := (mkF m 20 #[.val (.int p0), .val (.long q1), .second, .val (.long q2), .second, .val (.int ((p0 &&& (2147483647 : Int32)) % (6 : Int32))), .val (.ref w_IMPLIES), .unset, .unset] [(.long q1)])) rfl (hb hby at_20)) ?_
    show OFin p e below _ _ T1 (mkF m 23 #[.val (.int p0), .val (.long q1), .second, .val (.long q2), .second, .val (.int ((p0 &&& (2147483647 : Int32)) % (6 : Int32))), .val (.ref w_IMPLIES), .unset, .unset] [(.long (-1 : Int64)), (.long q1)])
    refine OFin.st (fun t k => XS.lxor X1.here hx rfl (hb hby at_23) rfl k) ?_
    show OFin p e below _ _ T1 (mkF m 24 #[.val (.int p0), .val (.long q1), .second, .val (.long q2), .second, .val (.int ((p0 &&& (2147483647 : Int32)) % (6 : Int32))), .val (.ref w_IMPLIES), .unset, .unset] [(.long (q1 ^^^ (-1 : Int64)))])
    refine OFin.st (fun t k => XS.lloadN X1.here hx rfl (hb hby at_24) rfl k) ?_
    show OFin p e below _ _ T1 (mkF m 25 #[.val (.int p0), .val (.long q1), .second, .val (.long q2), .second, .val (.int ((p0 &&& (2147483647 : Int32)) % (6 : Int32))), .val (.ref w_IMPLIES), .unset, .unset] [(.long q2), (.long (q1 ^^^ (-1 : Int64)))])
    refine OFin.st (fun t k => XS.lor X1.here hx rfl (hb hby at_25) rfl k) ?_
    show OFin p e below _ _ T1 (mkF m 26 #[.val (.int p0), .val (.long q1), .second, .val (.long q2), .second, .val (.int ((p0 &&& (2147483647 : Int32)) % (6 : Int32))), .val (.ref w_IMPLIES), .unset, .unset] [(.long ((q1 ^^^ (-1 : Int64)) ||| q2))])
    refine OFin.st (fun t k => XS.lstore X1.here hx rfl (hb hby at_26) rfl (l' := #[.val (.int p0), .val (.long q1), .second, .val (.long q2), .second, .val (.int ((p0 &&& (2147483647 : Int32)) % (6 : Int32))), .val (.ref w_IMPLIES), .val (.long ((q1 ^^^ (-1 : Int64)) ||| q2)), .second]) rfl k) ?_
    show OFin p e below _ _ T1 (mkF m 28 #[.val (.int p0), .val (.long q1), .second, .val (.long q2), .second, .val (.int ((p0 &&& (2147483647 : Int32)) % (6 : Int32))), .val (.ref w_IMPLIES), .val (.long ((q1 ^^^ (-1 : Int64)) ||| q2)), .second] [])
    refine OFin.st (fun t k => XS.goto X1.here hx rfl (pc0 := 28) (pc' := 121) rfl (hb hby at_28) (by decide) (by decide) k) ?_
    show OFin p e below _ _ T1 (mkF m 121 #[.val (.int p0), .val (.long q1), .second, .val (.long q2), .second, .val (.int ((p0 &&& (2147483647 : Int32)) % (6 : Int32))), .val (.ref w_IMPLIES), .val (.long ((q1 ^^^ (-1 : Int64)) ||| q2)), .second] [])
    refine OFin.st (fun t k => XS.aload X1.here hx rfl (hb hby at_121) rfl rfl k) ?_
    show OFin p e below _ _ T1 (mkF m 123 #[.val (.int p0), .val (.long q1), .second, .val (.long q2), .second, .val (.int ((p0 &&& (2147483647 : Int32)) % (6 : Int32))), .val (.ref w_IMPLIES), .val (.long ((q1 ^^^ (-1 : Int64)) ||| q2)), .second] [(.ref w_IMPLIES)])
    refine OFin.st (fun t k => XS.lloadN X1.here hx rfl (hb hby at_123) rfl k) ?_
    show OFin p e below _ _ T1 (mkF m 124 #[.val (.int p0), .val (.long q1), .second, .val (.long q2), .second, .val (.int ((p0 &&& (2147483647 : Int32)) % (6 : Int32))), .val (.ref w_IMPLIES), .val (.long ((q1 ^^^ (-1 : Int64)) ||| q2)), .second] [(.long q1), (.ref w_IMPLIES)])
    refine OFin.st (fun t k => XS.lloadN X1.here hx rfl (hb hby at_124) rfl k) ?_
    show OFin p e below _ _ T1 (mkF m 125 #[.val (.int p0), .val (.long q1), .second, .val (.long q2), .second, .val (.int ((p0 &&& (2147483647 : Int32)) % (6 : Int32))), .val (.ref w_IMPLIES), .val (.long ((q1 ^^^ (-1 : Int64)) ||| q2)), .second] [(.long q2), (.long q1), (.ref w_IMPLIES)])
    obtain ⟨cq2, kq2, q2a, q2b, q2c⟩ := isOf hZ e1 E_w_IMPLIES
    obtain ⟨_, _, ⟨T2, L2, k2, n2⟩, -, X2, ⟨Lc2, hQ2, l2, y2, z2⟩, st2⟩ := X1.virtualBack hx (y := (⟨"com/example/verdikt/verdikt/model/BinaryOperator", "apply", "(JJ)J"⟩ : MethodName)) (z := (⟨"com/example/verdikt/verdikt/model/BinaryOperator", "apply", "(JJ)J"⟩ : MethodName)) hown (mvT hZ (hw _ (List.mem_of_getElem? (i := 5) rfl))) (mvT hZ (hw _ (List.mem_of_getElem? (i := 6) rfl))) (notFace_of_selects (args := #[]) (mvT hZ (hw _ (List.mem_of_getElem? (i := 8) rfl)))) (mvT hZ (hw _ (List.mem_of_getElem? (i := 8) rfl))) (mvT hZ (hw _ (List.mem_of_getElem? (i := 7) rfl))) (by decide) (backOf (W := 0) (rm1 l Z a0 hw [] w_IMPLIES q1 q2 f_withBothFalse_w_IMPLIES f_withRightTrue_w_IMPLIES f_withLeftTrue_w_IMPLIES f_withBothTrue_w_IMPLIES h0 n0 O0 F_withBothFalse_w_IMPLIES F_withRightTrue_w_IMPLIES F_withLeftTrue_w_IMPLIES F_withBothTrue_w_IMPLIES) hZ (hw _ (List.mem_of_getElem? (i := 9) rfl)) (hw _ (List.mem_of_getElem? (i := 2) rfl)) (by decide) (by decide)) q2a q2c (g := (mkF m 125 #[.val (.int p0), .val (.long q1), .second, .val (.long q2), .second, .val (.int ((p0 &&& (2147483647 : Int32)) % (6 : Int32))), .val (.ref w_IMPLIES), .val (.long ((q1 ^^^ (-1 : Int64)) ||| q2)), .second] [(.long q2), (.long q1), (.ref w_IMPLIES)])) rfl (by rw [hml]; rfl) (Steps.refl _) (argsL := [(.long q1), (.long q2)]) (rest := []) (lenOf pd_0 rfl) rfl (by show 2 * 0 + _ ≤ _; exact Nat.le_of_eq rfl) (hb hby at_125) (fun _ _ => ⟨rfl, e1, (by decide : 0 + 0 ≤ _), (by decide : 0 + 0 ≤ _)⟩)
    dsimp only [Pt.U, Pt.locs, Pt.cells, Pt.slots] at X2 l2 y2 z2 st2 hQ2
    subst l2 y2 z2
    obtain ⟨rfl, N2q, e2⟩ := hQ2
    have N2 := Fr.app N0 N2q
    refine OFin.tr st2 ?_
    show OFin p e below _ _ T2 (mkF m 128 #[.val (.int p0), .val (.long q1), .second, .val (.long q2), .second, .val (.int ((p0 &&& (2147483647 : Int32)) % (6 : Int32))), .val (.ref w_IMPLIES), .val (.long ((q1 ^^^ (-1 : Int64)) ||| q2)), .second] [(.long (F1 w_IMPLIES q1 q2 f_withBothFalse_w_IMPLIES f_withRightTrue_w_IMPLIES f_withLeftTrue_w_IMPLIES f_withBothTrue_w_IMPLIES))])
    refine OFin.st (fun t k => XS.lload X2.here hx rfl (hb hby at_128) rfl k) ?_
    show OFin p e below _ _ T2 (mkF m 130 #[.val (.int p0), .val (.long q1), .second, .val (.long q2), .second, .val (.int ((p0 &&& (2147483647 : Int32)) % (6 : Int32))), .val (.ref w_IMPLIES), .val (.long ((q1 ^^^ (-1 : Int64)) ||| q2)), .second] [(.long ((q1 ^^^ (-1 : Int64)) ||| q2)), (.long (F1 w_IMPLIES q1 q2 f_withBothFalse_w_IMPLIES f_withRightTrue_w_IMPLIES f_withLeftTrue_w_IMPLIES f_withBothTrue_w_IMPLIES))])
    refine OFin.st (fun t k => XS.lcmp X2.here hx rfl (hb hby at_130) rfl k) ?_
    show OFin p e below _ _ T2 (mkF m 131 #[.val (.int p0), .val (.long q1), .second, .val (.long q2), .second, .val (.int ((p0 &&& (2147483647 : Int32)) % (6 : Int32))), .val (.ref w_IMPLIES), .val (.long ((q1 ^^^ (-1 : Int64)) ||| q2)), .second] [(.int (lcmpW (F1 w_IMPLIES q1 q2 f_withBothFalse_w_IMPLIES f_withRightTrue_w_IMPLIES f_withLeftTrue_w_IMPLIES f_withBothTrue_w_IMPLIES) ((q1 ^^^ (-1 : Int64)) ||| q2)))])
    by_cases hc131 : (F1 w_IMPLIES q1 q2 f_withBothFalse_w_IMPLIES f_withRightTrue_w_IMPLIES f_withLeftTrue_w_IMPLIES f_withBothTrue_w_IMPLIES) = ((q1 ^^^ (-1 : Int64)) ||| q2)
    · refine OFin.st (fun t k => XS.ifNo X2.here hx rfl (hb hby at_131) rfl ((if0 _ _).trans (teq ((lw_eq (F1 w_IMPLIES q1 q2 f_withBothFalse_w_IMPLIES f_withRightTrue_w_IMPLIES f_withLeftTrue_w_IMPLIES f_withBothTrue_w_IMPLIES) ((q1 ^^^ (-1 : Int64)) ||| q2)).mpr hc131)).2) k) ?_
      show OFin p e below _ _ T2 (mkF m 134 #[.val (.int p0), .val (.long q1), .second, .val (.long q2), .second, .val (.int ((p0 &&& (2147483647 : Int32)) % (6 : Int32))), .val (.ref w_IMPLIES), .val (.long ((q1 ^^^ (-1 : Int64)) ||| q2)), .second] [])
      refine OFin.st (fun t k => XS.iconst X2.here hx rfl (hb hby at_134) k) ?_
      show OFin p e below _ _ T2 (mkF m 135 #[.val (.int p0), .val (.long q1), .second, .val (.long q2), .second, .val (.int ((p0 &&& (2147483647 : Int32)) % (6 : Int32))), .val (.ref w_IMPLIES), .val (.long ((q1 ^^^ (-1 : Int64)) ||| q2)), .second] [(.int (1 : Int32))])
      refine OFin.st (fun t k => XS.goto X2.here hx rfl (pc0 := 135) (pc' := 139) rfl (hb hby at_135) (by decide) (by decide) k) ?_
      show OFin p e below _ _ T2 (mkF m 139 #[.val (.int p0), .val (.long q1), .second, .val (.long q2), .second, .val (.int ((p0 &&& (2147483647 : Int32)) % (6 : Int32))), .val (.ref w_IMPLIES), .val (.long ((q1 ^^^ (-1 : Int64)) ||| q2)), .second] [(.int (1 : Int32))])
      exact own_retN X2 hx Bd.returns Bd.notSynchronized (t := .boolean) (by simp) rfl (hb hby at_139) ⟨(by rw [F0, if_pos hc11, if_pos hc131]; try rfl), N2, e2⟩ (own_endN (by decide) (by decide))
    · refine OFin.st (fun t k => XS.ifYes X2.here hx rfl (pc0 := 131) (pc' := 138) rfl (hb hby at_131) rfl ((if0 _ _).trans (feq (fun q => hc131 ((lw_eq (F1 w_IMPLIES q1 q2 f_withBothFalse_w_IMPLIES f_withRightTrue_w_IMPLIES f_withLeftTrue_w_IMPLIES f_withBothTrue_w_IMPLIES) ((q1 ^^^ (-1 : Int64)) ||| q2)).mp q))).2) (by decide) (by decide) k) ?_
      show OFin p e below _ _ T2 (mkF m 138 #[.val (.int p0), .val (.long q1), .second, .val (.long q2), .second, .val (.int ((p0 &&& (2147483647 : Int32)) % (6 : Int32))), .val (.ref w_IMPLIES), .val (.long ((q1 ^^^ (-1 : Int64)) ||| q2)), .second] [])
      refine OFin.st (fun t k => XS.iconst X2.here hx rfl (hb hby at_138) k) ?_
      show OFin p e below _ _ T2 (mkF m 139 #[.val (.int p0), .val (.long q1), .second, .val (.long q2), .second, .val (.int ((p0 &&& (2147483647 : Int32)) % (6 : Int32))), .val (.ref w_IMPLIES), .val (.long ((q1 ^^^ (-1 : Int64)) ||| q2)), .second] [(.int (0 : Int32))])
      exact own_retN X2 hx Bd.returns Bd.notSynchronized (t := .boolean) (by simp) rfl (hb hby at_139) ⟨(by rw [F0, if_pos hc11, if_neg hc131]; try rfl), N2, e2⟩ (own_endN (by decide) (by decide))
  · refine OFin.st (fun t k => XS.ifYes X0.here hx rfl (pc0 := 11) (pc' := 31) rfl (hb hby at_11) rfl ((if0 _ _).trans (feq hc11).2) (by decide) (by decide) k) ?_
    show OFin p e below _ _ s₁ (mkF m 31 #[.val (.int p0), .val (.long q1), .second, .val (.long q2), .second, .val (.int ((p0 &&& (2147483647 : Int32)) % (6 : Int32))), .unset, .unset, .unset] [])
    refine OFin.st (fun t k => XS.iload X0.here hx rfl (hb hby at_31) rfl k) ?_
    show OFin p e below _ _ s₁ (mkF m 33 #[.val (.int p0), .val (.long q1), .second, .val (.long q2), .second, .val (.int ((p0 &&& (2147483647 : Int32)) % (6 : Int32))), .unset, .unset, .unset] [(.int ((p0 &&& (2147483647 : Int32)) % (6 : Int32)))])
    refine OFin.st (fun t k => XS.iconst X0.here hx rfl (hb hby at_33) k) ?_
    show OFin p e below _ _ s₁ (mkF m 34 #[.val (.int p0), .val (.long q1), .second, .val (.long q2), .second, .val (.int ((p0 &&& (2147483647 : Int32)) % (6 : Int32))), .unset, .unset, .unset] [(.int (1 : Int32)), (.int ((p0 &&& (2147483647 : Int32)) % (6 : Int32)))])
    by_cases hc34 : ((p0 &&& (2147483647 : Int32)) % (6 : Int32)) = (1 : Int32)
    · refine OFin.st (fun t k => XS.icmpNo X0.here hx rfl (hb hby at_34) rfl (teq hc34).2 k) ?_
      show OFin p e below _ _ s₁ (mkF m 37 #[.val (.int p0), .val (.long q1), .second, .val (.long q2), .second, .val (.int ((p0 &&& (2147483647 : Int32)) % (6 : Int32))), .unset, .unset, .unset] [])
      obtain ⟨T3, X3, e3, st3⟩ := getS2 X0 hx hZ hown (host := "") (Or.inl (hw _ (List.mem_of_getElem? (i := 25) rfl))) Via.refl e0 (S_OR.ext O0.2) (g := (mkF m 37 #[.val (.int p0), .val (.long q1), .second, .val (.long q2), .second, .val (.int ((p0 &&& (2147483647 : Int32)) % (6 : Int32))), .unset, .unset, .unset] [])) rfl (hb hby at_37)
      refine OFin.st st3 ?_
      show OFin p e below _ _ T3 (mkF m 40 #[.val (.int p0), .val (.long q1), .second, .val (.long q2), .second, .val (.int ((p0 &&& (2147483647 : Int32)) % (6 : Int32))), .unset, .unset, .unset] [(.ref w_OR)])
      refine OFin.st (fun t k => XS.astore X3.here hx rfl (hb hby at_40) rfl rfl (l' := #[.val (.int p0), .val (.long q1), .second, .val (.long q2), .second, .val (.int ((p0 &&& (2147483647 : Int32)) % (6 : Int32))), .val (.ref w_OR), .unset, .unset]) rfl k) ?_
      show OFin p e below _ _ T3 (mkF m 42 #[.val (.int p0), .val (.long q1), .second, .val (.long q2), .second, .val (.int ((p0 &&& (2147483647 : Int32)) % (6 : Int32))), .val (.ref w_OR), .unset, .unset] [])
      refine OFin.st (fun t k => XS.lloadN X3.here hx rfl (hb hby at_42) rfl k) ?_
      show OFin p e below _ _ T3 (mkF m 43 #[.val (.int p0), .val (.long q1), .second, .val (.long q2), .second, .val (.int ((p0 &&& (2147483647 : Int32)) % (6 : Int32))), .val (.ref w_OR), .unset, .unset] [(.long q1)])
      refine OFin.st (fun t k => XS.lloadN X3.here hx rfl (hb hby at_43) rfl k) ?_
      show OFin p e below _ _ T3 (mkF m 44 #[.val (.int p0), .val (.long q1), .second, .val (.long q2), .second, .val (.int ((p0 &&& (2147483647 : Int32)) % (6 : Int32))), .val (.ref w_OR), .unset, .unset] [(.long q2), (.long q1)])
      refine OFin.st (fun t k => XS.lor X3.here hx rfl (hb hby at_44) rfl k) ?_
      show OFin p e below _ _ T3 (mkF m 45 #[.val (.int p0), .val (.long q1), .second, .val (.long q2), .second, .val (.int ((p0 &&& (2147483647 : Int32)) % (6 : Int32))), .val (.ref w_OR), .unset, .unset] [(.long (q1 ||| q2))])
      refine OFin.st (fun t k => XS.lstore X3.here hx rfl (hb hby at_45) rfl (l' := #[.val (.int p0), .val (.long q1), .second, .val (.long q2), .second, .val (.int ((p0 &&& (2147483647 : Int32)) % (6 : Int32))), .val (.ref w_OR), .val (.long (q1 ||| q2)), .second]) rfl k) ?_
      show OFin p e below _ _ T3 (mkF m 47 #[.val (.int p0), .val (.long q1), .second, .val (.long q2), .second, .val (.int ((p0 &&& (2147483647 : Int32)) % (6 : Int32))), .val (.ref w_OR), .val (.long (q1 ||| q2)), .second] [])
      refine OFin.st (fun t k => XS.goto X3.here hx rfl (pc0 := 47) (pc' := 121) rfl (hb hby at_47) (by decide) (by decide) k) ?_
      show OFin p e below _ _ T3 (mkF m 121 #[.val (.int p0), .val (.long q1), .second, .val (.long q2), .second, .val (.int ((p0 &&& (2147483647 : Int32)) % (6 : Int32))), .val (.ref w_OR), .val (.long (q1 ||| q2)), .second] [])
      refine OFin.st (fun t k => XS.aload X3.here hx rfl (hb hby at_121) rfl rfl k) ?_
      show OFin p e below _ _ T3 (mkF m 123 #[.val (.int p0), .val (.long q1), .second, .val (.long q2), .second, .val (.int ((p0 &&& (2147483647 : Int32)) % (6 : Int32))), .val (.ref w_OR), .val (.long (q1 ||| q2)), .second] [(.ref w_OR)])
      refine OFin.st (fun t k => XS.lloadN X3.here hx rfl (hb hby at_123) rfl k) ?_
      show OFin p e below _ _ T3 (mkF m 124 #[.val (.int p0), .val (.long q1), .second, .val (.long q2), .second, .val (.int ((p0 &&& (2147483647 : Int32)) % (6 : Int32))), .val (.ref w_OR), .val (.long (q1 ||| q2)), .second] [(.long q1), (.ref w_OR)])
      refine OFin.st (fun t k => XS.lloadN X3.here hx rfl (hb hby at_124) rfl k) ?_
      show OFin p e below _ _ T3 (mkF m 125 #[.val (.int p0), .val (.long q1), .second, .val (.long q2), .second, .val (.int ((p0 &&& (2147483647 : Int32)) % (6 : Int32))), .val (.ref w_OR), .val (.long (q1 ||| q2)), .second] [(.long q2), (.long q1), (.ref w_OR)])
      obtain ⟨cq4, kq4, q4a, q4b, q4c⟩ := isOf hZ e3 E_w_OR
      obtain ⟨_, _, ⟨T4, L4, k4, n4⟩, -, X4, ⟨Lc4, hQ4, l4, y4, z4⟩, st4⟩ := X3.virtualBack hx (y := (⟨"com/example/verdikt/verdikt/model/BinaryOperator", "apply", "(JJ)J"⟩ : MethodName)) (z := (⟨"com/example/verdikt/verdikt/model/BinaryOperator", "apply", "(JJ)J"⟩ : MethodName)) hown (mvT hZ (hw _ (List.mem_of_getElem? (i := 5) rfl))) (mvT hZ (hw _ (List.mem_of_getElem? (i := 6) rfl))) (notFace_of_selects (args := #[]) (mvT hZ (hw _ (List.mem_of_getElem? (i := 8) rfl)))) (mvT hZ (hw _ (List.mem_of_getElem? (i := 8) rfl))) (mvT hZ (hw _ (List.mem_of_getElem? (i := 7) rfl))) (by decide) (backOf (W := 0) (rm1 l Z a0 hw [] w_OR q1 q2 f_withBothFalse_w_OR f_withRightTrue_w_OR f_withLeftTrue_w_OR f_withBothTrue_w_OR h0 n0 O0 F_withBothFalse_w_OR F_withRightTrue_w_OR F_withLeftTrue_w_OR F_withBothTrue_w_OR) hZ (hw _ (List.mem_of_getElem? (i := 9) rfl)) (hw _ (List.mem_of_getElem? (i := 2) rfl)) (by decide) (by decide)) q4a q4c (g := (mkF m 125 #[.val (.int p0), .val (.long q1), .second, .val (.long q2), .second, .val (.int ((p0 &&& (2147483647 : Int32)) % (6 : Int32))), .val (.ref w_OR), .val (.long (q1 ||| q2)), .second] [(.long q2), (.long q1), (.ref w_OR)])) rfl (by rw [hml]; rfl) (Steps.refl _) (argsL := [(.long q1), (.long q2)]) (rest := []) (lenOf pd_0 rfl) rfl (by show 2 * 0 + _ ≤ _; exact Nat.le_of_eq rfl) (hb hby at_125) (fun _ _ => ⟨rfl, e3, (by decide : 0 + 0 ≤ _), (by decide : 0 + 0 ≤ _)⟩)
      dsimp only [Pt.U, Pt.locs, Pt.cells, Pt.slots] at X4 l4 y4 z4 st4 hQ4
      subst l4 y4 z4
      obtain ⟨rfl, N4q, e4⟩ := hQ4
      have N4 := Fr.app N0 N4q
      refine OFin.tr st4 ?_
      show OFin p e below _ _ T4 (mkF m 128 #[.val (.int p0), .val (.long q1), .second, .val (.long q2), .second, .val (.int ((p0 &&& (2147483647 : Int32)) % (6 : Int32))), .val (.ref w_OR), .val (.long (q1 ||| q2)), .second] [(.long (F1 w_OR q1 q2 f_withBothFalse_w_OR f_withRightTrue_w_OR f_withLeftTrue_w_OR f_withBothTrue_w_OR))])
      refine OFin.st (fun t k => XS.lload X4.here hx rfl (hb hby at_128) rfl k) ?_
      show OFin p e below _ _ T4 (mkF m 130 #[.val (.int p0), .val (.long q1), .second, .val (.long q2), .second, .val (.int ((p0 &&& (2147483647 : Int32)) % (6 : Int32))), .val (.ref w_OR), .val (.long (q1 ||| q2)), .second] [(.long (q1 ||| q2)), (.long (F1 w_OR q1 q2 f_withBothFalse_w_OR f_withRightTrue_w_OR f_withLeftTrue_w_OR f_withBothTrue_w_OR))])
      refine OFin.st (fun t k => XS.lcmp X4.here hx rfl (hb hby at_130) rfl k) ?_
      show OFin p e below _ _ T4 (mkF m 131 #[.val (.int p0), .val (.long q1), .second, .val (.long q2), .second, .val (.int ((p0 &&& (2147483647 : Int32)) % (6 : Int32))), .val (.ref w_OR), .val (.long (q1 ||| q2)), .second] [(.int (lcmpW (F1 w_OR q1 q2 f_withBothFalse_w_OR f_withRightTrue_w_OR f_withLeftTrue_w_OR f_withBothTrue_w_OR) (q1 ||| q2)))])
      by_cases hc131 : (F1 w_OR q1 q2 f_withBothFalse_w_OR f_withRightTrue_w_OR f_withLeftTrue_w_OR f_withBothTrue_w_OR) = (q1 ||| q2)
      · refine OFin.st (fun t k => XS.ifNo X4.here hx rfl (hb hby at_131) rfl ((if0 _ _).trans (teq ((lw_eq (F1 w_OR q1 q2 f_withBothFalse_w_OR f_withRightTrue_w_OR f_withLeftTrue_w_OR f_withBothTrue_w_OR) (q1 ||| q2)).mpr hc131)).2) k) ?_
        show OFin p e below _ _ T4 (mkF m 134 #[.val (.int p0), .val (.long q1), .second, .val (.long q2), .second, .val (.int ((p0 &&& (2147483647 : Int32)) % (6 : Int32))), .val (.ref w_OR), .val (.long (q1 ||| q2)), .second] [])
        refine OFin.st (fun t k => XS.iconst X4.here hx rfl (hb hby at_134) k) ?_
        show OFin p e below _ _ T4 (mkF m 135 #[.val (.int p0), .val (.long q1), .second, .val (.long q2), .second, .val (.int ((p0 &&& (2147483647 : Int32)) % (6 : Int32))), .val (.ref w_OR), .val (.long (q1 ||| q2)), .second] [(.int (1 : Int32))])
        refine OFin.st (fun t k => XS.goto X4.here hx rfl (pc0 := 135) (pc' := 139) rfl (hb hby at_135) (by decide) (by decide) k) ?_
        show OFin p e below _ _ T4 (mkF m 139 #[.val (.int p0), .val (.long q1), .second, .val (.long q2), .second, .val (.int ((p0 &&& (2147483647 : Int32)) % (6 : Int32))), .val (.ref w_OR), .val (.long (q1 ||| q2)), .second] [(.int (1 : Int32))])
        exact own_retN X4 hx Bd.returns Bd.notSynchronized (t := .boolean) (by simp) rfl (hb hby at_139) ⟨(by rw [F0, if_neg hc11, if_pos hc34, if_pos hc131]; try rfl), N4, e4⟩ (own_endN (by decide) (by decide))
      · refine OFin.st (fun t k => XS.ifYes X4.here hx rfl (pc0 := 131) (pc' := 138) rfl (hb hby at_131) rfl ((if0 _ _).trans (feq (fun q => hc131 ((lw_eq (F1 w_OR q1 q2 f_withBothFalse_w_OR f_withRightTrue_w_OR f_withLeftTrue_w_OR f_withBothTrue_w_OR) (q1 ||| q2)).mp q))).2) (by decide) (by decide) k) ?_
        show OFin p e below _ _ T4 (mkF m 138 #[.val (.int p0), .val (.long q1), .second, .val (.long q2), .second, .val (.int ((p0 &&& (2147483647 : Int32)) % (6 : Int32))), .val (.ref w_OR), .val (.long (q1 ||| q2)), .second] [])
        refine OFin.st (fun t k => XS.iconst X4.here hx rfl (hb hby at_138) k) ?_
        show OFin p e below _ _ T4 (mkF m 139 #[.val (.int p0), .val (.long q1), .second, .val (.long q2), .second, .val (.int ((p0 &&& (2147483647 : Int32)) % (6 : Int32))), .val (.ref w_OR), .val (.long (q1 ||| q2)), .second] [(.int (0 : Int32))])
        exact own_retN X4 hx Bd.returns Bd.notSynchronized (t := .boolean) (by simp) rfl (hb hby at_139) ⟨(by rw [F0, if_neg hc11, if_pos hc34, if_neg hc131]; try rfl), N4, e4⟩ (own_endN (by decide) (by decide))
    · refine OFin.st (fun t k => XS.icmpYes X0.here hx rfl (pc0 := 34) (pc' := 50) rfl (hb hby at_34) rfl (feq hc34).2 (by decide) (by decide) k) ?_
      show OFin p e below _ _ s₁ (mkF m 50 #[.val (.int p0), .val (.long q1), .second, .val (.long q2), .second, .val (.int ((p0 &&& (2147483647 : Int32)) % (6 : Int32))), .unset, .unset, .unset] [])
      refine OFin.st (fun t k => XS.iload X0.here hx rfl (hb hby at_50) rfl k) ?_
      show OFin p e below _ _ s₁ (mkF m 52 #[.val (.int p0), .val (.long q1), .second, .val (.long q2), .second, .val (.int ((p0 &&& (2147483647 : Int32)) % (6 : Int32))), .unset, .unset, .unset] [(.int ((p0 &&& (2147483647 : Int32)) % (6 : Int32)))])
      refine OFin.st (fun t k => XS.iconst X0.here hx rfl (hb hby at_52) k) ?_
      show OFin p e below _ _ s₁ (mkF m 53 #[.val (.int p0), .val (.long q1), .second, .val (.long q2), .second, .val (.int ((p0 &&& (2147483647 : Int32)) % (6 : Int32))), .unset, .unset, .unset] [(.int (2 : Int32)), (.int ((p0 &&& (2147483647 : Int32)) % (6 : Int32)))])
      by_cases hc53 : ((p0 &&& (2147483647 : Int32)) % (6 : Int32)) = (2 : Int32)
      · refine OFin.st (fun t k => XS.icmpNo X0.here hx rfl (hb hby at_53) rfl (teq hc53).2 k) ?_
        show OFin p e below _ _ s₁ (mkF m 56 #[.val (.int p0), .val (.long q1), .second, .val (.long q2), .second, .val (.int ((p0 &&& (2147483647 : Int32)) % (6 : Int32))), .unset, .unset, .unset] [])
        obtain ⟨T5, X5, e5, st5⟩ := getS2 X0 hx hZ hown (host := "") (Or.inl (hw _ (List.mem_of_getElem? (i := 23) rfl))) Via.refl e0 (S_XOR.ext O0.2) (g := (mkF m 56 #[.val (.int p0), .val (.long q1), .second, .val (.long q2), .second, .val (.int ((p0 &&& (2147483647 : Int32)) % (6 : Int32))), .unset, .unset, .unset] [])) rfl (hb hby at_56)
        refine OFin.st st5 ?_
        show OFin p e below _ _ T5 (mkF m 59 #[.val (.int p0), .val (.long q1), .second, .val (.long q2), .second, .val (.int ((p0 &&& (2147483647 : Int32)) % (6 : Int32))), .unset, .unset, .unset] [(.ref w_XOR)])
        refine OFin.st (fun t k => XS.astore X5.here hx rfl (hb hby at_59) rfl rfl (l' := #[.val (.int p0), .val (.long q1), .second, .val (.long q2), .second, .val (.int ((p0 &&& (2147483647 : Int32)) % (6 : Int32))), .val (.ref w_XOR), .unset, .unset]) rfl k) ?_
        show OFin p e below _ _ T5 (mkF m 61 #[.val (.int p0), .val (.long q1), .second, .val (.long q2), .second, .val (.int ((p0 &&& (2147483647 : Int32)) % (6 : Int32))), .val (.ref w_XOR), .unset, .unset] [])
        refine OFin.st (fun t k => XS.lloadN X5.here hx rfl (hb hby at_61) rfl k) ?_
        show OFin p e below _ _ T5 (mkF m 62 #[.val (.int p0), .val (.long q1), .second, .val (.long q2), .second, .val (.int ((p0 &&& (2147483647 : Int32)) % (6 : Int32))), .val (.ref w_XOR), .unset, .unset] [(.long q1)])
        refine OFin.st (fun t k => XS.lloadN X5.here hx rfl (hb hby at_62) rfl k) ?_
        show OFin p e below _ _ T5 (mkF m 63 #[.val (.int p0), .val (.long q1), .second, .val (.long q2), .second, .val (.int ((p0 &&& (2147483647 : Int32)) % (6 : Int32))), .val (.ref w_XOR), .unset, .unset] [(.long q2), (.long q1)])
        refine OFin.st (fun t k => XS.lxor X5.here hx rfl (hb hby at_63) rfl k) ?_
        show OFin p e below _ _ T5 (mkF m 64 #[.val (.int p0), .val (.long q1), .second, .val (.long q2), .second, .val (.int ((p0 &&& (2147483647 : Int32)) % (6 : Int32))), .val (.ref w_XOR), .unset, .unset] [(.long (q1 ^^^ q2))])
        refine OFin.st (fun t k => XS.lstore X5.here hx rfl (hb hby at_64) rfl (l' := #[.val (.int p0), .val (.long q1), .second, .val (.long q2), .second, .val (.int ((p0 &&& (2147483647 : Int32)) % (6 : Int32))), .val (.ref w_XOR), .val (.long (q1 ^^^ q2)), .second]) rfl k) ?_
        show OFin p e below _ _ T5 (mkF m 66 #[.val (.int p0), .val (.long q1), .second, .val (.long q2), .second, .val (.int ((p0 &&& (2147483647 : Int32)) % (6 : Int32))), .val (.ref w_XOR), .val (.long (q1 ^^^ q2)), .second] [])
        refine OFin.st (fun t k => XS.goto X5.here hx rfl (pc0 := 66) (pc' := 121) rfl (hb hby at_66) (by decide) (by decide) k) ?_
        show OFin p e below _ _ T5 (mkF m 121 #[.val (.int p0), .val (.long q1), .second, .val (.long q2), .second, .val (.int ((p0 &&& (2147483647 : Int32)) % (6 : Int32))), .val (.ref w_XOR), .val (.long (q1 ^^^ q2)), .second] [])
        refine OFin.st (fun t k => XS.aload X5.here hx rfl (hb hby at_121) rfl rfl k) ?_
        show OFin p e below _ _ T5 (mkF m 123 #[.val (.int p0), .val (.long q1), .second, .val (.long q2), .second, .val (.int ((p0 &&& (2147483647 : Int32)) % (6 : Int32))), .val (.ref w_XOR), .val (.long (q1 ^^^ q2)), .second] [(.ref w_XOR)])
        refine OFin.st (fun t k => XS.lloadN X5.here hx rfl (hb hby at_123) rfl k) ?_
        show OFin p e below _ _ T5 (mkF m 124 #[.val (.int p0), .val (.long q1), .second, .val (.long q2), .second, .val (.int ((p0 &&& (2147483647 : Int32)) % (6 : Int32))), .val (.ref w_XOR), .val (.long (q1 ^^^ q2)), .second] [(.long q1), (.ref w_XOR)])
        refine OFin.st (fun t k => XS.lloadN X5.here hx rfl (hb hby at_124) rfl k) ?_
        show OFin p e below _ _ T5 (mkF m 125 #[.val (.int p0), .val (.long q1), .second, .val (.long q2), .second, .val (.int ((p0 &&& (2147483647 : Int32)) % (6 : Int32))), .val (.ref w_XOR), .val (.long (q1 ^^^ q2)), .second] [(.long q2), (.long q1), (.ref w_XOR)])
        obtain ⟨cq6, kq6, q6a, q6b, q6c⟩ := isOf hZ e5 E_w_XOR
        obtain ⟨_, _, ⟨T6, L6, k6, n6⟩, -, X6, ⟨Lc6, hQ6, l6, y6, z6⟩, st6⟩ := X5.virtualBack hx (y := (⟨"com/example/verdikt/verdikt/model/BinaryOperator", "apply", "(JJ)J"⟩ : MethodName)) (z := (⟨"com/example/verdikt/verdikt/model/BinaryOperator", "apply", "(JJ)J"⟩ : MethodName)) hown (mvT hZ (hw _ (List.mem_of_getElem? (i := 5) rfl))) (mvT hZ (hw _ (List.mem_of_getElem? (i := 6) rfl))) (notFace_of_selects (args := #[]) (mvT hZ (hw _ (List.mem_of_getElem? (i := 8) rfl)))) (mvT hZ (hw _ (List.mem_of_getElem? (i := 8) rfl))) (mvT hZ (hw _ (List.mem_of_getElem? (i := 7) rfl))) (by decide) (backOf (W := 0) (rm1 l Z a0 hw [] w_XOR q1 q2 f_withBothFalse_w_XOR f_withRightTrue_w_XOR f_withLeftTrue_w_XOR f_withBothTrue_w_XOR h0 n0 O0 F_withBothFalse_w_XOR F_withRightTrue_w_XOR F_withLeftTrue_w_XOR F_withBothTrue_w_XOR) hZ (hw _ (List.mem_of_getElem? (i := 9) rfl)) (hw _ (List.mem_of_getElem? (i := 2) rfl)) (by decide) (by decide)) q6a q6c (g := (mkF m 125 #[.val (.int p0), .val (.long q1), .second, .val (.long q2), .second, .val (.int ((p0 &&& (2147483647 : Int32)) % (6 : Int32))), .val (.ref w_XOR), .val (.long (q1 ^^^ q2)), .second] [(.long q2), (.long q1), (.ref w_XOR)])) rfl (by rw [hml]; rfl) (Steps.refl _) (argsL := [(.long q1), (.long q2)]) (rest := []) (lenOf pd_0 rfl) rfl (by show 2 * 0 + _ ≤ _; exact Nat.le_of_eq rfl) (hb hby at_125) (fun _ _ => ⟨rfl, e5, (by decide : 0 + 0 ≤ _), (by decide : 0 + 0 ≤ _)⟩)
        dsimp only [Pt.U, Pt.locs, Pt.cells, Pt.slots] at X6 l6 y6 z6 st6 hQ6
        subst l6 y6 z6
        obtain ⟨rfl, N6q, e6⟩ := hQ6
        have N6 := Fr.app N0 N6q
        refine OFin.tr st6 ?_
        show OFin p e below _ _ T6 (mkF m 128 #[.val (.int p0), .val (.long q1), .second, .val (.long q2), .second, .val (.int ((p0 &&& (2147483647 : Int32)) % (6 : Int32))), .val (.ref w_XOR), .val (.long (q1 ^^^ q2)), .second] [(.long (F1 w_XOR q1 q2 f_withBothFalse_w_XOR f_withRightTrue_w_XOR f_withLeftTrue_w_XOR f_withBothTrue_w_XOR))])
        refine OFin.st (fun t k => XS.lload X6.here hx rfl (hb hby at_128) rfl k) ?_
        show OFin p e below _ _ T6 (mkF m 130 #[.val (.int p0), .val (.long q1), .second, .val (.long q2), .second, .val (.int ((p0 &&& (2147483647 : Int32)) % (6 : Int32))), .val (.ref w_XOR), .val (.long (q1 ^^^ q2)), .second] [(.long (q1 ^^^ q2)), (.long (F1 w_XOR q1 q2 f_withBothFalse_w_XOR f_withRightTrue_w_XOR f_withLeftTrue_w_XOR f_withBothTrue_w_XOR))])
        refine OFin.st (fun t k => XS.lcmp X6.here hx rfl (hb hby at_130) rfl k) ?_
        show OFin p e below _ _ T6 (mkF m 131 #[.val (.int p0), .val (.long q1), .second, .val (.long q2), .second, .val (.int ((p0 &&& (2147483647 : Int32)) % (6 : Int32))), .val (.ref w_XOR), .val (.long (q1 ^^^ q2)), .second] [(.int (lcmpW (F1 w_XOR q1 q2 f_withBothFalse_w_XOR f_withRightTrue_w_XOR f_withLeftTrue_w_XOR f_withBothTrue_w_XOR) (q1 ^^^ q2)))])
        by_cases hc131 : (F1 w_XOR q1 q2 f_withBothFalse_w_XOR f_withRightTrue_w_XOR f_withLeftTrue_w_XOR f_withBothTrue_w_XOR) = (q1 ^^^ q2)
        · refine OFin.st (fun t k => XS.ifNo X6.here hx rfl (hb hby at_131) rfl ((if0 _ _).trans (teq ((lw_eq (F1 w_XOR q1 q2 f_withBothFalse_w_XOR f_withRightTrue_w_XOR f_withLeftTrue_w_XOR f_withBothTrue_w_XOR) (q1 ^^^ q2)).mpr hc131)).2) k) ?_
          show OFin p e below _ _ T6 (mkF m 134 #[.val (.int p0), .val (.long q1), .second, .val (.long q2), .second, .val (.int ((p0 &&& (2147483647 : Int32)) % (6 : Int32))), .val (.ref w_XOR), .val (.long (q1 ^^^ q2)), .second] [])
          refine OFin.st (fun t k => XS.iconst X6.here hx rfl (hb hby at_134) k) ?_
          show OFin p e below _ _ T6 (mkF m 135 #[.val (.int p0), .val (.long q1), .second, .val (.long q2), .second, .val (.int ((p0 &&& (2147483647 : Int32)) % (6 : Int32))), .val (.ref w_XOR), .val (.long (q1 ^^^ q2)), .second] [(.int (1 : Int32))])
          refine OFin.st (fun t k => XS.goto X6.here hx rfl (pc0 := 135) (pc' := 139) rfl (hb hby at_135) (by decide) (by decide) k) ?_
          show OFin p e below _ _ T6 (mkF m 139 #[.val (.int p0), .val (.long q1), .second, .val (.long q2), .second, .val (.int ((p0 &&& (2147483647 : Int32)) % (6 : Int32))), .val (.ref w_XOR), .val (.long (q1 ^^^ q2)), .second] [(.int (1 : Int32))])
          exact own_retN X6 hx Bd.returns Bd.notSynchronized (t := .boolean) (by simp) rfl (hb hby at_139) ⟨(by rw [F0, if_neg hc11, if_neg hc34, if_pos hc53, if_pos hc131]; try rfl), N6, e6⟩ (own_endN (by decide) (by decide))
        · refine OFin.st (fun t k => XS.ifYes X6.here hx rfl (pc0 := 131) (pc' := 138) rfl (hb hby at_131) rfl ((if0 _ _).trans (feq (fun q => hc131 ((lw_eq (F1 w_XOR q1 q2 f_withBothFalse_w_XOR f_withRightTrue_w_XOR f_withLeftTrue_w_XOR f_withBothTrue_w_XOR) (q1 ^^^ q2)).mp q))).2) (by decide) (by decide) k) ?_
          show OFin p e below _ _ T6 (mkF m 138 #[.val (.int p0), .val (.long q1), .second, .val (.long q2), .second, .val (.int ((p0 &&& (2147483647 : Int32)) % (6 : Int32))), .val (.ref w_XOR), .val (.long (q1 ^^^ q2)), .second] [])
          refine OFin.st (fun t k => XS.iconst X6.here hx rfl (hb hby at_138) k) ?_
          show OFin p e below _ _ T6 (mkF m 139 #[.val (.int p0), .val (.long q1), .second, .val (.long q2), .second, .val (.int ((p0 &&& (2147483647 : Int32)) % (6 : Int32))), .val (.ref w_XOR), .val (.long (q1 ^^^ q2)), .second] [(.int (0 : Int32))])
          exact own_retN X6 hx Bd.returns Bd.notSynchronized (t := .boolean) (by simp) rfl (hb hby at_139) ⟨(by rw [F0, if_neg hc11, if_neg hc34, if_pos hc53, if_neg hc131]; try rfl), N6, e6⟩ (own_endN (by decide) (by decide))
      · refine OFin.st (fun t k => XS.icmpYes X0.here hx rfl (pc0 := 53) (pc' := 69) rfl (hb hby at_53) rfl (feq hc53).2 (by decide) (by decide) k) ?_
        show OFin p e below _ _ s₁ (mkF m 69 #[.val (.int p0), .val (.long q1), .second, .val (.long q2), .second, .val (.int ((p0 &&& (2147483647 : Int32)) % (6 : Int32))), .unset, .unset, .unset] [])
        refine OFin.st (fun t k => XS.iload X0.here hx rfl (hb hby at_69) rfl k) ?_
        show OFin p e below _ _ s₁ (mkF m 71 #[.val (.int p0), .val (.long q1), .second, .val (.long q2), .second, .val (.int ((p0 &&& (2147483647 : Int32)) % (6 : Int32))), .unset, .unset, .unset] [(.int ((p0 &&& (2147483647 : Int32)) % (6 : Int32)))])
        refine OFin.st (fun t k => XS.iconst X0.here hx rfl (hb hby at_71) k) ?_
        show OFin p e below _ _ s₁ (mkF m 72 #[.val (.int p0), .val (.long q1), .second, .val (.long q2), .second, .val (.int ((p0 &&& (2147483647 : Int32)) % (6 : Int32))), .unset, .unset, .unset] [(.int (3 : Int32)), (.int ((p0 &&& (2147483647 : Int32)) % (6 : Int32)))])
        by_cases hc72 : ((p0 &&& (2147483647 : Int32)) % (6 : Int32)) = (3 : Int32)
        · refine OFin.st (fun t k => XS.icmpNo X0.here hx rfl (hb hby at_72) rfl (teq hc72).2 k) ?_
          show OFin p e below _ _ s₁ (mkF m 75 #[.val (.int p0), .val (.long q1), .second, .val (.long q2), .second, .val (.int ((p0 &&& (2147483647 : Int32)) % (6 : Int32))), .unset, .unset, .unset] [])
          obtain ⟨T7, X7, e7, st7⟩ := getS2 X0 hx hZ hown (host := "") (Or.inl (hw _ (List.mem_of_getElem? (i := 21) rfl))) Via.refl e0 (S_AND.ext O0.2) (g := (mkF m 75 #[.val (.int p0), .val (.long q1), .second, .val (.long q2), .second, .val (.int ((p0 &&& (2147483647 : Int32)) % (6 : Int32))), .unset, .unset, .unset] [])) rfl (hb hby at_75)
          refine OFin.st st7 ?_
          show OFin p e below _ _ T7 (mkF m 78 #[.val (.int p0), .val (.long q1), .second, .val (.long q2), .second, .val (.int ((p0 &&& (2147483647 : Int32)) % (6 : Int32))), .unset, .unset, .unset] [(.ref w_AND)])
          refine OFin.st (fun t k => XS.astore X7.here hx rfl (hb hby at_78) rfl rfl (l' := #[.val (.int p0), .val (.long q1), .second, .val (.long q2), .second, .val (.int ((p0 &&& (2147483647 : Int32)) % (6 : Int32))), .val (.ref w_AND), .unset, .unset]) rfl k) ?_
          show OFin p e below _ _ T7 (mkF m 80 #[.val (.int p0), .val (.long q1), .second, .val (.long q2), .second, .val (.int ((p0 &&& (2147483647 : Int32)) % (6 : Int32))), .val (.ref w_AND), .unset, .unset] [])
          refine OFin.st (fun t k => XS.lloadN X7.here hx rfl (hb hby at_80) rfl k) ?_
          show OFin p e below _ _ T7 (mkF m 81 #[.val (.int p0), .val (.long q1), .second, .val (.long q2), .second, .val (.int ((p0 &&& (2147483647 : Int32)) % (6 : Int32))), .val (.ref w_AND), .unset, .unset] [(.long q1)])
          refine OFin.st (fun t k => XS.lloadN X7.here hx rfl (hb hby at_81) rfl k) ?_
          show OFin p e below _ _ T7 (mkF m 82 #[.val (.int p0), .val (.long q1), .second, .val (.long q2), .second, .val (.int ((p0 &&& (2147483647 : Int32)) % (6 : Int32))), .val (.ref w_AND), .unset, .unset] [(.long q2), (.long q1)])
          refine OFin.st (fun t k => XS.land X7.here hx rfl (hb hby at_82) rfl k) ?_
          show OFin p e below _ _ T7 (mkF m 83 #[.val (.int p0), .val (.long q1), .second, .val (.long q2), .second, .val (.int ((p0 &&& (2147483647 : Int32)) % (6 : Int32))), .val (.ref w_AND), .unset, .unset] [(.long (q1 &&& q2))])
          refine OFin.st (fun t k => XS.lstore X7.here hx rfl (hb hby at_83) rfl (l' := #[.val (.int p0), .val (.long q1), .second, .val (.long q2), .second, .val (.int ((p0 &&& (2147483647 : Int32)) % (6 : Int32))), .val (.ref w_AND), .val (.long (q1 &&& q2)), .second]) rfl k) ?_
          show OFin p e below _ _ T7 (mkF m 85 #[.val (.int p0), .val (.long q1), .second, .val (.long q2), .second, .val (.int ((p0 &&& (2147483647 : Int32)) % (6 : Int32))), .val (.ref w_AND), .val (.long (q1 &&& q2)), .second] [])
          refine OFin.st (fun t k => XS.goto X7.here hx rfl (pc0 := 85) (pc' := 121) rfl (hb hby at_85) (by decide) (by decide) k) ?_
          show OFin p e below _ _ T7 (mkF m 121 #[.val (.int p0), .val (.long q1), .second, .val (.long q2), .second, .val (.int ((p0 &&& (2147483647 : Int32)) % (6 : Int32))), .val (.ref w_AND), .val (.long (q1 &&& q2)), .second] [])
          refine OFin.st (fun t k => XS.aload X7.here hx rfl (hb hby at_121) rfl rfl k) ?_
          show OFin p e below _ _ T7 (mkF m 123 #[.val (.int p0), .val (.long q1), .second, .val (.long q2), .second, .val (.int ((p0 &&& (2147483647 : Int32)) % (6 : Int32))), .val (.ref w_AND), .val (.long (q1 &&& q2)), .second] [(.ref w_AND)])
          refine OFin.st (fun t k => XS.lloadN X7.here hx rfl (hb hby at_123) rfl k) ?_
          show OFin p e below _ _ T7 (mkF m 124 #[.val (.int p0), .val (.long q1), .second, .val (.long q2), .second, .val (.int ((p0 &&& (2147483647 : Int32)) % (6 : Int32))), .val (.ref w_AND), .val (.long (q1 &&& q2)), .second] [(.long q1), (.ref w_AND)])
          refine OFin.st (fun t k => XS.lloadN X7.here hx rfl (hb hby at_124) rfl k) ?_
          show OFin p e below _ _ T7 (mkF m 125 #[.val (.int p0), .val (.long q1), .second, .val (.long q2), .second, .val (.int ((p0 &&& (2147483647 : Int32)) % (6 : Int32))), .val (.ref w_AND), .val (.long (q1 &&& q2)), .second] [(.long q2), (.long q1), (.ref w_AND)])
          obtain ⟨cq8, kq8, q8a, q8b, q8c⟩ := isOf hZ e7 E_w_AND
          obtain ⟨_, _, ⟨T8, L8, k8, n8⟩, -, X8, ⟨Lc8, hQ8, l8, y8, z8⟩, st8⟩ := X7.virtualBack hx (y := (⟨"com/example/verdikt/verdikt/model/BinaryOperator", "apply", "(JJ)J"⟩ : MethodName)) (z := (⟨"com/example/verdikt/verdikt/model/BinaryOperator", "apply", "(JJ)J"⟩ : MethodName)) hown (mvT hZ (hw _ (List.mem_of_getElem? (i := 5) rfl))) (mvT hZ (hw _ (List.mem_of_getElem? (i := 6) rfl))) (notFace_of_selects (args := #[]) (mvT hZ (hw _ (List.mem_of_getElem? (i := 8) rfl)))) (mvT hZ (hw _ (List.mem_of_getElem? (i := 8) rfl))) (mvT hZ (hw _ (List.mem_of_getElem? (i := 7) rfl))) (by decide) (backOf (W := 0) (rm1 l Z a0 hw [] w_AND q1 q2 f_withBothFalse_w_AND f_withRightTrue_w_AND f_withLeftTrue_w_AND f_withBothTrue_w_AND h0 n0 O0 F_withBothFalse_w_AND F_withRightTrue_w_AND F_withLeftTrue_w_AND F_withBothTrue_w_AND) hZ (hw _ (List.mem_of_getElem? (i := 9) rfl)) (hw _ (List.mem_of_getElem? (i := 2) rfl)) (by decide) (by decide)) q8a q8c (g := (mkF m 125 #[.val (.int p0), .val (.long q1), .second, .val (.long q2), .second, .val (.int ((p0 &&& (2147483647 : Int32)) % (6 : Int32))), .val (.ref w_AND), .val (.long (q1 &&& q2)), .second] [(.long q2), (.long q1), (.ref w_AND)])) rfl (by rw [hml]; rfl) (Steps.refl _) (argsL := [(.long q1), (.long q2)]) (rest := []) (lenOf pd_0 rfl) rfl (by show 2 * 0 + _ ≤ _; exact Nat.le_of_eq rfl) (hb hby at_125) (fun _ _ => ⟨rfl, e7, (by decide : 0 + 0 ≤ _), (by decide : 0 + 0 ≤ _)⟩)
          dsimp only [Pt.U, Pt.locs, Pt.cells, Pt.slots] at X8 l8 y8 z8 st8 hQ8
          subst l8 y8 z8
          obtain ⟨rfl, N8q, e8⟩ := hQ8
          have N8 := Fr.app N0 N8q
          refine OFin.tr st8 ?_
          show OFin p e below _ _ T8 (mkF m 128 #[.val (.int p0), .val (.long q1), .second, .val (.long q2), .second, .val (.int ((p0 &&& (2147483647 : Int32)) % (6 : Int32))), .val (.ref w_AND), .val (.long (q1 &&& q2)), .second] [(.long (F1 w_AND q1 q2 f_withBothFalse_w_AND f_withRightTrue_w_AND f_withLeftTrue_w_AND f_withBothTrue_w_AND))])
          refine OFin.st (fun t k => XS.lload X8.here hx rfl (hb hby at_128) rfl k) ?_
          show OFin p e below _ _ T8 (mkF m 130 #[.val (.int p0), .val (.long q1), .second, .val (.long q2), .second, .val (.int ((p0 &&& (2147483647 : Int32)) % (6 : Int32))), .val (.ref w_AND), .val (.long (q1 &&& q2)), .second] [(.long (q1 &&& q2)), (.long (F1 w_AND q1 q2 f_withBothFalse_w_AND f_withRightTrue_w_AND f_withLeftTrue_w_AND f_withBothTrue_w_AND))])
          refine OFin.st (fun t k => XS.lcmp X8.here hx rfl (hb hby at_130) rfl k) ?_
          show OFin p e below _ _ T8 (mkF m 131 #[.val (.int p0), .val (.long q1), .second, .val (.long q2), .second, .val (.int ((p0 &&& (2147483647 : Int32)) % (6 : Int32))), .val (.ref w_AND), .val (.long (q1 &&& q2)), .second] [(.int (lcmpW (F1 w_AND q1 q2 f_withBothFalse_w_AND f_withRightTrue_w_AND f_withLeftTrue_w_AND f_withBothTrue_w_AND) (q1 &&& q2)))])
          by_cases hc131 : (F1 w_AND q1 q2 f_withBothFalse_w_AND f_withRightTrue_w_AND f_withLeftTrue_w_AND f_withBothTrue_w_AND) = (q1 &&& q2)
          · refine OFin.st (fun t k => XS.ifNo X8.here hx rfl (hb hby at_131) rfl ((if0 _ _).trans (teq ((lw_eq (F1 w_AND q1 q2 f_withBothFalse_w_AND f_withRightTrue_w_AND f_withLeftTrue_w_AND f_withBothTrue_w_AND) (q1 &&& q2)).mpr hc131)).2) k) ?_
            show OFin p e below _ _ T8 (mkF m 134 #[.val (.int p0), .val (.long q1), .second, .val (.long q2), .second, .val (.int ((p0 &&& (2147483647 : Int32)) % (6 : Int32))), .val (.ref w_AND), .val (.long (q1 &&& q2)), .second] [])
            refine OFin.st (fun t k => XS.iconst X8.here hx rfl (hb hby at_134) k) ?_
            show OFin p e below _ _ T8 (mkF m 135 #[.val (.int p0), .val (.long q1), .second, .val (.long q2), .second, .val (.int ((p0 &&& (2147483647 : Int32)) % (6 : Int32))), .val (.ref w_AND), .val (.long (q1 &&& q2)), .second] [(.int (1 : Int32))])
            refine OFin.st (fun t k => XS.goto X8.here hx rfl (pc0 := 135) (pc' := 139) rfl (hb hby at_135) (by decide) (by decide) k) ?_
            show OFin p e below _ _ T8 (mkF m 139 #[.val (.int p0), .val (.long q1), .second, .val (.long q2), .second, .val (.int ((p0 &&& (2147483647 : Int32)) % (6 : Int32))), .val (.ref w_AND), .val (.long (q1 &&& q2)), .second] [(.int (1 : Int32))])
            exact own_retN X8 hx Bd.returns Bd.notSynchronized (t := .boolean) (by simp) rfl (hb hby at_139) ⟨(by rw [F0, if_neg hc11, if_neg hc34, if_neg hc53, if_pos hc72, if_pos hc131]; try rfl), N8, e8⟩ (own_endN (by decide) (by decide))
          · refine OFin.st (fun t k => XS.ifYes X8.here hx rfl (pc0 := 131) (pc' := 138) rfl (hb hby at_131) rfl ((if0 _ _).trans (feq (fun q => hc131 ((lw_eq (F1 w_AND q1 q2 f_withBothFalse_w_AND f_withRightTrue_w_AND f_withLeftTrue_w_AND f_withBothTrue_w_AND) (q1 &&& q2)).mp q))).2) (by decide) (by decide) k) ?_
            show OFin p e below _ _ T8 (mkF m 138 #[.val (.int p0), .val (.long q1), .second, .val (.long q2), .second, .val (.int ((p0 &&& (2147483647 : Int32)) % (6 : Int32))), .val (.ref w_AND), .val (.long (q1 &&& q2)), .second] [])
            refine OFin.st (fun t k => XS.iconst X8.here hx rfl (hb hby at_138) k) ?_
            show OFin p e below _ _ T8 (mkF m 139 #[.val (.int p0), .val (.long q1), .second, .val (.long q2), .second, .val (.int ((p0 &&& (2147483647 : Int32)) % (6 : Int32))), .val (.ref w_AND), .val (.long (q1 &&& q2)), .second] [(.int (0 : Int32))])
            exact own_retN X8 hx Bd.returns Bd.notSynchronized (t := .boolean) (by simp) rfl (hb hby at_139) ⟨(by rw [F0, if_neg hc11, if_neg hc34, if_neg hc53, if_pos hc72, if_neg hc131]; try rfl), N8, e8⟩ (own_endN (by decide) (by decide))
        · refine OFin.st (fun t k => XS.icmpYes X0.here hx rfl (pc0 := 72) (pc' := 88) rfl (hb hby at_72) rfl (feq hc72).2 (by decide) (by decide) k) ?_
          show OFin p e below _ _ s₁ (mkF m 88 #[.val (.int p0), .val (.long q1), .second, .val (.long q2), .second, .val (.int ((p0 &&& (2147483647 : Int32)) % (6 : Int32))), .unset, .unset, .unset] [])
          refine OFin.st (fun t k => XS.iload X0.here hx rfl (hb hby at_88) rfl k) ?_
          show OFin p e below _ _ s₁ (mkF m 90 #[.val (.int p0), .val (.long q1), .second, .val (.long q2), .second, .val (.int ((p0 &&& (2147483647 : Int32)) % (6 : Int32))), .unset, .unset, .unset] [(.int ((p0 &&& (2147483647 : Int32)) % (6 : Int32)))])
          refine OFin.st (fun t k => XS.iconst X0.here hx rfl (hb hby at_90) k) ?_
          show OFin p e below _ _ s₁ (mkF m 91 #[.val (.int p0), .val (.long q1), .second, .val (.long q2), .second, .val (.int ((p0 &&& (2147483647 : Int32)) % (6 : Int32))), .unset, .unset, .unset] [(.int (4 : Int32)), (.int ((p0 &&& (2147483647 : Int32)) % (6 : Int32)))])
          by_cases hc91 : ((p0 &&& (2147483647 : Int32)) % (6 : Int32)) = (4 : Int32)
          · refine OFin.st (fun t k => XS.icmpNo X0.here hx rfl (hb hby at_91) rfl (teq hc91).2 k) ?_
            show OFin p e below _ _ s₁ (mkF m 94 #[.val (.int p0), .val (.long q1), .second, .val (.long q2), .second, .val (.int ((p0 &&& (2147483647 : Int32)) % (6 : Int32))), .unset, .unset, .unset] [])
            obtain ⟨T9, X9, e9, st9⟩ := getS2 X0 hx hZ hown (host := "") (Or.inl (hw _ (List.mem_of_getElem? (i := 19) rfl))) Via.refl e0 (S_EQUAL.ext O0.2) (g := (mkF m 94 #[.val (.int p0), .val (.long q1), .second, .val (.long q2), .second, .val (.int ((p0 &&& (2147483647 : Int32)) % (6 : Int32))), .unset, .unset, .unset] [])) rfl (hb hby at_94)
            refine OFin.st st9 ?_
            show OFin p e below _ _ T9 (mkF m 97 #[.val (.int p0), .val (.long q1), .second, .val (.long q2), .second, .val (.int ((p0 &&& (2147483647 : Int32)) % (6 : Int32))), .unset, .unset, .unset] [(.ref w_EQUAL)])
            refine OFin.st (fun t k => XS.astore X9.here hx rfl (hb hby at_97) rfl rfl (l' := #[.val (.int p0), .val (.long q1), .second, .val (.long q2), .second, .val (.int ((p0 &&& (2147483647 : Int32)) % (6 : Int32))), .val (.ref w_EQUAL), .unset, .unset]) rfl k) ?_
            show OFin p e below _ _ T9 (mkF m 99 #[.val (.int p0), .val (.long q1), .second, .val (.long q2), .second, .val (.int ((p0 &&& (2147483647 : Int32)) % (6 : Int32))), .val (.ref w_EQUAL), .unset, .unset] [])
            refine OFin.st (fun t k => XS.lloadN X9.here hx rfl (hb hby at_99) rfl k) ?_
            show OFin p e below _ _ T9 (mkF m 100 #[.val (.int p0), .val (.long q1), .second, .val (.long q2), .second, .val (.int ((p0 &&& (2147483647 : Int32)) % (6 : Int32))), .val (.ref w_EQUAL), .unset, .unset] [(.long q1)])
            refine OFin.st (fun t k => XS.lloadN X9.here hx rfl (hb hby at_100) rfl k) ?_
            show OFin p e below _ _ T9 (mkF m 101 #[.val (.int p0), .val (.long q1), .second, .val (.long q2), .second, .val (.int ((p0 &&& (2147483647 : Int32)) % (6 : Int32))), .val (.ref w_EQUAL), .unset, .unset] [(.long q2), (.long q1)])
            refine OFin.st (fun t k => XS.lxor X9.here hx rfl (hb hby at_101) rfl k) ?_
            show OFin p e below _ _ T9 (mkF m 102 #[.val (.int p0), .val (.long q1), .second, .val (.long q2), .second, .val (.int ((p0 &&& (2147483647 : Int32)) % (6 : Int32))), .val (.ref w_EQUAL), .unset, .unset] [(.long (q1 ^^^ q2))])
            refine OFin.st (X9.ldc2Long hx hown (mvT hZ (hw _ (List.mem_of_getElem? (i := 4) rfl))) (g := (mkF m 102 #[.val (.int p0), .val (.long q1), .second, .val (.long q2), .second, .val (.int ((p0 &&& (2147483647 : Int32)) % (6 : Int32))), .val (.ref w_EQUAL), .unset, .unset] [(.long (q1 ^^^ q2))])) rfl (hb hby at_102)) ?_
            show OFin p e below _ _ T9 (mkF m 105 #[.val (.int p0), .val (.long q1), .second, .val (.long q2), .second, .val (.int ((p0 &&& (2147483647 : Int32)) % (6 : Int32))), .val (.ref w_EQUAL), .unset, .unset] [(.long (-1 : Int64)), (.long (q1 ^^^ q2))])
            refine OFin.st (fun t k => XS.lxor X9.here hx rfl (hb hby at_105) rfl k) ?_
            show OFin p e below _ _ T9 (mkF m 106 #[.val (.int p0), .val (.long q1), .second, .val (.long q2), .second, .val (.int ((p0 &&& (2147483647 : Int32)) % (6 : Int32))), .val (.ref w_EQUAL), .unset, .unset] [(.long ((q1 ^^^ q2) ^^^ (-1 : Int64)))])
            refine OFin.st (fun t k => XS.lstore X9.here hx rfl (hb hby at_106) rfl (l' := #[.val (.int p0), .val (.long q1), .second, .val (.long q2), .second, .val (.int ((p0 &&& (2147483647 : Int32)) % (6 : Int32))), .val (.ref w_EQUAL), .val (.long ((q1 ^^^ q2) ^^^ (-1 : Int64))), .second]) rfl k) ?_
            show OFin p e below _ _ T9 (mkF m 108 #[.val (.int p0), .val (.long q1), .second, .val (.long q2), .second, .val (.int ((p0 &&& (2147483647 : Int32)) % (6 : Int32))), .val (.ref w_EQUAL), .val (.long ((q1 ^^^ q2) ^^^ (-1 : Int64))), .second] [])
            refine OFin.st (fun t k => XS.goto X9.here hx rfl (pc0 := 108) (pc' := 121) rfl (hb hby at_108) (by decide) (by decide) k) ?_
            show OFin p e below _ _ T9 (mkF m 121 #[.val (.int p0), .val (.long q1), .second, .val (.long q2), .second, .val (.int ((p0 &&& (2147483647 : Int32)) % (6 : Int32))), .val (.ref w_EQUAL), .val (.long ((q1 ^^^ q2) ^^^ (-1 : Int64))), .second] [])
            refine OFin.st (fun t k => XS.aload X9.here hx rfl (hb hby at_121) rfl rfl k) ?_
            show OFin p e below _ _ T9 (mkF m 123 #[.val (.int p0), .val (.long q1), .second, .val (.long q2), .second, .val (.int ((p0 &&& (2147483647 : Int32)) % (6 : Int32))), .val (.ref w_EQUAL), .val (.long ((q1 ^^^ q2) ^^^ (-1 : Int64))), .second] [(.ref w_EQUAL)])
            refine OFin.st (fun t k => XS.lloadN X9.here hx rfl (hb hby at_123) rfl k) ?_
            show OFin p e below _ _ T9 (mkF m 124 #[.val (.int p0), .val (.long q1), .second, .val (.long q2), .second, .val (.int ((p0 &&& (2147483647 : Int32)) % (6 : Int32))), .val (.ref w_EQUAL), .val (.long ((q1 ^^^ q2) ^^^ (-1 : Int64))), .second] [(.long q1), (.ref w_EQUAL)])
            refine OFin.st (fun t k => XS.lloadN X9.here hx rfl (hb hby at_124) rfl k) ?_
            show OFin p e below _ _ T9 (mkF m 125 #[.val (.int p0), .val (.long q1), .second, .val (.long q2), .second, .val (.int ((p0 &&& (2147483647 : Int32)) % (6 : Int32))), .val (.ref w_EQUAL), .val (.long ((q1 ^^^ q2) ^^^ (-1 : Int64))), .second] [(.long q2), (.long q1), (.ref w_EQUAL)])
            obtain ⟨cq10, kq10, q10a, q10b, q10c⟩ := isOf hZ e9 E_w_EQUAL
            obtain ⟨_, _, ⟨T10, L10, k10, n10⟩, -, X10, ⟨Lc10, hQ10, l10, y10, z10⟩, st10⟩ := X9.virtualBack hx (y := (⟨"com/example/verdikt/verdikt/model/BinaryOperator", "apply", "(JJ)J"⟩ : MethodName)) (z := (⟨"com/example/verdikt/verdikt/model/BinaryOperator", "apply", "(JJ)J"⟩ : MethodName)) hown (mvT hZ (hw _ (List.mem_of_getElem? (i := 5) rfl))) (mvT hZ (hw _ (List.mem_of_getElem? (i := 6) rfl))) (notFace_of_selects (args := #[]) (mvT hZ (hw _ (List.mem_of_getElem? (i := 8) rfl)))) (mvT hZ (hw _ (List.mem_of_getElem? (i := 8) rfl))) (mvT hZ (hw _ (List.mem_of_getElem? (i := 7) rfl))) (by decide) (backOf (W := 0) (rm1 l Z a0 hw [] w_EQUAL q1 q2 f_withBothFalse_w_EQUAL f_withRightTrue_w_EQUAL f_withLeftTrue_w_EQUAL f_withBothTrue_w_EQUAL h0 n0 O0 F_withBothFalse_w_EQUAL F_withRightTrue_w_EQUAL F_withLeftTrue_w_EQUAL F_withBothTrue_w_EQUAL) hZ (hw _ (List.mem_of_getElem? (i := 9) rfl)) (hw _ (List.mem_of_getElem? (i := 2) rfl)) (by decide) (by decide)) q10a q10c (g := (mkF m 125 #[.val (.int p0), .val (.long q1), .second, .val (.long q2), .second, .val (.int ((p0 &&& (2147483647 : Int32)) % (6 : Int32))), .val (.ref w_EQUAL), .val (.long ((q1 ^^^ q2) ^^^ (-1 : Int64))), .second] [(.long q2), (.long q1), (.ref w_EQUAL)])) rfl (by rw [hml]; rfl) (Steps.refl _) (argsL := [(.long q1), (.long q2)]) (rest := []) (lenOf pd_0 rfl) rfl (by show 2 * 0 + _ ≤ _; exact Nat.le_of_eq rfl) (hb hby at_125) (fun _ _ => ⟨rfl, e9, (by decide : 0 + 0 ≤ _), (by decide : 0 + 0 ≤ _)⟩)
            dsimp only [Pt.U, Pt.locs, Pt.cells, Pt.slots] at X10 l10 y10 z10 st10 hQ10
            subst l10 y10 z10
            obtain ⟨rfl, N10q, e10⟩ := hQ10
            have N10 := Fr.app N0 N10q
            refine OFin.tr st10 ?_
            show OFin p e below _ _ T10 (mkF m 128 #[.val (.int p0), .val (.long q1), .second, .val (.long q2), .second, .val (.int ((p0 &&& (2147483647 : Int32)) % (6 : Int32))), .val (.ref w_EQUAL), .val (.long ((q1 ^^^ q2) ^^^ (-1 : Int64))), .second] [(.long (F1 w_EQUAL q1 q2 f_withBothFalse_w_EQUAL f_withRightTrue_w_EQUAL f_withLeftTrue_w_EQUAL f_withBothTrue_w_EQUAL))])
            refine OFin.st (fun t k => XS.lload X10.here hx rfl (hb hby at_128) rfl k) ?_
            show OFin p e below _ _ T10 (mkF m 130 #[.val (.int p0), .val (.long q1), .second, .val (.long q2), .second, .val (.int ((p0 &&& (2147483647 : Int32)) % (6 : Int32))), .val (.ref w_EQUAL), .val (.long ((q1 ^^^ q2) ^^^ (-1 : Int64))), .second] [(.long ((q1 ^^^ q2) ^^^ (-1 : Int64))), (.long (F1 w_EQUAL q1 q2 f_withBothFalse_w_EQUAL f_withRightTrue_w_EQUAL f_withLeftTrue_w_EQUAL f_withBothTrue_w_EQUAL))])
            refine OFin.st (fun t k => XS.lcmp X10.here hx rfl (hb hby at_130) rfl k) ?_
            show OFin p e below _ _ T10 (mkF m 131 #[.val (.int p0), .val (.long q1), .second, .val (.long q2), .second, .val (.int ((p0 &&& (2147483647 : Int32)) % (6 : Int32))), .val (.ref w_EQUAL), .val (.long ((q1 ^^^ q2) ^^^ (-1 : Int64))), .second] [(.int (lcmpW (F1 w_EQUAL q1 q2 f_withBothFalse_w_EQUAL f_withRightTrue_w_EQUAL f_withLeftTrue_w_EQUAL f_withBothTrue_w_EQUAL) ((q1 ^^^ q2) ^^^ (-1 : Int64))))])
            by_cases hc131 : (F1 w_EQUAL q1 q2 f_withBothFalse_w_EQUAL f_withRightTrue_w_EQUAL f_withLeftTrue_w_EQUAL f_withBothTrue_w_EQUAL) = ((q1 ^^^ q2) ^^^ (-1 : Int64))
            · refine OFin.st (fun t k => XS.ifNo X10.here hx rfl (hb hby at_131) rfl ((if0 _ _).trans (teq ((lw_eq (F1 w_EQUAL q1 q2 f_withBothFalse_w_EQUAL f_withRightTrue_w_EQUAL f_withLeftTrue_w_EQUAL f_withBothTrue_w_EQUAL) ((q1 ^^^ q2) ^^^ (-1 : Int64))).mpr hc131)).2) k) ?_
              show OFin p e below _ _ T10 (mkF m 134 #[.val (.int p0), .val (.long q1), .second, .val (.long q2), .second, .val (.int ((p0 &&& (2147483647 : Int32)) % (6 : Int32))), .val (.ref w_EQUAL), .val (.long ((q1 ^^^ q2) ^^^ (-1 : Int64))), .second] [])
              refine OFin.st (fun t k => XS.iconst X10.here hx rfl (hb hby at_134) k) ?_
              show OFin p e below _ _ T10 (mkF m 135 #[.val (.int p0), .val (.long q1), .second, .val (.long q2), .second, .val (.int ((p0 &&& (2147483647 : Int32)) % (6 : Int32))), .val (.ref w_EQUAL), .val (.long ((q1 ^^^ q2) ^^^ (-1 : Int64))), .second] [(.int (1 : Int32))])
              refine OFin.st (fun t k => XS.goto X10.here hx rfl (pc0 := 135) (pc' := 139) rfl (hb hby at_135) (by decide) (by decide) k) ?_
              show OFin p e below _ _ T10 (mkF m 139 #[.val (.int p0), .val (.long q1), .second, .val (.long q2), .second, .val (.int ((p0 &&& (2147483647 : Int32)) % (6 : Int32))), .val (.ref w_EQUAL), .val (.long ((q1 ^^^ q2) ^^^ (-1 : Int64))), .second] [(.int (1 : Int32))])
              exact own_retN X10 hx Bd.returns Bd.notSynchronized (t := .boolean) (by simp) rfl (hb hby at_139) ⟨(by rw [F0, if_neg hc11, if_neg hc34, if_neg hc53, if_neg hc72, if_pos hc91, if_pos hc131]; try rfl), N10, e10⟩ (own_endN (by decide) (by decide))
            · refine OFin.st (fun t k => XS.ifYes X10.here hx rfl (pc0 := 131) (pc' := 138) rfl (hb hby at_131) rfl ((if0 _ _).trans (feq (fun q => hc131 ((lw_eq (F1 w_EQUAL q1 q2 f_withBothFalse_w_EQUAL f_withRightTrue_w_EQUAL f_withLeftTrue_w_EQUAL f_withBothTrue_w_EQUAL) ((q1 ^^^ q2) ^^^ (-1 : Int64))).mp q))).2) (by decide) (by decide) k) ?_
              show OFin p e below _ _ T10 (mkF m 138 #[.val (.int p0), .val (.long q1), .second, .val (.long q2), .second, .val (.int ((p0 &&& (2147483647 : Int32)) % (6 : Int32))), .val (.ref w_EQUAL), .val (.long ((q1 ^^^ q2) ^^^ (-1 : Int64))), .second] [])
              refine OFin.st (fun t k => XS.iconst X10.here hx rfl (hb hby at_138) k) ?_
              show OFin p e below _ _ T10 (mkF m 139 #[.val (.int p0), .val (.long q1), .second, .val (.long q2), .second, .val (.int ((p0 &&& (2147483647 : Int32)) % (6 : Int32))), .val (.ref w_EQUAL), .val (.long ((q1 ^^^ q2) ^^^ (-1 : Int64))), .second] [(.int (0 : Int32))])
              exact own_retN X10 hx Bd.returns Bd.notSynchronized (t := .boolean) (by simp) rfl (hb hby at_139) ⟨(by rw [F0, if_neg hc11, if_neg hc34, if_neg hc53, if_neg hc72, if_pos hc91, if_neg hc131]; try rfl), N10, e10⟩ (own_endN (by decide) (by decide))
          · refine OFin.st (fun t k => XS.icmpYes X0.here hx rfl (pc0 := 91) (pc' := 111) rfl (hb hby at_91) rfl (feq hc91).2 (by decide) (by decide) k) ?_
            show OFin p e below _ _ s₁ (mkF m 111 #[.val (.int p0), .val (.long q1), .second, .val (.long q2), .second, .val (.int ((p0 &&& (2147483647 : Int32)) % (6 : Int32))), .unset, .unset, .unset] [])
            obtain ⟨T11, X11, e11, st11⟩ := getS2 X0 hx hZ hown (host := "") (Or.inl (hw _ (List.mem_of_getElem? (i := 27) rfl))) Via.refl e0 (S_NOT_EQUAL.ext O0.2) (g := (mkF m 111 #[.val (.int p0), .val (.long q1), .second, .val (.long q2), .second, .val (.int ((p0 &&& (2147483647 : Int32)) % (6 : Int32))), .unset, .unset, .unset] [])) rfl (hb hby at_111)
            refine OFin.st st11 ?_
            show OFin p e below _ _ T11 (mkF m 114 #[.val (.int p0), .val (.long q1), .second, .val (.long q2), .second, .val (.int ((p0 &&& (2147483647 : Int32)) % (6 : Int32))), .unset, .unset, .unset] [(.ref w_NOT_EQUAL)])
            refine OFin.st (fun t k => XS.astore X11.here hx rfl (hb hby at_114) rfl rfl (l' := #[.val (.int p0), .val (.long q1), .second, .val (.long q2), .second, .val (.int ((p0 &&& (2147483647 : Int32)) % (6 : Int32))), .val (.ref w_NOT_EQUAL), .unset, .unset]) rfl k) ?_
            show OFin p e below _ _ T11 (mkF m 116 #[.val (.int p0), .val (.long q1), .second, .val (.long q2), .second, .val (.int ((p0 &&& (2147483647 : Int32)) % (6 : Int32))), .val (.ref w_NOT_EQUAL), .unset, .unset] [])
            refine OFin.st (fun t k => XS.lloadN X11.here hx rfl (hb hby at_116) rfl k) ?_
            show OFin p e below _ _ T11 (mkF m 117 #[.val (.int p0), .val (.long q1), .second, .val (.long q2), .second, .val (.int ((p0 &&& (2147483647 : Int32)) % (6 : Int32))), .val (.ref w_NOT_EQUAL), .unset, .unset] [(.long q1)])
            refine OFin.st (fun t k => XS.lloadN X11.here hx rfl (hb hby at_117) rfl k) ?_
            show OFin p e below _ _ T11 (mkF m 118 #[.val (.int p0), .val (.long q1), .second, .val (.long q2), .second, .val (.int ((p0 &&& (2147483647 : Int32)) % (6 : Int32))), .val (.ref w_NOT_EQUAL), .unset, .unset] [(.long q2), (.long q1)])
            refine OFin.st (fun t k => XS.lxor X11.here hx rfl (hb hby at_118) rfl k) ?_
            show OFin p e below _ _ T11 (mkF m 119 #[.val (.int p0), .val (.long q1), .second, .val (.long q2), .second, .val (.int ((p0 &&& (2147483647 : Int32)) % (6 : Int32))), .val (.ref w_NOT_EQUAL), .unset, .unset] [(.long (q1 ^^^ q2))])
            refine OFin.st (fun t k => XS.lstore X11.here hx rfl (hb hby at_119) rfl (l' := #[.val (.int p0), .val (.long q1), .second, .val (.long q2), .second, .val (.int ((p0 &&& (2147483647 : Int32)) % (6 : Int32))), .val (.ref w_NOT_EQUAL), .val (.long (q1 ^^^ q2)), .second]) rfl k) ?_
            show OFin p e below _ _ T11 (mkF m 121 #[.val (.int p0), .val (.long q1), .second, .val (.long q2), .second, .val (.int ((p0 &&& (2147483647 : Int32)) % (6 : Int32))), .val (.ref w_NOT_EQUAL), .val (.long (q1 ^^^ q2)), .second] [])
            refine OFin.st (fun t k => XS.aload X11.here hx rfl (hb hby at_121) rfl rfl k) ?_
            show OFin p e below _ _ T11 (mkF m 123 #[.val (.int p0), .val (.long q1), .second, .val (.long q2), .second, .val (.int ((p0 &&& (2147483647 : Int32)) % (6 : Int32))), .val (.ref w_NOT_EQUAL), .val (.long (q1 ^^^ q2)), .second] [(.ref w_NOT_EQUAL)])
            refine OFin.st (fun t k => XS.lloadN X11.here hx rfl (hb hby at_123) rfl k) ?_
            show OFin p e below _ _ T11 (mkF m 124 #[.val (.int p0), .val (.long q1), .second, .val (.long q2), .second, .val (.int ((p0 &&& (2147483647 : Int32)) % (6 : Int32))), .val (.ref w_NOT_EQUAL), .val (.long (q1 ^^^ q2)), .second] [(.long q1), (.ref w_NOT_EQUAL)])
            refine OFin.st (fun t k => XS.lloadN X11.here hx rfl (hb hby at_124) rfl k) ?_
            show OFin p e below _ _ T11 (mkF m 125 #[.val (.int p0), .val (.long q1), .second, .val (.long q2), .second, .val (.int ((p0 &&& (2147483647 : Int32)) % (6 : Int32))), .val (.ref w_NOT_EQUAL), .val (.long (q1 ^^^ q2)), .second] [(.long q2), (.long q1), (.ref w_NOT_EQUAL)])
            obtain ⟨cq12, kq12, q12a, q12b, q12c⟩ := isOf hZ e11 E_w_NOT_EQUAL
            obtain ⟨_, _, ⟨T12, L12, k12, n12⟩, -, X12, ⟨Lc12, hQ12, l12, y12, z12⟩, st12⟩ := X11.virtualBack hx (y := (⟨"com/example/verdikt/verdikt/model/BinaryOperator", "apply", "(JJ)J"⟩ : MethodName)) (z := (⟨"com/example/verdikt/verdikt/model/BinaryOperator", "apply", "(JJ)J"⟩ : MethodName)) hown (mvT hZ (hw _ (List.mem_of_getElem? (i := 5) rfl))) (mvT hZ (hw _ (List.mem_of_getElem? (i := 6) rfl))) (notFace_of_selects (args := #[]) (mvT hZ (hw _ (List.mem_of_getElem? (i := 8) rfl)))) (mvT hZ (hw _ (List.mem_of_getElem? (i := 8) rfl))) (mvT hZ (hw _ (List.mem_of_getElem? (i := 7) rfl))) (by decide) (backOf (W := 0) (rm1 l Z a0 hw [] w_NOT_EQUAL q1 q2 f_withBothFalse_w_NOT_EQUAL f_withRightTrue_w_NOT_EQUAL f_withLeftTrue_w_NOT_EQUAL f_withBothTrue_w_NOT_EQUAL h0 n0 O0 F_withBothFalse_w_NOT_EQUAL F_withRightTrue_w_NOT_EQUAL F_withLeftTrue_w_NOT_EQUAL F_withBothTrue_w_NOT_EQUAL) hZ (hw _ (List.mem_of_getElem? (i := 9) rfl)) (hw _ (List.mem_of_getElem? (i := 2) rfl)) (by decide) (by decide)) q12a q12c (g := (mkF m 125 #[.val (.int p0), .val (.long q1), .second, .val (.long q2), .second, .val (.int ((p0 &&& (2147483647 : Int32)) % (6 : Int32))), .val (.ref w_NOT_EQUAL), .val (.long (q1 ^^^ q2)), .second] [(.long q2), (.long q1), (.ref w_NOT_EQUAL)])) rfl (by rw [hml]; rfl) (Steps.refl _) (argsL := [(.long q1), (.long q2)]) (rest := []) (lenOf pd_0 rfl) rfl (by show 2 * 0 + _ ≤ _; exact Nat.le_of_eq rfl) (hb hby at_125) (fun _ _ => ⟨rfl, e11, (by decide : 0 + 0 ≤ _), (by decide : 0 + 0 ≤ _)⟩)
            dsimp only [Pt.U, Pt.locs, Pt.cells, Pt.slots] at X12 l12 y12 z12 st12 hQ12
            subst l12 y12 z12
            obtain ⟨rfl, N12q, e12⟩ := hQ12
            have N12 := Fr.app N0 N12q
            refine OFin.tr st12 ?_
            show OFin p e below _ _ T12 (mkF m 128 #[.val (.int p0), .val (.long q1), .second, .val (.long q2), .second, .val (.int ((p0 &&& (2147483647 : Int32)) % (6 : Int32))), .val (.ref w_NOT_EQUAL), .val (.long (q1 ^^^ q2)), .second] [(.long (F1 w_NOT_EQUAL q1 q2 f_withBothFalse_w_NOT_EQUAL f_withRightTrue_w_NOT_EQUAL f_withLeftTrue_w_NOT_EQUAL f_withBothTrue_w_NOT_EQUAL))])
            refine OFin.st (fun t k => XS.lload X12.here hx rfl (hb hby at_128) rfl k) ?_
            show OFin p e below _ _ T12 (mkF m 130 #[.val (.int p0), .val (.long q1), .second, .val (.long q2), .second, .val (.int ((p0 &&& (2147483647 : Int32)) % (6 : Int32))), .val (.ref w_NOT_EQUAL), .val (.long (q1 ^^^ q2)), .second] [(.long (q1 ^^^ q2)), (.long (F1 w_NOT_EQUAL q1 q2 f_withBothFalse_w_NOT_EQUAL f_withRightTrue_w_NOT_EQUAL f_withLeftTrue_w_NOT_EQUAL f_withBothTrue_w_NOT_EQUAL))])
            refine OFin.st (fun t k => XS.lcmp X12.here hx rfl (hb hby at_130) rfl k) ?_
            show OFin p e below _ _ T12 (mkF m 131 #[.val (.int p0), .val (.long q1), .second, .val (.long q2), .second, .val (.int ((p0 &&& (2147483647 : Int32)) % (6 : Int32))), .val (.ref w_NOT_EQUAL), .val (.long (q1 ^^^ q2)), .second] [(.int (lcmpW (F1 w_NOT_EQUAL q1 q2 f_withBothFalse_w_NOT_EQUAL f_withRightTrue_w_NOT_EQUAL f_withLeftTrue_w_NOT_EQUAL f_withBothTrue_w_NOT_EQUAL) (q1 ^^^ q2)))])
            by_cases hc131 : (F1 w_NOT_EQUAL q1 q2 f_withBothFalse_w_NOT_EQUAL f_withRightTrue_w_NOT_EQUAL f_withLeftTrue_w_NOT_EQUAL f_withBothTrue_w_NOT_EQUAL) = (q1 ^^^ q2)
            · refine OFin.st (fun t k => XS.ifNo X12.here hx rfl (hb hby at_131) rfl ((if0 _ _).trans (teq ((lw_eq (F1 w_NOT_EQUAL q1 q2 f_withBothFalse_w_NOT_EQUAL f_withRightTrue_w_NOT_EQUAL f_withLeftTrue_w_NOT_EQUAL f_withBothTrue_w_NOT_EQUAL) (q1 ^^^ q2)).mpr hc131)).2) k) ?_
              show OFin p e below _ _ T12 (mkF m 134 #[.val (.int p0), .val (.long q1), .second, .val (.long q2), .second, .val (.int ((p0 &&& (2147483647 : Int32)) % (6 : Int32))), .val (.ref w_NOT_EQUAL), .val (.long (q1 ^^^ q2)), .second] [])
              refine OFin.st (fun t k => XS.iconst X12.here hx rfl (hb hby at_134) k) ?_
              show OFin p e below _ _ T12 (mkF m 135 #[.val (.int p0), .val (.long q1), .second, .val (.long q2), .second, .val (.int ((p0 &&& (2147483647 : Int32)) % (6 : Int32))), .val (.ref w_NOT_EQUAL), .val (.long (q1 ^^^ q2)), .second] [(.int (1 : Int32))])
              refine OFin.st (fun t k => XS.goto X12.here hx rfl (pc0 := 135) (pc' := 139) rfl (hb hby at_135) (by decide) (by decide) k) ?_
              show OFin p e below _ _ T12 (mkF m 139 #[.val (.int p0), .val (.long q1), .second, .val (.long q2), .second, .val (.int ((p0 &&& (2147483647 : Int32)) % (6 : Int32))), .val (.ref w_NOT_EQUAL), .val (.long (q1 ^^^ q2)), .second] [(.int (1 : Int32))])
              exact own_retN X12 hx Bd.returns Bd.notSynchronized (t := .boolean) (by simp) rfl (hb hby at_139) ⟨(by rw [F0, if_neg hc11, if_neg hc34, if_neg hc53, if_neg hc72, if_neg hc91, if_pos hc131]; try rfl), N12, e12⟩ (own_endN (by decide) (by decide))
            · refine OFin.st (fun t k => XS.ifYes X12.here hx rfl (pc0 := 131) (pc' := 138) rfl (hb hby at_131) rfl ((if0 _ _).trans (feq (fun q => hc131 ((lw_eq (F1 w_NOT_EQUAL q1 q2 f_withBothFalse_w_NOT_EQUAL f_withRightTrue_w_NOT_EQUAL f_withLeftTrue_w_NOT_EQUAL f_withBothTrue_w_NOT_EQUAL) (q1 ^^^ q2)).mp q))).2) (by decide) (by decide) k) ?_
              show OFin p e below _ _ T12 (mkF m 138 #[.val (.int p0), .val (.long q1), .second, .val (.long q2), .second, .val (.int ((p0 &&& (2147483647 : Int32)) % (6 : Int32))), .val (.ref w_NOT_EQUAL), .val (.long (q1 ^^^ q2)), .second] [])
              refine OFin.st (fun t k => XS.iconst X12.here hx rfl (hb hby at_138) k) ?_
              show OFin p e below _ _ T12 (mkF m 139 #[.val (.int p0), .val (.long q1), .second, .val (.long q2), .second, .val (.int ((p0 &&& (2147483647 : Int32)) % (6 : Int32))), .val (.ref w_NOT_EQUAL), .val (.long (q1 ^^^ q2)), .second] [(.int (0 : Int32))])
              exact own_retN X12 hx Bd.returns Bd.notSynchronized (t := .boolean) (by simp) rfl (hb hby at_139) ⟨(by rw [F0, if_neg hc11, if_neg hc34, if_neg hc53, if_neg hc72, if_neg hc91, if_neg hc131]; try rfl), N12, e12⟩ (own_endN (by decide) (by decide))
set_option maxRecDepth 65536 in
set_option maxHeartbeats 40000000 in
theorem comes_1 {Post : Tables → Env → Array Value → State → Outcome → State → Prop} (hpost : ∀ tb e args s v u, (limb_1_1.after args s (.returned v) u = true ∧ limb_1_2.after args s (.returned v) u = true ∧ True) → FrameEnd s (.returned v) u (Jvm.fieldLocs frame_1_writes args s ++ Jvm.arrayLocs frame_1_arrays args s ++ Jvm.staticLocs frame_1_statics s) 0 0 → Post tb e args s (.returned v) u) :
    ArmFor flags0 classFile x code maxLocals ret World_1 tables_1 room_1 Calls_1 rest_1 Pre_1 Post := by
  intro l hfl _ _ p e ha hc hk s m args below hf hA hF happ hP
  obtain ⟨hcalls, hrest, hpre⟩ := hP
  obtain ⟨-, -, -, hnamed, -, -, -, hat⟩ := (Spec.applies_iff hf).mp happ
  obtain ⟨hg, hn⟩ := and_e (Cond.before_iff.mp (show (Jvm.Cond.and given_1 narrow_1).before args s = true from hpre))
  obtain ⟨g1a, g1b⟩ := and_e hg
  obtain ⟨g2a, g2b⟩ := and_e g1b
  obtain ⟨g3a, g3b⟩ := and_e g2b
  obtain ⟨c1a, c1b⟩ := and_e hn
  obtain ⟨c2a, c2b⟩ := and_e c1b
  obtain ⟨c3a, c3b⟩ := and_e c2b
  obtain ⟨c4a, c4b⟩ := and_e c3b
  obtain ⟨c5a, c5b⟩ := and_e c4b
  obtain ⟨c6a, c6b⟩ := and_e c5b
  obtain ⟨c7a, c7b⟩ := and_e c6b
  obtain ⟨c8a, c8b⟩ := and_e c7b
  obtain ⟨c9a, c9b⟩ := and_e c8b
  obtain ⟨c10a, c10b⟩ := and_e c9b
  obtain ⟨c11a, c11b⟩ := and_e c10b
  obtain ⟨c12a, c12b⟩ := and_e c11b
  obtain ⟨c13a, c13b⟩ := and_e c12b
  obtain ⟨c14a, c14b⟩ := and_e c13b
  obtain ⟨c15a, c15b⟩ := and_e c14b
  obtain ⟨c16a, c16b⟩ := and_e c15b
  obtain ⟨c17a, c17b⟩ := and_e c16b
  obtain ⟨c18a, c18b⟩ := and_e c17b
  obtain ⟨c19a, c19b⟩ := and_e c18b
  obtain ⟨c20a, c20b⟩ := and_e c19b
  obtain ⟨c21a, c21b⟩ := and_e c20b
  obtain ⟨c22a, c22b⟩ := and_e c21b
  obtain ⟨c23a, c23b⟩ := and_e c22b
  obtain ⟨c24a, c24b⟩ := and_e c23b
  obtain ⟨c25a, c25b⟩ := and_e c24b
  obtain ⟨c26a, c26b⟩ := and_e c25b
  obtain ⟨c27a, c27b⟩ := and_e c26b
  obtain ⟨c28a, c28b⟩ := and_e c27b
  obtain ⟨c29a, c29b⟩ := and_e c28b
  obtain ⟨w0, w1, w2, rfl⟩ : ∃ w0 w1 w2 : Value, args = #[w0, w1, w2] := by
    have hs : args.size = 3 := by simpa [Cond.value, given_1] using g1a
    obtain ⟨L⟩ := args
    match L, hs with
    | [w0, w1, w2], _ => exact ⟨w0, w1, w2, rfl⟩
  have hw := fun d (hd : d ∈ tables_1) => atoms_spec (ws := Jvm.Cond.code x code maxLocals ret :: tables_1) hat d (List.mem_cons_of_mem _ hd)
  have hfit : Fit s := fun {y c} hc i hi => by
    obtain ⟨ha, rfl⟩ := Array.getElem?_eq_some_iff.mp hc
    have q := List.all_eq_true.mp ((Array.all_eq_true_iff_forall_mem.mp hF) _ (Array.getElem_mem ha)) i (List.mem_range.mpr hi)
    simpa [Array.getElem?_eq_getElem hi] using q
  obtain ⟨i0, ei0⟩ := is_v g2a
  obtain rfl : w0 = (.int i0) := Option.some.inj ei0
  obtain ⟨i1, ei1⟩ := isL_v g3a
  obtain rfl : w1 = (.long i1) := Option.some.inj ei1
  obtain ⟨i2, ei2⟩ := isL_v g3b
  obtain rfl : w2 = (.long i2) := Option.some.inj ei2
  obtain ⟨w_IMPLIES, ev_IMPLIES⟩ := exa_v c1a
  have E_w_IMPLIES := Exa.start ev_IMPLIES c1a
  have S_IMPLIES := Sta.start ev_IMPLIES (Or.inr ⟨(hw _ (List.mem_of_getElem? (i := 2) rfl)), (hw _ (List.mem_of_getElem? (i := 3) rfl))⟩)
  obtain ⟨w_EQUAL, ev_EQUAL⟩ := exa_v c6a
  have E_w_EQUAL := Exa.start ev_EQUAL c6a
  have S_EQUAL := Sta.start ev_EQUAL (Or.inr ⟨(hw _ (List.mem_of_getElem? (i := 2) rfl)), (hw _ (List.mem_of_getElem? (i := 20) rfl))⟩)
  obtain ⟨w_AND, ev_AND⟩ := exa_v c11a
  have E_w_AND := Exa.start ev_AND c11a
  have S_AND := Sta.start ev_AND (Or.inr ⟨(hw _ (List.mem_of_getElem? (i := 2) rfl)), (hw _ (List.mem_of_getElem? (i := 22) rfl))⟩)
  obtain ⟨w_XOR, ev_XOR⟩ := exa_v c16a
  have E_w_XOR := Exa.start ev_XOR c16a
  have S_XOR := Sta.start ev_XOR (Or.inr ⟨(hw _ (List.mem_of_getElem? (i := 2) rfl)), (hw _ (List.mem_of_getElem? (i := 24) rfl))⟩)
  obtain ⟨w_OR, ev_OR⟩ := exa_v c21a
  have E_w_OR := Exa.start ev_OR c21a
  have S_OR := Sta.start ev_OR (Or.inr ⟨(hw _ (List.mem_of_getElem? (i := 2) rfl)), (hw _ (List.mem_of_getElem? (i := 26) rfl))⟩)
  obtain ⟨w_NOT_EQUAL, ev_NOT_EQUAL⟩ := exa_v c26a
  have E_w_NOT_EQUAL := Exa.start ev_NOT_EQUAL c26a
  have S_NOT_EQUAL := Sta.start ev_NOT_EQUAL (Or.inr ⟨(hw _ (List.mem_of_getElem? (i := 2) rfl)), (hw _ (List.mem_of_getElem? (i := 28) rfl))⟩)
  have F_withBothFalse_w_IMPLIES := own_fldJ ev_IMPLIES c2a
  have F_withRightTrue_w_IMPLIES := own_fldJ ev_IMPLIES c3a
  have F_withLeftTrue_w_IMPLIES := own_fldJ ev_IMPLIES c4a
  have F_withBothTrue_w_IMPLIES := own_fldJ ev_IMPLIES c5a
  have F_withBothFalse_w_EQUAL := own_fldJ ev_EQUAL c7a
  have F_withRightTrue_w_EQUAL := own_fldJ ev_EQUAL c8a
  have F_withLeftTrue_w_EQUAL := own_fldJ ev_EQUAL c9a
  have F_withBothTrue_w_EQUAL := own_fldJ ev_EQUAL c10a
  have F_withBothFalse_w_AND := own_fldJ ev_AND c12a
  have F_withRightTrue_w_AND := own_fldJ ev_AND c13a
  have F_withLeftTrue_w_AND := own_fldJ ev_AND c14a
  have F_withBothTrue_w_AND := own_fldJ ev_AND c15a
  have F_withBothFalse_w_XOR := own_fldJ ev_XOR c17a
  have F_withRightTrue_w_XOR := own_fldJ ev_XOR c18a
  have F_withLeftTrue_w_XOR := own_fldJ ev_XOR c19a
  have F_withBothTrue_w_XOR := own_fldJ ev_XOR c20a
  have F_withBothFalse_w_OR := own_fldJ ev_OR c22a
  have F_withRightTrue_w_OR := own_fldJ ev_OR c23a
  have F_withLeftTrue_w_OR := own_fldJ ev_OR c24a
  have F_withBothTrue_w_OR := own_fldJ ev_OR c25a
  have F_withBothFalse_w_NOT_EQUAL := own_fldJ ev_NOT_EQUAL c27a
  have F_withRightTrue_w_NOT_EQUAL := own_fldJ ev_NOT_EQUAL c28a
  have F_withLeftTrue_w_NOT_EQUAL := own_fldJ ev_NOT_EQUAL c29a
  have F_withBothTrue_w_NOT_EQUAL := own_fldJ ev_NOT_EQUAL c29b
  obtain ⟨n, o, h1, h2, h3, _, L, rfl, ⟨rfl, N, -⟩, hq⟩ := rm0 l s _ hw tables_1 i0 i1 i2 (-1 : Int64) (-1 : Int64) (0 : Int64) (-1 : Int64) (0 : Int64) (-1 : Int64) (-1 : Int64) (-1 : Int64) (0 : Int64) (-1 : Int64) (-1 : Int64) (0 : Int64) (0 : Int64) (0 : Int64) (0 : Int64) (-1 : Int64) (-1 : Int64) (0 : Int64) (0 : Int64) (-1 : Int64) (0 : Int64) (-1 : Int64) (-1 : Int64) (0 : Int64) w_IMPLIES w_OR w_XOR w_AND w_EQUAL w_NOT_EQUAL s.heap s.heap.size (Old.start s) E_w_IMPLIES F_withBothFalse_w_IMPLIES F_withRightTrue_w_IMPLIES F_withLeftTrue_w_IMPLIES F_withBothTrue_w_IMPLIES E_w_OR F_withBothFalse_w_OR F_withRightTrue_w_OR F_withLeftTrue_w_OR F_withBothTrue_w_OR E_w_XOR F_withBothFalse_w_XOR F_withRightTrue_w_XOR F_withLeftTrue_w_XOR F_withBothTrue_w_XOR E_w_AND F_withBothFalse_w_AND F_withRightTrue_w_AND F_withLeftTrue_w_AND F_withBothTrue_w_AND E_w_EQUAL F_withBothFalse_w_EQUAL F_withRightTrue_w_EQUAL F_withLeftTrue_w_EQUAL F_withBothTrue_w_EQUAL E_w_NOT_EQUAL F_withBothFalse_w_NOT_EQUAL F_withRightTrue_w_NOT_EQUAL F_withLeftTrue_w_NOT_EQUAL F_withBothTrue_w_NOT_EQUAL S_IMPLIES S_OR S_XOR S_AND S_EQUAL S_NOT_EQUAL p e ha hc hk s m _ below hf ((Spec.applies_iff_loose hf).mp happ).1 ⟨rfl, State.Warmed39.refl s, rfl⟩ trivial
  have hone : F0 i0 i1 i2 (-1 : Int64) (-1 : Int64) (0 : Int64) (-1 : Int64) (0 : Int64) (-1 : Int64) (-1 : Int64) (-1 : Int64) (0 : Int64) (-1 : Int64) (-1 : Int64) (0 : Int64) (0 : Int64) (0 : Int64) (0 : Int64) (-1 : Int64) (-1 : Int64) (0 : Int64) (0 : Int64) (-1 : Int64) (0 : Int64) (-1 : Int64) (-1 : Int64) (0 : Int64) w_IMPLIES w_OR w_XOR w_AND w_EQUAL w_NOT_EQUAL = 1 := by simp only [F0, own_IMPLIES, own_OR, own_XOR, own_AND, own_EQUAL, own_NOT_EQUAL, ↓reduceIte, ite_self]
  refine ⟨n, _, h1, h2, h3, hpost _ _ _ _ _ _ ⟨Cond.after_iff.mpr rfl, Cond.after_iff.mpr (eq_i res_at (Term.int_eval (1)) (congrArg Value.int hone)), trivial⟩ ⟨hq.1, hq.2.1, (hq.2.2.sift fun y hy => Or.inr (N y hy)).mono (by decide) (by decide)⟩⟩
theorem main_1_1 : Claimed_1_1 := comes_1 fun _ _ _ _ _ _ h hF => ⟨h.1, hF⟩
theorem main_1_2 : Claimed_1_2 := comes_1 fun _ _ _ _ _ _ h hF => ⟨h.2.1, hF⟩
end Jvm.Pilot.@@N@@
namespace Jvm.Pilot.@@N@@
open Jvm Jvm.ClassFile Sem Op Lib Jvm.Free Jvm.Stand Jvm.Pilot.@@N@@.Jvm.D
/-! MADE BY PROGRAM (witnessworld.py) out of the Statement's table words and the real class files: 12 classes; the members and pool entries that the words name. The judged class is class 1, her method 1. -/
namespace start1
open Jvm.ClassFile
def u (s : String) : CpInfo := .utf8 (stringToUtf16 s)
/-- a pool by its gaps: so many unusable entries, then the entry; so many at the end -/
def gap : Nat → List CpInfo → List CpInfo
  | 0, r => r
  | n + 1, r => .unusable :: gap n r
def poolList (es : List (Nat × CpInfo)) (last : Nat) : List CpInfo := es.foldr (fun e r => gap e.1 (e.2 :: r)) (gap last [])
def pool (es : List (Nat × CpInfo)) (last : Nat) : Array CpInfo := ⟨poolList es last⟩
def fileOf (pool : Array CpInfo) (this : Nat) (attrs : Array Attribute := #[]) (ms : Array MethodInfo := #[]) (fl : Nat := 33) (sup : Nat := 0) (ifs : Array Nat := #[]) (fds : Array FieldInfo := #[]) : ClassFile where
  minorVersion := 0
  majorVersion := 65
  constantPool := pool
  accessFlags := fl
  thisClass := this
  superClass := sup
  interfaces := ifs
  fields := fds
  methods := ms
  attributes := attrs
def plain (name : String) (sup : Option ClassId) : Class where
  name := name
  kind := .ordinary
  loader := none
  accessFlags := 33
  super := sup
  interfaces := #[]
  cf := none
  fields := #[]
  methods := #[]
  instanceTypes := #[]
  staticTypes := #[]
  resolved := #[]
  callSites := []
  init := .initialized
  statics := none
  mirror := none

def pool0 : Array CpInfo := pool [(5, u "<init>"), (0, u "()V"), (1, .class_ 10), (1, u "java/lang/Object")] 113

def k0m0 : Method := { name := "<init>", desc := "()V", sig := { parameters := [], returnType := none }, accessFlags := 1, code := none }
/-- java/lang/Object -/
def k0 : Class := { plain "java/lang/Object" none with
  accessFlags := 33
  interfaces := #[]
  cf := some (fileOf pool0 8 #[] #[{ accessFlags := 1, nameIndex := 5, descriptorIndex := 6, attributes := #[] }] 33 0 #[] #[])
  fields := #[]
  methods := #[k0m0]
  instanceTypes := #[]
  staticTypes := #[]
  resolved := Array.replicate 124 none
  statics := none }

def pool1 : Array CpInfo := pool [(2, .class_ 4), (1, u "java/lang/Object"), (0, u "<init>"), (0, u "()V"), (0, .integer 2147483647), (0, .fieldref 9 10), (0, .class_ 11), (0, .nameAndType 12 13), (0, u "com/example/verdikt/verdikt/model/BinaryOperator"), (0, u "IMPLIES"), (0, u "Lcom/example/verdikt/verdikt/model/BinaryOperator;"), (0, .long 18446744073709551615), (1, .fieldref 9 17), (0, .nameAndType 18 13), (0, u "OR"), (0, .fieldref 9 20), (0, .nameAndType 21 13), (0, u "XOR"), (0, .fieldref 9 23), (0, .nameAndType 24 13), (0, u "AND"), (0, .fieldref 9 26), (0, .nameAndType 27 13), (0, u "EQUAL"), (0, .fieldref 9 29), (0, .nameAndType 30 13), (0, u "NOT_EQUAL"), (0, .methodref 9 32), (0, .nameAndType 33 34), (0, u "apply"), (0, u "(JJ)J"), (0, .class_ 36), (0, u "com/example/verdikt/verdikt/model/BinaryOperatorApplyPinLaw"), (2, u "law"), (0, u "(IJJ)Z")] 3

def k1m0 : Method := { name := "<init>", desc := "()V", sig := { parameters := [], returnType := none }, accessFlags := 1, code := none }
def k1c1 : Code := { maxStack := 5, maxLocals := 9, code := code, exceptionTable := #[], attributes := #[] }
def k1m1 : Method := { name := "law", desc := "(IJJ)Z", sig := { parameters := [.int, .long, .long], returnType := some .boolean }, accessFlags := 9, code := some k1c1 }
/-- com/example/verdikt/verdikt/model/BinaryOperatorApplyPinLaw -/
def k1 : Class := { plain "com/example/verdikt/verdikt/model/BinaryOperatorApplyPinLaw" (some 0) with
  accessFlags := 49
  interfaces := #[]
  cf := some (fileOf pool1 35 #[] #[{ accessFlags := 1, nameIndex := 5, descriptorIndex := 6, attributes := #[] }, { accessFlags := 9, nameIndex := 39, descriptorIndex := 40, attributes := #[] }] 49 2 #[] #[])
  fields := #[]
  methods := #[k1m0, k1m1]
  instanceTypes := #[]
  staticTypes := #[]
  resolved := Array.replicate 44 none
  statics := none }

def pool2 : Array CpInfo := pool [(1, .class_ 2), (0, u "java/lang/constant/Constable"), (0, .class_ 4), (0, u "java/lang/Object")] 6

/-- java/lang/constant/Constable -/
def k2 : Class := { plain "java/lang/constant/Constable" (some 0) with
  accessFlags := 1537
  interfaces := #[]
  cf := some (fileOf pool2 1 #[] #[] 1537 3 #[] #[])
  fields := #[]
  methods := #[]
  instanceTypes := #[]
  staticTypes := #[]
  resolved := Array.replicate 11 none
  statics := none }

def pool3 : Array CpInfo := pool [(1, .class_ 2), (0, u "java/lang/Comparable"), (0, .class_ 4), (0, u "java/lang/Object")] 7

/-- java/lang/Comparable -/
def k3 : Class := { plain "java/lang/Comparable" (some 0) with
  accessFlags := 1537
  interfaces := #[]
  cf := some (fileOf pool3 1 #[] #[] 1537 3 #[] #[])
  fields := #[]
  methods := #[]
  instanceTypes := #[]
  staticTypes := #[]
  resolved := Array.replicate 12 none
  statics := none }

def pool4 : Array CpInfo := pool [(1, .class_ 2), (0, u "java/io/Serializable"), (0, .class_ 4), (0, u "java/lang/Object")] 2

/-- java/io/Serializable -/
def k4 : Class := { plain "java/io/Serializable" (some 0) with
  accessFlags := 1537
  interfaces := #[]
  cf := some (fileOf pool4 1 #[] #[] 1537 3 #[] #[])
  fields := #[]
  methods := #[]
  instanceTypes := #[]
  staticTypes := #[]
  resolved := Array.replicate 7 none
  statics := none }

def pool5 : Array CpInfo := pool [(2, .class_ 4), (1, u "java/lang/Enum"), (0, u "name"), (0, u "Ljava/lang/String;"), (2, u "ordinal"), (0, u "I"), (1, .class_ 14), (1, u "java/lang/Object"), (4, u "hash"), (86, .class_ 108), (1, u "java/lang/Enum$EnumDesc"), (2, .class_ 112), (0, u "java/lang/constant/Constable"), (0, .class_ 114), (0, u "java/lang/Comparable"), (0, .class_ 116), (0, u "java/io/Serializable")] 87

/-- java/lang/Enum -/
def k5 : Class := { plain "java/lang/Enum" (some 0) with
  accessFlags := 1057
  interfaces := #[2, 3, 4]
  cf := some (fileOf pool5 2 #[.nestMembers #[106]] #[] 1057 12 #[111, 113, 115] #[{ accessFlags := 18, nameIndex := 5, descriptorIndex := 6, attributes := #[] }, { accessFlags := 18, nameIndex := 9, descriptorIndex := 10, attributes := #[] }, { accessFlags := 2, nameIndex := 19, descriptorIndex := 10, attributes := #[] }])
  fields := #[{ name := "name", type := (.object "java/lang/String"), accessFlags := 18, slot := 0, constantValue := 0 }, { name := "ordinal", type := .int, accessFlags := 18, slot := 1, constantValue := 0 }, { name := "hash", type := .int, accessFlags := 2, slot := 2, constantValue := 0 }]
  methods := #[]
  instanceTypes := #[(.object "java/lang/String"), .int, .int]
  staticTypes := #[]
  resolved := Array.replicate 204 none
  statics := none }

def pool6 : Array CpInfo := pool [(1, .class_ 2), (0, u "com/example/verdikt/verdikt/model/BinaryOperator"), (2, u "IMPLIES"), (0, u "Lcom/example/verdikt/verdikt/model/BinaryOperator;"), (2, u "OR"), (2, u "XOR"), (2, u "AND"), (2, u "EQUAL"), (2, u "NOT_EQUAL"), (2, u "$VALUES"), (0, u "[Lcom/example/verdikt/verdikt/model/BinaryOperator;"), (6, .class_ 34), (1, u "java/lang/Enum"), (17, .long 18446744073709551615), (1, .fieldref 1 55), (0, .nameAndType 56 57), (0, u "withBothFalse"), (0, u "J"), (0, .fieldref 1 59), (0, .nameAndType 60 57), (0, u "withRightTrue"), (0, .fieldref 1 62), (0, .nameAndType 63 57), (0, u "withLeftTrue"), (0, .fieldref 1 65), (0, .nameAndType 66 57), (0, u "withBothTrue"), (2, u "settling"), (0, u "I"), (2, u "settlingFromRight"), (2, u "apply"), (0, u "(JJ)J")] 85

def k6c0 : Code := { maxStack := 8, maxLocals := 5, code := prog_67_method_4_code, exceptionTable := #[], attributes := #[] }
def k6m0 : Method := { name := "apply", desc := "(JJ)J", sig := { parameters := [.long, .long], returnType := some .long }, accessFlags := 1, code := some k6c0 }
/-- com/example/verdikt/verdikt/model/BinaryOperator -/
def k6 : Class := { plain "com/example/verdikt/verdikt/model/BinaryOperator" (some 5) with
  accessFlags := 16433
  interfaces := #[]
  cf := some (fileOf pool6 1 #[] #[{ accessFlags := 1, nameIndex := 76, descriptorIndex := 77, attributes := #[] }] 16433 32 #[] #[{ accessFlags := 16409, nameIndex := 5, descriptorIndex := 6, attributes := #[] }, { accessFlags := 16409, nameIndex := 9, descriptorIndex := 6, attributes := #[] }, { accessFlags := 16409, nameIndex := 12, descriptorIndex := 6, attributes := #[] }, { accessFlags := 16409, nameIndex := 15, descriptorIndex := 6, attributes := #[] }, { accessFlags := 16409, nameIndex := 18, descriptorIndex := 6, attributes := #[] }, { accessFlags := 16409, nameIndex := 21, descriptorIndex := 6, attributes := #[] }, { accessFlags := 18, nameIndex := 56, descriptorIndex := 57, attributes := #[] }, { accessFlags := 18, nameIndex := 60, descriptorIndex := 57, attributes := #[] }, { accessFlags := 18, nameIndex := 63, descriptorIndex := 57, attributes := #[] }, { accessFlags := 18, nameIndex := 66, descriptorIndex := 57, attributes := #[] }, { accessFlags := 18, nameIndex := 69, descriptorIndex := 70, attributes := #[] }, { accessFlags := 18, nameIndex := 73, descriptorIndex := 70, attributes := #[] }, { accessFlags := 4122, nameIndex := 24, descriptorIndex := 25, attributes := #[] }])
  fields := #[{ name := "IMPLIES", type := (.object "com/example/verdikt/verdikt/model/BinaryOperator"), accessFlags := 16409, slot := 0, constantValue := 0 }, { name := "OR", type := (.object "com/example/verdikt/verdikt/model/BinaryOperator"), accessFlags := 16409, slot := 1, constantValue := 0 }, { name := "XOR", type := (.object "com/example/verdikt/verdikt/model/BinaryOperator"), accessFlags := 16409, slot := 2, constantValue := 0 }, { name := "AND", type := (.object "com/example/verdikt/verdikt/model/BinaryOperator"), accessFlags := 16409, slot := 3, constantValue := 0 }, { name := "EQUAL", type := (.object "com/example/verdikt/verdikt/model/BinaryOperator"), accessFlags := 16409, slot := 4, constantValue := 0 }, { name := "NOT_EQUAL", type := (.object "com/example/verdikt/verdikt/model/BinaryOperator"), accessFlags := 16409, slot := 5, constantValue := 0 }, { name := "withBothFalse", type := .long, accessFlags := 18, slot := 3, constantValue := 0 }, { name := "withRightTrue", type := .long, accessFlags := 18, slot := 4, constantValue := 0 }, { name := "withLeftTrue", type := .long, accessFlags := 18, slot := 5, constantValue := 0 }, { name := "withBothTrue", type := .long, accessFlags := 18, slot := 6, constantValue := 0 }, { name := "settling", type := .int, accessFlags := 18, slot := 7, constantValue := 0 }, { name := "settlingFromRight", type := .int, accessFlags := 18, slot := 8, constantValue := 0 }, { name := "$VALUES", type := (.array (.object "com/example/verdikt/verdikt/model/BinaryOperator")), accessFlags := 4122, slot := 6, constantValue := 0 }]
  methods := #[k6m0]
  instanceTypes := #[(.object "java/lang/String"), .int, .int, .long, .long, .long, .long, .int, .int]
  staticTypes := #[(.object "com/example/verdikt/verdikt/model/BinaryOperator"), (.object "com/example/verdikt/verdikt/model/BinaryOperator"), (.object "com/example/verdikt/verdikt/model/BinaryOperator"), (.object "com/example/verdikt/verdikt/model/BinaryOperator"), (.object "com/example/verdikt/verdikt/model/BinaryOperator"), (.object "com/example/verdikt/verdikt/model/BinaryOperator"), (.array (.object "com/example/verdikt/verdikt/model/BinaryOperator"))]
  resolved := Array.replicate 163 none
  statics := some 0 }

def pool7 : Array CpInfo := pool [(1, u "java/lang/Cloneable"), (0, .class_ 1), (0, u "java/lang/Object"), (0, .class_ 3)] 3

/-- java/lang/Cloneable -/
def k7 : Class := { plain "java/lang/Cloneable" (some 0) with
  accessFlags := 1537
  interfaces := #[]
  cf := some (fileOf pool7 2 #[] #[] 1537 4 #[] #[])
  fields := #[]
  methods := #[]
  instanceTypes := #[]
  staticTypes := #[]
  resolved := Array.replicate 8 none
  statics := none }

/-- the primitive byte -/
def k8 : Class := { plain "byte" none with kind := .primitive 'B', accessFlags := 0x411 }
/-- [B -/
def k9 : Class := { plain "[B" (some 0) with kind := .array 8 .byte, interfaces := #[7, 4], accessFlags := 1041 }

/-- the primitive int -/
def k10 : Class := { plain "int" none with kind := .primitive 'I', accessFlags := 0x411 }
/-- [I -/
def k11 : Class := { plain "[I" (some 0) with kind := .array 10 .int, interfaces := #[7, 4], accessFlags := 1041 }

def heap : Heap := #[{ cls := 6, slots := #[.ref 1, .ref 5, .ref 4, .ref 3, .ref 2, .ref 6, .null], vm := .statics 6 },
  { cls := 6, slots := #[.null, .int 0, .int 0, .long (-1), .long (-1), .long 0, .long (-1), .int 0, .int 0], vm := .none },
  { cls := 6, slots := #[.null, .int 0, .int 0, .long (-1), .long 0, .long 0, .long (-1), .int 0, .int 0], vm := .none },
  { cls := 6, slots := #[.null, .int 0, .int 0, .long 0, .long 0, .long 0, .long (-1), .int 0, .int 0], vm := .none },
  { cls := 6, slots := #[.null, .int 0, .int 0, .long 0, .long (-1), .long (-1), .long 0, .int 0, .int 0], vm := .none },
  { cls := 6, slots := #[.null, .int 0, .int 0, .long 0, .long (-1), .long (-1), .long (-1), .int 0, .int 0], vm := .none },
  { cls := 6, slots := #[.null, .int 0, .int 0, .long 0, .long (-1), .long (-1), .long 0, .int 0, .int 0], vm := .none }]
def classes : Array Class := #[k0, k1, k2, k3, k4, k5, k6, k7, k8, k9, k10, k11]
def interned : List (Array UInt16 × Addr) := []
def slotsUsed : Nat := 61
def theMethod : MethodId := ⟨1, 1⟩
def args0 : Array Value := #[.int 5, .long 300, .long (-7)]
def aboutOver (below : List Frame) : State where
  vm := { classes := classes, interned := interned.toArray }
  heap := heap
  slotsUsed := slotsUsed
  threads := #[{ frames := .invoking theMethod args0 :: below }]
def below0 : List Frame := [.native { method := ⟨0, 0⟩, args := #[] }]
def about1 : State := aboutOver below0
def p0 : Program := .bare "" "" ""
def e0 : Env := launch0.env 0 0 0
theorem w_frames : about1.frames = Frame.invoking theMethod args0 :: below0 := rfl
set_option maxRecDepth 65536 in
theorem w_args : argsFit about1.vm theMethod args0 = true := by decide +kernel
set_option maxRecDepth 65536 in
theorem w_heap : heapFits about1 = true := by decide +kernel
set_option maxRecDepth 65536 in
theorem w_runnable : about1.curStatus? = some .runnable := by decide +kernel
set_option maxRecDepth 65536 in
theorem w_alone : about1.alone = true := by decide +kernel
set_option maxRecDepth 65536 in
theorem w_named : about1.methodNamed? x = some theMethod := by decide +kernel
set_option maxRecDepth 65536 in
theorem w_hears : about1.hears theMethod below0 = true := by decide +kernel
set_option maxRecDepth 65536 in
theorem w_ripe : about1.ripe theMethod args0 below0 = true := by decide +kernel
theorem w_running : about1.status = .running := rfl
set_option maxRecDepth 65536 in
theorem w_room : about1.hasRoom e0.platform room_1 = true :=
  launch0.hasRoom_least _ room_1 (by decide +kernel) (by decide +kernel) (by decide +kernel) (by decide +kernel) (by decide +kernel) (by decide +kernel)
theorem allAtoms_all (ts : List Jvm.Cond) (a : Array Jvm.Value) (st : Jvm.State) : (allAtoms ts).before a st = ts.all (fun c => c.before a st) := by
  induction ts with
  | nil => rfl
  | cons c t ih =>
    show (Jvm.Cond.and c (allAtoms t)).before a st = _
    rw [Jvm.Cond.before_and, ih, List.all_cons]
def words1 : List Jvm.Cond := Jvm.Cond.code x code maxLocals ret :: tables_1
/-- a 'code' word, met by the world's own term for the bytes: nothing is compared byte by byte -/
theorem code_word {y : MethodName} {bytes : ByteArray} {mx : Nat} {rt : Option FieldType} {a : Array Value} {s : State} {m : MethodId} {meth : Method} {c : Code} (h1 : s.methodNamed? y = some m) (h2 : s.vm.method? m = some meth) (h3 : meth.code = some c) (h4 : c.code = bytes)
    (h5 : (c.maxLocals == mx && c.exceptionTable.isEmpty && decide (c.maxStack ≤ mostOperands) && decide (meth.sig.returnType = rt) && !meth.locks && decide (parseMethodDescriptor y.desc = some meth.sig)) = true) : (Jvm.Cond.code y bytes mx rt).before a s = true := by
  simp only [Bool.and_eq_true, beq_iff_eq, Bool.not_eq_true', decide_eq_true_eq] at h5
  obtain ⟨⟨⟨⟨⟨g1, g2⟩, g3⟩, g4⟩, g5⟩, g6⟩ := h5
  simp [Cond.before, Cond.holds, Cond.value, h1, h2, h3, h4, g1, g2, g3, g4, g5, g6]
def isCode : Jvm.Cond → Bool
  | .code _ _ _ _ => true
  | _ => false
theorem all_split {L : List Jvm.Cond} {P : Jvm.Cond → Bool} (h1 : L.all (fun c => isCode c || P c) = true) (h2 : ∀ c ∈ L.filter isCode, P c = true) : L.all P = true := by
  refine List.all_eq_true.mpr fun c hc => ?_
  have h := List.all_eq_true.mp h1 c hc
  rcases Bool.eq_false_or_eq_true (isCode c) with hi | hi
  · exact h2 c (List.mem_filter.mpr ⟨hc, hi⟩)
  · simpa [hi] using h
set_option maxRecDepth 65536 in
theorem w_c0 : (Jvm.Cond.code x code maxLocals ret).before args0 about1 = true := code_word (m := ⟨1, 1⟩) (meth := k1m1) (c := k1c1) (by decide +kernel) rfl rfl rfl (by decide +kernel)
set_option maxRecDepth 65536 in
theorem w_c1 : (Jvm.Cond.code ({ cls := "com/example/verdikt/verdikt/model/BinaryOperator", name := "apply", desc := "(JJ)J" } : Jvm.MethodName) prog_67_method_4_code (5 : Nat) (Option.some Jvm.ClassFile.FieldType.long)).before args0 about1 = true := code_word (m := ⟨6, 0⟩) (meth := k6m0) (c := k6c0) (by decide +kernel) rfl rfl rfl (by decide +kernel)
def codes1 : List Jvm.Cond := [Jvm.Cond.code x code maxLocals ret, Jvm.Cond.code ({ cls := "com/example/verdikt/verdikt/model/BinaryOperator", name := "apply", desc := "(JJ)J" } : Jvm.MethodName) prog_67_method_4_code (5 : Nat) (Option.some Jvm.ClassFile.FieldType.long)]
set_option maxRecDepth 65536 in
theorem codes_eq : words1.filter isCode = codes1 := rfl
theorem w_codes : ∀ c ∈ words1.filter isCode, c.before args0 about1 = true := by
  rw [codes_eq]
  intro c hc
  simp only [codes1, List.mem_cons, List.not_mem_nil, or_false] at hc
  rcases hc with rfl | rfl
  · exact w_c0
  · exact w_c1
set_option maxRecDepth 65536 in
theorem w_t1 : (words1.take 24).all (fun c => isCode c || c.before args0 about1) = true := by decide +kernel
set_option maxRecDepth 65536 in
theorem w_t2 : (words1.drop 24).all (fun c => isCode c || c.before args0 about1) = true := by decide +kernel
theorem w_tables : (allAtoms (Jvm.Cond.code x code maxLocals ret :: tables_1)).before args0 about1 = true := by
  rw [allAtoms_all]
  show words1.all (fun c => c.before args0 about1) = true
  refine all_split ?_ w_codes
  rw [← List.take_append_drop 24 words1, List.all_append, w_t1, w_t2]
  rfl
set_option maxRecDepth 65536 in
theorem w_case : (Jvm.Cond.and given_1 narrow_1).before args0 about1 = true := by decide +kernel
theorem w_applies : (headSpec (Jvm.Cond.code x code maxLocals ret :: tables_1) room_1).applies x e0.platform about1 = true :=
  (Spec.applies_iff w_frames).mpr ⟨w_running, w_runnable, w_alone, w_named, w_hears, w_ripe, w_room, w_tables⟩
theorem atStart : AtStart classFile x code maxLocals ret World_1 tables_1 room_1 Calls_1 rest_1 Pre_1 launch0 p0 e0 about1 theMethod args0 below0 :=
  ⟨lists_1, trivial, launch0.admits_env _ _ _, launch0.least_env, fairChoices_fair.cas, fairChoices_fair.clock, w_frames, w_args, w_heap, w_applies, trivial, trivial, w_case⟩
end start1
theorem witness_1 : WitnessClaimed_1 := ⟨start1.p0, start1.e0, start1.about1, start1.theMethod, start1.args0, start1.below0, start1.atStart⟩
end Jvm.Pilot.@@N@@
