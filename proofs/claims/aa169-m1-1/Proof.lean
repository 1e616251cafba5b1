import JvmDerived
import JvmDerived.Pilot.@@N@@Statement
import JvmDerived.Pilot.@@N@@Code
set_option linter.unusedVariables false
set_option linter.unusedSimpArgs false
namespace Jvm.RoadKit
open Sem ClassFile Op Lib Jvm.Stand Jvm.Free Jvm.LawKit
section Own
variable {p : Program} {l : Launch} {e : Env} {R : Room} {s : State} {m : MethodId} {args : Array Value} {below : List Frame} {meth : Method} {c : Code} {T T' : State} {locs : List Loc} {cells slots kc ks : Nat} {Q : Option Value → Heap → List Loc → Prop} {g g' : JFrame} {FE : Outcome → State → List Loc → Prop}
/-- from T with the frame g on top the body comes to its end: what it returns, the heap and the places written are as Q says; FE: the frame's own word of that end -/
def OFin (p : Program) (e : Env) (below : List Frame) (FE : Outcome → State → List Loc → Prop) (Q : Option Value → Heap → List Loc → Prop) (T : State) (g : JFrame) : Prop :=
  ∃ s₂ o, Steps p.tables e below (T.setTop g) s₂ ∧ s₂.status = .running ∧ Ended s₂ below o ∧ ∃ v L, o = .returned v ∧ Q v s₂.heap L ∧ FE o s₂ L
theorem OFin.st (st : ∀ target, Steps p.tables e below (T'.setTop g') target → Steps p.tables e below (T.setTop g) target) (h : OFin p e below FE Q T' g') : OFin p e below FE Q T g := by
  obtain ⟨s₂, o, h1, r⟩ := h; exact ⟨s₂, o, st _ h1, r⟩
theorem OFin.tr (st : Steps p.tables e below (T.setTop g) (T'.setTop g')) (h : OFin p e below FE Q T' g') : OFin p e below FE Q T g := h.st fun _ k => st.trans k
theorem OFin.cast (q : g = g') (h : OFin p e below FE Q T g') : OFin p e below FE Q T g := q ▸ h
/-- the end's frame: narrow (nothing interned), and wide (over the tables at hand) -/
theorem own_endN {v : Option Value} (hc : cells ≤ kc) (hs : slots ≤ ks) : ∀ fs : List Frame, s.WarmedH (T.setFrames fs).vm → s.sameButNew ({ T.setFrames fs with vm := s.vm } : State) locs cells slots → FrameEnd s (.returned v) (T.setFrames fs) locs kc ks :=
  fun fs hW h => ⟨⟨v, rfl⟩, hW, h.mono hc hs⟩
theorem own_endW {vm₁ : Vm} {n : Nat} {v : Option Value} (hS : s.Since vm₁ n) (hn : n ≤ T.heap.size) (hc : cells ≤ kc) (hs : slots ≤ ks) : ∀ fs : List Frame, (s.setVm vm₁).WarmedH (T.setFrames fs).vm → (s.setVm vm₁).sameButNew ({ T.setFrames fs with vm := vm₁ } : State) locs cells slots → ReturnedEndW s (.returned v) (T.setFrames fs) locs kc ks :=
  fun fs hW h => by
    obtain ⟨a, b, c'⟩ := hS.ended (U := T.setFrames fs) hW hn h
    exact ⟨⟨v, rfl⟩, a, b, c'.mono hc hs⟩
theorem own_retV (X : Stand p l e R s m args below meth c T locs cells slots) (hx : p.tables.exec = Jvm.exec) {pc : Nat} {Ls : Array Slot} (hret : meth.sig.returnType = none) (hlk : meth.locks = false) (hd : decode c.code pc = .ok (.return_, 1)) (hQ : Q none T.heap locs) (hE : ∀ fs : List Frame, s.WarmedH (T.setFrames fs).vm → s.sameButNew ({ T.setFrames fs with vm := s.vm } : State) locs cells slots → FE (.returned none) (T.setFrames fs) locs) : OFin p e below FE Q T (mkF m pc Ls []) := by
  obtain ⟨fs, hr, hrun, hended, hW, hsame⟩ := X.leave (v := none) (fun _ => rfl) hlk
  exact ⟨_, _, X.returnOut hx hret hd hr, hrun, hended, _, _, rfl, hQ, hE fs hW hsame⟩
theorem own_retI (X : Stand p l e R s m args below meth c T locs cells slots) (hx : p.tables.exec = Jvm.exec) {pc : Nat} {Ls : Array Slot} {z : Int32} {rest : List Value} (hret : meth.sig.returnType = some .int) (hlk : meth.locks = false) (hd : decode c.code pc = .ok (.ireturn, 1)) (hQ : Q (some (.int z)) T.heap locs) (hE : ∀ fs : List Frame, s.WarmedH (T.setFrames fs).vm → s.sameButNew ({ T.setFrames fs with vm := s.vm } : State) locs cells slots → FE (.returned (some (.int z))) (T.setFrames fs) locs) : OFin p e below FE Q T (mkF m pc Ls (.int z :: rest)) := by
  obtain ⟨fs, hr, hrun, hended, hW, hsame⟩ := X.leave (v := some (.int z)) (fun h => by rw [hret] at h; cases h) hlk
  exact ⟨_, _, retOut X hx hret rfl (Or.inl ⟨rfl, Or.inl rfl, z, rfl⟩) hd hr, hrun, hended, _, _, rfl, hQ, hE fs hW hsame⟩
theorem own_retN (X : Stand p l e R s m args below meth c T locs cells slots) (hx : p.tables.exec = Jvm.exec) {pc : Nat} {Ls : Array Slot} {z z' : Int32} {rest : List Value} {t : FieldType} (hret : meth.sig.returnType = some t) (hlk : meth.locks = false) (ht : t = .boolean ∨ t = .byte ∨ t = .char ∨ t = .short) (hz : nar t z = z') (hd : decode c.code pc = .ok (.ireturn, 1)) (hQ : Q (some (.int z')) T.heap locs) (hE : ∀ fs : List Frame, s.WarmedH (T.setFrames fs).vm → s.sameButNew ({ T.setFrames fs with vm := s.vm } : State) locs cells slots → FE (.returned (some (.int z'))) (T.setFrames fs) locs) : OFin p e below FE Q T (mkF m pc Ls (.int z :: rest)) := by
  subst hz
  obtain ⟨fs, hr, hrun, hended, hW, hsame⟩ := X.leave (v := some (.int (nar t z))) (fun h => by rw [hret] at h; cases h) hlk
  exact ⟨_, _, retN X hx hret ht hd hr, hrun, hended, _, _, rfl, hQ, hE fs hW hsame⟩
theorem own_retJ (X : Stand p l e R s m args below meth c T locs cells slots) (hx : p.tables.exec = Jvm.exec) {pc : Nat} {Ls : Array Slot} {z : Int64} {rest : List Value} (hret : meth.sig.returnType = some .long) (hlk : meth.locks = false) (hd : decode c.code pc = .ok (.lreturn, 1)) (hQ : Q (some (.long z)) T.heap locs) (hE : ∀ fs : List Frame, s.WarmedH (T.setFrames fs).vm → s.sameButNew ({ T.setFrames fs with vm := s.vm } : State) locs cells slots → FE (.returned (some (.long z))) (T.setFrames fs) locs) : OFin p e below FE Q T (mkF m pc Ls (.long z :: rest)) := by
  obtain ⟨fs, hr, hrun, hended, hW, hsame⟩ := X.leave (v := some (.long z)) (fun h => by rw [hret] at h; cases h) hlk
  exact ⟨_, _, retOut X hx hret rfl (Or.inr (Or.inl ⟨rfl, rfl, z, rfl⟩)) hd hr, hrun, hended, _, _, rfl, hQ, hE fs hW hsame⟩
theorem own_retR (X : Stand p l e R s m args below meth c T locs cells slots) (hx : p.tables.exec = Jvm.exec) {pc : Nat} {Ls : Array Slot} {w : Value} {t : FieldType} {rest : List Value} (hret : meth.sig.returnType = some t) (hlk : meth.locks = false) (ht : t.isReference = true) (hn : narrow t w = w) (hw : w.isRef = true) (hd : decode c.code pc = .ok (.areturn, 1)) (hQ : Q (some w) T.heap locs) (hE : ∀ fs : List Frame, s.WarmedH (T.setFrames fs).vm → s.sameButNew ({ T.setFrames fs with vm := s.vm } : State) locs cells slots → FE (.returned (some w)) (T.setFrames fs) locs) : OFin p e below FE Q T (mkF m pc Ls (w :: rest)) := by
  obtain ⟨fs, hr, hrun, hended, hW, hsame⟩ := X.leave (v := some w) (fun h => by rw [hret] at h; cases h) hlk
  exact ⟨_, _, retOut X hx hret hn (Or.inr (Or.inr (Or.inr (Or.inr ⟨rfl, ht, hw⟩)))) hd hr, hrun, hended, _, _, rfl, hQ, hE fs hW hsame⟩
end Own
end Jvm.RoadKit
namespace Jvm.RoadKit
open Sem ClassFile Op Lib Jvm.Stand Jvm.Free Jvm.LawKit
theorem own_fldI {args : Array Value} {s : State} {t : Term} {C n d : String} {a : Addr} {x : Int32} (ev : t.eval args s none [] s = some (.ref a)) (h : (Jvm.Cond.eq (Term.field t C n d) (Term.int x)).value args s none s [] = some true) : Fld s s.heap a C n d (.int x) := by
  obtain ⟨u, y, e1, e2, -, k2⟩ := cmp_v (Or.inl h)
  cases (Option.some.inj (e2.symm.trans (Term.int_eval x)) : y = .int x)
  obtain ⟨z, rfl⟩ := k2
  have q : z = x := by simpa [Jvm.Cond.value, e1, e2] using h
  subst q
  exact Fld.start ((fld_at ev).symm.trans e1)
theorem own_fldJ {args : Array Value} {s : State} {t : Term} {C n d : String} {a : Addr} {x : Int64} (ev : t.eval args s none [] s = some (.ref a)) (h : (Jvm.Cond.eq (Term.field t C n d) (Term.long x)).value args s none s [] = some true) : Fld s s.heap a C n d (.long x) := by
  obtain ⟨u, y, e1, e2, -, k2⟩ := cmp_v (Or.inl h)
  cases (Option.some.inj (e2.symm.trans (long_at x)) : y = .long x)
  obtain ⟨z, rfl⟩ := k2
  have q : z = x := by simpa [Jvm.Cond.value, e1, e2] using h
  subst q
  exact Fld.start ((fld_at ev).symm.trans e1)
end Jvm.RoadKit
namespace Jvm.RoadKit
theorem own_ite {α : Sort _} {P : α → Prop} {c : Prop} [Decidable c] {a b : α} (ha : P a) (hb : P b) : P (if c then a else b) := by split <;> assumption
theorem own_ite2 {α β : Sort _} {P : α → β → Prop} {c : Prop} [Decidable c] {a b : α} {a' b' : β} (ha : P a a') (hb : P b b') : P (if c then a else b) (if c then a' else b') := by split <;> assumption
/-- (x &&& 0x7fffffff) % d lies between 0 and d -/
theorem own_rem (x d : Int32) (n : Int) (hn : d.toInt = n) (h0 : 0 < n) : 0 ≤ ((x &&& (2147483647 : Int32)) % d).toInt ∧ ((x &&& (2147483647 : Int32)) % d).toInt < n := by
  have h1 := c_mask x (2147483647 : Int32) 31 (by decide) (by decide)
  have h2 := (c_irem (x &&& (2147483647 : Int32)) d n hn).1 (by rw [h1]; omega)
  rw [h2, h1]
  exact ⟨Int.emod_nonneg _ (by omega), Int.emod_lt_of_pos _ h0⟩
end Jvm.RoadKit
namespace Jvm.RoadKit
open Sem ClassFile Op Lib Jvm.Stand Jvm.Free Jvm.LawKit
theorem own_lremM {p : Program} {l : Launch} {e : Env} {R : Room} {s : State} {m : MethodId} {args : Array Value} {below : List Frame} {meth : Method} {c : Code} {T : State} {locs : List Loc} {cells slots : Nat} {g : JFrame} {target : State} (X : Stand p l e R s m args below meth c T locs cells slots) (hx : p.tables.exec = Jvm.exec) (hg : g.method = m) {x y : Int64} {rest : List Value} (hd : decode c.code g.pc = .ok (.lrem, 1)) (hs : g.stack = .long y :: .long x :: rest) (hy : y ≠ 0)
    (hr : Steps p.tables e below (T.setTop { g with pc := g.pc + 1, stack := .long (x % y) :: rest }) target) : Steps p.tables e below (T.setTop g) target :=
  XS.lrem X.here hx hg hd hs hy (by rw [lrem_mod]; exact hr)
end Jvm.RoadKit
namespace Jvm.RoadKit
open Sem ClassFile Op Lib Jvm.Stand Jvm.Free Jvm.LawKit
theorem own_pop2L {p : Program} {l : Launch} {e : Env} {R : Room} {s : State} {m : MethodId} {args : Array Value} {below : List Frame} {meth : Method} {c : Code} {T : State} {locs : List Loc} {cells slots : Nat} {g : JFrame} {target : State} (X : Stand p l e R s m args below meth c T locs cells slots) (hx : p.tables.exec = Jvm.exec) (hg : g.method = m) {x : Int64} {rest : List Value} (hd : decode c.code g.pc = .ok (.pop2, 1)) (hs : g.stack = .long x :: rest)
    (hr : Steps p.tables e below (T.setTop { g with pc := g.pc + 1, stack := rest }) target) : Steps p.tables e below (T.setTop g) target := by
  subst hg
  jvm_step X.here [X.here.top, hx, hd, hs, Value.category]
  exact hr
end Jvm.RoadKit
namespace Jvm.Pilot.@@N@@
open Jvm Jvm.ClassFile Sem Op Lib Jvm.Free Jvm.Stand Jvm.LawKit Jvm.RoadKit Bundle Jvm.Pilot.@@N@@.Jvm.D
theorem d1_0 : decode method_2_code 0 = .ok (.iload_n 0, 1) := by decide +kernel
theorem d1_1 : decode method_2_code 1 = .ok (.ifCond .ne 7, 3) := by decide +kernel
theorem d1_4 : decode method_2_code 4 = .ok (.getstatic 7, 3) := by decide +kernel
theorem d1_7 : decode method_2_code 7 = .ok (.areturn, 1) := by decide +kernel
theorem d1_8 : decode method_2_code 8 = .ok (.iload_n 0, 1) := by decide +kernel
theorem d1_9 : decode method_2_code 9 = .ok (.iconst 1, 1) := by decide +kernel
theorem d1_10 : decode method_2_code 10 = .ok (.if_icmp .ne 7, 3) := by decide +kernel
theorem d1_13 : decode method_2_code 13 = .ok (.getstatic 13, 3) := by decide +kernel
theorem d1_16 : decode method_2_code 16 = .ok (.areturn, 1) := by decide +kernel
theorem d1_17 : decode method_2_code 17 = .ok (.iload_n 0, 1) := by decide +kernel
theorem d1_18 : decode method_2_code 18 = .ok (.iconst 2, 1) := by decide +kernel
theorem d1_19 : decode method_2_code 19 = .ok (.if_icmp .ne 7, 3) := by decide +kernel
theorem d1_22 : decode method_2_code 22 = .ok (.getstatic 16, 3) := by decide +kernel
theorem d1_25 : decode method_2_code 25 = .ok (.areturn, 1) := by decide +kernel
theorem d1_26 : decode method_2_code 26 = .ok (.iload_n 0, 1) := by decide +kernel
theorem d1_27 : decode method_2_code 27 = .ok (.iconst 3, 1) := by decide +kernel
theorem d1_28 : decode method_2_code 28 = .ok (.if_icmp .ne 7, 3) := by decide +kernel
theorem d1_31 : decode method_2_code 31 = .ok (.getstatic 19, 3) := by decide +kernel
theorem d1_34 : decode method_2_code 34 = .ok (.areturn, 1) := by decide +kernel
theorem d1_35 : decode method_2_code 35 = .ok (.iload_n 0, 1) := by decide +kernel
theorem d1_36 : decode method_2_code 36 = .ok (.iconst 4, 1) := by decide +kernel
theorem d1_37 : decode method_2_code 37 = .ok (.if_icmp .ne 7, 3) := by decide +kernel
theorem d1_40 : decode method_2_code 40 = .ok (.getstatic 22, 3) := by decide +kernel
theorem d1_43 : decode method_2_code 43 = .ok (.areturn, 1) := by decide +kernel
theorem d1_44 : decode method_2_code 44 = .ok (.iload_n 0, 1) := by decide +kernel
theorem d1_45 : decode method_2_code 45 = .ok (.iconst 5, 1) := by decide +kernel
theorem d1_46 : decode method_2_code 46 = .ok (.if_icmp .ne 7, 3) := by decide +kernel
theorem d1_49 : decode method_2_code 49 = .ok (.getstatic 25, 3) := by decide +kernel
theorem d1_52 : decode method_2_code 52 = .ok (.areturn, 1) := by decide +kernel
theorem d1_53 : decode method_2_code 53 = .ok (.getstatic 28, 3) := by decide +kernel
theorem d1_56 : decode method_2_code 56 = .ok (.areturn, 1) := by decide +kernel
theorem pn_com_example_fillwire_fillwire_model_OrdStatusIsDonePinLaw : plainName "com/example/fillwire/fillwire/model/OrdStatusIsDonePinLaw" = true := by first | (simp [plainName, overriddenIn]; done) | decide +kernel
theorem d2_0 : decode prog_40_method_4_code 0 = .ok (.aload_n 0, 1) := by decide +kernel
theorem d2_1 : decode prog_40_method_4_code 1 = .ok (.getstatic 13, 3) := by decide +kernel
theorem d2_4 : decode prog_40_method_4_code 4 = .ok (.if_acmp .eq 24, 3) := by decide +kernel
theorem d2_28 : decode prog_40_method_4_code 28 = .ok (.iconst 1, 1) := by decide +kernel
theorem d2_29 : decode prog_40_method_4_code 29 = .ok (.goto 4, 3) := by decide +kernel
theorem d2_33 : decode prog_40_method_4_code 33 = .ok (.ireturn, 1) := by decide +kernel
theorem d2_7 : decode prog_40_method_4_code 7 = .ok (.aload_n 0, 1) := by decide +kernel
theorem d2_8 : decode prog_40_method_4_code 8 = .ok (.getstatic 16, 3) := by decide +kernel
theorem d2_11 : decode prog_40_method_4_code 11 = .ok (.if_acmp .eq 17, 3) := by decide +kernel
theorem d2_14 : decode prog_40_method_4_code 14 = .ok (.aload_n 0, 1) := by decide +kernel
theorem d2_15 : decode prog_40_method_4_code 15 = .ok (.getstatic 19, 3) := by decide +kernel
theorem d2_18 : decode prog_40_method_4_code 18 = .ok (.if_acmp .eq 10, 3) := by decide +kernel
theorem d2_21 : decode prog_40_method_4_code 21 = .ok (.aload_n 0, 1) := by decide +kernel
theorem d2_22 : decode prog_40_method_4_code 22 = .ok (.getstatic 22, 3) := by decide +kernel
theorem d2_25 : decode prog_40_method_4_code 25 = .ok (.if_acmp .ne 7, 3) := by decide +kernel
theorem d2_32 : decode prog_40_method_4_code 32 = .ok (.iconst 0, 1) := by decide +kernel
theorem pn_com_example_fillwire_fillwire_model_OrdStatus : plainName "com/example/fillwire/fillwire/model/OrdStatus" = true := by first | (simp [plainName, overriddenIn]; done) | decide +kernel
theorem pd_1 : parseMethodDescriptor "(I)Lcom/example/fillwire/fillwire/model/OrdStatus;" = some ⟨[.int], some (.object "com/example/fillwire/fillwire/model/OrdStatus")⟩ := by decide +kernel
theorem pd_0 : parseMethodDescriptor "()Z" = some ⟨[], some .boolean⟩ := by decide +kernel
theorem ef_rm1 (m : MethodId) (p0 : Int32) : entryFrame m #[(.int p0)] 1 = mkF m 0 #[.val (.int p0)] [] := by first | (simp [entryFrame, mkF, argsToLocals, Value.category]; done) | rfl
def F1 (p0 : Int32) (w_PENDING_NEW : Addr) (w_NEW : Addr) (w_PARTIALLY_FILLED : Addr) (w_FILLED : Addr) (w_CANCELED : Addr) (w_REJECTED : Addr) (w_EXPIRED : Addr) : Addr := if p0 = (0 : Int32) then w_PENDING_NEW else (if p0 = (1 : Int32) then w_NEW else (if p0 = (2 : Int32) then w_PARTIALLY_FILLED else (if p0 = (3 : Int32) then w_FILLED else (if p0 = (4 : Int32) then w_CANCELED else (if p0 = (5 : Int32) then w_REJECTED else w_EXPIRED)))))
def Q1 (p0 : Int32) (w_PENDING_NEW : Addr) (w_NEW : Addr) (w_PARTIALLY_FILLED : Addr) (w_FILLED : Addr) (w_CANCELED : Addr) (w_REJECTED : Addr) (w_EXPIRED : Addr) (h0 : Heap) (n0 : Nat) (v : Option Value) (h : Heap) (L : List Loc) : Prop := v = some (Value.ref (F1 p0 w_PENDING_NEW w_NEW w_PARTIALLY_FILLED w_FILLED w_CANCELED w_REJECTED w_EXPIRED)) ∧ Fr n0 L ∧ h = h0
set_option maxRecDepth 65536 in
set_option maxHeartbeats 40000000 in
theorem rm1 (l : Launch) (Z : State) (a0 : Array Value) (hw : ∀ d ∈ tables_1, d.before a0 Z = true) (ws : List Jvm.Cond) (p0 : Int32) (w_PENDING_NEW : Addr) (w_NEW : Addr) (w_PARTIALLY_FILLED : Addr) (w_FILLED : Addr) (w_CANCELED : Addr) (w_REJECTED : Addr) (w_EXPIRED : Addr) (h0 : Heap) (n0 : Nat) (O0 : Old Z n0 h0) (S_PENDING_NEW : Sta Z Z.heap "com/example/fillwire/fillwire/model/OrdStatus" "PENDING_NEW" "Lcom/example/fillwire/fillwire/model/OrdStatus;" (.ref w_PENDING_NEW)) (S_NEW : Sta Z Z.heap "com/example/fillwire/fillwire/model/OrdStatus" "NEW" "Lcom/example/fillwire/fillwire/model/OrdStatus;" (.ref w_NEW)) (S_PARTIALLY_FILLED : Sta Z Z.heap "com/example/fillwire/fillwire/model/OrdStatus" "PARTIALLY_FILLED" "Lcom/example/fillwire/fillwire/model/OrdStatus;" (.ref w_PARTIALLY_FILLED)) (S_FILLED : Sta Z Z.heap "com/example/fillwire/fillwire/model/OrdStatus" "FILLED" "Lcom/example/fillwire/fillwire/model/OrdStatus;" (.ref w_FILLED)) (S_CANCELED : Sta Z Z.heap "com/example/fillwire/fillwire/model/OrdStatus" "CANCELED" "Lcom/example/fillwire/fillwire/model/OrdStatus;" (.ref w_CANCELED)) (S_REJECTED : Sta Z Z.heap "com/example/fillwire/fillwire/model/OrdStatus" "REJECTED" "Lcom/example/fillwire/fillwire/model/OrdStatus;" (.ref w_REJECTED)) (S_EXPIRED : Sta Z Z.heap "com/example/fillwire/fillwire/model/OrdStatus" "EXPIRED" "Lcom/example/fillwire/fillwire/model/OrdStatus;" (.ref w_EXPIRED)) :
    MetFree l (⟨"com/example/fillwire/fillwire/model/OrdStatusIsDonePinLaw", "pick", "(I)Lcom/example/fillwire/fillwire/model/OrdStatus;"⟩ : MethodName) (head1 (Jvm.Cond.code (⟨"com/example/fillwire/fillwire/model/OrdStatusIsDonePinLaw", "pick", "(I)Lcom/example/fillwire/fillwire/model/OrdStatus;"⟩ : MethodName) method_2_code 1 (some (.object "com/example/fillwire/fillwire/model/OrdStatus")) :: ws) ({ frames := 0, cells := 0, slots := 0, locals := 0 } : Room)) (fun a U => a = #[(.int p0)] ∧ Z.Warmed39 U.vm ∧ U.heap = h0) (fun _ _ _ _ _ => True) (fun _ U o U' => ∃ v L, o = .returned v ∧ Q1 p0 w_PENDING_NEW w_NEW w_PARTIALLY_FILLED w_FILLED w_CANCELED w_REJECTED w_EXPIRED h0 n0 v U'.heap L ∧ FrameEnd U o U' L ({ frames := 0, cells := 0, slots := 0, locals := 0 } : Room).cells ({ frames := 0, cells := 0, slots := 0, locals := 0 } : Room).slots) := by
  refine MetFree.of_bodySF (plainFor_of_name pn_com_example_fillwire_fillwire_model_OrdStatusIsDonePinLaw) hisR ?_
  intro p e s m args below meth c s₁ Bd hml0 hP hK
  obtain ⟨rfl, hZ, hh⟩ := hP
  have hx := Bd.exec
  have hby := Bd.bytes
  have hml : c.maxLocals = 1 := hml0
  have hown : s.vm.findClass "com/example/fillwire/fillwire/model/OrdStatusIsDonePinLaw" = some m.cls := findClass_of_methodNamed Bd.named
  have hnm := (name_of_methodNamed Bd.named Bd.method).1
  have X0 : Stand p l e ({ frames := 0, cells := 0, slots := 0, locals := 0 } : Room) s m #[(.int p0)] below meth c s₁ [] 0 0 := Stand.of_body Bd
  have e0 : s₁.heap = h0 := by rw [← hh, Bd.state]; rfl
  have N0 := Fr.nil n0
  show OFin p e below (fun o t L => FrameEnd s o t L ({ frames := 0, cells := 0, slots := 0, locals := 0 } : Room).cells ({ frames := 0, cells := 0, slots := 0, locals := 0 } : Room).slots) (fun v h L => Q1 p0 w_PENDING_NEW w_NEW w_PARTIALLY_FILLED w_FILLED w_CANCELED w_REJECTED w_EXPIRED h0 n0 v h L) s₁ (entryFrame m #[(.int p0)] 1)
  refine OFin.cast (ef_rm1 m p0) ?_
  show OFin p e below _ _ s₁ (mkF m 0 #[.val (.int p0)] [])
  refine OFin.st (fun t k => XS.iloadN X0.here hx rfl (hb hby d1_0) rfl k) ?_
  show OFin p e below _ _ s₁ (mkF m 1 #[.val (.int p0)] [(.int p0)])
  by_cases hc1 : p0 = (0 : Int32)
  · refine OFin.st (fun t k => XS.ifNo X0.here hx rfl (hb hby d1_1) rfl ((if0 _ _).trans (teq hc1).2) k) ?_
    show OFin p e below _ _ s₁ (mkF m 4 #[.val (.int p0)] [])
    obtain ⟨T1, X1, e1, st1⟩ := getS2 X0 hx hZ hown (host := "") (Or.inl (hw _ (List.mem_of_getElem? (i := 5) rfl))) Via.refl e0 (S_PENDING_NEW.ext O0.2) (g := (mkF m 4 #[.val (.int p0)] [])) rfl (hb hby d1_4)
    refine OFin.st st1 ?_
    show OFin p e below _ _ T1 (mkF m 7 #[.val (.int p0)] [(.ref w_PENDING_NEW)])
    exact own_retR X1 hx Bd.returns Bd.notSynchronized rfl rfl rfl (hb hby d1_7) ⟨(by rw [F1, if_pos hc1]; try rfl), N0, e1⟩ (own_endN (by decide) (by decide))
  · refine OFin.st (fun t k => XS.ifYes X0.here hx rfl (pc0 := 1) (pc' := 8) rfl (hb hby d1_1) rfl ((if0 _ _).trans (feq hc1).2) (by decide) (by decide) k) ?_
    show OFin p e below _ _ s₁ (mkF m 8 #[.val (.int p0)] [])
    refine OFin.st (fun t k => XS.iloadN X0.here hx rfl (hb hby d1_8) rfl k) ?_
    show OFin p e below _ _ s₁ (mkF m 9 #[.val (.int p0)] [(.int p0)])
    refine OFin.st (fun t k => XS.iconst X0.here hx rfl (hb hby d1_9) k) ?_
    show OFin p e below _ _ s₁ (mkF m 10 #[.val (.int p0)] [(.int (1 : Int32)), (.int p0)])
    by_cases hc10 : p0 = (1 : Int32)
    · refine OFin.st (fun t k => XS.icmpNo X0.here hx rfl (hb hby d1_10) rfl (teq hc10).2 k) ?_
      show OFin p e below _ _ s₁ (mkF m 13 #[.val (.int p0)] [])
      obtain ⟨T2, X2, e2, st2⟩ := getS2 X0 hx hZ hown (host := "") (Or.inl (hw _ (List.mem_of_getElem? (i := 27) rfl))) Via.refl e0 (S_NEW.ext O0.2) (g := (mkF m 13 #[.val (.int p0)] [])) rfl (hb hby d1_13)
      refine OFin.st st2 ?_
      show OFin p e below _ _ T2 (mkF m 16 #[.val (.int p0)] [(.ref w_NEW)])
      exact own_retR X2 hx Bd.returns Bd.notSynchronized rfl rfl rfl (hb hby d1_16) ⟨(by rw [F1, if_neg hc1, if_pos hc10]; try rfl), N0, e2⟩ (own_endN (by decide) (by decide))
    · refine OFin.st (fun t k => XS.icmpYes X0.here hx rfl (pc0 := 10) (pc' := 17) rfl (hb hby d1_10) rfl (feq hc10).2 (by decide) (by decide) k) ?_
      show OFin p e below _ _ s₁ (mkF m 17 #[.val (.int p0)] [])
      refine OFin.st (fun t k => XS.iloadN X0.here hx rfl (hb hby d1_17) rfl k) ?_
      show OFin p e below _ _ s₁ (mkF m 18 #[.val (.int p0)] [(.int p0)])
      refine OFin.st (fun t k => XS.iconst X0.here hx rfl (hb hby d1_18) k) ?_
      show OFin p e below _ _ s₁ (mkF m 19 #[.val (.int p0)] [(.int (2 : Int32)), (.int p0)])
      by_cases hc19 : p0 = (2 : Int32)
      · refine OFin.st (fun t k => XS.icmpNo X0.here hx rfl (hb hby d1_19) rfl (teq hc19).2 k) ?_
        show OFin p e below _ _ s₁ (mkF m 22 #[.val (.int p0)] [])
        obtain ⟨T3, X3, e3, st3⟩ := getS2 X0 hx hZ hown (host := "") (Or.inl (hw _ (List.mem_of_getElem? (i := 25) rfl))) Via.refl e0 (S_PARTIALLY_FILLED.ext O0.2) (g := (mkF m 22 #[.val (.int p0)] [])) rfl (hb hby d1_22)
        refine OFin.st st3 ?_
        show OFin p e below _ _ T3 (mkF m 25 #[.val (.int p0)] [(.ref w_PARTIALLY_FILLED)])
        exact own_retR X3 hx Bd.returns Bd.notSynchronized rfl rfl rfl (hb hby d1_25) ⟨(by rw [F1, if_neg hc1, if_neg hc10, if_pos hc19]; try rfl), N0, e3⟩ (own_endN (by decide) (by decide))
      · refine OFin.st (fun t k => XS.icmpYes X0.here hx rfl (pc0 := 19) (pc' := 26) rfl (hb hby d1_19) rfl (feq hc19).2 (by decide) (by decide) k) ?_
        show OFin p e below _ _ s₁ (mkF m 26 #[.val (.int p0)] [])
        refine OFin.st (fun t k => XS.iloadN X0.here hx rfl (hb hby d1_26) rfl k) ?_
        show OFin p e below _ _ s₁ (mkF m 27 #[.val (.int p0)] [(.int p0)])
        refine OFin.st (fun t k => XS.iconst X0.here hx rfl (hb hby d1_27) k) ?_
        show OFin p e below _ _ s₁ (mkF m 28 #[.val (.int p0)] [(.int (3 : Int32)), (.int p0)])
        by_cases hc28 : p0 = (3 : Int32)
        · refine OFin.st (fun t k => XS.icmpNo X0.here hx rfl (hb hby d1_28) rfl (teq hc28).2 k) ?_
          show OFin p e below _ _ s₁ (mkF m 31 #[.val (.int p0)] [])
          obtain ⟨T4, X4, e4, st4⟩ := getS2 X0 hx hZ hown (host := "") (Or.inl (hw _ (List.mem_of_getElem? (i := 21) rfl))) Via.refl e0 (S_FILLED.ext O0.2) (g := (mkF m 31 #[.val (.int p0)] [])) rfl (hb hby d1_31)
          refine OFin.st st4 ?_
          show OFin p e below _ _ T4 (mkF m 34 #[.val (.int p0)] [(.ref w_FILLED)])
          exact own_retR X4 hx Bd.returns Bd.notSynchronized rfl rfl rfl (hb hby d1_34) ⟨(by rw [F1, if_neg hc1, if_neg hc10, if_neg hc19, if_pos hc28]; try rfl), N0, e4⟩ (own_endN (by decide) (by decide))
        · refine OFin.st (fun t k => XS.icmpYes X0.here hx rfl (pc0 := 28) (pc' := 35) rfl (hb hby d1_28) rfl (feq hc28).2 (by decide) (by decide) k) ?_
          show OFin p e below _ _ s₁ (mkF m 35 #[.val (.int p0)] [])
          refine OFin.st (fun t k => XS.iloadN X0.here hx rfl (hb hby d1_35) rfl k) ?_
          show OFin p e below _ _ s₁ (mkF m 36 #[.val (.int p0)] [(.int p0)])
          refine OFin.st (fun t k => XS.iconst X0.here hx rfl (hb hby d1_36) k) ?_
          show OFin p e below _ _ s₁ (mkF m 37 #[.val (.int p0)] [(.int (4 : Int32)), (.int p0)])
          by_cases hc37 : p0 = (4 : Int32)
          · refine OFin.st (fun t k => XS.icmpNo X0.here hx rfl (hb hby d1_37) rfl (teq hc37).2 k) ?_
            show OFin p e below _ _ s₁ (mkF m 40 #[.val (.int p0)] [])
            obtain ⟨T5, X5, e5, st5⟩ := getS2 X0 hx hZ hown (host := "") (Or.inl (hw _ (List.mem_of_getElem? (i := 24) rfl))) Via.refl e0 (S_CANCELED.ext O0.2) (g := (mkF m 40 #[.val (.int p0)] [])) rfl (hb hby d1_40)
            refine OFin.st st5 ?_
            show OFin p e below _ _ T5 (mkF m 43 #[.val (.int p0)] [(.ref w_CANCELED)])
            exact own_retR X5 hx Bd.returns Bd.notSynchronized rfl rfl rfl (hb hby d1_43) ⟨(by rw [F1, if_neg hc1, if_neg hc10, if_neg hc19, if_neg hc28, if_pos hc37]; try rfl), N0, e5⟩ (own_endN (by decide) (by decide))
          · refine OFin.st (fun t k => XS.icmpYes X0.here hx rfl (pc0 := 37) (pc' := 44) rfl (hb hby d1_37) rfl (feq hc37).2 (by decide) (by decide) k) ?_
            show OFin p e below _ _ s₁ (mkF m 44 #[.val (.int p0)] [])
            refine OFin.st (fun t k => XS.iloadN X0.here hx rfl (hb hby d1_44) rfl k) ?_
            show OFin p e below _ _ s₁ (mkF m 45 #[.val (.int p0)] [(.int p0)])
            refine OFin.st (fun t k => XS.iconst X0.here hx rfl (hb hby d1_45) k) ?_
            show OFin p e below _ _ s₁ (mkF m 46 #[.val (.int p0)] [(.int (5 : Int32)), (.int p0)])
            by_cases hc46 : p0 = (5 : Int32)
            · refine OFin.st (fun t k => XS.icmpNo X0.here hx rfl (hb hby d1_46) rfl (teq hc46).2 k) ?_
              show OFin p e below _ _ s₁ (mkF m 49 #[.val (.int p0)] [])
              obtain ⟨T6, X6, e6, st6⟩ := getS2 X0 hx hZ hown (host := "") (Or.inl (hw _ (List.mem_of_getElem? (i := 22) rfl))) Via.refl e0 (S_REJECTED.ext O0.2) (g := (mkF m 49 #[.val (.int p0)] [])) rfl (hb hby d1_49)
              refine OFin.st st6 ?_
              show OFin p e below _ _ T6 (mkF m 52 #[.val (.int p0)] [(.ref w_REJECTED)])
              exact own_retR X6 hx Bd.returns Bd.notSynchronized rfl rfl rfl (hb hby d1_52) ⟨(by rw [F1, if_neg hc1, if_neg hc10, if_neg hc19, if_neg hc28, if_neg hc37, if_pos hc46]; try rfl), N0, e6⟩ (own_endN (by decide) (by decide))
            · refine OFin.st (fun t k => XS.icmpYes X0.here hx rfl (pc0 := 46) (pc' := 53) rfl (hb hby d1_46) rfl (feq hc46).2 (by decide) (by decide) k) ?_
              show OFin p e below _ _ s₁ (mkF m 53 #[.val (.int p0)] [])
              obtain ⟨T7, X7, e7, st7⟩ := getS2 X0 hx hZ hown (host := "") (Or.inl (hw _ (List.mem_of_getElem? (i := 23) rfl))) Via.refl e0 (S_EXPIRED.ext O0.2) (g := (mkF m 53 #[.val (.int p0)] [])) rfl (hb hby d1_53)
              refine OFin.st st7 ?_
              show OFin p e below _ _ T7 (mkF m 56 #[.val (.int p0)] [(.ref w_EXPIRED)])
              exact own_retR X7 hx Bd.returns Bd.notSynchronized rfl rfl rfl (hb hby d1_56) ⟨(by rw [F1, if_neg hc1, if_neg hc10, if_neg hc19, if_neg hc28, if_neg hc37, if_neg hc46]; try rfl), N0, e7⟩ (own_endN (by decide) (by decide))
theorem ef_rm2 (m : MethodId) (r0 : Addr) : entryFrame m #[(.ref r0)] 1 = mkF m 0 #[.val (.ref r0)] [] := by first | (simp [entryFrame, mkF, argsToLocals, Value.category]; done) | rfl
def F2 (r0 : Addr) (w_FILLED : Addr) (w_CANCELED : Addr) (w_REJECTED : Addr) (w_EXPIRED : Addr) : Int32 := if r0 = w_FILLED then (1 : Int32) else (if r0 = w_CANCELED then (1 : Int32) else (if r0 = w_REJECTED then (1 : Int32) else (if r0 = w_EXPIRED then (1 : Int32) else (0 : Int32))))
def Q2 (r0 : Addr) (w_FILLED : Addr) (w_CANCELED : Addr) (w_REJECTED : Addr) (w_EXPIRED : Addr) (h0 : Heap) (n0 : Nat) (v : Option Value) (h : Heap) (L : List Loc) : Prop := v = some (Value.int (F2 r0 w_FILLED w_CANCELED w_REJECTED w_EXPIRED)) ∧ Fr n0 L ∧ h = h0
set_option maxRecDepth 65536 in
set_option maxHeartbeats 40000000 in
theorem rm2 (l : Launch) (Z : State) (a0 : Array Value) (hw : ∀ d ∈ tables_1, d.before a0 Z = true) (ws : List Jvm.Cond) (r0 : Addr) (w_FILLED : Addr) (w_CANCELED : Addr) (w_REJECTED : Addr) (w_EXPIRED : Addr) (h0 : Heap) (n0 : Nat) (O0 : Old Z n0 h0) (S_FILLED : Sta Z Z.heap "com/example/fillwire/fillwire/model/OrdStatus" "FILLED" "Lcom/example/fillwire/fillwire/model/OrdStatus;" (.ref w_FILLED)) (S_CANCELED : Sta Z Z.heap "com/example/fillwire/fillwire/model/OrdStatus" "CANCELED" "Lcom/example/fillwire/fillwire/model/OrdStatus;" (.ref w_CANCELED)) (S_REJECTED : Sta Z Z.heap "com/example/fillwire/fillwire/model/OrdStatus" "REJECTED" "Lcom/example/fillwire/fillwire/model/OrdStatus;" (.ref w_REJECTED)) (S_EXPIRED : Sta Z Z.heap "com/example/fillwire/fillwire/model/OrdStatus" "EXPIRED" "Lcom/example/fillwire/fillwire/model/OrdStatus;" (.ref w_EXPIRED)) :
    MetFree l (⟨"com/example/fillwire/fillwire/model/OrdStatus", "isDone", "()Z"⟩ : MethodName) (head1 (Jvm.Cond.code (⟨"com/example/fillwire/fillwire/model/OrdStatus", "isDone", "()Z"⟩ : MethodName) prog_40_method_4_code 1 (some .boolean) :: ws) ({ frames := 0, cells := 0, slots := 0, locals := 0 } : Room)) (fun a U => a = #[(.ref r0)] ∧ Z.Warmed39 U.vm ∧ U.heap = h0) (fun _ _ _ _ _ => True) (fun _ U o U' => ∃ v L, o = .returned v ∧ Q2 r0 w_FILLED w_CANCELED w_REJECTED w_EXPIRED h0 n0 v U'.heap L ∧ FrameEnd U o U' L ({ frames := 0, cells := 0, slots := 0, locals := 0 } : Room).cells ({ frames := 0, cells := 0, slots := 0, locals := 0 } : Room).slots) := by
  refine MetFree.of_bodySF (plainFor_of_name pn_com_example_fillwire_fillwire_model_OrdStatus) hisR ?_
  intro p e s m args below meth c s₁ Bd hml0 hP hK
  obtain ⟨rfl, hZ, hh⟩ := hP
  have hx := Bd.exec
  have hby := Bd.bytes
  have hml : c.maxLocals = 1 := hml0
  have hown : s.vm.findClass "com/example/fillwire/fillwire/model/OrdStatus" = some m.cls := findClass_of_methodNamed Bd.named
  have hnm := (name_of_methodNamed Bd.named Bd.method).1
  have X0 : Stand p l e ({ frames := 0, cells := 0, slots := 0, locals := 0 } : Room) s m #[(.ref r0)] below meth c s₁ [] 0 0 := Stand.of_body Bd
  have e0 : s₁.heap = h0 := by rw [← hh, Bd.state]; rfl
  have N0 := Fr.nil n0
  show OFin p e below (fun o t L => FrameEnd s o t L ({ frames := 0, cells := 0, slots := 0, locals := 0 } : Room).cells ({ frames := 0, cells := 0, slots := 0, locals := 0 } : Room).slots) (fun v h L => Q2 r0 w_FILLED w_CANCELED w_REJECTED w_EXPIRED h0 n0 v h L) s₁ (entryFrame m #[(.ref r0)] 1)
  refine OFin.cast (ef_rm2 m r0) ?_
  show OFin p e below _ _ s₁ (mkF m 0 #[.val (.ref r0)] [])
  refine OFin.st (fun t k => XS.aloadN X0.here hx rfl (hb hby d2_0) rfl rfl k) ?_
  show OFin p e below _ _ s₁ (mkF m 1 #[.val (.ref r0)] [(.ref r0)])
  obtain ⟨T1, X1, e1, st1⟩ := getS2 X0 hx hZ hown (host := "") (Or.inl (hw _ (List.mem_of_getElem? (i := 13) rfl))) Via.refl e0 (S_FILLED.ext O0.2) (g := (mkF m 1 #[.val (.ref r0)] [(.ref r0)])) rfl (hb hby d2_1)
  refine OFin.st st1 ?_
  show OFin p e below _ _ T1 (mkF m 4 #[.val (.ref r0)] [(.ref w_FILLED), (.ref r0)])
  by_cases ha4 : r0 = w_FILLED
  · refine OFin.st (fun t k => Jvm.RoadKit.acmp (g := (mkF m 4 #[.val (.ref r0)] [(.ref w_FILLED), (.ref r0)])) X1 hx rfl rfl rfl (pc0 := 4) (pc' := 28) (same := true) rfl (hb hby d2_4) rfl (decide_eq_true (congrArg Value.ref ha4)) (by decide) (by decide) k) ?_
    show OFin p e below _ _ T1 (mkF m 28 #[.val (.ref r0)] [])
    refine OFin.st (fun t k => XS.iconst X1.here hx rfl (hb hby d2_28) k) ?_
    show OFin p e below _ _ T1 (mkF m 29 #[.val (.ref r0)] [(.int (1 : Int32))])
    refine OFin.st (fun t k => XS.goto X1.here hx rfl (pc0 := 29) (pc' := 33) rfl (hb hby d2_29) (by decide) (by decide) k) ?_
    show OFin p e below _ _ T1 (mkF m 33 #[.val (.ref r0)] [(.int (1 : Int32))])
    exact own_retN X1 hx Bd.returns Bd.notSynchronized (t := .boolean) (by simp) rfl (hb hby d2_33) ⟨(by rw [F2, if_pos ha4]; try rfl), N0, e1⟩ (own_endN (by decide) (by decide))
  · refine OFin.st (fun t k => Jvm.RoadKit.acmp (g := (mkF m 4 #[.val (.ref r0)] [(.ref w_FILLED), (.ref r0)])) X1 hx rfl rfl rfl (pc0 := 4) (pc' := 7) (same := false) rfl (hb hby d2_4) rfl (decide_eq_false fun q => ha4 (Value.ref.inj q)) (by decide) (by decide) k) ?_
    show OFin p e below _ _ T1 (mkF m 7 #[.val (.ref r0)] [])
    refine OFin.st (fun t k => XS.aloadN X1.here hx rfl (hb hby d2_7) rfl rfl k) ?_
    show OFin p e below _ _ T1 (mkF m 8 #[.val (.ref r0)] [(.ref r0)])
    obtain ⟨T2, X2, e2, st2⟩ := getS2 X1 hx hZ hown (host := "") (Or.inl (hw _ (List.mem_of_getElem? (i := 15) rfl))) Via.refl e1 (S_CANCELED.ext O0.2) (g := (mkF m 8 #[.val (.ref r0)] [(.ref r0)])) rfl (hb hby d2_8)
    refine OFin.st st2 ?_
    show OFin p e below _ _ T2 (mkF m 11 #[.val (.ref r0)] [(.ref w_CANCELED), (.ref r0)])
    by_cases ha11 : r0 = w_CANCELED
    · refine OFin.st (fun t k => Jvm.RoadKit.acmp (g := (mkF m 11 #[.val (.ref r0)] [(.ref w_CANCELED), (.ref r0)])) X2 hx rfl rfl rfl (pc0 := 11) (pc' := 28) (same := true) rfl (hb hby d2_11) rfl (decide_eq_true (congrArg Value.ref ha11)) (by decide) (by decide) k) ?_
      show OFin p e below _ _ T2 (mkF m 28 #[.val (.ref r0)] [])
      refine OFin.st (fun t k => XS.iconst X2.here hx rfl (hb hby d2_28) k) ?_
      show OFin p e below _ _ T2 (mkF m 29 #[.val (.ref r0)] [(.int (1 : Int32))])
      refine OFin.st (fun t k => XS.goto X2.here hx rfl (pc0 := 29) (pc' := 33) rfl (hb hby d2_29) (by decide) (by decide) k) ?_
      show OFin p e below _ _ T2 (mkF m 33 #[.val (.ref r0)] [(.int (1 : Int32))])
      exact own_retN X2 hx Bd.returns Bd.notSynchronized (t := .boolean) (by simp) rfl (hb hby d2_33) ⟨(by rw [F2, if_neg ha4, if_pos ha11]; try rfl), N0, e2⟩ (own_endN (by decide) (by decide))
    · refine OFin.st (fun t k => Jvm.RoadKit.acmp (g := (mkF m 11 #[.val (.ref r0)] [(.ref w_CANCELED), (.ref r0)])) X2 hx rfl rfl rfl (pc0 := 11) (pc' := 14) (same := false) rfl (hb hby d2_11) rfl (decide_eq_false fun q => ha11 (Value.ref.inj q)) (by decide) (by decide) k) ?_
      show OFin p e below _ _ T2 (mkF m 14 #[.val (.ref r0)] [])
      refine OFin.st (fun t k => XS.aloadN X2.here hx rfl (hb hby d2_14) rfl rfl k) ?_
      show OFin p e below _ _ T2 (mkF m 15 #[.val (.ref r0)] [(.ref r0)])
      obtain ⟨T3, X3, e3, st3⟩ := getS2 X2 hx hZ hown (host := "") (Or.inl (hw _ (List.mem_of_getElem? (i := 17) rfl))) Via.refl e2 (S_REJECTED.ext O0.2) (g := (mkF m 15 #[.val (.ref r0)] [(.ref r0)])) rfl (hb hby d2_15)
      refine OFin.st st3 ?_
      show OFin p e below _ _ T3 (mkF m 18 #[.val (.ref r0)] [(.ref w_REJECTED), (.ref r0)])
      by_cases ha18 : r0 = w_REJECTED
      · refine OFin.st (fun t k => Jvm.RoadKit.acmp (g := (mkF m 18 #[.val (.ref r0)] [(.ref w_REJECTED), (.ref r0)])) X3 hx rfl rfl rfl (pc0 := 18) (pc' := 28) (same := true) rfl (hb hby d2_18) rfl (decide_eq_true (congrArg Value.ref ha18)) (by decide) (by decide) k) ?_
        show OFin p e below _ _ T3 (mkF m 28 #[.val (.ref r0)] [])
        refine OFin.st (fun t k => XS.iconst X3.here hx rfl (hb hby d2_28) k) ?_
        show OFin p e below _ _ T3 (mkF m 29 #[.val (.ref r0)] [(.int (1 : Int32))])
        refine OFin.st (fun t k => XS.goto X3.here hx rfl (pc0 := 29) (pc' := 33) rfl (hb hby d2_29) (by decide) (by decide) k) ?_
        show OFin p e below _ _ T3 (mkF m 33 #[.val (.ref r0)] [(.int (1 : Int32))])
        exact own_retN X3 hx Bd.returns Bd.notSynchronized (t := .boolean) (by simp) rfl (hb hby d2_33) ⟨(by rw [F2, if_neg ha4, if_neg ha11, if_pos ha18]; try rfl), N0, e3⟩ (own_endN (by decide) (by decide))
      · refine OFin.st (fun t k => Jvm.RoadKit.acmp (g := (mkF m 18 #[.val (.ref r0)] [(.ref w_REJECTED), (.ref r0)])) X3 hx rfl rfl rfl (pc0 := 18) (pc' := 21) (same := false) rfl (hb hby d2_18) rfl (decide_eq_false fun q => ha18 (Value.ref.inj q)) (by decide) (by decide) k) ?_
        show OFin p e below _ _ T3 (mkF m 21 #[.val (.ref r0)] [])
        refine OFin.st (fun t k => XS.aloadN X3.here hx rfl (hb hby d2_21) rfl rfl k) ?_
        show OFin p e below _ _ T3 (mkF m 22 #[.val (.ref r0)] [(.ref r0)])
        obtain ⟨T4, X4, e4, st4⟩ := getS2 X3 hx hZ hown (host := "") (Or.inl (hw _ (List.mem_of_getElem? (i := 19) rfl))) Via.refl e3 (S_EXPIRED.ext O0.2) (g := (mkF m 22 #[.val (.ref r0)] [(.ref r0)])) rfl (hb hby d2_22)
        refine OFin.st st4 ?_
        show OFin p e below _ _ T4 (mkF m 25 #[.val (.ref r0)] [(.ref w_EXPIRED), (.ref r0)])
        by_cases ha25 : r0 = w_EXPIRED
        · refine OFin.st (fun t k => Jvm.RoadKit.acmp (g := (mkF m 25 #[.val (.ref r0)] [(.ref w_EXPIRED), (.ref r0)])) X4 hx rfl rfl rfl (pc0 := 25) (pc' := 28) (same := true) rfl (hb hby d2_25) rfl (decide_eq_true (congrArg Value.ref ha25)) (by decide) (by decide) k) ?_
          show OFin p e below _ _ T4 (mkF m 28 #[.val (.ref r0)] [])
          refine OFin.st (fun t k => XS.iconst X4.here hx rfl (hb hby d2_28) k) ?_
          show OFin p e below _ _ T4 (mkF m 29 #[.val (.ref r0)] [(.int (1 : Int32))])
          refine OFin.st (fun t k => XS.goto X4.here hx rfl (pc0 := 29) (pc' := 33) rfl (hb hby d2_29) (by decide) (by decide) k) ?_
          show OFin p e below _ _ T4 (mkF m 33 #[.val (.ref r0)] [(.int (1 : Int32))])
          exact own_retN X4 hx Bd.returns Bd.notSynchronized (t := .boolean) (by simp) rfl (hb hby d2_33) ⟨(by rw [F2, if_neg ha4, if_neg ha11, if_neg ha18, if_pos ha25]; try rfl), N0, e4⟩ (own_endN (by decide) (by decide))
        · refine OFin.st (fun t k => Jvm.RoadKit.acmp (g := (mkF m 25 #[.val (.ref r0)] [(.ref w_EXPIRED), (.ref r0)])) X4 hx rfl rfl rfl (pc0 := 25) (pc' := 32) (same := false) rfl (hb hby d2_25) rfl (decide_eq_false fun q => ha25 (Value.ref.inj q)) (by decide) (by decide) k) ?_
          show OFin p e below _ _ T4 (mkF m 32 #[.val (.ref r0)] [])
          refine OFin.st (fun t k => XS.iconst X4.here hx rfl (hb hby d2_32) k) ?_
          show OFin p e below _ _ T4 (mkF m 33 #[.val (.ref r0)] [(.int (0 : Int32))])
          exact own_retN X4 hx Bd.returns Bd.notSynchronized (t := .boolean) (by simp) rfl (hb hby d2_33) ⟨(by rw [F2, if_neg ha4, if_neg ha11, if_neg ha18, if_neg ha25]; try rfl), N0, e4⟩ (own_endN (by decide) (by decide))
theorem own_F1 {P : Addr → Prop} (p0 : Int32) (w_PENDING_NEW : Addr) (w_NEW : Addr) (w_PARTIALLY_FILLED : Addr) (w_FILLED : Addr) (w_CANCELED : Addr) (w_REJECTED : Addr) (w_EXPIRED : Addr) (h0 : P w_PENDING_NEW) (h1 : P w_NEW) (h2 : P w_PARTIALLY_FILLED) (h3 : P w_FILLED) (h4 : P w_CANCELED) (h5 : P w_REJECTED) (h6 : P w_EXPIRED) : P (F1 p0 w_PENDING_NEW w_NEW w_PARTIALLY_FILLED w_FILLED w_CANCELED w_REJECTED w_EXPIRED) := own_ite (P := P) h0 (own_ite (P := P) h1 (own_ite (P := P) h2 (own_ite (P := P) h3 (own_ite (P := P) h4 (own_ite (P := P) h5 (h6))))))
theorem ef_rm0 (m : MethodId) (p0 : Int32) : entryFrame m #[(.int p0)] maxLocals = mkF m 0 #[.val (.int p0), .unset, .unset, .unset] [] := by first | (simp [entryFrame, mkF, argsToLocals, Value.category, maxLocals]; done) | rfl
def F0 (p0 : Int32) (w_PENDING_NEW : Addr) (w_NEW : Addr) (w_PARTIALLY_FILLED : Addr) (w_FILLED : Addr) (w_CANCELED : Addr) (w_REJECTED : Addr) (w_EXPIRED : Addr) : Int32 := if ((p0 &&& (2147483647 : Int32)) % (7 : Int32)) < (3 : Int32) then (if (F2 (F1 ((p0 &&& (2147483647 : Int32)) % (7 : Int32)) w_PENDING_NEW w_NEW w_PARTIALLY_FILLED w_FILLED w_CANCELED w_REJECTED w_EXPIRED) w_FILLED w_CANCELED w_REJECTED w_EXPIRED) = (0 : Int32) then (1 : Int32) else (0 : Int32)) else (if (F2 (F1 ((p0 &&& (2147483647 : Int32)) % (7 : Int32)) w_PENDING_NEW w_NEW w_PARTIALLY_FILLED w_FILLED w_CANCELED w_REJECTED w_EXPIRED) w_FILLED w_CANCELED w_REJECTED w_EXPIRED) = (1 : Int32) then (1 : Int32) else (0 : Int32))
def Q0 (p0 : Int32) (w_PENDING_NEW : Addr) (w_NEW : Addr) (w_PARTIALLY_FILLED : Addr) (w_FILLED : Addr) (w_CANCELED : Addr) (w_REJECTED : Addr) (w_EXPIRED : Addr) (h0 : Heap) (n0 : Nat) (v : Option Value) (h : Heap) (L : List Loc) : Prop := v = some (Value.int (F0 p0 w_PENDING_NEW w_NEW w_PARTIALLY_FILLED w_FILLED w_CANCELED w_REJECTED w_EXPIRED)) ∧ Fr n0 L ∧ h = h0
set_option maxRecDepth 65536 in
set_option maxHeartbeats 40000000 in
theorem rm0 (l : Launch) (Z : State) (a0 : Array Value) (hw : ∀ d ∈ tables_1, d.before a0 Z = true) (ws : List Jvm.Cond) (p0 : Int32) (w_PENDING_NEW : Addr) (w_NEW : Addr) (w_PARTIALLY_FILLED : Addr) (w_FILLED : Addr) (w_CANCELED : Addr) (w_REJECTED : Addr) (w_EXPIRED : Addr) (h0 : Heap) (n0 : Nat) (O0 : Old Z n0 h0) (E_w_PENDING_NEW : Exa Z h0 w_PENDING_NEW "com/example/fillwire/fillwire/model/OrdStatus") (E_w_NEW : Exa Z h0 w_NEW "com/example/fillwire/fillwire/model/OrdStatus") (E_w_PARTIALLY_FILLED : Exa Z h0 w_PARTIALLY_FILLED "com/example/fillwire/fillwire/model/OrdStatus") (E_w_FILLED : Exa Z h0 w_FILLED "com/example/fillwire/fillwire/model/OrdStatus") (E_w_CANCELED : Exa Z h0 w_CANCELED "com/example/fillwire/fillwire/model/OrdStatus") (E_w_REJECTED : Exa Z h0 w_REJECTED "com/example/fillwire/fillwire/model/OrdStatus") (E_w_EXPIRED : Exa Z h0 w_EXPIRED "com/example/fillwire/fillwire/model/OrdStatus") (S_PENDING_NEW : Sta Z Z.heap "com/example/fillwire/fillwire/model/OrdStatus" "PENDING_NEW" "Lcom/example/fillwire/fillwire/model/OrdStatus;" (.ref w_PENDING_NEW)) (S_NEW : Sta Z Z.heap "com/example/fillwire/fillwire/model/OrdStatus" "NEW" "Lcom/example/fillwire/fillwire/model/OrdStatus;" (.ref w_NEW)) (S_PARTIALLY_FILLED : Sta Z Z.heap "com/example/fillwire/fillwire/model/OrdStatus" "PARTIALLY_FILLED" "Lcom/example/fillwire/fillwire/model/OrdStatus;" (.ref w_PARTIALLY_FILLED)) (S_FILLED : Sta Z Z.heap "com/example/fillwire/fillwire/model/OrdStatus" "FILLED" "Lcom/example/fillwire/fillwire/model/OrdStatus;" (.ref w_FILLED)) (S_CANCELED : Sta Z Z.heap "com/example/fillwire/fillwire/model/OrdStatus" "CANCELED" "Lcom/example/fillwire/fillwire/model/OrdStatus;" (.ref w_CANCELED)) (S_REJECTED : Sta Z Z.heap "com/example/fillwire/fillwire/model/OrdStatus" "REJECTED" "Lcom/example/fillwire/fillwire/model/OrdStatus;" (.ref w_REJECTED)) (S_EXPIRED : Sta Z Z.heap "com/example/fillwire/fillwire/model/OrdStatus" "EXPIRED" "Lcom/example/fillwire/fillwire/model/OrdStatus;" (.ref w_EXPIRED)) :
    MetFree l x (head1 (Jvm.Cond.code x code maxLocals ret :: ws) room_1) (fun a U => a = #[(.int p0)] ∧ Z.Warmed39 U.vm ∧ U.heap = h0) (fun _ _ _ _ _ => True) (fun _ U o U' => ∃ v L, o = .returned v ∧ Q0 p0 w_PENDING_NEW w_NEW w_PARTIALLY_FILLED w_FILLED w_CANCELED w_REJECTED w_EXPIRED h0 n0 v U'.heap L ∧ FrameEnd U o U' L room_1.cells room_1.slots) := by
  refine MetFree.of_bodySF (plainFor_of_name pn_com_example_fillwire_fillwire_model_OrdStatusIsDonePinLaw) hisR ?_
  intro p e s m args below meth c s₁ Bd hml0 hP hK
  obtain ⟨rfl, hZ, hh⟩ := hP
  have hx := Bd.exec
  have hby := Bd.bytes
  have hml : c.maxLocals = 4 := hml0
  have hown : s.vm.findClass "com/example/fillwire/fillwire/model/OrdStatusIsDonePinLaw" = some m.cls := findClass_of_methodNamed Bd.named
  have hnm := (name_of_methodNamed Bd.named Bd.method).1
  have X0 : Stand p l e room_1 s m #[(.int p0)] below meth c s₁ [] 0 0 := Stand.of_body Bd
  have e0 : s₁.heap = h0 := by rw [← hh, Bd.state]; rfl
  have N0 := Fr.nil n0
  show OFin p e below (fun o t L => FrameEnd s o t L room_1.cells room_1.slots) (fun v h L => Q0 p0 w_PENDING_NEW w_NEW w_PARTIALLY_FILLED w_FILLED w_CANCELED w_REJECTED w_EXPIRED h0 n0 v h L) s₁ (entryFrame m #[(.int p0)] maxLocals)
  refine OFin.cast (ef_rm0 m p0) ?_
  show OFin p e below _ _ s₁ (mkF m 0 #[.val (.int p0), .unset, .unset, .unset] [])
  refine OFin.st (fun t k => XS.iloadN X0.here hx rfl (hb hby at_0) rfl k) ?_
  show OFin p e below _ _ s₁ (mkF m 1 #[.val (.int p0), .unset, .unset, .unset] [(.int p0)])
  refine OFin.st (X0.ldcInt hx hown (mvT hZ (hw _ (List.mem_of_getElem? (i := 0) rfl))) (g := (mkF m 1 #[.val (.int p0), .unset, .unset, .unset] [(.int p0)])) rfl (hb hby at_1)) ?_
  show OFin p e below _ _ s₁ (mkF m 3 #[.val (.int p0), .unset, .unset, .unset] [(.int (2147483647 : Int32)), (.int p0)])
  refine OFin.st (fun t k => XS.iand X0.here hx rfl (hb hby at_3) rfl k) ?_
  show OFin p e below _ _ s₁ (mkF m 4 #[.val (.int p0), .unset, .unset, .unset] [(.int (p0 &&& (2147483647 : Int32)))])
  refine OFin.st (fun t k => XS.bipush X0.here hx rfl (hb hby at_4) k) ?_
  show OFin p e below _ _ s₁ (mkF m 6 #[.val (.int p0), .unset, .unset, .unset] [(.int (7 : Int32)), (.int (p0 &&& (2147483647 : Int32)))])
  refine OFin.st (fun t k => iremM X0 hx rfl (hb hby at_6) rfl (by decide) k) ?_
  show OFin p e below _ _ s₁ (mkF m 7 #[.val (.int p0), .unset, .unset, .unset] [(.int ((p0 &&& (2147483647 : Int32)) % (7 : Int32)))])
  refine OFin.st (fun t k => XS.istoreN X0.here hx rfl (hb hby at_7) rfl (l' := #[.val (.int p0), .val (.int ((p0 &&& (2147483647 : Int32)) % (7 : Int32))), .unset, .unset]) rfl k) ?_
  show OFin p e below _ _ s₁ (mkF m 8 #[.val (.int p0), .val (.int ((p0 &&& (2147483647 : Int32)) % (7 : Int32))), .unset, .unset] [])
  refine OFin.st (fun t k => XS.iloadN X0.here hx rfl (hb hby at_8) rfl k) ?_
  show OFin p e below _ _ s₁ (mkF m 9 #[.val (.int p0), .val (.int ((p0 &&& (2147483647 : Int32)) % (7 : Int32))), .unset, .unset] [(.int ((p0 &&& (2147483647 : Int32)) % (7 : Int32)))])
  obtain ⟨_, _, ⟨T1, L1, k1, n1⟩, -, X1, ⟨Lc1, hQ1, l1, y1, z1⟩, st1⟩ := Jvm.LawKit.callS X0 hx (y := (⟨"com/example/fillwire/fillwire/model/OrdStatusIsDonePinLaw", "pick", "(I)Lcom/example/fillwire/fillwire/model/OrdStatus;"⟩ : MethodName)) hown (mvT hZ (hw _ (List.mem_of_getElem? (i := 1) rfl))) (mvT hZ (hw _ (List.mem_of_getElem? (i := 2) rfl))) (mvT hZ (hw _ (List.mem_of_getElem? (i := 3) rfl))) (mvT hZ (hw _ (List.mem_of_getElem? (i := 4) rfl))) (by decide) (backOf (W := 0) (rm1 l Z a0 hw [] ((p0 &&& (2147483647 : Int32)) % (7 : Int32)) w_PENDING_NEW w_NEW w_PARTIALLY_FILLED w_FILLED w_CANCELED w_REJECTED w_EXPIRED h0 n0 O0 S_PENDING_NEW S_NEW S_PARTIALLY_FILLED S_FILLED S_CANCELED S_REJECTED S_EXPIRED) hZ (hw _ (List.mem_of_getElem? (i := 4) rfl)) (hw _ (List.mem_of_getElem? (i := 3) rfl)) (by decide) (by decide)) (g := (mkF m 9 #[.val (.int p0), .val (.int ((p0 &&& (2147483647 : Int32)) % (7 : Int32))), .unset, .unset] [(.int ((p0 &&& (2147483647 : Int32)) % (7 : Int32)))])) rfl (by rw [hml]; rfl) (argsL := [(.int ((p0 &&& (2147483647 : Int32)) % (7 : Int32)))]) (rest := []) (lenOf pd_1 rfl) rfl (by show 2 * 0 + _ ≤ _; exact Nat.le_of_eq rfl) (hb hby at_9) (fun _ _ => ⟨rfl, e0, (by decide : 0 + 0 ≤ _), (by decide : 0 + 0 ≤ _)⟩)
  dsimp only [Pt.U, Pt.locs, Pt.cells, Pt.slots] at X1 l1 y1 z1 st1 hQ1
  subst l1 y1 z1
  obtain ⟨rfl, N1q, e1⟩ := hQ1
  have N1 := Fr.app N0 N1q
  refine OFin.st st1 ?_
  show OFin p e below _ _ T1 (mkF m 12 #[.val (.int p0), .val (.int ((p0 &&& (2147483647 : Int32)) % (7 : Int32))), .unset, .unset] [(.ref (F1 ((p0 &&& (2147483647 : Int32)) % (7 : Int32)) w_PENDING_NEW w_NEW w_PARTIALLY_FILLED w_FILLED w_CANCELED w_REJECTED w_EXPIRED))])
  refine OFin.st (fun t k => XS.astoreN X1.here hx rfl (hb hby at_12) rfl rfl (l' := #[.val (.int p0), .val (.int ((p0 &&& (2147483647 : Int32)) % (7 : Int32))), .val (.ref (F1 ((p0 &&& (2147483647 : Int32)) % (7 : Int32)) w_PENDING_NEW w_NEW w_PARTIALLY_FILLED w_FILLED w_CANCELED w_REJECTED w_EXPIRED)), .unset]) rfl k) ?_
  show OFin p e below _ _ T1 (mkF m 13 #[.val (.int p0), .val (.int ((p0 &&& (2147483647 : Int32)) % (7 : Int32))), .val (.ref (F1 ((p0 &&& (2147483647 : Int32)) % (7 : Int32)) w_PENDING_NEW w_NEW w_PARTIALLY_FILLED w_FILLED w_CANCELED w_REJECTED w_EXPIRED)), .unset] [])
  refine OFin.st (fun t k => XS.iloadN X1.here hx rfl (hb hby at_13) rfl k) ?_
  show OFin p e below _ _ T1 (mkF m 14 #[.val (.int p0), .val (.int ((p0 &&& (2147483647 : Int32)) % (7 : Int32))), .val (.ref (F1 ((p0 &&& (2147483647 : Int32)) % (7 : Int32)) w_PENDING_NEW w_NEW w_PARTIALLY_FILLED w_FILLED w_CANCELED w_REJECTED w_EXPIRED)), .unset] [(.int ((p0 &&& (2147483647 : Int32)) % (7 : Int32)))])
  refine OFin.st (fun t k => XS.iconst X1.here hx rfl (hb hby at_14) k) ?_
  show OFin p e below _ _ T1 (mkF m 15 #[.val (.int p0), .val (.int ((p0 &&& (2147483647 : Int32)) % (7 : Int32))), .val (.ref (F1 ((p0 &&& (2147483647 : Int32)) % (7 : Int32)) w_PENDING_NEW w_NEW w_PARTIALLY_FILLED w_FILLED w_CANCELED w_REJECTED w_EXPIRED)), .unset] [(.int (3 : Int32)), (.int ((p0 &&& (2147483647 : Int32)) % (7 : Int32)))])
  by_cases hc15 : ((p0 &&& (2147483647 : Int32)) % (7 : Int32)) < (3 : Int32)
  · refine OFin.st (fun t k => XS.icmpYes X1.here hx rfl (pc0 := 15) (pc' := 22) rfl (hb hby at_15) rfl (tlt hc15).1 (by decide) (by decide) k) ?_
    show OFin p e below _ _ T1 (mkF m 22 #[.val (.int p0), .val (.int ((p0 &&& (2147483647 : Int32)) % (7 : Int32))), .val (.ref (F1 ((p0 &&& (2147483647 : Int32)) % (7 : Int32)) w_PENDING_NEW w_NEW w_PARTIALLY_FILLED w_FILLED w_CANCELED w_REJECTED w_EXPIRED)), .unset] [])
    refine OFin.st (fun t k => XS.iconst X1.here hx rfl (hb hby at_22) k) ?_
    show OFin p e below _ _ T1 (mkF m 23 #[.val (.int p0), .val (.int ((p0 &&& (2147483647 : Int32)) % (7 : Int32))), .val (.ref (F1 ((p0 &&& (2147483647 : Int32)) % (7 : Int32)) w_PENDING_NEW w_NEW w_PARTIALLY_FILLED w_FILLED w_CANCELED w_REJECTED w_EXPIRED)), .unset] [(.int (0 : Int32))])
    refine OFin.st (fun t k => XS.istoreN X1.here hx rfl (hb hby at_23) rfl (l' := #[.val (.int p0), .val (.int ((p0 &&& (2147483647 : Int32)) % (7 : Int32))), .val (.ref (F1 ((p0 &&& (2147483647 : Int32)) % (7 : Int32)) w_PENDING_NEW w_NEW w_PARTIALLY_FILLED w_FILLED w_CANCELED w_REJECTED w_EXPIRED)), .val (.int (0 : Int32))]) rfl k) ?_
    show OFin p e below _ _ T1 (mkF m 24 #[.val (.int p0), .val (.int ((p0 &&& (2147483647 : Int32)) % (7 : Int32))), .val (.ref (F1 ((p0 &&& (2147483647 : Int32)) % (7 : Int32)) w_PENDING_NEW w_NEW w_PARTIALLY_FILLED w_FILLED w_CANCELED w_REJECTED w_EXPIRED)), .val (.int (0 : Int32))] [])
    refine OFin.st (fun t k => XS.aloadN X1.here hx rfl (hb hby at_24) rfl rfl k) ?_
    show OFin p e below _ _ T1 (mkF m 25 #[.val (.int p0), .val (.int ((p0 &&& (2147483647 : Int32)) % (7 : Int32))), .val (.ref (F1 ((p0 &&& (2147483647 : Int32)) % (7 : Int32)) w_PENDING_NEW w_NEW w_PARTIALLY_FILLED w_FILLED w_CANCELED w_REJECTED w_EXPIRED)), .val (.int (0 : Int32))] [(.ref (F1 ((p0 &&& (2147483647 : Int32)) % (7 : Int32)) w_PENDING_NEW w_NEW w_PARTIALLY_FILLED w_FILLED w_CANCELED w_REJECTED w_EXPIRED))])
    obtain ⟨cq2, kq2, q2a, q2b, q2c⟩ := isOf hZ e1 (own_F1 (P := fun a => Exa Z h0 a "com/example/fillwire/fillwire/model/OrdStatus") _ w_PENDING_NEW w_NEW w_PARTIALLY_FILLED w_FILLED w_CANCELED w_REJECTED w_EXPIRED E_w_PENDING_NEW E_w_NEW E_w_PARTIALLY_FILLED E_w_FILLED E_w_CANCELED E_w_REJECTED E_w_EXPIRED)
    obtain ⟨_, _, ⟨T2, L2, k2, n2⟩, -, X2, ⟨Lc2, hQ2, l2, y2, z2⟩, st2⟩ := X1.virtualBack hx (y := (⟨"com/example/fillwire/fillwire/model/OrdStatus", "isDone", "()Z"⟩ : MethodName)) (z := (⟨"com/example/fillwire/fillwire/model/OrdStatus", "isDone", "()Z"⟩ : MethodName)) hown (mvT hZ (hw _ (List.mem_of_getElem? (i := 8) rfl))) (mvT hZ (hw _ (List.mem_of_getElem? (i := 9) rfl))) (notFace_of_selects (args := #[]) (mvT hZ (hw _ (List.mem_of_getElem? (i := 11) rfl)))) (mvT hZ (hw _ (List.mem_of_getElem? (i := 11) rfl))) (mvT hZ (hw _ (List.mem_of_getElem? (i := 10) rfl))) (by decide) (backOf (W := 0) (rm2 l Z a0 hw [] (F1 ((p0 &&& (2147483647 : Int32)) % (7 : Int32)) w_PENDING_NEW w_NEW w_PARTIALLY_FILLED w_FILLED w_CANCELED w_REJECTED w_EXPIRED) w_FILLED w_CANCELED w_REJECTED w_EXPIRED h0 n0 O0 S_FILLED S_CANCELED S_REJECTED S_EXPIRED) hZ (hw _ (List.mem_of_getElem? (i := 12) rfl)) (hw _ (List.mem_of_getElem? (i := 6) rfl)) (by decide) (by decide)) q2a q2c (g := (mkF m 25 #[.val (.int p0), .val (.int ((p0 &&& (2147483647 : Int32)) % (7 : Int32))), .val (.ref (F1 ((p0 &&& (2147483647 : Int32)) % (7 : Int32)) w_PENDING_NEW w_NEW w_PARTIALLY_FILLED w_FILLED w_CANCELED w_REJECTED w_EXPIRED)), .val (.int (0 : Int32))] [(.ref (F1 ((p0 &&& (2147483647 : Int32)) % (7 : Int32)) w_PENDING_NEW w_NEW w_PARTIALLY_FILLED w_FILLED w_CANCELED w_REJECTED w_EXPIRED))])) rfl (by rw [hml]; rfl) (Steps.refl _) (argsL := []) (rest := []) (lenOf pd_0 rfl) rfl (by show 2 * 0 + _ ≤ _; exact Nat.le_of_eq rfl) (hb hby at_25) (fun _ _ => ⟨rfl, e1, (by decide : 0 + 0 ≤ _), (by decide : 0 + 0 ≤ _)⟩)
    dsimp only [Pt.U, Pt.locs, Pt.cells, Pt.slots] at X2 l2 y2 z2 st2 hQ2
    subst l2 y2 z2
    obtain ⟨rfl, N2q, e2⟩ := hQ2
    have N2 := Fr.app N1 N2q
    refine OFin.tr st2 ?_
    show OFin p e below _ _ T2 (mkF m 28 #[.val (.int p0), .val (.int ((p0 &&& (2147483647 : Int32)) % (7 : Int32))), .val (.ref (F1 ((p0 &&& (2147483647 : Int32)) % (7 : Int32)) w_PENDING_NEW w_NEW w_PARTIALLY_FILLED w_FILLED w_CANCELED w_REJECTED w_EXPIRED)), .val (.int (0 : Int32))] [(.int (F2 (F1 ((p0 &&& (2147483647 : Int32)) % (7 : Int32)) w_PENDING_NEW w_NEW w_PARTIALLY_FILLED w_FILLED w_CANCELED w_REJECTED w_EXPIRED) w_FILLED w_CANCELED w_REJECTED w_EXPIRED))])
    refine OFin.st (fun t k => XS.iloadN X2.here hx rfl (hb hby at_28) rfl k) ?_
    show OFin p e below _ _ T2 (mkF m 29 #[.val (.int p0), .val (.int ((p0 &&& (2147483647 : Int32)) % (7 : Int32))), .val (.ref (F1 ((p0 &&& (2147483647 : Int32)) % (7 : Int32)) w_PENDING_NEW w_NEW w_PARTIALLY_FILLED w_FILLED w_CANCELED w_REJECTED w_EXPIRED)), .val (.int (0 : Int32))] [(.int (0 : Int32)), (.int (F2 (F1 ((p0 &&& (2147483647 : Int32)) % (7 : Int32)) w_PENDING_NEW w_NEW w_PARTIALLY_FILLED w_FILLED w_CANCELED w_REJECTED w_EXPIRED) w_FILLED w_CANCELED w_REJECTED w_EXPIRED))])
    by_cases hc29 : (F2 (F1 ((p0 &&& (2147483647 : Int32)) % (7 : Int32)) w_PENDING_NEW w_NEW w_PARTIALLY_FILLED w_FILLED w_CANCELED w_REJECTED w_EXPIRED) w_FILLED w_CANCELED w_REJECTED w_EXPIRED) = (0 : Int32)
    · refine OFin.st (fun t k => XS.icmpNo X2.here hx rfl (hb hby at_29) rfl (teq hc29).2 k) ?_
      show OFin p e below _ _ T2 (mkF m 32 #[.val (.int p0), .val (.int ((p0 &&& (2147483647 : Int32)) % (7 : Int32))), .val (.ref (F1 ((p0 &&& (2147483647 : Int32)) % (7 : Int32)) w_PENDING_NEW w_NEW w_PARTIALLY_FILLED w_FILLED w_CANCELED w_REJECTED w_EXPIRED)), .val (.int (0 : Int32))] [])
      refine OFin.st (fun t k => XS.iconst X2.here hx rfl (hb hby at_32) k) ?_
      show OFin p e below _ _ T2 (mkF m 33 #[.val (.int p0), .val (.int ((p0 &&& (2147483647 : Int32)) % (7 : Int32))), .val (.ref (F1 ((p0 &&& (2147483647 : Int32)) % (7 : Int32)) w_PENDING_NEW w_NEW w_PARTIALLY_FILLED w_FILLED w_CANCELED w_REJECTED w_EXPIRED)), .val (.int (0 : Int32))] [(.int (1 : Int32))])
      refine OFin.st (fun t k => XS.goto X2.here hx rfl (pc0 := 33) (pc' := 37) rfl (hb hby at_33) (by decide) (by decide) k) ?_
      show OFin p e below _ _ T2 (mkF m 37 #[.val (.int p0), .val (.int ((p0 &&& (2147483647 : Int32)) % (7 : Int32))), .val (.ref (F1 ((p0 &&& (2147483647 : Int32)) % (7 : Int32)) w_PENDING_NEW w_NEW w_PARTIALLY_FILLED w_FILLED w_CANCELED w_REJECTED w_EXPIRED)), .val (.int (0 : Int32))] [(.int (1 : Int32))])
      exact own_retN X2 hx Bd.returns Bd.notSynchronized (t := .boolean) (by simp) rfl (hb hby at_37) ⟨(by rw [F0, if_pos hc15, if_pos hc29]; try rfl), N2, e2⟩ (own_endN (by decide) (by decide))
    · refine OFin.st (fun t k => XS.icmpYes X2.here hx rfl (pc0 := 29) (pc' := 36) rfl (hb hby at_29) rfl (feq hc29).2 (by decide) (by decide) k) ?_
      show OFin p e below _ _ T2 (mkF m 36 #[.val (.int p0), .val (.int ((p0 &&& (2147483647 : Int32)) % (7 : Int32))), .val (.ref (F1 ((p0 &&& (2147483647 : Int32)) % (7 : Int32)) w_PENDING_NEW w_NEW w_PARTIALLY_FILLED w_FILLED w_CANCELED w_REJECTED w_EXPIRED)), .val (.int (0 : Int32))] [])
      refine OFin.st (fun t k => XS.iconst X2.here hx rfl (hb hby at_36) k) ?_
      show OFin p e below _ _ T2 (mkF m 37 #[.val (.int p0), .val (.int ((p0 &&& (2147483647 : Int32)) % (7 : Int32))), .val (.ref (F1 ((p0 &&& (2147483647 : Int32)) % (7 : Int32)) w_PENDING_NEW w_NEW w_PARTIALLY_FILLED w_FILLED w_CANCELED w_REJECTED w_EXPIRED)), .val (.int (0 : Int32))] [(.int (0 : Int32))])
      exact own_retN X2 hx Bd.returns Bd.notSynchronized (t := .boolean) (by simp) rfl (hb hby at_37) ⟨(by rw [F0, if_pos hc15, if_neg hc29]; try rfl), N2, e2⟩ (own_endN (by decide) (by decide))
  · refine OFin.st (fun t k => XS.icmpNo X1.here hx rfl (hb hby at_15) rfl (flt hc15).1 k) ?_
    show OFin p e below _ _ T1 (mkF m 18 #[.val (.int p0), .val (.int ((p0 &&& (2147483647 : Int32)) % (7 : Int32))), .val (.ref (F1 ((p0 &&& (2147483647 : Int32)) % (7 : Int32)) w_PENDING_NEW w_NEW w_PARTIALLY_FILLED w_FILLED w_CANCELED w_REJECTED w_EXPIRED)), .unset] [])
    refine OFin.st (fun t k => XS.iconst X1.here hx rfl (hb hby at_18) k) ?_
    show OFin p e below _ _ T1 (mkF m 19 #[.val (.int p0), .val (.int ((p0 &&& (2147483647 : Int32)) % (7 : Int32))), .val (.ref (F1 ((p0 &&& (2147483647 : Int32)) % (7 : Int32)) w_PENDING_NEW w_NEW w_PARTIALLY_FILLED w_FILLED w_CANCELED w_REJECTED w_EXPIRED)), .unset] [(.int (1 : Int32))])
    refine OFin.st (fun t k => XS.goto X1.here hx rfl (pc0 := 19) (pc' := 23) rfl (hb hby at_19) (by decide) (by decide) k) ?_
    show OFin p e below _ _ T1 (mkF m 23 #[.val (.int p0), .val (.int ((p0 &&& (2147483647 : Int32)) % (7 : Int32))), .val (.ref (F1 ((p0 &&& (2147483647 : Int32)) % (7 : Int32)) w_PENDING_NEW w_NEW w_PARTIALLY_FILLED w_FILLED w_CANCELED w_REJECTED w_EXPIRED)), .unset] [(.int (1 : Int32))])
    refine OFin.st (fun t k => XS.istoreN X1.here hx rfl (hb hby at_23) rfl (l' := #[.val (.int p0), .val (.int ((p0 &&& (2147483647 : Int32)) % (7 : Int32))), .val (.ref (F1 ((p0 &&& (2147483647 : Int32)) % (7 : Int32)) w_PENDING_NEW w_NEW w_PARTIALLY_FILLED w_FILLED w_CANCELED w_REJECTED w_EXPIRED)), .val (.int (1 : Int32))]) rfl k) ?_
    show OFin p e below _ _ T1 (mkF m 24 #[.val (.int p0), .val (.int ((p0 &&& (2147483647 : Int32)) % (7 : Int32))), .val (.ref (F1 ((p0 &&& (2147483647 : Int32)) % (7 : Int32)) w_PENDING_NEW w_NEW w_PARTIALLY_FILLED w_FILLED w_CANCELED w_REJECTED w_EXPIRED)), .val (.int (1 : Int32))] [])
    refine OFin.st (fun t k => XS.aloadN X1.here hx rfl (hb hby at_24) rfl rfl k) ?_
    show OFin p e below _ _ T1 (mkF m 25 #[.val (.int p0), .val (.int ((p0 &&& (2147483647 : Int32)) % (7 : Int32))), .val (.ref (F1 ((p0 &&& (2147483647 : Int32)) % (7 : Int32)) w_PENDING_NEW w_NEW w_PARTIALLY_FILLED w_FILLED w_CANCELED w_REJECTED w_EXPIRED)), .val (.int (1 : Int32))] [(.ref (F1 ((p0 &&& (2147483647 : Int32)) % (7 : Int32)) w_PENDING_NEW w_NEW w_PARTIALLY_FILLED w_FILLED w_CANCELED w_REJECTED w_EXPIRED))])
    obtain ⟨cq3, kq3, q3a, q3b, q3c⟩ := isOf hZ e1 (own_F1 (P := fun a => Exa Z h0 a "com/example/fillwire/fillwire/model/OrdStatus") _ w_PENDING_NEW w_NEW w_PARTIALLY_FILLED w_FILLED w_CANCELED w_REJECTED w_EXPIRED E_w_PENDING_NEW E_w_NEW E_w_PARTIALLY_FILLED E_w_FILLED E_w_CANCELED E_w_REJECTED E_w_EXPIRED)
    obtain ⟨_, _, ⟨T3, L3, k3, n3⟩, -, X3, ⟨Lc3, hQ3, l3, y3, z3⟩, st3⟩ := X1.virtualBack hx (y := (⟨"com/example/fillwire/fillwire/model/OrdStatus", "isDone", "()Z"⟩ : MethodName)) (z := (⟨"com/example/fillwire/fillwire/model/OrdStatus", "isDone", "()Z"⟩ : MethodName)) hown (mvT hZ (hw _ (List.mem_of_getElem? (i := 8) rfl))) (mvT hZ (hw _ (List.mem_of_getElem? (i := 9) rfl))) (notFace_of_selects (args := #[]) (mvT hZ (hw _ (List.mem_of_getElem? (i := 11) rfl)))) (mvT hZ (hw _ (List.mem_of_getElem? (i := 11) rfl))) (mvT hZ (hw _ (List.mem_of_getElem? (i := 10) rfl))) (by decide) (backOf (W := 0) (rm2 l Z a0 hw [] (F1 ((p0 &&& (2147483647 : Int32)) % (7 : Int32)) w_PENDING_NEW w_NEW w_PARTIALLY_FILLED w_FILLED w_CANCELED w_REJECTED w_EXPIRED) w_FILLED w_CANCELED w_REJECTED w_EXPIRED h0 n0 O0 S_FILLED S_CANCELED S_REJECTED S_EXPIRED) hZ (hw _ (List.mem_of_getElem? (i := 12) rfl)) (hw _ (List.mem_of_getElem? (i := 6) rfl)) (by decide) (by decide)) q3a q3c (g := (mkF m 25 #[.val (.int p0), .val (.int ((p0 &&& (2147483647 : Int32)) % (7 : Int32))), .val (.ref (F1 ((p0 &&& (2147483647 : Int32)) % (7 : Int32)) w_PENDING_NEW w_NEW w_PARTIALLY_FILLED w_FILLED w_CANCELED w_REJECTED w_EXPIRED)), .val (.int (1 : Int32))] [(.ref (F1 ((p0 &&& (2147483647 : Int32)) % (7 : Int32)) w_PENDING_NEW w_NEW w_PARTIALLY_FILLED w_FILLED w_CANCELED w_REJECTED w_EXPIRED))])) rfl (by rw [hml]; rfl) (Steps.refl _) (argsL := []) (rest := []) (lenOf pd_0 rfl) rfl (by show 2 * 0 + _ ≤ _; exact Nat.le_of_eq rfl) (hb hby at_25) (fun _ _ => ⟨rfl, e1, (by decide : 0 + 0 ≤ _), (by decide : 0 + 0 ≤ _)⟩)
    dsimp only [Pt.U, Pt.locs, Pt.cells, Pt.slots] at X3 l3 y3 z3 st3 hQ3
    subst l3 y3 z3
    obtain ⟨rfl, N3q, e3⟩ := hQ3
    have N3 := Fr.app N1 N3q
    refine OFin.tr st3 ?_
    show OFin p e below _ _ T3 (mkF m 28 #[.val (.int p0), .val (.int ((p0 &&& (2147483647 : Int32)) % (7 : Int32))), .val (.ref (F1 ((p0 &&& (2147483647 : Int32)) % (7 : Int32)) w_PENDING_NEW w_NEW w_PARTIALLY_FILLED w_FILLED w_CANCELED w_REJECTED w_EXPIRED)), .val (.int (1 : Int32))] [(.int (F2 (F1 ((p0 &&& (2147483647 : Int32)) % (7 : Int32)) w_PENDING_NEW w_NEW w_PARTIALLY_FILLED w_FILLED w_CANCELED w_REJECTED w_EXPIRED) w_FILLED w_CANCELED w_REJECTED w_EXPIRED))])
    refine OFin.st (fun t k => XS.iloadN X3.here hx rfl (hb hby at_28) rfl k) ?_
    show OFin p e below _ _ T3 (mkF m 29 #[.val (.int p0), .val (.int ((p0 &&& (2147483647 : Int32)) % (7 : Int32))), .val (.ref (F1 ((p0 &&& (2147483647 : Int32)) % (7 : Int32)) w_PENDING_NEW w_NEW w_PARTIALLY_FILLED w_FILLED w_CANCELED w_REJECTED w_EXPIRED)), .val (.int (1 : Int32))] [(.int (1 : Int32)), (.int (F2 (F1 ((p0 &&& (2147483647 : Int32)) % (7 : Int32)) w_PENDING_NEW w_NEW w_PARTIALLY_FILLED w_FILLED w_CANCELED w_REJECTED w_EXPIRED) w_FILLED w_CANCELED w_REJECTED w_EXPIRED))])
    by_cases hc29 : (F2 (F1 ((p0 &&& (2147483647 : Int32)) % (7 : Int32)) w_PENDING_NEW w_NEW w_PARTIALLY_FILLED w_FILLED w_CANCELED w_REJECTED w_EXPIRED) w_FILLED w_CANCELED w_REJECTED w_EXPIRED) = (1 : Int32)
    · refine OFin.st (fun t k => XS.icmpNo X3.here hx rfl (hb hby at_29) rfl (teq hc29).2 k) ?_
      show OFin p e below _ _ T3 (mkF m 32 #[.val (.int p0), .val (.int ((p0 &&& (2147483647 : Int32)) % (7 : Int32))), .val (.ref (F1 ((p0 &&& (2147483647 : Int32)) % (7 : Int32)) w_PENDING_NEW w_NEW w_PARTIALLY_FILLED w_FILLED w_CANCELED w_REJECTED w_EXPIRED)), .val (.int (1 : Int32))] [])
      refine OFin.st (fun t k => XS.iconst X3.here hx rfl (hb hby at_32) k) ?_
      show OFin p e below _ _ T3 (mkF m 33 #[.val (.int p0), .val (.int ((p0 &&& (2147483647 : Int32)) % (7 : Int32))), .val (.ref (F1 ((p0 &&& (2147483647 : Int32)) % (7 : Int32)) w_PENDING_NEW w_NEW w_PARTIALLY_FILLED w_FILLED w_CANCELED w_REJECTED w_EXPIRED)), .val (.int (1 : Int32))] [(.int (1 : Int32))])
      refine OFin.st (fun t k => XS.goto X3.here hx rfl (pc0 := 33) (pc' := 37) rfl (hb hby at_33) (by decide) (by decide) k) ?_
      show OFin p e below _ _ T3 (mkF m 37 #[.val (.int p0), .val (.int ((p0 &&& (2147483647 : Int32)) % (7 : Int32))), .val (.ref (F1 ((p0 &&& (2147483647 : Int32)) % (7 : Int32)) w_PENDING_NEW w_NEW w_PARTIALLY_FILLED w_FILLED w_CANCELED w_REJECTED w_EXPIRED)), .val (.int (1 : Int32))] [(.int (1 : Int32))])
      exact own_retN X3 hx Bd.returns Bd.notSynchronized (t := .boolean) (by simp) rfl (hb hby at_37) ⟨(by rw [F0, if_neg hc15, if_pos hc29]; try rfl), N3, e3⟩ (own_endN (by decide) (by decide))
    · refine OFin.st (fun t k => XS.icmpYes X3.here hx rfl (pc0 := 29) (pc' := 36) rfl (hb hby at_29) rfl (feq hc29).2 (by decide) (by decide) k) ?_
      show OFin p e below _ _ T3 (mkF m 36 #[.val (.int p0), .val (.int ((p0 &&& (2147483647 : Int32)) % (7 : Int32))), .val (.ref (F1 ((p0 &&& (2147483647 : Int32)) % (7 : Int32)) w_PENDING_NEW w_NEW w_PARTIALLY_FILLED w_FILLED w_CANCELED w_REJECTED w_EXPIRED)), .val (.int (1 : Int32))] [])
      refine OFin.st (fun t k => XS.iconst X3.here hx rfl (hb hby at_36) k) ?_
      show OFin p e below _ _ T3 (mkF m 37 #[.val (.int p0), .val (.int ((p0 &&& (2147483647 : Int32)) % (7 : Int32))), .val (.ref (F1 ((p0 &&& (2147483647 : Int32)) % (7 : Int32)) w_PENDING_NEW w_NEW w_PARTIALLY_FILLED w_FILLED w_CANCELED w_REJECTED w_EXPIRED)), .val (.int (1 : Int32))] [(.int (0 : Int32))])
      exact own_retN X3 hx Bd.returns Bd.notSynchronized (t := .boolean) (by simp) rfl (hb hby at_37) ⟨(by rw [F0, if_neg hc15, if_neg hc29]; try rfl), N3, e3⟩ (own_endN (by decide) (by decide))
theorem own_cases (k : Int32) (h : 0 ≤ k.toInt ∧ k.toInt < 7) : k = 0 ∨ k = 1 ∨ k = 2 ∨ k = 3 ∨ k = 4 ∨ k = 5 ∨ k = 6 := by
  simp only [← Int32.toInt_inj]
  have e : (0 : Int32).toInt = 0 ∧ (1 : Int32).toInt = 1 ∧ (2 : Int32).toInt = 2 ∧ (3 : Int32).toInt = 3 ∧ (4 : Int32).toInt = 4 ∧ (5 : Int32).toInt = 5 ∧ (6 : Int32).toInt = 6 := by decide
  omega
theorem law_one (p0 : Int32) (w_PENDING_NEW : Addr) (w_NEW : Addr) (w_PARTIALLY_FILLED : Addr) (w_FILLED : Addr) (w_CANCELED : Addr) (w_REJECTED : Addr) (w_EXPIRED : Addr) (h : ∀ u ∈ [w_PENDING_NEW, w_NEW, w_PARTIALLY_FILLED], ∀ w ∈ [w_FILLED, w_CANCELED, w_REJECTED, w_EXPIRED], u ≠ w) : F0 p0 w_PENDING_NEW w_NEW w_PARTIALLY_FILLED w_FILLED w_CANCELED w_REJECTED w_EXPIRED = 1 := by
  have hk := own_cases _ (own_rem p0 7 7 (by decide) (by decide))
  rw [F0]
  generalize ((p0 &&& (2147483647 : Int32)) % (7 : Int32)) = k at hk ⊢
  have g := fun u hu w hw => h u hu w hw
  simp only [List.mem_cons, List.not_mem_nil, or_false, forall_eq_or_imp, forall_eq] at g
  obtain ⟨⟨a1, a2, a3, a4⟩, ⟨b1, b2, b3, b4⟩, ⟨d1, d2, d3, d4⟩⟩ := g
  have i0 : (0 : Int32) < 3 := by decide
  have i1 : (1 : Int32) < 3 := by decide
  have i2 : (2 : Int32) < 3 := by decide
  have i3 : ¬ (3 : Int32) < 3 := by decide
  have i4 : ¬ (4 : Int32) < 3 := by decide
  have i5 : ¬ (5 : Int32) < 3 := by decide
  have i6 : ¬ (6 : Int32) < 3 := by decide
  rcases hk with rfl | rfl | rfl | rfl | rfl | rfl | rfl <;> simp [F1, F2, *]
set_option maxRecDepth 65536 in
set_option maxHeartbeats 40000000 in
theorem comes_1 {Post : Tables → Env → Array Value → State → Outcome → State → Prop} (hpost : ∀ tb e args s v u, (limb_1_1.after args s (.returned v) u = true ∧ limb_1_2.after args s (.returned v) u = true ∧ True) → FrameEnd s (.returned v) u (Jvm.fieldLocs frame_1_writes args s ++ Jvm.arrayLocs frame_1_arrays args s ++ Jvm.staticLocs frame_1_statics s) 0 0 → Post tb e args s (.returned v) u) :
    ArmFor flags0 classFile x code maxLocals ret World_1 tables_1 room_1 Calls_1 rest_1 Pre_1 Post := by
  intro l hfl _ _ p e ha hc hk s m args below hf hA hF happ hP
  obtain ⟨hcalls, hrest, hpre⟩ := hP
  obtain ⟨-, -, -, hnamed, -, -, -, hat⟩ := (Spec.applies_iff hf).mp happ
  obtain ⟨hg, hn⟩ := and_e (Cond.before_iff.mp (show (Jvm.Cond.and given_1 narrow_1).before args s = true from hpre))
  obtain ⟨g1a, g1b⟩ := and_e hg
  obtain ⟨c1a, c1b⟩ := and_e hn
  obtain ⟨c2a, c2b⟩ := and_e c1b
  obtain ⟨c3a, c3b⟩ := and_e c2b
  obtain ⟨c4a, c4b⟩ := and_e c3b
  obtain ⟨c5a, c5b⟩ := and_e c4b
  obtain ⟨c6a, c6b⟩ := and_e c5b
  obtain ⟨c7a, c7b⟩ := and_e c6b
  obtain ⟨c8a, c8b⟩ := and_e c7b
  obtain ⟨c9a, c9b⟩ := and_e c8b
  obtain ⟨c10a, c10b⟩ := and_e c9b
  obtain ⟨c11a, c11b⟩ := and_e c10b
  obtain ⟨c12a, c12b⟩ := and_e c11b
  obtain ⟨c13a, c13b⟩ := and_e c12b
  obtain ⟨w0, rfl⟩ : ∃ w0 : Value, args = #[w0] := by
    have hs : args.size = 1 := by simpa [Cond.value, given_1] using g1a
    obtain ⟨L⟩ := args
    match L, hs with
    | [w0], _ => exact ⟨w0, rfl⟩
  have hw := fun d (hd : d ∈ tables_1) => atoms_spec (ws := Jvm.Cond.code x code maxLocals ret :: tables_1) hat d (List.mem_cons_of_mem _ hd)
  have hfit : Fit s := fun {y c} hc i hi => by
    obtain ⟨ha, rfl⟩ := Array.getElem?_eq_some_iff.mp hc
    have q := List.all_eq_true.mp ((Array.all_eq_true_iff_forall_mem.mp hF) _ (Array.getElem_mem ha)) i (List.mem_range.mpr hi)
    simpa [Array.getElem?_eq_getElem hi] using q
  obtain ⟨i0, ei0⟩ := is_v g1b
  obtain rfl : w0 = (.int i0) := Option.some.inj ei0
  obtain ⟨w_PENDING_NEW, ev_PENDING_NEW⟩ := exa_v c1a
  have E_w_PENDING_NEW := Exa.start ev_PENDING_NEW c1a
  have S_PENDING_NEW := Sta.start ev_PENDING_NEW (Or.inr ⟨(hw _ (List.mem_of_getElem? (i := 6) rfl)), (hw _ (List.mem_of_getElem? (i := 7) rfl))⟩)
  obtain ⟨w_FILLED, ev_FILLED⟩ := exa_v c2a
  have E_w_FILLED := Exa.start ev_FILLED c2a
  have S_FILLED := Sta.start ev_FILLED (Or.inr ⟨(hw _ (List.mem_of_getElem? (i := 6) rfl)), (hw _ (List.mem_of_getElem? (i := 14) rfl))⟩)
  obtain ⟨w_CANCELED, ev_CANCELED⟩ := exa_v c5a
  have E_w_CANCELED := Exa.start ev_CANCELED c5a
  have S_CANCELED := Sta.start ev_CANCELED (Or.inr ⟨(hw _ (List.mem_of_getElem? (i := 6) rfl)), (hw _ (List.mem_of_getElem? (i := 16) rfl))⟩)
  obtain ⟨w_REJECTED, ev_REJECTED⟩ := exa_v c7a
  have E_w_REJECTED := Exa.start ev_REJECTED c7a
  have S_REJECTED := Sta.start ev_REJECTED (Or.inr ⟨(hw _ (List.mem_of_getElem? (i := 6) rfl)), (hw _ (List.mem_of_getElem? (i := 18) rfl))⟩)
  obtain ⟨w_EXPIRED, ev_EXPIRED⟩ := exa_v c9a
  have E_w_EXPIRED := Exa.start ev_EXPIRED c9a
  have S_EXPIRED := Sta.start ev_EXPIRED (Or.inr ⟨(hw _ (List.mem_of_getElem? (i := 6) rfl)), (hw _ (List.mem_of_getElem? (i := 20) rfl))⟩)
  obtain ⟨w_PARTIALLY_FILLED, ev_PARTIALLY_FILLED⟩ := exa_v c11a
  have E_w_PARTIALLY_FILLED := Exa.start ev_PARTIALLY_FILLED c11a
  have S_PARTIALLY_FILLED := Sta.start ev_PARTIALLY_FILLED (Or.inr ⟨(hw _ (List.mem_of_getElem? (i := 6) rfl)), (hw _ (List.mem_of_getElem? (i := 26) rfl))⟩)
  obtain ⟨w_NEW, ev_NEW⟩ := exa_v c13a
  have E_w_NEW := Exa.start ev_NEW c13a
  have S_NEW := Sta.start ev_NEW (Or.inr ⟨(hw _ (List.mem_of_getElem? (i := 6) rfl)), (hw _ (List.mem_of_getElem? (i := 28) rfl))⟩)
  have F_ordinal_w_PENDING_NEW := own_fldI ev_PENDING_NEW c3a
  have F_ordinal_w_FILLED := own_fldI ev_FILLED c4a
  have F_ordinal_w_CANCELED := own_fldI ev_CANCELED c6a
  have F_ordinal_w_REJECTED := own_fldI ev_REJECTED c8a
  have F_ordinal_w_EXPIRED := own_fldI ev_EXPIRED c10a
  have F_ordinal_w_PARTIALLY_FILLED := own_fldI ev_PARTIALLY_FILLED c12a
  have F_ordinal_w_NEW := own_fldI ev_NEW c13b
  obtain ⟨n, o, h1, h2, h3, _, L, rfl, ⟨rfl, N, -⟩, hq⟩ := rm0 l s _ hw tables_1 i0 w_PENDING_NEW w_NEW w_PARTIALLY_FILLED w_FILLED w_CANCELED w_REJECTED w_EXPIRED s.heap s.heap.size (Old.start s) E_w_PENDING_NEW E_w_NEW E_w_PARTIALLY_FILLED E_w_FILLED E_w_CANCELED E_w_REJECTED E_w_EXPIRED S_PENDING_NEW S_NEW S_PARTIALLY_FILLED S_FILLED S_CANCELED S_REJECTED S_EXPIRED p e ha hc hk s m _ below hf ((Spec.applies_iff_loose hf).mp happ).1 ⟨rfl, State.Warmed39.refl s, rfl⟩ trivial
  have hone : F0 i0 w_PENDING_NEW w_NEW w_PARTIALLY_FILLED w_FILLED w_CANCELED w_REJECTED w_EXPIRED = 1 := law_one i0 w_PENDING_NEW w_NEW w_PARTIALLY_FILLED w_FILLED w_CANCELED w_REJECTED w_EXPIRED (by simp only [List.mem_cons, List.not_mem_nil, or_false, forall_eq_or_imp, forall_eq]; exact ⟨⟨F_ordinal_w_PENDING_NEW.ne F_ordinal_w_FILLED (by decide), F_ordinal_w_PENDING_NEW.ne F_ordinal_w_CANCELED (by decide), F_ordinal_w_PENDING_NEW.ne F_ordinal_w_REJECTED (by decide), F_ordinal_w_PENDING_NEW.ne F_ordinal_w_EXPIRED (by decide)⟩, ⟨F_ordinal_w_NEW.ne F_ordinal_w_FILLED (by decide), F_ordinal_w_NEW.ne F_ordinal_w_CANCELED (by decide), F_ordinal_w_NEW.ne F_ordinal_w_REJECTED (by decide), F_ordinal_w_NEW.ne F_ordinal_w_EXPIRED (by decide)⟩, ⟨F_ordinal_w_PARTIALLY_FILLED.ne F_ordinal_w_FILLED (by decide), F_ordinal_w_PARTIALLY_FILLED.ne F_ordinal_w_CANCELED (by decide), F_ordinal_w_PARTIALLY_FILLED.ne F_ordinal_w_REJECTED (by decide), F_ordinal_w_PARTIALLY_FILLED.ne F_ordinal_w_EXPIRED (by decide)⟩⟩)
  refine ⟨n, _, h1, h2, h3, hpost _ _ _ _ _ _ ⟨Cond.after_iff.mpr rfl, Cond.after_iff.mpr (eq_i res_at (Term.int_eval (1)) (congrArg Value.int hone)), trivial⟩ ⟨hq.1, hq.2.1, (hq.2.2.sift fun y hy => Or.inr (N y hy)).mono (by decide) (by decide)⟩⟩
theorem main_1_1 : Claimed_1_1 := comes_1 fun _ _ _ _ _ _ h hF => ⟨h.1, hF⟩
theorem main_1_2 : Claimed_1_2 := comes_1 fun _ _ _ _ _ _ h hF => ⟨h.2.1, hF⟩
end Jvm.Pilot.@@N@@
namespace Jvm.Pilot.@@N@@
open Jvm Jvm.ClassFile Sem Op Lib Jvm.Free Jvm.Stand Jvm.Pilot.@@N@@.Jvm.D
/-! MADE BY PROGRAM (witnessworld.py) out of the Statement's table words and the real class files: 12 classes; the members and pool entries that the words name. The judged class is class 1, her method 2. -/
namespace start1
open Jvm.ClassFile
def u (s : String) : CpInfo := .utf8 (stringToUtf16 s)
/-- a pool by its gaps: so many unusable entries, then the entry; so many at the end -/
def gap : Nat → List CpInfo → List CpInfo
  | 0, r => r
  | n + 1, r => .unusable :: gap n r
def poolList (es : List (Nat × CpInfo)) (last : Nat) : List CpInfo := es.foldr (fun e r => gap e.1 (e.2 :: r)) (gap last [])
def pool (es : List (Nat × CpInfo)) (last : Nat) : Array CpInfo := ⟨poolList es last⟩
def fileOf (pool : Array CpInfo) (this : Nat) (attrs : Array Attribute := #[]) (ms : Array MethodInfo := #[]) (fl : Nat := 33) (sup : Nat := 0) (ifs : Array Nat := #[]) (fds : Array FieldInfo := #[]) : ClassFile where
  minorVersion := 0
  majorVersion := 65
  constantPool := pool
  accessFlags := fl
  thisClass := this
  superClass := sup
  interfaces := ifs
  fields := fds
  methods := ms
  attributes := attrs
def plain (name : String) (sup : Option ClassId) : Class where
  name := name
  kind := .ordinary
  loader := none
  accessFlags := 33
  super := sup
  interfaces := #[]
  cf := none
  fields := #[]
  methods := #[]
  instanceTypes := #[]
  staticTypes := #[]
  resolved := #[]
  callSites := []
  init := .initialized
  statics := none
  mirror := none

def pool0 : Array CpInfo := pool [(5, u "<init>"), (0, u "()V"), (1, .class_ 10), (1, u "java/lang/Object")] 113

def k0m0 : Method := { name := "<init>", desc := "()V", sig := { parameters := [], returnType := none }, accessFlags := 1, code := none }
/-- java/lang/Object -/
def k0 : Class := { plain "java/lang/Object" none with
  accessFlags := 33
  interfaces := #[]
  cf := some (fileOf pool0 8 #[] #[{ accessFlags := 1, nameIndex := 5, descriptorIndex := 6, attributes := #[] }] 33 0 #[] #[])
  fields := #[]
  methods := #[k0m0]
  instanceTypes := #[]
  staticTypes := #[]
  resolved := Array.replicate 124 none
  statics := none }

def pool1 : Array CpInfo := pool [(2, .class_ 4), (1, u "java/lang/Object"), (0, u "<init>"), (0, u "()V"), (0, .fieldref 8 9), (0, .class_ 10), (0, .nameAndType 11 12), (0, u "com/example/fillwire/fillwire/model/OrdStatus"), (0, u "PENDING_NEW"), (0, u "Lcom/example/fillwire/fillwire/model/OrdStatus;"), (0, .fieldref 8 14), (0, .nameAndType 15 12), (0, u "NEW"), (0, .fieldref 8 17), (0, .nameAndType 18 12), (0, u "PARTIALLY_FILLED"), (0, .fieldref 8 20), (0, .nameAndType 21 12), (0, u "FILLED"), (0, .fieldref 8 23), (0, .nameAndType 24 12), (0, u "CANCELED"), (0, .fieldref 8 26), (0, .nameAndType 27 12), (0, u "REJECTED"), (0, .fieldref 8 29), (0, .nameAndType 30 12), (0, u "EXPIRED"), (0, .integer 2147483647), (0, .methodref 33 34), (0, .class_ 35), (0, .nameAndType 36 37), (0, u "com/example/fillwire/fillwire/model/OrdStatusIsDonePinLaw"), (0, u "pick"), (0, u "(I)Lcom/example/fillwire/fillwire/model/OrdStatus;"), (0, .methodref 8 39), (0, .nameAndType 40 41), (0, u "isDone"), (0, u "()Z"), (3, u "law"), (0, u "(I)Z")] 2

def k1m0 : Method := { name := "<init>", desc := "()V", sig := { parameters := [], returnType := none }, accessFlags := 1, code := none }
def k1c1 : Code := { maxStack := 2, maxLocals := 1, code := method_2_code, exceptionTable := #[], attributes := #[] }
def k1m1 : Method := { name := "pick", desc := "(I)Lcom/example/fillwire/fillwire/model/OrdStatus;", sig := { parameters := [.int], returnType := some (.object "com/example/fillwire/fillwire/model/OrdStatus") }, accessFlags := 10, code := some k1c1 }
def k1c2 : Code := { maxStack := 2, maxLocals := 4, code := code, exceptionTable := #[], attributes := #[] }
def k1m2 : Method := { name := "law", desc := "(I)Z", sig := { parameters := [.int], returnType := some .boolean }, accessFlags := 9, code := some k1c2 }
/-- com/example/fillwire/fillwire/model/OrdStatusIsDonePinLaw -/
def k1 : Class := { plain "com/example/fillwire/fillwire/model/OrdStatusIsDonePinLaw" (some 0) with
  accessFlags := 49
  interfaces := #[]
  cf := some (fileOf pool1 33 #[] #[{ accessFlags := 1, nameIndex := 5, descriptorIndex := 6, attributes := #[] }, { accessFlags := 10, nameIndex := 36, descriptorIndex := 37, attributes := #[] }, { accessFlags := 9, nameIndex := 45, descriptorIndex := 46, attributes := #[] }] 49 2 #[] #[])
  fields := #[]
  methods := #[k1m0, k1m1, k1m2]
  instanceTypes := #[]
  staticTypes := #[]
  resolved := Array.replicate 49 none
  statics := none }

def pool2 : Array CpInfo := pool [(1, .class_ 2), (0, u "java/lang/constant/Constable"), (0, .class_ 4), (0, u "java/lang/Object")] 6

/-- java/lang/constant/Constable -/
def k2 : Class := { plain "java/lang/constant/Constable" (some 0) with
  accessFlags := 1537
  interfaces := #[]
  cf := some (fileOf pool2 1 #[] #[] 1537 3 #[] #[])
  fields := #[]
  methods := #[]
  instanceTypes := #[]
  staticTypes := #[]
  resolved := Array.replicate 11 none
  statics := none }

def pool3 : Array CpInfo := pool [(1, .class_ 2), (0, u "java/lang/Comparable"), (0, .class_ 4), (0, u "java/lang/Object")] 7

/-- java/lang/Comparable -/
def k3 : Class := { plain "java/lang/Comparable" (some 0) with
  accessFlags := 1537
  interfaces := #[]
  cf := some (fileOf pool3 1 #[] #[] 1537 3 #[] #[])
  fields := #[]
  methods := #[]
  instanceTypes := #[]
  staticTypes := #[]
  resolved := Array.replicate 12 none
  statics := none }

def pool4 : Array CpInfo := pool [(1, .class_ 2), (0, u "java/io/Serializable"), (0, .class_ 4), (0, u "java/lang/Object")] 2

/-- java/io/Serializable -/
def k4 : Class := { plain "java/io/Serializable" (some 0) with
  accessFlags := 1537
  interfaces := #[]
  cf := some (fileOf pool4 1 #[] #[] 1537 3 #[] #[])
  fields := #[]
  methods := #[]
  instanceTypes := #[]
  staticTypes := #[]
  resolved := Array.replicate 7 none
  statics := none }

def pool5 : Array CpInfo := pool [(2, .class_ 4), (1, u "java/lang/Enum"), (0, u "name"), (0, u "Ljava/lang/String;"), (2, u "ordinal"), (0, u "I"), (1, .class_ 14), (1, u "java/lang/Object"), (4, u "hash"), (86, .class_ 108), (1, u "java/lang/Enum$EnumDesc"), (2, .class_ 112), (0, u "java/lang/constant/Constable"), (0, .class_ 114), (0, u "java/lang/Comparable"), (0, .class_ 116), (0, u "java/io/Serializable")] 87

/-- java/lang/Enum -/
def k5 : Class := { plain "java/lang/Enum" (some 0) with
  accessFlags := 1057
  interfaces := #[2, 3, 4]
  cf := some (fileOf pool5 2 #[.nestMembers #[106]] #[] 1057 12 #[111, 113, 115] #[{ accessFlags := 18, nameIndex := 5, descriptorIndex := 6, attributes := #[] }, { accessFlags := 18, nameIndex := 9, descriptorIndex := 10, attributes := #[] }, { accessFlags := 2, nameIndex := 19, descriptorIndex := 10, attributes := #[] }])
  fields := #[{ name := "name", type := (.object "java/lang/String"), accessFlags := 18, slot := 0, constantValue := 0 }, { name := "ordinal", type := .int, accessFlags := 18, slot := 1, constantValue := 0 }, { name := "hash", type := .int, accessFlags := 2, slot := 2, constantValue := 0 }]
  methods := #[]
  instanceTypes := #[(.object "java/lang/String"), .int, .int]
  staticTypes := #[]
  resolved := Array.replicate 204 none
  statics := none }

def pool6 : Array CpInfo := pool [(1, .class_ 2), (0, u "com/example/fillwire/fillwire/model/OrdStatus"), (2, u "PENDING_NEW"), (0, u "Lcom/example/fillwire/fillwire/model/OrdStatus;"), (2, u "NEW"), (2, u "PARTIALLY_FILLED"), (0, .fieldref 1 14), (0, .nameAndType 15 6), (0, u "FILLED"), (0, .fieldref 1 17), (0, .nameAndType 18 6), (0, u "CANCELED"), (0, .fieldref 1 20), (0, .nameAndType 21 6), (0, u "REJECTED"), (0, .fieldref 1 23), (0, .nameAndType 24 6), (0, u "EXPIRED"), (2, u "$VALUES"), (0, u "[Lcom/example/fillwire/fillwire/model/OrdStatus;"), (6, .class_ 37), (1, u "java/lang/Enum"), (25, u "isDone"), (0, u "()Z")] 5

def k6c0 : Code := { maxStack := 2, maxLocals := 1, code := prog_40_method_4_code, exceptionTable := #[], attributes := #[] }
def k6m0 : Method := { name := "isDone", desc := "()Z", sig := { parameters := [], returnType := some .boolean }, accessFlags := 0, code := some k6c0 }
/-- com/example/fillwire/fillwire/model/OrdStatus -/
def k6 : Class := { plain "com/example/fillwire/fillwire/model/OrdStatus" (some 5) with
  accessFlags := 16433
  interfaces := #[]
  cf := some (fileOf pool6 1 #[] #[{ accessFlags := 0, nameIndex := 63, descriptorIndex := 64, attributes := #[] }] 16433 35 #[] #[{ accessFlags := 16409, nameIndex := 5, descriptorIndex := 6, attributes := #[] }, { accessFlags := 16409, nameIndex := 9, descriptorIndex := 6, attributes := #[] }, { accessFlags := 16409, nameIndex := 12, descriptorIndex := 6, attributes := #[] }, { accessFlags := 16409, nameIndex := 15, descriptorIndex := 6, attributes := #[] }, { accessFlags := 16409, nameIndex := 18, descriptorIndex := 6, attributes := #[] }, { accessFlags := 16409, nameIndex := 21, descriptorIndex := 6, attributes := #[] }, { accessFlags := 16409, nameIndex := 24, descriptorIndex := 6, attributes := #[] }, { accessFlags := 4122, nameIndex := 27, descriptorIndex := 28, attributes := #[] }])
  fields := #[{ name := "PENDING_NEW", type := (.object "com/example/fillwire/fillwire/model/OrdStatus"), accessFlags := 16409, slot := 0, constantValue := 0 }, { name := "NEW", type := (.object "com/example/fillwire/fillwire/model/OrdStatus"), accessFlags := 16409, slot := 1, constantValue := 0 }, { name := "PARTIALLY_FILLED", type := (.object "com/example/fillwire/fillwire/model/OrdStatus"), accessFlags := 16409, slot := 2, constantValue := 0 }, { name := "FILLED", type := (.object "com/example/fillwire/fillwire/model/OrdStatus"), accessFlags := 16409, slot := 3, constantValue := 0 }, { name := "CANCELED", type := (.object "com/example/fillwire/fillwire/model/OrdStatus"), accessFlags := 16409, slot := 4, constantValue := 0 }, { name := "REJECTED", type := (.object "com/example/fillwire/fillwire/model/OrdStatus"), accessFlags := 16409, slot := 5, constantValue := 0 }, { name := "EXPIRED", type := (.object "com/example/fillwire/fillwire/model/OrdStatus"), accessFlags := 16409, slot := 6, constantValue := 0 }, { name := "$VALUES", type := (.array (.object "com/example/fillwire/fillwire/model/OrdStatus")), accessFlags := 4122, slot := 7, constantValue := 0 }]
  methods := #[k6m0]
  instanceTypes := #[(.object "java/lang/String"), .int, .int]
  staticTypes := #[(.object "com/example/fillwire/fillwire/model/OrdStatus"), (.object "com/example/fillwire/fillwire/model/OrdStatus"), (.object "com/example/fillwire/fillwire/model/OrdStatus"), (.object "com/example/fillwire/fillwire/model/OrdStatus"), (.object "com/example/fillwire/fillwire/model/OrdStatus"), (.object "com/example/fillwire/fillwire/model/OrdStatus"), (.object "com/example/fillwire/fillwire/model/OrdStatus"), (.array (.object "com/example/fillwire/fillwire/model/OrdStatus"))]
  resolved := Array.replicate 70 none
  statics := some 0 }

def pool7 : Array CpInfo := pool [(1, u "java/lang/Cloneable"), (0, .class_ 1), (0, u "java/lang/Object"), (0, .class_ 3)] 3

/-- java/lang/Cloneable -/
def k7 : Class := { plain "java/lang/Cloneable" (some 0) with
  accessFlags := 1537
  interfaces := #[]
  cf := some (fileOf pool7 2 #[] #[] 1537 4 #[] #[])
  fields := #[]
  methods := #[]
  instanceTypes := #[]
  staticTypes := #[]
  resolved := Array.replicate 8 none
  statics := none }

/-- the primitive byte -/
def k8 : Class := { plain "byte" none with kind := .primitive 'B', accessFlags := 0x411 }
/-- [B -/
def k9 : Class := { plain "[B" (some 0) with kind := .array 8 .byte, interfaces := #[7, 4], accessFlags := 1041 }

/-- the primitive int -/
def k10 : Class := { plain "int" none with kind := .primitive 'I', accessFlags := 0x411 }
/-- [I -/
def k11 : Class := { plain "[I" (some 0) with kind := .array 10 .int, interfaces := #[7, 4], accessFlags := 1041 }

def heap : Heap := #[{ cls := 6, slots := #[.ref 1, .ref 7, .ref 6, .ref 2, .ref 3, .ref 4, .ref 5, .null], vm := .statics 6 },
  { cls := 6, slots := #[.null, .int 0, .int 0], vm := .none },
  { cls := 6, slots := #[.null, .int 3, .int 0], vm := .none },
  { cls := 6, slots := #[.null, .int 4, .int 0], vm := .none },
  { cls := 6, slots := #[.null, .int 5, .int 0], vm := .none },
  { cls := 6, slots := #[.null, .int 6, .int 0], vm := .none },
  { cls := 6, slots := #[.null, .int 2, .int 0], vm := .none },
  { cls := 6, slots := #[.null, .int 1, .int 0], vm := .none }]
def classes : Array Class := #[k0, k1, k2, k3, k4, k5, k6, k7, k8, k9, k10, k11]
def interned : List (Array UInt16 × Addr) := []
def slotsUsed : Nat := 29
def theMethod : MethodId := ⟨1, 2⟩
def args0 : Array Value := #[.int 5]
def aboutOver (below : List Frame) : State where
  vm := { classes := classes, interned := interned.toArray }
  heap := heap
  slotsUsed := slotsUsed
  threads := #[{ frames := .invoking theMethod args0 :: below }]
def below0 : List Frame := [.native { method := ⟨0, 0⟩, args := #[] }]
def about1 : State := aboutOver below0
def p0 : Program := .bare "" "" ""
def e0 : Env := launch0.env 0 0 0
theorem w_frames : about1.frames = Frame.invoking theMethod args0 :: below0 := rfl
set_option maxRecDepth 65536 in
theorem w_args : argsFit about1.vm theMethod args0 = true := by decide +kernel
set_option maxRecDepth 65536 in
theorem w_heap : heapFits about1 = true := by decide +kernel
set_option maxRecDepth 65536 in
theorem w_runnable : about1.curStatus? = some .runnable := by decide +kernel
set_option maxRecDepth 65536 in
theorem w_alone : about1.alone = true := by decide +kernel
set_option maxRecDepth 65536 in
theorem w_named : about1.methodNamed? x = some theMethod := by decide +kernel
set_option maxRecDepth 65536 in
theorem w_hears : about1.hears theMethod below0 = true := by decide +kernel
set_option maxRecDepth 65536 in
theorem w_ripe : about1.ripe theMethod args0 below0 = true := by decide +kernel
theorem w_running : about1.status = .running := rfl
set_option maxRecDepth 65536 in
theorem w_room : about1.hasRoom e0.platform room_1 = true :=
  launch0.hasRoom_least _ room_1 (by decide +kernel) (by decide +kernel) (by decide +kernel) (by decide +kernel) (by decide +kernel) (by decide +kernel)
theorem allAtoms_all (ts : List Jvm.Cond) (a : Array Jvm.Value) (st : Jvm.State) : (allAtoms ts).before a st = ts.all (fun c => c.before a st) := by
  induction ts with
  | nil => rfl
  | cons c t ih =>
    show (Jvm.Cond.and c (allAtoms t)).before a st = _
    rw [Jvm.Cond.before_and, ih, List.all_cons]
def words1 : List Jvm.Cond := Jvm.Cond.code x code maxLocals ret :: tables_1
/-- a 'code' word, met by the world's own term for the bytes: nothing is compared byte by byte -/
theorem code_word {y : MethodName} {bytes : ByteArray} {mx : Nat} {rt : Option FieldType} {a : Array Value} {s : State} {m : MethodId} {meth : Method} {c : Code} (h1 : s.methodNamed? y = some m) (h2 : s.vm.method? m = some meth) (h3 : meth.code = some c) (h4 : c.code = bytes)
    (h5 : (c.maxLocals == mx && c.exceptionTable.isEmpty && decide (c.maxStack ≤ mostOperands) && decide (meth.sig.returnType = rt) && !meth.locks && decide (parseMethodDescriptor y.desc = some meth.sig)) = true) : (Jvm.Cond.code y bytes mx rt).before a s = true := by
  simp only [Bool.and_eq_true, beq_iff_eq, Bool.not_eq_true', decide_eq_true_eq] at h5
  obtain ⟨⟨⟨⟨⟨g1, g2⟩, g3⟩, g4⟩, g5⟩, g6⟩ := h5
  simp [Cond.before, Cond.holds, Cond.value, h1, h2, h3, h4, g1, g2, g3, g4, g5, g6]
def isCode : Jvm.Cond → Bool
  | .code _ _ _ _ => true
  | _ => false
theorem all_split {L : List Jvm.Cond} {P : Jvm.Cond → Bool} (h1 : L.all (fun c => isCode c || P c) = true) (h2 : ∀ c ∈ L.filter isCode, P c = true) : L.all P = true := by
  refine List.all_eq_true.mpr fun c hc => ?_
  have h := List.all_eq_true.mp h1 c hc
  rcases Bool.eq_false_or_eq_true (isCode c) with hi | hi
  · exact h2 c (List.mem_filter.mpr ⟨hc, hi⟩)
  · simpa [hi] using h
set_option maxRecDepth 65536 in
theorem w_c0 : (Jvm.Cond.code x code maxLocals ret).before args0 about1 = true := code_word (m := ⟨1, 2⟩) (meth := k1m2) (c := k1c2) (by decide +kernel) rfl rfl rfl (by decide +kernel)
set_option maxRecDepth 65536 in
theorem w_c1 : (Jvm.Cond.code ({ cls := "com/example/fillwire/fillwire/model/OrdStatusIsDonePinLaw", name := "pick", desc := "(I)Lcom/example/fillwire/fillwire/model/OrdStatus;" } : Jvm.MethodName) method_2_code (1 : Nat) (Option.some (Jvm.ClassFile.FieldType.object "com/example/fillwire/fillwire/model/OrdStatus"))).before args0 about1 = true := code_word (m := ⟨1, 1⟩) (meth := k1m1) (c := k1c1) (by decide +kernel) rfl rfl rfl (by decide +kernel)
set_option maxRecDepth 65536 in
theorem w_c2 : (Jvm.Cond.code ({ cls := "com/example/fillwire/fillwire/model/OrdStatus", name := "isDone", desc := "()Z" } : Jvm.MethodName) prog_40_method_4_code (1 : Nat) (Option.some Jvm.ClassFile.FieldType.boolean)).before args0 about1 = true := code_word (m := ⟨6, 0⟩) (meth := k6m0) (c := k6c0) (by decide +kernel) rfl rfl rfl (by decide +kernel)
def codes1 : List Jvm.Cond := [Jvm.Cond.code x code maxLocals ret, Jvm.Cond.code ({ cls := "com/example/fillwire/fillwire/model/OrdStatusIsDonePinLaw", name := "pick", desc := "(I)Lcom/example/fillwire/fillwire/model/OrdStatus;" } : Jvm.MethodName) method_2_code (1 : Nat) (Option.some (Jvm.ClassFile.FieldType.object "com/example/fillwire/fillwire/model/OrdStatus")), Jvm.Cond.code ({ cls := "com/example/fillwire/fillwire/model/OrdStatus", name := "isDone", desc := "()Z" } : Jvm.MethodName) prog_40_method_4_code (1 : Nat) (Option.some Jvm.ClassFile.FieldType.boolean)]
set_option maxRecDepth 65536 in
theorem codes_eq : words1.filter isCode = codes1 := rfl
theorem w_codes : ∀ c ∈ words1.filter isCode, c.before args0 about1 = true := by
  rw [codes_eq]
  intro c hc
  simp only [codes1, List.mem_cons, List.not_mem_nil, or_false] at hc
  rcases hc with rfl | rfl | rfl
  · exact w_c0
  · exact w_c1
  · exact w_c2
set_option maxRecDepth 65536 in
theorem w_t1 : (words1.take 24).all (fun c => isCode c || c.before args0 about1) = true := by decide +kernel
set_option maxRecDepth 65536 in
theorem w_t2 : (words1.drop 24).all (fun c => isCode c || c.before args0 about1) = true := by decide +kernel
theorem w_tables : (allAtoms (Jvm.Cond.code x code maxLocals ret :: tables_1)).before args0 about1 = true := by
  rw [allAtoms_all]
  show words1.all (fun c => c.before args0 about1) = true
  refine all_split ?_ w_codes
  rw [← List.take_append_drop 24 words1, List.all_append, w_t1, w_t2]
  rfl
set_option maxRecDepth 65536 in
theorem w_case : (Jvm.Cond.and given_1 narrow_1).before args0 about1 = true := by decide +kernel
theorem w_applies : (headSpec (Jvm.Cond.code x code maxLocals ret :: tables_1) room_1).applies x e0.platform about1 = true :=
  (Spec.applies_iff w_frames).mpr ⟨w_running, w_runnable, w_alone, w_named, w_hears, w_ripe, w_room, w_tables⟩
theorem atStart : AtStart classFile x code maxLocals ret World_1 tables_1 room_1 Calls_1 rest_1 Pre_1 launch0 p0 e0 about1 theMethod args0 below0 :=
  ⟨lists_1, trivial, launch0.admits_env _ _ _, launch0.least_env, fairChoices_fair.cas, fairChoices_fair.clock, w_frames, w_args, w_heap, w_applies, trivial, trivial, w_case⟩
end start1
theorem witness_1 : WitnessClaimed_1 := ⟨start1.p0, start1.e0, start1.about1, start1.theMethod, start1.args0, start1.below0, start1.atStart⟩
end Jvm.Pilot.@@N@@
