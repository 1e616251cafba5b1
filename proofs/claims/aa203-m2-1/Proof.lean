import JvmDerived
import JvmDerived.Pilot.@@N@@Statement
import JvmDerived.Pilot.@@N@@Code
set_option linter.unusedVariables false
set_option linter.unusedSimpArgs false
namespace Jvm.RoadKit
open Sem ClassFile Op Lib Jvm.Stand Jvm.Free Jvm.LawKit
section Own
variable {p : Program} {l : Launch} {e : Env} {R : Room} {s : State} {m : MethodId} {args : Array Value} {below : List Frame} {meth : Method} {c : Code} {T T' : State} {locs : List Loc} {cells slots kc ks : Nat} {Q : Option Value → Heap → List Loc → Prop} {g g' : JFrame} {FE : Outcome → State → List Loc → Prop}
/-- from T with the frame g on top the body comes to its end: what it returns, the heap and the places written are as Q says; FE: the frame's own word of that end -/
def OFin (p : Program) (e : Env) (below : List Frame) (FE : Outcome → State → List Loc → Prop) (Q : Option Value → Heap → List Loc → Prop) (T : State) (g : JFrame) : Prop :=
  ∃ s₂ o, Steps p.tables e below (T.setTop g) s₂ ∧ s₂.status = .running ∧ Ended s₂ below o ∧ ∃ v L, o = .returned v ∧ Q v s₂.heap L ∧ FE o s₂ L
theorem OFin.st (st : ∀ target, Steps p.tables e below (T'.setTop g') target → Steps p.tables e below (T.setTop g) target) (h : OFin p e below FE Q T' g') : OFin p e below FE Q T g := by
  obtain ⟨s₂, o, h1, r⟩ := h; exact ⟨s₂, o, st _ h1, r⟩
theorem OFin.tr (st : Steps p.tables e below (T.setTop g) (T'.setTop g')) (h : OFin p e below FE Q T' g') : OFin p e below FE Q T g := h.st fun _ k => st.trans k
theorem OFin.cast (q : g = g') (h : OFin p e below FE Q T g') : OFin p e below FE Q T g := q ▸ h
/-- the end's frame: narrow (nothing interned), and wide (over the tables at hand) -/
theorem own_endN {v : Option Value} (hc : cells ≤ kc) (hs : slots ≤ ks) : ∀ fs : List Frame, s.WarmedH (T.setFrames fs).vm → s.sameButNew ({ T.setFrames fs with vm := s.vm } : State) locs cells slots → FrameEnd s (.returned v) (T.setFrames fs) locs kc ks :=
  fun fs hW h => ⟨⟨v, rfl⟩, hW, h.mono hc hs⟩
theorem own_endW {vm₁ : Vm} {n : Nat} {v : Option Value} (hS : s.Since vm₁ n) (hn : n ≤ T.heap.size) (hc : cells ≤ kc) (hs : slots ≤ ks) : ∀ fs : List Frame, (s.setVm vm₁).WarmedH (T.setFrames fs).vm → (s.setVm vm₁).sameButNew ({ T.setFrames fs with vm := vm₁ } : State) locs cells slots → ReturnedEndW s (.returned v) (T.setFrames fs) locs kc ks :=
  fun fs hW h => by
    obtain ⟨a, b, c'⟩ := hS.ended (U := T.setFrames fs) hW hn h
    exact ⟨⟨v, rfl⟩, a, b, c'.mono hc hs⟩
theorem own_retV (X : Stand p l e R s m args below meth c T locs cells slots) (hx : p.tables.exec = Jvm.exec) {pc : Nat} {Ls : Array Slot} (hret : meth.sig.returnType = none) (hlk : meth.locks = false) (hd : decode c.code pc = .ok (.return_, 1)) (hQ : Q none T.heap locs) (hE : ∀ fs : List Frame, s.WarmedH (T.setFrames fs).vm → s.sameButNew ({ T.setFrames fs with vm := s.vm } : State) locs cells slots → FE (.returned none) (T.setFrames fs) locs) : OFin p e below FE Q T (mkF m pc Ls []) := by
  obtain ⟨fs, hr, hrun, hended, hW, hsame⟩ := X.leave (v := none) (fun _ => rfl) hlk
  exact ⟨_, _, X.returnOut hx hret hd hr, hrun, hended, _, _, rfl, hQ, hE fs hW hsame⟩
theorem own_retI (X : Stand p l e R s m args below meth c T locs cells slots) (hx : p.tables.exec = Jvm.exec) {pc : Nat} {Ls : Array Slot} {z : Int32} {rest : List Value} (hret : meth.sig.returnType = some .int) (hlk : meth.locks = false) (hd : decode c.code pc = .ok (.ireturn, 1)) (hQ : Q (some (.int z)) T.heap locs) (hE : ∀ fs : List Frame, s.WarmedH (T.setFrames fs).vm → s.sameButNew ({ T.setFrames fs with vm := s.vm } : State) locs cells slots → FE (.returned (some (.int z))) (T.setFrames fs) locs) : OFin p e below FE Q T (mkF m pc Ls (.int z :: rest)) := by
  obtain ⟨fs, hr, hrun, hended, hW, hsame⟩ := X.leave (v := some (.int z)) (fun h => by rw [hret] at h; cases h) hlk
  exact ⟨_, _, retOut X hx hret rfl (Or.inl ⟨rfl, Or.inl rfl, z, rfl⟩) hd hr, hrun, hended, _, _, rfl, hQ, hE fs hW hsame⟩
theorem own_retN (X : Stand p l e R s m args below meth c T locs cells slots) (hx : p.tables.exec = Jvm.exec) {pc : Nat} {Ls : Array Slot} {z z' : Int32} {rest : List Value} {t : FieldType} (hret : meth.sig.returnType = some t) (hlk : meth.locks = false) (ht : t = .boolean ∨ t = .byte ∨ t = .char ∨ t = .short) (hz : nar t z = z') (hd : decode c.code pc = .ok (.ireturn, 1)) (hQ : Q (some (.int z')) T.heap locs) (hE : ∀ fs : List Frame, s.WarmedH (T.setFrames fs).vm → s.sameButNew ({ T.setFrames fs with vm := s.vm } : State) locs cells slots → FE (.returned (some (.int z'))) (T.setFrames fs) locs) : OFin p e below FE Q T (mkF m pc Ls (.int z :: rest)) := by
  subst hz
  obtain ⟨fs, hr, hrun, hended, hW, hsame⟩ := X.leave (v := some (.int (nar t z))) (fun h => by rw [hret] at h; cases h) hlk
  exact ⟨_, _, retN X hx hret ht hd hr, hrun, hended, _, _, rfl, hQ, hE fs hW hsame⟩
theorem own_retJ (X : Stand p l e R s m args below meth c T locs cells slots) (hx : p.tables.exec = Jvm.exec) {pc : Nat} {Ls : Array Slot} {z : Int64} {rest : List Value} (hret : meth.sig.returnType = some .long) (hlk : meth.locks = false) (hd : decode c.code pc = .ok (.lreturn, 1)) (hQ : Q (some (.long z)) T.heap locs) (hE : ∀ fs : List Frame, s.WarmedH (T.setFrames fs).vm → s.sameButNew ({ T.setFrames fs with vm := s.vm } : State) locs cells slots → FE (.returned (some (.long z))) (T.setFrames fs) locs) : OFin p e below FE Q T (mkF m pc Ls (.long z :: rest)) := by
  obtain ⟨fs, hr, hrun, hended, hW, hsame⟩ := X.leave (v := some (.long z)) (fun h => by rw [hret] at h; cases h) hlk
  exact ⟨_, _, retOut X hx hret rfl (Or.inr (Or.inl ⟨rfl, rfl, z, rfl⟩)) hd hr, hrun, hended, _, _, rfl, hQ, hE fs hW hsame⟩
theorem own_retR (X : Stand p l e R s m args below meth c T locs cells slots) (hx : p.tables.exec = Jvm.exec) {pc : Nat} {Ls : Array Slot} {w : Value} {t : FieldType} {rest : List Value} (hret : meth.sig.returnType = some t) (hlk : meth.locks = false) (ht : t.isReference = true) (hn : narrow t w = w) (hw : w.isRef = true) (hd : decode c.code pc = .ok (.areturn, 1)) (hQ : Q (some w) T.heap locs) (hE : ∀ fs : List Frame, s.WarmedH (T.setFrames fs).vm → s.sameButNew ({ T.setFrames fs with vm := s.vm } : State) locs cells slots → FE (.returned (some w)) (T.setFrames fs) locs) : OFin p e below FE Q T (mkF m pc Ls (w :: rest)) := by
  obtain ⟨fs, hr, hrun, hended, hW, hsame⟩ := X.leave (v := some w) (fun h => by rw [hret] at h; cases h) hlk
  exact ⟨_, _, retOut X hx hret hn (Or.inr (Or.inr (Or.inr (Or.inr ⟨rfl, ht, hw⟩)))) hd hr, hrun, hended, _, _, rfl, hQ, hE fs hW hsame⟩
end Own
end Jvm.RoadKit
namespace Jvm.RoadKit
open Sem ClassFile Op Lib Jvm.Stand Jvm.Free Jvm.LawKit
theorem own_fldI {args : Array Value} {s : State} {t : Term} {C n d : String} {a : Addr} {x : Int32} (ev : t.eval args s none [] s = some (.ref a)) (h : (Jvm.Cond.eq (Term.field t C n d) (Term.int x)).value args s none s [] = some true) : Fld s s.heap a C n d (.int x) := by
  obtain ⟨u, y, e1, e2, -, k2⟩ := cmp_v (Or.inl h)
  cases (Option.some.inj (e2.symm.trans (Term.int_eval x)) : y = .int x)
  obtain ⟨z, rfl⟩ := k2
  have q : z = x := by simpa [Jvm.Cond.value, e1, e2] using h
  subst q
  exact Fld.start ((fld_at ev).symm.trans e1)
theorem own_fldJ {args : Array Value} {s : State} {t : Term} {C n d : String} {a : Addr} {x : Int64} (ev : t.eval args s none [] s = some (.ref a)) (h : (Jvm.Cond.eq (Term.field t C n d) (Term.long x)).value args s none s [] = some true) : Fld s s.heap a C n d (.long x) := by
  obtain ⟨u, y, e1, e2, -, k2⟩ := cmp_v (Or.inl h)
  cases (Option.some.inj (e2.symm.trans (long_at x)) : y = .long x)
  obtain ⟨z, rfl⟩ := k2
  have q : z = x := by simpa [Jvm.Cond.value, e1, e2] using h
  subst q
  exact Fld.start ((fld_at ev).symm.trans e1)
end Jvm.RoadKit
namespace Jvm.RoadKit
theorem own_ite {α : Sort _} {P : α → Prop} {c : Prop} [Decidable c] {a b : α} (ha : P a) (hb : P b) : P (if c then a else b) := by split <;> assumption
theorem own_ite2 {α β : Sort _} {P : α → β → Prop} {c : Prop} [Decidable c] {a b : α} {a' b' : β} (ha : P a a') (hb : P b b') : P (if c then a else b) (if c then a' else b') := by split <;> assumption
/-- (x &&& 0x7fffffff) % d lies between 0 and d -/
theorem own_rem (x d : Int32) (n : Int) (hn : d.toInt = n) (h0 : 0 < n) : 0 ≤ ((x &&& (2147483647 : Int32)) % d).toInt ∧ ((x &&& (2147483647 : Int32)) % d).toInt < n := by
  have h1 := c_mask x (2147483647 : Int32) 31 (by decide) (by decide)
  have h2 := (c_irem (x &&& (2147483647 : Int32)) d n hn).1 (by rw [h1]; omega)
  rw [h2, h1]
  exact ⟨Int.emod_nonneg _ (by omega), Int.emod_lt_of_pos _ h0⟩
end Jvm.RoadKit
namespace Jvm.RoadKit
open Sem ClassFile Op Lib Jvm.Stand Jvm.Free Jvm.LawKit
theorem own_lremM {p : Program} {l : Launch} {e : Env} {R : Room} {s : State} {m : MethodId} {args : Array Value} {below : List Frame} {meth : Method} {c : Code} {T : State} {locs : List Loc} {cells slots : Nat} {g : JFrame} {target : State} (X : Stand p l e R s m args below meth c T locs cells slots) (hx : p.tables.exec = Jvm.exec) (hg : g.method = m) {x y : Int64} {rest : List Value} (hd : decode c.code g.pc = .ok (.lrem, 1)) (hs : g.stack = .long y :: .long x :: rest) (hy : y ≠ 0)
    (hr : Steps p.tables e below (T.setTop { g with pc := g.pc + 1, stack := .long (x % y) :: rest }) target) : Steps p.tables e below (T.setTop g) target :=
  XS.lrem X.here hx hg hd hs hy (by rw [lrem_mod]; exact hr)
end Jvm.RoadKit
namespace Jvm.RoadKit
open Sem ClassFile Op Lib Jvm.Stand Jvm.Free Jvm.LawKit
theorem own_pop2L {p : Program} {l : Launch} {e : Env} {R : Room} {s : State} {m : MethodId} {args : Array Value} {below : List Frame} {meth : Method} {c : Code} {T : State} {locs : List Loc} {cells slots : Nat} {g : JFrame} {target : State} (X : Stand p l e R s m args below meth c T locs cells slots) (hx : p.tables.exec = Jvm.exec) (hg : g.method = m) {x : Int64} {rest : List Value} (hd : decode c.code g.pc = .ok (.pop2, 1)) (hs : g.stack = .long x :: rest)
    (hr : Steps p.tables e below (T.setTop { g with pc := g.pc + 1, stack := rest }) target) : Steps p.tables e below (T.setTop g) target := by
  subst hg
  jvm_step X.here [X.here.top, hx, hd, hs, Value.category]
  exact hr
end Jvm.RoadKit
namespace Jvm.Pilot.@@N@@
open Jvm Jvm.ClassFile Sem Op Lib Jvm.Free Jvm.Stand Jvm.LawKit Jvm.RoadKit Bundle Jvm.Pilot.@@N@@.Jvm.D
theorem d1_0 : decode method_2_code 0 = .ok (.iload_n 0, 1) := by decide +kernel
theorem d1_1 : decode method_2_code 1 = .ok (.ifCond .ne 7, 3) := by decide +kernel
theorem d1_4 : decode method_2_code 4 = .ok (.getstatic 7, 3) := by decide +kernel
theorem d1_7 : decode method_2_code 7 = .ok (.areturn, 1) := by decide +kernel
theorem d1_8 : decode method_2_code 8 = .ok (.iload_n 0, 1) := by decide +kernel
theorem d1_9 : decode method_2_code 9 = .ok (.iconst 1, 1) := by decide +kernel
theorem d1_10 : decode method_2_code 10 = .ok (.if_icmp .ne 7, 3) := by decide +kernel
theorem d1_13 : decode method_2_code 13 = .ok (.getstatic 13, 3) := by decide +kernel
theorem d1_16 : decode method_2_code 16 = .ok (.areturn, 1) := by decide +kernel
theorem d1_17 : decode method_2_code 17 = .ok (.iload_n 0, 1) := by decide +kernel
theorem d1_18 : decode method_2_code 18 = .ok (.iconst 2, 1) := by decide +kernel
theorem d1_19 : decode method_2_code 19 = .ok (.if_icmp .ne 7, 3) := by decide +kernel
theorem d1_22 : decode method_2_code 22 = .ok (.getstatic 16, 3) := by decide +kernel
theorem d1_25 : decode method_2_code 25 = .ok (.areturn, 1) := by decide +kernel
theorem d1_26 : decode method_2_code 26 = .ok (.iload_n 0, 1) := by decide +kernel
theorem d1_27 : decode method_2_code 27 = .ok (.iconst 3, 1) := by decide +kernel
theorem d1_28 : decode method_2_code 28 = .ok (.if_icmp .ne 7, 3) := by decide +kernel
theorem d1_31 : decode method_2_code 31 = .ok (.getstatic 19, 3) := by decide +kernel
theorem d1_34 : decode method_2_code 34 = .ok (.areturn, 1) := by decide +kernel
theorem d1_35 : decode method_2_code 35 = .ok (.iload_n 0, 1) := by decide +kernel
theorem d1_36 : decode method_2_code 36 = .ok (.iconst 4, 1) := by decide +kernel
theorem d1_37 : decode method_2_code 37 = .ok (.if_icmp .ne 7, 3) := by decide +kernel
theorem d1_40 : decode method_2_code 40 = .ok (.getstatic 22, 3) := by decide +kernel
theorem d1_43 : decode method_2_code 43 = .ok (.areturn, 1) := by decide +kernel
theorem d1_44 : decode method_2_code 44 = .ok (.iload_n 0, 1) := by decide +kernel
theorem d1_45 : decode method_2_code 45 = .ok (.iconst 5, 1) := by decide +kernel
theorem d1_46 : decode method_2_code 46 = .ok (.if_icmp .ne 7, 3) := by decide +kernel
theorem d1_49 : decode method_2_code 49 = .ok (.getstatic 25, 3) := by decide +kernel
theorem d1_52 : decode method_2_code 52 = .ok (.areturn, 1) := by decide +kernel
theorem d1_53 : decode method_2_code 53 = .ok (.iload_n 0, 1) := by decide +kernel
theorem d1_54 : decode method_2_code 54 = .ok (.bipush 6, 2) := by decide +kernel
theorem d1_56 : decode method_2_code 56 = .ok (.if_icmp .ne 7, 3) := by decide +kernel
theorem d1_59 : decode method_2_code 59 = .ok (.getstatic 28, 3) := by decide +kernel
theorem d1_62 : decode method_2_code 62 = .ok (.areturn, 1) := by decide +kernel
theorem d1_63 : decode method_2_code 63 = .ok (.iload_n 0, 1) := by decide +kernel
theorem d1_64 : decode method_2_code 64 = .ok (.bipush 7, 2) := by decide +kernel
theorem d1_66 : decode method_2_code 66 = .ok (.if_icmp .ne 7, 3) := by decide +kernel
theorem d1_69 : decode method_2_code 69 = .ok (.getstatic 31, 3) := by decide +kernel
theorem d1_72 : decode method_2_code 72 = .ok (.areturn, 1) := by decide +kernel
theorem d1_73 : decode method_2_code 73 = .ok (.getstatic 34, 3) := by decide +kernel
theorem d1_76 : decode method_2_code 76 = .ok (.areturn, 1) := by decide +kernel
theorem pn_com_example_verdikt_verdikt_model_ElementaryTypeWrapPinLaw : plainName "com/example/verdikt/verdikt/model/ElementaryTypeWrapPinLaw" = true := by first | (simp [plainName, overriddenIn]; done) | decide +kernel
theorem d2_0 : decode prog_74_method_8_code 0 = .ok (.aload_n 0, 1) := by decide +kernel
theorem d2_1 : decode prog_74_method_8_code 1 = .ok (.getfield 50, 3) := by decide +kernel
theorem d2_4 : decode prog_74_method_8_code 4 = .ok (.bipush 64, 2) := by decide +kernel
theorem d2_6 : decode prog_74_method_8_code 6 = .ok (.if_icmp .ne 8, 3) := by decide +kernel
theorem d2_9 : decode prog_74_method_8_code 9 = .ok (.lload_n 1, 1) := by decide +kernel
theorem d2_10 : decode prog_74_method_8_code 10 = .ok (.lstore_n 3, 1) := by decide +kernel
theorem d2_11 : decode prog_74_method_8_code 11 = .ok (.goto 42, 3) := by decide +kernel
theorem d2_53 : decode prog_74_method_8_code 53 = .ok (.lload_n 3, 1) := by decide +kernel
theorem d2_54 : decode prog_74_method_8_code 54 = .ok (.lreturn, 1) := by decide +kernel
theorem d2_14 : decode prog_74_method_8_code 14 = .ok (.aload_n 0, 1) := by decide +kernel
theorem d2_15 : decode prog_74_method_8_code 15 = .ok (.getfield 54, 3) := by decide +kernel
theorem d2_18 : decode prog_74_method_8_code 18 = .ok (.ifCond .eq 24, 3) := by decide +kernel
theorem d2_42 : decode prog_74_method_8_code 42 = .ok (.lload_n 1, 1) := by decide +kernel
theorem d2_43 : decode prog_74_method_8_code 43 = .ok (.lconst 1, 1) := by decide +kernel
theorem d2_44 : decode prog_74_method_8_code 44 = .ok (.aload_n 0, 1) := by decide +kernel
theorem d2_45 : decode prog_74_method_8_code 45 = .ok (.getfield 50, 3) := by decide +kernel
theorem d2_48 : decode prog_74_method_8_code 48 = .ok (.lshl, 1) := by decide +kernel
theorem d2_49 : decode prog_74_method_8_code 49 = .ok (.lconst 1, 1) := by decide +kernel
theorem d2_50 : decode prog_74_method_8_code 50 = .ok (.lsub, 1) := by decide +kernel
theorem d2_51 : decode prog_74_method_8_code 51 = .ok (.land, 1) := by decide +kernel
theorem d2_52 : decode prog_74_method_8_code 52 = .ok (.lstore_n 3, 1) := by decide +kernel
theorem d2_21 : decode prog_74_method_8_code 21 = .ok (.lload_n 1, 1) := by decide +kernel
theorem d2_22 : decode prog_74_method_8_code 22 = .ok (.bipush 64, 2) := by decide +kernel
theorem d2_24 : decode prog_74_method_8_code 24 = .ok (.aload_n 0, 1) := by decide +kernel
theorem d2_25 : decode prog_74_method_8_code 25 = .ok (.getfield 50, 3) := by decide +kernel
theorem d2_28 : decode prog_74_method_8_code 28 = .ok (.isub, 1) := by decide +kernel
theorem d2_29 : decode prog_74_method_8_code 29 = .ok (.lshl, 1) := by decide +kernel
theorem d2_30 : decode prog_74_method_8_code 30 = .ok (.bipush 64, 2) := by decide +kernel
theorem d2_32 : decode prog_74_method_8_code 32 = .ok (.aload_n 0, 1) := by decide +kernel
theorem d2_33 : decode prog_74_method_8_code 33 = .ok (.getfield 50, 3) := by decide +kernel
theorem d2_36 : decode prog_74_method_8_code 36 = .ok (.isub, 1) := by decide +kernel
theorem d2_37 : decode prog_74_method_8_code 37 = .ok (.lshr, 1) := by decide +kernel
theorem d2_38 : decode prog_74_method_8_code 38 = .ok (.lstore_n 3, 1) := by decide +kernel
theorem d2_39 : decode prog_74_method_8_code 39 = .ok (.goto 14, 3) := by decide +kernel
theorem pn_com_example_verdikt_verdikt_model_ElementaryType : plainName "com/example/verdikt/verdikt/model/ElementaryType" = true := by first | (simp [plainName, overriddenIn]; done) | decide +kernel
theorem d3_0 : decode method_3_code 0 = .ok (.iload_n 0, 1) := by decide +kernel
theorem d3_1 : decode method_3_code 1 = .ok (.ifCond .ne 7, 3) := by decide +kernel
theorem d3_4 : decode method_3_code 4 = .ok (.lload_n 1, 1) := by decide +kernel
theorem d3_5 : decode method_3_code 5 = .ok (.lconst 1, 1) := by decide +kernel
theorem d3_6 : decode method_3_code 6 = .ok (.land, 1) := by decide +kernel
theorem d3_7 : decode method_3_code 7 = .ok (.lreturn, 1) := by decide +kernel
theorem d3_8 : decode method_3_code 8 = .ok (.iload_n 0, 1) := by decide +kernel
theorem d3_9 : decode method_3_code 9 = .ok (.iconst 1, 1) := by decide +kernel
theorem d3_10 : decode method_3_code 10 = .ok (.if_icmp .ne 8, 3) := by decide +kernel
theorem d3_13 : decode method_3_code 13 = .ok (.lload_n 1, 1) := by decide +kernel
theorem d3_14 : decode method_3_code 14 = .ok (.l2i, 1) := by decide +kernel
theorem d3_15 : decode method_3_code 15 = .ok (.i2b, 1) := by decide +kernel
theorem d3_16 : decode method_3_code 16 = .ok (.i2l, 1) := by decide +kernel
theorem d3_17 : decode method_3_code 17 = .ok (.lreturn, 1) := by decide +kernel
theorem d3_18 : decode method_3_code 18 = .ok (.iload_n 0, 1) := by decide +kernel
theorem d3_19 : decode method_3_code 19 = .ok (.iconst 2, 1) := by decide +kernel
theorem d3_20 : decode method_3_code 20 = .ok (.if_icmp .ne 8, 3) := by decide +kernel
theorem d3_23 : decode method_3_code 23 = .ok (.lload_n 1, 1) := by decide +kernel
theorem d3_24 : decode method_3_code 24 = .ok (.l2i, 1) := by decide +kernel
theorem d3_25 : decode method_3_code 25 = .ok (.i2s, 1) := by decide +kernel
theorem d3_26 : decode method_3_code 26 = .ok (.i2l, 1) := by decide +kernel
theorem d3_27 : decode method_3_code 27 = .ok (.lreturn, 1) := by decide +kernel
theorem d3_28 : decode method_3_code 28 = .ok (.iload_n 0, 1) := by decide +kernel
theorem d3_29 : decode method_3_code 29 = .ok (.iconst 3, 1) := by decide +kernel
theorem d3_30 : decode method_3_code 30 = .ok (.if_icmp .ne 7, 3) := by decide +kernel
theorem d3_33 : decode method_3_code 33 = .ok (.lload_n 1, 1) := by decide +kernel
theorem d3_34 : decode method_3_code 34 = .ok (.l2i, 1) := by decide +kernel
theorem d3_35 : decode method_3_code 35 = .ok (.i2l, 1) := by decide +kernel
theorem d3_36 : decode method_3_code 36 = .ok (.lreturn, 1) := by decide +kernel
theorem d3_37 : decode method_3_code 37 = .ok (.iload_n 0, 1) := by decide +kernel
theorem d3_38 : decode method_3_code 38 = .ok (.iconst 4, 1) := by decide +kernel
theorem d3_39 : decode method_3_code 39 = .ok (.if_icmp .ne 5, 3) := by decide +kernel
theorem d3_42 : decode method_3_code 42 = .ok (.lload_n 1, 1) := by decide +kernel
theorem d3_43 : decode method_3_code 43 = .ok (.lreturn, 1) := by decide +kernel
theorem d3_44 : decode method_3_code 44 = .ok (.iload_n 0, 1) := by decide +kernel
theorem d3_45 : decode method_3_code 45 = .ok (.iconst 5, 1) := by decide +kernel
theorem d3_46 : decode method_3_code 46 = .ok (.if_icmp .ne 9, 3) := by decide +kernel
theorem d3_49 : decode method_3_code 49 = .ok (.lload_n 1, 1) := by decide +kernel
theorem d3_50 : decode method_3_code 50 = .ok (.ldc2_w 37, 3) := by decide +kernel
theorem d3_53 : decode method_3_code 53 = .ok (.land, 1) := by decide +kernel
theorem d3_54 : decode method_3_code 54 = .ok (.lreturn, 1) := by decide +kernel
theorem d3_55 : decode method_3_code 55 = .ok (.iload_n 0, 1) := by decide +kernel
theorem d3_56 : decode method_3_code 56 = .ok (.bipush 6, 2) := by decide +kernel
theorem d3_58 : decode method_3_code 58 = .ok (.if_icmp .ne 9, 3) := by decide +kernel
theorem d3_61 : decode method_3_code 61 = .ok (.lload_n 1, 1) := by decide +kernel
theorem d3_62 : decode method_3_code 62 = .ok (.ldc2_w 39, 3) := by decide +kernel
theorem d3_65 : decode method_3_code 65 = .ok (.land, 1) := by decide +kernel
theorem d3_66 : decode method_3_code 66 = .ok (.lreturn, 1) := by decide +kernel
theorem d3_67 : decode method_3_code 67 = .ok (.iload_n 0, 1) := by decide +kernel
theorem d3_68 : decode method_3_code 68 = .ok (.bipush 7, 2) := by decide +kernel
theorem d3_70 : decode method_3_code 70 = .ok (.if_icmp .ne 9, 3) := by decide +kernel
theorem d3_73 : decode method_3_code 73 = .ok (.lload_n 1, 1) := by decide +kernel
theorem d3_74 : decode method_3_code 74 = .ok (.ldc2_w 41, 3) := by decide +kernel
theorem d3_77 : decode method_3_code 77 = .ok (.land, 1) := by decide +kernel
theorem d3_78 : decode method_3_code 78 = .ok (.lreturn, 1) := by decide +kernel
theorem d3_79 : decode method_3_code 79 = .ok (.lload_n 1, 1) := by decide +kernel
theorem d3_80 : decode method_3_code 80 = .ok (.lreturn, 1) := by decide +kernel
theorem pd_0 : parseMethodDescriptor "(I)Lcom/example/verdikt/verdikt/model/ElementaryType;" = some ⟨[.int], some (.object "com/example/verdikt/verdikt/model/ElementaryType")⟩ := by decide +kernel
theorem pd_2 : parseMethodDescriptor "(J)J" = some ⟨[.long], some .long⟩ := by decide +kernel
theorem pd_1 : parseMethodDescriptor "(IJ)J" = some ⟨[.int, .long], some .long⟩ := by decide +kernel
def Gb (p0 : Int32) : Int32 := if p0 = (0 : Int32) then (1 : Int32) else (if p0 = (1 : Int32) then (8 : Int32) else (if p0 = (2 : Int32) then (16 : Int32) else (if p0 = (3 : Int32) then (32 : Int32) else (if p0 = (4 : Int32) then (64 : Int32) else (if p0 = (5 : Int32) then (8 : Int32) else (if p0 = (6 : Int32) then (16 : Int32) else (if p0 = (7 : Int32) then (32 : Int32) else ((64 : Int32)))))))))
def Gs (p0 : Int32) : Int32 := if p0 = (0 : Int32) then (0 : Int32) else (if p0 = (1 : Int32) then (1 : Int32) else (if p0 = (2 : Int32) then (1 : Int32) else (if p0 = (3 : Int32) then (1 : Int32) else (if p0 = (4 : Int32) then (1 : Int32) else (if p0 = (5 : Int32) then (0 : Int32) else (if p0 = (6 : Int32) then (0 : Int32) else (if p0 = (7 : Int32) then (0 : Int32) else ((0 : Int32)))))))))
theorem ef_rm1 (m : MethodId) (p0 : Int32) : entryFrame m #[(.int p0)] 1 = mkF m 0 #[.val (.int p0)] [] := by first | (simp [entryFrame, mkF, argsToLocals, Value.category]; done) | rfl
def F1 (p0 : Int32) (w_BOOL : Addr) (w_SINT : Addr) (w_INT : Addr) (w_DINT : Addr) (w_LINT : Addr) (w_USINT : Addr) (w_UINT : Addr) (w_UDINT : Addr) (w_ULINT : Addr) : Addr := if p0 = (0 : Int32) then w_BOOL else (if p0 = (1 : Int32) then w_SINT else (if p0 = (2 : Int32) then w_INT else (if p0 = (3 : Int32) then w_DINT else (if p0 = (4 : Int32) then w_LINT else (if p0 = (5 : Int32) then w_USINT else (if p0 = (6 : Int32) then w_UINT else (if p0 = (7 : Int32) then w_UDINT else w_ULINT)))))))
def Q1 (p0 : Int32) (w_BOOL : Addr) (w_SINT : Addr) (w_INT : Addr) (w_DINT : Addr) (w_LINT : Addr) (w_USINT : Addr) (w_UINT : Addr) (w_UDINT : Addr) (w_ULINT : Addr) (h0 : Heap) (n0 : Nat) (v : Option Value) (h : Heap) (L : List Loc) : Prop := v = some (Value.ref (F1 p0 w_BOOL w_SINT w_INT w_DINT w_LINT w_USINT w_UINT w_UDINT w_ULINT)) ∧ Fr n0 L ∧ h = h0
set_option maxRecDepth 65536 in
set_option maxHeartbeats 40000000 in
theorem rm1 (l : Launch) (Z : State) (a0 : Array Value) (hw : ∀ d ∈ tables_1, d.before a0 Z = true) (ws : List Jvm.Cond) (p0 : Int32) (w_BOOL : Addr) (w_SINT : Addr) (w_INT : Addr) (w_DINT : Addr) (w_LINT : Addr) (w_USINT : Addr) (w_UINT : Addr) (w_UDINT : Addr) (w_ULINT : Addr) (h0 : Heap) (n0 : Nat) (O0 : Old Z n0 h0) (S_BOOL : Sta Z Z.heap "com/example/verdikt/verdikt/model/ElementaryType" "BOOL" "Lcom/example/verdikt/verdikt/model/ElementaryType;" (.ref w_BOOL)) (S_SINT : Sta Z Z.heap "com/example/verdikt/verdikt/model/ElementaryType" "SINT" "Lcom/example/verdikt/verdikt/model/ElementaryType;" (.ref w_SINT)) (S_INT : Sta Z Z.heap "com/example/verdikt/verdikt/model/ElementaryType" "INT" "Lcom/example/verdikt/verdikt/model/ElementaryType;" (.ref w_INT)) (S_DINT : Sta Z Z.heap "com/example/verdikt/verdikt/model/ElementaryType" "DINT" "Lcom/example/verdikt/verdikt/model/ElementaryType;" (.ref w_DINT)) (S_LINT : Sta Z Z.heap "com/example/verdikt/verdikt/model/ElementaryType" "LINT" "Lcom/example/verdikt/verdikt/model/ElementaryType;" (.ref w_LINT)) (S_USINT : Sta Z Z.heap "com/example/verdikt/verdikt/model/ElementaryType" "USINT" "Lcom/example/verdikt/verdikt/model/ElementaryType;" (.ref w_USINT)) (S_UINT : Sta Z Z.heap "com/example/verdikt/verdikt/model/ElementaryType" "UINT" "Lcom/example/verdikt/verdikt/model/ElementaryType;" (.ref w_UINT)) (S_UDINT : Sta Z Z.heap "com/example/verdikt/verdikt/model/ElementaryType" "UDINT" "Lcom/example/verdikt/verdikt/model/ElementaryType;" (.ref w_UDINT)) (S_ULINT : Sta Z Z.heap "com/example/verdikt/verdikt/model/ElementaryType" "ULINT" "Lcom/example/verdikt/verdikt/model/ElementaryType;" (.ref w_ULINT)) :
    MetFree l (⟨"com/example/verdikt/verdikt/model/ElementaryTypeWrapPinLaw", "pick", "(I)Lcom/example/verdikt/verdikt/model/ElementaryType;"⟩ : MethodName) (head1 (Jvm.Cond.code (⟨"com/example/verdikt/verdikt/model/ElementaryTypeWrapPinLaw", "pick", "(I)Lcom/example/verdikt/verdikt/model/ElementaryType;"⟩ : MethodName) method_2_code 1 (some (.object "com/example/verdikt/verdikt/model/ElementaryType")) :: ws) ({ frames := 0, cells := 0, slots := 0, locals := 0 } : Room)) (fun a U => a = #[(.int p0)] ∧ Z.Warmed39 U.vm ∧ U.heap = h0) (fun _ _ _ _ _ => True) (fun _ U o U' => ∃ v L, o = .returned v ∧ Q1 p0 w_BOOL w_SINT w_INT w_DINT w_LINT w_USINT w_UINT w_UDINT w_ULINT h0 n0 v U'.heap L ∧ FrameEnd U o U' L ({ frames := 0, cells := 0, slots := 0, locals := 0 } : Room).cells ({ frames := 0, cells := 0, slots := 0, locals := 0 } : Room).slots) := by
  refine MetFree.of_bodySF (plainFor_of_name pn_com_example_verdikt_verdikt_model_ElementaryTypeWrapPinLaw) hisR ?_
  intro p e s m args below meth c s₁ Bd hml0 hP hK
  obtain ⟨rfl, hZ, hh⟩ := hP
  have hx := Bd.exec
  have hby := Bd.bytes
  have hml : c.maxLocals = 1 := hml0
  have hown : s.vm.findClass "com/example/verdikt/verdikt/model/ElementaryTypeWrapPinLaw" = some m.cls := findClass_of_methodNamed Bd.named
  have hnm := (name_of_methodNamed Bd.named Bd.method).1
  have X0 : Stand p l e ({ frames := 0, cells := 0, slots := 0, locals := 0 } : Room) s m #[(.int p0)] below meth c s₁ [] 0 0 := Stand.of_body Bd
  have e0 : s₁.heap = h0 := by rw [← hh, Bd.state]; rfl
  have N0 := Fr.nil n0
  show OFin p e below (fun o t L => FrameEnd s o t L ({ frames := 0, cells := 0, slots := 0, locals := 0 } : Room).cells ({ frames := 0, cells := 0, slots := 0, locals := 0 } : Room).slots) (fun v h L => Q1 p0 w_BOOL w_SINT w_INT w_DINT w_LINT w_USINT w_UINT w_UDINT w_ULINT h0 n0 v h L) s₁ (entryFrame m #[(.int p0)] 1)
  refine OFin.cast (ef_rm1 m p0) ?_
  show OFin p e below _ _ s₁ (mkF m 0 #[.val (.int p0)] [])
  refine OFin.st (fun t k => XS.iloadN X0.here hx rfl (hb hby d1_0) rfl k) ?_
  show OFin p e below _ _ s₁ (mkF m 1 #[.val (.int p0)] [(.int p0)])
  by_cases hc1 : p0 = (0 : Int32)
  · refine OFin.st (fun t k => XS.ifNo X0.here hx rfl (hb hby d1_1) rfl ((if0 _ _).trans (teq hc1).2) k) ?_
    show OFin p e below _ _ s₁ (mkF m 4 #[.val (.int p0)] [])
    obtain ⟨T1, X1, e1, st1⟩ := getS2 X0 hx hZ hown (host := "") (Or.inl (hw _ (List.mem_of_getElem? (i := 5) rfl))) Via.refl e0 (S_BOOL.ext O0.2) (g := (mkF m 4 #[.val (.int p0)] [])) rfl (hb hby d1_4)
    refine OFin.st st1 ?_
    show OFin p e below _ _ T1 (mkF m 7 #[.val (.int p0)] [(.ref w_BOOL)])
    exact own_retR X1 hx Bd.returns Bd.notSynchronized rfl rfl rfl (hb hby d1_7) ⟨(by rw [F1, if_pos hc1]; try rfl), N0, e1⟩ (own_endN (by decide) (by decide))
  · refine OFin.st (fun t k => XS.ifYes X0.here hx rfl (pc0 := 1) (pc' := 8) rfl (hb hby d1_1) rfl ((if0 _ _).trans (feq hc1).2) (by decide) (by decide) k) ?_
    show OFin p e below _ _ s₁ (mkF m 8 #[.val (.int p0)] [])
    refine OFin.st (fun t k => XS.iloadN X0.here hx rfl (hb hby d1_8) rfl k) ?_
    show OFin p e below _ _ s₁ (mkF m 9 #[.val (.int p0)] [(.int p0)])
    refine OFin.st (fun t k => XS.iconst X0.here hx rfl (hb hby d1_9) k) ?_
    show OFin p e below _ _ s₁ (mkF m 10 #[.val (.int p0)] [(.int (1 : Int32)), (.int p0)])
    by_cases hc10 : p0 = (1 : Int32)
    · refine OFin.st (fun t k => XS.icmpNo X0.here hx rfl (hb hby d1_10) rfl (teq hc10).2 k) ?_
      show OFin p e below _ _ s₁ (mkF m 13 #[.val (.int p0)] [])
      obtain ⟨T2, X2, e2, st2⟩ := getS2 X0 hx hZ hown (host := "") (Or.inl (hw _ (List.mem_of_getElem? (i := 20) rfl))) Via.refl e0 (S_SINT.ext O0.2) (g := (mkF m 13 #[.val (.int p0)] [])) rfl (hb hby d1_13)
      refine OFin.st st2 ?_
      show OFin p e below _ _ T2 (mkF m 16 #[.val (.int p0)] [(.ref w_SINT)])
      exact own_retR X2 hx Bd.returns Bd.notSynchronized rfl rfl rfl (hb hby d1_16) ⟨(by rw [F1, if_neg hc1, if_pos hc10]; try rfl), N0, e2⟩ (own_endN (by decide) (by decide))
    · refine OFin.st (fun t k => XS.icmpYes X0.here hx rfl (pc0 := 10) (pc' := 17) rfl (hb hby d1_10) rfl (feq hc10).2 (by decide) (by decide) k) ?_
      show OFin p e below _ _ s₁ (mkF m 17 #[.val (.int p0)] [])
      refine OFin.st (fun t k => XS.iloadN X0.here hx rfl (hb hby d1_17) rfl k) ?_
      show OFin p e below _ _ s₁ (mkF m 18 #[.val (.int p0)] [(.int p0)])
      refine OFin.st (fun t k => XS.iconst X0.here hx rfl (hb hby d1_18) k) ?_
      show OFin p e below _ _ s₁ (mkF m 19 #[.val (.int p0)] [(.int (2 : Int32)), (.int p0)])
      by_cases hc19 : p0 = (2 : Int32)
      · refine OFin.st (fun t k => XS.icmpNo X0.here hx rfl (hb hby d1_19) rfl (teq hc19).2 k) ?_
        show OFin p e below _ _ s₁ (mkF m 22 #[.val (.int p0)] [])
        obtain ⟨T3, X3, e3, st3⟩ := getS2 X0 hx hZ hown (host := "") (Or.inl (hw _ (List.mem_of_getElem? (i := 22) rfl))) Via.refl e0 (S_INT.ext O0.2) (g := (mkF m 22 #[.val (.int p0)] [])) rfl (hb hby d1_22)
        refine OFin.st st3 ?_
        show OFin p e below _ _ T3 (mkF m 25 #[.val (.int p0)] [(.ref w_INT)])
        exact own_retR X3 hx Bd.returns Bd.notSynchronized rfl rfl rfl (hb hby d1_25) ⟨(by rw [F1, if_neg hc1, if_neg hc10, if_pos hc19]; try rfl), N0, e3⟩ (own_endN (by decide) (by decide))
      · refine OFin.st (fun t k => XS.icmpYes X0.here hx rfl (pc0 := 19) (pc' := 26) rfl (hb hby d1_19) rfl (feq hc19).2 (by decide) (by decide) k) ?_
        show OFin p e below _ _ s₁ (mkF m 26 #[.val (.int p0)] [])
        refine OFin.st (fun t k => XS.iloadN X0.here hx rfl (hb hby d1_26) rfl k) ?_
        show OFin p e below _ _ s₁ (mkF m 27 #[.val (.int p0)] [(.int p0)])
        refine OFin.st (fun t k => XS.iconst X0.here hx rfl (hb hby d1_27) k) ?_
        show OFin p e below _ _ s₁ (mkF m 28 #[.val (.int p0)] [(.int (3 : Int32)), (.int p0)])
        by_cases hc28 : p0 = (3 : Int32)
        · refine OFin.st (fun t k => XS.icmpNo X0.here hx rfl (hb hby d1_28) rfl (teq hc28).2 k) ?_
          show OFin p e below _ _ s₁ (mkF m 31 #[.val (.int p0)] [])
          obtain ⟨T4, X4, e4, st4⟩ := getS2 X0 hx hZ hown (host := "") (Or.inl (hw _ (List.mem_of_getElem? (i := 32) rfl))) Via.refl e0 (S_DINT.ext O0.2) (g := (mkF m 31 #[.val (.int p0)] [])) rfl (hb hby d1_31)
          refine OFin.st st4 ?_
          show OFin p e below _ _ T4 (mkF m 34 #[.val (.int p0)] [(.ref w_DINT)])
          exact own_retR X4 hx Bd.returns Bd.notSynchronized rfl rfl rfl (hb hby d1_34) ⟨(by rw [F1, if_neg hc1, if_neg hc10, if_neg hc19, if_pos hc28]; try rfl), N0, e4⟩ (own_endN (by decide) (by decide))
        · refine OFin.st (fun t k => XS.icmpYes X0.here hx rfl (pc0 := 28) (pc' := 35) rfl (hb hby d1_28) rfl (feq hc28).2 (by decide) (by decide) k) ?_
          show OFin p e below _ _ s₁ (mkF m 35 #[.val (.int p0)] [])
          refine OFin.st (fun t k => XS.iloadN X0.here hx rfl (hb hby d1_35) rfl k) ?_
          show OFin p e below _ _ s₁ (mkF m 36 #[.val (.int p0)] [(.int p0)])
          refine OFin.st (fun t k => XS.iconst X0.here hx rfl (hb hby d1_36) k) ?_
          show OFin p e below _ _ s₁ (mkF m 37 #[.val (.int p0)] [(.int (4 : Int32)), (.int p0)])
          by_cases hc37 : p0 = (4 : Int32)
          · refine OFin.st (fun t k => XS.icmpNo X0.here hx rfl (hb hby d1_37) rfl (teq hc37).2 k) ?_
            show OFin p e below _ _ s₁ (mkF m 40 #[.val (.int p0)] [])
            obtain ⟨T5, X5, e5, st5⟩ := getS2 X0 hx hZ hown (host := "") (Or.inl (hw _ (List.mem_of_getElem? (i := 30) rfl))) Via.refl e0 (S_LINT.ext O0.2) (g := (mkF m 40 #[.val (.int p0)] [])) rfl (hb hby d1_40)
            refine OFin.st st5 ?_
            show OFin p e below _ _ T5 (mkF m 43 #[.val (.int p0)] [(.ref w_LINT)])
            exact own_retR X5 hx Bd.returns Bd.notSynchronized rfl rfl rfl (hb hby d1_43) ⟨(by rw [F1, if_neg hc1, if_neg hc10, if_neg hc19, if_neg hc28, if_pos hc37]; try rfl), N0, e5⟩ (own_endN (by decide) (by decide))
          · refine OFin.st (fun t k => XS.icmpYes X0.here hx rfl (pc0 := 37) (pc' := 44) rfl (hb hby d1_37) rfl (feq hc37).2 (by decide) (by decide) k) ?_
            show OFin p e below _ _ s₁ (mkF m 44 #[.val (.int p0)] [])
            refine OFin.st (fun t k => XS.iloadN X0.here hx rfl (hb hby d1_44) rfl k) ?_
            show OFin p e below _ _ s₁ (mkF m 45 #[.val (.int p0)] [(.int p0)])
            refine OFin.st (fun t k => XS.iconst X0.here hx rfl (hb hby d1_45) k) ?_
            show OFin p e below _ _ s₁ (mkF m 46 #[.val (.int p0)] [(.int (5 : Int32)), (.int p0)])
            by_cases hc46 : p0 = (5 : Int32)
            · refine OFin.st (fun t k => XS.icmpNo X0.here hx rfl (hb hby d1_46) rfl (teq hc46).2 k) ?_
              show OFin p e below _ _ s₁ (mkF m 49 #[.val (.int p0)] [])
              obtain ⟨T6, X6, e6, st6⟩ := getS2 X0 hx hZ hown (host := "") (Or.inl (hw _ (List.mem_of_getElem? (i := 36) rfl))) Via.refl e0 (S_USINT.ext O0.2) (g := (mkF m 49 #[.val (.int p0)] [])) rfl (hb hby d1_49)
              refine OFin.st st6 ?_
              show OFin p e below _ _ T6 (mkF m 52 #[.val (.int p0)] [(.ref w_USINT)])
              exact own_retR X6 hx Bd.returns Bd.notSynchronized rfl rfl rfl (hb hby d1_52) ⟨(by rw [F1, if_neg hc1, if_neg hc10, if_neg hc19, if_neg hc28, if_neg hc37, if_pos hc46]; try rfl), N0, e6⟩ (own_endN (by decide) (by decide))
            · refine OFin.st (fun t k => XS.icmpYes X0.here hx rfl (pc0 := 46) (pc' := 53) rfl (hb hby d1_46) rfl (feq hc46).2 (by decide) (by decide) k) ?_
              show OFin p e below _ _ s₁ (mkF m 53 #[.val (.int p0)] [])
              refine OFin.st (fun t k => XS.iloadN X0.here hx rfl (hb hby d1_53) rfl k) ?_
              show OFin p e below _ _ s₁ (mkF m 54 #[.val (.int p0)] [(.int p0)])
              refine OFin.st (fun t k => XS.bipush X0.here hx rfl (hb hby d1_54) k) ?_
              show OFin p e below _ _ s₁ (mkF m 56 #[.val (.int p0)] [(.int (6 : Int32)), (.int p0)])
              by_cases hc56 : p0 = (6 : Int32)
              · refine OFin.st (fun t k => XS.icmpNo X0.here hx rfl (hb hby d1_56) rfl (teq hc56).2 k) ?_
                show OFin p e below _ _ s₁ (mkF m 59 #[.val (.int p0)] [])
                obtain ⟨T7, X7, e7, st7⟩ := getS2 X0 hx hZ hown (host := "") (Or.inl (hw _ (List.mem_of_getElem? (i := 27) rfl))) Via.refl e0 (S_UINT.ext O0.2) (g := (mkF m 59 #[.val (.int p0)] [])) rfl (hb hby d1_59)
                refine OFin.st st7 ?_
                show OFin p e below _ _ T7 (mkF m 62 #[.val (.int p0)] [(.ref w_UINT)])
                exact own_retR X7 hx Bd.returns Bd.notSynchronized rfl rfl rfl (hb hby d1_62) ⟨(by rw [F1, if_neg hc1, if_neg hc10, if_neg hc19, if_neg hc28, if_neg hc37, if_neg hc46, if_pos hc56]; try rfl), N0, e7⟩ (own_endN (by decide) (by decide))
              · refine OFin.st (fun t k => XS.icmpYes X0.here hx rfl (pc0 := 56) (pc' := 63) rfl (hb hby d1_56) rfl (feq hc56).2 (by decide) (by decide) k) ?_
                show OFin p e below _ _ s₁ (mkF m 63 #[.val (.int p0)] [])
                refine OFin.st (fun t k => XS.iloadN X0.here hx rfl (hb hby d1_63) rfl k) ?_
                show OFin p e below _ _ s₁ (mkF m 64 #[.val (.int p0)] [(.int p0)])
                refine OFin.st (fun t k => XS.bipush X0.here hx rfl (hb hby d1_64) k) ?_
                show OFin p e below _ _ s₁ (mkF m 66 #[.val (.int p0)] [(.int (7 : Int32)), (.int p0)])
                by_cases hc66 : p0 = (7 : Int32)
                · refine OFin.st (fun t k => XS.icmpNo X0.here hx rfl (hb hby d1_66) rfl (teq hc66).2 k) ?_
                  show OFin p e below _ _ s₁ (mkF m 69 #[.val (.int p0)] [])
                  obtain ⟨T8, X8, e8, st8⟩ := getS2 X0 hx hZ hown (host := "") (Or.inl (hw _ (List.mem_of_getElem? (i := 24) rfl))) Via.refl e0 (S_UDINT.ext O0.2) (g := (mkF m 69 #[.val (.int p0)] [])) rfl (hb hby d1_69)
                  refine OFin.st st8 ?_
                  show OFin p e below _ _ T8 (mkF m 72 #[.val (.int p0)] [(.ref w_UDINT)])
                  exact own_retR X8 hx Bd.returns Bd.notSynchronized rfl rfl rfl (hb hby d1_72) ⟨(by rw [F1, if_neg hc1, if_neg hc10, if_neg hc19, if_neg hc28, if_neg hc37, if_neg hc46, if_neg hc56, if_pos hc66]; try rfl), N0, e8⟩ (own_endN (by decide) (by decide))
                · refine OFin.st (fun t k => XS.icmpYes X0.here hx rfl (pc0 := 66) (pc' := 73) rfl (hb hby d1_66) rfl (feq hc66).2 (by decide) (by decide) k) ?_
                  show OFin p e below _ _ s₁ (mkF m 73 #[.val (.int p0)] [])
                  obtain ⟨T9, X9, e9, st9⟩ := getS2 X0 hx hZ hown (host := "") (Or.inl (hw _ (List.mem_of_getElem? (i := 34) rfl))) Via.refl e0 (S_ULINT.ext O0.2) (g := (mkF m 73 #[.val (.int p0)] [])) rfl (hb hby d1_73)
                  refine OFin.st st9 ?_
                  show OFin p e below _ _ T9 (mkF m 76 #[.val (.int p0)] [(.ref w_ULINT)])
                  exact own_retR X9 hx Bd.returns Bd.notSynchronized rfl rfl rfl (hb hby d1_76) ⟨(by rw [F1, if_neg hc1, if_neg hc10, if_neg hc19, if_neg hc28, if_neg hc37, if_neg hc46, if_neg hc56, if_neg hc66]; try rfl), N0, e9⟩ (own_endN (by decide) (by decide))
theorem ef_rm2 (m : MethodId) (r0 : Addr) (q1 : Int64) : entryFrame m #[(.ref r0), (.long q1)] 5 = mkF m 0 #[.val (.ref r0), .val (.long q1), .second, .unset, .unset] [] := by first | (simp [entryFrame, mkF, argsToLocals, Value.category]; done) | rfl
def F2 (r0 : Addr) (q1 : Int64) (f_bits_r0 : Int32) (f_signed_r0 : Int32) : Int64 := if f_bits_r0 = (64 : Int32) then q1 else (if f_signed_r0 = (0 : Int32) then (q1 &&& (((1 : Int64) <<< (f_bits_r0 &&& 0x3f).toInt64) - (1 : Int64))) else ((q1 <<< (((64 : Int32) - f_bits_r0) &&& 0x3f).toInt64) >>> (((64 : Int32) - f_bits_r0) &&& 0x3f).toInt64))
def Q2 (r0 : Addr) (q1 : Int64) (f_bits_r0 : Int32) (f_signed_r0 : Int32) (h0 : Heap) (n0 : Nat) (v : Option Value) (h : Heap) (L : List Loc) : Prop := v = some (Value.long (F2 r0 q1 f_bits_r0 f_signed_r0)) ∧ Fr n0 L ∧ h = h0
set_option maxRecDepth 65536 in
set_option maxHeartbeats 40000000 in
theorem rm2 (l : Launch) (Z : State) (a0 : Array Value) (hw : ∀ d ∈ tables_1, d.before a0 Z = true) (ws : List Jvm.Cond) (r0 : Addr) (q1 : Int64) (f_bits_r0 : Int32) (f_signed_r0 : Int32) (h0 : Heap) (n0 : Nat) (O0 : Old Z n0 h0) (F_bits_r0 : Fld Z h0 r0 "com/example/verdikt/verdikt/model/ElementaryType" "bits" "I" (.int f_bits_r0)) (F_signed_r0 : Fld Z h0 r0 "com/example/verdikt/verdikt/model/ElementaryType" "signed" "Z" (.int f_signed_r0)) :
    MetFree l (⟨"com/example/verdikt/verdikt/model/ElementaryType", "wrap", "(J)J"⟩ : MethodName) (head1 (Jvm.Cond.code (⟨"com/example/verdikt/verdikt/model/ElementaryType", "wrap", "(J)J"⟩ : MethodName) prog_74_method_8_code 5 (some .long) :: ws) ({ frames := 0, cells := 0, slots := 0, locals := 0 } : Room)) (fun a U => a = #[(.ref r0), (.long q1)] ∧ Z.Warmed39 U.vm ∧ U.heap = h0) (fun _ _ _ _ _ => True) (fun _ U o U' => ∃ v L, o = .returned v ∧ Q2 r0 q1 f_bits_r0 f_signed_r0 h0 n0 v U'.heap L ∧ FrameEnd U o U' L ({ frames := 0, cells := 0, slots := 0, locals := 0 } : Room).cells ({ frames := 0, cells := 0, slots := 0, locals := 0 } : Room).slots) := by
  refine MetFree.of_bodySF (plainFor_of_name pn_com_example_verdikt_verdikt_model_ElementaryType) hisR ?_
  intro p e s m args below meth c s₁ Bd hml0 hP hK
  obtain ⟨rfl, hZ, hh⟩ := hP
  have hx := Bd.exec
  have hby := Bd.bytes
  have hml : c.maxLocals = 5 := hml0
  have hown : s.vm.findClass "com/example/verdikt/verdikt/model/ElementaryType" = some m.cls := findClass_of_methodNamed Bd.named
  have hnm := (name_of_methodNamed Bd.named Bd.method).1
  have X0 : Stand p l e ({ frames := 0, cells := 0, slots := 0, locals := 0 } : Room) s m #[(.ref r0), (.long q1)] below meth c s₁ [] 0 0 := Stand.of_body Bd
  have e0 : s₁.heap = h0 := by rw [← hh, Bd.state]; rfl
  have N0 := Fr.nil n0
  show OFin p e below (fun o t L => FrameEnd s o t L ({ frames := 0, cells := 0, slots := 0, locals := 0 } : Room).cells ({ frames := 0, cells := 0, slots := 0, locals := 0 } : Room).slots) (fun v h L => Q2 r0 q1 f_bits_r0 f_signed_r0 h0 n0 v h L) s₁ (entryFrame m #[(.ref r0), (.long q1)] 5)
  refine OFin.cast (ef_rm2 m r0 q1) ?_
  show OFin p e below _ _ s₁ (mkF m 0 #[.val (.ref r0), .val (.long q1), .second, .unset, .unset] [])
  refine OFin.st (fun t k => XS.aloadN X0.here hx rfl (hb hby d2_0) rfl rfl k) ?_
  show OFin p e below _ _ s₁ (mkF m 1 #[.val (.ref r0), .val (.long q1), .second, .unset, .unset] [(.ref r0)])
  obtain ⟨T1, X1, e1, st1⟩ := getF X0 hx hZ hown (host := "") (Or.inl (hw _ (List.mem_of_getElem? (i := 13) rfl))) Via.refl e0 F_bits_r0 (g := (mkF m 1 #[.val (.ref r0), .val (.long q1), .second, .unset, .unset] [(.ref r0)])) rfl rfl (hb hby d2_1)
  refine OFin.st st1 ?_
  show OFin p e below _ _ T1 (mkF m 4 #[.val (.ref r0), .val (.long q1), .second, .unset, .unset] [(.int f_bits_r0)])
  refine OFin.st (fun t k => XS.bipush X1.here hx rfl (hb hby d2_4) k) ?_
  show OFin p e below _ _ T1 (mkF m 6 #[.val (.ref r0), .val (.long q1), .second, .unset, .unset] [(.int (64 : Int32)), (.int f_bits_r0)])
  by_cases hc6 : f_bits_r0 = (64 : Int32)
  · refine OFin.st (fun t k => XS.icmpNo X1.here hx rfl (hb hby d2_6) rfl (teq hc6).2 k) ?_
    show OFin p e below _ _ T1 (mkF m 9 #[.val (.ref r0), .val (.long q1), .second, .unset, .unset] [])
    refine OFin.st (fun t k => XS.lloadN X1.here hx rfl (hb hby d2_9) rfl k) ?_
    show OFin p e below _ _ T1 (mkF m 10 #[.val (.ref r0), .val (.long q1), .second, .unset, .unset] [(.long q1)])
    refine OFin.st (fun t k => XS.lstoreN X1.here hx rfl (hb hby d2_10) rfl (l' := #[.val (.ref r0), .val (.long q1), .second, .val (.long q1), .second]) rfl k) ?_
    show OFin p e below _ _ T1 (mkF m 11 #[.val (.ref r0), .val (.long q1), .second, .val (.long q1), .second] [])
    refine OFin.st (fun t k => XS.goto X1.here hx rfl (pc0 := 11) (pc' := 53) rfl (hb hby d2_11) (by decide) (by decide) k) ?_
    show OFin p e below _ _ T1 (mkF m 53 #[.val (.ref r0), .val (.long q1), .second, .val (.long q1), .second] [])
    refine OFin.st (fun t k => XS.lloadN X1.here hx rfl (hb hby d2_53) rfl k) ?_
    show OFin p e below _ _ T1 (mkF m 54 #[.val (.ref r0), .val (.long q1), .second, .val (.long q1), .second] [(.long q1)])
    exact own_retJ X1 hx Bd.returns Bd.notSynchronized (hb hby d2_54) ⟨(by rw [F2, if_pos hc6]; try rfl), N0, e1⟩ (own_endN (by decide) (by decide))
  · refine OFin.st (fun t k => XS.icmpYes X1.here hx rfl (pc0 := 6) (pc' := 14) rfl (hb hby d2_6) rfl (feq hc6).2 (by decide) (by decide) k) ?_
    show OFin p e below _ _ T1 (mkF m 14 #[.val (.ref r0), .val (.long q1), .second, .unset, .unset] [])
    refine OFin.st (fun t k => XS.aloadN X1.here hx rfl (hb hby d2_14) rfl rfl k) ?_
    show OFin p e below _ _ T1 (mkF m 15 #[.val (.ref r0), .val (.long q1), .second, .unset, .unset] [(.ref r0)])
    obtain ⟨T2, X2, e2, st2⟩ := getF X1 hx hZ hown (host := "") (Or.inl (hw _ (List.mem_of_getElem? (i := 15) rfl))) Via.refl e1 F_signed_r0 (g := (mkF m 15 #[.val (.ref r0), .val (.long q1), .second, .unset, .unset] [(.ref r0)])) rfl rfl (hb hby d2_15)
    refine OFin.st st2 ?_
    show OFin p e below _ _ T2 (mkF m 18 #[.val (.ref r0), .val (.long q1), .second, .unset, .unset] [(.int f_signed_r0)])
    by_cases hc18 : f_signed_r0 = (0 : Int32)
    · refine OFin.st (fun t k => XS.ifYes X2.here hx rfl (pc0 := 18) (pc' := 42) rfl (hb hby d2_18) rfl ((if0 _ _).trans (teq hc18).1) (by decide) (by decide) k) ?_
      show OFin p e below _ _ T2 (mkF m 42 #[.val (.ref r0), .val (.long q1), .second, .unset, .unset] [])
      refine OFin.st (fun t k => XS.lloadN X2.here hx rfl (hb hby d2_42) rfl k) ?_
      show OFin p e below _ _ T2 (mkF m 43 #[.val (.ref r0), .val (.long q1), .second, .unset, .unset] [(.long q1)])
      refine OFin.st (fun t k => XS.lconst X2.here hx rfl (hb hby d2_43) k) ?_
      show OFin p e below _ _ T2 (mkF m 44 #[.val (.ref r0), .val (.long q1), .second, .unset, .unset] [(.long (1 : Int64)), (.long q1)])
      refine OFin.st (fun t k => XS.aloadN X2.here hx rfl (hb hby d2_44) rfl rfl k) ?_
      show OFin p e below _ _ T2 (mkF m 45 #[.val (.ref r0), .val (.long q1), .second, .unset, .unset] [(.ref r0), (.long (1 : Int64)), (.long q1)])
      obtain ⟨T3, X3, e3, st3⟩ := getF X2 hx hZ hown (host := "") (Or.inl (hw _ (List.mem_of_getElem? (i := 13) rfl))) Via.refl e2 F_bits_r0 (g := (mkF m 45 #[.val (.ref r0), .val (.long q1), .second, .unset, .unset] [(.ref r0), (.long (1 : Int64)), (.long q1)])) rfl rfl (hb hby d2_45)
      refine OFin.st st3 ?_
      show OFin p e below _ _ T3 (mkF m 48 #[.val (.ref r0), .val (.long q1), .second, .unset, .unset] [(.int f_bits_r0), (.long (1 : Int64)), (.long q1)])
      refine OFin.st (fun t k => XS.lshl X3.here hx rfl (hb hby d2_48) rfl k) ?_
      show OFin p e below _ _ T3 (mkF m 49 #[.val (.ref r0), .val (.long q1), .second, .unset, .unset] [(.long ((1 : Int64) <<< (f_bits_r0 &&& 0x3f).toInt64)), (.long q1)])
      refine OFin.st (fun t k => XS.lconst X3.here hx rfl (hb hby d2_49) k) ?_
      show OFin p e below _ _ T3 (mkF m 50 #[.val (.ref r0), .val (.long q1), .second, .unset, .unset] [(.long (1 : Int64)), (.long ((1 : Int64) <<< (f_bits_r0 &&& 0x3f).toInt64)), (.long q1)])
      refine OFin.st (fun t k => XS.lsub X3.here hx rfl (hb hby d2_50) rfl k) ?_
      show OFin p e below _ _ T3 (mkF m 51 #[.val (.ref r0), .val (.long q1), .second, .unset, .unset] [(.long (((1 : Int64) <<< (f_bits_r0 &&& 0x3f).toInt64) - (1 : Int64))), (.long q1)])
      refine OFin.st (fun t k => XS.land X3.here hx rfl (hb hby d2_51) rfl k) ?_
      show OFin p e below _ _ T3 (mkF m 52 #[.val (.ref r0), .val (.long q1), .second, .unset, .unset] [(.long (q1 &&& (((1 : Int64) <<< (f_bits_r0 &&& 0x3f).toInt64) - (1 : Int64))))])
      refine OFin.st (fun t k => XS.lstoreN X3.here hx rfl (hb hby d2_52) rfl (l' := #[.val (.ref r0), .val (.long q1), .second, .val (.long (q1 &&& (((1 : Int64) <<< (f_bits_r0 &&& 0x3f).toInt64) - (1 : Int64)))), .second]) rfl k) ?_
      show OFin p e below _ _ T3 (mkF m 53 #[.val (.ref r0), .val (.long q1), .second, .val (.long (q1 &&& (((1 : Int64) <<< (f_bits_r0 &&& 0x3f).toInt64) - (1 : Int64)))), .second] [])
      refine OFin.st (fun t k => XS.lloadN X3.here hx rfl (hb hby d2_53) rfl k) ?_
      show OFin p e below _ _ T3 (mkF m 54 #[.val (.ref r0), .val (.long q1), .second, .val (.long (q1 &&& (((1 : Int64) <<< (f_bits_r0 &&& 0x3f).toInt64) - (1 : Int64)))), .second] [(.long (q1 &&& (((1 : Int64) <<< (f_bits_r0 &&& 0x3f).toInt64) - (1 : Int64))))])
      exact own_retJ X3 hx Bd.returns Bd.notSynchronized (hb hby d2_54) ⟨(by rw [F2, if_neg hc6, if_pos hc18]; try rfl), N0, e3⟩ (own_endN (by decide) (by decide))
    · refine OFin.st (fun t k => XS.ifNo X2.here hx rfl (hb hby d2_18) rfl ((if0 _ _).trans (feq hc18).1) k) ?_
      show OFin p e below _ _ T2 (mkF m 21 #[.val (.ref r0), .val (.long q1), .second, .unset, .unset] [])
      refine OFin.st (fun t k => XS.lloadN X2.here hx rfl (hb hby d2_21) rfl k) ?_
      show OFin p e below _ _ T2 (mkF m 22 #[.val (.ref r0), .val (.long q1), .second, .unset, .unset] [(.long q1)])
      refine OFin.st (fun t k => XS.bipush X2.here hx rfl (hb hby d2_22) k) ?_
      show OFin p e below _ _ T2 (mkF m 24 #[.val (.ref r0), .val (.long q1), .second, .unset, .unset] [(.int (64 : Int32)), (.long q1)])
      refine OFin.st (fun t k => XS.aloadN X2.here hx rfl (hb hby d2_24) rfl rfl k) ?_
      show OFin p e below _ _ T2 (mkF m 25 #[.val (.ref r0), .val (.long q1), .second, .unset, .unset] [(.ref r0), (.int (64 : Int32)), (.long q1)])
      obtain ⟨T4, X4, e4, st4⟩ := getF X2 hx hZ hown (host := "") (Or.inl (hw _ (List.mem_of_getElem? (i := 13) rfl))) Via.refl e2 F_bits_r0 (g := (mkF m 25 #[.val (.ref r0), .val (.long q1), .second, .unset, .unset] [(.ref r0), (.int (64 : Int32)), (.long q1)])) rfl rfl (hb hby d2_25)
      refine OFin.st st4 ?_
      show OFin p e below _ _ T4 (mkF m 28 #[.val (.ref r0), .val (.long q1), .second, .unset, .unset] [(.int f_bits_r0), (.int (64 : Int32)), (.long q1)])
      refine OFin.st (fun t k => XS.isub X4.here hx rfl (hb hby d2_28) rfl k) ?_
      show OFin p e below _ _ T4 (mkF m 29 #[.val (.ref r0), .val (.long q1), .second, .unset, .unset] [(.int ((64 : Int32) - f_bits_r0)), (.long q1)])
      refine OFin.st (fun t k => XS.lshl X4.here hx rfl (hb hby d2_29) rfl k) ?_
      show OFin p e below _ _ T4 (mkF m 30 #[.val (.ref r0), .val (.long q1), .second, .unset, .unset] [(.long (q1 <<< (((64 : Int32) - f_bits_r0) &&& 0x3f).toInt64))])
      refine OFin.st (fun t k => XS.bipush X4.here hx rfl (hb hby d2_30) k) ?_
      show OFin p e below _ _ T4 (mkF m 32 #[.val (.ref r0), .val (.long q1), .second, .unset, .unset] [(.int (64 : Int32)), (.long (q1 <<< (((64 : Int32) - f_bits_r0) &&& 0x3f).toInt64))])
      refine OFin.st (fun t k => XS.aloadN X4.here hx rfl (hb hby d2_32) rfl rfl k) ?_
      show OFin p e below _ _ T4 (mkF m 33 #[.val (.ref r0), .val (.long q1), .second, .unset, .unset] [(.ref r0), (.int (64 : Int32)), (.long (q1 <<< (((64 : Int32) - f_bits_r0) &&& 0x3f).toInt64))])
      obtain ⟨T5, X5, e5, st5⟩ := getF X4 hx hZ hown (host := "") (Or.inl (hw _ (List.mem_of_getElem? (i := 13) rfl))) Via.refl e4 F_bits_r0 (g := (mkF m 33 #[.val (.ref r0), .val (.long q1), .second, .unset, .unset] [(.ref r0), (.int (64 : Int32)), (.long (q1 <<< (((64 : Int32) - f_bits_r0) &&& 0x3f).toInt64))])) rfl rfl (hb hby d2_33)
      refine OFin.st st5 ?_
      show OFin p e below _ _ T5 (mkF m 36 #[.val (.ref r0), .val (.long q1), .second, .unset, .unset] [(.int f_bits_r0), (.int (64 : Int32)), (.long (q1 <<< (((64 : Int32) - f_bits_r0) &&& 0x3f).toInt64))])
      refine OFin.st (fun t k => XS.isub X5.here hx rfl (hb hby d2_36) rfl k) ?_
      show OFin p e below _ _ T5 (mkF m 37 #[.val (.ref r0), .val (.long q1), .second, .unset, .unset] [(.int ((64 : Int32) - f_bits_r0)), (.long (q1 <<< (((64 : Int32) - f_bits_r0) &&& 0x3f).toInt64))])
      refine OFin.st (fun t k => XS.lshr X5.here hx rfl (hb hby d2_37) rfl k) ?_
      show OFin p e below _ _ T5 (mkF m 38 #[.val (.ref r0), .val (.long q1), .second, .unset, .unset] [(.long ((q1 <<< (((64 : Int32) - f_bits_r0) &&& 0x3f).toInt64) >>> (((64 : Int32) - f_bits_r0) &&& 0x3f).toInt64))])
      refine OFin.st (fun t k => XS.lstoreN X5.here hx rfl (hb hby d2_38) rfl (l' := #[.val (.ref r0), .val (.long q1), .second, .val (.long ((q1 <<< (((64 : Int32) - f_bits_r0) &&& 0x3f).toInt64) >>> (((64 : Int32) - f_bits_r0) &&& 0x3f).toInt64)), .second]) rfl k) ?_
      show OFin p e below _ _ T5 (mkF m 39 #[.val (.ref r0), .val (.long q1), .second, .val (.long ((q1 <<< (((64 : Int32) - f_bits_r0) &&& 0x3f).toInt64) >>> (((64 : Int32) - f_bits_r0) &&& 0x3f).toInt64)), .second] [])
      refine OFin.st (fun t k => XS.goto X5.here hx rfl (pc0 := 39) (pc' := 53) rfl (hb hby d2_39) (by decide) (by decide) k) ?_
      show OFin p e below _ _ T5 (mkF m 53 #[.val (.ref r0), .val (.long q1), .second, .val (.long ((q1 <<< (((64 : Int32) - f_bits_r0) &&& 0x3f).toInt64) >>> (((64 : Int32) - f_bits_r0) &&& 0x3f).toInt64)), .second] [])
      refine OFin.st (fun t k => XS.lloadN X5.here hx rfl (hb hby d2_53) rfl k) ?_
      show OFin p e below _ _ T5 (mkF m 54 #[.val (.ref r0), .val (.long q1), .second, .val (.long ((q1 <<< (((64 : Int32) - f_bits_r0) &&& 0x3f).toInt64) >>> (((64 : Int32) - f_bits_r0) &&& 0x3f).toInt64)), .second] [(.long ((q1 <<< (((64 : Int32) - f_bits_r0) &&& 0x3f).toInt64) >>> (((64 : Int32) - f_bits_r0) &&& 0x3f).toInt64))])
      exact own_retJ X5 hx Bd.returns Bd.notSynchronized (hb hby d2_54) ⟨(by rw [F2, if_neg hc6, if_neg hc18]; try rfl), N0, e5⟩ (own_endN (by decide) (by decide))
theorem ef_rm3 (m : MethodId) (p0 : Int32) (q1 : Int64) : entryFrame m #[(.int p0), (.long q1)] 3 = mkF m 0 #[.val (.int p0), .val (.long q1), .second] [] := by first | (simp [entryFrame, mkF, argsToLocals, Value.category]; done) | rfl
def F3 (p0 : Int32) (q1 : Int64) : Int64 := if p0 = (0 : Int32) then (q1 &&& (1 : Int64)) else (if p0 = (1 : Int32) then (((q1.toInt32).toInt8.toInt32).toInt64) else (if p0 = (2 : Int32) then (((q1.toInt32).toInt16.toInt32).toInt64) else (if p0 = (3 : Int32) then ((q1.toInt32).toInt64) else (if p0 = (4 : Int32) then q1 else (if p0 = (5 : Int32) then (q1 &&& (255 : Int64)) else (if p0 = (6 : Int32) then (q1 &&& (65535 : Int64)) else (if p0 = (7 : Int32) then (q1 &&& (4294967295 : Int64)) else q1)))))))
def Q3 (p0 : Int32) (q1 : Int64) (h0 : Heap) (n0 : Nat) (v : Option Value) (h : Heap) (L : List Loc) : Prop := v = some (Value.long (F3 p0 q1)) ∧ Fr n0 L ∧ h = h0
set_option maxRecDepth 65536 in
set_option maxHeartbeats 40000000 in
theorem rm3 (l : Launch) (Z : State) (a0 : Array Value) (hw : ∀ d ∈ tables_1, d.before a0 Z = true) (ws : List Jvm.Cond) (p0 : Int32) (q1 : Int64) (h0 : Heap) (n0 : Nat) (O0 : Old Z n0 h0)  :
    MetFree l (⟨"com/example/verdikt/verdikt/model/ElementaryTypeWrapPinLaw", "expected", "(IJ)J"⟩ : MethodName) (head1 (Jvm.Cond.code (⟨"com/example/verdikt/verdikt/model/ElementaryTypeWrapPinLaw", "expected", "(IJ)J"⟩ : MethodName) method_3_code 3 (some .long) :: ws) ({ frames := 0, cells := 0, slots := 0, locals := 0 } : Room)) (fun a U => a = #[(.int p0), (.long q1)] ∧ Z.Warmed39 U.vm ∧ U.heap = h0) (fun _ _ _ _ _ => True) (fun _ U o U' => ∃ v L, o = .returned v ∧ Q3 p0 q1 h0 n0 v U'.heap L ∧ FrameEnd U o U' L ({ frames := 0, cells := 0, slots := 0, locals := 0 } : Room).cells ({ frames := 0, cells := 0, slots := 0, locals := 0 } : Room).slots) := by
  refine MetFree.of_bodySF (plainFor_of_name pn_com_example_verdikt_verdikt_model_ElementaryTypeWrapPinLaw) hisR ?_
  intro p e s m args below meth c s₁ Bd hml0 hP hK
  obtain ⟨rfl, hZ, hh⟩ := hP
  have hx := Bd.exec
  have hby := Bd.bytes
  have hml : c.maxLocals = 3 := hml0
  have hown : s.vm.findClass "com/example/verdikt/verdikt/model/ElementaryTypeWrapPinLaw" = some m.cls := findClass_of_methodNamed Bd.named
  have hnm := (name_of_methodNamed Bd.named Bd.method).1
  have X0 : Stand p l e ({ frames := 0, cells := 0, slots := 0, locals := 0 } : Room) s m #[(.int p0), (.long q1)] below meth c s₁ [] 0 0 := Stand.of_body Bd
  have e0 : s₁.heap = h0 := by rw [← hh, Bd.state]; rfl
  have N0 := Fr.nil n0
  show OFin p e below (fun o t L => FrameEnd s o t L ({ frames := 0, cells := 0, slots := 0, locals := 0 } : Room).cells ({ frames := 0, cells := 0, slots := 0, locals := 0 } : Room).slots) (fun v h L => Q3 p0 q1 h0 n0 v h L) s₁ (entryFrame m #[(.int p0), (.long q1)] 3)
  refine OFin.cast (ef_rm3 m p0 q1) ?_
  show OFin p e below _ _ s₁ (mkF m 0 #[.val (.int p0), .val (.long q1), .second] [])
  refine OFin.st (fun t k => XS.iloadN X0.here hx rfl (hb hby d3_0) rfl k) ?_
  show OFin p e below _ _ s₁ (mkF m 1 #[.val (.int p0), .val (.long q1), .second] [(.int p0)])
  by_cases hc1 : p0 = (0 : Int32)
  · refine OFin.st (fun t k => XS.ifNo X0.here hx rfl (hb hby d3_1) rfl ((if0 _ _).trans (teq hc1).2) k) ?_
    show OFin p e below _ _ s₁ (mkF m 4 #[.val (.int p0), .val (.long q1), .second] [])
    refine OFin.st (fun t k => XS.lloadN X0.here hx rfl (hb hby d3_4) rfl k) ?_
    show OFin p e below _ _ s₁ (mkF m 5 #[.val (.int p0), .val (.long q1), .second] [(.long q1)])
    refine OFin.st (fun t k => XS.lconst X0.here hx rfl (hb hby d3_5) k) ?_
    show OFin p e below _ _ s₁ (mkF m 6 #[.val (.int p0), .val (.long q1), .second] [(.long (1 : Int64)), (.long q1)])
    refine OFin.st (fun t k => XS.land X0.here hx rfl (hb hby d3_6) rfl k) ?_
    show OFin p e below _ _ s₁ (mkF m 7 #[.val (.int p0), .val (.long q1), .second] [(.long (q1 &&& (1 : Int64)))])
    exact own_retJ X0 hx Bd.returns Bd.notSynchronized (hb hby d3_7) ⟨(by rw [F3, if_pos hc1]; try rfl), N0, e0⟩ (own_endN (by decide) (by decide))
  · refine OFin.st (fun t k => XS.ifYes X0.here hx rfl (pc0 := 1) (pc' := 8) rfl (hb hby d3_1) rfl ((if0 _ _).trans (feq hc1).2) (by decide) (by decide) k) ?_
    show OFin p e below _ _ s₁ (mkF m 8 #[.val (.int p0), .val (.long q1), .second] [])
    refine OFin.st (fun t k => XS.iloadN X0.here hx rfl (hb hby d3_8) rfl k) ?_
    show OFin p e below _ _ s₁ (mkF m 9 #[.val (.int p0), .val (.long q1), .second] [(.int p0)])
    refine OFin.st (fun t k => XS.iconst X0.here hx rfl (hb hby d3_9) k) ?_
    show OFin p e below _ _ s₁ (mkF m 10 #[.val (.int p0), .val (.long q1), .second] [(.int (1 : Int32)), (.int p0)])
    by_cases hc10 : p0 = (1 : Int32)
    · refine OFin.st (fun t k => XS.icmpNo X0.here hx rfl (hb hby d3_10) rfl (teq hc10).2 k) ?_
      show OFin p e below _ _ s₁ (mkF m 13 #[.val (.int p0), .val (.long q1), .second] [])
      refine OFin.st (fun t k => XS.lloadN X0.here hx rfl (hb hby d3_13) rfl k) ?_
      show OFin p e below _ _ s₁ (mkF m 14 #[.val (.int p0), .val (.long q1), .second] [(.long q1)])
      refine OFin.st (fun t k => XS.l2i X0.here hx rfl (hb hby d3_14) rfl k) ?_
      show OFin p e below _ _ s₁ (mkF m 15 #[.val (.int p0), .val (.long q1), .second] [(.int (q1.toInt32))])
      refine OFin.st (fun t k => XS.i2b X0.here hx rfl (hb hby d3_15) rfl k) ?_
      show OFin p e below _ _ s₁ (mkF m 16 #[.val (.int p0), .val (.long q1), .second] [(.int ((q1.toInt32).toInt8.toInt32))])
      refine OFin.st (fun t k => XS.i2l X0.here hx rfl (hb hby d3_16) rfl k) ?_
      show OFin p e below _ _ s₁ (mkF m 17 #[.val (.int p0), .val (.long q1), .second] [(.long (((q1.toInt32).toInt8.toInt32).toInt64))])
      exact own_retJ X0 hx Bd.returns Bd.notSynchronized (hb hby d3_17) ⟨(by rw [F3, if_neg hc1, if_pos hc10]; try rfl), N0, e0⟩ (own_endN (by decide) (by decide))
    · refine OFin.st (fun t k => XS.icmpYes X0.here hx rfl (pc0 := 10) (pc' := 18) rfl (hb hby d3_10) rfl (feq hc10).2 (by decide) (by decide) k) ?_
      show OFin p e below _ _ s₁ (mkF m 18 #[.val (.int p0), .val (.long q1), .second] [])
      refine OFin.st (fun t k => XS.iloadN X0.here hx rfl (hb hby d3_18) rfl k) ?_
      show OFin p e below _ _ s₁ (mkF m 19 #[.val (.int p0), .val (.long q1), .second] [(.int p0)])
      refine OFin.st (fun t k => XS.iconst X0.here hx rfl (hb hby d3_19) k) ?_
      show OFin p e below _ _ s₁ (mkF m 20 #[.val (.int p0), .val (.long q1), .second] [(.int (2 : Int32)), (.int p0)])
      by_cases hc20 : p0 = (2 : Int32)
      · refine OFin.st (fun t k => XS.icmpNo X0.here hx rfl (hb hby d3_20) rfl (teq hc20).2 k) ?_
        show OFin p e below _ _ s₁ (mkF m 23 #[.val (.int p0), .val (.long q1), .second] [])
        refine OFin.st (fun t k => XS.lloadN X0.here hx rfl (hb hby d3_23) rfl k) ?_
        show OFin p e below _ _ s₁ (mkF m 24 #[.val (.int p0), .val (.long q1), .second] [(.long q1)])
        refine OFin.st (fun t k => XS.l2i X0.here hx rfl (hb hby d3_24) rfl k) ?_
        show OFin p e below _ _ s₁ (mkF m 25 #[.val (.int p0), .val (.long q1), .second] [(.int (q1.toInt32))])
        refine OFin.st (fun t k => XS.i2s X0.here hx rfl (hb hby d3_25) rfl k) ?_
        show OFin p e below _ _ s₁ (mkF m 26 #[.val (.int p0), .val (.long q1), .second] [(.int ((q1.toInt32).toInt16.toInt32))])
        refine OFin.st (fun t k => XS.i2l X0.here hx rfl (hb hby d3_26) rfl k) ?_
        show OFin p e below _ _ s₁ (mkF m 27 #[.val (.int p0), .val (.long q1), .second] [(.long (((q1.toInt32).toInt16.toInt32).toInt64))])
        exact own_retJ X0 hx Bd.returns Bd.notSynchronized (hb hby d3_27) ⟨(by rw [F3, if_neg hc1, if_neg hc10, if_pos hc20]; try rfl), N0, e0⟩ (own_endN (by decide) (by decide))
      · refine OFin.st (fun t k => XS.icmpYes X0.here hx rfl (pc0 := 20) (pc' := 28) rfl (hb hby d3_20) rfl (feq hc20).2 (by decide) (by decide) k) ?_
        show OFin p e below _ _ s₁ (mkF m 28 #[.val (.int p0), .val (.long q1), .second] [])
        refine OFin.st (fun t k => XS.iloadN X0.here hx rfl (hb hby d3_28) rfl k) ?_
        show OFin p e below _ _ s₁ (mkF m 29 #[.val (.int p0), .val (.long q1), .second] [(.int p0)])
        refine OFin.st (fun t k => XS.iconst X0.here hx rfl (hb hby d3_29) k) ?_
        show OFin p e below _ _ s₁ (mkF m 30 #[.val (.int p0), .val (.long q1), .second] [(.int (3 : Int32)), (.int p0)])
        by_cases hc30 : p0 = (3 : Int32)
        · refine OFin.st (fun t k => XS.icmpNo X0.here hx rfl (hb hby d3_30) rfl (teq hc30).2 k) ?_
          show OFin p e below _ _ s₁ (mkF m 33 #[.val (.int p0), .val (.long q1), .second] [])
          refine OFin.st (fun t k => XS.lloadN X0.here hx rfl (hb hby d3_33) rfl k) ?_
          show OFin p e below _ _ s₁ (mkF m 34 #[.val (.int p0), .val (.long q1), .second] [(.long q1)])
          refine OFin.st (fun t k => XS.l2i X0.here hx rfl (hb hby d3_34) rfl k) ?_
          show OFin p e below _ _ s₁ (mkF m 35 #[.val (.int p0), .val (.long q1), .second] [(.int (q1.toInt32))])
          refine OFin.st (fun t k => XS.i2l X0.here hx rfl (hb hby d3_35) rfl k) ?_
          show OFin p e below _ _ s₁ (mkF m 36 #[.val (.int p0), .val (.long q1), .second] [(.long ((q1.toInt32).toInt64))])
          exact own_retJ X0 hx Bd.returns Bd.notSynchronized (hb hby d3_36) ⟨(by rw [F3, if_neg hc1, if_neg hc10, if_neg hc20, if_pos hc30]; try rfl), N0, e0⟩ (own_endN (by decide) (by decide))
        · refine OFin.st (fun t k => XS.icmpYes X0.here hx rfl (pc0 := 30) (pc' := 37) rfl (hb hby d3_30) rfl (feq hc30).2 (by decide) (by decide) k) ?_
          show OFin p e below _ _ s₁ (mkF m 37 #[.val (.int p0), .val (.long q1), .second] [])
          refine OFin.st (fun t k => XS.iloadN X0.here hx rfl (hb hby d3_37) rfl k) ?_
          show OFin p e below _ _ s₁ (mkF m 38 #[.val (.int p0), .val (.long q1), .second] [(.int p0)])
          refine OFin.st (fun t k => XS.iconst X0.here hx rfl (hb hby d3_38) k) ?_
          show OFin p e below _ _ s₁ (mkF m 39 #[.val (.int p0), .val (.long q1), .second] [(.int (4 : Int32)), (.int p0)])
          by_cases hc39 : p0 = (4 : Int32)
          · refine OFin.st (fun t k => XS.icmpNo X0.here hx rfl (hb hby d3_39) rfl (teq hc39).2 k) ?_
            show OFin p e below _ _ s₁ (mkF m 42 #[.val (.int p0), .val (.long q1), .second] [])
            refine OFin.st (fun t k => XS.lloadN X0.here hx rfl (hb hby d3_42) rfl k) ?_
            show OFin p e below _ _ s₁ (mkF m 43 #[.val (.int p0), .val (.long q1), .second] [(.long q1)])
            exact own_retJ X0 hx Bd.returns Bd.notSynchronized (hb hby d3_43) ⟨(by rw [F3, if_neg hc1, if_neg hc10, if_neg hc20, if_neg hc30, if_pos hc39]; try rfl), N0, e0⟩ (own_endN (by decide) (by decide))
          · refine OFin.st (fun t k => XS.icmpYes X0.here hx rfl (pc0 := 39) (pc' := 44) rfl (hb hby d3_39) rfl (feq hc39).2 (by decide) (by decide) k) ?_
            show OFin p e below _ _ s₁ (mkF m 44 #[.val (.int p0), .val (.long q1), .second] [])
            refine OFin.st (fun t k => XS.iloadN X0.here hx rfl (hb hby d3_44) rfl k) ?_
            show OFin p e below _ _ s₁ (mkF m 45 #[.val (.int p0), .val (.long q1), .second] [(.int p0)])
            refine OFin.st (fun t k => XS.iconst X0.here hx rfl (hb hby d3_45) k) ?_
            show OFin p e below _ _ s₁ (mkF m 46 #[.val (.int p0), .val (.long q1), .second] [(.int (5 : Int32)), (.int p0)])
            by_cases hc46 : p0 = (5 : Int32)
            · refine OFin.st (fun t k => XS.icmpNo X0.here hx rfl (hb hby d3_46) rfl (teq hc46).2 k) ?_
              show OFin p e below _ _ s₁ (mkF m 49 #[.val (.int p0), .val (.long q1), .second] [])
              refine OFin.st (fun t k => XS.lloadN X0.here hx rfl (hb hby d3_49) rfl k) ?_
              show OFin p e below _ _ s₁ (mkF m 50 #[.val (.int p0), .val (.long q1), .second] [(.long q1)])
              refine OFin.st (X0.ldc2Long hx hown (mvT hZ (hw _ (List.mem_of_getElem? (i := 38) rfl))) (g := (mkF m 50 #[.val (.int p0), .val (.long q1), .second] [(.long q1)])) rfl (hb hby d3_50)) ?_
              show OFin p e below _ _ s₁ (mkF m 53 #[.val (.int p0), .val (.long q1), .second] [(.long (255 : Int64)), (.long q1)])
              refine OFin.st (fun t k => XS.land X0.here hx rfl (hb hby d3_53) rfl k) ?_
              show OFin p e below _ _ s₁ (mkF m 54 #[.val (.int p0), .val (.long q1), .second] [(.long (q1 &&& (255 : Int64)))])
              exact own_retJ X0 hx Bd.returns Bd.notSynchronized (hb hby d3_54) ⟨(by rw [F3, if_neg hc1, if_neg hc10, if_neg hc20, if_neg hc30, if_neg hc39, if_pos hc46]; try rfl), N0, e0⟩ (own_endN (by decide) (by decide))
            · refine OFin.st (fun t k => XS.icmpYes X0.here hx rfl (pc0 := 46) (pc' := 55) rfl (hb hby d3_46) rfl (feq hc46).2 (by decide) (by decide) k) ?_
              show OFin p e below _ _ s₁ (mkF m 55 #[.val (.int p0), .val (.long q1), .second] [])
              refine OFin.st (fun t k => XS.iloadN X0.here hx rfl (hb hby d3_55) rfl k) ?_
              show OFin p e below _ _ s₁ (mkF m 56 #[.val (.int p0), .val (.long q1), .second] [(.int p0)])
              refine OFin.st (fun t k => XS.bipush X0.here hx rfl (hb hby d3_56) k) ?_
              show OFin p e below _ _ s₁ (mkF m 58 #[.val (.int p0), .val (.long q1), .second] [(.int (6 : Int32)), (.int p0)])
              by_cases hc58 : p0 = (6 : Int32)
              · refine OFin.st (fun t k => XS.icmpNo X0.here hx rfl (hb hby d3_58) rfl (teq hc58).2 k) ?_
                show OFin p e below _ _ s₁ (mkF m 61 #[.val (.int p0), .val (.long q1), .second] [])
                refine OFin.st (fun t k => XS.lloadN X0.here hx rfl (hb hby d3_61) rfl k) ?_
                show OFin p e below _ _ s₁ (mkF m 62 #[.val (.int p0), .val (.long q1), .second] [(.long q1)])
                refine OFin.st (X0.ldc2Long hx hown (mvT hZ (hw _ (List.mem_of_getElem? (i := 29) rfl))) (g := (mkF m 62 #[.val (.int p0), .val (.long q1), .second] [(.long q1)])) rfl (hb hby d3_62)) ?_
                show OFin p e below _ _ s₁ (mkF m 65 #[.val (.int p0), .val (.long q1), .second] [(.long (65535 : Int64)), (.long q1)])
                refine OFin.st (fun t k => XS.land X0.here hx rfl (hb hby d3_65) rfl k) ?_
                show OFin p e below _ _ s₁ (mkF m 66 #[.val (.int p0), .val (.long q1), .second] [(.long (q1 &&& (65535 : Int64)))])
                exact own_retJ X0 hx Bd.returns Bd.notSynchronized (hb hby d3_66) ⟨(by rw [F3, if_neg hc1, if_neg hc10, if_neg hc20, if_neg hc30, if_neg hc39, if_neg hc46, if_pos hc58]; try rfl), N0, e0⟩ (own_endN (by decide) (by decide))
              · refine OFin.st (fun t k => XS.icmpYes X0.here hx rfl (pc0 := 58) (pc' := 67) rfl (hb hby d3_58) rfl (feq hc58).2 (by decide) (by decide) k) ?_
                show OFin p e below _ _ s₁ (mkF m 67 #[.val (.int p0), .val (.long q1), .second] [])
                refine OFin.st (fun t k => XS.iloadN X0.here hx rfl (hb hby d3_67) rfl k) ?_
                show OFin p e below _ _ s₁ (mkF m 68 #[.val (.int p0), .val (.long q1), .second] [(.int p0)])
                refine OFin.st (fun t k => XS.bipush X0.here hx rfl (hb hby d3_68) k) ?_
                show OFin p e below _ _ s₁ (mkF m 70 #[.val (.int p0), .val (.long q1), .second] [(.int (7 : Int32)), (.int p0)])
                by_cases hc70 : p0 = (7 : Int32)
                · refine OFin.st (fun t k => XS.icmpNo X0.here hx rfl (hb hby d3_70) rfl (teq hc70).2 k) ?_
                  show OFin p e below _ _ s₁ (mkF m 73 #[.val (.int p0), .val (.long q1), .second] [])
                  refine OFin.st (fun t k => XS.lloadN X0.here hx rfl (hb hby d3_73) rfl k) ?_
                  show OFin p e below _ _ s₁ (mkF m 74 #[.val (.int p0), .val (.long q1), .second] [(.long q1)])
                  refine OFin.st (X0.ldc2Long hx hown (mvT hZ (hw _ (List.mem_of_getElem? (i := 26) rfl))) (g := (mkF m 74 #[.val (.int p0), .val (.long q1), .second] [(.long q1)])) rfl (hb hby d3_74)) ?_
                  show OFin p e below _ _ s₁ (mkF m 77 #[.val (.int p0), .val (.long q1), .second] [(.long (4294967295 : Int64)), (.long q1)])
                  refine OFin.st (fun t k => XS.land X0.here hx rfl (hb hby d3_77) rfl k) ?_
                  show OFin p e below _ _ s₁ (mkF m 78 #[.val (.int p0), .val (.long q1), .second] [(.long (q1 &&& (4294967295 : Int64)))])
                  exact own_retJ X0 hx Bd.returns Bd.notSynchronized (hb hby d3_78) ⟨(by rw [F3, if_neg hc1, if_neg hc10, if_neg hc20, if_neg hc30, if_neg hc39, if_neg hc46, if_neg hc58, if_pos hc70]; try rfl), N0, e0⟩ (own_endN (by decide) (by decide))
                · refine OFin.st (fun t k => XS.icmpYes X0.here hx rfl (pc0 := 70) (pc' := 79) rfl (hb hby d3_70) rfl (feq hc70).2 (by decide) (by decide) k) ?_
                  show OFin p e below _ _ s₁ (mkF m 79 #[.val (.int p0), .val (.long q1), .second] [])
                  refine OFin.st (fun t k => XS.lloadN X0.here hx rfl (hb hby d3_79) rfl k) ?_
                  show OFin p e below _ _ s₁ (mkF m 80 #[.val (.int p0), .val (.long q1), .second] [(.long q1)])
                  exact own_retJ X0 hx Bd.returns Bd.notSynchronized (hb hby d3_80) ⟨(by rw [F3, if_neg hc1, if_neg hc10, if_neg hc20, if_neg hc30, if_neg hc39, if_neg hc46, if_neg hc58, if_neg hc70]; try rfl), N0, e0⟩ (own_endN (by decide) (by decide))
theorem own_F1 {P : Addr → Prop} (p0 : Int32) (w_BOOL : Addr) (w_SINT : Addr) (w_INT : Addr) (w_DINT : Addr) (w_LINT : Addr) (w_USINT : Addr) (w_UINT : Addr) (w_UDINT : Addr) (w_ULINT : Addr) (h0 : P w_BOOL) (h1 : P w_SINT) (h2 : P w_INT) (h3 : P w_DINT) (h4 : P w_LINT) (h5 : P w_USINT) (h6 : P w_UINT) (h7 : P w_UDINT) (h8 : P w_ULINT) : P (F1 p0 w_BOOL w_SINT w_INT w_DINT w_LINT w_USINT w_UINT w_UDINT w_ULINT) := own_ite (P := P) h0 (own_ite (P := P) h1 (own_ite (P := P) h2 (own_ite (P := P) h3 (own_ite (P := P) h4 (own_ite (P := P) h5 (own_ite (P := P) h6 (own_ite (P := P) h7 (h8))))))))
theorem own_F1_Gb {P : Addr → Int32 → Prop} (p0 : Int32) (w_BOOL : Addr) (w_SINT : Addr) (w_INT : Addr) (w_DINT : Addr) (w_LINT : Addr) (w_USINT : Addr) (w_UINT : Addr) (w_UDINT : Addr) (w_ULINT : Addr) (h0 : P w_BOOL (1 : Int32)) (h1 : P w_SINT (8 : Int32)) (h2 : P w_INT (16 : Int32)) (h3 : P w_DINT (32 : Int32)) (h4 : P w_LINT (64 : Int32)) (h5 : P w_USINT (8 : Int32)) (h6 : P w_UINT (16 : Int32)) (h7 : P w_UDINT (32 : Int32)) (h8 : P w_ULINT (64 : Int32)) : P (F1 p0 w_BOOL w_SINT w_INT w_DINT w_LINT w_USINT w_UINT w_UDINT w_ULINT) (Gb p0) := own_ite2 (P := P) h0 (own_ite2 (P := P) h1 (own_ite2 (P := P) h2 (own_ite2 (P := P) h3 (own_ite2 (P := P) h4 (own_ite2 (P := P) h5 (own_ite2 (P := P) h6 (own_ite2 (P := P) h7 (h8))))))))
theorem own_F1_Gs {P : Addr → Int32 → Prop} (p0 : Int32) (w_BOOL : Addr) (w_SINT : Addr) (w_INT : Addr) (w_DINT : Addr) (w_LINT : Addr) (w_USINT : Addr) (w_UINT : Addr) (w_UDINT : Addr) (w_ULINT : Addr) (h0 : P w_BOOL (0 : Int32)) (h1 : P w_SINT (1 : Int32)) (h2 : P w_INT (1 : Int32)) (h3 : P w_DINT (1 : Int32)) (h4 : P w_LINT (1 : Int32)) (h5 : P w_USINT (0 : Int32)) (h6 : P w_UINT (0 : Int32)) (h7 : P w_UDINT (0 : Int32)) (h8 : P w_ULINT (0 : Int32)) : P (F1 p0 w_BOOL w_SINT w_INT w_DINT w_LINT w_USINT w_UINT w_UDINT w_ULINT) (Gs p0) := own_ite2 (P := P) h0 (own_ite2 (P := P) h1 (own_ite2 (P := P) h2 (own_ite2 (P := P) h3 (own_ite2 (P := P) h4 (own_ite2 (P := P) h5 (own_ite2 (P := P) h6 (own_ite2 (P := P) h7 (h8))))))))
theorem ef_rm0 (m : MethodId) (p0 : Int32) (q1 : Int64) : entryFrame m #[(.int p0), (.long q1)] maxLocals = mkF m 0 #[.val (.int p0), .val (.long q1), .second, .unset, .unset, .unset, .unset] [] := by first | (simp [entryFrame, mkF, argsToLocals, Value.category, maxLocals]; done) | rfl
def F0 (p0 : Int32) (q1 : Int64) (w_BOOL : Addr) (w_SINT : Addr) (w_INT : Addr) (w_DINT : Addr) (w_LINT : Addr) (w_USINT : Addr) (w_UINT : Addr) (w_UDINT : Addr) (w_ULINT : Addr) : Int32 := if (F2 (F1 ((p0 &&& (2147483647 : Int32)) % (9 : Int32)) w_BOOL w_SINT w_INT w_DINT w_LINT w_USINT w_UINT w_UDINT w_ULINT) q1 (Gb ((p0 &&& (2147483647 : Int32)) % (9 : Int32))) (Gs ((p0 &&& (2147483647 : Int32)) % (9 : Int32)))) = (F3 ((p0 &&& (2147483647 : Int32)) % (9 : Int32)) q1) then (1 : Int32) else (0 : Int32)
def Q0 (p0 : Int32) (q1 : Int64) (w_BOOL : Addr) (w_SINT : Addr) (w_INT : Addr) (w_DINT : Addr) (w_LINT : Addr) (w_USINT : Addr) (w_UINT : Addr) (w_UDINT : Addr) (w_ULINT : Addr) (h0 : Heap) (n0 : Nat) (v : Option Value) (h : Heap) (L : List Loc) : Prop := v = some (Value.int (F0 p0 q1 w_BOOL w_SINT w_INT w_DINT w_LINT w_USINT w_UINT w_UDINT w_ULINT)) ∧ Fr n0 L ∧ h = h0
set_option maxRecDepth 65536 in
set_option maxHeartbeats 40000000 in
theorem rm0 (l : Launch) (Z : State) (a0 : Array Value) (hw : ∀ d ∈ tables_1, d.before a0 Z = true) (ws : List Jvm.Cond) (p0 : Int32) (q1 : Int64) (w_BOOL : Addr) (w_SINT : Addr) (w_INT : Addr) (w_DINT : Addr) (w_LINT : Addr) (w_USINT : Addr) (w_UINT : Addr) (w_UDINT : Addr) (w_ULINT : Addr) (h0 : Heap) (n0 : Nat) (O0 : Old Z n0 h0) (E_w_BOOL : Exa Z h0 w_BOOL "com/example/verdikt/verdikt/model/ElementaryType") (E_w_SINT : Exa Z h0 w_SINT "com/example/verdikt/verdikt/model/ElementaryType") (E_w_INT : Exa Z h0 w_INT "com/example/verdikt/verdikt/model/ElementaryType") (E_w_DINT : Exa Z h0 w_DINT "com/example/verdikt/verdikt/model/ElementaryType") (E_w_LINT : Exa Z h0 w_LINT "com/example/verdikt/verdikt/model/ElementaryType") (E_w_USINT : Exa Z h0 w_USINT "com/example/verdikt/verdikt/model/ElementaryType") (E_w_UINT : Exa Z h0 w_UINT "com/example/verdikt/verdikt/model/ElementaryType") (E_w_UDINT : Exa Z h0 w_UDINT "com/example/verdikt/verdikt/model/ElementaryType") (E_w_ULINT : Exa Z h0 w_ULINT "com/example/verdikt/verdikt/model/ElementaryType") (F_bits_w_BOOL : Fld Z h0 w_BOOL "com/example/verdikt/verdikt/model/ElementaryType" "bits" "I" (.int (1 : Int32))) (F_bits_w_SINT : Fld Z h0 w_SINT "com/example/verdikt/verdikt/model/ElementaryType" "bits" "I" (.int (8 : Int32))) (F_bits_w_INT : Fld Z h0 w_INT "com/example/verdikt/verdikt/model/ElementaryType" "bits" "I" (.int (16 : Int32))) (F_bits_w_DINT : Fld Z h0 w_DINT "com/example/verdikt/verdikt/model/ElementaryType" "bits" "I" (.int (32 : Int32))) (F_bits_w_LINT : Fld Z h0 w_LINT "com/example/verdikt/verdikt/model/ElementaryType" "bits" "I" (.int (64 : Int32))) (F_bits_w_USINT : Fld Z h0 w_USINT "com/example/verdikt/verdikt/model/ElementaryType" "bits" "I" (.int (8 : Int32))) (F_bits_w_UINT : Fld Z h0 w_UINT "com/example/verdikt/verdikt/model/ElementaryType" "bits" "I" (.int (16 : Int32))) (F_bits_w_UDINT : Fld Z h0 w_UDINT "com/example/verdikt/verdikt/model/ElementaryType" "bits" "I" (.int (32 : Int32))) (F_bits_w_ULINT : Fld Z h0 w_ULINT "com/example/verdikt/verdikt/model/ElementaryType" "bits" "I" (.int (64 : Int32))) (F_signed_w_BOOL : Fld Z h0 w_BOOL "com/example/verdikt/verdikt/model/ElementaryType" "signed" "Z" (.int (0 : Int32))) (F_signed_w_SINT : Fld Z h0 w_SINT "com/example/verdikt/verdikt/model/ElementaryType" "signed" "Z" (.int (1 : Int32))) (F_signed_w_INT : Fld Z h0 w_INT "com/example/verdikt/verdikt/model/ElementaryType" "signed" "Z" (.int (1 : Int32))) (F_signed_w_DINT : Fld Z h0 w_DINT "com/example/verdikt/verdikt/model/ElementaryType" "signed" "Z" (.int (1 : Int32))) (F_signed_w_LINT : Fld Z h0 w_LINT "com/example/verdikt/verdikt/model/ElementaryType" "signed" "Z" (.int (1 : Int32))) (F_signed_w_USINT : Fld Z h0 w_USINT "com/example/verdikt/verdikt/model/ElementaryType" "signed" "Z" (.int (0 : Int32))) (F_signed_w_UINT : Fld Z h0 w_UINT "com/example/verdikt/verdikt/model/ElementaryType" "signed" "Z" (.int (0 : Int32))) (F_signed_w_UDINT : Fld Z h0 w_UDINT "com/example/verdikt/verdikt/model/ElementaryType" "signed" "Z" (.int (0 : Int32))) (F_signed_w_ULINT : Fld Z h0 w_ULINT "com/example/verdikt/verdikt/model/ElementaryType" "signed" "Z" (.int (0 : Int32))) (S_BOOL : Sta Z Z.heap "com/example/verdikt/verdikt/model/ElementaryType" "BOOL" "Lcom/example/verdikt/verdikt/model/ElementaryType;" (.ref w_BOOL)) (S_SINT : Sta Z Z.heap "com/example/verdikt/verdikt/model/ElementaryType" "SINT" "Lcom/example/verdikt/verdikt/model/ElementaryType;" (.ref w_SINT)) (S_INT : Sta Z Z.heap "com/example/verdikt/verdikt/model/ElementaryType" "INT" "Lcom/example/verdikt/verdikt/model/ElementaryType;" (.ref w_INT)) (S_DINT : Sta Z Z.heap "com/example/verdikt/verdikt/model/ElementaryType" "DINT" "Lcom/example/verdikt/verdikt/model/ElementaryType;" (.ref w_DINT)) (S_LINT : Sta Z Z.heap "com/example/verdikt/verdikt/model/ElementaryType" "LINT" "Lcom/example/verdikt/verdikt/model/ElementaryType;" (.ref w_LINT)) (S_USINT : Sta Z Z.heap "com/example/verdikt/verdikt/model/ElementaryType" "USINT" "Lcom/example/verdikt/verdikt/model/ElementaryType;" (.ref w_USINT)) (S_UINT : Sta Z Z.heap "com/example/verdikt/verdikt/model/ElementaryType" "UINT" "Lcom/example/verdikt/verdikt/model/ElementaryType;" (.ref w_UINT)) (S_UDINT : Sta Z Z.heap "com/example/verdikt/verdikt/model/ElementaryType" "UDINT" "Lcom/example/verdikt/verdikt/model/ElementaryType;" (.ref w_UDINT)) (S_ULINT : Sta Z Z.heap "com/example/verdikt/verdikt/model/ElementaryType" "ULINT" "Lcom/example/verdikt/verdikt/model/ElementaryType;" (.ref w_ULINT)) :
    MetFree l x (head1 (Jvm.Cond.code x code maxLocals ret :: ws) room_1) (fun a U => a = #[(.int p0), (.long q1)] ∧ Z.Warmed39 U.vm ∧ U.heap = h0) (fun _ _ _ _ _ => True) (fun _ U o U' => ∃ v L, o = .returned v ∧ Q0 p0 q1 w_BOOL w_SINT w_INT w_DINT w_LINT w_USINT w_UINT w_UDINT w_ULINT h0 n0 v U'.heap L ∧ FrameEnd U o U' L room_1.cells room_1.slots) := by
  refine MetFree.of_bodySF (plainFor_of_name pn_com_example_verdikt_verdikt_model_ElementaryTypeWrapPinLaw) hisR ?_
  intro p e s m args below meth c s₁ Bd hml0 hP hK
  obtain ⟨rfl, hZ, hh⟩ := hP
  have hx := Bd.exec
  have hby := Bd.bytes
  have hml : c.maxLocals = 7 := hml0
  have hown : s.vm.findClass "com/example/verdikt/verdikt/model/ElementaryTypeWrapPinLaw" = some m.cls := findClass_of_methodNamed Bd.named
  have hnm := (name_of_methodNamed Bd.named Bd.method).1
  have X0 : Stand p l e room_1 s m #[(.int p0), (.long q1)] below meth c s₁ [] 0 0 := Stand.of_body Bd
  have e0 : s₁.heap = h0 := by rw [← hh, Bd.state]; rfl
  have N0 := Fr.nil n0
  show OFin p e below (fun o t L => FrameEnd s o t L room_1.cells room_1.slots) (fun v h L => Q0 p0 q1 w_BOOL w_SINT w_INT w_DINT w_LINT w_USINT w_UINT w_UDINT w_ULINT h0 n0 v h L) s₁ (entryFrame m #[(.int p0), (.long q1)] maxLocals)
  refine OFin.cast (ef_rm0 m p0 q1) ?_
  show OFin p e below _ _ s₁ (mkF m 0 #[.val (.int p0), .val (.long q1), .second, .unset, .unset, .unset, .unset] [])
  refine OFin.st (fun t k => XS.iloadN X0.here hx rfl (hb hby at_0) rfl k) ?_
  show OFin p e below _ _ s₁ (mkF m 1 #[.val (.int p0), .val (.long q1), .second, .unset, .unset, .unset, .unset] [(.int p0)])
  refine OFin.st (X0.ldcInt hx hown (mvT hZ (hw _ (List.mem_of_getElem? (i := 0) rfl))) (g := (mkF m 1 #[.val (.int p0), .val (.long q1), .second, .unset, .unset, .unset, .unset] [(.int p0)])) rfl (hb hby at_1)) ?_
  show OFin p e below _ _ s₁ (mkF m 3 #[.val (.int p0), .val (.long q1), .second, .unset, .unset, .unset, .unset] [(.int (2147483647 : Int32)), (.int p0)])
  refine OFin.st (fun t k => XS.iand X0.here hx rfl (hb hby at_3) rfl k) ?_
  show OFin p e below _ _ s₁ (mkF m 4 #[.val (.int p0), .val (.long q1), .second, .unset, .unset, .unset, .unset] [(.int (p0 &&& (2147483647 : Int32)))])
  refine OFin.st (fun t k => XS.bipush X0.here hx rfl (hb hby at_4) k) ?_
  show OFin p e below _ _ s₁ (mkF m 6 #[.val (.int p0), .val (.long q1), .second, .unset, .unset, .unset, .unset] [(.int (9 : Int32)), (.int (p0 &&& (2147483647 : Int32)))])
  refine OFin.st (fun t k => iremM X0 hx rfl (hb hby at_6) rfl (by decide) k) ?_
  show OFin p e below _ _ s₁ (mkF m 7 #[.val (.int p0), .val (.long q1), .second, .unset, .unset, .unset, .unset] [(.int ((p0 &&& (2147483647 : Int32)) % (9 : Int32)))])
  refine OFin.st (fun t k => XS.istoreN X0.here hx rfl (hb hby at_7) rfl (l' := #[.val (.int p0), .val (.long q1), .second, .val (.int ((p0 &&& (2147483647 : Int32)) % (9 : Int32))), .unset, .unset, .unset]) rfl k) ?_
  show OFin p e below _ _ s₁ (mkF m 8 #[.val (.int p0), .val (.long q1), .second, .val (.int ((p0 &&& (2147483647 : Int32)) % (9 : Int32))), .unset, .unset, .unset] [])
  refine OFin.st (fun t k => XS.iloadN X0.here hx rfl (hb hby at_8) rfl k) ?_
  show OFin p e below _ _ s₁ (mkF m 9 #[.val (.int p0), .val (.long q1), .second, .val (.int ((p0 &&& (2147483647 : Int32)) % (9 : Int32))), .unset, .unset, .unset] [(.int ((p0 &&& (2147483647 : Int32)) % (9 : Int32)))])
  obtain ⟨_, _, ⟨T1, L1, k1, n1⟩, -, X1, ⟨Lc1, hQ1, l1, y1, z1⟩, st1⟩ := Jvm.LawKit.callS X0 hx (y := (⟨"com/example/verdikt/verdikt/model/ElementaryTypeWrapPinLaw", "pick", "(I)Lcom/example/verdikt/verdikt/model/ElementaryType;"⟩ : MethodName)) hown (mvT hZ (hw _ (List.mem_of_getElem? (i := 1) rfl))) (mvT hZ (hw _ (List.mem_of_getElem? (i := 2) rfl))) (mvT hZ (hw _ (List.mem_of_getElem? (i := 3) rfl))) (mvT hZ (hw _ (List.mem_of_getElem? (i := 4) rfl))) (by decide) (backOf (W := 0) (rm1 l Z a0 hw [] ((p0 &&& (2147483647 : Int32)) % (9 : Int32)) w_BOOL w_SINT w_INT w_DINT w_LINT w_USINT w_UINT w_UDINT w_ULINT h0 n0 O0 S_BOOL S_SINT S_INT S_DINT S_LINT S_USINT S_UINT S_UDINT S_ULINT) hZ (hw _ (List.mem_of_getElem? (i := 4) rfl)) (hw _ (List.mem_of_getElem? (i := 3) rfl)) (by decide) (by decide)) (g := (mkF m 9 #[.val (.int p0), .val (.long q1), .second, .val (.int ((p0 &&& (2147483647 : Int32)) % (9 : Int32))), .unset, .unset, .unset] [(.int ((p0 &&& (2147483647 : Int32)) % (9 : Int32)))])) rfl (by rw [hml]; rfl) (argsL := [(.int ((p0 &&& (2147483647 : Int32)) % (9 : Int32)))]) (rest := []) (lenOf pd_0 rfl) rfl (by show 2 * 0 + _ ≤ _; exact Nat.le_of_eq rfl) (hb hby at_9) (fun _ _ => ⟨rfl, e0, (by decide : 0 + 0 ≤ _), (by decide : 0 + 0 ≤ _)⟩)
  dsimp only [Pt.U, Pt.locs, Pt.cells, Pt.slots] at X1 l1 y1 z1 st1 hQ1
  subst l1 y1 z1
  obtain ⟨rfl, N1q, e1⟩ := hQ1
  have N1 := Fr.app N0 N1q
  refine OFin.st st1 ?_
  show OFin p e below _ _ T1 (mkF m 12 #[.val (.int p0), .val (.long q1), .second, .val (.int ((p0 &&& (2147483647 : Int32)) % (9 : Int32))), .unset, .unset, .unset] [(.ref (F1 ((p0 &&& (2147483647 : Int32)) % (9 : Int32)) w_BOOL w_SINT w_INT w_DINT w_LINT w_USINT w_UINT w_UDINT w_ULINT))])
  refine OFin.st (fun t k => XS.astore X1.here hx rfl (hb hby at_12) rfl rfl (l' := #[.val (.int p0), .val (.long q1), .second, .val (.int ((p0 &&& (2147483647 : Int32)) % (9 : Int32))), .val (.ref (F1 ((p0 &&& (2147483647 : Int32)) % (9 : Int32)) w_BOOL w_SINT w_INT w_DINT w_LINT w_USINT w_UINT w_UDINT w_ULINT)), .unset, .unset]) rfl k) ?_
  show OFin p e below _ _ T1 (mkF m 14 #[.val (.int p0), .val (.long q1), .second, .val (.int ((p0 &&& (2147483647 : Int32)) % (9 : Int32))), .val (.ref (F1 ((p0 &&& (2147483647 : Int32)) % (9 : Int32)) w_BOOL w_SINT w_INT w_DINT w_LINT w_USINT w_UINT w_UDINT w_ULINT)), .unset, .unset] [])
  refine OFin.st (fun t k => XS.aload X1.here hx rfl (hb hby at_14) rfl rfl k) ?_
  show OFin p e below _ _ T1 (mkF m 16 #[.val (.int p0), .val (.long q1), .second, .val (.int ((p0 &&& (2147483647 : Int32)) % (9 : Int32))), .val (.ref (F1 ((p0 &&& (2147483647 : Int32)) % (9 : Int32)) w_BOOL w_SINT w_INT w_DINT w_LINT w_USINT w_UINT w_UDINT w_ULINT)), .unset, .unset] [(.ref (F1 ((p0 &&& (2147483647 : Int32)) % (9 : Int32)) w_BOOL w_SINT w_INT w_DINT w_LINT w_USINT w_UINT w_UDINT w_ULINT))])
  refine OFin.st (fun t k => XS.lloadN X1.here hx rfl (hb hby at_16) rfl k) ?_
  show OFin p e below _ _ T1 (mkF m 17 #[.val (.int p0), .val (.long q1), .second, .val (.int ((p0 &&& (2147483647 : Int32)) % (9 : Int32))), .val (.ref (F1 ((p0 &&& (2147483647 : Int32)) % (9 : Int32)) w_BOOL w_SINT w_INT w_DINT w_LINT w_USINT w_UINT w_UDINT w_ULINT)), .unset, .unset] [(.long q1), (.ref (F1 ((p0 &&& (2147483647 : Int32)) % (9 : Int32)) w_BOOL w_SINT w_INT w_DINT w_LINT w_USINT w_UINT w_UDINT w_ULINT))])
  obtain ⟨cq2, kq2, q2a, q2b, q2c⟩ := isOf hZ e1 (own_F1 (P := fun a => Exa Z h0 a "com/example/verdikt/verdikt/model/ElementaryType") _ w_BOOL w_SINT w_INT w_DINT w_LINT w_USINT w_UINT w_UDINT w_ULINT E_w_BOOL E_w_SINT E_w_INT E_w_DINT E_w_LINT E_w_USINT E_w_UINT E_w_UDINT E_w_ULINT)
  obtain ⟨_, _, ⟨T2, L2, k2, n2⟩, -, X2, ⟨Lc2, hQ2, l2, y2, z2⟩, st2⟩ := X1.virtualBack hx (y := (⟨"com/example/verdikt/verdikt/model/ElementaryType", "wrap", "(J)J"⟩ : MethodName)) (z := (⟨"com/example/verdikt/verdikt/model/ElementaryType", "wrap", "(J)J"⟩ : MethodName)) hown (mvT hZ (hw _ (List.mem_of_getElem? (i := 8) rfl))) (mvT hZ (hw _ (List.mem_of_getElem? (i := 9) rfl))) (notFace_of_selects (args := #[]) (mvT hZ (hw _ (List.mem_of_getElem? (i := 11) rfl)))) (mvT hZ (hw _ (List.mem_of_getElem? (i := 11) rfl))) (mvT hZ (hw _ (List.mem_of_getElem? (i := 10) rfl))) (by decide) (backOf (W := 0) (rm2 l Z a0 hw [] (F1 ((p0 &&& (2147483647 : Int32)) % (9 : Int32)) w_BOOL w_SINT w_INT w_DINT w_LINT w_USINT w_UINT w_UDINT w_ULINT) q1 (Gb ((p0 &&& (2147483647 : Int32)) % (9 : Int32))) (Gs ((p0 &&& (2147483647 : Int32)) % (9 : Int32))) h0 n0 O0 (own_F1_Gb (P := fun a z => Fld Z h0 a "com/example/verdikt/verdikt/model/ElementaryType" "bits" "I" (.int z)) ((p0 &&& (2147483647 : Int32)) % (9 : Int32)) w_BOOL w_SINT w_INT w_DINT w_LINT w_USINT w_UINT w_UDINT w_ULINT F_bits_w_BOOL F_bits_w_SINT F_bits_w_INT F_bits_w_DINT F_bits_w_LINT F_bits_w_USINT F_bits_w_UINT F_bits_w_UDINT F_bits_w_ULINT) (own_F1_Gs (P := fun a z => Fld Z h0 a "com/example/verdikt/verdikt/model/ElementaryType" "signed" "Z" (.int z)) ((p0 &&& (2147483647 : Int32)) % (9 : Int32)) w_BOOL w_SINT w_INT w_DINT w_LINT w_USINT w_UINT w_UDINT w_ULINT F_signed_w_BOOL F_signed_w_SINT F_signed_w_INT F_signed_w_DINT F_signed_w_LINT F_signed_w_USINT F_signed_w_UINT F_signed_w_UDINT F_signed_w_ULINT)) hZ (hw _ (List.mem_of_getElem? (i := 12) rfl)) (hw _ (List.mem_of_getElem? (i := 6) rfl)) (by decide) (by decide)) q2a q2c (g := (mkF m 17 #[.val (.int p0), .val (.long q1), .second, .val (.int ((p0 &&& (2147483647 : Int32)) % (9 : Int32))), .val (.ref (F1 ((p0 &&& (2147483647 : Int32)) % (9 : Int32)) w_BOOL w_SINT w_INT w_DINT w_LINT w_USINT w_UINT w_UDINT w_ULINT)), .unset, .unset] [(.long q1), (.ref (F1 ((p0 &&& (2147483647 : Int32)) % (9 : Int32)) w_BOOL w_SINT w_INT w_DINT w_LINT w_USINT w_UINT w_UDINT w_ULINT))])) rfl (by rw [hml]; rfl) (Steps.refl _) (argsL := [(.long q1)]) (rest := []) (lenOf pd_2 rfl) rfl (by show 2 * 0 + _ ≤ _; exact Nat.le_of_eq rfl) (hb hby at_17) (fun _ _ => ⟨rfl, e1, (by decide : 0 + 0 ≤ _), (by decide : 0 + 0 ≤ _)⟩)
  dsimp only [Pt.U, Pt.locs, Pt.cells, Pt.slots] at X2 l2 y2 z2 st2 hQ2
  subst l2 y2 z2
  obtain ⟨rfl, N2q, e2⟩ := hQ2
  have N2 := Fr.app N1 N2q
  refine OFin.tr st2 ?_
  show OFin p e below _ _ T2 (mkF m 20 #[.val (.int p0), .val (.long q1), .second, .val (.int ((p0 &&& (2147483647 : Int32)) % (9 : Int32))), .val (.ref (F1 ((p0 &&& (2147483647 : Int32)) % (9 : Int32)) w_BOOL w_SINT w_INT w_DINT w_LINT w_USINT w_UINT w_UDINT w_ULINT)), .unset, .unset] [(.long (F2 (F1 ((p0 &&& (2147483647 : Int32)) % (9 : Int32)) w_BOOL w_SINT w_INT w_DINT w_LINT w_USINT w_UINT w_UDINT w_ULINT) q1 (Gb ((p0 &&& (2147483647 : Int32)) % (9 : Int32))) (Gs ((p0 &&& (2147483647 : Int32)) % (9 : Int32)))))])
  refine OFin.st (fun t k => XS.lstore X2.here hx rfl (hb hby at_20) rfl (l' := #[.val (.int p0), .val (.long q1), .second, .val (.int ((p0 &&& (2147483647 : Int32)) % (9 : Int32))), .val (.ref (F1 ((p0 &&& (2147483647 : Int32)) % (9 : Int32)) w_BOOL w_SINT w_INT w_DINT w_LINT w_USINT w_UINT w_UDINT w_ULINT)), .val (.long (F2 (F1 ((p0 &&& (2147483647 : Int32)) % (9 : Int32)) w_BOOL w_SINT w_INT w_DINT w_LINT w_USINT w_UINT w_UDINT w_ULINT) q1 (Gb ((p0 &&& (2147483647 : Int32)) % (9 : Int32))) (Gs ((p0 &&& (2147483647 : Int32)) % (9 : Int32))))), .second]) rfl k) ?_
  show OFin p e below _ _ T2 (mkF m 22 #[.val (.int p0), .val (.long q1), .second, .val (.int ((p0 &&& (2147483647 : Int32)) % (9 : Int32))), .val (.ref (F1 ((p0 &&& (2147483647 : Int32)) % (9 : Int32)) w_BOOL w_SINT w_INT w_DINT w_LINT w_USINT w_UINT w_UDINT w_ULINT)), .val (.long (F2 (F1 ((p0 &&& (2147483647 : Int32)) % (9 : Int32)) w_BOOL w_SINT w_INT w_DINT w_LINT w_USINT w_UINT w_UDINT w_ULINT) q1 (Gb ((p0 &&& (2147483647 : Int32)) % (9 : Int32))) (Gs ((p0 &&& (2147483647 : Int32)) % (9 : Int32))))), .second] [])
  refine OFin.st (fun t k => XS.lload X2.here hx rfl (hb hby at_22) rfl k) ?_
  show OFin p e below _ _ T2 (mkF m 24 #[.val (.int p0), .val (.long q1), .second, .val (.int ((p0 &&& (2147483647 : Int32)) % (9 : Int32))), .val (.ref (F1 ((p0 &&& (2147483647 : Int32)) % (9 : Int32)) w_BOOL w_SINT w_INT w_DINT w_LINT w_USINT w_UINT w_UDINT w_ULINT)), .val (.long (F2 (F1 ((p0 &&& (2147483647 : Int32)) % (9 : Int32)) w_BOOL w_SINT w_INT w_DINT w_LINT w_USINT w_UINT w_UDINT w_ULINT) q1 (Gb ((p0 &&& (2147483647 : Int32)) % (9 : Int32))) (Gs ((p0 &&& (2147483647 : Int32)) % (9 : Int32))))), .second] [(.long (F2 (F1 ((p0 &&& (2147483647 : Int32)) % (9 : Int32)) w_BOOL w_SINT w_INT w_DINT w_LINT w_USINT w_UINT w_UDINT w_ULINT) q1 (Gb ((p0 &&& (2147483647 : Int32)) % (9 : Int32))) (Gs ((p0 &&& (2147483647 : Int32)) % (9 : Int32)))))])
  refine OFin.st (fun t k => XS.iloadN X2.here hx rfl (hb hby at_24) rfl k) ?_
  show OFin p e below _ _ T2 (mkF m 25 #[.val (.int p0), .val (.long q1), .second, .val (.int ((p0 &&& (2147483647 : Int32)) % (9 : Int32))), .val (.ref (F1 ((p0 &&& (2147483647 : Int32)) % (9 : Int32)) w_BOOL w_SINT w_INT w_DINT w_LINT w_USINT w_UINT w_UDINT w_ULINT)), .val (.long (F2 (F1 ((p0 &&& (2147483647 : Int32)) % (9 : Int32)) w_BOOL w_SINT w_INT w_DINT w_LINT w_USINT w_UINT w_UDINT w_ULINT) q1 (Gb ((p0 &&& (2147483647 : Int32)) % (9 : Int32))) (Gs ((p0 &&& (2147483647 : Int32)) % (9 : Int32))))), .second] [(.int ((p0 &&& (2147483647 : Int32)) % (9 : Int32))), (.long (F2 (F1 ((p0 &&& (2147483647 : Int32)) % (9 : Int32)) w_BOOL w_SINT w_INT w_DINT w_LINT w_USINT w_UINT w_UDINT w_ULINT) q1 (Gb ((p0 &&& (2147483647 : Int32)) % (9 : Int32))) (Gs ((p0 &&& (2147483647 : Int32)) % (9 : Int32)))))])
  refine OFin.st (fun t k => XS.lloadN X2.here hx rfl (hb hby at_25) rfl k) ?_
  show OFin p e below _ _ T2 (mkF m 26 #[.val (.int p0), .val (.long q1), .second, .val (.int ((p0 &&& (2147483647 : Int32)) % (9 : Int32))), .val (.ref (F1 ((p0 &&& (2147483647 : Int32)) % (9 : Int32)) w_BOOL w_SINT w_INT w_DINT w_LINT w_USINT w_UINT w_UDINT w_ULINT)), .val (.long (F2 (F1 ((p0 &&& (2147483647 : Int32)) % (9 : Int32)) w_BOOL w_SINT w_INT w_DINT w_LINT w_USINT w_UINT w_UDINT w_ULINT) q1 (Gb ((p0 &&& (2147483647 : Int32)) % (9 : Int32))) (Gs ((p0 &&& (2147483647 : Int32)) % (9 : Int32))))), .second] [(.long q1), (.int ((p0 &&& (2147483647 : Int32)) % (9 : Int32))), (.long (F2 (F1 ((p0 &&& (2147483647 : Int32)) % (9 : Int32)) w_BOOL w_SINT w_INT w_DINT w_LINT w_USINT w_UINT w_UDINT w_ULINT) q1 (Gb ((p0 &&& (2147483647 : Int32)) % (9 : Int32))) (Gs ((p0 &&& (2147483647 : Int32)) % (9 : Int32)))))])
  obtain ⟨_, _, ⟨T3, L3, k3, n3⟩, -, X3, ⟨Lc3, hQ3, l3, y3, z3⟩, st3⟩ := Jvm.LawKit.callS X2 hx (y := (⟨"com/example/verdikt/verdikt/model/ElementaryTypeWrapPinLaw", "expected", "(IJ)J"⟩ : MethodName)) hown (mvT hZ (hw _ (List.mem_of_getElem? (i := 17) rfl))) (mvT hZ (hw _ (List.mem_of_getElem? (i := 18) rfl))) (mvT hZ (hw _ (List.mem_of_getElem? (i := 3) rfl))) (mvT hZ (hw _ (List.mem_of_getElem? (i := 19) rfl))) (by decide) (backOf (W := 2) (rm3 l Z a0 hw [] ((p0 &&& (2147483647 : Int32)) % (9 : Int32)) q1 h0 n0 O0 ) hZ (hw _ (List.mem_of_getElem? (i := 19) rfl)) (hw _ (List.mem_of_getElem? (i := 3) rfl)) (by decide) (by decide)) (g := (mkF m 26 #[.val (.int p0), .val (.long q1), .second, .val (.int ((p0 &&& (2147483647 : Int32)) % (9 : Int32))), .val (.ref (F1 ((p0 &&& (2147483647 : Int32)) % (9 : Int32)) w_BOOL w_SINT w_INT w_DINT w_LINT w_USINT w_UINT w_UDINT w_ULINT)), .val (.long (F2 (F1 ((p0 &&& (2147483647 : Int32)) % (9 : Int32)) w_BOOL w_SINT w_INT w_DINT w_LINT w_USINT w_UINT w_UDINT w_ULINT) q1 (Gb ((p0 &&& (2147483647 : Int32)) % (9 : Int32))) (Gs ((p0 &&& (2147483647 : Int32)) % (9 : Int32))))), .second] [(.long q1), (.int ((p0 &&& (2147483647 : Int32)) % (9 : Int32))), (.long (F2 (F1 ((p0 &&& (2147483647 : Int32)) % (9 : Int32)) w_BOOL w_SINT w_INT w_DINT w_LINT w_USINT w_UINT w_UDINT w_ULINT) q1 (Gb ((p0 &&& (2147483647 : Int32)) % (9 : Int32))) (Gs ((p0 &&& (2147483647 : Int32)) % (9 : Int32)))))])) rfl (by rw [hml]; rfl) (argsL := [(.int ((p0 &&& (2147483647 : Int32)) % (9 : Int32))), (.long q1)]) (rest := [(.long (F2 (F1 ((p0 &&& (2147483647 : Int32)) % (9 : Int32)) w_BOOL w_SINT w_INT w_DINT w_LINT w_USINT w_UINT w_UDINT w_ULINT) q1 (Gb ((p0 &&& (2147483647 : Int32)) % (9 : Int32))) (Gs ((p0 &&& (2147483647 : Int32)) % (9 : Int32)))))]) (lenOf pd_1 rfl) rfl (by show 2 * 0 + _ ≤ _; exact Nat.le_of_eq rfl) (hb hby at_26) (fun _ _ => ⟨rfl, e2, (by decide : 0 + 0 ≤ _), (by decide : 0 + 0 ≤ _)⟩)
  dsimp only [Pt.U, Pt.locs, Pt.cells, Pt.slots] at X3 l3 y3 z3 st3 hQ3
  subst l3 y3 z3
  obtain ⟨rfl, N3q, e3⟩ := hQ3
  have N3 := Fr.app N2 N3q
  refine OFin.st st3 ?_
  show OFin p e below _ _ T3 (mkF m 29 #[.val (.int p0), .val (.long q1), .second, .val (.int ((p0 &&& (2147483647 : Int32)) % (9 : Int32))), .val (.ref (F1 ((p0 &&& (2147483647 : Int32)) % (9 : Int32)) w_BOOL w_SINT w_INT w_DINT w_LINT w_USINT w_UINT w_UDINT w_ULINT)), .val (.long (F2 (F1 ((p0 &&& (2147483647 : Int32)) % (9 : Int32)) w_BOOL w_SINT w_INT w_DINT w_LINT w_USINT w_UINT w_UDINT w_ULINT) q1 (Gb ((p0 &&& (2147483647 : Int32)) % (9 : Int32))) (Gs ((p0 &&& (2147483647 : Int32)) % (9 : Int32))))), .second] [(.long (F3 ((p0 &&& (2147483647 : Int32)) % (9 : Int32)) q1)), (.long (F2 (F1 ((p0 &&& (2147483647 : Int32)) % (9 : Int32)) w_BOOL w_SINT w_INT w_DINT w_LINT w_USINT w_UINT w_UDINT w_ULINT) q1 (Gb ((p0 &&& (2147483647 : Int32)) % (9 : Int32))) (Gs ((p0 &&& (2147483647 : Int32)) % (9 : Int32)))))])
  refine OFin.st (fun t k => XS.lcmp X3.here hx rfl (hb hby at_29) rfl k) ?_
  show OFin p e below _ _ T3 (mkF m 30 #[.val (.int p0), .val (.long q1), .second, .val (.int ((p0 &&& (2147483647 : Int32)) % (9 : Int32))), .val (.ref (F1 ((p0 &&& (2147483647 : Int32)) % (9 : Int32)) w_BOOL w_SINT w_INT w_DINT w_LINT w_USINT w_UINT w_UDINT w_ULINT)), .val (.long (F2 (F1 ((p0 &&& (2147483647 : Int32)) % (9 : Int32)) w_BOOL w_SINT w_INT w_DINT w_LINT w_USINT w_UINT w_UDINT w_ULINT) q1 (Gb ((p0 &&& (2147483647 : Int32)) % (9 : Int32))) (Gs ((p0 &&& (2147483647 : Int32)) % (9 : Int32))))), .second] [(.int (lcmpW (F2 (F1 ((p0 &&& (2147483647 : Int32)) % (9 : Int32)) w_BOOL w_SINT w_INT w_DINT w_LINT w_USINT w_UINT w_UDINT w_ULINT) q1 (Gb ((p0 &&& (2147483647 : Int32)) % (9 : Int32))) (Gs ((p0 &&& (2147483647 : Int32)) % (9 : Int32)))) (F3 ((p0 &&& (2147483647 : Int32)) % (9 : Int32)) q1)))])
  by_cases hc30 : (F2 (F1 ((p0 &&& (2147483647 : Int32)) % (9 : Int32)) w_BOOL w_SINT w_INT w_DINT w_LINT w_USINT w_UINT w_UDINT w_ULINT) q1 (Gb ((p0 &&& (2147483647 : Int32)) % (9 : Int32))) (Gs ((p0 &&& (2147483647 : Int32)) % (9 : Int32)))) = (F3 ((p0 &&& (2147483647 : Int32)) % (9 : Int32)) q1)
  · refine OFin.st (fun t k => XS.ifNo X3.here hx rfl (hb hby at_30) rfl ((if0 _ _).trans (teq ((lw_eq (F2 (F1 ((p0 &&& (2147483647 : Int32)) % (9 : Int32)) w_BOOL w_SINT w_INT w_DINT w_LINT w_USINT w_UINT w_UDINT w_ULINT) q1 (Gb ((p0 &&& (2147483647 : Int32)) % (9 : Int32))) (Gs ((p0 &&& (2147483647 : Int32)) % (9 : Int32)))) (F3 ((p0 &&& (2147483647 : Int32)) % (9 : Int32)) q1)).mpr hc30)).2) k) ?_
    show OFin p e below _ _ T3 (mkF m 33 #[.val (.int p0), .val (.long q1), .second, .val (.int ((p0 &&& (2147483647 : Int32)) % (9 : Int32))), .val (.ref (F1 ((p0 &&& (2147483647 : Int32)) % (9 : Int32)) w_BOOL w_SINT w_INT w_DINT w_LINT w_USINT w_UINT w_UDINT w_ULINT)), .val (.long (F2 (F1 ((p0 &&& (2147483647 : Int32)) % (9 : Int32)) w_BOOL w_SINT w_INT w_DINT w_LINT w_USINT w_UINT w_UDINT w_ULINT) q1 (Gb ((p0 &&& (2147483647 : Int32)) % (9 : Int32))) (Gs ((p0 &&& (2147483647 : Int32)) % (9 : Int32))))), .second] [])
    refine OFin.st (fun t k => XS.iconst X3.here hx rfl (hb hby at_33) k) ?_
    show OFin p e below _ _ T3 (mkF m 34 #[.val (.int p0), .val (.long q1), .second, .val (.int ((p0 &&& (2147483647 : Int32)) % (9 : Int32))), .val (.ref (F1 ((p0 &&& (2147483647 : Int32)) % (9 : Int32)) w_BOOL w_SINT w_INT w_DINT w_LINT w_USINT w_UINT w_UDINT w_ULINT)), .val (.long (F2 (F1 ((p0 &&& (2147483647 : Int32)) % (9 : Int32)) w_BOOL w_SINT w_INT w_DINT w_LINT w_USINT w_UINT w_UDINT w_ULINT) q1 (Gb ((p0 &&& (2147483647 : Int32)) % (9 : Int32))) (Gs ((p0 &&& (2147483647 : Int32)) % (9 : Int32))))), .second] [(.int (1 : Int32))])
    refine OFin.st (fun t k => XS.goto X3.here hx rfl (pc0 := 34) (pc' := 38) rfl (hb hby at_34) (by decide) (by decide) k) ?_
    show OFin p e below _ _ T3 (mkF m 38 #[.val (.int p0), .val (.long q1), .second, .val (.int ((p0 &&& (2147483647 : Int32)) % (9 : Int32))), .val (.ref (F1 ((p0 &&& (2147483647 : Int32)) % (9 : Int32)) w_BOOL w_SINT w_INT w_DINT w_LINT w_USINT w_UINT w_UDINT w_ULINT)), .val (.long (F2 (F1 ((p0 &&& (2147483647 : Int32)) % (9 : Int32)) w_BOOL w_SINT w_INT w_DINT w_LINT w_USINT w_UINT w_UDINT w_ULINT) q1 (Gb ((p0 &&& (2147483647 : Int32)) % (9 : Int32))) (Gs ((p0 &&& (2147483647 : Int32)) % (9 : Int32))))), .second] [(.int (1 : Int32))])
    exact own_retN X3 hx Bd.returns Bd.notSynchronized (t := .boolean) (by simp) rfl (hb hby at_38) ⟨(by rw [F0, if_pos hc30]; try rfl), N3, e3⟩ (own_endN (by decide) (by decide))
  · refine OFin.st (fun t k => XS.ifYes X3.here hx rfl (pc0 := 30) (pc' := 37) rfl (hb hby at_30) rfl ((if0 _ _).trans (feq (fun q => hc30 ((lw_eq (F2 (F1 ((p0 &&& (2147483647 : Int32)) % (9 : Int32)) w_BOOL w_SINT w_INT w_DINT w_LINT w_USINT w_UINT w_UDINT w_ULINT) q1 (Gb ((p0 &&& (2147483647 : Int32)) % (9 : Int32))) (Gs ((p0 &&& (2147483647 : Int32)) % (9 : Int32)))) (F3 ((p0 &&& (2147483647 : Int32)) % (9 : Int32)) q1)).mp q))).2) (by decide) (by decide) k) ?_
    show OFin p e below _ _ T3 (mkF m 37 #[.val (.int p0), .val (.long q1), .second, .val (.int ((p0 &&& (2147483647 : Int32)) % (9 : Int32))), .val (.ref (F1 ((p0 &&& (2147483647 : Int32)) % (9 : Int32)) w_BOOL w_SINT w_INT w_DINT w_LINT w_USINT w_UINT w_UDINT w_ULINT)), .val (.long (F2 (F1 ((p0 &&& (2147483647 : Int32)) % (9 : Int32)) w_BOOL w_SINT w_INT w_DINT w_LINT w_USINT w_UINT w_UDINT w_ULINT) q1 (Gb ((p0 &&& (2147483647 : Int32)) % (9 : Int32))) (Gs ((p0 &&& (2147483647 : Int32)) % (9 : Int32))))), .second] [])
    refine OFin.st (fun t k => XS.iconst X3.here hx rfl (hb hby at_37) k) ?_
    show OFin p e below _ _ T3 (mkF m 38 #[.val (.int p0), .val (.long q1), .second, .val (.int ((p0 &&& (2147483647 : Int32)) % (9 : Int32))), .val (.ref (F1 ((p0 &&& (2147483647 : Int32)) % (9 : Int32)) w_BOOL w_SINT w_INT w_DINT w_LINT w_USINT w_UINT w_UDINT w_ULINT)), .val (.long (F2 (F1 ((p0 &&& (2147483647 : Int32)) % (9 : Int32)) w_BOOL w_SINT w_INT w_DINT w_LINT w_USINT w_UINT w_UDINT w_ULINT) q1 (Gb ((p0 &&& (2147483647 : Int32)) % (9 : Int32))) (Gs ((p0 &&& (2147483647 : Int32)) % (9 : Int32))))), .second] [(.int (0 : Int32))])
    exact own_retN X3 hx Bd.returns Bd.notSynchronized (t := .boolean) (by simp) rfl (hb hby at_38) ⟨(by rw [F0, if_neg hc30]; try rfl), N3, e3⟩ (own_endN (by decide) (by decide))
theorem own_cases (k : Int32) (h : 0 ≤ k.toInt ∧ k.toInt < 9) : k = 0 ∨ k = 1 ∨ k = 2 ∨ k = 3 ∨ k = 4 ∨ k = 5 ∨ k = 6 ∨ k = 7 ∨ k = 8 := by
  simp only [← Int32.toInt_inj]
  have e : (0 : Int32).toInt = 0 ∧ (1 : Int32).toInt = 1 ∧ (2 : Int32).toInt = 2 ∧ (3 : Int32).toInt = 3 ∧ (4 : Int32).toInt = 4 ∧ (5 : Int32).toInt = 5 ∧ (6 : Int32).toInt = 6 ∧ (7 : Int32).toInt = 7 ∧ (8 : Int32).toInt = 8 := by decide
  omega
theorem own_sx8 (x : Int64) : (x <<< (((64 : Int32) - (8 : Int32)) &&& 0x3f).toInt64) >>> (((64 : Int32) - (8 : Int32)) &&& 0x3f).toInt64 = ((x.toInt32).toInt8.toInt32).toInt64 := by
  rw [← Int64.toInt_inj, c_lshr _ _ 56 (by decide), c_i2l]
  have h1 := c_lshl x ((64 : Int32) - (8 : Int32)) 56 (by decide)
  have h2 := c_i2b x.toInt32
  have h3 := c_l2i x
  have r := rng64 (x <<< (((64 : Int32) - (8 : Int32)) &&& 0x3f).toInt64)
  have e : ((2 ^ 56 : Nat) : Int) = 72057594037927936 := by decide
  rw [e] at h1 ⊢
  omega
theorem own_sx16 (x : Int64) : (x <<< (((64 : Int32) - (16 : Int32)) &&& 0x3f).toInt64) >>> (((64 : Int32) - (16 : Int32)) &&& 0x3f).toInt64 = ((x.toInt32).toInt16.toInt32).toInt64 := by
  rw [← Int64.toInt_inj, c_lshr _ _ 48 (by decide), c_i2l]
  have h1 := c_lshl x ((64 : Int32) - (16 : Int32)) 48 (by decide)
  have h2 := c_i2s x.toInt32
  have h3 := c_l2i x
  have r := rng64 (x <<< (((64 : Int32) - (16 : Int32)) &&& 0x3f).toInt64)
  have e : ((2 ^ 48 : Nat) : Int) = 281474976710656 := by decide
  rw [e] at h1 ⊢
  omega
theorem own_sx32 (x : Int64) : (x <<< (((64 : Int32) - (32 : Int32)) &&& 0x3f).toInt64) >>> (((64 : Int32) - (32 : Int32)) &&& 0x3f).toInt64 = (x.toInt32).toInt64 := by
  rw [← Int64.toInt_inj, c_lshr _ _ 32 (by decide), c_i2l]
  have h1 := c_lshl x ((64 : Int32) - (32 : Int32)) 32 (by decide)
  have h2 := rng32 x.toInt32
  have h3 := c_l2i x
  have r := rng64 (x <<< (((64 : Int32) - (32 : Int32)) &&& 0x3f).toInt64)
  have e : ((2 ^ 32 : Nat) : Int) = 4294967296 := by decide
  rw [e] at h1 ⊢
  omega
theorem own_same (r : Addr) (q1 : Int64) (k : Int32) (h : k = 0 ∨ k = 1 ∨ k = 2 ∨ k = 3 ∨ k = 4 ∨ k = 5 ∨ k = 6 ∨ k = 7 ∨ k = 8) : F2 r q1 (Gb k) (Gs k) = F3 k q1 := by
  rcases h with rfl | rfl | rfl | rfl | rfl | rfl | rfl | rfl | rfl
  · rw [F2, (by decide : Gb 0 = 1), (by decide : Gs 0 = 0), if_neg (by decide), if_pos rfl, F3, if_pos rfl]
    rw [(by decide : ((1 : Int64) <<< ((1 : Int32) &&& 0x3f).toInt64) - (1 : Int64) = 1)]
  · rw [F2, (by decide : Gb 1 = 8), (by decide : Gs 1 = 1), if_neg (by decide), if_neg (by decide), F3, if_neg (by decide), if_pos rfl]
    exact own_sx8 q1
  · rw [F2, (by decide : Gb 2 = 16), (by decide : Gs 2 = 1), if_neg (by decide), if_neg (by decide), F3, if_neg (by decide), if_neg (by decide), if_pos rfl]
    exact own_sx16 q1
  · rw [F2, (by decide : Gb 3 = 32), (by decide : Gs 3 = 1), if_neg (by decide), if_neg (by decide), F3, if_neg (by decide), if_neg (by decide), if_neg (by decide), if_pos rfl]
    exact own_sx32 q1
  · rw [F2, (by decide : Gb 4 = 64), (by decide : Gs 4 = 1), if_pos rfl, F3, if_neg (by decide), if_neg (by decide), if_neg (by decide), if_neg (by decide), if_pos rfl]
  · rw [F2, (by decide : Gb 5 = 8), (by decide : Gs 5 = 0), if_neg (by decide), if_pos rfl, F3, if_neg (by decide), if_neg (by decide), if_neg (by decide), if_neg (by decide), if_neg (by decide), if_pos rfl]
    rw [(by decide : ((1 : Int64) <<< ((8 : Int32) &&& 0x3f).toInt64) - (1 : Int64) = 255)]
  · rw [F2, (by decide : Gb 6 = 16), (by decide : Gs 6 = 0), if_neg (by decide), if_pos rfl, F3, if_neg (by decide), if_neg (by decide), if_neg (by decide), if_neg (by decide), if_neg (by decide), if_neg (by decide), if_pos rfl]
    rw [(by decide : ((1 : Int64) <<< ((16 : Int32) &&& 0x3f).toInt64) - (1 : Int64) = 65535)]
  · rw [F2, (by decide : Gb 7 = 32), (by decide : Gs 7 = 0), if_neg (by decide), if_pos rfl, F3, if_neg (by decide), if_neg (by decide), if_neg (by decide), if_neg (by decide), if_neg (by decide), if_neg (by decide), if_neg (by decide), if_pos rfl]
    rw [(by decide : ((1 : Int64) <<< ((32 : Int32) &&& 0x3f).toInt64) - (1 : Int64) = 4294967295)]
  · rw [F2, (by decide : Gb 8 = 64), (by decide : Gs 8 = 0), if_pos rfl, F3, if_neg (by decide), if_neg (by decide), if_neg (by decide), if_neg (by decide), if_neg (by decide), if_neg (by decide), if_neg (by decide), if_neg (by decide)]
theorem law_one (p0 : Int32) (q1 : Int64) (w_BOOL : Addr) (w_SINT : Addr) (w_INT : Addr) (w_DINT : Addr) (w_LINT : Addr) (w_USINT : Addr) (w_UINT : Addr) (w_UDINT : Addr) (w_ULINT : Addr) : F0 p0 q1 w_BOOL w_SINT w_INT w_DINT w_LINT w_USINT w_UINT w_UDINT w_ULINT = 1 := by
  rw [F0, if_pos (own_same _ q1 _ (own_cases _ (own_rem p0 9 9 (by decide) (by decide))))]
set_option maxRecDepth 65536 in
set_option maxHeartbeats 40000000 in
theorem comes_1 {Post : Tables → Env → Array Value → State → Outcome → State → Prop} (hpost : ∀ tb e args s v u, (limb_1_1.after args s (.returned v) u = true ∧ limb_1_2.after args s (.returned v) u = true ∧ True) → FrameEnd s (.returned v) u (Jvm.fieldLocs frame_1_writes args s ++ Jvm.arrayLocs frame_1_arrays args s ++ Jvm.staticLocs frame_1_statics s) 0 0 → Post tb e args s (.returned v) u) :
    ArmFor flags0 classFile x code maxLocals ret World_1 tables_1 room_1 Calls_1 rest_1 Pre_1 Post := by
  intro l hfl _ _ p e ha hc hk s m args below hf hA hF happ hP
  obtain ⟨hcalls, hrest, hpre⟩ := hP
  obtain ⟨-, -, -, hnamed, -, -, -, hat⟩ := (Spec.applies_iff hf).mp happ
  obtain ⟨hg, hn⟩ := and_e (Cond.before_iff.mp (show (Jvm.Cond.and given_1 narrow_1).before args s = true from hpre))
  obtain ⟨g1a, g1b⟩ := and_e hg
  obtain ⟨g2a, g2b⟩ := and_e g1b
  obtain ⟨c1a, c1b⟩ := and_e hn
  obtain ⟨c2a, c2b⟩ := and_e c1b
  obtain ⟨c3a, c3b⟩ := and_e c2b
  obtain ⟨c4a, c4b⟩ := and_e c3b
  obtain ⟨c5a, c5b⟩ := and_e c4b
  obtain ⟨c6a, c6b⟩ := and_e c5b
  obtain ⟨c7a, c7b⟩ := and_e c6b
  obtain ⟨c8a, c8b⟩ := and_e c7b
  obtain ⟨c9a, c9b⟩ := and_e c8b
  obtain ⟨c10a, c10b⟩ := and_e c9b
  obtain ⟨c11a, c11b⟩ := and_e c10b
  obtain ⟨c12a, c12b⟩ := and_e c11b
  obtain ⟨c13a, c13b⟩ := and_e c12b
  obtain ⟨c14a, c14b⟩ := and_e c13b
  obtain ⟨c15a, c15b⟩ := and_e c14b
  obtain ⟨c16a, c16b⟩ := and_e c15b
  obtain ⟨c17a, c17b⟩ := and_e c16b
  obtain ⟨c18a, c18b⟩ := and_e c17b
  obtain ⟨c19a, c19b⟩ := and_e c18b
  obtain ⟨c20a, c20b⟩ := and_e c19b
  obtain ⟨c21a, c21b⟩ := and_e c20b
  obtain ⟨c22a, c22b⟩ := and_e c21b
  obtain ⟨c23a, c23b⟩ := and_e c22b
  obtain ⟨c24a, c24b⟩ := and_e c23b
  obtain ⟨c25a, c25b⟩ := and_e c24b
  obtain ⟨c26a, c26b⟩ := and_e c25b
  obtain ⟨w0, w1, rfl⟩ : ∃ w0 w1 : Value, args = #[w0, w1] := by
    have hs : args.size = 2 := by simpa [Cond.value, given_1] using g1a
    obtain ⟨L⟩ := args
    match L, hs with
    | [w0, w1], _ => exact ⟨w0, w1, rfl⟩
  have hw := fun d (hd : d ∈ tables_1) => atoms_spec (ws := Jvm.Cond.code x code maxLocals ret :: tables_1) hat d (List.mem_cons_of_mem _ hd)
  have hfit : Fit s := fun {y c} hc i hi => by
    obtain ⟨ha, rfl⟩ := Array.getElem?_eq_some_iff.mp hc
    have q := List.all_eq_true.mp ((Array.all_eq_true_iff_forall_mem.mp hF) _ (Array.getElem_mem ha)) i (List.mem_range.mpr hi)
    simpa [Array.getElem?_eq_getElem hi] using q
  obtain ⟨i0, ei0⟩ := is_v g2a
  obtain rfl : w0 = (.int i0) := Option.some.inj ei0
  obtain ⟨i1, ei1⟩ := isL_v g2b
  obtain rfl : w1 = (.long i1) := Option.some.inj ei1
  obtain ⟨w_BOOL, ev_BOOL⟩ := exa_v c1a
  have E_w_BOOL := Exa.start ev_BOOL c1a
  have S_BOOL := Sta.start ev_BOOL (Or.inr ⟨(hw _ (List.mem_of_getElem? (i := 6) rfl)), (hw _ (List.mem_of_getElem? (i := 7) rfl))⟩)
  obtain ⟨w_SINT, ev_SINT⟩ := exa_v c4a
  have E_w_SINT := Exa.start ev_SINT c4a
  have S_SINT := Sta.start ev_SINT (Or.inr ⟨(hw _ (List.mem_of_getElem? (i := 6) rfl)), (hw _ (List.mem_of_getElem? (i := 21) rfl))⟩)
  obtain ⟨w_INT, ev_INT⟩ := exa_v c7a
  have E_w_INT := Exa.start ev_INT c7a
  have S_INT := Sta.start ev_INT (Or.inr ⟨(hw _ (List.mem_of_getElem? (i := 6) rfl)), (hw _ (List.mem_of_getElem? (i := 23) rfl))⟩)
  obtain ⟨w_UDINT, ev_UDINT⟩ := exa_v c10a
  have E_w_UDINT := Exa.start ev_UDINT c10a
  have S_UDINT := Sta.start ev_UDINT (Or.inr ⟨(hw _ (List.mem_of_getElem? (i := 6) rfl)), (hw _ (List.mem_of_getElem? (i := 25) rfl))⟩)
  obtain ⟨w_UINT, ev_UINT⟩ := exa_v c13a
  have E_w_UINT := Exa.start ev_UINT c13a
  have S_UINT := Sta.start ev_UINT (Or.inr ⟨(hw _ (List.mem_of_getElem? (i := 6) rfl)), (hw _ (List.mem_of_getElem? (i := 28) rfl))⟩)
  obtain ⟨w_LINT, ev_LINT⟩ := exa_v c16a
  have E_w_LINT := Exa.start ev_LINT c16a
  have S_LINT := Sta.start ev_LINT (Or.inr ⟨(hw _ (List.mem_of_getElem? (i := 6) rfl)), (hw _ (List.mem_of_getElem? (i := 31) rfl))⟩)
  obtain ⟨w_DINT, ev_DINT⟩ := exa_v c18a
  have E_w_DINT := Exa.start ev_DINT c18a
  have S_DINT := Sta.start ev_DINT (Or.inr ⟨(hw _ (List.mem_of_getElem? (i := 6) rfl)), (hw _ (List.mem_of_getElem? (i := 33) rfl))⟩)
  obtain ⟨w_ULINT, ev_ULINT⟩ := exa_v c21a
  have E_w_ULINT := Exa.start ev_ULINT c21a
  have S_ULINT := Sta.start ev_ULINT (Or.inr ⟨(hw _ (List.mem_of_getElem? (i := 6) rfl)), (hw _ (List.mem_of_getElem? (i := 35) rfl))⟩)
  obtain ⟨w_USINT, ev_USINT⟩ := exa_v c23a
  have E_w_USINT := Exa.start ev_USINT c23a
  have S_USINT := Sta.start ev_USINT (Or.inr ⟨(hw _ (List.mem_of_getElem? (i := 6) rfl)), (hw _ (List.mem_of_getElem? (i := 37) rfl))⟩)
  have F_bits_w_BOOL := own_fldI ev_BOOL c2a
  have F_signed_w_BOOL := own_fldI ev_BOOL c3a
  have F_bits_w_SINT := own_fldI ev_SINT c5a
  have F_signed_w_SINT := own_fldI ev_SINT c6a
  have F_bits_w_INT := own_fldI ev_INT c8a
  have F_signed_w_INT := own_fldI ev_INT c9a
  have F_bits_w_UDINT := own_fldI ev_UDINT c11a
  have F_signed_w_UDINT := own_fldI ev_UDINT c12a
  have F_bits_w_UINT := own_fldI ev_UINT c14a
  have F_signed_w_UINT := own_fldI ev_UINT c15a
  have F_bits_w_LINT := own_fldI ev_LINT c17a
  have F_bits_w_DINT := own_fldI ev_DINT c19a
  have F_signed_w_DINT := own_fldI ev_DINT c20a
  have F_bits_w_ULINT := own_fldI ev_ULINT c22a
  have F_bits_w_USINT := own_fldI ev_USINT c24a
  have F_signed_w_USINT := own_fldI ev_USINT c25a
  have F_signed_w_LINT := own_fldI ev_LINT c26a
  have F_signed_w_ULINT := own_fldI ev_ULINT c26b
  obtain ⟨n, o, h1, h2, h3, _, L, rfl, ⟨rfl, N, -⟩, hq⟩ := rm0 l s _ hw tables_1 i0 i1 w_BOOL w_SINT w_INT w_DINT w_LINT w_USINT w_UINT w_UDINT w_ULINT s.heap s.heap.size (Old.start s) E_w_BOOL E_w_SINT E_w_INT E_w_DINT E_w_LINT E_w_USINT E_w_UINT E_w_UDINT E_w_ULINT F_bits_w_BOOL F_bits_w_SINT F_bits_w_INT F_bits_w_DINT F_bits_w_LINT F_bits_w_USINT F_bits_w_UINT F_bits_w_UDINT F_bits_w_ULINT F_signed_w_BOOL F_signed_w_SINT F_signed_w_INT F_signed_w_DINT F_signed_w_LINT F_signed_w_USINT F_signed_w_UINT F_signed_w_UDINT F_signed_w_ULINT S_BOOL S_SINT S_INT S_DINT S_LINT S_USINT S_UINT S_UDINT S_ULINT p e ha hc hk s m _ below hf ((Spec.applies_iff_loose hf).mp happ).1 ⟨rfl, State.Warmed39.refl s, rfl⟩ trivial
  have hone : F0 i0 i1 w_BOOL w_SINT w_INT w_DINT w_LINT w_USINT w_UINT w_UDINT w_ULINT = 1 := law_one i0 i1 w_BOOL w_SINT w_INT w_DINT w_LINT w_USINT w_UINT w_UDINT w_ULINT
  refine ⟨n, _, h1, h2, h3, hpost _ _ _ _ _ _ ⟨Cond.after_iff.mpr rfl, Cond.after_iff.mpr (eq_i res_at (Term.int_eval (1)) (congrArg Value.int hone)), trivial⟩ ⟨hq.1, hq.2.1, (hq.2.2.sift fun y hy => Or.inr (N y hy)).mono (by decide) (by decide)⟩⟩
theorem main_1_1 : Claimed_1_1 := comes_1 fun _ _ _ _ _ _ h hF => ⟨h.1, hF⟩
theorem main_1_2 : Claimed_1_2 := comes_1 fun _ _ _ _ _ _ h hF => ⟨h.2.1, hF⟩
end Jvm.Pilot.@@N@@
namespace Jvm.Pilot.@@N@@
open Jvm Jvm.ClassFile Sem Op Lib Jvm.Free Jvm.Stand Jvm.Pilot.@@N@@.Jvm.D
/-! MADE BY PROGRAM (witnessworld.py) out of the Statement's table words and the real class files: 12 classes; the members and pool entries that the words name. The judged class is class 1, her method 3. -/
namespace start1
open Jvm.ClassFile
def u (s : String) : CpInfo := .utf8 (stringToUtf16 s)
/-- a pool by its gaps: so many unusable entries, then the entry; so many at the end -/
def gap : Nat → List CpInfo → List CpInfo
  | 0, r => r
  | n + 1, r => .unusable :: gap n r
def poolList (es : List (Nat × CpInfo)) (last : Nat) : List CpInfo := es.foldr (fun e r => gap e.1 (e.2 :: r)) (gap last [])
def pool (es : List (Nat × CpInfo)) (last : Nat) : Array CpInfo := ⟨poolList es last⟩
def fileOf (pool : Array CpInfo) (this : Nat) (attrs : Array Attribute := #[]) (ms : Array MethodInfo := #[]) (fl : Nat := 33) (sup : Nat := 0) (ifs : Array Nat := #[]) (fds : Array FieldInfo := #[]) : ClassFile where
  minorVersion := 0
  majorVersion := 65
  constantPool := pool
  accessFlags := fl
  thisClass := this
  superClass := sup
  interfaces := ifs
  fields := fds
  methods := ms
  attributes := attrs
def plain (name : String) (sup : Option ClassId) : Class where
  name := name
  kind := .ordinary
  loader := none
  accessFlags := 33
  super := sup
  interfaces := #[]
  cf := none
  fields := #[]
  methods := #[]
  instanceTypes := #[]
  staticTypes := #[]
  resolved := #[]
  callSites := []
  init := .initialized
  statics := none
  mirror := none

def pool0 : Array CpInfo := pool [(5, u "<init>"), (0, u "()V"), (1, .class_ 10), (1, u "java/lang/Object")] 113

def k0m0 : Method := { name := "<init>", desc := "()V", sig := { parameters := [], returnType := none }, accessFlags := 1, code := none }
/-- java/lang/Object -/
def k0 : Class := { plain "java/lang/Object" none with
  accessFlags := 33
  interfaces := #[]
  cf := some (fileOf pool0 8 #[] #[{ accessFlags := 1, nameIndex := 5, descriptorIndex := 6, attributes := #[] }] 33 0 #[] #[])
  fields := #[]
  methods := #[k0m0]
  instanceTypes := #[]
  staticTypes := #[]
  resolved := Array.replicate 124 none
  statics := none }

def pool1 : Array CpInfo := pool [(2, .class_ 4), (1, u "java/lang/Object"), (0, u "<init>"), (0, u "()V"), (0, .fieldref 8 9), (0, .class_ 10), (0, .nameAndType 11 12), (0, u "com/example/verdikt/verdikt/model/ElementaryType"), (0, u "BOOL"), (0, u "Lcom/example/verdikt/verdikt/model/ElementaryType;"), (0, .fieldref 8 14), (0, .nameAndType 15 12), (0, u "SINT"), (0, .fieldref 8 17), (0, .nameAndType 18 12), (0, u "INT"), (0, .fieldref 8 20), (0, .nameAndType 21 12), (0, u "DINT"), (0, .fieldref 8 23), (0, .nameAndType 24 12), (0, u "LINT"), (0, .fieldref 8 26), (0, .nameAndType 27 12), (0, u "USINT"), (0, .fieldref 8 29), (0, .nameAndType 30 12), (0, u "UINT"), (0, .fieldref 8 32), (0, .nameAndType 33 12), (0, u "UDINT"), (0, .fieldref 8 35), (0, .nameAndType 36 12), (0, u "ULINT"), (0, .long 255), (1, .long 65535), (1, .long 4294967295), (1, .integer 2147483647), (0, .methodref 45 46), (0, .class_ 47), (0, .nameAndType 48 49), (0, u "com/example/verdikt/verdikt/model/ElementaryTypeWrapPinLaw"), (0, u "pick"), (0, u "(I)Lcom/example/verdikt/verdikt/model/ElementaryType;"), (0, .methodref 8 51), (0, .nameAndType 52 53), (0, u "wrap"), (0, u "(J)J"), (0, .methodref 45 55), (0, .nameAndType 56 57), (0, u "expected"), (0, u "(IJ)J"), (3, u "law"), (0, u "(IJ)Z")] 2

def k1m0 : Method := { name := "<init>", desc := "()V", sig := { parameters := [], returnType := none }, accessFlags := 1, code := none }
def k1c1 : Code := { maxStack := 2, maxLocals := 1, code := method_2_code, exceptionTable := #[], attributes := #[] }
def k1m1 : Method := { name := "pick", desc := "(I)Lcom/example/verdikt/verdikt/model/ElementaryType;", sig := { parameters := [.int], returnType := some (.object "com/example/verdikt/verdikt/model/ElementaryType") }, accessFlags := 10, code := some k1c1 }
def k1c2 : Code := { maxStack := 4, maxLocals := 3, code := method_3_code, exceptionTable := #[], attributes := #[] }
def k1m2 : Method := { name := "expected", desc := "(IJ)J", sig := { parameters := [.int, .long], returnType := some .long }, accessFlags := 10, code := some k1c2 }
def k1c3 : Code := { maxStack := 5, maxLocals := 7, code := code, exceptionTable := #[], attributes := #[] }
def k1m3 : Method := { name := "law", desc := "(IJ)Z", sig := { parameters := [.int, .long], returnType := some .boolean }, accessFlags := 9, code := some k1c3 }
/-- com/example/verdikt/verdikt/model/ElementaryTypeWrapPinLaw -/
def k1 : Class := { plain "com/example/verdikt/verdikt/model/ElementaryTypeWrapPinLaw" (some 0) with
  accessFlags := 49
  interfaces := #[]
  cf := some (fileOf pool1 45 #[] #[{ accessFlags := 1, nameIndex := 5, descriptorIndex := 6, attributes := #[] }, { accessFlags := 10, nameIndex := 48, descriptorIndex := 49, attributes := #[] }, { accessFlags := 10, nameIndex := 56, descriptorIndex := 57, attributes := #[] }, { accessFlags := 9, nameIndex := 61, descriptorIndex := 62, attributes := #[] }] 49 2 #[] #[])
  fields := #[]
  methods := #[k1m0, k1m1, k1m2, k1m3]
  instanceTypes := #[]
  staticTypes := #[]
  resolved := Array.replicate 65 none
  statics := none }

def pool2 : Array CpInfo := pool [(1, .class_ 2), (0, u "java/lang/constant/Constable"), (0, .class_ 4), (0, u "java/lang/Object")] 6

/-- java/lang/constant/Constable -/
def k2 : Class := { plain "java/lang/constant/Constable" (some 0) with
  accessFlags := 1537
  interfaces := #[]
  cf := some (fileOf pool2 1 #[] #[] 1537 3 #[] #[])
  fields := #[]
  methods := #[]
  instanceTypes := #[]
  staticTypes := #[]
  resolved := Array.replicate 11 none
  statics := none }

def pool3 : Array CpInfo := pool [(1, .class_ 2), (0, u "java/lang/Comparable"), (0, .class_ 4), (0, u "java/lang/Object")] 7

/-- java/lang/Comparable -/
def k3 : Class := { plain "java/lang/Comparable" (some 0) with
  accessFlags := 1537
  interfaces := #[]
  cf := some (fileOf pool3 1 #[] #[] 1537 3 #[] #[])
  fields := #[]
  methods := #[]
  instanceTypes := #[]
  staticTypes := #[]
  resolved := Array.replicate 12 none
  statics := none }

def pool4 : Array CpInfo := pool [(1, .class_ 2), (0, u "java/io/Serializable"), (0, .class_ 4), (0, u "java/lang/Object")] 2

/-- java/io/Serializable -/
def k4 : Class := { plain "java/io/Serializable" (some 0) with
  accessFlags := 1537
  interfaces := #[]
  cf := some (fileOf pool4 1 #[] #[] 1537 3 #[] #[])
  fields := #[]
  methods := #[]
  instanceTypes := #[]
  staticTypes := #[]
  resolved := Array.replicate 7 none
  statics := none }

def pool5 : Array CpInfo := pool [(2, .class_ 4), (1, u "java/lang/Enum"), (0, u "name"), (0, u "Ljava/lang/String;"), (2, u "ordinal"), (0, u "I"), (1, .class_ 14), (1, u "java/lang/Object"), (4, u "hash"), (86, .class_ 108), (1, u "java/lang/Enum$EnumDesc"), (2, .class_ 112), (0, u "java/lang/constant/Constable"), (0, .class_ 114), (0, u "java/lang/Comparable"), (0, .class_ 116), (0, u "java/io/Serializable")] 87

/-- java/lang/Enum -/
def k5 : Class := { plain "java/lang/Enum" (some 0) with
  accessFlags := 1057
  interfaces := #[2, 3, 4]
  cf := some (fileOf pool5 2 #[.nestMembers #[106]] #[] 1057 12 #[111, 113, 115] #[{ accessFlags := 18, nameIndex := 5, descriptorIndex := 6, attributes := #[] }, { accessFlags := 18, nameIndex := 9, descriptorIndex := 10, attributes := #[] }, { accessFlags := 2, nameIndex := 19, descriptorIndex := 10, attributes := #[] }])
  fields := #[{ name := "name", type := (.object "java/lang/String"), accessFlags := 18, slot := 0, constantValue := 0 }, { name := "ordinal", type := .int, accessFlags := 18, slot := 1, constantValue := 0 }, { name := "hash", type := .int, accessFlags := 2, slot := 2, constantValue := 0 }]
  methods := #[]
  instanceTypes := #[(.object "java/lang/String"), .int, .int]
  staticTypes := #[]
  resolved := Array.replicate 204 none
  statics := none }

def pool6 : Array CpInfo := pool [(1, .class_ 2), (0, u "com/example/verdikt/verdikt/model/ElementaryType"), (2, u "BOOL"), (0, u "Lcom/example/verdikt/verdikt/model/ElementaryType;"), (2, u "SINT"), (2, u "INT"), (2, u "DINT"), (2, u "LINT"), (2, u "USINT"), (2, u "UINT"), (2, u "UDINT"), (2, u "ULINT"), (2, u "$VALUES"), (0, u "[Lcom/example/verdikt/verdikt/model/ElementaryType;"), (6, .class_ 43), (1, u "java/lang/Enum"), (6, .fieldref 1 51), (0, .nameAndType 52 53), (0, u "bits"), (0, u "I"), (0, .fieldref 1 55), (0, .nameAndType 56 57), (0, u "signed"), (0, u "Z"), (34, u "range"), (0, u "Lcom/example/verdikt/verdikt/model/IntegerRange;"), (8, u "wrap"), (0, u "(J)J")] 52

def k6c0 : Code := { maxStack := 6, maxLocals := 5, code := prog_74_method_8_code, exceptionTable := #[], attributes := #[] }
def k6m0 : Method := { name := "wrap", desc := "(J)J", sig := { parameters := [.long], returnType := some .long }, accessFlags := 1, code := some k6c0 }
/-- com/example/verdikt/verdikt/model/ElementaryType -/
def k6 : Class := { plain "com/example/verdikt/verdikt/model/ElementaryType" (some 5) with
  accessFlags := 16433
  interfaces := #[]
  cf := some (fileOf pool6 1 #[] #[{ accessFlags := 1, nameIndex := 102, descriptorIndex := 103, attributes := #[] }] 16433 41 #[] #[{ accessFlags := 16409, nameIndex := 5, descriptorIndex := 6, attributes := #[] }, { accessFlags := 16409, nameIndex := 9, descriptorIndex := 6, attributes := #[] }, { accessFlags := 16409, nameIndex := 12, descriptorIndex := 6, attributes := #[] }, { accessFlags := 16409, nameIndex := 15, descriptorIndex := 6, attributes := #[] }, { accessFlags := 16409, nameIndex := 18, descriptorIndex := 6, attributes := #[] }, { accessFlags := 16409, nameIndex := 21, descriptorIndex := 6, attributes := #[] }, { accessFlags := 16409, nameIndex := 24, descriptorIndex := 6, attributes := #[] }, { accessFlags := 16409, nameIndex := 27, descriptorIndex := 6, attributes := #[] }, { accessFlags := 16409, nameIndex := 30, descriptorIndex := 6, attributes := #[] }, { accessFlags := 18, nameIndex := 52, descriptorIndex := 53, attributes := #[] }, { accessFlags := 18, nameIndex := 56, descriptorIndex := 57, attributes := #[] }, { accessFlags := 18, nameIndex := 92, descriptorIndex := 93, attributes := #[] }, { accessFlags := 4122, nameIndex := 33, descriptorIndex := 34, attributes := #[] }])
  fields := #[{ name := "BOOL", type := (.object "com/example/verdikt/verdikt/model/ElementaryType"), accessFlags := 16409, slot := 0, constantValue := 0 }, { name := "SINT", type := (.object "com/example/verdikt/verdikt/model/ElementaryType"), accessFlags := 16409, slot := 1, constantValue := 0 }, { name := "INT", type := (.object "com/example/verdikt/verdikt/model/ElementaryType"), accessFlags := 16409, slot := 2, constantValue := 0 }, { name := "DINT", type := (.object "com/example/verdikt/verdikt/model/ElementaryType"), accessFlags := 16409, slot := 3, constantValue := 0 }, { name := "LINT", type := (.object "com/example/verdikt/verdikt/model/ElementaryType"), accessFlags := 16409, slot := 4, constantValue := 0 }, { name := "USINT", type := (.object "com/example/verdikt/verdikt/model/ElementaryType"), accessFlags := 16409, slot := 5, constantValue := 0 }, { name := "UINT", type := (.object "com/example/verdikt/verdikt/model/ElementaryType"), accessFlags := 16409, slot := 6, constantValue := 0 }, { name := "UDINT", type := (.object "com/example/verdikt/verdikt/model/ElementaryType"), accessFlags := 16409, slot := 7, constantValue := 0 }, { name := "ULINT", type := (.object "com/example/verdikt/verdikt/model/ElementaryType"), accessFlags := 16409, slot := 8, constantValue := 0 }, { name := "bits", type := .int, accessFlags := 18, slot := 3, constantValue := 0 }, { name := "signed", type := .boolean, accessFlags := 18, slot := 4, constantValue := 0 }, { name := "range", type := (.object "com/example/verdikt/verdikt/model/IntegerRange"), accessFlags := 18, slot := 5, constantValue := 0 }, { name := "$VALUES", type := (.array (.object "com/example/verdikt/verdikt/model/ElementaryType")), accessFlags := 4122, slot := 9, constantValue := 0 }]
  methods := #[k6m0]
  instanceTypes := #[(.object "java/lang/String"), .int, .int, .int, .boolean, (.object "com/example/verdikt/verdikt/model/IntegerRange")]
  staticTypes := #[(.object "com/example/verdikt/verdikt/model/ElementaryType"), (.object "com/example/verdikt/verdikt/model/ElementaryType"), (.object "com/example/verdikt/verdikt/model/ElementaryType"), (.object "com/example/verdikt/verdikt/model/ElementaryType"), (.object "com/example/verdikt/verdikt/model/ElementaryType"), (.object "com/example/verdikt/verdikt/model/ElementaryType"), (.object "com/example/verdikt/verdikt/model/ElementaryType"), (.object "com/example/verdikt/verdikt/model/ElementaryType"), (.object "com/example/verdikt/verdikt/model/ElementaryType"), (.array (.object "com/example/verdikt/verdikt/model/ElementaryType"))]
  resolved := Array.replicate 156 none
  statics := some 0 }

def pool7 : Array CpInfo := pool [(1, u "java/lang/Cloneable"), (0, .class_ 1), (0, u "java/lang/Object"), (0, .class_ 3)] 3

/-- java/lang/Cloneable -/
def k7 : Class := { plain "java/lang/Cloneable" (some 0) with
  accessFlags := 1537
  interfaces := #[]
  cf := some (fileOf pool7 2 #[] #[] 1537 4 #[] #[])
  fields := #[]
  methods := #[]
  instanceTypes := #[]
  staticTypes := #[]
  resolved := Array.replicate 8 none
  statics := none }

/-- the primitive byte -/
def k8 : Class := { plain "byte" none with kind := .primitive 'B', accessFlags := 0x411 }
/-- [B -/
def k9 : Class := { plain "[B" (some 0) with kind := .array 8 .byte, interfaces := #[7, 4], accessFlags := 1041 }

/-- the primitive int -/
def k10 : Class := { plain "int" none with kind := .primitive 'I', accessFlags := 0x411 }
/-- [I -/
def k11 : Class := { plain "[I" (some 0) with kind := .array 10 .int, interfaces := #[7, 4], accessFlags := 1041 }

def heap : Heap := #[{ cls := 6, slots := #[.ref 1, .ref 2, .ref 3, .ref 7, .ref 6, .ref 9, .ref 5, .ref 4, .ref 8, .null], vm := .statics 6 },
  { cls := 6, slots := #[.null, .int 0, .int 0, .int 1, .int 0, .null], vm := .none },
  { cls := 6, slots := #[.null, .int 0, .int 0, .int 8, .int 1, .null], vm := .none },
  { cls := 6, slots := #[.null, .int 0, .int 0, .int 16, .int 1, .null], vm := .none },
  { cls := 6, slots := #[.null, .int 0, .int 0, .int 32, .int 0, .null], vm := .none },
  { cls := 6, slots := #[.null, .int 0, .int 0, .int 16, .int 0, .null], vm := .none },
  { cls := 6, slots := #[.null, .int 0, .int 0, .int 64, .int 1, .null], vm := .none },
  { cls := 6, slots := #[.null, .int 0, .int 0, .int 32, .int 1, .null], vm := .none },
  { cls := 6, slots := #[.null, .int 0, .int 0, .int 64, .int 0, .null], vm := .none },
  { cls := 6, slots := #[.null, .int 0, .int 0, .int 8, .int 0, .null], vm := .none }]
def classes : Array Class := #[k0, k1, k2, k3, k4, k5, k6, k7, k8, k9, k10, k11]
def interned : List (Array UInt16 × Addr) := []
def slotsUsed : Nat := 64
def theMethod : MethodId := ⟨1, 3⟩
def args0 : Array Value := #[.int 5, .long 300]
def aboutOver (below : List Frame) : State where
  vm := { classes := classes, interned := interned.toArray }
  heap := heap
  slotsUsed := slotsUsed
  threads := #[{ frames := .invoking theMethod args0 :: below }]
def below0 : List Frame := [.native { method := ⟨0, 0⟩, args := #[] }]
def about1 : State := aboutOver below0
def p0 : Program := .bare "" "" ""
def e0 : Env := launch0.env 0 0 0
theorem w_frames : about1.frames = Frame.invoking theMethod args0 :: below0 := rfl
set_option maxRecDepth 65536 in
theorem w_args : argsFit about1.vm theMethod args0 = true := by decide +kernel
set_option maxRecDepth 65536 in
theorem w_heap : heapFits about1 = true := by decide +kernel
set_option maxRecDepth 65536 in
theorem w_runnable : about1.curStatus? = some .runnable := by decide +kernel
set_option maxRecDepth 65536 in
theorem w_alone : about1.alone = true := by decide +kernel
set_option maxRecDepth 65536 in
theorem w_named : about1.methodNamed? x = some theMethod := by decide +kernel
set_option maxRecDepth 65536 in
theorem w_hears : about1.hears theMethod below0 = true := by decide +kernel
set_option maxRecDepth 65536 in
theorem w_ripe : about1.ripe theMethod args0 below0 = true := by decide +kernel
theorem w_running : about1.status = .running := rfl
set_option maxRecDepth 65536 in
theorem w_room : about1.hasRoom e0.platform room_1 = true :=
  launch0.hasRoom_least _ room_1 (by decide +kernel) (by decide +kernel) (by decide +kernel) (by decide +kernel) (by decide +kernel) (by decide +kernel)
theorem allAtoms_all (ts : List Jvm.Cond) (a : Array Jvm.Value) (st : Jvm.State) : (allAtoms ts).before a st = ts.all (fun c => c.before a st) := by
  induction ts with
  | nil => rfl
  | cons c t ih =>
    show (Jvm.Cond.and c (allAtoms t)).before a st = _
    rw [Jvm.Cond.before_and, ih, List.all_cons]
def words1 : List Jvm.Cond := Jvm.Cond.code x code maxLocals ret :: tables_1
/-- a 'code' word, met by the world's own term for the bytes: nothing is compared byte by byte -/
theorem code_word {y : MethodName} {bytes : ByteArray} {mx : Nat} {rt : Option FieldType} {a : Array Value} {s : State} {m : MethodId} {meth : Method} {c : Code} (h1 : s.methodNamed? y = some m) (h2 : s.vm.method? m = some meth) (h3 : meth.code = some c) (h4 : c.code = bytes)
    (h5 : (c.maxLocals == mx && c.exceptionTable.isEmpty && decide (c.maxStack ≤ mostOperands) && decide (meth.sig.returnType = rt) && !meth.locks && decide (parseMethodDescriptor y.desc = some meth.sig)) = true) : (Jvm.Cond.code y bytes mx rt).before a s = true := by
  simp only [Bool.and_eq_true, beq_iff_eq, Bool.not_eq_true', decide_eq_true_eq] at h5
  obtain ⟨⟨⟨⟨⟨g1, g2⟩, g3⟩, g4⟩, g5⟩, g6⟩ := h5
  simp [Cond.before, Cond.holds, Cond.value, h1, h2, h3, h4, g1, g2, g3, g4, g5, g6]
def isCode : Jvm.Cond → Bool
  | .code _ _ _ _ => true
  | _ => false
theorem all_split {L : List Jvm.Cond} {P : Jvm.Cond → Bool} (h1 : L.all (fun c => isCode c || P c) = true) (h2 : ∀ c ∈ L.filter isCode, P c = true) : L.all P = true := by
  refine List.all_eq_true.mpr fun c hc => ?_
  have h := List.all_eq_true.mp h1 c hc
  rcases Bool.eq_false_or_eq_true (isCode c) with hi | hi
  · exact h2 c (List.mem_filter.mpr ⟨hc, hi⟩)
  · simpa [hi] using h
set_option maxRecDepth 65536 in
theorem w_c0 : (Jvm.Cond.code x code maxLocals ret).before args0 about1 = true := code_word (m := ⟨1, 3⟩) (meth := k1m3) (c := k1c3) (by decide +kernel) rfl rfl rfl (by decide +kernel)
set_option maxRecDepth 65536 in
theorem w_c1 : (Jvm.Cond.code ({ cls := "com/example/verdikt/verdikt/model/ElementaryTypeWrapPinLaw", name := "pick", desc := "(I)Lcom/example/verdikt/verdikt/model/ElementaryType;" } : Jvm.MethodName) method_2_code (1 : Nat) (Option.some (Jvm.ClassFile.FieldType.object "com/example/verdikt/verdikt/model/ElementaryType"))).before args0 about1 = true := code_word (m := ⟨1, 1⟩) (meth := k1m1) (c := k1c1) (by decide +kernel) rfl rfl rfl (by decide +kernel)
set_option maxRecDepth 65536 in
theorem w_c2 : (Jvm.Cond.code ({ cls := "com/example/verdikt/verdikt/model/ElementaryType", name := "wrap", desc := "(J)J" } : Jvm.MethodName) prog_74_method_8_code (5 : Nat) (Option.some Jvm.ClassFile.FieldType.long)).before args0 about1 = true := code_word (m := ⟨6, 0⟩) (meth := k6m0) (c := k6c0) (by decide +kernel) rfl rfl rfl (by decide +kernel)
set_option maxRecDepth 65536 in
theorem w_c3 : (Jvm.Cond.code ({ cls := "com/example/verdikt/verdikt/model/ElementaryTypeWrapPinLaw", name := "expected", desc := "(IJ)J" } : Jvm.MethodName) method_3_code (3 : Nat) (Option.some Jvm.ClassFile.FieldType.long)).before args0 about1 = true := code_word (m := ⟨1, 2⟩) (meth := k1m2) (c := k1c2) (by decide +kernel) rfl rfl rfl (by decide +kernel)
def codes1 : List Jvm.Cond := [Jvm.Cond.code x code maxLocals ret, Jvm.Cond.code ({ cls := "com/example/verdikt/verdikt/model/ElementaryTypeWrapPinLaw", name := "pick", desc := "(I)Lcom/example/verdikt/verdikt/model/ElementaryType;" } : Jvm.MethodName) method_2_code (1 : Nat) (Option.some (Jvm.ClassFile.FieldType.object "com/example/verdikt/verdikt/model/ElementaryType")), Jvm.Cond.code ({ cls := "com/example/verdikt/verdikt/model/ElementaryType", name := "wrap", desc := "(J)J" } : Jvm.MethodName) prog_74_method_8_code (5 : Nat) (Option.some Jvm.ClassFile.FieldType.long), Jvm.Cond.code ({ cls := "com/example/verdikt/verdikt/model/ElementaryTypeWrapPinLaw", name := "expected", desc := "(IJ)J" } : Jvm.MethodName) method_3_code (3 : Nat) (Option.some Jvm.ClassFile.FieldType.long)]
set_option maxRecDepth 65536 in
theorem codes_eq : words1.filter isCode = codes1 := rfl
theorem w_codes : ∀ c ∈ words1.filter isCode, c.before args0 about1 = true := by
  rw [codes_eq]
  intro c hc
  simp only [codes1, List.mem_cons, List.not_mem_nil, or_false] at hc
  rcases hc with rfl | rfl | rfl | rfl
  · exact w_c0
  · exact w_c1
  · exact w_c2
  · exact w_c3
set_option maxRecDepth 65536 in
theorem w_t1 : (words1.take 24).all (fun c => isCode c || c.before args0 about1) = true := by decide +kernel
set_option maxRecDepth 65536 in
theorem w_t2 : (words1.drop 24).all (fun c => isCode c || c.before args0 about1) = true := by decide +kernel
theorem w_tables : (allAtoms (Jvm.Cond.code x code maxLocals ret :: tables_1)).before args0 about1 = true := by
  rw [allAtoms_all]
  show words1.all (fun c => c.before args0 about1) = true
  refine all_split ?_ w_codes
  rw [← List.take_append_drop 24 words1, List.all_append, w_t1, w_t2]
  rfl
set_option maxRecDepth 65536 in
theorem w_case : (Jvm.Cond.and given_1 narrow_1).before args0 about1 = true := by decide +kernel
theorem w_applies : (headSpec (Jvm.Cond.code x code maxLocals ret :: tables_1) room_1).applies x e0.platform about1 = true :=
  (Spec.applies_iff w_frames).mpr ⟨w_running, w_runnable, w_alone, w_named, w_hears, w_ripe, w_room, w_tables⟩
theorem atStart : AtStart classFile x code maxLocals ret World_1 tables_1 room_1 Calls_1 rest_1 Pre_1 launch0 p0 e0 about1 theMethod args0 below0 :=
  ⟨lists_1, trivial, launch0.admits_env _ _ _, launch0.least_env, fairChoices_fair.cas, fairChoices_fair.clock, w_frames, w_args, w_heap, w_applies, trivial, trivial, w_case⟩
end start1
theorem witness_1 : WitnessClaimed_1 := ⟨start1.p0, start1.e0, start1.about1, start1.theMethod, start1.args0, start1.below0, start1.atStart⟩
end Jvm.Pilot.@@N@@
