import JvmDerived
import JvmDerived.Pilot.@@N@@Statement
import JvmDerived.Pilot.@@N@@Code
set_option linter.unusedVariables false
set_option linter.unusedSimpArgs false
namespace Jvm.RoadKit
open Sem ClassFile Op Lib Jvm.Stand Jvm.Free Jvm.LawKit
section Own
variable {p : Program} {l : Launch} {e : Env} {R : Room} {s : State} {m : MethodId} {args : Array Value} {below : List Frame} {meth : Method} {c : Code} {T T' : State} {locs : List Loc} {cells slots kc ks : Nat} {Q : Option Value → Heap → List Loc → Prop} {g g' : JFrame} {FE : Outcome → State → List Loc → Prop}
/-- from T with the frame g on top the body comes to its end: what it returns, the heap and the places written are as Q says; FE: the frame's own word of that end -/
def OFin (p : Program) (e : Env) (below : List Frame) (FE : Outcome → State → List Loc → Prop) (Q : Option Value → Heap → List Loc → Prop) (T : State) (g : JFrame) : Prop :=
  ∃ s₂ o, Steps p.tables e below (T.setTop g) s₂ ∧ s₂.status = .running ∧ Ended s₂ below o ∧ ∃ v L, o = .returned v ∧ Q v s₂.heap L ∧ FE o s₂ L
theorem OFin.st (st : ∀ target, Steps p.tables e below (T'.setTop g') target → Steps p.tables e below (T.setTop g) target) (h : OFin p e below FE Q T' g') : OFin p e below FE Q T g := by
  obtain ⟨s₂, o, h1, r⟩ := h; exact ⟨s₂, o, st _ h1, r⟩
theorem OFin.tr (st : Steps p.tables e below (T.setTop g) (T'.setTop g')) (h : OFin p e below FE Q T' g') : OFin p e below FE Q T g := h.st fun _ k => st.trans k
theorem OFin.cast (q : g = g') (h : OFin p e below FE Q T g') : OFin p e below FE Q T g := q ▸ h
/-- the end's frame: narrow (nothing interned), and wide (over the tables at hand) -/
theorem own_endN {v : Option Value} (hc : cells ≤ kc) (hs : slots ≤ ks) : ∀ fs : List Frame, s.WarmedH (T.setFrames fs).vm → s.sameButNew ({ T.setFrames fs with vm := s.vm } : State) locs cells slots → FrameEnd s (.returned v) (T.setFrames fs) locs kc ks :=
  fun fs hW h => ⟨⟨v, rfl⟩, hW, h.mono hc hs⟩
theorem own_endW {vm₁ : Vm} {n : Nat} {v : Option Value} (hS : s.Since vm₁ n) (hn : n ≤ T.heap.size) (hc : cells ≤ kc) (hs : slots ≤ ks) : ∀ fs : List Frame, (s.setVm vm₁).WarmedH (T.setFrames fs).vm → (s.setVm vm₁).sameButNew ({ T.setFrames fs with vm := vm₁ } : State) locs cells slots → ReturnedEndW s (.returned v) (T.setFrames fs) locs kc ks :=
  fun fs hW h => by
    obtain ⟨a, b, c'⟩ := hS.ended (U := T.setFrames fs) hW hn h
    exact ⟨⟨v, rfl⟩, a, b, c'.mono hc hs⟩
theorem own_retV (X : Stand p l e R s m args below meth c T locs cells slots) (hx : p.tables.exec = Jvm.exec) {pc : Nat} {Ls : Array Slot} (hret : meth.sig.returnType = none) (hlk : meth.locks = false) (hd : decode c.code pc = .ok (.return_, 1)) (hQ : Q none T.heap locs) (hE : ∀ fs : List Frame, s.WarmedH (T.setFrames fs).vm → s.sameButNew ({ T.setFrames fs with vm := s.vm } : State) locs cells slots → FE (.returned none) (T.setFrames fs) locs) : OFin p e below FE Q T (mkF m pc Ls []) := by
  obtain ⟨fs, hr, hrun, hended, hW, hsame⟩ := X.leave (v := none) (fun _ => rfl) hlk
  exact ⟨_, _, X.returnOut hx hret hd hr, hrun, hended, _, _, rfl, hQ, hE fs hW hsame⟩
theorem own_retI (X : Stand p l e R s m args below meth c T locs cells slots) (hx : p.tables.exec = Jvm.exec) {pc : Nat} {Ls : Array Slot} {z : Int32} {rest : List Value} (hret : meth.sig.returnType = some .int) (hlk : meth.locks = false) (hd : decode c.code pc = .ok (.ireturn, 1)) (hQ : Q (some (.int z)) T.heap locs) (hE : ∀ fs : List Frame, s.WarmedH (T.setFrames fs).vm → s.sameButNew ({ T.setFrames fs with vm := s.vm } : State) locs cells slots → FE (.returned (some (.int z))) (T.setFrames fs) locs) : OFin p e below FE Q T (mkF m pc Ls (.int z :: rest)) := by
  obtain ⟨fs, hr, hrun, hended, hW, hsame⟩ := X.leave (v := some (.int z)) (fun h => by rw [hret] at h; cases h) hlk
  exact ⟨_, _, retOut X hx hret rfl (Or.inl ⟨rfl, Or.inl rfl, z, rfl⟩) hd hr, hrun, hended, _, _, rfl, hQ, hE fs hW hsame⟩
theorem own_retN (X : Stand p l e R s m args below meth c T locs cells slots) (hx : p.tables.exec = Jvm.exec) {pc : Nat} {Ls : Array Slot} {z z' : Int32} {rest : List Value} {t : FieldType} (hret : meth.sig.returnType = some t) (hlk : meth.locks = false) (ht : t = .boolean ∨ t = .byte ∨ t = .char ∨ t = .short) (hz : nar t z = z') (hd : decode c.code pc = .ok (.ireturn, 1)) (hQ : Q (some (.int z')) T.heap locs) (hE : ∀ fs : List Frame, s.WarmedH (T.setFrames fs).vm → s.sameButNew ({ T.setFrames fs with vm := s.vm } : State) locs cells slots → FE (.returned (some (.int z'))) (T.setFrames fs) locs) : OFin p e below FE Q T (mkF m pc Ls (.int z :: rest)) := by
  subst hz
  obtain ⟨fs, hr, hrun, hended, hW, hsame⟩ := X.leave (v := some (.int (nar t z))) (fun h => by rw [hret] at h; cases h) hlk
  exact ⟨_, _, retN X hx hret ht hd hr, hrun, hended, _, _, rfl, hQ, hE fs hW hsame⟩
theorem own_retJ (X : Stand p l e R s m args below meth c T locs cells slots) (hx : p.tables.exec = Jvm.exec) {pc : Nat} {Ls : Array Slot} {z : Int64} {rest : List Value} (hret : meth.sig.returnType = some .long) (hlk : meth.locks = false) (hd : decode c.code pc = .ok (.lreturn, 1)) (hQ : Q (some (.long z)) T.heap locs) (hE : ∀ fs : List Frame, s.WarmedH (T.setFrames fs).vm → s.sameButNew ({ T.setFrames fs with vm := s.vm } : State) locs cells slots → FE (.returned (some (.long z))) (T.setFrames fs) locs) : OFin p e below FE Q T (mkF m pc Ls (.long z :: rest)) := by
  obtain ⟨fs, hr, hrun, hended, hW, hsame⟩ := X.leave (v := some (.long z)) (fun h => by rw [hret] at h; cases h) hlk
  exact ⟨_, _, retOut X hx hret rfl (Or.inr (Or.inl ⟨rfl, rfl, z, rfl⟩)) hd hr, hrun, hended, _, _, rfl, hQ, hE fs hW hsame⟩
theorem own_retR (X : Stand p l e R s m args below meth c T locs cells slots) (hx : p.tables.exec = Jvm.exec) {pc : Nat} {Ls : Array Slot} {w : Value} {t : FieldType} {rest : List Value} (hret : meth.sig.returnType = some t) (hlk : meth.locks = false) (ht : t.isReference = true) (hn : narrow t w = w) (hw : w.isRef = true) (hd : decode c.code pc = .ok (.areturn, 1)) (hQ : Q (some w) T.heap locs) (hE : ∀ fs : List Frame, s.WarmedH (T.setFrames fs).vm → s.sameButNew ({ T.setFrames fs with vm := s.vm } : State) locs cells slots → FE (.returned (some w)) (T.setFrames fs) locs) : OFin p e below FE Q T (mkF m pc Ls (w :: rest)) := by
  obtain ⟨fs, hr, hrun, hended, hW, hsame⟩ := X.leave (v := some w) (fun h => by rw [hret] at h; cases h) hlk
  exact ⟨_, _, retOut X hx hret hn (Or.inr (Or.inr (Or.inr (Or.inr ⟨rfl, ht, hw⟩)))) hd hr, hrun, hended, _, _, rfl, hQ, hE fs hW hsame⟩
end Own
end Jvm.RoadKit
namespace Jvm.RoadKit
open Sem ClassFile Op Lib Jvm.Stand Jvm.Free Jvm.LawKit
theorem own_fldI {args : Array Value} {s : State} {t : Term} {C n d : String} {a : Addr} {x : Int32} (ev : t.eval args s none [] s = some (.ref a)) (h : (Jvm.Cond.eq (Term.field t C n d) (Term.int x)).value args s none s [] = some true) : Fld s s.heap a C n d (.int x) := by
  obtain ⟨u, y, e1, e2, -, k2⟩ := cmp_v (Or.inl h)
  cases (Option.some.inj (e2.symm.trans (Term.int_eval x)) : y = .int x)
  obtain ⟨z, rfl⟩ := k2
  have q : z = x := by simpa [Jvm.Cond.value, e1, e2] using h
  subst q
  exact Fld.start ((fld_at ev).symm.trans e1)
theorem own_fldJ {args : Array Value} {s : State} {t : Term} {C n d : String} {a : Addr} {x : Int64} (ev : t.eval args s none [] s = some (.ref a)) (h : (Jvm.Cond.eq (Term.field t C n d) (Term.long x)).value args s none s [] = some true) : Fld s s.heap a C n d (.long x) := by
  obtain ⟨u, y, e1, e2, -, k2⟩ := cmp_v (Or.inl h)
  cases (Option.some.inj (e2.symm.trans (long_at x)) : y = .long x)
  obtain ⟨z, rfl⟩ := k2
  have q : z = x := by simpa [Jvm.Cond.value, e1, e2] using h
  subst q
  exact Fld.start ((fld_at ev).symm.trans e1)
end Jvm.RoadKit
namespace Jvm.RoadKit
theorem own_ite {α : Sort _} {P : α → Prop} {c : Prop} [Decidable c] {a b : α} (ha : P a) (hb : P b) : P (if c then a else b) := by split <;> assumption
theorem own_ite2 {α β : Sort _} {P : α → β → Prop} {c : Prop} [Decidable c] {a b : α} {a' b' : β} (ha : P a a') (hb : P b b') : P (if c then a else b) (if c then a' else b') := by split <;> assumption
/-- (x &&& 0x7fffffff) % d lies between 0 and d -/
theorem own_rem (x d : Int32) (n : Int) (hn : d.toInt = n) (h0 : 0 < n) : 0 ≤ ((x &&& (2147483647 : Int32)) % d).toInt ∧ ((x &&& (2147483647 : Int32)) % d).toInt < n := by
  have h1 := c_mask x (2147483647 : Int32) 31 (by decide) (by decide)
  have h2 := (c_irem (x &&& (2147483647 : Int32)) d n hn).1 (by rw [h1]; omega)
  rw [h2, h1]
  exact ⟨Int.emod_nonneg _ (by omega), Int.emod_lt_of_pos _ h0⟩
end Jvm.RoadKit
namespace Jvm.RoadKit
open Sem ClassFile Op Lib Jvm.Stand Jvm.Free Jvm.LawKit
theorem own_lremM {p : Program} {l : Launch} {e : Env} {R : Room} {s : State} {m : MethodId} {args : Array Value} {below : List Frame} {meth : Method} {c : Code} {T : State} {locs : List Loc} {cells slots : Nat} {g : JFrame} {target : State} (X : Stand p l e R s m args below meth c T locs cells slots) (hx : p.tables.exec = Jvm.exec) (hg : g.method = m) {x y : Int64} {rest : List Value} (hd : decode c.code g.pc = .ok (.lrem, 1)) (hs : g.stack = .long y :: .long x :: rest) (hy : y ≠ 0)
    (hr : Steps p.tables e below (T.setTop { g with pc := g.pc + 1, stack := .long (x % y) :: rest }) target) : Steps p.tables e below (T.setTop g) target :=
  XS.lrem X.here hx hg hd hs hy (by rw [lrem_mod]; exact hr)
end Jvm.RoadKit
namespace Jvm.RoadKit
open Sem ClassFile Op Lib Jvm.Stand Jvm.Free Jvm.LawKit
theorem own_pop2L {p : Program} {l : Launch} {e : Env} {R : Room} {s : State} {m : MethodId} {args : Array Value} {below : List Frame} {meth : Method} {c : Code} {T : State} {locs : List Loc} {cells slots : Nat} {g : JFrame} {target : State} (X : Stand p l e R s m args below meth c T locs cells slots) (hx : p.tables.exec = Jvm.exec) (hg : g.method = m) {x : Int64} {rest : List Value} (hd : decode c.code g.pc = .ok (.pop2, 1)) (hs : g.stack = .long x :: rest)
    (hr : Steps p.tables e below (T.setTop { g with pc := g.pc + 1, stack := rest }) target) : Steps p.tables e below (T.setTop g) target := by
  subst hg
  jvm_step X.here [X.here.top, hx, hd, hs, Value.category]
  exact hr
end Jvm.RoadKit
namespace Jvm.Pilot.@@N@@
open Jvm Jvm.ClassFile Sem Op Lib Jvm.Free Jvm.Stand Jvm.LawKit Jvm.RoadKit Bundle Jvm.Pilot.@@N@@.Jvm.D
theorem d1_0 : decode method_4_code 0 = .ok (.iload_n 0, 1) := by decide +kernel
theorem d1_1 : decode method_4_code 1 = .ok (.ifCond .ne 7, 3) := by decide +kernel
theorem d1_4 : decode method_4_code 4 = .ok (.getstatic 23, 3) := by decide +kernel
theorem d1_7 : decode method_4_code 7 = .ok (.areturn, 1) := by decide +kernel
theorem d1_8 : decode method_4_code 8 = .ok (.iload_n 0, 1) := by decide +kernel
theorem d1_9 : decode method_4_code 9 = .ok (.iconst 1, 1) := by decide +kernel
theorem d1_10 : decode method_4_code 10 = .ok (.if_icmp .ne 7, 3) := by decide +kernel
theorem d1_13 : decode method_4_code 13 = .ok (.getstatic 27, 3) := by decide +kernel
theorem d1_16 : decode method_4_code 16 = .ok (.areturn, 1) := by decide +kernel
theorem d1_17 : decode method_4_code 17 = .ok (.iload_n 0, 1) := by decide +kernel
theorem d1_18 : decode method_4_code 18 = .ok (.iconst 2, 1) := by decide +kernel
theorem d1_19 : decode method_4_code 19 = .ok (.if_icmp .ne 7, 3) := by decide +kernel
theorem d1_22 : decode method_4_code 22 = .ok (.getstatic 30, 3) := by decide +kernel
theorem d1_25 : decode method_4_code 25 = .ok (.areturn, 1) := by decide +kernel
theorem d1_26 : decode method_4_code 26 = .ok (.iload_n 0, 1) := by decide +kernel
theorem d1_27 : decode method_4_code 27 = .ok (.iconst 3, 1) := by decide +kernel
theorem d1_28 : decode method_4_code 28 = .ok (.if_icmp .ne 7, 3) := by decide +kernel
theorem d1_31 : decode method_4_code 31 = .ok (.getstatic 33, 3) := by decide +kernel
theorem d1_34 : decode method_4_code 34 = .ok (.areturn, 1) := by decide +kernel
theorem d1_35 : decode method_4_code 35 = .ok (.iload_n 0, 1) := by decide +kernel
theorem d1_36 : decode method_4_code 36 = .ok (.iconst 4, 1) := by decide +kernel
theorem d1_37 : decode method_4_code 37 = .ok (.if_icmp .ne 7, 3) := by decide +kernel
theorem d1_40 : decode method_4_code 40 = .ok (.getstatic 36, 3) := by decide +kernel
theorem d1_43 : decode method_4_code 43 = .ok (.areturn, 1) := by decide +kernel
theorem d1_44 : decode method_4_code 44 = .ok (.iload_n 0, 1) := by decide +kernel
theorem d1_45 : decode method_4_code 45 = .ok (.iconst 5, 1) := by decide +kernel
theorem d1_46 : decode method_4_code 46 = .ok (.if_icmp .ne 7, 3) := by decide +kernel
theorem d1_49 : decode method_4_code 49 = .ok (.getstatic 39, 3) := by decide +kernel
theorem d1_52 : decode method_4_code 52 = .ok (.areturn, 1) := by decide +kernel
theorem d1_53 : decode method_4_code 53 = .ok (.iload_n 0, 1) := by decide +kernel
theorem d1_54 : decode method_4_code 54 = .ok (.bipush 6, 2) := by decide +kernel
theorem d1_56 : decode method_4_code 56 = .ok (.if_icmp .ne 7, 3) := by decide +kernel
theorem d1_59 : decode method_4_code 59 = .ok (.getstatic 42, 3) := by decide +kernel
theorem d1_62 : decode method_4_code 62 = .ok (.areturn, 1) := by decide +kernel
theorem d1_63 : decode method_4_code 63 = .ok (.iload_n 0, 1) := by decide +kernel
theorem d1_64 : decode method_4_code 64 = .ok (.bipush 7, 2) := by decide +kernel
theorem d1_66 : decode method_4_code 66 = .ok (.if_icmp .ne 7, 3) := by decide +kernel
theorem d1_69 : decode method_4_code 69 = .ok (.getstatic 45, 3) := by decide +kernel
theorem d1_72 : decode method_4_code 72 = .ok (.areturn, 1) := by decide +kernel
theorem d1_73 : decode method_4_code 73 = .ok (.iload_n 0, 1) := by decide +kernel
theorem d1_74 : decode method_4_code 74 = .ok (.bipush 8, 2) := by decide +kernel
theorem d1_76 : decode method_4_code 76 = .ok (.if_icmp .ne 7, 3) := by decide +kernel
theorem d1_79 : decode method_4_code 79 = .ok (.getstatic 48, 3) := by decide +kernel
theorem d1_82 : decode method_4_code 82 = .ok (.areturn, 1) := by decide +kernel
theorem d1_83 : decode method_4_code 83 = .ok (.iload_n 0, 1) := by decide +kernel
theorem d1_84 : decode method_4_code 84 = .ok (.bipush 9, 2) := by decide +kernel
theorem d1_86 : decode method_4_code 86 = .ok (.if_icmp .ne 7, 3) := by decide +kernel
theorem d1_89 : decode method_4_code 89 = .ok (.getstatic 51, 3) := by decide +kernel
theorem d1_92 : decode method_4_code 92 = .ok (.areturn, 1) := by decide +kernel
theorem d1_93 : decode method_4_code 93 = .ok (.iload_n 0, 1) := by decide +kernel
theorem d1_94 : decode method_4_code 94 = .ok (.bipush 10, 2) := by decide +kernel
theorem d1_96 : decode method_4_code 96 = .ok (.if_icmp .ne 7, 3) := by decide +kernel
theorem d1_99 : decode method_4_code 99 = .ok (.getstatic 54, 3) := by decide +kernel
theorem d1_102 : decode method_4_code 102 = .ok (.areturn, 1) := by decide +kernel
theorem d1_103 : decode method_4_code 103 = .ok (.iload_n 0, 1) := by decide +kernel
theorem d1_104 : decode method_4_code 104 = .ok (.bipush 11, 2) := by decide +kernel
theorem d1_106 : decode method_4_code 106 = .ok (.if_icmp .ne 7, 3) := by decide +kernel
theorem d1_109 : decode method_4_code 109 = .ok (.getstatic 57, 3) := by decide +kernel
theorem d1_112 : decode method_4_code 112 = .ok (.areturn, 1) := by decide +kernel
theorem d1_113 : decode method_4_code 113 = .ok (.iload_n 0, 1) := by decide +kernel
theorem d1_114 : decode method_4_code 114 = .ok (.bipush 12, 2) := by decide +kernel
theorem d1_116 : decode method_4_code 116 = .ok (.if_icmp .ne 7, 3) := by decide +kernel
theorem d1_119 : decode method_4_code 119 = .ok (.getstatic 60, 3) := by decide +kernel
theorem d1_122 : decode method_4_code 122 = .ok (.areturn, 1) := by decide +kernel
theorem d1_123 : decode method_4_code 123 = .ok (.iload_n 0, 1) := by decide +kernel
theorem d1_124 : decode method_4_code 124 = .ok (.bipush 13, 2) := by decide +kernel
theorem d1_126 : decode method_4_code 126 = .ok (.if_icmp .ne 7, 3) := by decide +kernel
theorem d1_129 : decode method_4_code 129 = .ok (.getstatic 63, 3) := by decide +kernel
theorem d1_132 : decode method_4_code 132 = .ok (.areturn, 1) := by decide +kernel
theorem d1_133 : decode method_4_code 133 = .ok (.iload_n 0, 1) := by decide +kernel
theorem d1_134 : decode method_4_code 134 = .ok (.bipush 14, 2) := by decide +kernel
theorem d1_136 : decode method_4_code 136 = .ok (.if_icmp .ne 7, 3) := by decide +kernel
theorem d1_139 : decode method_4_code 139 = .ok (.getstatic 66, 3) := by decide +kernel
theorem d1_142 : decode method_4_code 142 = .ok (.areturn, 1) := by decide +kernel
theorem d1_143 : decode method_4_code 143 = .ok (.getstatic 69, 3) := by decide +kernel
theorem d1_146 : decode method_4_code 146 = .ok (.areturn, 1) := by decide +kernel
theorem pn_com_example_cairnlink_cairnlink_BuiltInCollapsesPinLaw : plainName "com/example/cairnlink/cairnlink/BuiltInCollapsesPinLaw" = true := by first | (simp [plainName, overriddenIn]; done) | decide +kernel
theorem d2_0 : decode method_3_code 0 = .ok (.iload_n 0, 1) := by decide +kernel
theorem d2_1 : decode method_3_code 1 = .ok (.ifCond .ne 5, 3) := by decide +kernel
theorem d2_4 : decode method_3_code 4 = .ok (.iconst 0, 1) := by decide +kernel
theorem d2_5 : decode method_3_code 5 = .ok (.ireturn, 1) := by decide +kernel
theorem d2_6 : decode method_3_code 6 = .ok (.iload_n 0, 1) := by decide +kernel
theorem d2_7 : decode method_3_code 7 = .ok (.iconst 1, 1) := by decide +kernel
theorem d2_8 : decode method_3_code 8 = .ok (.if_icmp .ne 5, 3) := by decide +kernel
theorem d2_11 : decode method_3_code 11 = .ok (.iconst 0, 1) := by decide +kernel
theorem d2_12 : decode method_3_code 12 = .ok (.ireturn, 1) := by decide +kernel
theorem d2_13 : decode method_3_code 13 = .ok (.iconst 1, 1) := by decide +kernel
theorem d2_14 : decode method_3_code 14 = .ok (.ireturn, 1) := by decide +kernel
theorem d3_0 : decode prog_89_method_8_code 0 = .ok (.aload_n 0, 1) := by decide +kernel
theorem d3_1 : decode prog_89_method_8_code 1 = .ok (.getstatic 3, 3) := by decide +kernel
theorem d3_4 : decode prog_89_method_8_code 4 = .ok (.if_acmp .eq 14, 3) := by decide +kernel
theorem d3_18 : decode prog_89_method_8_code 18 = .ok (.iconst 0, 1) := by decide +kernel
theorem d3_19 : decode prog_89_method_8_code 19 = .ok (.ireturn, 1) := by decide +kernel
theorem d3_7 : decode prog_89_method_8_code 7 = .ok (.aload_n 0, 1) := by decide +kernel
theorem d3_8 : decode prog_89_method_8_code 8 = .ok (.getstatic 7, 3) := by decide +kernel
theorem d3_11 : decode prog_89_method_8_code 11 = .ok (.if_acmp .eq 7, 3) := by decide +kernel
theorem d3_14 : decode prog_89_method_8_code 14 = .ok (.iconst 1, 1) := by decide +kernel
theorem d3_15 : decode prog_89_method_8_code 15 = .ok (.goto 4, 3) := by decide +kernel
theorem pn_com_example_cairnlink_cairnlink_SimpleType_BuiltIn : plainName "com/example/cairnlink/cairnlink/SimpleType$BuiltIn" = true := by first | (simp [plainName, overriddenIn]; done) | decide +kernel
theorem pd_1 : parseMethodDescriptor "(I)Lcom/example/cairnlink/cairnlink/SimpleType$BuiltIn;" = some ⟨[.int], some (.object "com/example/cairnlink/cairnlink/SimpleType$BuiltIn")⟩ := by decide +kernel
theorem pd_2 : parseMethodDescriptor "(I)Z" = some ⟨[.int], some .boolean⟩ := by decide +kernel
theorem pd_0 : parseMethodDescriptor "()Z" = some ⟨[], some .boolean⟩ := by decide +kernel
theorem ef_rm1 (m : MethodId) (p0 : Int32) : entryFrame m #[(.int p0)] 1 = mkF m 0 #[.val (.int p0)] [] := by first | (simp [entryFrame, mkF, argsToLocals, Value.category]; done) | rfl
def F1 (p0 : Int32) (w_STRING : Addr) (w_NORMALIZED_STRING : Addr) (w_TOKEN : Addr) (w_LANGUAGE : Addr) (w_NAME : Addr) (w_NMTOKEN : Addr) (w_NCNAME : Addr) (w_ID : Addr) (w_ANY_URI : Addr) (w_BOOLEAN : Addr) (w_DATE : Addr) (w_DATE_TIME : Addr) (w_G_YEAR : Addr) (w_G_YEAR_MONTH : Addr) (w_FLOAT : Addr) (w_NON_NEGATIVE_INTEGER : Addr) : Addr := if p0 = (0 : Int32) then w_STRING else (if p0 = (1 : Int32) then w_NORMALIZED_STRING else (if p0 = (2 : Int32) then w_TOKEN else (if p0 = (3 : Int32) then w_LANGUAGE else (if p0 = (4 : Int32) then w_NAME else (if p0 = (5 : Int32) then w_NMTOKEN else (if p0 = (6 : Int32) then w_NCNAME else (if p0 = (7 : Int32) then w_ID else (if p0 = (8 : Int32) then w_ANY_URI else (if p0 = (9 : Int32) then w_BOOLEAN else (if p0 = (10 : Int32) then w_DATE else (if p0 = (11 : Int32) then w_DATE_TIME else (if p0 = (12 : Int32) then w_G_YEAR else (if p0 = (13 : Int32) then w_G_YEAR_MONTH else (if p0 = (14 : Int32) then w_FLOAT else w_NON_NEGATIVE_INTEGER))))))))))))))
def Q1 (p0 : Int32) (w_STRING : Addr) (w_NORMALIZED_STRING : Addr) (w_TOKEN : Addr) (w_LANGUAGE : Addr) (w_NAME : Addr) (w_NMTOKEN : Addr) (w_NCNAME : Addr) (w_ID : Addr) (w_ANY_URI : Addr) (w_BOOLEAN : Addr) (w_DATE : Addr) (w_DATE_TIME : Addr) (w_G_YEAR : Addr) (w_G_YEAR_MONTH : Addr) (w_FLOAT : Addr) (w_NON_NEGATIVE_INTEGER : Addr) (h0 : Heap) (n0 : Nat) (v : Option Value) (h : Heap) (L : List Loc) : Prop := v = some (Value.ref (F1 p0 w_STRING w_NORMALIZED_STRING w_TOKEN w_LANGUAGE w_NAME w_NMTOKEN w_NCNAME w_ID w_ANY_URI w_BOOLEAN w_DATE w_DATE_TIME w_G_YEAR w_G_YEAR_MONTH w_FLOAT w_NON_NEGATIVE_INTEGER)) ∧ Fr n0 L ∧ h = h0
set_option maxRecDepth 65536 in
set_option maxHeartbeats 40000000 in
theorem rm1 (l : Launch) (Z : State) (a0 : Array Value) (hw : ∀ d ∈ tables_1, d.before a0 Z = true) (ws : List Jvm.Cond) (p0 : Int32) (w_STRING : Addr) (w_NORMALIZED_STRING : Addr) (w_TOKEN : Addr) (w_LANGUAGE : Addr) (w_NAME : Addr) (w_NMTOKEN : Addr) (w_NCNAME : Addr) (w_ID : Addr) (w_ANY_URI : Addr) (w_BOOLEAN : Addr) (w_DATE : Addr) (w_DATE_TIME : Addr) (w_G_YEAR : Addr) (w_G_YEAR_MONTH : Addr) (w_FLOAT : Addr) (w_NON_NEGATIVE_INTEGER : Addr) (h0 : Heap) (n0 : Nat) (O0 : Old Z n0 h0) (S_STRING : Sta Z Z.heap "com/example/cairnlink/cairnlink/SimpleType$BuiltIn" "STRING" "Lcom/example/cairnlink/cairnlink/SimpleType$BuiltIn;" (.ref w_STRING)) (S_NORMALIZED_STRING : Sta Z Z.heap "com/example/cairnlink/cairnlink/SimpleType$BuiltIn" "NORMALIZED_STRING" "Lcom/example/cairnlink/cairnlink/SimpleType$BuiltIn;" (.ref w_NORMALIZED_STRING)) (S_TOKEN : Sta Z Z.heap "com/example/cairnlink/cairnlink/SimpleType$BuiltIn" "TOKEN" "Lcom/example/cairnlink/cairnlink/SimpleType$BuiltIn;" (.ref w_TOKEN)) (S_LANGUAGE : Sta Z Z.heap "com/example/cairnlink/cairnlink/SimpleType$BuiltIn" "LANGUAGE" "Lcom/example/cairnlink/cairnlink/SimpleType$BuiltIn;" (.ref w_LANGUAGE)) (S_NAME : Sta Z Z.heap "com/example/cairnlink/cairnlink/SimpleType$BuiltIn" "NAME" "Lcom/example/cairnlink/cairnlink/SimpleType$BuiltIn;" (.ref w_NAME)) (S_NMTOKEN : Sta Z Z.heap "com/example/cairnlink/cairnlink/SimpleType$BuiltIn" "NMTOKEN" "Lcom/example/cairnlink/cairnlink/SimpleType$BuiltIn;" (.ref w_NMTOKEN)) (S_NCNAME : Sta Z Z.heap "com/example/cairnlink/cairnlink/SimpleType$BuiltIn" "NCNAME" "Lcom/example/cairnlink/cairnlink/SimpleType$BuiltIn;" (.ref w_NCNAME)) (S_ID : Sta Z Z.heap "com/example/cairnlink/cairnlink/SimpleType$BuiltIn" "ID" "Lcom/example/cairnlink/cairnlink/SimpleType$BuiltIn;" (.ref w_ID)) (S_ANY_URI : Sta Z Z.heap "com/example/cairnlink/cairnlink/SimpleType$BuiltIn" "ANY_URI" "Lcom/example/cairnlink/cairnlink/SimpleType$BuiltIn;" (.ref w_ANY_URI)) (S_BOOLEAN : Sta Z Z.heap "com/example/cairnlink/cairnlink/SimpleType$BuiltIn" "BOOLEAN" "Lcom/example/cairnlink/cairnlink/SimpleType$BuiltIn;" (.ref w_BOOLEAN)) (S_DATE : Sta Z Z.heap "com/example/cairnlink/cairnlink/SimpleType$BuiltIn" "DATE" "Lcom/example/cairnlink/cairnlink/SimpleType$BuiltIn;" (.ref w_DATE)) (S_DATE_TIME : Sta Z Z.heap "com/example/cairnlink/cairnlink/SimpleType$BuiltIn" "DATE_TIME" "Lcom/example/cairnlink/cairnlink/SimpleType$BuiltIn;" (.ref w_DATE_TIME)) (S_G_YEAR : Sta Z Z.heap "com/example/cairnlink/cairnlink/SimpleType$BuiltIn" "G_YEAR" "Lcom/example/cairnlink/cairnlink/SimpleType$BuiltIn;" (.ref w_G_YEAR)) (S_G_YEAR_MONTH : Sta Z Z.heap "com/example/cairnlink/cairnlink/SimpleType$BuiltIn" "G_YEAR_MONTH" "Lcom/example/cairnlink/cairnlink/SimpleType$BuiltIn;" (.ref w_G_YEAR_MONTH)) (S_FLOAT : Sta Z Z.heap "com/example/cairnlink/cairnlink/SimpleType$BuiltIn" "FLOAT" "Lcom/example/cairnlink/cairnlink/SimpleType$BuiltIn;" (.ref w_FLOAT)) (S_NON_NEGATIVE_INTEGER : Sta Z Z.heap "com/example/cairnlink/cairnlink/SimpleType$BuiltIn" "NON_NEGATIVE_INTEGER" "Lcom/example/cairnlink/cairnlink/SimpleType$BuiltIn;" (.ref w_NON_NEGATIVE_INTEGER)) :
    MetFree l (⟨"com/example/cairnlink/cairnlink/BuiltInCollapsesPinLaw", "pick", "(I)Lcom/example/cairnlink/cairnlink/SimpleType$BuiltIn;"⟩ : MethodName) (head1 (Jvm.Cond.code (⟨"com/example/cairnlink/cairnlink/BuiltInCollapsesPinLaw", "pick", "(I)Lcom/example/cairnlink/cairnlink/SimpleType$BuiltIn;"⟩ : MethodName) method_4_code 1 (some (.object "com/example/cairnlink/cairnlink/SimpleType$BuiltIn")) :: ws) ({ frames := 0, cells := 0, slots := 0, locals := 0 } : Room)) (fun a U => a = #[(.int p0)] ∧ Z.Warmed39 U.vm ∧ U.heap = h0) (fun _ _ _ _ _ => True) (fun _ U o U' => ∃ v L, o = .returned v ∧ Q1 p0 w_STRING w_NORMALIZED_STRING w_TOKEN w_LANGUAGE w_NAME w_NMTOKEN w_NCNAME w_ID w_ANY_URI w_BOOLEAN w_DATE w_DATE_TIME w_G_YEAR w_G_YEAR_MONTH w_FLOAT w_NON_NEGATIVE_INTEGER h0 n0 v U'.heap L ∧ FrameEnd U o U' L ({ frames := 0, cells := 0, slots := 0, locals := 0 } : Room).cells ({ frames := 0, cells := 0, slots := 0, locals := 0 } : Room).slots) := by
  refine MetFree.of_bodySF (plainFor_of_name pn_com_example_cairnlink_cairnlink_BuiltInCollapsesPinLaw) hisR ?_
  intro p e s m args below meth c s₁ Bd hml0 hP hK
  obtain ⟨rfl, hZ, hh⟩ := hP
  have hx := Bd.exec
  have hby := Bd.bytes
  have hml : c.maxLocals = 1 := hml0
  have hown : s.vm.findClass "com/example/cairnlink/cairnlink/BuiltInCollapsesPinLaw" = some m.cls := findClass_of_methodNamed Bd.named
  have hnm := (name_of_methodNamed Bd.named Bd.method).1
  have X0 : Stand p l e ({ frames := 0, cells := 0, slots := 0, locals := 0 } : Room) s m #[(.int p0)] below meth c s₁ [] 0 0 := Stand.of_body Bd
  have e0 : s₁.heap = h0 := by rw [← hh, Bd.state]; rfl
  have N0 := Fr.nil n0
  show OFin p e below (fun o t L => FrameEnd s o t L ({ frames := 0, cells := 0, slots := 0, locals := 0 } : Room).cells ({ frames := 0, cells := 0, slots := 0, locals := 0 } : Room).slots) (fun v h L => Q1 p0 w_STRING w_NORMALIZED_STRING w_TOKEN w_LANGUAGE w_NAME w_NMTOKEN w_NCNAME w_ID w_ANY_URI w_BOOLEAN w_DATE w_DATE_TIME w_G_YEAR w_G_YEAR_MONTH w_FLOAT w_NON_NEGATIVE_INTEGER h0 n0 v h L) s₁ (entryFrame m #[(.int p0)] 1)
  refine OFin.cast (ef_rm1 m p0) ?_
  show OFin p e below _ _ s₁ (mkF m 0 #[.val (.int p0)] [])
  refine OFin.st (fun t k => XS.iloadN X0.here hx rfl (hb hby d1_0) rfl k) ?_
  show OFin p e below _ _ s₁ (mkF m 1 #[.val (.int p0)] [(.int p0)])
  by_cases hc1 : p0 = (0 : Int32)
  · refine OFin.st (fun t k => XS.ifNo X0.here hx rfl (hb hby d1_1) rfl ((if0 _ _).trans (teq hc1).2) k) ?_
    show OFin p e below _ _ s₁ (mkF m 4 #[.val (.int p0)] [])
    obtain ⟨T1, X1, e1, st1⟩ := getS2 X0 hx hZ hown (host := "") (Or.inl (hw _ (List.mem_of_getElem? (i := 4) rfl))) Via.refl e0 (S_STRING.ext O0.2) (g := (mkF m 4 #[.val (.int p0)] [])) rfl (hb hby d1_4)
    refine OFin.st st1 ?_
    show OFin p e below _ _ T1 (mkF m 7 #[.val (.int p0)] [(.ref w_STRING)])
    exact own_retR X1 hx Bd.returns Bd.notSynchronized rfl rfl rfl (hb hby d1_7) ⟨(by rw [F1, if_pos hc1]; try rfl), N0, e1⟩ (own_endN (by decide) (by decide))
  · refine OFin.st (fun t k => XS.ifYes X0.here hx rfl (pc0 := 1) (pc' := 8) rfl (hb hby d1_1) rfl ((if0 _ _).trans (feq hc1).2) (by decide) (by decide) k) ?_
    show OFin p e below _ _ s₁ (mkF m 8 #[.val (.int p0)] [])
    refine OFin.st (fun t k => XS.iloadN X0.here hx rfl (hb hby d1_8) rfl k) ?_
    show OFin p e below _ _ s₁ (mkF m 9 #[.val (.int p0)] [(.int p0)])
    refine OFin.st (fun t k => XS.iconst X0.here hx rfl (hb hby d1_9) k) ?_
    show OFin p e below _ _ s₁ (mkF m 10 #[.val (.int p0)] [(.int (1 : Int32)), (.int p0)])
    by_cases hc10 : p0 = (1 : Int32)
    · refine OFin.st (fun t k => XS.icmpNo X0.here hx rfl (hb hby d1_10) rfl (teq hc10).2 k) ?_
      show OFin p e below _ _ s₁ (mkF m 13 #[.val (.int p0)] [])
      obtain ⟨T2, X2, e2, st2⟩ := getS2 X0 hx hZ hown (host := "") (Or.inl (hw _ (List.mem_of_getElem? (i := 34) rfl))) Via.refl e0 (S_NORMALIZED_STRING.ext O0.2) (g := (mkF m 13 #[.val (.int p0)] [])) rfl (hb hby d1_13)
      refine OFin.st st2 ?_
      show OFin p e below _ _ T2 (mkF m 16 #[.val (.int p0)] [(.ref w_NORMALIZED_STRING)])
      exact own_retR X2 hx Bd.returns Bd.notSynchronized rfl rfl rfl (hb hby d1_16) ⟨(by rw [F1, if_neg hc1, if_pos hc10]; try rfl), N0, e2⟩ (own_endN (by decide) (by decide))
    · refine OFin.st (fun t k => XS.icmpYes X0.here hx rfl (pc0 := 10) (pc' := 17) rfl (hb hby d1_10) rfl (feq hc10).2 (by decide) (by decide) k) ?_
      show OFin p e below _ _ s₁ (mkF m 17 #[.val (.int p0)] [])
      refine OFin.st (fun t k => XS.iloadN X0.here hx rfl (hb hby d1_17) rfl k) ?_
      show OFin p e below _ _ s₁ (mkF m 18 #[.val (.int p0)] [(.int p0)])
      refine OFin.st (fun t k => XS.iconst X0.here hx rfl (hb hby d1_18) k) ?_
      show OFin p e below _ _ s₁ (mkF m 19 #[.val (.int p0)] [(.int (2 : Int32)), (.int p0)])
      by_cases hc19 : p0 = (2 : Int32)
      · refine OFin.st (fun t k => XS.icmpNo X0.here hx rfl (hb hby d1_19) rfl (teq hc19).2 k) ?_
        show OFin p e below _ _ s₁ (mkF m 22 #[.val (.int p0)] [])
        obtain ⟨T3, X3, e3, st3⟩ := getS2 X0 hx hZ hown (host := "") (Or.inl (hw _ (List.mem_of_getElem? (i := 28) rfl))) Via.refl e0 (S_TOKEN.ext O0.2) (g := (mkF m 22 #[.val (.int p0)] [])) rfl (hb hby d1_22)
        refine OFin.st st3 ?_
        show OFin p e below _ _ T3 (mkF m 25 #[.val (.int p0)] [(.ref w_TOKEN)])
        exact own_retR X3 hx Bd.returns Bd.notSynchronized rfl rfl rfl (hb hby d1_25) ⟨(by rw [F1, if_neg hc1, if_neg hc10, if_pos hc19]; try rfl), N0, e3⟩ (own_endN (by decide) (by decide))
      · refine OFin.st (fun t k => XS.icmpYes X0.here hx rfl (pc0 := 19) (pc' := 26) rfl (hb hby d1_19) rfl (feq hc19).2 (by decide) (by decide) k) ?_
        show OFin p e below _ _ s₁ (mkF m 26 #[.val (.int p0)] [])
        refine OFin.st (fun t k => XS.iloadN X0.here hx rfl (hb hby d1_26) rfl k) ?_
        show OFin p e below _ _ s₁ (mkF m 27 #[.val (.int p0)] [(.int p0)])
        refine OFin.st (fun t k => XS.iconst X0.here hx rfl (hb hby d1_27) k) ?_
        show OFin p e below _ _ s₁ (mkF m 28 #[.val (.int p0)] [(.int (3 : Int32)), (.int p0)])
        by_cases hc28 : p0 = (3 : Int32)
        · refine OFin.st (fun t k => XS.icmpNo X0.here hx rfl (hb hby d1_28) rfl (teq hc28).2 k) ?_
          show OFin p e below _ _ s₁ (mkF m 31 #[.val (.int p0)] [])
          obtain ⟨T4, X4, e4, st4⟩ := getS2 X0 hx hZ hown (host := "") (Or.inl (hw _ (List.mem_of_getElem? (i := 16) rfl))) Via.refl e0 (S_LANGUAGE.ext O0.2) (g := (mkF m 31 #[.val (.int p0)] [])) rfl (hb hby d1_31)
          refine OFin.st st4 ?_
          show OFin p e below _ _ T4 (mkF m 34 #[.val (.int p0)] [(.ref w_LANGUAGE)])
          exact own_retR X4 hx Bd.returns Bd.notSynchronized rfl rfl rfl (hb hby d1_34) ⟨(by rw [F1, if_neg hc1, if_neg hc10, if_neg hc19, if_pos hc28]; try rfl), N0, e4⟩ (own_endN (by decide) (by decide))
        · refine OFin.st (fun t k => XS.icmpYes X0.here hx rfl (pc0 := 28) (pc' := 35) rfl (hb hby d1_28) rfl (feq hc28).2 (by decide) (by decide) k) ?_
          show OFin p e below _ _ s₁ (mkF m 35 #[.val (.int p0)] [])
          refine OFin.st (fun t k => XS.iloadN X0.here hx rfl (hb hby d1_35) rfl k) ?_
          show OFin p e below _ _ s₁ (mkF m 36 #[.val (.int p0)] [(.int p0)])
          refine OFin.st (fun t k => XS.iconst X0.here hx rfl (hb hby d1_36) k) ?_
          show OFin p e below _ _ s₁ (mkF m 37 #[.val (.int p0)] [(.int (4 : Int32)), (.int p0)])
          by_cases hc37 : p0 = (4 : Int32)
          · refine OFin.st (fun t k => XS.icmpNo X0.here hx rfl (hb hby d1_37) rfl (teq hc37).2 k) ?_
            show OFin p e below _ _ s₁ (mkF m 40 #[.val (.int p0)] [])
            obtain ⟨T5, X5, e5, st5⟩ := getS2 X0 hx hZ hown (host := "") (Or.inl (hw _ (List.mem_of_getElem? (i := 35) rfl))) Via.refl e0 (S_NAME.ext O0.2) (g := (mkF m 40 #[.val (.int p0)] [])) rfl (hb hby d1_40)
            refine OFin.st st5 ?_
            show OFin p e below _ _ T5 (mkF m 43 #[.val (.int p0)] [(.ref w_NAME)])
            exact own_retR X5 hx Bd.returns Bd.notSynchronized rfl rfl rfl (hb hby d1_43) ⟨(by rw [F1, if_neg hc1, if_neg hc10, if_neg hc19, if_neg hc28, if_pos hc37]; try rfl), N0, e5⟩ (own_endN (by decide) (by decide))
          · refine OFin.st (fun t k => XS.icmpYes X0.here hx rfl (pc0 := 37) (pc' := 44) rfl (hb hby d1_37) rfl (feq hc37).2 (by decide) (by decide) k) ?_
            show OFin p e below _ _ s₁ (mkF m 44 #[.val (.int p0)] [])
            refine OFin.st (fun t k => XS.iloadN X0.here hx rfl (hb hby d1_44) rfl k) ?_
            show OFin p e below _ _ s₁ (mkF m 45 #[.val (.int p0)] [(.int p0)])
            refine OFin.st (fun t k => XS.iconst X0.here hx rfl (hb hby d1_45) k) ?_
            show OFin p e below _ _ s₁ (mkF m 46 #[.val (.int p0)] [(.int (5 : Int32)), (.int p0)])
            by_cases hc46 : p0 = (5 : Int32)
            · refine OFin.st (fun t k => XS.icmpNo X0.here hx rfl (hb hby d1_46) rfl (teq hc46).2 k) ?_
              show OFin p e below _ _ s₁ (mkF m 49 #[.val (.int p0)] [])
              obtain ⟨T6, X6, e6, st6⟩ := getS2 X0 hx hZ hown (host := "") (Or.inl (hw _ (List.mem_of_getElem? (i := 45) rfl))) Via.refl e0 (S_NMTOKEN.ext O0.2) (g := (mkF m 49 #[.val (.int p0)] [])) rfl (hb hby d1_49)
              refine OFin.st st6 ?_
              show OFin p e below _ _ T6 (mkF m 52 #[.val (.int p0)] [(.ref w_NMTOKEN)])
              exact own_retR X6 hx Bd.returns Bd.notSynchronized rfl rfl rfl (hb hby d1_52) ⟨(by rw [F1, if_neg hc1, if_neg hc10, if_neg hc19, if_neg hc28, if_neg hc37, if_pos hc46]; try rfl), N0, e6⟩ (own_endN (by decide) (by decide))
            · refine OFin.st (fun t k => XS.icmpYes X0.here hx rfl (pc0 := 46) (pc' := 53) rfl (hb hby d1_46) rfl (feq hc46).2 (by decide) (by decide) k) ?_
              show OFin p e below _ _ s₁ (mkF m 53 #[.val (.int p0)] [])
              refine OFin.st (fun t k => XS.iloadN X0.here hx rfl (hb hby d1_53) rfl k) ?_
              show OFin p e below _ _ s₁ (mkF m 54 #[.val (.int p0)] [(.int p0)])
              refine OFin.st (fun t k => XS.bipush X0.here hx rfl (hb hby d1_54) k) ?_
              show OFin p e below _ _ s₁ (mkF m 56 #[.val (.int p0)] [(.int (6 : Int32)), (.int p0)])
              by_cases hc56 : p0 = (6 : Int32)
              · refine OFin.st (fun t k => XS.icmpNo X0.here hx rfl (hb hby d1_56) rfl (teq hc56).2 k) ?_
                show OFin p e below _ _ s₁ (mkF m 59 #[.val (.int p0)] [])
                obtain ⟨T7, X7, e7, st7⟩ := getS2 X0 hx hZ hown (host := "") (Or.inl (hw _ (List.mem_of_getElem? (i := 41) rfl))) Via.refl e0 (S_NCNAME.ext O0.2) (g := (mkF m 59 #[.val (.int p0)] [])) rfl (hb hby d1_59)
                refine OFin.st st7 ?_
                show OFin p e below _ _ T7 (mkF m 62 #[.val (.int p0)] [(.ref w_NCNAME)])
                exact own_retR X7 hx Bd.returns Bd.notSynchronized rfl rfl rfl (hb hby d1_62) ⟨(by rw [F1, if_neg hc1, if_neg hc10, if_neg hc19, if_neg hc28, if_neg hc37, if_neg hc46, if_pos hc56]; try rfl), N0, e7⟩ (own_endN (by decide) (by decide))
              · refine OFin.st (fun t k => XS.icmpYes X0.here hx rfl (pc0 := 56) (pc' := 63) rfl (hb hby d1_56) rfl (feq hc56).2 (by decide) (by decide) k) ?_
                show OFin p e below _ _ s₁ (mkF m 63 #[.val (.int p0)] [])
                refine OFin.st (fun t k => XS.iloadN X0.here hx rfl (hb hby d1_63) rfl k) ?_
                show OFin p e below _ _ s₁ (mkF m 64 #[.val (.int p0)] [(.int p0)])
                refine OFin.st (fun t k => XS.bipush X0.here hx rfl (hb hby d1_64) k) ?_
                show OFin p e below _ _ s₁ (mkF m 66 #[.val (.int p0)] [(.int (7 : Int32)), (.int p0)])
                by_cases hc66 : p0 = (7 : Int32)
                · refine OFin.st (fun t k => XS.icmpNo X0.here hx rfl (hb hby d1_66) rfl (teq hc66).2 k) ?_
                  show OFin p e below _ _ s₁ (mkF m 69 #[.val (.int p0)] [])
                  obtain ⟨T8, X8, e8, st8⟩ := getS2 X0 hx hZ hown (host := "") (Or.inl (hw _ (List.mem_of_getElem? (i := 26) rfl))) Via.refl e0 (S_ID.ext O0.2) (g := (mkF m 69 #[.val (.int p0)] [])) rfl (hb hby d1_69)
                  refine OFin.st st8 ?_
                  show OFin p e below _ _ T8 (mkF m 72 #[.val (.int p0)] [(.ref w_ID)])
                  exact own_retR X8 hx Bd.returns Bd.notSynchronized rfl rfl rfl (hb hby d1_72) ⟨(by rw [F1, if_neg hc1, if_neg hc10, if_neg hc19, if_neg hc28, if_neg hc37, if_neg hc46, if_neg hc56, if_pos hc66]; try rfl), N0, e8⟩ (own_endN (by decide) (by decide))
                · refine OFin.st (fun t k => XS.icmpYes X0.here hx rfl (pc0 := 66) (pc' := 73) rfl (hb hby d1_66) rfl (feq hc66).2 (by decide) (by decide) k) ?_
                  show OFin p e below _ _ s₁ (mkF m 73 #[.val (.int p0)] [])
                  refine OFin.st (fun t k => XS.iloadN X0.here hx rfl (hb hby d1_73) rfl k) ?_
                  show OFin p e below _ _ s₁ (mkF m 74 #[.val (.int p0)] [(.int p0)])
                  refine OFin.st (fun t k => XS.bipush X0.here hx rfl (hb hby d1_74) k) ?_
                  show OFin p e below _ _ s₁ (mkF m 76 #[.val (.int p0)] [(.int (8 : Int32)), (.int p0)])
                  by_cases hc76 : p0 = (8 : Int32)
                  · refine OFin.st (fun t k => XS.icmpNo X0.here hx rfl (hb hby d1_76) rfl (teq hc76).2 k) ?_
                    show OFin p e below _ _ s₁ (mkF m 79 #[.val (.int p0)] [])
                    obtain ⟨T9, X9, e9, st9⟩ := getS2 X0 hx hZ hown (host := "") (Or.inl (hw _ (List.mem_of_getElem? (i := 32) rfl))) Via.refl e0 (S_ANY_URI.ext O0.2) (g := (mkF m 79 #[.val (.int p0)] [])) rfl (hb hby d1_79)
                    refine OFin.st st9 ?_
                    show OFin p e below _ _ T9 (mkF m 82 #[.val (.int p0)] [(.ref w_ANY_URI)])
                    exact own_retR X9 hx Bd.returns Bd.notSynchronized rfl rfl rfl (hb hby d1_82) ⟨(by rw [F1, if_neg hc1, if_neg hc10, if_neg hc19, if_neg hc28, if_neg hc37, if_neg hc46, if_neg hc56, if_neg hc66, if_pos hc76]; try rfl), N0, e9⟩ (own_endN (by decide) (by decide))
                  · refine OFin.st (fun t k => XS.icmpYes X0.here hx rfl (pc0 := 76) (pc' := 83) rfl (hb hby d1_76) rfl (feq hc76).2 (by decide) (by decide) k) ?_
                    show OFin p e below _ _ s₁ (mkF m 83 #[.val (.int p0)] [])
                    refine OFin.st (fun t k => XS.iloadN X0.here hx rfl (hb hby d1_83) rfl k) ?_
                    show OFin p e below _ _ s₁ (mkF m 84 #[.val (.int p0)] [(.int p0)])
                    refine OFin.st (fun t k => XS.bipush X0.here hx rfl (hb hby d1_84) k) ?_
                    show OFin p e below _ _ s₁ (mkF m 86 #[.val (.int p0)] [(.int (9 : Int32)), (.int p0)])
                    by_cases hc86 : p0 = (9 : Int32)
                    · refine OFin.st (fun t k => XS.icmpNo X0.here hx rfl (hb hby d1_86) rfl (teq hc86).2 k) ?_
                      show OFin p e below _ _ s₁ (mkF m 89 #[.val (.int p0)] [])
                      obtain ⟨T10, X10, e10, st10⟩ := getS2 X0 hx hZ hown (host := "") (Or.inl (hw _ (List.mem_of_getElem? (i := 43) rfl))) Via.refl e0 (S_BOOLEAN.ext O0.2) (g := (mkF m 89 #[.val (.int p0)] [])) rfl (hb hby d1_89)
                      refine OFin.st st10 ?_
                      show OFin p e below _ _ T10 (mkF m 92 #[.val (.int p0)] [(.ref w_BOOLEAN)])
                      exact own_retR X10 hx Bd.returns Bd.notSynchronized rfl rfl rfl (hb hby d1_92) ⟨(by rw [F1, if_neg hc1, if_neg hc10, if_neg hc19, if_neg hc28, if_neg hc37, if_neg hc46, if_neg hc56, if_neg hc66, if_neg hc76, if_pos hc86]; try rfl), N0, e10⟩ (own_endN (by decide) (by decide))
                    · refine OFin.st (fun t k => XS.icmpYes X0.here hx rfl (pc0 := 86) (pc' := 93) rfl (hb hby d1_86) rfl (feq hc86).2 (by decide) (by decide) k) ?_
                      show OFin p e below _ _ s₁ (mkF m 93 #[.val (.int p0)] [])
                      refine OFin.st (fun t k => XS.iloadN X0.here hx rfl (hb hby d1_93) rfl k) ?_
                      show OFin p e below _ _ s₁ (mkF m 94 #[.val (.int p0)] [(.int p0)])
                      refine OFin.st (fun t k => XS.bipush X0.here hx rfl (hb hby d1_94) k) ?_
                      show OFin p e below _ _ s₁ (mkF m 96 #[.val (.int p0)] [(.int (10 : Int32)), (.int p0)])
                      by_cases hc96 : p0 = (10 : Int32)
                      · refine OFin.st (fun t k => XS.icmpNo X0.here hx rfl (hb hby d1_96) rfl (teq hc96).2 k) ?_
                        show OFin p e below _ _ s₁ (mkF m 99 #[.val (.int p0)] [])
                        obtain ⟨T11, X11, e11, st11⟩ := getS2 X0 hx hZ hown (host := "") (Or.inl (hw _ (List.mem_of_getElem? (i := 24) rfl))) Via.refl e0 (S_DATE.ext O0.2) (g := (mkF m 99 #[.val (.int p0)] [])) rfl (hb hby d1_99)
                        refine OFin.st st11 ?_
                        show OFin p e below _ _ T11 (mkF m 102 #[.val (.int p0)] [(.ref w_DATE)])
                        exact own_retR X11 hx Bd.returns Bd.notSynchronized rfl rfl rfl (hb hby d1_102) ⟨(by rw [F1, if_neg hc1, if_neg hc10, if_neg hc19, if_neg hc28, if_neg hc37, if_neg hc46, if_neg hc56, if_neg hc66, if_neg hc76, if_neg hc86, if_pos hc96]; try rfl), N0, e11⟩ (own_endN (by decide) (by decide))
                      · refine OFin.st (fun t k => XS.icmpYes X0.here hx rfl (pc0 := 96) (pc' := 103) rfl (hb hby d1_96) rfl (feq hc96).2 (by decide) (by decide) k) ?_
                        show OFin p e below _ _ s₁ (mkF m 103 #[.val (.int p0)] [])
                        refine OFin.st (fun t k => XS.iloadN X0.here hx rfl (hb hby d1_103) rfl k) ?_
                        show OFin p e below _ _ s₁ (mkF m 104 #[.val (.int p0)] [(.int p0)])
                        refine OFin.st (fun t k => XS.bipush X0.here hx rfl (hb hby d1_104) k) ?_
                        show OFin p e below _ _ s₁ (mkF m 106 #[.val (.int p0)] [(.int (11 : Int32)), (.int p0)])
                        by_cases hc106 : p0 = (11 : Int32)
                        · refine OFin.st (fun t k => XS.icmpNo X0.here hx rfl (hb hby d1_106) rfl (teq hc106).2 k) ?_
                          show OFin p e below _ _ s₁ (mkF m 109 #[.val (.int p0)] [])
                          obtain ⟨T12, X12, e12, st12⟩ := getS2 X0 hx hZ hown (host := "") (Or.inl (hw _ (List.mem_of_getElem? (i := 30) rfl))) Via.refl e0 (S_DATE_TIME.ext O0.2) (g := (mkF m 109 #[.val (.int p0)] [])) rfl (hb hby d1_109)
                          refine OFin.st st12 ?_
                          show OFin p e below _ _ T12 (mkF m 112 #[.val (.int p0)] [(.ref w_DATE_TIME)])
                          exact own_retR X12 hx Bd.returns Bd.notSynchronized rfl rfl rfl (hb hby d1_112) ⟨(by rw [F1, if_neg hc1, if_neg hc10, if_neg hc19, if_neg hc28, if_neg hc37, if_neg hc46, if_neg hc56, if_neg hc66, if_neg hc76, if_neg hc86, if_neg hc96, if_pos hc106]; try rfl), N0, e12⟩ (own_endN (by decide) (by decide))
                        · refine OFin.st (fun t k => XS.icmpYes X0.here hx rfl (pc0 := 106) (pc' := 113) rfl (hb hby d1_106) rfl (feq hc106).2 (by decide) (by decide) k) ?_
                          show OFin p e below _ _ s₁ (mkF m 113 #[.val (.int p0)] [])
                          refine OFin.st (fun t k => XS.iloadN X0.here hx rfl (hb hby d1_113) rfl k) ?_
                          show OFin p e below _ _ s₁ (mkF m 114 #[.val (.int p0)] [(.int p0)])
                          refine OFin.st (fun t k => XS.bipush X0.here hx rfl (hb hby d1_114) k) ?_
                          show OFin p e below _ _ s₁ (mkF m 116 #[.val (.int p0)] [(.int (12 : Int32)), (.int p0)])
                          by_cases hc116 : p0 = (12 : Int32)
                          · refine OFin.st (fun t k => XS.icmpNo X0.here hx rfl (hb hby d1_116) rfl (teq hc116).2 k) ?_
                            show OFin p e below _ _ s₁ (mkF m 119 #[.val (.int p0)] [])
                            obtain ⟨T13, X13, e13, st13⟩ := getS2 X0 hx hZ hown (host := "") (Or.inl (hw _ (List.mem_of_getElem? (i := 37) rfl))) Via.refl e0 (S_G_YEAR.ext O0.2) (g := (mkF m 119 #[.val (.int p0)] [])) rfl (hb hby d1_119)
                            refine OFin.st st13 ?_
                            show OFin p e below _ _ T13 (mkF m 122 #[.val (.int p0)] [(.ref w_G_YEAR)])
                            exact own_retR X13 hx Bd.returns Bd.notSynchronized rfl rfl rfl (hb hby d1_122) ⟨(by rw [F1, if_neg hc1, if_neg hc10, if_neg hc19, if_neg hc28, if_neg hc37, if_neg hc46, if_neg hc56, if_neg hc66, if_neg hc76, if_neg hc86, if_neg hc96, if_neg hc106, if_pos hc116]; try rfl), N0, e13⟩ (own_endN (by decide) (by decide))
                          · refine OFin.st (fun t k => XS.icmpYes X0.here hx rfl (pc0 := 116) (pc' := 123) rfl (hb hby d1_116) rfl (feq hc116).2 (by decide) (by decide) k) ?_
                            show OFin p e below _ _ s₁ (mkF m 123 #[.val (.int p0)] [])
                            refine OFin.st (fun t k => XS.iloadN X0.here hx rfl (hb hby d1_123) rfl k) ?_
                            show OFin p e below _ _ s₁ (mkF m 124 #[.val (.int p0)] [(.int p0)])
                            refine OFin.st (fun t k => XS.bipush X0.here hx rfl (hb hby d1_124) k) ?_
                            show OFin p e below _ _ s₁ (mkF m 126 #[.val (.int p0)] [(.int (13 : Int32)), (.int p0)])
                            by_cases hc126 : p0 = (13 : Int32)
                            · refine OFin.st (fun t k => XS.icmpNo X0.here hx rfl (hb hby d1_126) rfl (teq hc126).2 k) ?_
                              show OFin p e below _ _ s₁ (mkF m 129 #[.val (.int p0)] [])
                              obtain ⟨T14, X14, e14, st14⟩ := getS2 X0 hx hZ hown (host := "") (Or.inl (hw _ (List.mem_of_getElem? (i := 39) rfl))) Via.refl e0 (S_G_YEAR_MONTH.ext O0.2) (g := (mkF m 129 #[.val (.int p0)] [])) rfl (hb hby d1_129)
                              refine OFin.st st14 ?_
                              show OFin p e below _ _ T14 (mkF m 132 #[.val (.int p0)] [(.ref w_G_YEAR_MONTH)])
                              exact own_retR X14 hx Bd.returns Bd.notSynchronized rfl rfl rfl (hb hby d1_132) ⟨(by rw [F1, if_neg hc1, if_neg hc10, if_neg hc19, if_neg hc28, if_neg hc37, if_neg hc46, if_neg hc56, if_neg hc66, if_neg hc76, if_neg hc86, if_neg hc96, if_neg hc106, if_neg hc116, if_pos hc126]; try rfl), N0, e14⟩ (own_endN (by decide) (by decide))
                            · refine OFin.st (fun t k => XS.icmpYes X0.here hx rfl (pc0 := 126) (pc' := 133) rfl (hb hby d1_126) rfl (feq hc126).2 (by decide) (by decide) k) ?_
                              show OFin p e below _ _ s₁ (mkF m 133 #[.val (.int p0)] [])
                              refine OFin.st (fun t k => XS.iloadN X0.here hx rfl (hb hby d1_133) rfl k) ?_
                              show OFin p e below _ _ s₁ (mkF m 134 #[.val (.int p0)] [(.int p0)])
                              refine OFin.st (fun t k => XS.bipush X0.here hx rfl (hb hby d1_134) k) ?_
                              show OFin p e below _ _ s₁ (mkF m 136 #[.val (.int p0)] [(.int (14 : Int32)), (.int p0)])
                              by_cases hc136 : p0 = (14 : Int32)
                              · refine OFin.st (fun t k => XS.icmpNo X0.here hx rfl (hb hby d1_136) rfl (teq hc136).2 k) ?_
                                show OFin p e below _ _ s₁ (mkF m 139 #[.val (.int p0)] [])
                                obtain ⟨T15, X15, e15, st15⟩ := getS2 X0 hx hZ hown (host := "") (Or.inl (hw _ (List.mem_of_getElem? (i := 20) rfl))) Via.refl e0 (S_FLOAT.ext O0.2) (g := (mkF m 139 #[.val (.int p0)] [])) rfl (hb hby d1_139)
                                refine OFin.st st15 ?_
                                show OFin p e below _ _ T15 (mkF m 142 #[.val (.int p0)] [(.ref w_FLOAT)])
                                exact own_retR X15 hx Bd.returns Bd.notSynchronized rfl rfl rfl (hb hby d1_142) ⟨(by rw [F1, if_neg hc1, if_neg hc10, if_neg hc19, if_neg hc28, if_neg hc37, if_neg hc46, if_neg hc56, if_neg hc66, if_neg hc76, if_neg hc86, if_neg hc96, if_neg hc106, if_neg hc116, if_neg hc126, if_pos hc136]; try rfl), N0, e15⟩ (own_endN (by decide) (by decide))
                              · refine OFin.st (fun t k => XS.icmpYes X0.here hx rfl (pc0 := 136) (pc' := 143) rfl (hb hby d1_136) rfl (feq hc136).2 (by decide) (by decide) k) ?_
                                show OFin p e below _ _ s₁ (mkF m 143 #[.val (.int p0)] [])
                                obtain ⟨T16, X16, e16, st16⟩ := getS2 X0 hx hZ hown (host := "") (Or.inl (hw _ (List.mem_of_getElem? (i := 22) rfl))) Via.refl e0 (S_NON_NEGATIVE_INTEGER.ext O0.2) (g := (mkF m 143 #[.val (.int p0)] [])) rfl (hb hby d1_143)
                                refine OFin.st st16 ?_
                                show OFin p e below _ _ T16 (mkF m 146 #[.val (.int p0)] [(.ref w_NON_NEGATIVE_INTEGER)])
                                exact own_retR X16 hx Bd.returns Bd.notSynchronized rfl rfl rfl (hb hby d1_146) ⟨(by rw [F1, if_neg hc1, if_neg hc10, if_neg hc19, if_neg hc28, if_neg hc37, if_neg hc46, if_neg hc56, if_neg hc66, if_neg hc76, if_neg hc86, if_neg hc96, if_neg hc106, if_neg hc116, if_neg hc126, if_neg hc136]; try rfl), N0, e16⟩ (own_endN (by decide) (by decide))
theorem ef_rm2 (m : MethodId) (p0 : Int32) : entryFrame m #[(.int p0)] 1 = mkF m 0 #[.val (.int p0)] [] := by first | (simp [entryFrame, mkF, argsToLocals, Value.category]; done) | rfl
def F2 (p0 : Int32) : Int32 := if p0 = (0 : Int32) then (0 : Int32) else (if p0 = (1 : Int32) then (0 : Int32) else (1 : Int32))
def Q2 (p0 : Int32) (h0 : Heap) (n0 : Nat) (v : Option Value) (h : Heap) (L : List Loc) : Prop := v = some (Value.int (F2 p0)) ∧ Fr n0 L ∧ h = h0
set_option maxRecDepth 65536 in
set_option maxHeartbeats 40000000 in
theorem rm2 (l : Launch) (Z : State) (a0 : Array Value) (hw : ∀ d ∈ tables_1, d.before a0 Z = true) (ws : List Jvm.Cond) (p0 : Int32) (h0 : Heap) (n0 : Nat) (O0 : Old Z n0 h0)  :
    MetFree l (⟨"com/example/cairnlink/cairnlink/BuiltInCollapsesPinLaw", "expectedCollapses", "(I)Z"⟩ : MethodName) (head1 (Jvm.Cond.code (⟨"com/example/cairnlink/cairnlink/BuiltInCollapsesPinLaw", "expectedCollapses", "(I)Z"⟩ : MethodName) method_3_code 1 (some .boolean) :: ws) ({ frames := 0, cells := 0, slots := 0, locals := 0 } : Room)) (fun a U => a = #[(.int p0)] ∧ Z.Warmed39 U.vm ∧ U.heap = h0) (fun _ _ _ _ _ => True) (fun _ U o U' => ∃ v L, o = .returned v ∧ Q2 p0 h0 n0 v U'.heap L ∧ FrameEnd U o U' L ({ frames := 0, cells := 0, slots := 0, locals := 0 } : Room).cells ({ frames := 0, cells := 0, slots := 0, locals := 0 } : Room).slots) := by
  refine MetFree.of_bodySF (plainFor_of_name pn_com_example_cairnlink_cairnlink_BuiltInCollapsesPinLaw) hisR ?_
  intro p e s m args below meth c s₁ Bd hml0 hP hK
  obtain ⟨rfl, hZ, hh⟩ := hP
  have hx := Bd.exec
  have hby := Bd.bytes
  have hml : c.maxLocals = 1 := hml0
  have hown : s.vm.findClass "com/example/cairnlink/cairnlink/BuiltInCollapsesPinLaw" = some m.cls := findClass_of_methodNamed Bd.named
  have hnm := (name_of_methodNamed Bd.named Bd.method).1
  have X0 : Stand p l e ({ frames := 0, cells := 0, slots := 0, locals := 0 } : Room) s m #[(.int p0)] below meth c s₁ [] 0 0 := Stand.of_body Bd
  have e0 : s₁.heap = h0 := by rw [← hh, Bd.state]; rfl
  have N0 := Fr.nil n0
  show OFin p e below (fun o t L => FrameEnd s o t L ({ frames := 0, cells := 0, slots := 0, locals := 0 } : Room).cells ({ frames := 0, cells := 0, slots := 0, locals := 0 } : Room).slots) (fun v h L => Q2 p0 h0 n0 v h L) s₁ (entryFrame m #[(.int p0)] 1)
  refine OFin.cast (ef_rm2 m p0) ?_
  show OFin p e below _ _ s₁ (mkF m 0 #[.val (.int p0)] [])
  refine OFin.st (fun t k => XS.iloadN X0.here hx rfl (hb hby d2_0) rfl k) ?_
  show OFin p e below _ _ s₁ (mkF m 1 #[.val (.int p0)] [(.int p0)])
  by_cases hc1 : p0 = (0 : Int32)
  · refine OFin.st (fun t k => XS.ifNo X0.here hx rfl (hb hby d2_1) rfl ((if0 _ _).trans (teq hc1).2) k) ?_
    show OFin p e below _ _ s₁ (mkF m 4 #[.val (.int p0)] [])
    refine OFin.st (fun t k => XS.iconst X0.here hx rfl (hb hby d2_4) k) ?_
    show OFin p e below _ _ s₁ (mkF m 5 #[.val (.int p0)] [(.int (0 : Int32))])
    exact own_retN X0 hx Bd.returns Bd.notSynchronized (t := .boolean) (by simp) rfl (hb hby d2_5) ⟨(by rw [F2, if_pos hc1]; try rfl), N0, e0⟩ (own_endN (by decide) (by decide))
  · refine OFin.st (fun t k => XS.ifYes X0.here hx rfl (pc0 := 1) (pc' := 6) rfl (hb hby d2_1) rfl ((if0 _ _).trans (feq hc1).2) (by decide) (by decide) k) ?_
    show OFin p e below _ _ s₁ (mkF m 6 #[.val (.int p0)] [])
    refine OFin.st (fun t k => XS.iloadN X0.here hx rfl (hb hby d2_6) rfl k) ?_
    show OFin p e below _ _ s₁ (mkF m 7 #[.val (.int p0)] [(.int p0)])
    refine OFin.st (fun t k => XS.iconst X0.here hx rfl (hb hby d2_7) k) ?_
    show OFin p e below _ _ s₁ (mkF m 8 #[.val (.int p0)] [(.int (1 : Int32)), (.int p0)])
    by_cases hc8 : p0 = (1 : Int32)
    · refine OFin.st (fun t k => XS.icmpNo X0.here hx rfl (hb hby d2_8) rfl (teq hc8).2 k) ?_
      show OFin p e below _ _ s₁ (mkF m 11 #[.val (.int p0)] [])
      refine OFin.st (fun t k => XS.iconst X0.here hx rfl (hb hby d2_11) k) ?_
      show OFin p e below _ _ s₁ (mkF m 12 #[.val (.int p0)] [(.int (0 : Int32))])
      exact own_retN X0 hx Bd.returns Bd.notSynchronized (t := .boolean) (by simp) rfl (hb hby d2_12) ⟨(by rw [F2, if_neg hc1, if_pos hc8]; try rfl), N0, e0⟩ (own_endN (by decide) (by decide))
    · refine OFin.st (fun t k => XS.icmpYes X0.here hx rfl (pc0 := 8) (pc' := 13) rfl (hb hby d2_8) rfl (feq hc8).2 (by decide) (by decide) k) ?_
      show OFin p e below _ _ s₁ (mkF m 13 #[.val (.int p0)] [])
      refine OFin.st (fun t k => XS.iconst X0.here hx rfl (hb hby d2_13) k) ?_
      show OFin p e below _ _ s₁ (mkF m 14 #[.val (.int p0)] [(.int (1 : Int32))])
      exact own_retN X0 hx Bd.returns Bd.notSynchronized (t := .boolean) (by simp) rfl (hb hby d2_14) ⟨(by rw [F2, if_neg hc1, if_neg hc8]; try rfl), N0, e0⟩ (own_endN (by decide) (by decide))
theorem ef_rm3 (m : MethodId) (r0 : Addr) : entryFrame m #[(.ref r0)] 1 = mkF m 0 #[.val (.ref r0)] [] := by first | (simp [entryFrame, mkF, argsToLocals, Value.category]; done) | rfl
def F3 (r0 : Addr) (w_STRING : Addr) (w_NORMALIZED_STRING : Addr) : Int32 := if r0 = w_STRING then (0 : Int32) else (if r0 = w_NORMALIZED_STRING then (0 : Int32) else (1 : Int32))
def Q3 (r0 : Addr) (w_STRING : Addr) (w_NORMALIZED_STRING : Addr) (h0 : Heap) (n0 : Nat) (v : Option Value) (h : Heap) (L : List Loc) : Prop := v = some (Value.int (F3 r0 w_STRING w_NORMALIZED_STRING)) ∧ Fr n0 L ∧ h = h0
set_option maxRecDepth 65536 in
set_option maxHeartbeats 40000000 in
theorem rm3 (l : Launch) (Z : State) (a0 : Array Value) (hw : ∀ d ∈ tables_1, d.before a0 Z = true) (ws : List Jvm.Cond) (r0 : Addr) (w_STRING : Addr) (w_NORMALIZED_STRING : Addr) (h0 : Heap) (n0 : Nat) (O0 : Old Z n0 h0) (S_STRING : Sta Z Z.heap "com/example/cairnlink/cairnlink/SimpleType$BuiltIn" "STRING" "Lcom/example/cairnlink/cairnlink/SimpleType$BuiltIn;" (.ref w_STRING)) (S_NORMALIZED_STRING : Sta Z Z.heap "com/example/cairnlink/cairnlink/SimpleType$BuiltIn" "NORMALIZED_STRING" "Lcom/example/cairnlink/cairnlink/SimpleType$BuiltIn;" (.ref w_NORMALIZED_STRING)) :
    MetFree l (⟨"com/example/cairnlink/cairnlink/SimpleType$BuiltIn", "collapses", "()Z"⟩ : MethodName) (head1 (Jvm.Cond.code (⟨"com/example/cairnlink/cairnlink/SimpleType$BuiltIn", "collapses", "()Z"⟩ : MethodName) prog_89_method_8_code 1 (some .boolean) :: ws) ({ frames := 0, cells := 0, slots := 0, locals := 0 } : Room)) (fun a U => a = #[(.ref r0)] ∧ Z.Warmed39 U.vm ∧ U.heap = h0) (fun _ _ _ _ _ => True) (fun _ U o U' => ∃ v L, o = .returned v ∧ Q3 r0 w_STRING w_NORMALIZED_STRING h0 n0 v U'.heap L ∧ FrameEnd U o U' L ({ frames := 0, cells := 0, slots := 0, locals := 0 } : Room).cells ({ frames := 0, cells := 0, slots := 0, locals := 0 } : Room).slots) := by
  refine MetFree.of_bodySF (plainFor_of_name pn_com_example_cairnlink_cairnlink_SimpleType_BuiltIn) hisR ?_
  intro p e s m args below meth c s₁ Bd hml0 hP hK
  obtain ⟨rfl, hZ, hh⟩ := hP
  have hx := Bd.exec
  have hby := Bd.bytes
  have hml : c.maxLocals = 1 := hml0
  have hown : s.vm.findClass "com/example/cairnlink/cairnlink/SimpleType$BuiltIn" = some m.cls := findClass_of_methodNamed Bd.named
  have hnm := (name_of_methodNamed Bd.named Bd.method).1
  have X0 : Stand p l e ({ frames := 0, cells := 0, slots := 0, locals := 0 } : Room) s m #[(.ref r0)] below meth c s₁ [] 0 0 := Stand.of_body Bd
  have e0 : s₁.heap = h0 := by rw [← hh, Bd.state]; rfl
  have N0 := Fr.nil n0
  show OFin p e below (fun o t L => FrameEnd s o t L ({ frames := 0, cells := 0, slots := 0, locals := 0 } : Room).cells ({ frames := 0, cells := 0, slots := 0, locals := 0 } : Room).slots) (fun v h L => Q3 r0 w_STRING w_NORMALIZED_STRING h0 n0 v h L) s₁ (entryFrame m #[(.ref r0)] 1)
  refine OFin.cast (ef_rm3 m r0) ?_
  show OFin p e below _ _ s₁ (mkF m 0 #[.val (.ref r0)] [])
  refine OFin.st (fun t k => XS.aloadN X0.here hx rfl (hb hby d3_0) rfl rfl k) ?_
  show OFin p e below _ _ s₁ (mkF m 1 #[.val (.ref r0)] [(.ref r0)])
  obtain ⟨T1, X1, e1, st1⟩ := getS2 X0 hx hZ hown (host := "") (Or.inl (hw _ (List.mem_of_getElem? (i := 15) rfl))) Via.refl e0 (S_STRING.ext O0.2) (g := (mkF m 1 #[.val (.ref r0)] [(.ref r0)])) rfl (hb hby d3_1)
  refine OFin.st st1 ?_
  show OFin p e below _ _ T1 (mkF m 4 #[.val (.ref r0)] [(.ref w_STRING), (.ref r0)])
  by_cases ha4 : r0 = w_STRING
  · refine OFin.st (fun t k => Jvm.RoadKit.acmp (g := (mkF m 4 #[.val (.ref r0)] [(.ref w_STRING), (.ref r0)])) X1 hx rfl rfl rfl (pc0 := 4) (pc' := 18) (same := true) rfl (hb hby d3_4) rfl (decide_eq_true (congrArg Value.ref ha4)) (by decide) (by decide) k) ?_
    show OFin p e below _ _ T1 (mkF m 18 #[.val (.ref r0)] [])
    refine OFin.st (fun t k => XS.iconst X1.here hx rfl (hb hby d3_18) k) ?_
    show OFin p e below _ _ T1 (mkF m 19 #[.val (.ref r0)] [(.int (0 : Int32))])
    exact own_retN X1 hx Bd.returns Bd.notSynchronized (t := .boolean) (by simp) rfl (hb hby d3_19) ⟨(by rw [F3, if_pos ha4]; try rfl), N0, e1⟩ (own_endN (by decide) (by decide))
  · refine OFin.st (fun t k => Jvm.RoadKit.acmp (g := (mkF m 4 #[.val (.ref r0)] [(.ref w_STRING), (.ref r0)])) X1 hx rfl rfl rfl (pc0 := 4) (pc' := 7) (same := false) rfl (hb hby d3_4) rfl (decide_eq_false fun q => ha4 (Value.ref.inj q)) (by decide) (by decide) k) ?_
    show OFin p e below _ _ T1 (mkF m 7 #[.val (.ref r0)] [])
    refine OFin.st (fun t k => XS.aloadN X1.here hx rfl (hb hby d3_7) rfl rfl k) ?_
    show OFin p e below _ _ T1 (mkF m 8 #[.val (.ref r0)] [(.ref r0)])
    obtain ⟨T2, X2, e2, st2⟩ := getS2 X1 hx hZ hown (host := "") (Or.inl (hw _ (List.mem_of_getElem? (i := 18) rfl))) Via.refl e1 (S_NORMALIZED_STRING.ext O0.2) (g := (mkF m 8 #[.val (.ref r0)] [(.ref r0)])) rfl (hb hby d3_8)
    refine OFin.st st2 ?_
    show OFin p e below _ _ T2 (mkF m 11 #[.val (.ref r0)] [(.ref w_NORMALIZED_STRING), (.ref r0)])
    by_cases ha11 : r0 = w_NORMALIZED_STRING
    · refine OFin.st (fun t k => Jvm.RoadKit.acmp (g := (mkF m 11 #[.val (.ref r0)] [(.ref w_NORMALIZED_STRING), (.ref r0)])) X2 hx rfl rfl rfl (pc0 := 11) (pc' := 18) (same := true) rfl (hb hby d3_11) rfl (decide_eq_true (congrArg Value.ref ha11)) (by decide) (by decide) k) ?_
      show OFin p e below _ _ T2 (mkF m 18 #[.val (.ref r0)] [])
      refine OFin.st (fun t k => XS.iconst X2.here hx rfl (hb hby d3_18) k) ?_
      show OFin p e below _ _ T2 (mkF m 19 #[.val (.ref r0)] [(.int (0 : Int32))])
      exact own_retN X2 hx Bd.returns Bd.notSynchronized (t := .boolean) (by simp) rfl (hb hby d3_19) ⟨(by rw [F3, if_neg ha4, if_pos ha11]; try rfl), N0, e2⟩ (own_endN (by decide) (by decide))
    · refine OFin.st (fun t k => Jvm.RoadKit.acmp (g := (mkF m 11 #[.val (.ref r0)] [(.ref w_NORMALIZED_STRING), (.ref r0)])) X2 hx rfl rfl rfl (pc0 := 11) (pc' := 14) (same := false) rfl (hb hby d3_11) rfl (decide_eq_false fun q => ha11 (Value.ref.inj q)) (by decide) (by decide) k) ?_
      show OFin p e below _ _ T2 (mkF m 14 #[.val (.ref r0)] [])
      refine OFin.st (fun t k => XS.iconst X2.here hx rfl (hb hby d3_14) k) ?_
      show OFin p e below _ _ T2 (mkF m 15 #[.val (.ref r0)] [(.int (1 : Int32))])
      refine OFin.st (fun t k => XS.goto X2.here hx rfl (pc0 := 15) (pc' := 19) rfl (hb hby d3_15) (by decide) (by decide) k) ?_
      show OFin p e below _ _ T2 (mkF m 19 #[.val (.ref r0)] [(.int (1 : Int32))])
      exact own_retN X2 hx Bd.returns Bd.notSynchronized (t := .boolean) (by simp) rfl (hb hby d3_19) ⟨(by rw [F3, if_neg ha4, if_neg ha11]; try rfl), N0, e2⟩ (own_endN (by decide) (by decide))
theorem own_F1 {P : Addr → Prop} (p0 : Int32) (w_STRING : Addr) (w_NORMALIZED_STRING : Addr) (w_TOKEN : Addr) (w_LANGUAGE : Addr) (w_NAME : Addr) (w_NMTOKEN : Addr) (w_NCNAME : Addr) (w_ID : Addr) (w_ANY_URI : Addr) (w_BOOLEAN : Addr) (w_DATE : Addr) (w_DATE_TIME : Addr) (w_G_YEAR : Addr) (w_G_YEAR_MONTH : Addr) (w_FLOAT : Addr) (w_NON_NEGATIVE_INTEGER : Addr) (h0 : P w_STRING) (h1 : P w_NORMALIZED_STRING) (h2 : P w_TOKEN) (h3 : P w_LANGUAGE) (h4 : P w_NAME) (h5 : P w_NMTOKEN) (h6 : P w_NCNAME) (h7 : P w_ID) (h8 : P w_ANY_URI) (h9 : P w_BOOLEAN) (h10 : P w_DATE) (h11 : P w_DATE_TIME) (h12 : P w_G_YEAR) (h13 : P w_G_YEAR_MONTH) (h14 : P w_FLOAT) (h15 : P w_NON_NEGATIVE_INTEGER) : P (F1 p0 w_STRING w_NORMALIZED_STRING w_TOKEN w_LANGUAGE w_NAME w_NMTOKEN w_NCNAME w_ID w_ANY_URI w_BOOLEAN w_DATE w_DATE_TIME w_G_YEAR w_G_YEAR_MONTH w_FLOAT w_NON_NEGATIVE_INTEGER) := own_ite (P := P) h0 (own_ite (P := P) h1 (own_ite (P := P) h2 (own_ite (P := P) h3 (own_ite (P := P) h4 (own_ite (P := P) h5 (own_ite (P := P) h6 (own_ite (P := P) h7 (own_ite (P := P) h8 (own_ite (P := P) h9 (own_ite (P := P) h10 (own_ite (P := P) h11 (own_ite (P := P) h12 (own_ite (P := P) h13 (own_ite (P := P) h14 (h15)))))))))))))))
theorem own_F1_else {P : Addr → Prop} (p0 : Int32) (w_STRING : Addr) (w_NORMALIZED_STRING : Addr) (w_TOKEN : Addr) (w_LANGUAGE : Addr) (w_NAME : Addr) (w_NMTOKEN : Addr) (w_NCNAME : Addr) (w_ID : Addr) (w_ANY_URI : Addr) (w_BOOLEAN : Addr) (w_DATE : Addr) (w_DATE_TIME : Addr) (w_G_YEAR : Addr) (w_G_YEAR_MONTH : Addr) (w_FLOAT : Addr) (w_NON_NEGATIVE_INTEGER : Addr) (q0 : ¬ p0 = 0) (q1 : ¬ p0 = 1) (h2 : P w_TOKEN) (h3 : P w_LANGUAGE) (h4 : P w_NAME) (h5 : P w_NMTOKEN) (h6 : P w_NCNAME) (h7 : P w_ID) (h8 : P w_ANY_URI) (h9 : P w_BOOLEAN) (h10 : P w_DATE) (h11 : P w_DATE_TIME) (h12 : P w_G_YEAR) (h13 : P w_G_YEAR_MONTH) (h14 : P w_FLOAT) (h15 : P w_NON_NEGATIVE_INTEGER) : P (F1 p0 w_STRING w_NORMALIZED_STRING w_TOKEN w_LANGUAGE w_NAME w_NMTOKEN w_NCNAME w_ID w_ANY_URI w_BOOLEAN w_DATE w_DATE_TIME w_G_YEAR w_G_YEAR_MONTH w_FLOAT w_NON_NEGATIVE_INTEGER) := by
  rw [F1, if_neg q0, if_neg q1]
  exact own_ite (P := P) h2 (own_ite (P := P) h3 (own_ite (P := P) h4 (own_ite (P := P) h5 (own_ite (P := P) h6 (own_ite (P := P) h7 (own_ite (P := P) h8 (own_ite (P := P) h9 (own_ite (P := P) h10 (own_ite (P := P) h11 (own_ite (P := P) h12 (own_ite (P := P) h13 (own_ite (P := P) h14 (h15)))))))))))))
theorem ef_rm0 (m : MethodId) (p0 : Int32) : entryFrame m #[(.int p0)] maxLocals = mkF m 0 #[.val (.int p0), .unset, .unset, .unset] [] := by first | (simp [entryFrame, mkF, argsToLocals, Value.category, maxLocals]; done) | rfl
def F0 (p0 : Int32) (w_STRING : Addr) (w_NORMALIZED_STRING : Addr) (w_TOKEN : Addr) (w_LANGUAGE : Addr) (w_NAME : Addr) (w_NMTOKEN : Addr) (w_NCNAME : Addr) (w_ID : Addr) (w_ANY_URI : Addr) (w_BOOLEAN : Addr) (w_DATE : Addr) (w_DATE_TIME : Addr) (w_G_YEAR : Addr) (w_G_YEAR_MONTH : Addr) (w_FLOAT : Addr) (w_NON_NEGATIVE_INTEGER : Addr) : Int32 := if (F3 (F1 (p0 &&& (15 : Int32)) w_STRING w_NORMALIZED_STRING w_TOKEN w_LANGUAGE w_NAME w_NMTOKEN w_NCNAME w_ID w_ANY_URI w_BOOLEAN w_DATE w_DATE_TIME w_G_YEAR w_G_YEAR_MONTH w_FLOAT w_NON_NEGATIVE_INTEGER) w_STRING w_NORMALIZED_STRING) = (F2 (p0 &&& (15 : Int32))) then (1 : Int32) else (0 : Int32)
def Q0 (p0 : Int32) (w_STRING : Addr) (w_NORMALIZED_STRING : Addr) (w_TOKEN : Addr) (w_LANGUAGE : Addr) (w_NAME : Addr) (w_NMTOKEN : Addr) (w_NCNAME : Addr) (w_ID : Addr) (w_ANY_URI : Addr) (w_BOOLEAN : Addr) (w_DATE : Addr) (w_DATE_TIME : Addr) (w_G_YEAR : Addr) (w_G_YEAR_MONTH : Addr) (w_FLOAT : Addr) (w_NON_NEGATIVE_INTEGER : Addr) (h0 : Heap) (n0 : Nat) (v : Option Value) (h : Heap) (L : List Loc) : Prop := v = some (Value.int (F0 p0 w_STRING w_NORMALIZED_STRING w_TOKEN w_LANGUAGE w_NAME w_NMTOKEN w_NCNAME w_ID w_ANY_URI w_BOOLEAN w_DATE w_DATE_TIME w_G_YEAR w_G_YEAR_MONTH w_FLOAT w_NON_NEGATIVE_INTEGER)) ∧ Fr n0 L ∧ h = h0
set_option maxRecDepth 65536 in
set_option maxHeartbeats 40000000 in
theorem rm0 (l : Launch) (Z : State) (a0 : Array Value) (hw : ∀ d ∈ tables_1, d.before a0 Z = true) (ws : List Jvm.Cond) (p0 : Int32) (w_STRING : Addr) (w_NORMALIZED_STRING : Addr) (w_TOKEN : Addr) (w_LANGUAGE : Addr) (w_NAME : Addr) (w_NMTOKEN : Addr) (w_NCNAME : Addr) (w_ID : Addr) (w_ANY_URI : Addr) (w_BOOLEAN : Addr) (w_DATE : Addr) (w_DATE_TIME : Addr) (w_G_YEAR : Addr) (w_G_YEAR_MONTH : Addr) (w_FLOAT : Addr) (w_NON_NEGATIVE_INTEGER : Addr) (h0 : Heap) (n0 : Nat) (O0 : Old Z n0 h0) (E_w_STRING : Exa Z h0 w_STRING "com/example/cairnlink/cairnlink/SimpleType$BuiltIn") (E_w_NORMALIZED_STRING : Exa Z h0 w_NORMALIZED_STRING "com/example/cairnlink/cairnlink/SimpleType$BuiltIn") (E_w_TOKEN : Exa Z h0 w_TOKEN "com/example/cairnlink/cairnlink/SimpleType$BuiltIn") (E_w_LANGUAGE : Exa Z h0 w_LANGUAGE "com/example/cairnlink/cairnlink/SimpleType$BuiltIn") (E_w_NAME : Exa Z h0 w_NAME "com/example/cairnlink/cairnlink/SimpleType$BuiltIn") (E_w_NMTOKEN : Exa Z h0 w_NMTOKEN "com/example/cairnlink/cairnlink/SimpleType$BuiltIn") (E_w_NCNAME : Exa Z h0 w_NCNAME "com/example/cairnlink/cairnlink/SimpleType$BuiltIn") (E_w_ID : Exa Z h0 w_ID "com/example/cairnlink/cairnlink/SimpleType$BuiltIn") (E_w_ANY_URI : Exa Z h0 w_ANY_URI "com/example/cairnlink/cairnlink/SimpleType$BuiltIn") (E_w_BOOLEAN : Exa Z h0 w_BOOLEAN "com/example/cairnlink/cairnlink/SimpleType$BuiltIn") (E_w_DATE : Exa Z h0 w_DATE "com/example/cairnlink/cairnlink/SimpleType$BuiltIn") (E_w_DATE_TIME : Exa Z h0 w_DATE_TIME "com/example/cairnlink/cairnlink/SimpleType$BuiltIn") (E_w_G_YEAR : Exa Z h0 w_G_YEAR "com/example/cairnlink/cairnlink/SimpleType$BuiltIn") (E_w_G_YEAR_MONTH : Exa Z h0 w_G_YEAR_MONTH "com/example/cairnlink/cairnlink/SimpleType$BuiltIn") (E_w_FLOAT : Exa Z h0 w_FLOAT "com/example/cairnlink/cairnlink/SimpleType$BuiltIn") (E_w_NON_NEGATIVE_INTEGER : Exa Z h0 w_NON_NEGATIVE_INTEGER "com/example/cairnlink/cairnlink/SimpleType$BuiltIn") (S_STRING : Sta Z Z.heap "com/example/cairnlink/cairnlink/SimpleType$BuiltIn" "STRING" "Lcom/example/cairnlink/cairnlink/SimpleType$BuiltIn;" (.ref w_STRING)) (S_NORMALIZED_STRING : Sta Z Z.heap "com/example/cairnlink/cairnlink/SimpleType$BuiltIn" "NORMALIZED_STRING" "Lcom/example/cairnlink/cairnlink/SimpleType$BuiltIn;" (.ref w_NORMALIZED_STRING)) (S_TOKEN : Sta Z Z.heap "com/example/cairnlink/cairnlink/SimpleType$BuiltIn" "TOKEN" "Lcom/example/cairnlink/cairnlink/SimpleType$BuiltIn;" (.ref w_TOKEN)) (S_LANGUAGE : Sta Z Z.heap "com/example/cairnlink/cairnlink/SimpleType$BuiltIn" "LANGUAGE" "Lcom/example/cairnlink/cairnlink/SimpleType$BuiltIn;" (.ref w_LANGUAGE)) (S_NAME : Sta Z Z.heap "com/example/cairnlink/cairnlink/SimpleType$BuiltIn" "NAME" "Lcom/example/cairnlink/cairnlink/SimpleType$BuiltIn;" (.ref w_NAME)) (S_NMTOKEN : Sta Z Z.heap "com/example/cairnlink/cairnlink/SimpleType$BuiltIn" "NMTOKEN" "Lcom/example/cairnlink/cairnlink/SimpleType$BuiltIn;" (.ref w_NMTOKEN)) (S_NCNAME : Sta Z Z.heap "com/example/cairnlink/cairnlink/SimpleType$BuiltIn" "NCNAME" "Lcom/example/cairnlink/cairnlink/SimpleType$BuiltIn;" (.ref w_NCNAME)) (S_ID : Sta Z Z.heap "com/example/cairnlink/cairnlink/SimpleType$BuiltIn" "ID" "Lcom/example/cairnlink/cairnlink/SimpleType$BuiltIn;" (.ref w_ID)) (S_ANY_URI : Sta Z Z.heap "com/example/cairnlink/cairnlink/SimpleType$BuiltIn" "ANY_URI" "Lcom/example/cairnlink/cairnlink/SimpleType$BuiltIn;" (.ref w_ANY_URI)) (S_BOOLEAN : Sta Z Z.heap "com/example/cairnlink/cairnlink/SimpleType$BuiltIn" "BOOLEAN" "Lcom/example/cairnlink/cairnlink/SimpleType$BuiltIn;" (.ref w_BOOLEAN)) (S_DATE : Sta Z Z.heap "com/example/cairnlink/cairnlink/SimpleType$BuiltIn" "DATE" "Lcom/example/cairnlink/cairnlink/SimpleType$BuiltIn;" (.ref w_DATE)) (S_DATE_TIME : Sta Z Z.heap "com/example/cairnlink/cairnlink/SimpleType$BuiltIn" "DATE_TIME" "Lcom/example/cairnlink/cairnlink/SimpleType$BuiltIn;" (.ref w_DATE_TIME)) (S_G_YEAR : Sta Z Z.heap "com/example/cairnlink/cairnlink/SimpleType$BuiltIn" "G_YEAR" "Lcom/example/cairnlink/cairnlink/SimpleType$BuiltIn;" (.ref w_G_YEAR)) (S_G_YEAR_MONTH : Sta Z Z.heap "com/example/cairnlink/cairnlink/SimpleType$BuiltIn" "G_YEAR_MONTH" "Lcom/example/cairnlink/cairnlink/SimpleType$BuiltIn;" (.ref w_G_YEAR_MONTH)) (S_FLOAT : Sta Z Z.heap "com/example/cairnlink/cairnlink/SimpleType$BuiltIn" "FLOAT" "Lcom/example/cairnlink/cairnlink/SimpleType$BuiltIn;" (.ref w_FLOAT)) (S_NON_NEGATIVE_INTEGER : Sta Z Z.heap "com/example/cairnlink/cairnlink/SimpleType$BuiltIn" "NON_NEGATIVE_INTEGER" "Lcom/example/cairnlink/cairnlink/SimpleType$BuiltIn;" (.ref w_NON_NEGATIVE_INTEGER)) :
    MetFree l x (head1 (Jvm.Cond.code x code maxLocals ret :: ws) room_1) (fun a U => a = #[(.int p0)] ∧ Z.Warmed39 U.vm ∧ U.heap = h0) (fun _ _ _ _ _ => True) (fun _ U o U' => ∃ v L, o = .returned v ∧ Q0 p0 w_STRING w_NORMALIZED_STRING w_TOKEN w_LANGUAGE w_NAME w_NMTOKEN w_NCNAME w_ID w_ANY_URI w_BOOLEAN w_DATE w_DATE_TIME w_G_YEAR w_G_YEAR_MONTH w_FLOAT w_NON_NEGATIVE_INTEGER h0 n0 v U'.heap L ∧ FrameEnd U o U' L room_1.cells room_1.slots) := by
  refine MetFree.of_bodySF (plainFor_of_name pn_com_example_cairnlink_cairnlink_BuiltInCollapsesPinLaw) hisR ?_
  intro p e s m args below meth c s₁ Bd hml0 hP hK
  obtain ⟨rfl, hZ, hh⟩ := hP
  have hx := Bd.exec
  have hby := Bd.bytes
  have hml : c.maxLocals = 4 := hml0
  have hown : s.vm.findClass "com/example/cairnlink/cairnlink/BuiltInCollapsesPinLaw" = some m.cls := findClass_of_methodNamed Bd.named
  have hnm := (name_of_methodNamed Bd.named Bd.method).1
  have X0 : Stand p l e room_1 s m #[(.int p0)] below meth c s₁ [] 0 0 := Stand.of_body Bd
  have e0 : s₁.heap = h0 := by rw [← hh, Bd.state]; rfl
  have N0 := Fr.nil n0
  show OFin p e below (fun o t L => FrameEnd s o t L room_1.cells room_1.slots) (fun v h L => Q0 p0 w_STRING w_NORMALIZED_STRING w_TOKEN w_LANGUAGE w_NAME w_NMTOKEN w_NCNAME w_ID w_ANY_URI w_BOOLEAN w_DATE w_DATE_TIME w_G_YEAR w_G_YEAR_MONTH w_FLOAT w_NON_NEGATIVE_INTEGER h0 n0 v h L) s₁ (entryFrame m #[(.int p0)] maxLocals)
  refine OFin.cast (ef_rm0 m p0) ?_
  show OFin p e below _ _ s₁ (mkF m 0 #[.val (.int p0), .unset, .unset, .unset] [])
  refine OFin.st (fun t k => XS.iloadN X0.here hx rfl (hb hby at_0) rfl k) ?_
  show OFin p e below _ _ s₁ (mkF m 1 #[.val (.int p0), .unset, .unset, .unset] [(.int p0)])
  refine OFin.st (fun t k => XS.bipush X0.here hx rfl (hb hby at_1) k) ?_
  show OFin p e below _ _ s₁ (mkF m 3 #[.val (.int p0), .unset, .unset, .unset] [(.int (15 : Int32)), (.int p0)])
  refine OFin.st (fun t k => XS.iand X0.here hx rfl (hb hby at_3) rfl k) ?_
  show OFin p e below _ _ s₁ (mkF m 4 #[.val (.int p0), .unset, .unset, .unset] [(.int (p0 &&& (15 : Int32)))])
  refine OFin.st (fun t k => XS.istoreN X0.here hx rfl (hb hby at_4) rfl (l' := #[.val (.int p0), .val (.int (p0 &&& (15 : Int32))), .unset, .unset]) rfl k) ?_
  show OFin p e below _ _ s₁ (mkF m 5 #[.val (.int p0), .val (.int (p0 &&& (15 : Int32))), .unset, .unset] [])
  refine OFin.st (fun t k => XS.iloadN X0.here hx rfl (hb hby at_5) rfl k) ?_
  show OFin p e below _ _ s₁ (mkF m 6 #[.val (.int p0), .val (.int (p0 &&& (15 : Int32))), .unset, .unset] [(.int (p0 &&& (15 : Int32)))])
  obtain ⟨_, _, ⟨T1, L1, k1, n1⟩, -, X1, ⟨Lc1, hQ1, l1, y1, z1⟩, st1⟩ := Jvm.LawKit.callS X0 hx (y := (⟨"com/example/cairnlink/cairnlink/BuiltInCollapsesPinLaw", "pick", "(I)Lcom/example/cairnlink/cairnlink/SimpleType$BuiltIn;"⟩ : MethodName)) hown (mvT hZ (hw _ (List.mem_of_getElem? (i := 0) rfl))) (mvT hZ (hw _ (List.mem_of_getElem? (i := 1) rfl))) (mvT hZ (hw _ (List.mem_of_getElem? (i := 2) rfl))) (mvT hZ (hw _ (List.mem_of_getElem? (i := 3) rfl))) (by decide) (backOf (W := 0) (rm1 l Z a0 hw [] (p0 &&& (15 : Int32)) w_STRING w_NORMALIZED_STRING w_TOKEN w_LANGUAGE w_NAME w_NMTOKEN w_NCNAME w_ID w_ANY_URI w_BOOLEAN w_DATE w_DATE_TIME w_G_YEAR w_G_YEAR_MONTH w_FLOAT w_NON_NEGATIVE_INTEGER h0 n0 O0 S_STRING S_NORMALIZED_STRING S_TOKEN S_LANGUAGE S_NAME S_NMTOKEN S_NCNAME S_ID S_ANY_URI S_BOOLEAN S_DATE S_DATE_TIME S_G_YEAR S_G_YEAR_MONTH S_FLOAT S_NON_NEGATIVE_INTEGER) hZ (hw _ (List.mem_of_getElem? (i := 3) rfl)) (hw _ (List.mem_of_getElem? (i := 2) rfl)) (by decide) (by decide)) (g := (mkF m 6 #[.val (.int p0), .val (.int (p0 &&& (15 : Int32))), .unset, .unset] [(.int (p0 &&& (15 : Int32)))])) rfl (by rw [hml]; rfl) (argsL := [(.int (p0 &&& (15 : Int32)))]) (rest := []) (lenOf pd_1 rfl) rfl (by show 2 * 0 + _ ≤ _; exact Nat.le_of_eq rfl) (hb hby at_6) (fun _ _ => ⟨rfl, e0, (by decide : 0 + 0 ≤ _), (by decide : 0 + 0 ≤ _)⟩)
  dsimp only [Pt.U, Pt.locs, Pt.cells, Pt.slots] at X1 l1 y1 z1 st1 hQ1
  subst l1 y1 z1
  obtain ⟨rfl, N1q, e1⟩ := hQ1
  have N1 := Fr.app N0 N1q
  refine OFin.st st1 ?_
  show OFin p e below _ _ T1 (mkF m 9 #[.val (.int p0), .val (.int (p0 &&& (15 : Int32))), .unset, .unset] [(.ref (F1 (p0 &&& (15 : Int32)) w_STRING w_NORMALIZED_STRING w_TOKEN w_LANGUAGE w_NAME w_NMTOKEN w_NCNAME w_ID w_ANY_URI w_BOOLEAN w_DATE w_DATE_TIME w_G_YEAR w_G_YEAR_MONTH w_FLOAT w_NON_NEGATIVE_INTEGER))])
  refine OFin.st (fun t k => XS.astoreN X1.here hx rfl (hb hby at_9) rfl rfl (l' := #[.val (.int p0), .val (.int (p0 &&& (15 : Int32))), .val (.ref (F1 (p0 &&& (15 : Int32)) w_STRING w_NORMALIZED_STRING w_TOKEN w_LANGUAGE w_NAME w_NMTOKEN w_NCNAME w_ID w_ANY_URI w_BOOLEAN w_DATE w_DATE_TIME w_G_YEAR w_G_YEAR_MONTH w_FLOAT w_NON_NEGATIVE_INTEGER)), .unset]) rfl k) ?_
  show OFin p e below _ _ T1 (mkF m 10 #[.val (.int p0), .val (.int (p0 &&& (15 : Int32))), .val (.ref (F1 (p0 &&& (15 : Int32)) w_STRING w_NORMALIZED_STRING w_TOKEN w_LANGUAGE w_NAME w_NMTOKEN w_NCNAME w_ID w_ANY_URI w_BOOLEAN w_DATE w_DATE_TIME w_G_YEAR w_G_YEAR_MONTH w_FLOAT w_NON_NEGATIVE_INTEGER)), .unset] [])
  refine OFin.st (fun t k => XS.iloadN X1.here hx rfl (hb hby at_10) rfl k) ?_
  show OFin p e below _ _ T1 (mkF m 11 #[.val (.int p0), .val (.int (p0 &&& (15 : Int32))), .val (.ref (F1 (p0 &&& (15 : Int32)) w_STRING w_NORMALIZED_STRING w_TOKEN w_LANGUAGE w_NAME w_NMTOKEN w_NCNAME w_ID w_ANY_URI w_BOOLEAN w_DATE w_DATE_TIME w_G_YEAR w_G_YEAR_MONTH w_FLOAT w_NON_NEGATIVE_INTEGER)), .unset] [(.int (p0 &&& (15 : Int32)))])
  obtain ⟨_, _, ⟨T2, L2, k2, n2⟩, -, X2, ⟨Lc2, hQ2, l2, y2, z2⟩, st2⟩ := Jvm.LawKit.callS X1 hx (y := (⟨"com/example/cairnlink/cairnlink/BuiltInCollapsesPinLaw", "expectedCollapses", "(I)Z"⟩ : MethodName)) hown (mvT hZ (hw _ (List.mem_of_getElem? (i := 7) rfl))) (mvT hZ (hw _ (List.mem_of_getElem? (i := 8) rfl))) (mvT hZ (hw _ (List.mem_of_getElem? (i := 2) rfl))) (mvT hZ (hw _ (List.mem_of_getElem? (i := 9) rfl))) (by decide) (backOf (W := 0) (rm2 l Z a0 hw [] (p0 &&& (15 : Int32)) h0 n0 O0 ) hZ (hw _ (List.mem_of_getElem? (i := 9) rfl)) (hw _ (List.mem_of_getElem? (i := 2) rfl)) (by decide) (by decide)) (g := (mkF m 11 #[.val (.int p0), .val (.int (p0 &&& (15 : Int32))), .val (.ref (F1 (p0 &&& (15 : Int32)) w_STRING w_NORMALIZED_STRING w_TOKEN w_LANGUAGE w_NAME w_NMTOKEN w_NCNAME w_ID w_ANY_URI w_BOOLEAN w_DATE w_DATE_TIME w_G_YEAR w_G_YEAR_MONTH w_FLOAT w_NON_NEGATIVE_INTEGER)), .unset] [(.int (p0 &&& (15 : Int32)))])) rfl (by rw [hml]; rfl) (argsL := [(.int (p0 &&& (15 : Int32)))]) (rest := []) (lenOf pd_2 rfl) rfl (by show 2 * 0 + _ ≤ _; exact Nat.le_of_eq rfl) (hb hby at_11) (fun _ _ => ⟨rfl, e1, (by decide : 0 + 0 ≤ _), (by decide : 0 + 0 ≤ _)⟩)
  dsimp only [Pt.U, Pt.locs, Pt.cells, Pt.slots] at X2 l2 y2 z2 st2 hQ2
  subst l2 y2 z2
  obtain ⟨rfl, N2q, e2⟩ := hQ2
  have N2 := Fr.app N1 N2q
  refine OFin.st st2 ?_
  show OFin p e below _ _ T2 (mkF m 14 #[.val (.int p0), .val (.int (p0 &&& (15 : Int32))), .val (.ref (F1 (p0 &&& (15 : Int32)) w_STRING w_NORMALIZED_STRING w_TOKEN w_LANGUAGE w_NAME w_NMTOKEN w_NCNAME w_ID w_ANY_URI w_BOOLEAN w_DATE w_DATE_TIME w_G_YEAR w_G_YEAR_MONTH w_FLOAT w_NON_NEGATIVE_INTEGER)), .unset] [(.int (F2 (p0 &&& (15 : Int32))))])
  refine OFin.st (fun t k => XS.istoreN X2.here hx rfl (hb hby at_14) rfl (l' := #[.val (.int p0), .val (.int (p0 &&& (15 : Int32))), .val (.ref (F1 (p0 &&& (15 : Int32)) w_STRING w_NORMALIZED_STRING w_TOKEN w_LANGUAGE w_NAME w_NMTOKEN w_NCNAME w_ID w_ANY_URI w_BOOLEAN w_DATE w_DATE_TIME w_G_YEAR w_G_YEAR_MONTH w_FLOAT w_NON_NEGATIVE_INTEGER)), .val (.int (F2 (p0 &&& (15 : Int32))))]) rfl k) ?_
  show OFin p e below _ _ T2 (mkF m 15 #[.val (.int p0), .val (.int (p0 &&& (15 : Int32))), .val (.ref (F1 (p0 &&& (15 : Int32)) w_STRING w_NORMALIZED_STRING w_TOKEN w_LANGUAGE w_NAME w_NMTOKEN w_NCNAME w_ID w_ANY_URI w_BOOLEAN w_DATE w_DATE_TIME w_G_YEAR w_G_YEAR_MONTH w_FLOAT w_NON_NEGATIVE_INTEGER)), .val (.int (F2 (p0 &&& (15 : Int32))))] [])
  refine OFin.st (fun t k => XS.aloadN X2.here hx rfl (hb hby at_15) rfl rfl k) ?_
  show OFin p e below _ _ T2 (mkF m 16 #[.val (.int p0), .val (.int (p0 &&& (15 : Int32))), .val (.ref (F1 (p0 &&& (15 : Int32)) w_STRING w_NORMALIZED_STRING w_TOKEN w_LANGUAGE w_NAME w_NMTOKEN w_NCNAME w_ID w_ANY_URI w_BOOLEAN w_DATE w_DATE_TIME w_G_YEAR w_G_YEAR_MONTH w_FLOAT w_NON_NEGATIVE_INTEGER)), .val (.int (F2 (p0 &&& (15 : Int32))))] [(.ref (F1 (p0 &&& (15 : Int32)) w_STRING w_NORMALIZED_STRING w_TOKEN w_LANGUAGE w_NAME w_NMTOKEN w_NCNAME w_ID w_ANY_URI w_BOOLEAN w_DATE w_DATE_TIME w_G_YEAR w_G_YEAR_MONTH w_FLOAT w_NON_NEGATIVE_INTEGER))])
  obtain ⟨cq3, kq3, q3a, q3b, q3c⟩ := isOf hZ e2 (own_F1 (P := fun a => Exa Z h0 a "com/example/cairnlink/cairnlink/SimpleType$BuiltIn") _ w_STRING w_NORMALIZED_STRING w_TOKEN w_LANGUAGE w_NAME w_NMTOKEN w_NCNAME w_ID w_ANY_URI w_BOOLEAN w_DATE w_DATE_TIME w_G_YEAR w_G_YEAR_MONTH w_FLOAT w_NON_NEGATIVE_INTEGER E_w_STRING E_w_NORMALIZED_STRING E_w_TOKEN E_w_LANGUAGE E_w_NAME E_w_NMTOKEN E_w_NCNAME E_w_ID E_w_ANY_URI E_w_BOOLEAN E_w_DATE E_w_DATE_TIME E_w_G_YEAR E_w_G_YEAR_MONTH E_w_FLOAT E_w_NON_NEGATIVE_INTEGER)
  obtain ⟨_, _, ⟨T3, L3, k3, n3⟩, -, X3, ⟨Lc3, hQ3, l3, y3, z3⟩, st3⟩ := X2.virtualBack hx (y := (⟨"com/example/cairnlink/cairnlink/SimpleType$BuiltIn", "collapses", "()Z"⟩ : MethodName)) (z := (⟨"com/example/cairnlink/cairnlink/SimpleType$BuiltIn", "collapses", "()Z"⟩ : MethodName)) hown (mvT hZ (hw _ (List.mem_of_getElem? (i := 10) rfl))) (mvT hZ (hw _ (List.mem_of_getElem? (i := 11) rfl))) (notFace_of_selects (args := #[]) (mvT hZ (hw _ (List.mem_of_getElem? (i := 13) rfl)))) (mvT hZ (hw _ (List.mem_of_getElem? (i := 13) rfl))) (mvT hZ (hw _ (List.mem_of_getElem? (i := 12) rfl))) (by decide) (backOf (W := 0) (rm3 l Z a0 hw [] (F1 (p0 &&& (15 : Int32)) w_STRING w_NORMALIZED_STRING w_TOKEN w_LANGUAGE w_NAME w_NMTOKEN w_NCNAME w_ID w_ANY_URI w_BOOLEAN w_DATE w_DATE_TIME w_G_YEAR w_G_YEAR_MONTH w_FLOAT w_NON_NEGATIVE_INTEGER) w_STRING w_NORMALIZED_STRING h0 n0 O0 S_STRING S_NORMALIZED_STRING) hZ (hw _ (List.mem_of_getElem? (i := 14) rfl)) (hw _ (List.mem_of_getElem? (i := 5) rfl)) (by decide) (by decide)) q3a q3c (g := (mkF m 16 #[.val (.int p0), .val (.int (p0 &&& (15 : Int32))), .val (.ref (F1 (p0 &&& (15 : Int32)) w_STRING w_NORMALIZED_STRING w_TOKEN w_LANGUAGE w_NAME w_NMTOKEN w_NCNAME w_ID w_ANY_URI w_BOOLEAN w_DATE w_DATE_TIME w_G_YEAR w_G_YEAR_MONTH w_FLOAT w_NON_NEGATIVE_INTEGER)), .val (.int (F2 (p0 &&& (15 : Int32))))] [(.ref (F1 (p0 &&& (15 : Int32)) w_STRING w_NORMALIZED_STRING w_TOKEN w_LANGUAGE w_NAME w_NMTOKEN w_NCNAME w_ID w_ANY_URI w_BOOLEAN w_DATE w_DATE_TIME w_G_YEAR w_G_YEAR_MONTH w_FLOAT w_NON_NEGATIVE_INTEGER))])) rfl (by rw [hml]; rfl) (Steps.refl _) (argsL := []) (rest := []) (lenOf pd_0 rfl) rfl (by show 2 * 0 + _ ≤ _; exact Nat.le_of_eq rfl) (hb hby at_16) (fun _ _ => ⟨rfl, e2, (by decide : 0 + 0 ≤ _), (by decide : 0 + 0 ≤ _)⟩)
  dsimp only [Pt.U, Pt.locs, Pt.cells, Pt.slots] at X3 l3 y3 z3 st3 hQ3
  subst l3 y3 z3
  obtain ⟨rfl, N3q, e3⟩ := hQ3
  have N3 := Fr.app N2 N3q
  refine OFin.tr st3 ?_
  show OFin p e below _ _ T3 (mkF m 19 #[.val (.int p0), .val (.int (p0 &&& (15 : Int32))), .val (.ref (F1 (p0 &&& (15 : Int32)) w_STRING w_NORMALIZED_STRING w_TOKEN w_LANGUAGE w_NAME w_NMTOKEN w_NCNAME w_ID w_ANY_URI w_BOOLEAN w_DATE w_DATE_TIME w_G_YEAR w_G_YEAR_MONTH w_FLOAT w_NON_NEGATIVE_INTEGER)), .val (.int (F2 (p0 &&& (15 : Int32))))] [(.int (F3 (F1 (p0 &&& (15 : Int32)) w_STRING w_NORMALIZED_STRING w_TOKEN w_LANGUAGE w_NAME w_NMTOKEN w_NCNAME w_ID w_ANY_URI w_BOOLEAN w_DATE w_DATE_TIME w_G_YEAR w_G_YEAR_MONTH w_FLOAT w_NON_NEGATIVE_INTEGER) w_STRING w_NORMALIZED_STRING))])
  refine OFin.st (fun t k => XS.iloadN X3.here hx rfl (hb hby at_19) rfl k) ?_
  show OFin p e below _ _ T3 (mkF m 20 #[.val (.int p0), .val (.int (p0 &&& (15 : Int32))), .val (.ref (F1 (p0 &&& (15 : Int32)) w_STRING w_NORMALIZED_STRING w_TOKEN w_LANGUAGE w_NAME w_NMTOKEN w_NCNAME w_ID w_ANY_URI w_BOOLEAN w_DATE w_DATE_TIME w_G_YEAR w_G_YEAR_MONTH w_FLOAT w_NON_NEGATIVE_INTEGER)), .val (.int (F2 (p0 &&& (15 : Int32))))] [(.int (F2 (p0 &&& (15 : Int32)))), (.int (F3 (F1 (p0 &&& (15 : Int32)) w_STRING w_NORMALIZED_STRING w_TOKEN w_LANGUAGE w_NAME w_NMTOKEN w_NCNAME w_ID w_ANY_URI w_BOOLEAN w_DATE w_DATE_TIME w_G_YEAR w_G_YEAR_MONTH w_FLOAT w_NON_NEGATIVE_INTEGER) w_STRING w_NORMALIZED_STRING))])
  by_cases hc20 : (F3 (F1 (p0 &&& (15 : Int32)) w_STRING w_NORMALIZED_STRING w_TOKEN w_LANGUAGE w_NAME w_NMTOKEN w_NCNAME w_ID w_ANY_URI w_BOOLEAN w_DATE w_DATE_TIME w_G_YEAR w_G_YEAR_MONTH w_FLOAT w_NON_NEGATIVE_INTEGER) w_STRING w_NORMALIZED_STRING) = (F2 (p0 &&& (15 : Int32)))
  · refine OFin.st (fun t k => XS.icmpNo X3.here hx rfl (hb hby at_20) rfl (teq hc20).2 k) ?_
    show OFin p e below _ _ T3 (mkF m 23 #[.val (.int p0), .val (.int (p0 &&& (15 : Int32))), .val (.ref (F1 (p0 &&& (15 : Int32)) w_STRING w_NORMALIZED_STRING w_TOKEN w_LANGUAGE w_NAME w_NMTOKEN w_NCNAME w_ID w_ANY_URI w_BOOLEAN w_DATE w_DATE_TIME w_G_YEAR w_G_YEAR_MONTH w_FLOAT w_NON_NEGATIVE_INTEGER)), .val (.int (F2 (p0 &&& (15 : Int32))))] [])
    refine OFin.st (fun t k => XS.iconst X3.here hx rfl (hb hby at_23) k) ?_
    show OFin p e below _ _ T3 (mkF m 24 #[.val (.int p0), .val (.int (p0 &&& (15 : Int32))), .val (.ref (F1 (p0 &&& (15 : Int32)) w_STRING w_NORMALIZED_STRING w_TOKEN w_LANGUAGE w_NAME w_NMTOKEN w_NCNAME w_ID w_ANY_URI w_BOOLEAN w_DATE w_DATE_TIME w_G_YEAR w_G_YEAR_MONTH w_FLOAT w_NON_NEGATIVE_INTEGER)), .val (.int (F2 (p0 &&& (15 : Int32))))] [(.int (1 : Int32))])
    refine OFin.st (fun t k => XS.goto X3.here hx rfl (pc0 := 24) (pc' := 28) rfl (hb hby at_24) (by decide) (by decide) k) ?_
    show OFin p e below _ _ T3 (mkF m 28 #[.val (.int p0), .val (.int (p0 &&& (15 : Int32))), .val (.ref (F1 (p0 &&& (15 : Int32)) w_STRING w_NORMALIZED_STRING w_TOKEN w_LANGUAGE w_NAME w_NMTOKEN w_NCNAME w_ID w_ANY_URI w_BOOLEAN w_DATE w_DATE_TIME w_G_YEAR w_G_YEAR_MONTH w_FLOAT w_NON_NEGATIVE_INTEGER)), .val (.int (F2 (p0 &&& (15 : Int32))))] [(.int (1 : Int32))])
    exact own_retN X3 hx Bd.returns Bd.notSynchronized (t := .boolean) (by simp) rfl (hb hby at_28) ⟨(by rw [F0, if_pos hc20]; try rfl), N3, e3⟩ (own_endN (by decide) (by decide))
  · refine OFin.st (fun t k => XS.icmpYes X3.here hx rfl (pc0 := 20) (pc' := 27) rfl (hb hby at_20) rfl (feq hc20).2 (by decide) (by decide) k) ?_
    show OFin p e below _ _ T3 (mkF m 27 #[.val (.int p0), .val (.int (p0 &&& (15 : Int32))), .val (.ref (F1 (p0 &&& (15 : Int32)) w_STRING w_NORMALIZED_STRING w_TOKEN w_LANGUAGE w_NAME w_NMTOKEN w_NCNAME w_ID w_ANY_URI w_BOOLEAN w_DATE w_DATE_TIME w_G_YEAR w_G_YEAR_MONTH w_FLOAT w_NON_NEGATIVE_INTEGER)), .val (.int (F2 (p0 &&& (15 : Int32))))] [])
    refine OFin.st (fun t k => XS.iconst X3.here hx rfl (hb hby at_27) k) ?_
    show OFin p e below _ _ T3 (mkF m 28 #[.val (.int p0), .val (.int (p0 &&& (15 : Int32))), .val (.ref (F1 (p0 &&& (15 : Int32)) w_STRING w_NORMALIZED_STRING w_TOKEN w_LANGUAGE w_NAME w_NMTOKEN w_NCNAME w_ID w_ANY_URI w_BOOLEAN w_DATE w_DATE_TIME w_G_YEAR w_G_YEAR_MONTH w_FLOAT w_NON_NEGATIVE_INTEGER)), .val (.int (F2 (p0 &&& (15 : Int32))))] [(.int (0 : Int32))])
    exact own_retN X3 hx Bd.returns Bd.notSynchronized (t := .boolean) (by simp) rfl (hb hby at_28) ⟨(by rw [F0, if_neg hc20]; try rfl), N3, e3⟩ (own_endN (by decide) (by decide))
theorem law_one (p0 : Int32) (w_STRING : Addr) (w_NORMALIZED_STRING : Addr) (w_TOKEN : Addr) (w_LANGUAGE : Addr) (w_NAME : Addr) (w_NMTOKEN : Addr) (w_NCNAME : Addr) (w_ID : Addr) (w_ANY_URI : Addr) (w_BOOLEAN : Addr) (w_DATE : Addr) (w_DATE_TIME : Addr) (w_G_YEAR : Addr) (w_G_YEAR_MONTH : Addr) (w_FLOAT : Addr) (w_NON_NEGATIVE_INTEGER : Addr) (h : ∀ w ∈ [w_TOKEN, w_LANGUAGE, w_NAME, w_NMTOKEN, w_NCNAME, w_ID, w_ANY_URI, w_BOOLEAN, w_DATE, w_DATE_TIME, w_G_YEAR, w_G_YEAR_MONTH, w_FLOAT, w_NON_NEGATIVE_INTEGER], w ≠ w_STRING ∧ w ≠ w_NORMALIZED_STRING) : F0 p0 w_STRING w_NORMALIZED_STRING w_TOKEN w_LANGUAGE w_NAME w_NMTOKEN w_NCNAME w_ID w_ANY_URI w_BOOLEAN w_DATE w_DATE_TIME w_G_YEAR w_G_YEAR_MONTH w_FLOAT w_NON_NEGATIVE_INTEGER = 1 := by
  have e : F3 (F1 (p0 &&& 15) w_STRING w_NORMALIZED_STRING w_TOKEN w_LANGUAGE w_NAME w_NMTOKEN w_NCNAME w_ID w_ANY_URI w_BOOLEAN w_DATE w_DATE_TIME w_G_YEAR w_G_YEAR_MONTH w_FLOAT w_NON_NEGATIVE_INTEGER) w_STRING w_NORMALIZED_STRING = F2 (p0 &&& 15) := by
    by_cases q0 : p0 &&& 15 = 0
    · rw [q0, F1, if_pos rfl, F3, if_pos rfl, F2, if_pos rfl]
    · by_cases q1 : p0 &&& 15 = 1
      · rw [q1, F1, if_neg (by decide), if_pos rfl]
        unfold F3 F2
        by_cases q : w_NORMALIZED_STRING = w_STRING
        · rw [if_pos q, if_neg (by decide), if_pos rfl]
        · rw [if_neg q, if_pos rfl, if_neg (by decide), if_pos rfl]
      · have q := own_F1_else (P := fun w => w ≠ w_STRING ∧ w ≠ w_NORMALIZED_STRING) (p0 &&& 15) w_STRING w_NORMALIZED_STRING w_TOKEN w_LANGUAGE w_NAME w_NMTOKEN w_NCNAME w_ID w_ANY_URI w_BOOLEAN w_DATE w_DATE_TIME w_G_YEAR w_G_YEAR_MONTH w_FLOAT w_NON_NEGATIVE_INTEGER q0 q1 (h _ (by simp)) (h _ (by simp)) (h _ (by simp)) (h _ (by simp)) (h _ (by simp)) (h _ (by simp)) (h _ (by simp)) (h _ (by simp)) (h _ (by simp)) (h _ (by simp)) (h _ (by simp)) (h _ (by simp)) (h _ (by simp)) (h _ (by simp))
        rw [F3, if_neg q.1, if_neg q.2, F2, if_neg q0, if_neg q1]
  rw [F0, if_pos e]
set_option maxRecDepth 65536 in
set_option maxHeartbeats 40000000 in
theorem comes_1 {Post : Tables → Env → Array Value → State → Outcome → State → Prop} (hpost : ∀ tb e args s v u, (limb_1_1.after args s (.returned v) u = true ∧ limb_1_2.after args s (.returned v) u = true ∧ True) → FrameEnd s (.returned v) u (Jvm.fieldLocs frame_1_writes args s ++ Jvm.arrayLocs frame_1_arrays args s ++ Jvm.staticLocs frame_1_statics s) 0 0 → Post tb e args s (.returned v) u) :
    ArmFor flags0 classFile x code maxLocals ret World_1 tables_1 room_1 Calls_1 rest_1 Pre_1 Post := by
  intro l hfl _ _ p e ha hc hk s m args below hf hA hF happ hP
  obtain ⟨hcalls, hrest, hpre⟩ := hP
  obtain ⟨-, -, -, hnamed, -, -, -, hat⟩ := (Spec.applies_iff hf).mp happ
  obtain ⟨hg, hn⟩ := and_e (Cond.before_iff.mp (show (Jvm.Cond.and given_1 narrow_1).before args s = true from hpre))
  obtain ⟨g1a, g1b⟩ := and_e hg
  obtain ⟨c1a, c1b⟩ := and_e hn
  obtain ⟨c2a, c2b⟩ := and_e c1b
  obtain ⟨c3a, c3b⟩ := and_e c2b
  obtain ⟨c4a, c4b⟩ := and_e c3b
  obtain ⟨c5a, c5b⟩ := and_e c4b
  obtain ⟨c6a, c6b⟩ := and_e c5b
  obtain ⟨c7a, c7b⟩ := and_e c6b
  obtain ⟨c8a, c8b⟩ := and_e c7b
  obtain ⟨c9a, c9b⟩ := and_e c8b
  obtain ⟨c10a, c10b⟩ := and_e c9b
  obtain ⟨c11a, c11b⟩ := and_e c10b
  obtain ⟨c12a, c12b⟩ := and_e c11b
  obtain ⟨c13a, c13b⟩ := and_e c12b
  obtain ⟨c14a, c14b⟩ := and_e c13b
  obtain ⟨c15a, c15b⟩ := and_e c14b
  obtain ⟨c16a, c16b⟩ := and_e c15b
  obtain ⟨c17a, c17b⟩ := and_e c16b
  obtain ⟨c18a, c18b⟩ := and_e c17b
  obtain ⟨c19a, c19b⟩ := and_e c18b
  obtain ⟨c20a, c20b⟩ := and_e c19b
  obtain ⟨c21a, c21b⟩ := and_e c20b
  obtain ⟨c22a, c22b⟩ := and_e c21b
  obtain ⟨c23a, c23b⟩ := and_e c22b
  obtain ⟨c24a, c24b⟩ := and_e c23b
  obtain ⟨c25a, c25b⟩ := and_e c24b
  obtain ⟨c26a, c26b⟩ := and_e c25b
  obtain ⟨c27a, c27b⟩ := and_e c26b
  obtain ⟨c28a, c28b⟩ := and_e c27b
  obtain ⟨c29a, c29b⟩ := and_e c28b
  obtain ⟨c30a, c30b⟩ := and_e c29b
  obtain ⟨c31a, c31b⟩ := and_e c30b
  obtain ⟨w0, rfl⟩ : ∃ w0 : Value, args = #[w0] := by
    have hs : args.size = 1 := by simpa [Cond.value, given_1] using g1a
    obtain ⟨L⟩ := args
    match L, hs with
    | [w0], _ => exact ⟨w0, rfl⟩
  have hw := fun d (hd : d ∈ tables_1) => atoms_spec (ws := Jvm.Cond.code x code maxLocals ret :: tables_1) hat d (List.mem_cons_of_mem _ hd)
  have hfit : Fit s := fun {y c} hc i hi => by
    obtain ⟨ha, rfl⟩ := Array.getElem?_eq_some_iff.mp hc
    have q := List.all_eq_true.mp ((Array.all_eq_true_iff_forall_mem.mp hF) _ (Array.getElem_mem ha)) i (List.mem_range.mpr hi)
    simpa [Array.getElem?_eq_getElem hi] using q
  obtain ⟨i0, ei0⟩ := is_v g1b
  obtain rfl : w0 = (.int i0) := Option.some.inj ei0
  obtain ⟨w_STRING, ev_STRING⟩ := exa_v c1a
  have E_w_STRING := Exa.start ev_STRING c1a
  have S_STRING := Sta.start ev_STRING (Or.inr ⟨(hw _ (List.mem_of_getElem? (i := 5) rfl)), (hw _ (List.mem_of_getElem? (i := 6) rfl))⟩)
  obtain ⟨w_LANGUAGE, ev_LANGUAGE⟩ := exa_v c2a
  have E_w_LANGUAGE := Exa.start ev_LANGUAGE c2a
  have S_LANGUAGE := Sta.start ev_LANGUAGE (Or.inr ⟨(hw _ (List.mem_of_getElem? (i := 5) rfl)), (hw _ (List.mem_of_getElem? (i := 17) rfl))⟩)
  obtain ⟨w_NORMALIZED_STRING, ev_NORMALIZED_STRING⟩ := exa_v c5a
  have E_w_NORMALIZED_STRING := Exa.start ev_NORMALIZED_STRING c5a
  have S_NORMALIZED_STRING := Sta.start ev_NORMALIZED_STRING (Or.inr ⟨(hw _ (List.mem_of_getElem? (i := 5) rfl)), (hw _ (List.mem_of_getElem? (i := 19) rfl))⟩)
  obtain ⟨w_FLOAT, ev_FLOAT⟩ := exa_v c7a
  have E_w_FLOAT := Exa.start ev_FLOAT c7a
  have S_FLOAT := Sta.start ev_FLOAT (Or.inr ⟨(hw _ (List.mem_of_getElem? (i := 5) rfl)), (hw _ (List.mem_of_getElem? (i := 21) rfl))⟩)
  obtain ⟨w_NON_NEGATIVE_INTEGER, ev_NON_NEGATIVE_INTEGER⟩ := exa_v c9a
  have E_w_NON_NEGATIVE_INTEGER := Exa.start ev_NON_NEGATIVE_INTEGER c9a
  have S_NON_NEGATIVE_INTEGER := Sta.start ev_NON_NEGATIVE_INTEGER (Or.inr ⟨(hw _ (List.mem_of_getElem? (i := 5) rfl)), (hw _ (List.mem_of_getElem? (i := 23) rfl))⟩)
  obtain ⟨w_DATE, ev_DATE⟩ := exa_v c11a
  have E_w_DATE := Exa.start ev_DATE c11a
  have S_DATE := Sta.start ev_DATE (Or.inr ⟨(hw _ (List.mem_of_getElem? (i := 5) rfl)), (hw _ (List.mem_of_getElem? (i := 25) rfl))⟩)
  obtain ⟨w_ID, ev_ID⟩ := exa_v c13a
  have E_w_ID := Exa.start ev_ID c13a
  have S_ID := Sta.start ev_ID (Or.inr ⟨(hw _ (List.mem_of_getElem? (i := 5) rfl)), (hw _ (List.mem_of_getElem? (i := 27) rfl))⟩)
  obtain ⟨w_TOKEN, ev_TOKEN⟩ := exa_v c15a
  have E_w_TOKEN := Exa.start ev_TOKEN c15a
  have S_TOKEN := Sta.start ev_TOKEN (Or.inr ⟨(hw _ (List.mem_of_getElem? (i := 5) rfl)), (hw _ (List.mem_of_getElem? (i := 29) rfl))⟩)
  obtain ⟨w_DATE_TIME, ev_DATE_TIME⟩ := exa_v c17a
  have E_w_DATE_TIME := Exa.start ev_DATE_TIME c17a
  have S_DATE_TIME := Sta.start ev_DATE_TIME (Or.inr ⟨(hw _ (List.mem_of_getElem? (i := 5) rfl)), (hw _ (List.mem_of_getElem? (i := 31) rfl))⟩)
  obtain ⟨w_ANY_URI, ev_ANY_URI⟩ := exa_v c19a
  have E_w_ANY_URI := Exa.start ev_ANY_URI c19a
  have S_ANY_URI := Sta.start ev_ANY_URI (Or.inr ⟨(hw _ (List.mem_of_getElem? (i := 5) rfl)), (hw _ (List.mem_of_getElem? (i := 33) rfl))⟩)
  obtain ⟨w_NAME, ev_NAME⟩ := exa_v c21a
  have E_w_NAME := Exa.start ev_NAME c21a
  have S_NAME := Sta.start ev_NAME (Or.inr ⟨(hw _ (List.mem_of_getElem? (i := 5) rfl)), (hw _ (List.mem_of_getElem? (i := 36) rfl))⟩)
  obtain ⟨w_G_YEAR, ev_G_YEAR⟩ := exa_v c23a
  have E_w_G_YEAR := Exa.start ev_G_YEAR c23a
  have S_G_YEAR := Sta.start ev_G_YEAR (Or.inr ⟨(hw _ (List.mem_of_getElem? (i := 5) rfl)), (hw _ (List.mem_of_getElem? (i := 38) rfl))⟩)
  obtain ⟨w_G_YEAR_MONTH, ev_G_YEAR_MONTH⟩ := exa_v c25a
  have E_w_G_YEAR_MONTH := Exa.start ev_G_YEAR_MONTH c25a
  have S_G_YEAR_MONTH := Sta.start ev_G_YEAR_MONTH (Or.inr ⟨(hw _ (List.mem_of_getElem? (i := 5) rfl)), (hw _ (List.mem_of_getElem? (i := 40) rfl))⟩)
  obtain ⟨w_NCNAME, ev_NCNAME⟩ := exa_v c27a
  have E_w_NCNAME := Exa.start ev_NCNAME c27a
  have S_NCNAME := Sta.start ev_NCNAME (Or.inr ⟨(hw _ (List.mem_of_getElem? (i := 5) rfl)), (hw _ (List.mem_of_getElem? (i := 42) rfl))⟩)
  obtain ⟨w_BOOLEAN, ev_BOOLEAN⟩ := exa_v c29a
  have E_w_BOOLEAN := Exa.start ev_BOOLEAN c29a
  have S_BOOLEAN := Sta.start ev_BOOLEAN (Or.inr ⟨(hw _ (List.mem_of_getElem? (i := 5) rfl)), (hw _ (List.mem_of_getElem? (i := 44) rfl))⟩)
  obtain ⟨w_NMTOKEN, ev_NMTOKEN⟩ := exa_v c31a
  have E_w_NMTOKEN := Exa.start ev_NMTOKEN c31a
  have S_NMTOKEN := Sta.start ev_NMTOKEN (Or.inr ⟨(hw _ (List.mem_of_getElem? (i := 5) rfl)), (hw _ (List.mem_of_getElem? (i := 46) rfl))⟩)
  have F_ordinal_w_LANGUAGE := own_fldI ev_LANGUAGE c3a
  have F_ordinal_w_STRING := own_fldI ev_STRING c4a
  have F_ordinal_w_NORMALIZED_STRING := own_fldI ev_NORMALIZED_STRING c6a
  have F_ordinal_w_FLOAT := own_fldI ev_FLOAT c8a
  have F_ordinal_w_NON_NEGATIVE_INTEGER := own_fldI ev_NON_NEGATIVE_INTEGER c10a
  have F_ordinal_w_DATE := own_fldI ev_DATE c12a
  have F_ordinal_w_ID := own_fldI ev_ID c14a
  have F_ordinal_w_TOKEN := own_fldI ev_TOKEN c16a
  have F_ordinal_w_DATE_TIME := own_fldI ev_DATE_TIME c18a
  have F_ordinal_w_ANY_URI := own_fldI ev_ANY_URI c20a
  have F_ordinal_w_NAME := own_fldI ev_NAME c22a
  have F_ordinal_w_G_YEAR := own_fldI ev_G_YEAR c24a
  have F_ordinal_w_G_YEAR_MONTH := own_fldI ev_G_YEAR_MONTH c26a
  have F_ordinal_w_NCNAME := own_fldI ev_NCNAME c28a
  have F_ordinal_w_BOOLEAN := own_fldI ev_BOOLEAN c30a
  have F_ordinal_w_NMTOKEN := own_fldI ev_NMTOKEN c31b
  obtain ⟨n, o, h1, h2, h3, _, L, rfl, ⟨rfl, N, -⟩, hq⟩ := rm0 l s _ hw tables_1 i0 w_STRING w_NORMALIZED_STRING w_TOKEN w_LANGUAGE w_NAME w_NMTOKEN w_NCNAME w_ID w_ANY_URI w_BOOLEAN w_DATE w_DATE_TIME w_G_YEAR w_G_YEAR_MONTH w_FLOAT w_NON_NEGATIVE_INTEGER s.heap s.heap.size (Old.start s) E_w_STRING E_w_NORMALIZED_STRING E_w_TOKEN E_w_LANGUAGE E_w_NAME E_w_NMTOKEN E_w_NCNAME E_w_ID E_w_ANY_URI E_w_BOOLEAN E_w_DATE E_w_DATE_TIME E_w_G_YEAR E_w_G_YEAR_MONTH E_w_FLOAT E_w_NON_NEGATIVE_INTEGER S_STRING S_NORMALIZED_STRING S_TOKEN S_LANGUAGE S_NAME S_NMTOKEN S_NCNAME S_ID S_ANY_URI S_BOOLEAN S_DATE S_DATE_TIME S_G_YEAR S_G_YEAR_MONTH S_FLOAT S_NON_NEGATIVE_INTEGER p e ha hc hk s m _ below hf ((Spec.applies_iff_loose hf).mp happ).1 ⟨rfl, State.Warmed39.refl s, rfl⟩ trivial
  have hone : F0 i0 w_STRING w_NORMALIZED_STRING w_TOKEN w_LANGUAGE w_NAME w_NMTOKEN w_NCNAME w_ID w_ANY_URI w_BOOLEAN w_DATE w_DATE_TIME w_G_YEAR w_G_YEAR_MONTH w_FLOAT w_NON_NEGATIVE_INTEGER = 1 := law_one i0 w_STRING w_NORMALIZED_STRING w_TOKEN w_LANGUAGE w_NAME w_NMTOKEN w_NCNAME w_ID w_ANY_URI w_BOOLEAN w_DATE w_DATE_TIME w_G_YEAR w_G_YEAR_MONTH w_FLOAT w_NON_NEGATIVE_INTEGER (by simp only [List.mem_cons, List.not_mem_nil, or_false]; rintro w (rfl | rfl | rfl | rfl | rfl | rfl | rfl | rfl | rfl | rfl | rfl | rfl | rfl | rfl) <;> first | exact ⟨F_ordinal_w_TOKEN.ne F_ordinal_w_STRING (by decide), F_ordinal_w_TOKEN.ne F_ordinal_w_NORMALIZED_STRING (by decide)⟩ | exact ⟨F_ordinal_w_LANGUAGE.ne F_ordinal_w_STRING (by decide), F_ordinal_w_LANGUAGE.ne F_ordinal_w_NORMALIZED_STRING (by decide)⟩ | exact ⟨F_ordinal_w_NAME.ne F_ordinal_w_STRING (by decide), F_ordinal_w_NAME.ne F_ordinal_w_NORMALIZED_STRING (by decide)⟩ | exact ⟨F_ordinal_w_NMTOKEN.ne F_ordinal_w_STRING (by decide), F_ordinal_w_NMTOKEN.ne F_ordinal_w_NORMALIZED_STRING (by decide)⟩ | exact ⟨F_ordinal_w_NCNAME.ne F_ordinal_w_STRING (by decide), F_ordinal_w_NCNAME.ne F_ordinal_w_NORMALIZED_STRING (by decide)⟩ | exact ⟨F_ordinal_w_ID.ne F_ordinal_w_STRING (by decide), F_ordinal_w_ID.ne F_ordinal_w_NORMALIZED_STRING (by decide)⟩ | exact ⟨F_ordinal_w_ANY_URI.ne F_ordinal_w_STRING (by decide), F_ordinal_w_ANY_URI.ne F_ordinal_w_NORMALIZED_STRING (by decide)⟩ | exact ⟨F_ordinal_w_BOOLEAN.ne F_ordinal_w_STRING (by decide), F_ordinal_w_BOOLEAN.ne F_ordinal_w_NORMALIZED_STRING (by decide)⟩ | exact ⟨F_ordinal_w_DATE.ne F_ordinal_w_STRING (by decide), F_ordinal_w_DATE.ne F_ordinal_w_NORMALIZED_STRING (by decide)⟩ | exact ⟨F_ordinal_w_DATE_TIME.ne F_ordinal_w_STRING (by decide), F_ordinal_w_DATE_TIME.ne F_ordinal_w_NORMALIZED_STRING (by decide)⟩ | exact ⟨F_ordinal_w_G_YEAR.ne F_ordinal_w_STRING (by decide), F_ordinal_w_G_YEAR.ne F_ordinal_w_NORMALIZED_STRING (by decide)⟩ | exact ⟨F_ordinal_w_G_YEAR_MONTH.ne F_ordinal_w_STRING (by decide), F_ordinal_w_G_YEAR_MONTH.ne F_ordinal_w_NORMALIZED_STRING (by decide)⟩ | exact ⟨F_ordinal_w_FLOAT.ne F_ordinal_w_STRING (by decide), F_ordinal_w_FLOAT.ne F_ordinal_w_NORMALIZED_STRING (by decide)⟩ | exact ⟨F_ordinal_w_NON_NEGATIVE_INTEGER.ne F_ordinal_w_STRING (by decide), F_ordinal_w_NON_NEGATIVE_INTEGER.ne F_ordinal_w_NORMALIZED_STRING (by decide)⟩)
  refine ⟨n, _, h1, h2, h3, hpost _ _ _ _ _ _ ⟨Cond.after_iff.mpr rfl, Cond.after_iff.mpr (eq_i res_at (Term.int_eval (1)) (congrArg Value.int hone)), trivial⟩ ⟨hq.1, hq.2.1, (hq.2.2.sift fun y hy => Or.inr (N y hy)).mono (by decide) (by decide)⟩⟩
theorem main_1_1 : Claimed_1_1 := comes_1 fun _ _ _ _ _ _ h hF => ⟨h.1, hF⟩
theorem main_1_2 : Claimed_1_2 := comes_1 fun _ _ _ _ _ _ h hF => ⟨h.2.1, hF⟩
end Jvm.Pilot.@@N@@
namespace Jvm.Pilot.@@N@@
open Jvm Jvm.ClassFile Sem Op Lib Jvm.Free Jvm.Stand Jvm.Pilot.@@N@@.Jvm.D
/-! MADE BY PROGRAM (witnessworld.py) out of the Statement's table words and the real class files: 13 classes; the members and pool entries that the words name. The judged class is class 1, her method 1. -/
namespace start1
open Jvm.ClassFile
def u (s : String) : CpInfo := .utf8 (stringToUtf16 s)
/-- a pool by its gaps: so many unusable entries, then the entry; so many at the end -/
def gap : Nat → List CpInfo → List CpInfo
  | 0, r => r
  | n + 1, r => .unusable :: gap n r
def poolList (es : List (Nat × CpInfo)) (last : Nat) : List CpInfo := es.foldr (fun e r => gap e.1 (e.2 :: r)) (gap last [])
def pool (es : List (Nat × CpInfo)) (last : Nat) : Array CpInfo := ⟨poolList es last⟩
def fileOf (pool : Array CpInfo) (this : Nat) (attrs : Array Attribute := #[]) (ms : Array MethodInfo := #[]) (fl : Nat := 33) (sup : Nat := 0) (ifs : Array Nat := #[]) (fds : Array FieldInfo := #[]) : ClassFile where
  minorVersion := 0
  majorVersion := 65
  constantPool := pool
  accessFlags := fl
  thisClass := this
  superClass := sup
  interfaces := ifs
  fields := fds
  methods := ms
  attributes := attrs
def plain (name : String) (sup : Option ClassId) : Class where
  name := name
  kind := .ordinary
  loader := none
  accessFlags := 33
  super := sup
  interfaces := #[]
  cf := none
  fields := #[]
  methods := #[]
  instanceTypes := #[]
  staticTypes := #[]
  resolved := #[]
  callSites := []
  init := .initialized
  statics := none
  mirror := none

def pool0 : Array CpInfo := pool [(5, u "<init>"), (0, u "()V"), (1, .class_ 10), (1, u "java/lang/Object")] 113

def k0m0 : Method := { name := "<init>", desc := "()V", sig := { parameters := [], returnType := none }, accessFlags := 1, code := none }
/-- java/lang/Object -/
def k0 : Class := { plain "java/lang/Object" none with
  accessFlags := 33
  interfaces := #[]
  cf := some (fileOf pool0 8 #[] #[{ accessFlags := 1, nameIndex := 5, descriptorIndex := 6, attributes := #[] }] 33 0 #[] #[])
  fields := #[]
  methods := #[k0m0]
  instanceTypes := #[]
  staticTypes := #[]
  resolved := Array.replicate 124 none
  statics := none }

def pool1 : Array CpInfo := pool [(2, .class_ 4), (1, u "java/lang/Object"), (0, u "<init>"), (0, u "()V"), (0, .methodref 8 9), (0, .class_ 10), (0, .nameAndType 11 12), (0, u "com/example/cairnlink/cairnlink/BuiltInCollapsesPinLaw"), (0, u "pick"), (0, u "(I)Lcom/example/cairnlink/cairnlink/SimpleType$BuiltIn;"), (0, .methodref 8 14), (0, .nameAndType 15 16), (0, u "expectedCollapses"), (0, u "(I)Z"), (0, .methodref 18 19), (0, .class_ 20), (0, .nameAndType 21 22), (0, u "com/example/cairnlink/cairnlink/SimpleType$BuiltIn"), (0, u "collapses"), (0, u "()Z"), (0, .fieldref 18 24), (0, .nameAndType 25 26), (0, u "STRING"), (0, u "Lcom/example/cairnlink/cairnlink/SimpleType$BuiltIn;"), (0, .fieldref 18 28), (0, .nameAndType 29 26), (0, u "NORMALIZED_STRING"), (0, .fieldref 18 31), (0, .nameAndType 32 26), (0, u "TOKEN"), (0, .fieldref 18 34), (0, .nameAndType 35 26), (0, u "LANGUAGE"), (0, .fieldref 18 37), (0, .nameAndType 38 26), (0, u "NAME"), (0, .fieldref 18 40), (0, .nameAndType 41 26), (0, u "NMTOKEN"), (0, .fieldref 18 43), (0, .nameAndType 44 26), (0, u "NCNAME"), (0, .fieldref 18 46), (0, .nameAndType 47 26), (0, u "ID"), (0, .fieldref 18 49), (0, .nameAndType 50 26), (0, u "ANY_URI"), (0, .fieldref 18 52), (0, .nameAndType 53 26), (0, u "BOOLEAN"), (0, .fieldref 18 55), (0, .nameAndType 56 26), (0, u "DATE"), (0, .fieldref 18 58), (0, .nameAndType 59 26), (0, u "DATE_TIME"), (0, .fieldref 18 61), (0, .nameAndType 62 26), (0, u "G_YEAR"), (0, .fieldref 18 64), (0, .nameAndType 65 26), (0, u "G_YEAR_MONTH"), (0, .fieldref 18 67), (0, .nameAndType 68 26), (0, u "FLOAT"), (0, .fieldref 18 70), (0, .nameAndType 71 26), (0, u "NON_NEGATIVE_INTEGER"), (2, u "law")] 7

def k1m0 : Method := { name := "<init>", desc := "()V", sig := { parameters := [], returnType := none }, accessFlags := 1, code := none }
def k1c1 : Code := { maxStack := 2, maxLocals := 4, code := code, exceptionTable := #[], attributes := #[] }
def k1m1 : Method := { name := "law", desc := "(I)Z", sig := { parameters := [.int], returnType := some .boolean }, accessFlags := 9, code := some k1c1 }
def k1c2 : Code := { maxStack := 2, maxLocals := 1, code := method_3_code, exceptionTable := #[], attributes := #[] }
def k1m2 : Method := { name := "expectedCollapses", desc := "(I)Z", sig := { parameters := [.int], returnType := some .boolean }, accessFlags := 10, code := some k1c2 }
def k1c3 : Code := { maxStack := 2, maxLocals := 1, code := method_4_code, exceptionTable := #[], attributes := #[] }
def k1m3 : Method := { name := "pick", desc := "(I)Lcom/example/cairnlink/cairnlink/SimpleType$BuiltIn;", sig := { parameters := [.int], returnType := some (.object "com/example/cairnlink/cairnlink/SimpleType$BuiltIn") }, accessFlags := 10, code := some k1c3 }
/-- com/example/cairnlink/cairnlink/BuiltInCollapsesPinLaw -/
def k1 : Class := { plain "com/example/cairnlink/cairnlink/BuiltInCollapsesPinLaw" (some 0) with
  accessFlags := 49
  interfaces := #[]
  cf := some (fileOf pool1 8 #[] #[{ accessFlags := 1, nameIndex := 5, descriptorIndex := 6, attributes := #[] }, { accessFlags := 9, nameIndex := 74, descriptorIndex := 16, attributes := #[] }, { accessFlags := 10, nameIndex := 15, descriptorIndex := 16, attributes := #[] }, { accessFlags := 10, nameIndex := 11, descriptorIndex := 12, attributes := #[] }] 49 2 #[] #[])
  fields := #[]
  methods := #[k1m0, k1m1, k1m2, k1m3]
  instanceTypes := #[]
  staticTypes := #[]
  resolved := Array.replicate 82 none
  statics := none }

def pool2 : Array CpInfo := pool [(1, .class_ 2), (0, u "java/lang/constant/Constable"), (0, .class_ 4), (0, u "java/lang/Object")] 6

/-- java/lang/constant/Constable -/
def k2 : Class := { plain "java/lang/constant/Constable" (some 0) with
  accessFlags := 1537
  interfaces := #[]
  cf := some (fileOf pool2 1 #[] #[] 1537 3 #[] #[])
  fields := #[]
  methods := #[]
  instanceTypes := #[]
  staticTypes := #[]
  resolved := Array.replicate 11 none
  statics := none }

def pool3 : Array CpInfo := pool [(1, .class_ 2), (0, u "java/lang/Comparable"), (0, .class_ 4), (0, u "java/lang/Object")] 7

/-- java/lang/Comparable -/
def k3 : Class := { plain "java/lang/Comparable" (some 0) with
  accessFlags := 1537
  interfaces := #[]
  cf := some (fileOf pool3 1 #[] #[] 1537 3 #[] #[])
  fields := #[]
  methods := #[]
  instanceTypes := #[]
  staticTypes := #[]
  resolved := Array.replicate 12 none
  statics := none }

def pool4 : Array CpInfo := pool [(1, .class_ 2), (0, u "java/io/Serializable"), (0, .class_ 4), (0, u "java/lang/Object")] 2

/-- java/io/Serializable -/
def k4 : Class := { plain "java/io/Serializable" (some 0) with
  accessFlags := 1537
  interfaces := #[]
  cf := some (fileOf pool4 1 #[] #[] 1537 3 #[] #[])
  fields := #[]
  methods := #[]
  instanceTypes := #[]
  staticTypes := #[]
  resolved := Array.replicate 7 none
  statics := none }

def pool5 : Array CpInfo := pool [(2, .class_ 4), (1, u "java/lang/Enum"), (0, u "name"), (0, u "Ljava/lang/String;"), (2, u "ordinal"), (0, u "I"), (1, .class_ 14), (1, u "java/lang/Object"), (4, u "hash"), (86, .class_ 108), (1, u "java/lang/Enum$EnumDesc"), (2, .class_ 112), (0, u "java/lang/constant/Constable"), (0, .class_ 114), (0, u "java/lang/Comparable"), (0, .class_ 116), (0, u "java/io/Serializable")] 87

/-- java/lang/Enum -/
def k5 : Class := { plain "java/lang/Enum" (some 0) with
  accessFlags := 1057
  interfaces := #[2, 3, 4]
  cf := some (fileOf pool5 2 #[.nestMembers #[106]] #[] 1057 12 #[111, 113, 115] #[{ accessFlags := 18, nameIndex := 5, descriptorIndex := 6, attributes := #[] }, { accessFlags := 18, nameIndex := 9, descriptorIndex := 10, attributes := #[] }, { accessFlags := 2, nameIndex := 19, descriptorIndex := 10, attributes := #[] }])
  fields := #[{ name := "name", type := (.object "java/lang/String"), accessFlags := 18, slot := 0, constantValue := 0 }, { name := "ordinal", type := .int, accessFlags := 18, slot := 1, constantValue := 0 }, { name := "hash", type := .int, accessFlags := 2, slot := 2, constantValue := 0 }]
  methods := #[]
  instanceTypes := #[(.object "java/lang/String"), .int, .int]
  staticTypes := #[]
  resolved := Array.replicate 204 none
  statics := none }

def pool6 : Array CpInfo := pool [(2, .class_ 4), (1, u "com/example/cairnlink/cairnlink/SimpleType"), (2, .class_ 8), (0, u "com/example/cairnlink/cairnlink/SimpleType$Union"), (57, .class_ 67), (0, u "java/lang/Object"), (15, .class_ 84), (0, u "com/example/cairnlink/cairnlink/SimpleType$Restriction"), (0, .class_ 86), (0, u "com/example/cairnlink/cairnlink/SimpleType$BuiltIn"), (0, .class_ 88), (0, u "com/example/cairnlink/cairnlink/SimpleType$Defect")] 6

/-- com/example/cairnlink/cairnlink/SimpleType -/
def k6 : Class := { plain "com/example/cairnlink/cairnlink/SimpleType" (some 0) with
  accessFlags := 1536
  interfaces := #[]
  cf := some (fileOf pool6 2 #[.nestMembers #[7, 83, 85, 87]] #[] 1536 66 #[] #[])
  fields := #[]
  methods := #[]
  instanceTypes := #[]
  staticTypes := #[]
  resolved := Array.replicate 95 none
  statics := none }

def pool7 : Array CpInfo := pool [(1, .class_ 2), (0, u "com/example/cairnlink/cairnlink/SimpleType$BuiltIn"), (0, .fieldref 1 4), (0, .nameAndType 5 6), (0, u "STRING"), (0, u "Lcom/example/cairnlink/cairnlink/SimpleType$BuiltIn;"), (0, .fieldref 1 8), (0, .nameAndType 9 6), (0, u "NORMALIZED_STRING"), (2, u "TOKEN"), (2, u "LANGUAGE"), (2, u "NAME"), (2, u "NMTOKEN"), (2, u "NCNAME"), (2, u "ID"), (2, u "ANY_URI"), (2, u "BOOLEAN"), (2, u "DATE"), (2, u "DATE_TIME"), (2, u "G_YEAR"), (2, u "G_YEAR_MONTH"), (2, u "FLOAT"), (2, u "NON_NEGATIVE_INTEGER"), (2, u "$VALUES"), (0, u "[Lcom/example/cairnlink/cairnlink/SimpleType$BuiltIn;"), (6, .class_ 64), (1, u "java/lang/Enum"), (11, u "localName"), (0, u "Ljava/lang/String;"), (2, u "base"), (25, .class_ 108), (1, u "com/example/cairnlink/cairnlink/SimpleType"), (20, u "BOOLEAN_FORMS"), (0, u "Ljava/util/Set;"), (11, u "FLOAT_FORM"), (0, u "Lcom/example/cairnlink/cairnlink/ValuePattern;"), (7, u "INTEGER_FORM"), (2, u "LANGUAGE_FORM"), (98, u "()Z"), (91, u "PREFIX"), (12, u "collapses")] 35

def k7c0 : Code := { maxStack := 2, maxLocals := 1, code := prog_89_method_8_code, exceptionTable := #[], attributes := #[] }
def k7m0 : Method := { name := "collapses", desc := "()Z", sig := { parameters := [], returnType := some .boolean }, accessFlags := 1, code := some k7c0 }
/-- com/example/cairnlink/cairnlink/SimpleType$BuiltIn -/
def k7 : Class := { plain "com/example/cairnlink/cairnlink/SimpleType$BuiltIn" (some 5) with
  accessFlags := 16433
  interfaces := #[6]
  cf := some (fileOf pool7 1 #[.nestHost 106] #[{ accessFlags := 1, nameIndex := 358, descriptorIndex := 253, attributes := #[] }] 16433 62 #[106] #[{ accessFlags := 16409, nameIndex := 5, descriptorIndex := 6, attributes := #[] }, { accessFlags := 16409, nameIndex := 9, descriptorIndex := 6, attributes := #[] }, { accessFlags := 16409, nameIndex := 12, descriptorIndex := 6, attributes := #[] }, { accessFlags := 16409, nameIndex := 15, descriptorIndex := 6, attributes := #[] }, { accessFlags := 16409, nameIndex := 18, descriptorIndex := 6, attributes := #[] }, { accessFlags := 16409, nameIndex := 21, descriptorIndex := 6, attributes := #[] }, { accessFlags := 16409, nameIndex := 24, descriptorIndex := 6, attributes := #[] }, { accessFlags := 16409, nameIndex := 27, descriptorIndex := 6, attributes := #[] }, { accessFlags := 16409, nameIndex := 30, descriptorIndex := 6, attributes := #[] }, { accessFlags := 16409, nameIndex := 33, descriptorIndex := 6, attributes := #[] }, { accessFlags := 16409, nameIndex := 36, descriptorIndex := 6, attributes := #[] }, { accessFlags := 16409, nameIndex := 39, descriptorIndex := 6, attributes := #[] }, { accessFlags := 16409, nameIndex := 42, descriptorIndex := 6, attributes := #[] }, { accessFlags := 16409, nameIndex := 45, descriptorIndex := 6, attributes := #[] }, { accessFlags := 16409, nameIndex := 48, descriptorIndex := 6, attributes := #[] }, { accessFlags := 16409, nameIndex := 51, descriptorIndex := 6, attributes := #[] }, { accessFlags := 24, nameIndex := 345, descriptorIndex := 77, attributes := #[] }, { accessFlags := 26, nameIndex := 129, descriptorIndex := 130, attributes := #[] }, { accessFlags := 26, nameIndex := 142, descriptorIndex := 143, attributes := #[] }, { accessFlags := 26, nameIndex := 151, descriptorIndex := 143, attributes := #[] }, { accessFlags := 26, nameIndex := 154, descriptorIndex := 143, attributes := #[] }, { accessFlags := 18, nameIndex := 76, descriptorIndex := 77, attributes := #[] }, { accessFlags := 18, nameIndex := 80, descriptorIndex := 6, attributes := #[] }, { accessFlags := 4122, nameIndex := 54, descriptorIndex := 55, attributes := #[] }])
  fields := #[{ name := "STRING", type := (.object "com/example/cairnlink/cairnlink/SimpleType$BuiltIn"), accessFlags := 16409, slot := 0, constantValue := 0 }, { name := "NORMALIZED_STRING", type := (.object "com/example/cairnlink/cairnlink/SimpleType$BuiltIn"), accessFlags := 16409, slot := 1, constantValue := 0 }, { name := "TOKEN", type := (.object "com/example/cairnlink/cairnlink/SimpleType$BuiltIn"), accessFlags := 16409, slot := 2, constantValue := 0 }, { name := "LANGUAGE", type := (.object "com/example/cairnlink/cairnlink/SimpleType$BuiltIn"), accessFlags := 16409, slot := 3, constantValue := 0 }, { name := "NAME", type := (.object "com/example/cairnlink/cairnlink/SimpleType$BuiltIn"), accessFlags := 16409, slot := 4, constantValue := 0 }, { name := "NMTOKEN", type := (.object "com/example/cairnlink/cairnlink/SimpleType$BuiltIn"), accessFlags := 16409, slot := 5, constantValue := 0 }, { name := "NCNAME", type := (.object "com/example/cairnlink/cairnlink/SimpleType$BuiltIn"), accessFlags := 16409, slot := 6, constantValue := 0 }, { name := "ID", type := (.object "com/example/cairnlink/cairnlink/SimpleType$BuiltIn"), accessFlags := 16409, slot := 7, constantValue := 0 }, { name := "ANY_URI", type := (.object "com/example/cairnlink/cairnlink/SimpleType$BuiltIn"), accessFlags := 16409, slot := 8, constantValue := 0 }, { name := "BOOLEAN", type := (.object "com/example/cairnlink/cairnlink/SimpleType$BuiltIn"), accessFlags := 16409, slot := 9, constantValue := 0 }, { name := "DATE", type := (.object "com/example/cairnlink/cairnlink/SimpleType$BuiltIn"), accessFlags := 16409, slot := 10, constantValue := 0 }, { name := "DATE_TIME", type := (.object "com/example/cairnlink/cairnlink/SimpleType$BuiltIn"), accessFlags := 16409, slot := 11, constantValue := 0 }, { name := "G_YEAR", type := (.object "com/example/cairnlink/cairnlink/SimpleType$BuiltIn"), accessFlags := 16409, slot := 12, constantValue := 0 }, { name := "G_YEAR_MONTH", type := (.object "com/example/cairnlink/cairnlink/SimpleType$BuiltIn"), accessFlags := 16409, slot := 13, constantValue := 0 }, { name := "FLOAT", type := (.object "com/example/cairnlink/cairnlink/SimpleType$BuiltIn"), accessFlags := 16409, slot := 14, constantValue := 0 }, { name := "NON_NEGATIVE_INTEGER", type := (.object "com/example/cairnlink/cairnlink/SimpleType$BuiltIn"), accessFlags := 16409, slot := 15, constantValue := 0 }, { name := "PREFIX", type := (.object "java/lang/String"), accessFlags := 24, slot := 16, constantValue := 0 }, { name := "BOOLEAN_FORMS", type := (.object "java/util/Set"), accessFlags := 26, slot := 17, constantValue := 0 }, { name := "FLOAT_FORM", type := (.object "com/example/cairnlink/cairnlink/ValuePattern"), accessFlags := 26, slot := 18, constantValue := 0 }, { name := "INTEGER_FORM", type := (.object "com/example/cairnlink/cairnlink/ValuePattern"), accessFlags := 26, slot := 19, constantValue := 0 }, { name := "LANGUAGE_FORM", type := (.object "com/example/cairnlink/cairnlink/ValuePattern"), accessFlags := 26, slot := 20, constantValue := 0 }, { name := "localName", type := (.object "java/lang/String"), accessFlags := 18, slot := 3, constantValue := 0 }, { name := "base", type := (.object "com/example/cairnlink/cairnlink/SimpleType$BuiltIn"), accessFlags := 18, slot := 4, constantValue := 0 }, { name := "$VALUES", type := (.array (.object "com/example/cairnlink/cairnlink/SimpleType$BuiltIn")), accessFlags := 4122, slot := 21, constantValue := 0 }]
  methods := #[k7m0]
  instanceTypes := #[(.object "java/lang/String"), .int, .int, (.object "java/lang/String"), (.object "com/example/cairnlink/cairnlink/SimpleType$BuiltIn")]
  staticTypes := #[(.object "com/example/cairnlink/cairnlink/SimpleType$BuiltIn"), (.object "com/example/cairnlink/cairnlink/SimpleType$BuiltIn"), (.object "com/example/cairnlink/cairnlink/SimpleType$BuiltIn"), (.object "com/example/cairnlink/cairnlink/SimpleType$BuiltIn"), (.object "com/example/cairnlink/cairnlink/SimpleType$BuiltIn"), (.object "com/example/cairnlink/cairnlink/SimpleType$BuiltIn"), (.object "com/example/cairnlink/cairnlink/SimpleType$BuiltIn"), (.object "com/example/cairnlink/cairnlink/SimpleType$BuiltIn"), (.object "com/example/cairnlink/cairnlink/SimpleType$BuiltIn"), (.object "com/example/cairnlink/cairnlink/SimpleType$BuiltIn"), (.object "com/example/cairnlink/cairnlink/SimpleType$BuiltIn"), (.object "com/example/cairnlink/cairnlink/SimpleType$BuiltIn"), (.object "com/example/cairnlink/cairnlink/SimpleType$BuiltIn"), (.object "com/example/cairnlink/cairnlink/SimpleType$BuiltIn"), (.object "com/example/cairnlink/cairnlink/SimpleType$BuiltIn"), (.object "com/example/cairnlink/cairnlink/SimpleType$BuiltIn"), (.object "java/lang/String"), (.object "java/util/Set"), (.object "com/example/cairnlink/cairnlink/ValuePattern"), (.object "com/example/cairnlink/cairnlink/ValuePattern"), (.object "com/example/cairnlink/cairnlink/ValuePattern"), (.array (.object "com/example/cairnlink/cairnlink/SimpleType$BuiltIn"))]
  resolved := Array.replicate 394 none
  statics := some 0 }

def pool8 : Array CpInfo := pool [(1, u "java/lang/Cloneable"), (0, .class_ 1), (0, u "java/lang/Object"), (0, .class_ 3)] 3

/-- java/lang/Cloneable -/
def k8 : Class := { plain "java/lang/Cloneable" (some 0) with
  accessFlags := 1537
  interfaces := #[]
  cf := some (fileOf pool8 2 #[] #[] 1537 4 #[] #[])
  fields := #[]
  methods := #[]
  instanceTypes := #[]
  staticTypes := #[]
  resolved := Array.replicate 8 none
  statics := none }

/-- the primitive byte -/
def k9 : Class := { plain "byte" none with kind := .primitive 'B', accessFlags := 0x411 }
/-- [B -/
def k10 : Class := { plain "[B" (some 0) with kind := .array 9 .byte, interfaces := #[8, 4], accessFlags := 1041 }

/-- the primitive int -/
def k11 : Class := { plain "int" none with kind := .primitive 'I', accessFlags := 0x411 }
/-- [I -/
def k12 : Class := { plain "[I" (some 0) with kind := .array 11 .int, interfaces := #[8, 4], accessFlags := 1041 }

def heap : Heap := #[{ cls := 7, slots := #[.ref 1, .ref 3, .ref 8, .ref 2, .ref 11, .ref 16, .ref 14, .ref 7, .ref 10, .ref 15, .ref 6, .ref 9, .ref 12, .ref 13, .ref 4, .ref 5, .null, .null, .null, .null, .null, .null], vm := .statics 7 },
  { cls := 7, slots := #[.null, .int 0, .int 0, .null, .null], vm := .none },
  { cls := 7, slots := #[.null, .int 3, .int 0, .null, .null], vm := .none },
  { cls := 7, slots := #[.null, .int 1, .int 0, .null, .null], vm := .none },
  { cls := 7, slots := #[.null, .int 14, .int 0, .null, .null], vm := .none },
  { cls := 7, slots := #[.null, .int 15, .int 0, .null, .null], vm := .none },
  { cls := 7, slots := #[.null, .int 10, .int 0, .null, .null], vm := .none },
  { cls := 7, slots := #[.null, .int 7, .int 0, .null, .null], vm := .none },
  { cls := 7, slots := #[.null, .int 2, .int 0, .null, .null], vm := .none },
  { cls := 7, slots := #[.null, .int 11, .int 0, .null, .null], vm := .none },
  { cls := 7, slots := #[.null, .int 8, .int 0, .null, .null], vm := .none },
  { cls := 7, slots := #[.null, .int 4, .int 0, .null, .null], vm := .none },
  { cls := 7, slots := #[.null, .int 12, .int 0, .null, .null], vm := .none },
  { cls := 7, slots := #[.null, .int 13, .int 0, .null, .null], vm := .none },
  { cls := 7, slots := #[.null, .int 6, .int 0, .null, .null], vm := .none },
  { cls := 7, slots := #[.null, .int 9, .int 0, .null, .null], vm := .none },
  { cls := 7, slots := #[.null, .int 5, .int 0, .null, .null], vm := .none }]
def classes : Array Class := #[k0, k1, k2, k3, k4, k5, k6, k7, k8, k9, k10, k11, k12]
def interned : List (Array UInt16 × Addr) := []
def slotsUsed : Nat := 102
def theMethod : MethodId := ⟨1, 1⟩
def args0 : Array Value := #[.int 5]
def aboutOver (below : List Frame) : State where
  vm := { classes := classes, interned := interned.toArray }
  heap := heap
  slotsUsed := slotsUsed
  threads := #[{ frames := .invoking theMethod args0 :: below }]
def below0 : List Frame := [.native { method := ⟨0, 0⟩, args := #[] }]
def about1 : State := aboutOver below0
def p0 : Program := .bare "" "" ""
def e0 : Env := launch0.env 0 0 0
theorem w_frames : about1.frames = Frame.invoking theMethod args0 :: below0 := rfl
set_option maxRecDepth 65536 in
theorem w_args : argsFit about1.vm theMethod args0 = true := by decide +kernel
set_option maxRecDepth 65536 in
theorem w_heap : heapFits about1 = true := by decide +kernel
set_option maxRecDepth 65536 in
theorem w_runnable : about1.curStatus? = some .runnable := by decide +kernel
set_option maxRecDepth 65536 in
theorem w_alone : about1.alone = true := by decide +kernel
set_option maxRecDepth 65536 in
theorem w_named : about1.methodNamed? x = some theMethod := by decide +kernel
set_option maxRecDepth 65536 in
theorem w_hears : about1.hears theMethod below0 = true := by decide +kernel
set_option maxRecDepth 65536 in
theorem w_ripe : about1.ripe theMethod args0 below0 = true := by decide +kernel
theorem w_running : about1.status = .running := rfl
set_option maxRecDepth 65536 in
theorem w_room : about1.hasRoom e0.platform room_1 = true :=
  launch0.hasRoom_least _ room_1 (by decide +kernel) (by decide +kernel) (by decide +kernel) (by decide +kernel) (by decide +kernel) (by decide +kernel)
theorem allAtoms_all (ts : List Jvm.Cond) (a : Array Jvm.Value) (st : Jvm.State) : (allAtoms ts).before a st = ts.all (fun c => c.before a st) := by
  induction ts with
  | nil => rfl
  | cons c t ih =>
    show (Jvm.Cond.and c (allAtoms t)).before a st = _
    rw [Jvm.Cond.before_and, ih, List.all_cons]
def words1 : List Jvm.Cond := Jvm.Cond.code x code maxLocals ret :: tables_1
/-- a 'code' word, met by the world's own term for the bytes: nothing is compared byte by byte -/
theorem code_word {y : MethodName} {bytes : ByteArray} {mx : Nat} {rt : Option FieldType} {a : Array Value} {s : State} {m : MethodId} {meth : Method} {c : Code} (h1 : s.methodNamed? y = some m) (h2 : s.vm.method? m = some meth) (h3 : meth.code = some c) (h4 : c.code = bytes)
    (h5 : (c.maxLocals == mx && c.exceptionTable.isEmpty && decide (c.maxStack ≤ mostOperands) && decide (meth.sig.returnType = rt) && !meth.locks && decide (parseMethodDescriptor y.desc = some meth.sig)) = true) : (Jvm.Cond.code y bytes mx rt).before a s = true := by
  simp only [Bool.and_eq_true, beq_iff_eq, Bool.not_eq_true', decide_eq_true_eq] at h5
  obtain ⟨⟨⟨⟨⟨g1, g2⟩, g3⟩, g4⟩, g5⟩, g6⟩ := h5
  simp [Cond.before, Cond.holds, Cond.value, h1, h2, h3, h4, g1, g2, g3, g4, g5, g6]
def isCode : Jvm.Cond → Bool
  | .code _ _ _ _ => true
  | _ => false
theorem all_split {L : List Jvm.Cond} {P : Jvm.Cond → Bool} (h1 : L.all (fun c => isCode c || P c) = true) (h2 : ∀ c ∈ L.filter isCode, P c = true) : L.all P = true := by
  refine List.all_eq_true.mpr fun c hc => ?_
  have h := List.all_eq_true.mp h1 c hc
  rcases Bool.eq_false_or_eq_true (isCode c) with hi | hi
  · exact h2 c (List.mem_filter.mpr ⟨hc, hi⟩)
  · simpa [hi] using h
set_option maxRecDepth 65536 in
theorem w_c0 : (Jvm.Cond.code x code maxLocals ret).before args0 about1 = true := code_word (m := ⟨1, 1⟩) (meth := k1m1) (c := k1c1) (by decide +kernel) rfl rfl rfl (by decide +kernel)
set_option maxRecDepth 65536 in
theorem w_c1 : (Jvm.Cond.code ({ cls := "com/example/cairnlink/cairnlink/BuiltInCollapsesPinLaw", name := "pick", desc := "(I)Lcom/example/cairnlink/cairnlink/SimpleType$BuiltIn;" } : Jvm.MethodName) method_4_code (1 : Nat) (Option.some (Jvm.ClassFile.FieldType.object "com/example/cairnlink/cairnlink/SimpleType$BuiltIn"))).before args0 about1 = true := code_word (m := ⟨1, 3⟩) (meth := k1m3) (c := k1c3) (by decide +kernel) rfl rfl rfl (by decide +kernel)
set_option maxRecDepth 65536 in
theorem w_c2 : (Jvm.Cond.code ({ cls := "com/example/cairnlink/cairnlink/BuiltInCollapsesPinLaw", name := "expectedCollapses", desc := "(I)Z" } : Jvm.MethodName) method_3_code (1 : Nat) (Option.some Jvm.ClassFile.FieldType.boolean)).before args0 about1 = true := code_word (m := ⟨1, 2⟩) (meth := k1m2) (c := k1c2) (by decide +kernel) rfl rfl rfl (by decide +kernel)
set_option maxRecDepth 65536 in
theorem w_c3 : (Jvm.Cond.code ({ cls := "com/example/cairnlink/cairnlink/SimpleType$BuiltIn", name := "collapses", desc := "()Z" } : Jvm.MethodName) prog_89_method_8_code (1 : Nat) (Option.some Jvm.ClassFile.FieldType.boolean)).before args0 about1 = true := code_word (m := ⟨7, 0⟩) (meth := k7m0) (c := k7c0) (by decide +kernel) rfl rfl rfl (by decide +kernel)
def codes1 : List Jvm.Cond := [Jvm.Cond.code x code maxLocals ret, Jvm.Cond.code ({ cls := "com/example/cairnlink/cairnlink/BuiltInCollapsesPinLaw", name := "pick", desc := "(I)Lcom/example/cairnlink/cairnlink/SimpleType$BuiltIn;" } : Jvm.MethodName) method_4_code (1 : Nat) (Option.some (Jvm.ClassFile.FieldType.object "com/example/cairnlink/cairnlink/SimpleType$BuiltIn")), Jvm.Cond.code ({ cls := "com/example/cairnlink/cairnlink/BuiltInCollapsesPinLaw", name := "expectedCollapses", desc := "(I)Z" } : Jvm.MethodName) method_3_code (1 : Nat) (Option.some Jvm.ClassFile.FieldType.boolean), Jvm.Cond.code ({ cls := "com/example/cairnlink/cairnlink/SimpleType$BuiltIn", name := "collapses", desc := "()Z" } : Jvm.MethodName) prog_89_method_8_code (1 : Nat) (Option.some Jvm.ClassFile.FieldType.boolean)]
set_option maxRecDepth 65536 in
theorem codes_eq : words1.filter isCode = codes1 := rfl
theorem w_codes : ∀ c ∈ words1.filter isCode, c.before args0 about1 = true := by
  rw [codes_eq]
  intro c hc
  simp only [codes1, List.mem_cons, List.not_mem_nil, or_false] at hc
  rcases hc with rfl | rfl | rfl | rfl
  · exact w_c0
  · exact w_c1
  · exact w_c2
  · exact w_c3
set_option maxRecDepth 65536 in
theorem w_t1 : (words1.take 24).all (fun c => isCode c || c.before args0 about1) = true := by decide +kernel
set_option maxRecDepth 65536 in
theorem w_t2 : (words1.drop 24).all (fun c => isCode c || c.before args0 about1) = true := by decide +kernel
theorem w_tables : (allAtoms (Jvm.Cond.code x code maxLocals ret :: tables_1)).before args0 about1 = true := by
  rw [allAtoms_all]
  show words1.all (fun c => c.before args0 about1) = true
  refine all_split ?_ w_codes
  rw [← List.take_append_drop 24 words1, List.all_append, w_t1, w_t2]
  rfl
set_option maxRecDepth 65536 in
theorem w_case : (Jvm.Cond.and given_1 narrow_1).before args0 about1 = true := by decide +kernel
theorem w_applies : (headSpec (Jvm.Cond.code x code maxLocals ret :: tables_1) room_1).applies x e0.platform about1 = true :=
  (Spec.applies_iff w_frames).mpr ⟨w_running, w_runnable, w_alone, w_named, w_hears, w_ripe, w_room, w_tables⟩
theorem atStart : AtStart classFile x code maxLocals ret World_1 tables_1 room_1 Calls_1 rest_1 Pre_1 launch0 p0 e0 about1 theMethod args0 below0 :=
  ⟨lists_1, trivial, launch0.admits_env _ _ _, launch0.least_env, fairChoices_fair.cas, fairChoices_fair.clock, w_frames, w_args, w_heap, w_applies, trivial, trivial, w_case⟩
end start1
theorem witness_1 : WitnessClaimed_1 := ⟨start1.p0, start1.e0, start1.about1, start1.theMethod, start1.args0, start1.below0, start1.atStart⟩
end Jvm.Pilot.@@N@@
