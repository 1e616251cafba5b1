import JvmDerived
import JvmDerived.Pilot.@@N@@Statement
import JvmDerived.Pilot.@@N@@Code
set_option linter.unusedVariables false
set_option linter.unusedSimpArgs false
namespace Jvm.RoadKit
open Sem ClassFile Op Lib Jvm.Stand Jvm.Free Jvm.LawKit
section Own
variable {p : Program} {l : Launch} {e : Env} {R : Room} {s : State} {m : MethodId} {args : Array Value} {below : List Frame} {meth : Method} {c : Code} {T T' : State} {locs : List Loc} {cells slots kc ks : Nat} {Q : Option Value → Heap → List Loc → Prop} {g g' : JFrame} {FE : Outcome → State → List Loc → Prop}
/-- from T with the frame g on top the body comes to its end: what it returns, the heap and the places written are as Q says; FE: the frame's own word of that end -/
def OFin (p : Program) (e : Env) (below : List Frame) (FE : Outcome → State → List Loc → Prop) (Q : Option Value → Heap → List Loc → Prop) (T : State) (g : JFrame) : Prop :=
  ∃ s₂ o, Steps p.tables e below (T.setTop g) s₂ ∧ s₂.status = .running ∧ Ended s₂ below o ∧ ∃ v L, o = .returned v ∧ Q v s₂.heap L ∧ FE o s₂ L
theorem OFin.st (st : ∀ target, Steps p.tables e below (T'.setTop g') target → Steps p.tables e below (T.setTop g) target) (h : OFin p e below FE Q T' g') : OFin p e below FE Q T g := by
  obtain ⟨s₂, o, h1, r⟩ := h; exact ⟨s₂, o, st _ h1, r⟩
theorem OFin.tr (st : Steps p.tables e below (T.setTop g) (T'.setTop g')) (h : OFin p e below FE Q T' g') : OFin p e below FE Q T g := h.st fun _ k => st.trans k
theorem OFin.cast (q : g = g') (h : OFin p e below FE Q T g') : OFin p e below FE Q T g := q ▸ h
/-- the end's frame: narrow (nothing interned), and wide (over the tables at hand) -/
theorem own_endN {v : Option Value} (hc : cells ≤ kc) (hs : slots ≤ ks) : ∀ fs : List Frame, s.WarmedH (T.setFrames fs).vm → s.sameButNew ({ T.setFrames fs with vm := s.vm } : State) locs cells slots → FrameEnd s (.returned v) (T.setFrames fs) locs kc ks :=
  fun fs hW h => ⟨⟨v, rfl⟩, hW, h.mono hc hs⟩
theorem own_endW {vm₁ : Vm} {n : Nat} {v : Option Value} (hS : s.Since vm₁ n) (hn : n ≤ T.heap.size) (hc : cells ≤ kc) (hs : slots ≤ ks) : ∀ fs : List Frame, (s.setVm vm₁).WarmedH (T.setFrames fs).vm → (s.setVm vm₁).sameButNew ({ T.setFrames fs with vm := vm₁ } : State) locs cells slots → ReturnedEndW s (.returned v) (T.setFrames fs) locs kc ks :=
  fun fs hW h => by
    obtain ⟨a, b, c'⟩ := hS.ended (U := T.setFrames fs) hW hn h
    exact ⟨⟨v, rfl⟩, a, b, c'.mono hc hs⟩
theorem own_retV (X : Stand p l e R s m args below meth c T locs cells slots) (hx : p.tables.exec = Jvm.exec) {pc : Nat} {Ls : Array Slot} (hret : meth.sig.returnType = none) (hlk : meth.locks = false) (hd : decode c.code pc = .ok (.return_, 1)) (hQ : Q none T.heap locs) (hE : ∀ fs : List Frame, s.WarmedH (T.setFrames fs).vm → s.sameButNew ({ T.setFrames fs with vm := s.vm } : State) locs cells slots → FE (.returned none) (T.setFrames fs) locs) : OFin p e below FE Q T (mkF m pc Ls []) := by
  obtain ⟨fs, hr, hrun, hended, hW, hsame⟩ := X.leave (v := none) (fun _ => rfl) hlk
  exact ⟨_, _, X.returnOut hx hret hd hr, hrun, hended, _, _, rfl, hQ, hE fs hW hsame⟩
theorem own_retI (X : Stand p l e R s m args below meth c T locs cells slots) (hx : p.tables.exec = Jvm.exec) {pc : Nat} {Ls : Array Slot} {z : Int32} {rest : List Value} (hret : meth.sig.returnType = some .int) (hlk : meth.locks = false) (hd : decode c.code pc = .ok (.ireturn, 1)) (hQ : Q (some (.int z)) T.heap locs) (hE : ∀ fs : List Frame, s.WarmedH (T.setFrames fs).vm → s.sameButNew ({ T.setFrames fs with vm := s.vm } : State) locs cells slots → FE (.returned (some (.int z))) (T.setFrames fs) locs) : OFin p e below FE Q T (mkF m pc Ls (.int z :: rest)) := by
  obtain ⟨fs, hr, hrun, hended, hW, hsame⟩ := X.leave (v := some (.int z)) (fun h => by rw [hret] at h; cases h) hlk
  exact ⟨_, _, retOut X hx hret rfl (Or.inl ⟨rfl, Or.inl rfl, z, rfl⟩) hd hr, hrun, hended, _, _, rfl, hQ, hE fs hW hsame⟩
theorem own_retN (X : Stand p l e R s m args below meth c T locs cells slots) (hx : p.tables.exec = Jvm.exec) {pc : Nat} {Ls : Array Slot} {z z' : Int32} {rest : List Value} {t : FieldType} (hret : meth.sig.returnType = some t) (hlk : meth.locks = false) (ht : t = .boolean ∨ t = .byte ∨ t = .char ∨ t = .short) (hz : nar t z = z') (hd : decode c.code pc = .ok (.ireturn, 1)) (hQ : Q (some (.int z')) T.heap locs) (hE : ∀ fs : List Frame, s.WarmedH (T.setFrames fs).vm → s.sameButNew ({ T.setFrames fs with vm := s.vm } : State) locs cells slots → FE (.returned (some (.int z'))) (T.setFrames fs) locs) : OFin p e below FE Q T (mkF m pc Ls (.int z :: rest)) := by
  subst hz
  obtain ⟨fs, hr, hrun, hended, hW, hsame⟩ := X.leave (v := some (.int (nar t z))) (fun h => by rw [hret] at h; cases h) hlk
  exact ⟨_, _, retN X hx hret ht hd hr, hrun, hended, _, _, rfl, hQ, hE fs hW hsame⟩
theorem own_retJ (X : Stand p l e R s m args below meth c T locs cells slots) (hx : p.tables.exec = Jvm.exec) {pc : Nat} {Ls : Array Slot} {z : Int64} {rest : List Value} (hret : meth.sig.returnType = some .long) (hlk : meth.locks = false) (hd : decode c.code pc = .ok (.lreturn, 1)) (hQ : Q (some (.long z)) T.heap locs) (hE : ∀ fs : List Frame, s.WarmedH (T.setFrames fs).vm → s.sameButNew ({ T.setFrames fs with vm := s.vm } : State) locs cells slots → FE (.returned (some (.long z))) (T.setFrames fs) locs) : OFin p e below FE Q T (mkF m pc Ls (.long z :: rest)) := by
  obtain ⟨fs, hr, hrun, hended, hW, hsame⟩ := X.leave (v := some (.long z)) (fun h => by rw [hret] at h; cases h) hlk
  exact ⟨_, _, retOut X hx hret rfl (Or.inr (Or.inl ⟨rfl, rfl, z, rfl⟩)) hd hr, hrun, hended, _, _, rfl, hQ, hE fs hW hsame⟩
theorem own_retR (X : Stand p l e R s m args below meth c T locs cells slots) (hx : p.tables.exec = Jvm.exec) {pc : Nat} {Ls : Array Slot} {w : Value} {t : FieldType} {rest : List Value} (hret : meth.sig.returnType = some t) (hlk : meth.locks = false) (ht : t.isReference = true) (hn : narrow t w = w) (hw : w.isRef = true) (hd : decode c.code pc = .ok (.areturn, 1)) (hQ : Q (some w) T.heap locs) (hE : ∀ fs : List Frame, s.WarmedH (T.setFrames fs).vm → s.sameButNew ({ T.setFrames fs with vm := s.vm } : State) locs cells slots → FE (.returned (some w)) (T.setFrames fs) locs) : OFin p e below FE Q T (mkF m pc Ls (w :: rest)) := by
  obtain ⟨fs, hr, hrun, hended, hW, hsame⟩ := X.leave (v := some w) (fun h => by rw [hret] at h; cases h) hlk
  exact ⟨_, _, retOut X hx hret hn (Or.inr (Or.inr (Or.inr (Or.inr ⟨rfl, ht, hw⟩)))) hd hr, hrun, hended, _, _, rfl, hQ, hE fs hW hsame⟩
end Own
end Jvm.RoadKit
namespace Jvm.RoadKit
open Sem ClassFile Op Lib Jvm.Stand Jvm.Free Jvm.LawKit
theorem own_fldI {args : Array Value} {s : State} {t : Term} {C n d : String} {a : Addr} {x : Int32} (ev : t.eval args s none [] s = some (.ref a)) (h : (Jvm.Cond.eq (Term.field t C n d) (Term.int x)).value args s none s [] = some true) : Fld s s.heap a C n d (.int x) := by
  obtain ⟨u, y, e1, e2, -, k2⟩ := cmp_v (Or.inl h)
  cases (Option.some.inj (e2.symm.trans (Term.int_eval x)) : y = .int x)
  obtain ⟨z, rfl⟩ := k2
  have q : z = x := by simpa [Jvm.Cond.value, e1, e2] using h
  subst q
  exact Fld.start ((fld_at ev).symm.trans e1)
theorem own_fldJ {args : Array Value} {s : State} {t : Term} {C n d : String} {a : Addr} {x : Int64} (ev : t.eval args s none [] s = some (.ref a)) (h : (Jvm.Cond.eq (Term.field t C n d) (Term.long x)).value args s none s [] = some true) : Fld s s.heap a C n d (.long x) := by
  obtain ⟨u, y, e1, e2, -, k2⟩ := cmp_v (Or.inl h)
  cases (Option.some.inj (e2.symm.trans (long_at x)) : y = .long x)
  obtain ⟨z, rfl⟩ := k2
  have q : z = x := by simpa [Jvm.Cond.value, e1, e2] using h
  subst q
  exact Fld.start ((fld_at ev).symm.trans e1)
end Jvm.RoadKit
namespace Jvm.RoadKit
theorem own_ite {α : Sort _} {P : α → Prop} {c : Prop} [Decidable c] {a b : α} (ha : P a) (hb : P b) : P (if c then a else b) := by split <;> assumption
theorem own_ite2 {α β : Sort _} {P : α → β → Prop} {c : Prop} [Decidable c] {a b : α} {a' b' : β} (ha : P a a') (hb : P b b') : P (if c then a else b) (if c then a' else b') := by split <;> assumption
/-- (x &&& 0x7fffffff) % d lies between 0 and d -/
theorem own_rem (x d : Int32) (n : Int) (hn : d.toInt = n) (h0 : 0 < n) : 0 ≤ ((x &&& (2147483647 : Int32)) % d).toInt ∧ ((x &&& (2147483647 : Int32)) % d).toInt < n := by
  have h1 := c_mask x (2147483647 : Int32) 31 (by decide) (by decide)
  have h2 := (c_irem (x &&& (2147483647 : Int32)) d n hn).1 (by rw [h1]; omega)
  rw [h2, h1]
  exact ⟨Int.emod_nonneg _ (by omega), Int.emod_lt_of_pos _ h0⟩
end Jvm.RoadKit
namespace Jvm.RoadKit
open Sem ClassFile Op Lib Jvm.Stand Jvm.Free Jvm.LawKit
theorem own_lremM {p : Program} {l : Launch} {e : Env} {R : Room} {s : State} {m : MethodId} {args : Array Value} {below : List Frame} {meth : Method} {c : Code} {T : State} {locs : List Loc} {cells slots : Nat} {g : JFrame} {target : State} (X : Stand p l e R s m args below meth c T locs cells slots) (hx : p.tables.exec = Jvm.exec) (hg : g.method = m) {x y : Int64} {rest : List Value} (hd : decode c.code g.pc = .ok (.lrem, 1)) (hs : g.stack = .long y :: .long x :: rest) (hy : y ≠ 0)
    (hr : Steps p.tables e below (T.setTop { g with pc := g.pc + 1, stack := .long (x % y) :: rest }) target) : Steps p.tables e below (T.setTop g) target :=
  XS.lrem X.here hx hg hd hs hy (by rw [lrem_mod]; exact hr)
end Jvm.RoadKit
namespace Jvm.RoadKit
open Sem ClassFile Op Lib Jvm.Stand Jvm.Free Jvm.LawKit
theorem own_pop2L {p : Program} {l : Launch} {e : Env} {R : Room} {s : State} {m : MethodId} {args : Array Value} {below : List Frame} {meth : Method} {c : Code} {T : State} {locs : List Loc} {cells slots : Nat} {g : JFrame} {target : State} (X : Stand p l e R s m args below meth c T locs cells slots) (hx : p.tables.exec = Jvm.exec) (hg : g.method = m) {x : Int64} {rest : List Value} (hd : decode c.code g.pc = .ok (.pop2, 1)) (hs : g.stack = .long x :: rest)
    (hr : Steps p.tables e below (T.setTop { g with pc := g.pc + 1, stack := rest }) target) : Steps p.tables e below (T.setTop g) target := by
  subst hg
  jvm_step X.here [X.here.top, hx, hd, hs, Value.category]
  exact hr
end Jvm.RoadKit
namespace Jvm.RoadKit
open Sem ClassFile Op Lib Jvm.Stand Jvm.Free Jvm.LawKit
section OwnArr
variable {p : Program} {l : Launch} {e : Env} {R : Room} {s : State} {m : MethodId} {args : Array Value} {below : List Frame} {meth : Method} {c : Code} {T T' : State} {locs : List Loc} {cells slots kc ks : Nat} {Q : Option Value → Heap → List Loc → Prop} {FE : Outcome → State → List Loc → Prop} {Z : State} {h h' : Heap} {a b : Addr} {k : ClassId} {ty : FieldType} {vs : List Value} {ws : List Addr} {i sl : Nat} {j : Int32} {v : Value}
/-- the array at a holds just vs -/
def Oar (Z : State) (h : Heap) (a : Addr) (k : ClassId) (ty : FieldType) (vs : List Value) : Prop := ∃ c : Cell, Arr Z h a c ty ∧ c.cls = k ∧ c.slots = vs.toArray ∧ vs.length < 2 ^ 31
theorem Oar.lt (F : Oar Z h a k ty vs) : a < h.size := by obtain ⟨c, A, -⟩ := F; exact A.lt
theorem Oar.len (F : Oar Z h a k ty vs) : vs.length < 2 ^ 31 := by obtain ⟨c, -, -, -, q⟩ := F; exact q
theorem Oar.ext (E : Ext h h') (F : Oar Z h a k ty vs) : Oar Z h' a k ty vs := by obtain ⟨c, A, r⟩ := F; exact ⟨c, A.ext E, r⟩
theorem Oar.other (W : Wr h h' b sl v) (F : Oar Z h a k ty vs) (q : a ≠ b) : Oar Z h' a k ty vs := by obtain ⟨c, A, r⟩ := F; exact ⟨c, A.other W q, r⟩
theorem Oar.keep (F : Oar Z h a k ty vs) (K : Keep h h' ws) (q : a ∉ ws) : Oar Z h' a k ty vs := by obtain ⟨c, A, r⟩ := F; exact ⟨c, ⟨K.2.1 a c A.1 q, A.2⟩, r⟩
theorem own_idx (hj : j.toInt = (i : Int)) : ¬ j < 0 ∧ j.toNatClampNeg = i := by
  constructor
  · rw [Int32.lt_iff_toInt_lt, hj]; simp
  · rw [Int32.toNatClampNeg, hj]; simp
theorem own_inb {c : Cell} (hs : c.slots = vs.toArray) (hj : j.toInt = (i : Int)) (hi : i < vs.length) : ¬ (j < 0 ∨ c.slots.size ≤ j.toNatClampNeg) := by
  obtain ⟨q1, q2⟩ := own_idx hj
  rw [q2, hs]; simp only [List.size_toArray]; intro q; rcases q with q | q
  · exact q1 q
  · omega
theorem own_cat1 {v : Value} (h : v.isRef = true) : v.category = 1 := by cases v <;> first | rfl | cases h
theorem own_lt_of {x : Value} (hv : vs[i]? = some x) : i < vs.length := (List.getElem?_eq_some_iff.mp hv).1
theorem Oar.set (F : Oar Z h a k ty vs) (W : Wr h h' a sl v) : Oar Z h' a k ty (vs.set sl v) := by
  obtain ⟨c, A, q1, q2, q3⟩ := F
  exact ⟨_, A.same W, q1, by simp [Cell.setSlot, q2], by simpa using q3⟩
theorem Oar.new {z : Int32} {n : Nat} (A : Arr Z h a (newA k ty z) ty) (hz : z.toInt = (n : Int)) : Oar Z h a k ty (List.replicate n (defaultValue ty)) := by
  obtain ⟨q1, q2⟩ := own_idx hz
  refine ⟨_, A, rfl, by simp [newA, q2], ?_⟩
  have := z.toInt_lt
  simp; omega
theorem own_iaload (X : Stand p l e R s m args below meth c T locs cells slots) (hx : p.tables.exec = Jvm.exec) (hZ : Z.Warmed39 s.vm) (eT : T.heap = h) (F : Oar Z h a k .int vs) (hj : j.toInt = (i : Int)) (hv : vs[i]? = some v) {pc pc' : Nat} {Ls : Array Slot} {rest : List Value} (hd : decode c.code pc = .ok (.iaload, 1)) (hp : pc + 1 = pc')
    (hr : OFin p e below FE Q T (mkF m pc' Ls (v :: rest))) : OFin p e below FE Q T (mkF m pc Ls (.int j :: .ref a :: rest)) := by
  subst hp; obtain ⟨cl, A, -, q2, -⟩ := F
  exact hr.st (X.iaload hx (j := j) (v := v) (by rw [eT]; exact A.1) (State.isArrayOf_alike hZ.alike A.2.1) A.2.2 (own_inb q2 hj (own_lt_of hv)) (by rw [(own_idx hj).2, q2]; simpa using hv) (g := mkF m pc Ls (.int j :: .ref a :: rest)) rfl rfl hd)
theorem own_laload (X : Stand p l e R s m args below meth c T locs cells slots) (hx : p.tables.exec = Jvm.exec) (hZ : Z.Warmed39 s.vm) (eT : T.heap = h) (F : Oar Z h a k .long vs) (hj : j.toInt = (i : Int)) (hv : vs[i]? = some v) {pc pc' : Nat} {Ls : Array Slot} {rest : List Value} (hd : decode c.code pc = .ok (.laload, 1)) (hp : pc + 1 = pc')
    (hr : OFin p e below FE Q T (mkF m pc' Ls (v :: rest))) : OFin p e below FE Q T (mkF m pc Ls (.int j :: .ref a :: rest)) := by
  subst hp; obtain ⟨cl, A, -, q2, -⟩ := F
  exact hr.st (X.laload hx (j := j) (v := v) (by rw [eT]; exact A.1) (State.isArrayOf_alike hZ.alike A.2.1) A.2.2 (own_inb q2 hj (own_lt_of hv)) (by rw [(own_idx hj).2, q2]; simpa using hv) (g := mkF m pc Ls (.int j :: .ref a :: rest)) rfl rfl hd)
theorem own_baload (X : Stand p l e R s m args below meth c T locs cells slots) (hx : p.tables.exec = Jvm.exec) (hZ : Z.Warmed39 s.vm) (eT : T.heap = h) (F : Oar Z h a k .byte vs) (hj : j.toInt = (i : Int)) (hv : vs[i]? = some v) {pc pc' : Nat} {Ls : Array Slot} {rest : List Value} (hd : decode c.code pc = .ok (.baload, 1)) (hp : pc + 1 = pc')
    (hr : OFin p e below FE Q T (mkF m pc' Ls (v :: rest))) : OFin p e below FE Q T (mkF m pc Ls (.int j :: .ref a :: rest)) := by
  subst hp; obtain ⟨cl, A, -, q2, -⟩ := F
  exact hr.st (X.baloadBytes hx (j := j) (v := v) (by rw [eT]; exact A.1) (State.isArrayOf_alike hZ.alike A.2.1) A.2.2 (own_inb q2 hj (own_lt_of hv)) (by rw [(own_idx hj).2, q2]; simpa using hv) (g := mkF m pc Ls (.int j :: .ref a :: rest)) rfl rfl hd)
theorem own_zaload (X : Stand p l e R s m args below meth c T locs cells slots) (hx : p.tables.exec = Jvm.exec) (hZ : Z.Warmed39 s.vm) (eT : T.heap = h) (F : Oar Z h a k .boolean vs) (hj : j.toInt = (i : Int)) (hv : vs[i]? = some v) {pc pc' : Nat} {Ls : Array Slot} {rest : List Value} (hd : decode c.code pc = .ok (.baload, 1)) (hp : pc + 1 = pc')
    (hr : OFin p e below FE Q T (mkF m pc' Ls (v :: rest))) : OFin p e below FE Q T (mkF m pc Ls (.int j :: .ref a :: rest)) := by
  subst hp; obtain ⟨cl, A, -, q2, -⟩ := F
  exact hr.st (X.baloadBooleans hx (j := j) (v := v) (by rw [eT]; exact A.1) (State.isArrayOf_alike hZ.alike A.2.1) A.2.2 (own_inb q2 hj (own_lt_of hv)) (by rw [(own_idx hj).2, q2]; simpa using hv) (g := mkF m pc Ls (.int j :: .ref a :: rest)) rfl rfl hd)
theorem own_aaload (X : Stand p l e R s m args below meth c T locs cells slots) (hx : p.tables.exec = Jvm.exec) (hZ : Z.Warmed39 s.vm) (eT : T.heap = h) (F : Oar Z h a k ty vs) (hty : ty.isReference = true) (hj : j.toInt = (i : Int)) (hv : vs[i]? = some v) {pc pc' : Nat} {Ls : Array Slot} {rest : List Value} (hd : decode c.code pc = .ok (.aaload, 1)) (hp : pc + 1 = pc')
    (hr : OFin p e below FE Q T (mkF m pc' Ls (v :: rest))) : OFin p e below FE Q T (mkF m pc Ls (.int j :: .ref a :: rest)) := by
  subst hp; obtain ⟨cl, A, -, q2, -⟩ := F
  exact hr.st (X.aaload hx (j := j) (v := v) (by rw [eT]; exact A.1) (State.isArrayOf_alike hZ.alike A.2.1) hty A.2.2 (own_inb q2 hj (own_lt_of hv)) (by rw [(own_idx hj).2, q2]; simpa using hv) (g := mkF m pc Ls (.int j :: .ref a :: rest)) rfl rfl hd)
theorem own_alen (X : Stand p l e R s m args below meth c T locs cells slots) (hx : p.tables.exec = Jvm.exec) (hZ : Z.Warmed39 s.vm) (eT : T.heap = h) (F : Oar Z h a k ty vs) {z : Int32} (hz : z.toInt = (vs.length : Int)) {pc pc' : Nat} {Ls : Array Slot} {rest : List Value} (hd : decode c.code pc = .ok (.arraylength, 1)) (hp : pc + 1 = pc')
    (hr : OFin p e below FE Q T (mkF m pc' Ls (.int z :: rest))) : OFin p e below FE Q T (mkF m pc Ls (.ref a :: rest)) := by
  subst hp; obtain ⟨cl, A, -, q2, q3⟩ := F
  have q : cl.slots.size.toInt32 = z := by
    rw [q2, List.size_toArray, ← Int32.toInt_inj, hz]; exact Int32.toInt_ofNat_small q3
  subst q
  exact hr.st (X.arraylength hx (by rw [eT]; exact A.1) (State.isArrayOf_alike hZ.alike A.2.1) (g := mkF m pc Ls (.ref a :: rest)) rfl rfl hd)
/-- a store: what each law of a store gives, over Oar -/
theorem own_lastore (X : Stand p l e R s m args below meth c T locs cells slots) (hx : p.tables.exec = Jvm.exec) (hZ : Z.Warmed39 s.vm) (eT : T.heap = h) (F : Oar Z h a k .long vs) (hj : j.toInt = (i : Int)) (hi : i < vs.length) {x : Int64} {pc : Nat} {Ls : Array Slot} {rest : List Value} (hd : decode c.code pc = .ok (.lastore, 1)) :
    ∃ T' h', Stand p l e R s m args below meth c T' (locs ++ [⟨a, i⟩]) cells slots ∧ T'.heap = h' ∧ Wr h h' a i (.long x) ∧ Oar Z h' a k .long (vs.set i (.long x)) ∧ ∀ target, Steps p.tables e below (T'.setTop (mkF m (pc + 1) Ls rest)) target → Steps p.tables e below (T.setTop (mkF m pc Ls (.long x :: .int j :: .ref a :: rest))) target := by
  have F' := F
  obtain ⟨cl, A, -, q2, -⟩ := F
  obtain ⟨T', h', X', e', W, st⟩ := stJ X hx hZ eT A (j := j) (x := x) (own_inb q2 hj hi) (g := mkF m pc Ls (.long x :: .int j :: .ref a :: rest)) rfl rfl hd
  rw [(own_idx hj).2] at X' W
  exact ⟨T', h', X', e', W, F'.set W, st⟩
theorem own_iastore (X : Stand p l e R s m args below meth c T locs cells slots) (hx : p.tables.exec = Jvm.exec) (hZ : Z.Warmed39 s.vm) (eT : T.heap = h) (F : Oar Z h a k .int vs) (hj : j.toInt = (i : Int)) (hi : i < vs.length) {x : Int32} {pc : Nat} {Ls : Array Slot} {rest : List Value} (hd : decode c.code pc = .ok (.iastore, 1)) :
    ∃ T' h', Stand p l e R s m args below meth c T' (locs ++ [⟨a, i⟩]) cells slots ∧ T'.heap = h' ∧ Wr h h' a i (.int x) ∧ Oar Z h' a k .int (vs.set i (.int x)) ∧ ∀ target, Steps p.tables e below (T'.setTop (mkF m (pc + 1) Ls rest)) target → Steps p.tables e below (T.setTop (mkF m pc Ls (.int x :: .int j :: .ref a :: rest))) target := by
  have F' := F
  obtain ⟨cl, A, -, q2, -⟩ := F
  obtain ⟨T', h', X', e', W, st⟩ := stI X hx hZ eT A (j := j) (x := x) (own_inb q2 hj hi) (g := mkF m pc Ls (.int x :: .int j :: .ref a :: rest)) rfl rfl hd
  rw [(own_idx hj).2] at X' W
  exact ⟨T', h', X', e', W, F'.set W, st⟩
theorem own_bastore (X : Stand p l e R s m args below meth c T locs cells slots) (hx : p.tables.exec = Jvm.exec) (hZ : Z.Warmed39 s.vm) (eT : T.heap = h) (F : Oar Z h a k .byte vs) (hj : j.toInt = (i : Int)) (hi : i < vs.length) {x y : Int32} (hy : x.toInt8.toInt32 = y) {pc : Nat} {Ls : Array Slot} {rest : List Value} (hd : decode c.code pc = .ok (.bastore, 1)) :
    ∃ T' h', Stand p l e R s m args below meth c T' (locs ++ [⟨a, i⟩]) cells slots ∧ T'.heap = h' ∧ Wr h h' a i (.int y) ∧ Oar Z h' a k .byte (vs.set i (.int y)) ∧ ∀ target, Steps p.tables e below (T'.setTop (mkF m (pc + 1) Ls rest)) target → Steps p.tables e below (T.setTop (mkF m pc Ls (.int x :: .int j :: .ref a :: rest))) target := by
  have F' := F
  obtain ⟨cl, A, -, q2, -⟩ := F
  obtain ⟨T', h', X', e', W, st⟩ := stB X hx hZ eT A (j := j) (x := x) (own_inb q2 hj hi) (g := mkF m pc Ls (.int x :: .int j :: .ref a :: rest)) rfl rfl hd
  subst hy
  rw [(own_idx hj).2] at X' W
  exact ⟨T', h', X', e', W, F'.set W, st⟩
theorem own_zastore (X : Stand p l e R s m args below meth c T locs cells slots) (hx : p.tables.exec = Jvm.exec) (hZ : Z.Warmed39 s.vm) (eT : T.heap = h) (F : Oar Z h a k .boolean vs) (hj : j.toInt = (i : Int)) (hi : i < vs.length) {x y : Int32} (hy : x &&& 1 = y) {pc : Nat} {Ls : Array Slot} {rest : List Value} (hd : decode c.code pc = .ok (.bastore, 1)) :
    ∃ T' h', Stand p l e R s m args below meth c T' (locs ++ [⟨a, i⟩]) cells slots ∧ T'.heap = h' ∧ Wr h h' a i (.int y) ∧ Oar Z h' a k .boolean (vs.set i (.int y)) ∧ ∀ target, Steps p.tables e below (T'.setTop (mkF m (pc + 1) Ls rest)) target → Steps p.tables e below (T.setTop (mkF m pc Ls (.int x :: .int j :: .ref a :: rest))) target := by
  have F' := F
  obtain ⟨cl, A, -, q2, -⟩ := F
  obtain ⟨T', h', X', e', W, st⟩ := stZ X hx hZ eT A (j := j) (x := x) (own_inb q2 hj hi) (g := mkF m pc Ls (.int x :: .int j :: .ref a :: rest)) rfl rfl hd
  subst hy
  rw [(own_idx hj).2] at X' W
  exact ⟨T', h', X', e', W, F'.set W, st⟩
theorem own_aastore (X : Stand p l e R s m args below meth c T locs cells slots) (hx : p.tables.exec = Jvm.exec) (hZ : Z.Warmed39 s.vm) (eT : T.heap = h) (F : Oar Z h a k ty vs) (hty : ty.isReference = true) (hj : j.toInt = (i : Int)) (hi : i < vs.length) (O : Sto Z h a v) {pc : Nat} {Ls : Array Slot} {rest : List Value} (hd : decode c.code pc = .ok (.aastore, 1)) :
    ∃ T' h', Stand p l e R s m args below meth c T' (locs ++ [⟨a, i⟩]) cells slots ∧ T'.heap = h' ∧ Wr h h' a i v ∧ Oar Z h' a k ty (vs.set i v) ∧ ∀ target, Steps p.tables e below (T'.setTop (mkF m (pc + 1) Ls rest)) target → Steps p.tables e below (T.setTop (mkF m pc Ls (v :: .int j :: .ref a :: rest))) target := by
  have F' := F
  obtain ⟨cl, A, -, q2, -⟩ := F
  obtain ⟨T', h', X', e', W, st⟩ := stR X hx hZ eT A (j := j) (v := v) (own_inb q2 hj hi) hty O (g := mkF m pc Ls (v :: .int j :: .ref a :: rest)) rfl rfl hd
  rw [(own_idx hj).2] at X' W
  exact ⟨T', h', X', e', W, F'.set W, st⟩
theorem own_newP (X : Stand p l e R s m args below meth c T locs cells slots) (hx : p.tables.exec = Jvm.exec) (hZ : Z.Warmed39 s.vm) {a0 : Array Value} {aty : ArrayType} (w : (Jvm.Cond.arrayClass (newarray.typeOf aty)).before a0 Z = true) (eT : T.heap = h) {z : Int32} {n cap : Nat} (hz : z.toInt = (n : Int)) (hcap : n ≤ cap) (hb : cap * 8 ≤ 536870912) (hc : cells + 1 ≤ R.cells) (hl : slots + cap ≤ R.slots) {pc : Nat} {Ls : Array Slot} {rest : List Value} (hd : decode c.code pc = .ok (.newarray aty, 2)) :
    ∃ T' h' cA, Stand p l e R s m args below meth c T' locs (cells + 1) (slots + cap) ∧ T'.heap = h' ∧ Ext h h' ∧ Oar Z h' h.size cA (newarray.typeOf aty) (List.replicate n (defaultValue (newarray.typeOf aty))) ∧ ∀ target, Steps p.tables e below (T'.setTop (mkF m (pc + 2) Ls (.ref h.size :: rest))) target → Steps p.tables e below (T.setTop (mkF m pc Ls (.int z :: rest))) target := by
  obtain ⟨q1, q2⟩ := own_idx hz
  obtain ⟨T', h', cA, X', e', E, A, st⟩ := newP X hx hZ w eT (g := mkF m pc Ls (.int z :: rest)) rfl hd rfl q1 (cap := cap) (by rw [q2]; exact hcap) hb hc hl
  exact ⟨T', h', cA, X', e', E, Oar.new A hz, st⟩
theorem own_newR (X : Stand p l e R s m args below meth c T locs cells slots) (hx : p.tables.exec = Jvm.exec) (hZ : Z.Warmed39 s.vm) {a0 : Array Value} {own C : String} {index : Nat} (hown : s.vm.findClass own = some m.cls) (w1 : (Jvm.Cond.classLink own index C).before a0 Z = true) (w2 : (Jvm.Cond.arrayOver (.object C)).before a0 Z = true) (eT : T.heap = h) {z : Int32} {n cap : Nat} (hz : z.toInt = (n : Int)) (hcap : n ≤ cap) (hb : cap * 8 ≤ 536870912) (hc : cells + 1 ≤ R.cells) (hl : slots + cap ≤ R.slots) {ad : String} (had : "[" ++ (FieldType.object C).toString = ad) {pc : Nat} {Ls : Array Slot} {rest : List Value} (hd : decode c.code pc = .ok (.anewarray index, 3)) :
    ∃ T' h' cA, Stand p l e R s m args below meth c T' locs (cells + 1) (slots + cap) ∧ T'.heap = h' ∧ Ext h h' ∧ Oar Z h' h.size cA (.object C) (List.replicate n .null) ∧ Exa Z h' h.size ad ∧ Ovr Z cA C ∧ ∀ target, Steps p.tables e below (T'.setTop (mkF m (pc + 3) Ls (.ref h.size :: rest))) target → Steps p.tables e below (T.setTop (mkF m pc Ls (.int z :: rest))) target := by
  obtain ⟨q1, q2⟩ := own_idx hz
  obtain ⟨T', h', cA, X', e', E, A, EE, O, st⟩ := newRE X hx hZ hown w1 w2 eT (g := mkF m pc Ls (.int z :: rest)) rfl hd rfl q1 (cap := cap) (by rw [q2]; exact hcap) hb hc hl had
  exact ⟨T', h', cA, X', e', E, Oar.new A hz, EE, O, st⟩
theorem own_newRA (X : Stand p l e R s m args below meth c T locs cells slots) (hx : p.tables.exec = Jvm.exec) (hZ : Z.Warmed39 s.vm) {a0 : Array Value} {own C : String} {t : FieldType} {index : Nat} (hown : s.vm.findClass own = some m.cls) (hC : (FieldType.array t).toString = C) (w1 : (Jvm.Cond.classLink own index C).before a0 Z = true) (w2 : (Jvm.Cond.arrayOver (.array t)).before a0 Z = true) (eT : T.heap = h) {z : Int32} {n cap : Nat} (hz : z.toInt = (n : Int)) (hcap : n ≤ cap) (hb : cap * 8 ≤ 536870912) (hc : cells + 1 ≤ R.cells) (hl : slots + cap ≤ R.slots) {ad : String} (had : "[" ++ C = ad) {pc : Nat} {Ls : Array Slot} {rest : List Value} (hd : decode c.code pc = .ok (.anewarray index, 3)) :
    ∃ T' h' cA, Stand p l e R s m args below meth c T' locs (cells + 1) (slots + cap) ∧ T'.heap = h' ∧ Ext h h' ∧ Oar Z h' h.size cA (.array t) (List.replicate n .null) ∧ Exa Z h' h.size ad ∧ OvrA Z cA t C ∧ ∀ target, Steps p.tables e below (T'.setTop (mkF m (pc + 3) Ls (.ref h.size :: rest))) target → Steps p.tables e below (T.setTop (mkF m pc Ls (.int z :: rest))) target := by
  obtain ⟨q1, q2⟩ := own_idx hz
  obtain ⟨T', h', cA, X', e', E, A, EE, O, st⟩ := newRA X hx hZ hown hC w1 w2 eT (g := mkF m pc Ls (.int z :: rest)) rfl hd rfl q1 (cap := cap) (by rw [q2]; exact hcap) hb hc hl had
  exact ⟨T', h', cA, X', e', E, Oar.new A hz, EE, O, st⟩
theorem own_sto {y : Addr} {C : String} (F : Oar Z h a k ty vs) (O : Ovr Z k C) (I : Ins Z h y C true) : Sto Z h a (.ref y) := by
  obtain ⟨cl, A, q, -, -⟩ := F; exact Sto.ofV A q O I
theorem own_clone (X : Stand p l e R s m args below meth c T locs cells slots) (hx : p.tables.exec = Jvm.exec) (hZ : Z.Warmed39 s.vm) {a0 : Array Value} {own ad : String} {index : Nat} (hown : s.vm.findClass own = some m.cls)
    (w1 : (Jvm.Cond.methodLink own index ⟨ad, "clone", "()Ljava/lang/Object;"⟩).before a0 Z = true) (w2 : (Jvm.Cond.sameMethod ad "java/lang/Object" "clone" "()Ljava/lang/Object;").before a0 Z = true) (w3 : (Jvm.Cond.native ⟨"java/lang/Object", "clone", "()Ljava/lang/Object;"⟩).before a0 Z = true)
    (w4 : (Jvm.Cond.instanceMethod ⟨"java/lang/Object", "clone", "()Ljava/lang/Object;"⟩).before a0 Z = true) (w5 : (Jvm.Cond.selects ad ⟨ad, "clone", "()Ljava/lang/Object;"⟩ ⟨"java/lang/Object", "clone", "()Ljava/lang/Object;"⟩).before a0 Z = true) (w6 : (Jvm.Cond.castable ad "java/lang/Cloneable").before a0 Z = true)
    (eT : T.heap = h) (F : Oar Z h a k ty vs) (hv : ∀ v ∈ vs, fits ty v = true) (E : Exa Z h a ad) {g : JFrame} (hg : g.method = m) (hsize : g.locals.size = c.maxLocals) {rest : List Value} (hs : g.stack = .ref a :: rest) (hd : decode c.code g.pc = .ok (.invokevirtual index, 3))
    (hf : 1 ≤ R.frames) {W cap : Nat} (hW : 2 * g.monitorRoom + (rest.map fun v => v.category).sum ≤ W) (hl : W + 14 ≤ R.locals) (hcap : vs.length ≤ cap) (hc : cells + 1 ≤ R.cells) (hsl : slots + cap ≤ R.slots) :
    ∃ T' h', Stand p l e R s m args below meth c T' locs (cells + 1) (slots + cap) ∧ T'.heap = h' ∧ Ext h h' ∧ Oar Z h' h.size k ty vs ∧ Exa Z h' h.size ad ∧
      ∀ target, Steps p.tables e below (T'.setTop { g with pc := g.pc + 3, stack := .ref h.size :: rest }) target → Steps p.tables e below (T.setTop g) target := by
  obtain ⟨cl, A, q1, q2, q3⟩ := F
  have FC : FitC Z cl := fitC_of A fun i hi v hv' => hv v (by
    rw [q2] at hv'
    exact List.mem_of_getElem? (i := i) (by simpa using hv'))
  obtain ⟨T', h', X', e', ex, A', E', st⟩ := cloneA X hx hZ hown w1 w2 w3 w4 w5 w6 eT A E FC hg hsize hs hd hf hW hl (cap := cap) (by rw [q2]; simpa using hcap) hc hsl
  exact ⟨T', h', X', e', ex, ⟨cloneOf cl, A', q1, q2, q3⟩, E', st⟩
end OwnArr
theorem own_iteH {α : Sort _} {P : α → Prop} {c : Prop} [Decidable c] {a b : α} (ha : c → P a) (hb : ¬ c → P b) : P (if c then a else b) := by
  split
  · rename_i q; exact ha q
  · rename_i q; exact hb q
theorem own_narR {t : FieldType} {v : Value} (h : v.isRef = true) : narrow t v = v := by
  rcases ref_cases h with rfl | ⟨y, rfl⟩ <;> cases t <;> rfl
/-- a private method is selected by its own class, where the sheet bears no such word -/
theorem own_selP {Z s : State} {a0 args : Array Value} {y : MethodName} {n : Nat} (hZ : Z.Warmed39 s.vm) (wi : (Jvm.Cond.instantiable y.cls n).before a0 Z = true) (wp : (Jvm.Cond.privateMethod y).before a0 Z = true) (wm : (Jvm.Cond.instanceMethod y).before a0 Z = true) (hy : y.cls ≠ "java/lang/invoke/MethodHandle" ∧ y.cls ≠ "java/lang/invoke/VarHandle") : (Jvm.Cond.selects y.cls y y).before args s = true := by
  obtain ⟨c, k, h1, h2, -, h4, -⟩ := Cond.instantiable_spec (mv (args := args) hZ wi)
  exact Stand.selects_self_of_private h1 h2 (by cases hk : k.isInterface <;> simp_all) (Cond.privateMethod_at (mvP hZ wp (args := args))) (mv hZ wm) hy
end Jvm.RoadKit
namespace Jvm.RoadKit
open Sem ClassFile Op Lib Jvm.Stand Jvm.Free Jvm.LawKit
/-- an element that is a named object -/
theorem own_elemR {args : Array Value} {s : State} {t u : Term} {j : Int32} {a : Addr} (h : (Jvm.Cond.eq (Term.elem t (Term.int j)) u).value args s none s [] = some true) (ev : u.eval args s none [] s = some (.ref a)) : (Term.elem t (Term.int j)).eval args s none [] s = some (.ref a) := by
  obtain ⟨x, y, e1, e2, k1, k2⟩ := cmp_v (Or.inl h)
  cases e2.symm.trans ev
  have hx : x.isRef = true := by cases x <;> simp_all [Kin]
  rcases ref_cases hx with rfl | ⟨b, rfl⟩
  · simp [Jvm.Cond.value, e1, e2] at h
  · have q : b = a := by simpa [Jvm.Cond.value, e1, e2] using h
    rw [e1, q]
/-- an array of the start, element by element -/
theorem own_arr {args : Array Value} {s : State} {t : Term} {a : Addr} {ty : FieldType} {vs : List Value} {n : Int32} (hfit : Fit s) (ev : t.eval args s none [] s = some (.ref a)) (h1 : (Jvm.Cond.arrayOf t ty).value args s none s [] = some true) (h2 : (Jvm.Cond.eq (Term.length t) (Term.int n)).value args s none s [] = some true)
    (hn : n.toInt = (vs.length : Int)) (hel : ∀ (j : Nat) (hj : j < vs.length), (Term.elem t (Term.int (Int32.ofNat j))).eval args s none [] s = some vs[j]) : ∃ k, Oar s s.heap a k ty vs := by
  obtain ⟨c, A⟩ := Arr.start ev h1
  obtain ⟨x, y, e1, e2, -, k2⟩ := cmp_v (Or.inl h2)
  cases (Option.some.inj (e2.symm.trans (Term.int_eval n)) : y = .int n)
  obtain ⟨z, rfl⟩ := k2
  have q : z = n := by simpa [Jvm.Cond.value, e1, e2] using h2
  subst q
  have hlt : vs.length < 2 ^ 31 := by have := z.toInt_lt; omega
  have hat := A.fin (Vm.Alike.refl _)
  have hsz : c.slots.size = vs.length := by
    by_cases hb : c.slots.size < 2 ^ 31
    · have e3 := len_f ev hat hb
      rw [e1] at e3
      have e4 : z = c.slots.size.toInt32 := by injection e3 with e3; injection e3
      have e5 := len_toInt hb
      rw [← e4, hn] at e5
      omega
    · simp [Term.eval, ev, hat, hb] at e1
  refine ⟨c.cls, c, A, rfl, ?_, hlt⟩
  apply Array.ext
  · simp [hsz]
  · intro i h3 h4
    have hi : i < vs.length := by simpa using h4
    have e6 := hel i hi
    have hj : (Int32.ofNat i).toInt = (i : Int) := Int32.toInt_ofNat_small (by omega)
    have e7 := elem_in e6 ev (Term.int_eval _) A.1
    rw [(own_idx hj).2] at e7
    have e8 := e7.2
    rw [Array.getElem?_eq_getElem h3] at e8
    injection e8 with e8
    try simpa using e8
end Jvm.RoadKit
namespace Jvm.RoadKit
open Sem ClassFile Op Lib Jvm.Stand Jvm.Free Jvm.LawKit
/-- an array of the start of which the length alone is known -/
theorem own_arrN {args : Array Value} {s : State} {t : Term} {a : Addr} {ty : FieldType} {n : Int32} {k : Nat} (ev : t.eval args s none [] s = some (.ref a)) (h1 : (Jvm.Cond.arrayOf t ty).value args s none s [] = some true) (h2 : (Jvm.Cond.eq (Term.length t) (Term.int n)).value args s none s [] = some true) (hn : n.toInt = (k : Int)) : ∃ kk vs, Oar s s.heap a kk ty vs ∧ vs.length = k := by
  obtain ⟨c, A⟩ := Arr.start ev h1
  obtain ⟨x, y, e1, e2, -, k2⟩ := cmp_v (Or.inl h2)
  cases (Option.some.inj (e2.symm.trans (Term.int_eval n)) : y = .int n)
  obtain ⟨z, rfl⟩ := k2
  have q : z = n := by simpa [Jvm.Cond.value, e1, e2] using h2
  subst q
  have hlt : k < 2 ^ 31 := by have := z.toInt_lt; omega
  have hat := A.fin (Vm.Alike.refl _)
  have hsz : c.slots.size = k := by
    by_cases hb : c.slots.size < 2 ^ 31
    · have e3 := len_f ev hat hb
      rw [e1] at e3
      have e4 : z = c.slots.size.toInt32 := by injection e3 with e3; injection e3
      have e5 := len_toInt hb
      rw [← e4, hn] at e5
      omega
    · simp [Term.eval, ev, hat, hb] at e1
  exact ⟨c.cls, c.slots.toList, ⟨c, A, rfl, by simp, by simp [hsz, hlt]⟩, by simp [hsz]⟩
end Jvm.RoadKit
namespace Jvm.Pilot.@@N@@
open Jvm Jvm.ClassFile Sem Op Lib Jvm.Free Jvm.Stand Jvm.LawKit Jvm.RoadKit Bundle Jvm.Pilot.@@N@@.Jvm.D
theorem d7_0 : decode prog_34_method_16_code 0 = .ok (.lconst 0, 1) := by decide +kernel
theorem d7_1 : decode prog_34_method_16_code 1 = .ok (.lstore_n 1, 1) := by decide +kernel
theorem d7_2 : decode prog_34_method_16_code 2 = .ok (.iconst 0, 1) := by decide +kernel
theorem d7_3 : decode prog_34_method_16_code 3 = .ok (.istore_n 3, 1) := by decide +kernel
theorem d7_4 : decode prog_34_method_16_code 4 = .ok (.iload_n 3, 1) := by decide +kernel
theorem d7_5 : decode prog_34_method_16_code 5 = .ok (.bipush 64, 2) := by decide +kernel
theorem d7_7 : decode prog_34_method_16_code 7 = .ok (.if_icmp .ge 87, 3) := by decide +kernel
theorem d7_10 : decode prog_34_method_16_code 10 = .ok (.aload_n 0, 1) := by decide +kernel
theorem d7_11 : decode prog_34_method_16_code 11 = .ok (.getfield 16, 3) := by decide +kernel
theorem d7_14 : decode prog_34_method_16_code 14 = .ok (.aload_n 0, 1) := by decide +kernel
theorem d7_15 : decode prog_34_method_16_code 15 = .ok (.getfield 20, 3) := by decide +kernel
theorem d7_18 : decode prog_34_method_16_code 18 = .ok (.if_icmp .ne 8, 3) := by decide +kernel
theorem d7_26 : decode prog_34_method_16_code 26 = .ok (.aload_n 0, 1) := by decide +kernel
theorem d7_27 : decode prog_34_method_16_code 27 = .ok (.getfield 12, 3) := by decide +kernel
theorem d7_30 : decode prog_34_method_16_code 30 = .ok (.aload_n 0, 1) := by decide +kernel
theorem d7_31 : decode prog_34_method_16_code 31 = .ok (.dup, 1) := by decide +kernel
theorem d7_32 : decode prog_34_method_16_code 32 = .ok (.getfield 16, 3) := by decide +kernel
theorem d7_35 : decode prog_34_method_16_code 35 = .ok (.dup_x1, 1) := by decide +kernel
theorem d7_36 : decode prog_34_method_16_code 36 = .ok (.iconst 1, 1) := by decide +kernel
theorem d7_37 : decode prog_34_method_16_code 37 = .ok (.iadd, 1) := by decide +kernel
theorem d7_38 : decode prog_34_method_16_code 38 = .ok (.putfield 16, 3) := by decide +kernel
theorem d7_41 : decode prog_34_method_16_code 41 = .ok (.baload, 1) := by decide +kernel
theorem d7_42 : decode prog_34_method_16_code 42 = .ok (.istore 4, 2) := by decide +kernel
theorem d7_44 : decode prog_34_method_16_code 44 = .ok (.lload_n 1, 1) := by decide +kernel
theorem d7_45 : decode prog_34_method_16_code 45 = .ok (.iload 4, 2) := by decide +kernel
theorem d7_47 : decode prog_34_method_16_code 47 = .ok (.bipush 127, 2) := by decide +kernel
theorem d7_49 : decode prog_34_method_16_code 49 = .ok (.iand, 1) := by decide +kernel
theorem d7_50 : decode prog_34_method_16_code 50 = .ok (.i2l, 1) := by decide +kernel
theorem d7_51 : decode prog_34_method_16_code 51 = .ok (.iload_n 3, 1) := by decide +kernel
theorem d7_52 : decode prog_34_method_16_code 52 = .ok (.lshl, 1) := by decide +kernel
theorem d7_53 : decode prog_34_method_16_code 53 = .ok (.lor, 1) := by decide +kernel
theorem d7_54 : decode prog_34_method_16_code 54 = .ok (.lstore_n 1, 1) := by decide +kernel
theorem d7_55 : decode prog_34_method_16_code 55 = .ok (.iload 4, 2) := by decide +kernel
theorem d7_57 : decode prog_34_method_16_code 57 = .ok (.ifCond .lt 31, 3) := by decide +kernel
theorem d7_60 : decode prog_34_method_16_code 60 = .ok (.iload_n 3, 1) := by decide +kernel
theorem d7_61 : decode prog_34_method_16_code 61 = .ok (.bipush 63, 2) := by decide +kernel
theorem d7_63 : decode prog_34_method_16_code 63 = .ok (.if_icmp .ne 23, 3) := by decide +kernel
theorem d7_66 : decode prog_34_method_16_code 66 = .ok (.iload 4, 2) := by decide +kernel
theorem d7_68 : decode prog_34_method_16_code 68 = .ok (.iconst 1, 1) := by decide +kernel
theorem d7_69 : decode prog_34_method_16_code 69 = .ok (.if_icmp .le 17, 3) := by decide +kernel
theorem d7_86 : decode prog_34_method_16_code 86 = .ok (.lload_n 1, 1) := by decide +kernel
theorem d7_87 : decode prog_34_method_16_code 87 = .ok (.lreturn, 1) := by decide +kernel
theorem d7_88 : decode prog_34_method_16_code 88 = .ok (.iinc 3 7, 3) := by decide +kernel
theorem d7_91 : decode prog_34_method_16_code 91 = .ok (.goto (-87), 3) := by decide +kernel
theorem pn_com_example_fillwire_fillwire_codec_ProtoReader : plainName "com/example/fillwire/fillwire/codec/ProtoReader" = true := by first | (simp [plainName, overriddenIn]; done) | decide +kernel
theorem d6_0 : decode prog_34_method_14_code 0 = .ok (.aload_n 0, 1) := by decide +kernel
theorem d6_1 : decode prog_34_method_14_code 1 = .ok (.iconst 0, 1) := by decide +kernel
theorem d6_2 : decode prog_34_method_14_code 2 = .ok (.putfield 33, 3) := by decide +kernel
theorem d6_5 : decode prog_34_method_14_code 5 = .ok (.aload_n 0, 1) := by decide +kernel
theorem d6_6 : decode prog_34_method_14_code 6 = .ok (.invokevirtual 48, 3) := by decide +kernel
theorem pd_1 : parseMethodDescriptor "()J" = some ⟨[], some .long⟩ := by decide +kernel
theorem d6_9 : decode prog_34_method_14_code 9 = .ok (.lstore_n 1, 1) := by decide +kernel
theorem d6_10 : decode prog_34_method_14_code 10 = .ok (.lload_n 1, 1) := by decide +kernel
theorem d6_11 : decode prog_34_method_14_code 11 = .ok (.iconst 3, 1) := by decide +kernel
theorem d6_12 : decode prog_34_method_14_code 12 = .ok (.lushr, 1) := by decide +kernel
theorem d6_13 : decode prog_34_method_14_code 13 = .ok (.lstore_n 3, 1) := by decide +kernel
theorem d6_14 : decode prog_34_method_14_code 14 = .ok (.lload_n 3, 1) := by decide +kernel
theorem d6_15 : decode prog_34_method_14_code 15 = .ok (.lconst 0, 1) := by decide +kernel
theorem d6_16 : decode prog_34_method_14_code 16 = .ok (.lcmp, 1) := by decide +kernel
theorem d6_17 : decode prog_34_method_14_code 17 = .ok (.ifCond .eq 11, 3) := by decide +kernel
theorem d6_20 : decode prog_34_method_14_code 20 = .ok (.lload_n 3, 1) := by decide +kernel
theorem d6_21 : decode prog_34_method_14_code 21 = .ok (.ldc2_w 93, 3) := by decide +kernel
theorem d6_24 : decode prog_34_method_14_code 24 = .ok (.lcmp, 1) := by decide +kernel
theorem d6_25 : decode prog_34_method_14_code 25 = .ok (.ifCond .le 17, 3) := by decide +kernel
theorem d6_42 : decode prog_34_method_14_code 42 = .ok (.aload_n 0, 1) := by decide +kernel
theorem d6_43 : decode prog_34_method_14_code 43 = .ok (.lload_n 3, 1) := by decide +kernel
theorem d6_44 : decode prog_34_method_14_code 44 = .ok (.l2i, 1) := by decide +kernel
theorem d6_45 : decode prog_34_method_14_code 45 = .ok (.putfield 33, 3) := by decide +kernel
theorem d6_48 : decode prog_34_method_14_code 48 = .ok (.aload_n 0, 1) := by decide +kernel
theorem d6_49 : decode prog_34_method_14_code 49 = .ok (.lload_n 1, 1) := by decide +kernel
theorem d6_50 : decode prog_34_method_14_code 50 = .ok (.l2i, 1) := by decide +kernel
theorem d6_51 : decode prog_34_method_14_code 51 = .ok (.bipush 7, 2) := by decide +kernel
theorem d6_53 : decode prog_34_method_14_code 53 = .ok (.iand, 1) := by decide +kernel
theorem d6_54 : decode prog_34_method_14_code 54 = .ok (.putfield 30, 3) := by decide +kernel
theorem d6_57 : decode prog_34_method_14_code 57 = .ok (.aload_n 0, 1) := by decide +kernel
theorem d6_58 : decode prog_34_method_14_code 58 = .ok (.getfield 30, 3) := by decide +kernel
theorem d6_61 : decode prog_34_method_14_code 61 = .ok (.getstatic 104, 3) := by decide +kernel
theorem d6_64 : decode prog_34_method_14_code 64 = .ok (.arraylength, 1) := by decide +kernel
theorem d6_65 : decode prog_34_method_14_code 65 = .ok (.if_icmp .lt 21, 3) := by decide +kernel
theorem d6_86 : decode prog_34_method_14_code 86 = .ok (.return_, 1) := by decide +kernel
theorem d5_0 : decode prog_34_method_3_code 0 = .ok (.aload_n 0, 1) := by decide +kernel
theorem d5_1 : decode prog_34_method_3_code 1 = .ok (.getfield 16, 3) := by decide +kernel
theorem d5_4 : decode prog_34_method_3_code 4 = .ok (.aload_n 0, 1) := by decide +kernel
theorem d5_5 : decode prog_34_method_3_code 5 = .ok (.getfield 20, 3) := by decide +kernel
theorem d5_8 : decode prog_34_method_3_code 8 = .ok (.if_icmp .ne 5, 3) := by decide +kernel
theorem d5_13 : decode prog_34_method_3_code 13 = .ok (.aload_n 0, 1) := by decide +kernel
theorem d5_14 : decode prog_34_method_3_code 14 = .ok (.invokevirtual 27, 3) := by decide +kernel
theorem pd_2 : parseMethodDescriptor "()V" = some ⟨[], none⟩ := by decide +kernel
theorem d5_17 : decode prog_34_method_3_code 17 = .ok (.aload_n 0, 1) := by decide +kernel
theorem d5_18 : decode prog_34_method_3_code 18 = .ok (.getfield 30, 3) := by decide +kernel
theorem d5_21 : decode prog_34_method_3_code 21 = .ok (.iconst 4, 1) := by decide +kernel
theorem d5_22 : decode prog_34_method_3_code 22 = .ok (.if_icmp .ne 17, 3) := by decide +kernel
theorem d5_39 : decode prog_34_method_3_code 39 = .ok (.iconst 1, 1) := by decide +kernel
theorem d5_40 : decode prog_34_method_3_code 40 = .ok (.ireturn, 1) := by decide +kernel
theorem d3_0 : decode prog_34_method_2_code 0 = .ok (.aload_n 0, 1) := by decide +kernel
theorem d3_1 : decode prog_34_method_2_code 1 = .ok (.invokespecial 7, 3) := by decide +kernel
theorem d3_4 : decode prog_34_method_2_code 4 = .ok (.aload_n 0, 1) := by decide +kernel
theorem d3_5 : decode prog_34_method_2_code 5 = .ok (.aload_n 1, 1) := by decide +kernel
theorem d3_6 : decode prog_34_method_2_code 6 = .ok (.putfield 12, 3) := by decide +kernel
theorem d3_9 : decode prog_34_method_2_code 9 = .ok (.aload_n 0, 1) := by decide +kernel
theorem d3_10 : decode prog_34_method_2_code 10 = .ok (.iload_n 2, 1) := by decide +kernel
theorem d3_11 : decode prog_34_method_2_code 11 = .ok (.putfield 16, 3) := by decide +kernel
theorem d3_14 : decode prog_34_method_2_code 14 = .ok (.aload_n 0, 1) := by decide +kernel
theorem d3_15 : decode prog_34_method_2_code 15 = .ok (.iload_n 3, 1) := by decide +kernel
theorem d3_16 : decode prog_34_method_2_code 16 = .ok (.putfield 20, 3) := by decide +kernel
theorem d3_19 : decode prog_34_method_2_code 19 = .ok (.aload_n 0, 1) := by decide +kernel
theorem d3_20 : decode prog_34_method_2_code 20 = .ok (.aload 4, 2) := by decide +kernel
theorem d3_22 : decode prog_34_method_2_code 22 = .ok (.putfield 23, 3) := by decide +kernel
theorem d3_25 : decode prog_34_method_2_code 25 = .ok (.return_, 1) := by decide +kernel
theorem d2_0 : decode prog_34_method_1_code 0 = .ok (.aload_n 0, 1) := by decide +kernel
theorem d2_1 : decode prog_34_method_1_code 1 = .ok (.aload_n 1, 1) := by decide +kernel
theorem d2_2 : decode prog_34_method_1_code 2 = .ok (.iconst 0, 1) := by decide +kernel
theorem d2_3 : decode prog_34_method_1_code 3 = .ok (.aload_n 1, 1) := by decide +kernel
theorem d2_4 : decode prog_34_method_1_code 4 = .ok (.arraylength, 1) := by decide +kernel
theorem d2_5 : decode prog_34_method_1_code 5 = .ok (.aload_n 2, 1) := by decide +kernel
theorem d2_6 : decode prog_34_method_1_code 6 = .ok (.invokespecial 1, 3) := by decide +kernel
theorem pd_6 : parseMethodDescriptor "([BIILjava/lang/String;)V" = some ⟨[(.array .byte), .int, .int, (.object "java/lang/String")], none⟩ := by decide +kernel
theorem d2_9 : decode prog_34_method_1_code 9 = .ok (.return_, 1) := by decide +kernel
theorem d10_0 : decode prog_34_method_15_code 0 = .ok (.aload_n 0, 1) := by decide +kernel
theorem d10_1 : decode prog_34_method_15_code 1 = .ok (.getfield 30, 3) := by decide +kernel
theorem d10_4 : decode prog_34_method_15_code 4 = .ok (.iload_n 1, 1) := by decide +kernel
theorem d10_5 : decode prog_34_method_15_code 5 = .ok (.if_icmp .eq 30, 3) := by decide +kernel
theorem d10_35 : decode prog_34_method_15_code 35 = .ok (.return_, 1) := by decide +kernel
theorem d9_0 : decode prog_34_method_5_code 0 = .ok (.aload_n 0, 1) := by decide +kernel
theorem d9_1 : decode prog_34_method_5_code 1 = .ok (.iconst 0, 1) := by decide +kernel
theorem d9_2 : decode prog_34_method_5_code 2 = .ok (.invokevirtual 44, 3) := by decide +kernel
theorem pd_4 : parseMethodDescriptor "(I)V" = some ⟨[.int], none⟩ := by decide +kernel
theorem d9_5 : decode prog_34_method_5_code 5 = .ok (.aload_n 0, 1) := by decide +kernel
theorem d9_6 : decode prog_34_method_5_code 6 = .ok (.invokevirtual 48, 3) := by decide +kernel
theorem d9_9 : decode prog_34_method_5_code 9 = .ok (.lreturn, 1) := by decide +kernel
theorem d8_0 : decode prog_34_method_8_code 0 = .ok (.aload_n 0, 1) := by decide +kernel
theorem d8_1 : decode prog_34_method_8_code 1 = .ok (.invokevirtual 52, 3) := by decide +kernel
theorem d8_4 : decode prog_34_method_8_code 4 = .ok (.l2i, 1) := by decide +kernel
theorem d8_5 : decode prog_34_method_8_code 5 = .ok (.istore_n 1, 1) := by decide +kernel
theorem d8_6 : decode prog_34_method_8_code 6 = .ok (.iload_n 1, 1) := by decide +kernel
theorem d8_7 : decode prog_34_method_8_code 7 = .ok (.iconst 1, 1) := by decide +kernel
theorem d8_8 : decode prog_34_method_8_code 8 = .ok (.iushr, 1) := by decide +kernel
theorem d8_9 : decode prog_34_method_8_code 9 = .ok (.iload_n 1, 1) := by decide +kernel
theorem d8_10 : decode prog_34_method_8_code 10 = .ok (.iconst 1, 1) := by decide +kernel
theorem d8_11 : decode prog_34_method_8_code 11 = .ok (.iand, 1) := by decide +kernel
theorem d8_12 : decode prog_34_method_8_code 12 = .ok (.ineg, 1) := by decide +kernel
theorem d8_13 : decode prog_34_method_8_code 13 = .ok (.ixor, 1) := by decide +kernel
theorem d8_14 : decode prog_34_method_8_code 14 = .ok (.ireturn, 1) := by decide +kernel
theorem d1_0 : decode method_2_code 0 = .ok (.lload_n 0, 1) := by decide +kernel
theorem d1_1 : decode method_2_code 1 = .ok (.bipush 7, 2) := by decide +kernel
theorem d1_3 : decode method_2_code 3 = .ok (.iload_n 2, 1) := by decide +kernel
theorem d1_4 : decode method_2_code 4 = .ok (.imul, 1) := by decide +kernel
theorem d1_5 : decode method_2_code 5 = .ok (.lushr, 1) := by decide +kernel
theorem d1_6 : decode method_2_code 6 = .ok (.ldc2_w 7, 3) := by decide +kernel
theorem d1_9 : decode method_2_code 9 = .ok (.land, 1) := by decide +kernel
theorem d1_10 : decode method_2_code 10 = .ok (.lstore 4, 2) := by decide +kernel
theorem d1_12 : decode method_2_code 12 = .ok (.iload_n 2, 1) := by decide +kernel
theorem d1_13 : decode method_2_code 13 = .ok (.iload_n 3, 1) := by decide +kernel
theorem d1_14 : decode method_2_code 14 = .ok (.iconst 1, 1) := by decide +kernel
theorem d1_15 : decode method_2_code 15 = .ok (.isub, 1) := by decide +kernel
theorem d1_16 : decode method_2_code 16 = .ok (.if_icmp .ge 12, 3) := by decide +kernel
theorem d1_19 : decode method_2_code 19 = .ok (.lload 4, 2) := by decide +kernel
theorem d1_21 : decode method_2_code 21 = .ok (.ldc2_w 9, 3) := by decide +kernel
theorem d1_24 : decode method_2_code 24 = .ok (.lor, 1) := by decide +kernel
theorem d1_25 : decode method_2_code 25 = .ok (.l2i, 1) := by decide +kernel
theorem d1_26 : decode method_2_code 26 = .ok (.i2b, 1) := by decide +kernel
theorem d1_27 : decode method_2_code 27 = .ok (.ireturn, 1) := by decide +kernel
theorem d1_28 : decode method_2_code 28 = .ok (.iload_n 2, 1) := by decide +kernel
theorem d1_29 : decode method_2_code 29 = .ok (.iload_n 3, 1) := by decide +kernel
theorem d1_30 : decode method_2_code 30 = .ok (.iconst 1, 1) := by decide +kernel
theorem d1_31 : decode method_2_code 31 = .ok (.isub, 1) := by decide +kernel
theorem d1_32 : decode method_2_code 32 = .ok (.if_icmp .ne 8, 3) := by decide +kernel
theorem d1_35 : decode method_2_code 35 = .ok (.lload 4, 2) := by decide +kernel
theorem d1_37 : decode method_2_code 37 = .ok (.l2i, 1) := by decide +kernel
theorem d1_38 : decode method_2_code 38 = .ok (.i2b, 1) := by decide +kernel
theorem d1_39 : decode method_2_code 39 = .ok (.ireturn, 1) := by decide +kernel
theorem d1_40 : decode method_2_code 40 = .ok (.iconst 0, 1) := by decide +kernel
theorem d1_41 : decode method_2_code 41 = .ok (.ireturn, 1) := by decide +kernel
theorem pn_com_example_fillwire_fillwire_codec_ProtoReaderSint32PinLaw : plainName "com/example/fillwire/fillwire/codec/ProtoReaderSint32PinLaw" = true := by first | (simp [plainName, overriddenIn]; done) | decide +kernel
theorem pd_5 : parseMethodDescriptor "(JII)B" = some ⟨[.long, .int, .int], some .byte⟩ := by decide +kernel
theorem pd_7 : parseMethodDescriptor "([BLjava/lang/String;)V" = some ⟨[(.array .byte), (.object "java/lang/String")], none⟩ := by decide +kernel
theorem pd_3 : parseMethodDescriptor "()Z" = some ⟨[], some .boolean⟩ := by decide +kernel
theorem pd_0 : parseMethodDescriptor "()I" = some ⟨[], some .int⟩ := by decide +kernel
/-- the shift, the position and the value behind i turns of the loop -/
def vsh : Nat → Int32
  | 0 => (0 : Int32)
  | i + 1 => (vsh i) + (7 : Int32)
def vpo (p : Int32) : Nat → Int32
  | 0 => p
  | i + 1 => (vpo p i) + (1 : Int32)
def vac (f : Nat → Int32) : Nat → Int64
  | 0 => (0 : Int64)
  | i + 1 => ((vac f i) ||| ((((f i) &&& (127 : Int32)).toInt64) <<< ((vsh i) &&& 0x3f).toInt64))
theorem vsh_val : ∀ i : Nat, i ≤ 100 → (vsh i).toInt = 7 * (i : Int)
  | 0, _ => by decide
  | i + 1, h => by
    have q := vsh_val i (by omega)
    have e : (vsh (i + 1)).toInt = ((vsh i) + (7 : Int32)).toInt := rfl
    have c := c_iadd (vsh i) (7 : Int32)
    have r := rng32 ((vsh i) + (7 : Int32))
    have s7 : (7 : Int32).toInt = 7 := by decide
    rw [e]; rw [q, s7] at c; omega
theorem vpo_val (p : Int32) : ∀ i : Nat, i ≤ 100 → 0 ≤ p.toInt → p.toInt < 2000000000 → (vpo p i).toInt = p.toInt + (i : Int)
  | 0, _, _, _ => by show p.toInt = _; omega
  | i + 1, h, h1, h2 => by
    have q := vpo_val p i (by omega) h1 h2
    have e : (vpo p (i + 1)).toInt = ((vpo p i) + (1 : Int32)).toInt := rfl
    have c := c_iadd (vpo p i) (1 : Int32)
    have r := rng32 ((vpo p i) + (1 : Int32))
    have s1 : (1 : Int32).toInt = 1 := by decide
    rw [e]; rw [q, s1] at c; omega
theorem own_lt32 {x y : Int32} (h : x.toInt < y.toInt) : x < y := Int32.lt_iff_toInt_lt.mpr h
theorem own_nlt32 {x y : Int32} (h : y.toInt ≤ x.toInt) : ¬ x < y := fun q => by have := Int32.lt_iff_toInt_lt.mp q; omega
theorem own_sh9 (i kv : Nat) (h : i = kv) (hb : i ≤ 100) (q : vsh i = (63 : Int32)) : kv = 9 := by
  have e := vsh_val i hb
  rw [q, (by decide : (63 : Int32).toInt = 63)] at e
  omega
theorem own_nb (x : Int32) : nar .byte (x.toInt8.toInt32) = x.toInt8.toInt32 := by simp [nar]

theorem ef_rm7 (m : MethodId) (r0 : Addr) : entryFrame m #[(.ref r0)] 5 = mkF m 0 #[.val (.ref r0), .unset, .unset, .unset, .unset] [] := by first | (simp [entryFrame, mkF, argsToLocals, Value.category]; done) | rfl
def Qrm7 (Z : State) (r0 : Addr) (ba : Addr) (pp : Int32) (en : Int32) (ff : Int32) (wt : Int32) (kA : ClassId) (vs : List Value) (fv : Nat → Int32) (kv : Nat) (h0 : Heap) (n0 : Nat) (v : Option Value) (h : Heap) (L : List Loc) : Prop := v = some (Value.long (vac fv (kv + 1))) ∧ Fr n0 L ∧ Keep h0 h [r0] ∧ Exa Z h r0 "com/example/fillwire/fillwire/codec/ProtoReader" ∧ Fld Z h r0 "com/example/fillwire/fillwire/codec/ProtoReader" "bytes" "[B" (.ref ba) ∧ Fld Z h r0 "com/example/fillwire/fillwire/codec/ProtoReader" "position" "I" (.int (vpo pp (kv + 1))) ∧ Fld Z h r0 "com/example/fillwire/fillwire/codec/ProtoReader" "end" "I" (.int en) ∧ Fld Z h r0 "com/example/fillwire/fillwire/codec/ProtoReader" "field" "I" (.int ff) ∧ Fld Z h r0 "com/example/fillwire/fillwire/codec/ProtoReader" "wireType" "I" (.int wt)
set_option maxRecDepth 65536 in
set_option maxHeartbeats 40000000 in
theorem rm7 (l : Launch) (Z : State) (a0 : Array Value) (hw : ∀ d ∈ tables_1, d.before a0 Z = true) (ws : List Jvm.Cond) (r0 : Addr) (ba : Addr) (pp : Int32) (en : Int32) (ff : Int32) (wt : Int32) (kA : ClassId) (vs : List Value) (fv : Nat → Int32) (kv : Nat) (h0 : Heap) (n0 : Nat) (O0 : Old Z n0 h0) (E_r0 : Exa Z h0 r0 "com/example/fillwire/fillwire/codec/ProtoReader") (F_bytes_r0 : Fld Z h0 r0 "com/example/fillwire/fillwire/codec/ProtoReader" "bytes" "[B" (.ref ba)) (F_position_r0 : Fld Z h0 r0 "com/example/fillwire/fillwire/codec/ProtoReader" "position" "I" (.int pp)) (F_end_r0 : Fld Z h0 r0 "com/example/fillwire/fillwire/codec/ProtoReader" "end" "I" (.int en)) (F_field_r0 : Fld Z h0 r0 "com/example/fillwire/fillwire/codec/ProtoReader" "field" "I" (.int ff)) (F_wireType_r0 : Fld Z h0 r0 "com/example/fillwire/fillwire/codec/ProtoReader" "wireType" "I" (.int wt)) (A_ba : Oar Z h0 ba kA .byte vs) (g_r0 : n0 ≤ r0) (N_ba_r0 : ba ≠ r0) (hk : kv ≤ 9) (hcn : ∀ i, i < kv → fv i < 0) (hln : ¬ fv kv < 0) (h9 : kv = 9 → ¬ (1 : Int32) < fv kv) (hp0 : 0 ≤ pp.toInt) (hp1 : pp.toInt < 2000000000) (hvs : ∀ i, i ≤ kv → vs[pp.toInt.toNat + i]? = some (Value.int (fv i))) (hne : ∀ i, i ≤ kv → ¬ vpo pp i = en) :
    MetFree l (⟨"com/example/fillwire/fillwire/codec/ProtoReader", "readVarint", "()J"⟩ : MethodName) (head1 (Jvm.Cond.code (⟨"com/example/fillwire/fillwire/codec/ProtoReader", "readVarint", "()J"⟩ : MethodName) prog_34_method_16_code 5 (some .long) :: ws) ({ frames := 0, cells := 0, slots := 0, locals := 0 } : Room)) (fun a U => a = #[(.ref r0)] ∧ Z.Warmed39 U.vm ∧ U.heap = h0) (fun _ _ _ _ _ => True) (fun _ U o U' => ∃ v L, o = .returned v ∧ Qrm7 Z r0 ba pp en ff wt kA vs fv kv h0 n0 v U'.heap L ∧ FrameEnd U o U' L ({ frames := 0, cells := 0, slots := 0, locals := 0 } : Room).cells ({ frames := 0, cells := 0, slots := 0, locals := 0 } : Room).slots) := by
  refine MetFree.of_bodySF (plainFor_of_name pn_com_example_fillwire_fillwire_codec_ProtoReader) hisR ?_
  intro p e s m args below meth c s₁ Bd hml0 hP hK
  obtain ⟨rfl, hZ, hh⟩ := hP
  have hx := Bd.exec
  have hby := Bd.bytes
  have hml : c.maxLocals = 5 := hml0
  have hown : s.vm.findClass "com/example/fillwire/fillwire/codec/ProtoReader" = some m.cls := findClass_of_methodNamed Bd.named
  have hnm := (name_of_methodNamed Bd.named Bd.method).1
  have X0 : Stand p l e ({ frames := 0, cells := 0, slots := 0, locals := 0 } : Room) s m #[(.ref r0)] below meth c s₁ [] 0 0 := Stand.of_body Bd
  have e0 : s₁.heap = h0 := by rw [← hh, Bd.state]; rfl
  have N0 := Fr.nil n0
  show OFin p e below (fun o t L => FrameEnd s o t L ({ frames := 0, cells := 0, slots := 0, locals := 0 } : Room).cells ({ frames := 0, cells := 0, slots := 0, locals := 0 } : Room).slots) (fun v h L => Qrm7 Z r0 ba pp en ff wt kA vs fv kv h0 n0 v h L) s₁ (entryFrame m #[(.ref r0)] 5)
  refine OFin.cast (ef_rm7 m r0) ?_
  show OFin p e below _ _ s₁ (mkF m 0 #[.val (.ref r0), .unset, .unset, .unset, .unset] [])
  refine OFin.st (fun t k => XS.lconst X0.here hx rfl (hb hby d7_0) k) ?_
  show OFin p e below _ _ s₁ (mkF m 1 #[.val (.ref r0), .unset, .unset, .unset, .unset] [(.long (0 : Int64))])
  refine OFin.st (fun t k => XS.lstoreN X0.here hx rfl (hb hby d7_1) rfl (l' := #[.val (.ref r0), .val (.long (0 : Int64)), .second, .unset, .unset]) rfl k) ?_
  show OFin p e below _ _ s₁ (mkF m 2 #[.val (.ref r0), .val (.long (0 : Int64)), .second, .unset, .unset] [])
  refine OFin.st (fun t k => XS.iconst X0.here hx rfl (hb hby d7_2) k) ?_
  show OFin p e below _ _ s₁ (mkF m 3 #[.val (.ref r0), .val (.long (0 : Int64)), .second, .unset, .unset] [(.int (0 : Int32))])
  refine OFin.st (fun t k => XS.istoreN X0.here hx rfl (hb hby d7_3) rfl (l' := #[.val (.ref r0), .val (.long (0 : Int64)), .second, .val (.int (0 : Int32)), .unset]) rfl k) ?_
  show OFin p e below _ _ s₁ (mkF m 4 #[.val (.ref r0), .val (.long (0 : Int64)), .second, .val (.int (0 : Int32)), .unset] [])
  have loop1 : ∀ (d : Nat) (i : Nat) (s4 : Slot) (T1 : State) (h1 : Heap) (locs1 : List Loc), kv - i = d → (i ≤ kv) → (One s4) → Stand p l e ({ frames := 0, cells := 0, slots := 0, locals := 0 } : Room) s m #[(.ref r0)] below meth c T1 locs1 0 0 → T1.heap = h1 → Fr n0 locs1 → Keep h0 h1 [r0] → Old Z n0 h1 → Exa Z h1 r0 "com/example/fillwire/fillwire/codec/ProtoReader" → Fld Z h1 r0 "com/example/fillwire/fillwire/codec/ProtoReader" "bytes" "[B" (.ref ba) → Fld Z h1 r0 "com/example/fillwire/fillwire/codec/ProtoReader" "position" "I" (.int (vpo pp i)) → Fld Z h1 r0 "com/example/fillwire/fillwire/codec/ProtoReader" "end" "I" (.int en) → Fld Z h1 r0 "com/example/fillwire/fillwire/codec/ProtoReader" "field" "I" (.int ff) → Fld Z h1 r0 "com/example/fillwire/fillwire/codec/ProtoReader" "wireType" "I" (.int wt) → Oar Z h1 ba kA .byte vs → OFin p e below (fun o t L => FrameEnd s o t L ({ frames := 0, cells := 0, slots := 0, locals := 0 } : Room).cells ({ frames := 0, cells := 0, slots := 0, locals := 0 } : Room).slots) (fun v h L => Qrm7 Z r0 ba pp en ff wt kA vs fv kv h0 n0 v h L) T1 (mkF m 4 #[.val (.ref r0), .val (.long (vac fv i)), .second, .val (.int (vsh i)), s4] []) := by
    intro d
    induction d using Nat.strongRecOn with
    | ind d ih1 =>
      intro i s4 T1 h1 locs1 hd1 hi One_s4 X1 e1 N1 K1 O1 L1_E_r0 L1_F_bytes_r0 L1_F_position_r0 L1_F_end_r0 L1_F_field_r0 L1_F_wireType_r0 L1_A_ba
      refine OFin.st (fun t k => XS.iloadN X1.here hx rfl (hb hby d7_4) rfl k) ?_
      show OFin p e below _ _ T1 (mkF m 5 #[.val (.ref r0), .val (.long (vac fv i)), .second, .val (.int (vsh i)), s4] [(.int (vsh i))])
      refine OFin.st (fun t k => XS.bipush X1.here hx rfl (hb hby d7_5) k) ?_
      show OFin p e below _ _ T1 (mkF m 7 #[.val (.ref r0), .val (.long (vac fv i)), .second, .val (.int (vsh i)), s4] [(.int (64 : Int32)), (.int (vsh i))])
      refine OFin.st (fun t k => XS.icmpNo X1.here hx rfl (hb hby d7_7) rfl (tlt (own_lt32 (by rw [vsh_val i (by omega), (by decide : (64 : Int32).toInt = 64)]; omega))).2.1 k) ?_
      show OFin p e below _ _ T1 (mkF m 10 #[.val (.ref r0), .val (.long (vac fv i)), .second, .val (.int (vsh i)), s4] [])
      refine OFin.st (fun t k => XS.aloadN X1.here hx rfl (hb hby d7_10) rfl rfl k) ?_
      show OFin p e below _ _ T1 (mkF m 11 #[.val (.ref r0), .val (.long (vac fv i)), .second, .val (.int (vsh i)), s4] [(.ref r0)])
      obtain ⟨T2, X2, e2, st2⟩ := getF X1 hx hZ hown (host := "") (Or.inl (hw _ (List.mem_of_getElem? (i := 29) rfl))) Via.refl e1 L1_F_position_r0 (g := (mkF m 11 #[.val (.ref r0), .val (.long (vac fv i)), .second, .val (.int (vsh i)), s4] [(.ref r0)])) rfl rfl (hb hby d7_11)
      refine OFin.st st2 ?_
      show OFin p e below _ _ T2 (mkF m 14 #[.val (.ref r0), .val (.long (vac fv i)), .second, .val (.int (vsh i)), s4] [(.int (vpo pp i))])
      refine OFin.st (fun t k => XS.aloadN X2.here hx rfl (hb hby d7_14) rfl rfl k) ?_
      show OFin p e below _ _ T2 (mkF m 15 #[.val (.ref r0), .val (.long (vac fv i)), .second, .val (.int (vsh i)), s4] [(.ref r0), (.int (vpo pp i))])
      obtain ⟨T3, X3, e3, st3⟩ := getF X2 hx hZ hown (host := "") (Or.inl (hw _ (List.mem_of_getElem? (i := 31) rfl))) Via.refl e2 L1_F_end_r0 (g := (mkF m 15 #[.val (.ref r0), .val (.long (vac fv i)), .second, .val (.int (vsh i)), s4] [(.ref r0), (.int (vpo pp i))])) rfl rfl (hb hby d7_15)
      refine OFin.st st3 ?_
      show OFin p e below _ _ T3 (mkF m 18 #[.val (.ref r0), .val (.long (vac fv i)), .second, .val (.int (vsh i)), s4] [(.int en), (.int (vpo pp i))])
      refine OFin.st (fun t k => XS.icmpYes X3.here hx rfl (pc0 := 18) (pc' := 26) rfl (hb hby d7_18) rfl (feq (hne i hi)).2 (by decide) (by decide) k) ?_
      show OFin p e below _ _ T3 (mkF m 26 #[.val (.ref r0), .val (.long (vac fv i)), .second, .val (.int (vsh i)), s4] [])
      refine OFin.st (fun t k => XS.aloadN X3.here hx rfl (hb hby d7_26) rfl rfl k) ?_
      show OFin p e below _ _ T3 (mkF m 27 #[.val (.ref r0), .val (.long (vac fv i)), .second, .val (.int (vsh i)), s4] [(.ref r0)])
      obtain ⟨T4, X4, e4, st4⟩ := getF X3 hx hZ hown (host := "") (Or.inl (hw _ (List.mem_of_getElem? (i := 27) rfl))) Via.refl e3 L1_F_bytes_r0 (g := (mkF m 27 #[.val (.ref r0), .val (.long (vac fv i)), .second, .val (.int (vsh i)), s4] [(.ref r0)])) rfl rfl (hb hby d7_27)
      refine OFin.st st4 ?_
      show OFin p e below _ _ T4 (mkF m 30 #[.val (.ref r0), .val (.long (vac fv i)), .second, .val (.int (vsh i)), s4] [(.ref ba)])
      refine OFin.st (fun t k => XS.aloadN X4.here hx rfl (hb hby d7_30) rfl rfl k) ?_
      show OFin p e below _ _ T4 (mkF m 31 #[.val (.ref r0), .val (.long (vac fv i)), .second, .val (.int (vsh i)), s4] [(.ref r0), (.ref ba)])
      refine OFin.st (fun t k => XS.dup X4.here hx rfl (hb hby d7_31) rfl rfl k) ?_
      show OFin p e below _ _ T4 (mkF m 32 #[.val (.ref r0), .val (.long (vac fv i)), .second, .val (.int (vsh i)), s4] [(.ref r0), (.ref r0), (.ref ba)])
      obtain ⟨T5, X5, e5, st5⟩ := getF X4 hx hZ hown (host := "") (Or.inl (hw _ (List.mem_of_getElem? (i := 29) rfl))) Via.refl e4 L1_F_position_r0 (g := (mkF m 32 #[.val (.ref r0), .val (.long (vac fv i)), .second, .val (.int (vsh i)), s4] [(.ref r0), (.ref r0), (.ref ba)])) rfl rfl (hb hby d7_32)
      refine OFin.st st5 ?_
      show OFin p e below _ _ T5 (mkF m 35 #[.val (.ref r0), .val (.long (vac fv i)), .second, .val (.int (vsh i)), s4] [(.int (vpo pp i)), (.ref r0), (.ref ba)])
      refine OFin.st (fun t k => XS.dupX1 X5.here hx rfl (hb hby d7_35) rfl rfl rfl k) ?_
      show OFin p e below _ _ T5 (mkF m 36 #[.val (.ref r0), .val (.long (vac fv i)), .second, .val (.int (vsh i)), s4] [(.int (vpo pp i)), (.ref r0), (.int (vpo pp i)), (.ref ba)])
      refine OFin.st (fun t k => XS.iconst X5.here hx rfl (hb hby d7_36) k) ?_
      show OFin p e below _ _ T5 (mkF m 37 #[.val (.ref r0), .val (.long (vac fv i)), .second, .val (.int (vsh i)), s4] [(.int (1 : Int32)), (.int (vpo pp i)), (.ref r0), (.int (vpo pp i)), (.ref ba)])
      refine OFin.st (fun t k => XS.iadd X5.here hx rfl (hb hby d7_37) rfl k) ?_
      show OFin p e below _ _ T5 (mkF m 38 #[.val (.ref r0), .val (.long (vac fv i)), .second, .val (.int (vsh i)), s4] [(.int ((vpo pp i) + (1 : Int32))), (.ref r0), (.int (vpo pp i)), (.ref ba)])
      obtain ⟨T6, h6, X6, e6, W6, st6⟩ := putF X5 hx hZ hown (host := "") (Or.inl (hw _ (List.mem_of_getElem? (i := 29) rfl))) Via.refl e5 L1_F_position_r0 L1_E_r0 (Or.inl (hw _ (List.mem_of_getElem? (i := 30) rfl))) (hw _ (List.mem_of_getElem? (i := 9) rfl)) (ty := .int) (by decide) rfl rfl (g := (mkF m 38 #[.val (.ref r0), .val (.long (vac fv i)), .second, .val (.int (vsh i)), s4] [(.int ((vpo pp i) + (1 : Int32))), (.ref r0), (.int (vpo pp i)), (.ref ba)])) rfl rfl (hb hby d7_38)
      refine OFin.st st6 ?_
      have Fw6 := L1_F_position_r0.same W6
      have N6 := Fr.snoc X6 N1 g_r0
      have K6 : Keep h0 h6 [r0] := K1.wr W6 (Or.inl (List.mem_of_getElem? (i := 0) rfl))
      have O6 : Old Z n0 h6 := O1.wr W6 g_r0
      show OFin p e below _ _ T6 (mkF m 41 #[.val (.ref r0), .val (.long (vac fv i)), .second, .val (.int (vsh i)), s4] [(.int (vpo pp i)), (.ref ba)])
      refine own_baload X6 hx hZ e6 (L1_A_ba.other W6 N_ba_r0) (i := (pp.toInt.toNat + i)) (j := (vpo pp i)) (by rw [vpo_val pp i (by omega) hp0 hp1]; omega) (v := (.int (fv i))) (hvs i hi) (hb hby d7_41) (pc' := 42) rfl ?_
      show OFin p e below _ _ T6 (mkF m 42 #[.val (.ref r0), .val (.long (vac fv i)), .second, .val (.int (vsh i)), s4] [(.int (fv i))])
      refine OFin.st (fun t k => XS.istoreS X6.here hx rfl (hb hby d7_42) rfl rfl One_s4 k) ?_
      show OFin p e below _ _ T6 (mkF m 44 #[.val (.ref r0), .val (.long (vac fv i)), .second, .val (.int (vsh i)), .val (.int (fv i))] [])
      refine OFin.st (fun t k => XS.lloadN X6.here hx rfl (hb hby d7_44) rfl k) ?_
      show OFin p e below _ _ T6 (mkF m 45 #[.val (.ref r0), .val (.long (vac fv i)), .second, .val (.int (vsh i)), .val (.int (fv i))] [(.long (vac fv i))])
      refine OFin.st (fun t k => XS.iload X6.here hx rfl (hb hby d7_45) rfl k) ?_
      show OFin p e below _ _ T6 (mkF m 47 #[.val (.ref r0), .val (.long (vac fv i)), .second, .val (.int (vsh i)), .val (.int (fv i))] [(.int (fv i)), (.long (vac fv i))])
      refine OFin.st (fun t k => XS.bipush X6.here hx rfl (hb hby d7_47) k) ?_
      show OFin p e below _ _ T6 (mkF m 49 #[.val (.ref r0), .val (.long (vac fv i)), .second, .val (.int (vsh i)), .val (.int (fv i))] [(.int (127 : Int32)), (.int (fv i)), (.long (vac fv i))])
      refine OFin.st (fun t k => XS.iand X6.here hx rfl (hb hby d7_49) rfl k) ?_
      show OFin p e below _ _ T6 (mkF m 50 #[.val (.ref r0), .val (.long (vac fv i)), .second, .val (.int (vsh i)), .val (.int (fv i))] [(.int ((fv i) &&& (127 : Int32))), (.long (vac fv i))])
      refine OFin.st (fun t k => XS.i2l X6.here hx rfl (hb hby d7_50) rfl k) ?_
      show OFin p e below _ _ T6 (mkF m 51 #[.val (.ref r0), .val (.long (vac fv i)), .second, .val (.int (vsh i)), .val (.int (fv i))] [(.long (((fv i) &&& (127 : Int32)).toInt64)), (.long (vac fv i))])
      refine OFin.st (fun t k => XS.iloadN X6.here hx rfl (hb hby d7_51) rfl k) ?_
      show OFin p e below _ _ T6 (mkF m 52 #[.val (.ref r0), .val (.long (vac fv i)), .second, .val (.int (vsh i)), .val (.int (fv i))] [(.int (vsh i)), (.long (((fv i) &&& (127 : Int32)).toInt64)), (.long (vac fv i))])
      refine OFin.st (fun t k => XS.lshl X6.here hx rfl (hb hby d7_52) rfl k) ?_
      show OFin p e below _ _ T6 (mkF m 53 #[.val (.ref r0), .val (.long (vac fv i)), .second, .val (.int (vsh i)), .val (.int (fv i))] [(.long ((((fv i) &&& (127 : Int32)).toInt64) <<< ((vsh i) &&& 0x3f).toInt64)), (.long (vac fv i))])
      refine OFin.st (fun t k => XS.lor X6.here hx rfl (hb hby d7_53) rfl k) ?_
      show OFin p e below _ _ T6 (mkF m 54 #[.val (.ref r0), .val (.long (vac fv i)), .second, .val (.int (vsh i)), .val (.int (fv i))] [(.long ((vac fv i) ||| ((((fv i) &&& (127 : Int32)).toInt64) <<< ((vsh i) &&& 0x3f).toInt64)))])
      refine OFin.st (fun t k => XS.lstoreN X6.here hx rfl (hb hby d7_54) rfl (l' := #[.val (.ref r0), .val (.long ((vac fv i) ||| ((((fv i) &&& (127 : Int32)).toInt64) <<< ((vsh i) &&& 0x3f).toInt64))), .second, .val (.int (vsh i)), .val (.int (fv i))]) rfl k) ?_
      show OFin p e below _ _ T6 (mkF m 55 #[.val (.ref r0), .val (.long ((vac fv i) ||| ((((fv i) &&& (127 : Int32)).toInt64) <<< ((vsh i) &&& 0x3f).toInt64))), .second, .val (.int (vsh i)), .val (.int (fv i))] [])
      refine OFin.st (fun t k => XS.iload X6.here hx rfl (hb hby d7_55) rfl k) ?_
      show OFin p e below _ _ T6 (mkF m 57 #[.val (.ref r0), .val (.long ((vac fv i) ||| ((((fv i) &&& (127 : Int32)).toInt64) <<< ((vsh i) &&& 0x3f).toInt64))), .second, .val (.int (vsh i)), .val (.int (fv i))] [(.int (fv i))])
      by_cases hik : i = kv
      · refine OFin.st (fun t k => XS.ifNo X6.here hx rfl (hb hby d7_57) rfl ((if0 _ _).trans (flt (hik ▸ hln)).1) k) ?_
        show OFin p e below _ _ T6 (mkF m 60 #[.val (.ref r0), .val (.long ((vac fv i) ||| ((((fv i) &&& (127 : Int32)).toInt64) <<< ((vsh i) &&& 0x3f).toInt64))), .second, .val (.int (vsh i)), .val (.int (fv i))] [])
        refine OFin.st (fun t k => XS.iloadN X6.here hx rfl (hb hby d7_60) rfl k) ?_
        show OFin p e below _ _ T6 (mkF m 61 #[.val (.ref r0), .val (.long ((vac fv i) ||| ((((fv i) &&& (127 : Int32)).toInt64) <<< ((vsh i) &&& 0x3f).toInt64))), .second, .val (.int (vsh i)), .val (.int (fv i))] [(.int (vsh i))])
        refine OFin.st (fun t k => XS.bipush X6.here hx rfl (hb hby d7_61) k) ?_
        show OFin p e below _ _ T6 (mkF m 63 #[.val (.ref r0), .val (.long ((vac fv i) ||| ((((fv i) &&& (127 : Int32)).toInt64) <<< ((vsh i) &&& 0x3f).toInt64))), .second, .val (.int (vsh i)), .val (.int (fv i))] [(.int (63 : Int32)), (.int (vsh i))])
        by_cases hc63 : (vsh i) = (63 : Int32)
        · refine OFin.st (fun t k => XS.icmpNo X6.here hx rfl (hb hby d7_63) rfl (teq hc63).2 k) ?_
          show OFin p e below _ _ T6 (mkF m 66 #[.val (.ref r0), .val (.long ((vac fv i) ||| ((((fv i) &&& (127 : Int32)).toInt64) <<< ((vsh i) &&& 0x3f).toInt64))), .second, .val (.int (vsh i)), .val (.int (fv i))] [])
          refine OFin.st (fun t k => XS.iload X6.here hx rfl (hb hby d7_66) rfl k) ?_
          show OFin p e below _ _ T6 (mkF m 68 #[.val (.ref r0), .val (.long ((vac fv i) ||| ((((fv i) &&& (127 : Int32)).toInt64) <<< ((vsh i) &&& 0x3f).toInt64))), .second, .val (.int (vsh i)), .val (.int (fv i))] [(.int (fv i))])
          refine OFin.st (fun t k => XS.iconst X6.here hx rfl (hb hby d7_68) k) ?_
          show OFin p e below _ _ T6 (mkF m 69 #[.val (.ref r0), .val (.long ((vac fv i) ||| ((((fv i) &&& (127 : Int32)).toInt64) <<< ((vsh i) &&& 0x3f).toInt64))), .second, .val (.int (vsh i)), .val (.int (fv i))] [(.int (1 : Int32)), (.int (fv i))])
          refine OFin.st (fun t k => XS.icmpYes X6.here hx rfl (pc0 := 69) (pc' := 86) rfl (hb hby d7_69) rfl (flt (hik ▸ h9 (own_sh9 i kv hik (by omega) hc63))).2.2.2 (by decide) (by decide) k) ?_
          show OFin p e below _ _ T6 (mkF m 86 #[.val (.ref r0), .val (.long ((vac fv i) ||| ((((fv i) &&& (127 : Int32)).toInt64) <<< ((vsh i) &&& 0x3f).toInt64))), .second, .val (.int (vsh i)), .val (.int (fv i))] [])
          refine OFin.st (fun t k => XS.lloadN X6.here hx rfl (hb hby d7_86) rfl k) ?_
          show OFin p e below _ _ T6 (mkF m 87 #[.val (.ref r0), .val (.long ((vac fv i) ||| ((((fv i) &&& (127 : Int32)).toInt64) <<< ((vsh i) &&& 0x3f).toInt64))), .second, .val (.int (vsh i)), .val (.int (fv i))] [(.long ((vac fv i) ||| ((((fv i) &&& (127 : Int32)).toInt64) <<< ((vsh i) &&& 0x3f).toInt64)))])
          have c7 := (L1_F_bytes_r0.other W6 (Or.inr (slot_ne (Or.inr (hw _ (List.mem_of_getElem? (i := 28) rfl))) (Or.inl (hw _ (List.mem_of_getElem? (i := 30) rfl))) (by decide) (t := (.array .byte)) (t' := .int) (by decide) (by decide))))
          have c8 := (L1_F_end_r0.other W6 (Or.inr (slot_ne (Or.inr (hw _ (List.mem_of_getElem? (i := 32) rfl))) (Or.inl (hw _ (List.mem_of_getElem? (i := 30) rfl))) (by decide) (t := .int) (t' := .int) (by decide) (by decide))))
          have c9 := (L1_F_field_r0.other W6 (Or.inr (slot_ne (Or.inl (hw _ (List.mem_of_getElem? (i := 45) rfl))) (Or.inl (hw _ (List.mem_of_getElem? (i := 30) rfl))) (by decide) (t := .int) (t' := .int) (by decide) (by decide))))
          have c10 := (L1_F_wireType_r0.other W6 (Or.inr (slot_ne (Or.inl (hw _ (List.mem_of_getElem? (i := 52) rfl))) (Or.inl (hw _ (List.mem_of_getElem? (i := 30) rfl))) (by decide) (t := .int) (t' := .int) (by decide) (by decide))))
          exact own_retJ X6 hx Bd.returns Bd.notSynchronized (hb hby d7_87) (by show Qrm7 Z r0 ba pp en ff wt kA vs fv kv h0 n0 _ T6.heap _; rw [e6]; exact ⟨(by rw [← hik]; rfl), N6, K6, (L1_E_r0.wr W6), c7, (by rw [← hik]; exact Fw6), c8, c9, c10⟩) (own_endN (by decide) (by decide))
        · refine OFin.st (fun t k => XS.icmpYes X6.here hx rfl (pc0 := 63) (pc' := 86) rfl (hb hby d7_63) rfl (feq hc63).2 (by decide) (by decide) k) ?_
          show OFin p e below _ _ T6 (mkF m 86 #[.val (.ref r0), .val (.long ((vac fv i) ||| ((((fv i) &&& (127 : Int32)).toInt64) <<< ((vsh i) &&& 0x3f).toInt64))), .second, .val (.int (vsh i)), .val (.int (fv i))] [])
          refine OFin.st (fun t k => XS.lloadN X6.here hx rfl (hb hby d7_86) rfl k) ?_
          show OFin p e below _ _ T6 (mkF m 87 #[.val (.ref r0), .val (.long ((vac fv i) ||| ((((fv i) &&& (127 : Int32)).toInt64) <<< ((vsh i) &&& 0x3f).toInt64))), .second, .val (.int (vsh i)), .val (.int (fv i))] [(.long ((vac fv i) ||| ((((fv i) &&& (127 : Int32)).toInt64) <<< ((vsh i) &&& 0x3f).toInt64)))])
          have c11 := (L1_F_bytes_r0.other W6 (Or.inr (slot_ne (Or.inr (hw _ (List.mem_of_getElem? (i := 28) rfl))) (Or.inl (hw _ (List.mem_of_getElem? (i := 30) rfl))) (by decide) (t := (.array .byte)) (t' := .int) (by decide) (by decide))))
          have c12 := (L1_F_end_r0.other W6 (Or.inr (slot_ne (Or.inr (hw _ (List.mem_of_getElem? (i := 32) rfl))) (Or.inl (hw _ (List.mem_of_getElem? (i := 30) rfl))) (by decide) (t := .int) (t' := .int) (by decide) (by decide))))
          have c13 := (L1_F_field_r0.other W6 (Or.inr (slot_ne (Or.inl (hw _ (List.mem_of_getElem? (i := 45) rfl))) (Or.inl (hw _ (List.mem_of_getElem? (i := 30) rfl))) (by decide) (t := .int) (t' := .int) (by decide) (by decide))))
          have c14 := (L1_F_wireType_r0.other W6 (Or.inr (slot_ne (Or.inl (hw _ (List.mem_of_getElem? (i := 52) rfl))) (Or.inl (hw _ (List.mem_of_getElem? (i := 30) rfl))) (by decide) (t := .int) (t' := .int) (by decide) (by decide))))
          exact own_retJ X6 hx Bd.returns Bd.notSynchronized (hb hby d7_87) (by show Qrm7 Z r0 ba pp en ff wt kA vs fv kv h0 n0 _ T6.heap _; rw [e6]; exact ⟨(by rw [← hik]; rfl), N6, K6, (L1_E_r0.wr W6), c11, (by rw [← hik]; exact Fw6), c12, c13, c14⟩) (own_endN (by decide) (by decide))
      · refine OFin.st (fun t k => XS.ifYes X6.here hx rfl (pc0 := 57) (pc' := 88) rfl (hb hby d7_57) rfl ((if0 _ _).trans (tlt (hcn i (by omega))).1) (by decide) (by decide) k) ?_
        show OFin p e below _ _ T6 (mkF m 88 #[.val (.ref r0), .val (.long ((vac fv i) ||| ((((fv i) &&& (127 : Int32)).toInt64) <<< ((vsh i) &&& 0x3f).toInt64))), .second, .val (.int (vsh i)), .val (.int (fv i))] [])
        refine OFin.st (fun t k => XS.iinc X6.here hx rfl (hb hby d7_88) rfl (l' := #[.val (.ref r0), .val (.long ((vac fv i) ||| ((((fv i) &&& (127 : Int32)).toInt64) <<< ((vsh i) &&& 0x3f).toInt64))), .second, .val (.int ((vsh i) + (7 : Int32))), .val (.int (fv i))]) rfl k) ?_
        show OFin p e below _ _ T6 (mkF m 91 #[.val (.ref r0), .val (.long ((vac fv i) ||| ((((fv i) &&& (127 : Int32)).toInt64) <<< ((vsh i) &&& 0x3f).toInt64))), .second, .val (.int ((vsh i) + (7 : Int32))), .val (.int (fv i))] [])
        refine OFin.st (fun t k => XS.goto X6.here hx rfl (pc0 := 91) (pc' := 4) rfl (hb hby d7_91) (by decide) (by decide) k) ?_
        show OFin p e below _ _ T6 (mkF m 4 #[.val (.ref r0), .val (.long ((vac fv i) ||| ((((fv i) &&& (127 : Int32)).toInt64) <<< ((vsh i) &&& 0x3f).toInt64))), .second, .val (.int ((vsh i) + (7 : Int32))), .val (.int (fv i))] [])
        have c15 := (L1_F_bytes_r0.other W6 (Or.inr (slot_ne (Or.inr (hw _ (List.mem_of_getElem? (i := 28) rfl))) (Or.inl (hw _ (List.mem_of_getElem? (i := 30) rfl))) (by decide) (t := (.array .byte)) (t' := .int) (by decide) (by decide))))
        have c16 := (L1_F_end_r0.other W6 (Or.inr (slot_ne (Or.inr (hw _ (List.mem_of_getElem? (i := 32) rfl))) (Or.inl (hw _ (List.mem_of_getElem? (i := 30) rfl))) (by decide) (t := .int) (t' := .int) (by decide) (by decide))))
        have c17 := (L1_F_field_r0.other W6 (Or.inr (slot_ne (Or.inl (hw _ (List.mem_of_getElem? (i := 45) rfl))) (Or.inl (hw _ (List.mem_of_getElem? (i := 30) rfl))) (by decide) (t := .int) (t' := .int) (by decide) (by decide))))
        have c18 := (L1_F_wireType_r0.other W6 (Or.inr (slot_ne (Or.inl (hw _ (List.mem_of_getElem? (i := 52) rfl))) (Or.inl (hw _ (List.mem_of_getElem? (i := 30) rfl))) (by decide) (t := .int) (t' := .int) (by decide) (by decide))))
        exact ih1 _ (by omega) (i + 1) (.val (.int (fv i))) _ _ _ rfl (by omega) (One.val rfl) X6 e6 N6 K6 O6 (L1_E_r0.wr W6) c15 Fw6 c16 c17 c18 (L1_A_ba.other W6 N_ba_r0)
  exact loop1 _ 0 _ _ _ _ rfl (Nat.zero_le _) One.u X0 e0 N0 (Keep.refl h0 [r0]) O0 E_r0 F_bytes_r0 F_position_r0 F_end_r0 F_field_r0 F_wireType_r0 A_ba
theorem ef_rm6 (m : MethodId) (r0 : Addr) : entryFrame m #[(.ref r0)] 5 = mkF m 0 #[.val (.ref r0), .unset, .unset, .unset, .unset] [] := by first | (simp [entryFrame, mkF, argsToLocals, Value.category]; done) | rfl
def Qrm6 (Z : State) (r0 : Addr) (ba : Addr) (pp : Int32) (en : Int32) (ff : Int32) (wt : Int32) (kA : ClassId) (vs : List Value) (fv : Nat → Int32) (kv : Nat) (kW : ClassId) (vW : List Value) (w_WIRE_TYPES : Addr) (h0 : Heap) (n0 : Nat) (v : Option Value) (h : Heap) (L : List Loc) : Prop := v = none ∧ Fr n0 L ∧ Keep h0 h [r0] ∧ Exa Z h r0 "com/example/fillwire/fillwire/codec/ProtoReader" ∧ Fld Z h r0 "com/example/fillwire/fillwire/codec/ProtoReader" "bytes" "[B" (.ref ba) ∧ Fld Z h r0 "com/example/fillwire/fillwire/codec/ProtoReader" "position" "I" (.int (vpo pp (kv + 1))) ∧ Fld Z h r0 "com/example/fillwire/fillwire/codec/ProtoReader" "end" "I" (.int en) ∧ Fld Z h r0 "com/example/fillwire/fillwire/codec/ProtoReader" "field" "I" (.int ((((vac fv (kv + 1)).toUInt64 >>> ((3 : Int32) &&& 0x3f).toInt64.toUInt64).toInt64).toInt32)) ∧ Fld Z h r0 "com/example/fillwire/fillwire/codec/ProtoReader" "wireType" "I" (.int (((vac fv (kv + 1)).toInt32) &&& (7 : Int32)))
set_option maxRecDepth 65536 in
set_option maxHeartbeats 40000000 in
theorem rm6 (l : Launch) (Z : State) (a0 : Array Value) (hw : ∀ d ∈ tables_1, d.before a0 Z = true) (ws : List Jvm.Cond) (r0 : Addr) (ba : Addr) (pp : Int32) (en : Int32) (ff : Int32) (wt : Int32) (kA : ClassId) (vs : List Value) (fv : Nat → Int32) (kv : Nat) (kW : ClassId) (vW : List Value) (w_WIRE_TYPES : Addr) (h0 : Heap) (n0 : Nat) (O0 : Old Z n0 h0) (E_r0 : Exa Z h0 r0 "com/example/fillwire/fillwire/codec/ProtoReader") (F_bytes_r0 : Fld Z h0 r0 "com/example/fillwire/fillwire/codec/ProtoReader" "bytes" "[B" (.ref ba)) (F_position_r0 : Fld Z h0 r0 "com/example/fillwire/fillwire/codec/ProtoReader" "position" "I" (.int pp)) (F_end_r0 : Fld Z h0 r0 "com/example/fillwire/fillwire/codec/ProtoReader" "end" "I" (.int en)) (F_field_r0 : Fld Z h0 r0 "com/example/fillwire/fillwire/codec/ProtoReader" "field" "I" (.int ff)) (F_wireType_r0 : Fld Z h0 r0 "com/example/fillwire/fillwire/codec/ProtoReader" "wireType" "I" (.int wt)) (A_ba : Oar Z h0 ba kA .byte vs) (g_r0 : n0 ≤ r0) (N_ba_r0 : ba ≠ r0) (hk : kv ≤ 9) (hcn : ∀ i, i < kv → fv i < 0) (hln : ¬ fv kv < 0) (h9 : kv = 9 → ¬ (1 : Int32) < fv kv) (hp0 : 0 ≤ pp.toInt) (hp1 : pp.toInt < 2000000000) (hvs : ∀ i, i ≤ kv → vs[pp.toInt.toNat + i]? = some (Value.int (fv i))) (hne : ∀ i, i ≤ kv → ¬ vpo pp i = en) (hn0 : ¬ (((vac fv (kv + 1)).toUInt64 >>> ((3 : Int32) &&& 0x3f).toInt64.toUInt64).toInt64) = (0 : Int64)) (hnq : ¬ (536870911 : Int64) < (((vac fv (kv + 1)).toUInt64 >>> ((3 : Int32) &&& 0x3f).toInt64.toUInt64).toInt64)) (hwt : (((vac fv (kv + 1)).toInt32) &&& (7 : Int32)) < (6 : Int32)) (hW6 : vW.length = 6) (A_w_WIRE_TYPES : Oar Z Z.heap w_WIRE_TYPES kW (.object "java/lang/String") vW) (S_WIRE_TYPES : Sta Z Z.heap "com/example/fillwire/fillwire/codec/ProtoReader" "WIRE_TYPES" "[Ljava/lang/String;" (.ref w_WIRE_TYPES)) :
    MetFree l (⟨"com/example/fillwire/fillwire/codec/ProtoReader", "readKey", "()V"⟩ : MethodName) (head1 (Jvm.Cond.code (⟨"com/example/fillwire/fillwire/codec/ProtoReader", "readKey", "()V"⟩ : MethodName) prog_34_method_14_code 5 none :: ws) ({ frames := 1, cells := 0, slots := 0, locals := 16 } : Room)) (fun a U => a = #[(.ref r0)] ∧ Z.Warmed39 U.vm ∧ U.heap = h0) (fun _ _ _ _ _ => True) (fun _ U o U' => ∃ v L, o = .returned v ∧ Qrm6 Z r0 ba pp en ff wt kA vs fv kv kW vW w_WIRE_TYPES h0 n0 v U'.heap L ∧ FrameEnd U o U' L ({ frames := 1, cells := 0, slots := 0, locals := 16 } : Room).cells ({ frames := 1, cells := 0, slots := 0, locals := 16 } : Room).slots) := by
  refine MetFree.of_bodySF (plainFor_of_name pn_com_example_fillwire_fillwire_codec_ProtoReader) hisR ?_
  intro p e s m args below meth c s₁ Bd hml0 hP hK
  obtain ⟨rfl, hZ, hh⟩ := hP
  have hx := Bd.exec
  have hby := Bd.bytes
  have hml : c.maxLocals = 5 := hml0
  have hown : s.vm.findClass "com/example/fillwire/fillwire/codec/ProtoReader" = some m.cls := findClass_of_methodNamed Bd.named
  have hnm := (name_of_methodNamed Bd.named Bd.method).1
  have X0 : Stand p l e ({ frames := 1, cells := 0, slots := 0, locals := 16 } : Room) s m #[(.ref r0)] below meth c s₁ [] 0 0 := Stand.of_body Bd
  have e0 : s₁.heap = h0 := by rw [← hh, Bd.state]; rfl
  have N0 := Fr.nil n0
  show OFin p e below (fun o t L => FrameEnd s o t L ({ frames := 1, cells := 0, slots := 0, locals := 16 } : Room).cells ({ frames := 1, cells := 0, slots := 0, locals := 16 } : Room).slots) (fun v h L => Qrm6 Z r0 ba pp en ff wt kA vs fv kv kW vW w_WIRE_TYPES h0 n0 v h L) s₁ (entryFrame m #[(.ref r0)] 5)
  refine OFin.cast (ef_rm6 m r0) ?_
  show OFin p e below _ _ s₁ (mkF m 0 #[.val (.ref r0), .unset, .unset, .unset, .unset] [])
  refine OFin.st (fun t k => XS.aloadN X0.here hx rfl (hb hby d6_0) rfl rfl k) ?_
  show OFin p e below _ _ s₁ (mkF m 1 #[.val (.ref r0), .unset, .unset, .unset, .unset] [(.ref r0)])
  refine OFin.st (fun t k => XS.iconst X0.here hx rfl (hb hby d6_1) k) ?_
  show OFin p e below _ _ s₁ (mkF m 2 #[.val (.ref r0), .unset, .unset, .unset, .unset] [(.int (0 : Int32)), (.ref r0)])
  obtain ⟨T1, h1, X1, e1, W1, st1⟩ := putF X0 hx hZ hown (host := "") (Or.inl (hw _ (List.mem_of_getElem? (i := 44) rfl))) Via.refl e0 F_field_r0 E_r0 (Or.inl (hw _ (List.mem_of_getElem? (i := 45) rfl))) (hw _ (List.mem_of_getElem? (i := 9) rfl)) (ty := .int) (by decide) rfl rfl (g := (mkF m 2 #[.val (.ref r0), .unset, .unset, .unset, .unset] [(.int (0 : Int32)), (.ref r0)])) rfl rfl (hb hby d6_2)
  refine OFin.st st1 ?_
  have Fw1 := F_field_r0.same W1
  have N1 := Fr.snoc X1 N0 g_r0
  have K1 : Keep h0 h1 [r0] := (Keep.refl h0 [r0]).wr W1 (Or.inl (List.mem_of_getElem? (i := 0) rfl))
  have O1 : Old Z n0 h1 := O0.wr W1 g_r0
  show OFin p e below _ _ T1 (mkF m 5 #[.val (.ref r0), .unset, .unset, .unset, .unset] [])
  refine OFin.st (fun t k => XS.aloadN X1.here hx rfl (hb hby d6_5) rfl rfl k) ?_
  show OFin p e below _ _ T1 (mkF m 6 #[.val (.ref r0), .unset, .unset, .unset, .unset] [(.ref r0)])
  have c2 := (F_bytes_r0.other W1 (Or.inr (slot_ne (Or.inr (hw _ (List.mem_of_getElem? (i := 28) rfl))) (Or.inl (hw _ (List.mem_of_getElem? (i := 45) rfl))) (by decide) (t := (.array .byte)) (t' := .int) (by decide) (by decide))))
  have c3 := (F_position_r0.other W1 (Or.inr (slot_ne (Or.inl (hw _ (List.mem_of_getElem? (i := 30) rfl))) (Or.inl (hw _ (List.mem_of_getElem? (i := 45) rfl))) (by decide) (t := .int) (t' := .int) (by decide) (by decide))))
  have c4 := (F_end_r0.other W1 (Or.inr (slot_ne (Or.inr (hw _ (List.mem_of_getElem? (i := 32) rfl))) (Or.inl (hw _ (List.mem_of_getElem? (i := 45) rfl))) (by decide) (t := .int) (t' := .int) (by decide) (by decide))))
  have c5 := (F_wireType_r0.other W1 (Or.inr (slot_ne (Or.inl (hw _ (List.mem_of_getElem? (i := 52) rfl))) (Or.inl (hw _ (List.mem_of_getElem? (i := 45) rfl))) (by decide) (t := .int) (t' := .int) (by decide) (by decide))))
  obtain ⟨Lg6, Xg6, Ng6⟩ : ∃ L, Stand p l e ({ frames := 1, cells := 0, slots := 0, locals := 16 } : Room) s m #[(.ref r0)] below meth c T1 L 0 0 ∧ Fr n0 L := ⟨_, X1, N1⟩
  obtain ⟨cq7, q7, q7'⟩ := (E_r0.wr W1).cell
  obtain ⟨_, _, ⟨T7, L7, k7, n7⟩, -, X7, ⟨Lc7, hQ7, l7, y7, z7⟩, st7⟩ := Xg6.privateBack hx (y := (⟨"com/example/fillwire/fillwire/codec/ProtoReader", "readVarint", "()J"⟩ : MethodName)) hown (mvT hZ (hw _ (List.mem_of_getElem? (i := 46) rfl))) (mvT hZ (hw _ (List.mem_of_getElem? (i := 47) rfl))) (own_selP hZ (hw _ (List.mem_of_getElem? (i := 9) rfl)) (hw _ (List.mem_of_getElem? (i := 48) rfl)) (hw _ (List.mem_of_getElem? (i := 47) rfl)) (by decide)) (Cond.privateMethod_at (mvP hZ (hw _ (List.mem_of_getElem? (i := 48) rfl)) (args := #[]))) (mvT hZ (hw _ (List.mem_of_getElem? (i := 49) rfl))) (by decide) (backOf (W := 0) (rm7 l Z a0 hw [] r0 ba pp en (0 : Int32) wt kA vs fv kv h1 n0 O1 (E_r0.wr W1) c2 c3 c4 Fw1 c5 (A_ba.other W1 N_ba_r0) g_r0 N_ba_r0 (hk : kv ≤ 9) (hcn : ∀ i, i < kv → fv i < 0) (hln : ¬ fv kv < 0) (h9 : kv = 9 → ¬ (1 : Int32) < fv kv) (hp0 : 0 ≤ pp.toInt) (hp1 : pp.toInt < 2000000000) (hvs : ∀ i, i ≤ kv → vs[pp.toInt.toNat + i]? = some (Value.int (fv i))) (hne : ∀ i, i ≤ kv → ¬ vpo pp i = en)) hZ (hw _ (List.mem_of_getElem? (i := 49) rfl)) (hw _ (List.mem_of_getElem? (i := 10) rfl)) (by decide) (by decide)) (g := (mkF m 6 #[.val (.ref r0), .unset, .unset, .unset, .unset] [(.ref r0)])) rfl (by rw [hml]; rfl) (Steps.refl _) (a := r0) (by rw [e1]; exact q7) q7' (argsL := []) (rest := []) (lenOf pd_1 rfl) rfl (by show 2 * 0 + _ ≤ _; exact Nat.le_of_eq rfl) (hb hby d6_6) (fun _ _ => ⟨rfl, e1, (by decide : 0 + 0 ≤ _), (by decide : 0 + 0 ≤ _)⟩)
  dsimp only [Pt.U, Pt.locs, Pt.cells, Pt.slots] at X7 l7 y7 z7 st7 hQ7
  subst l7 y7 z7
  have X7 : Stand p l e ({ frames := 1, cells := 0, slots := 0, locals := 16 } : Room) s m #[(.ref r0)] below meth c T7 _ 0 0 := X7
  obtain ⟨rfl, N7q, K7q, P7_0, P7_1, P7_2, P7_3, P7_4, P7_5⟩ := hQ7
  have N7 := Fr.app Ng6 N7q
  have K7 : Keep h0 T7.heap [r0] := K1.trans K7q (allS (Or.inl (List.mem_of_getElem? (i := 0) rfl)) all0)
  have O7 : Old Z n0 T7.heap := O1.keep K7q (allS g_r0 all0)
  refine OFin.tr st7 ?_
  show OFin p e below _ _ T7 (mkF m 9 #[.val (.ref r0), .unset, .unset, .unset, .unset] [(.long (vac fv (kv + 1)))])
  refine OFin.st (fun t k => XS.lstoreN X7.here hx rfl (hb hby d6_9) rfl (l' := #[.val (.ref r0), .val (.long (vac fv (kv + 1))), .second, .unset, .unset]) rfl k) ?_
  show OFin p e below _ _ T7 (mkF m 10 #[.val (.ref r0), .val (.long (vac fv (kv + 1))), .second, .unset, .unset] [])
  refine OFin.st (fun t k => XS.lloadN X7.here hx rfl (hb hby d6_10) rfl k) ?_
  show OFin p e below _ _ T7 (mkF m 11 #[.val (.ref r0), .val (.long (vac fv (kv + 1))), .second, .unset, .unset] [(.long (vac fv (kv + 1)))])
  refine OFin.st (fun t k => XS.iconst X7.here hx rfl (hb hby d6_11) k) ?_
  show OFin p e below _ _ T7 (mkF m 12 #[.val (.ref r0), .val (.long (vac fv (kv + 1))), .second, .unset, .unset] [(.int (3 : Int32)), (.long (vac fv (kv + 1)))])
  refine OFin.st (fun t k => XS.lushr X7.here hx rfl (hb hby d6_12) rfl k) ?_
  show OFin p e below _ _ T7 (mkF m 13 #[.val (.ref r0), .val (.long (vac fv (kv + 1))), .second, .unset, .unset] [(.long (((vac fv (kv + 1)).toUInt64 >>> ((3 : Int32) &&& 0x3f).toInt64.toUInt64).toInt64))])
  refine OFin.st (fun t k => XS.lstoreN X7.here hx rfl (hb hby d6_13) rfl (l' := #[.val (.ref r0), .val (.long (vac fv (kv + 1))), .second, .val (.long (((vac fv (kv + 1)).toUInt64 >>> ((3 : Int32) &&& 0x3f).toInt64.toUInt64).toInt64)), .second]) rfl k) ?_
  show OFin p e below _ _ T7 (mkF m 14 #[.val (.ref r0), .val (.long (vac fv (kv + 1))), .second, .val (.long (((vac fv (kv + 1)).toUInt64 >>> ((3 : Int32) &&& 0x3f).toInt64.toUInt64).toInt64)), .second] [])
  refine OFin.st (fun t k => XS.lloadN X7.here hx rfl (hb hby d6_14) rfl k) ?_
  show OFin p e below _ _ T7 (mkF m 15 #[.val (.ref r0), .val (.long (vac fv (kv + 1))), .second, .val (.long (((vac fv (kv + 1)).toUInt64 >>> ((3 : Int32) &&& 0x3f).toInt64.toUInt64).toInt64)), .second] [(.long (((vac fv (kv + 1)).toUInt64 >>> ((3 : Int32) &&& 0x3f).toInt64.toUInt64).toInt64))])
  refine OFin.st (fun t k => XS.lconst X7.here hx rfl (hb hby d6_15) k) ?_
  show OFin p e below _ _ T7 (mkF m 16 #[.val (.ref r0), .val (.long (vac fv (kv + 1))), .second, .val (.long (((vac fv (kv + 1)).toUInt64 >>> ((3 : Int32) &&& 0x3f).toInt64.toUInt64).toInt64)), .second] [(.long (0 : Int64)), (.long (((vac fv (kv + 1)).toUInt64 >>> ((3 : Int32) &&& 0x3f).toInt64.toUInt64).toInt64))])
  refine OFin.st (fun t k => XS.lcmp X7.here hx rfl (hb hby d6_16) rfl k) ?_
  show OFin p e below _ _ T7 (mkF m 17 #[.val (.ref r0), .val (.long (vac fv (kv + 1))), .second, .val (.long (((vac fv (kv + 1)).toUInt64 >>> ((3 : Int32) &&& 0x3f).toInt64.toUInt64).toInt64)), .second] [(.int (lcmpW (((vac fv (kv + 1)).toUInt64 >>> ((3 : Int32) &&& 0x3f).toInt64.toUInt64).toInt64) (0 : Int64)))])
  refine OFin.st (fun t k => XS.ifNo X7.here hx rfl (hb hby d6_17) rfl ((if0 _ _).trans (feq (fun q => hn0 ((lw_eq (((vac fv (kv + 1)).toUInt64 >>> ((3 : Int32) &&& 0x3f).toInt64.toUInt64).toInt64) (0 : Int64)).mp q))).1) k) ?_
  show OFin p e below _ _ T7 (mkF m 20 #[.val (.ref r0), .val (.long (vac fv (kv + 1))), .second, .val (.long (((vac fv (kv + 1)).toUInt64 >>> ((3 : Int32) &&& 0x3f).toInt64.toUInt64).toInt64)), .second] [])
  refine OFin.st (fun t k => XS.lloadN X7.here hx rfl (hb hby d6_20) rfl k) ?_
  show OFin p e below _ _ T7 (mkF m 21 #[.val (.ref r0), .val (.long (vac fv (kv + 1))), .second, .val (.long (((vac fv (kv + 1)).toUInt64 >>> ((3 : Int32) &&& 0x3f).toInt64.toUInt64).toInt64)), .second] [(.long (((vac fv (kv + 1)).toUInt64 >>> ((3 : Int32) &&& 0x3f).toInt64.toUInt64).toInt64))])
  refine OFin.st (X7.ldc2Long hx hown (mvT hZ (hw _ (List.mem_of_getElem? (i := 50) rfl))) (g := (mkF m 21 #[.val (.ref r0), .val (.long (vac fv (kv + 1))), .second, .val (.long (((vac fv (kv + 1)).toUInt64 >>> ((3 : Int32) &&& 0x3f).toInt64.toUInt64).toInt64)), .second] [(.long (((vac fv (kv + 1)).toUInt64 >>> ((3 : Int32) &&& 0x3f).toInt64.toUInt64).toInt64))])) rfl (hb hby d6_21)) ?_
  show OFin p e below _ _ T7 (mkF m 24 #[.val (.ref r0), .val (.long (vac fv (kv + 1))), .second, .val (.long (((vac fv (kv + 1)).toUInt64 >>> ((3 : Int32) &&& 0x3f).toInt64.toUInt64).toInt64)), .second] [(.long (536870911 : Int64)), (.long (((vac fv (kv + 1)).toUInt64 >>> ((3 : Int32) &&& 0x3f).toInt64.toUInt64).toInt64))])
  refine OFin.st (fun t k => XS.lcmp X7.here hx rfl (hb hby d6_24) rfl k) ?_
  show OFin p e below _ _ T7 (mkF m 25 #[.val (.ref r0), .val (.long (vac fv (kv + 1))), .second, .val (.long (((vac fv (kv + 1)).toUInt64 >>> ((3 : Int32) &&& 0x3f).toInt64.toUInt64).toInt64)), .second] [(.int (lcmpW (((vac fv (kv + 1)).toUInt64 >>> ((3 : Int32) &&& 0x3f).toInt64.toUInt64).toInt64) (536870911 : Int64)))])
  refine OFin.st (fun t k => XS.ifYes X7.here hx rfl (pc0 := 25) (pc' := 42) rfl (hb hby d6_25) rfl ((if0 _ _).trans (flt (fun q => hnq ((lw_gt (((vac fv (kv + 1)).toUInt64 >>> ((3 : Int32) &&& 0x3f).toInt64.toUInt64).toInt64) (536870911 : Int64)).mp q))).2.2.2) (by decide) (by decide) k) ?_
  show OFin p e below _ _ T7 (mkF m 42 #[.val (.ref r0), .val (.long (vac fv (kv + 1))), .second, .val (.long (((vac fv (kv + 1)).toUInt64 >>> ((3 : Int32) &&& 0x3f).toInt64.toUInt64).toInt64)), .second] [])
  refine OFin.st (fun t k => XS.aloadN X7.here hx rfl (hb hby d6_42) rfl rfl k) ?_
  show OFin p e below _ _ T7 (mkF m 43 #[.val (.ref r0), .val (.long (vac fv (kv + 1))), .second, .val (.long (((vac fv (kv + 1)).toUInt64 >>> ((3 : Int32) &&& 0x3f).toInt64.toUInt64).toInt64)), .second] [(.ref r0)])
  refine OFin.st (fun t k => XS.lloadN X7.here hx rfl (hb hby d6_43) rfl k) ?_
  show OFin p e below _ _ T7 (mkF m 44 #[.val (.ref r0), .val (.long (vac fv (kv + 1))), .second, .val (.long (((vac fv (kv + 1)).toUInt64 >>> ((3 : Int32) &&& 0x3f).toInt64.toUInt64).toInt64)), .second] [(.long (((vac fv (kv + 1)).toUInt64 >>> ((3 : Int32) &&& 0x3f).toInt64.toUInt64).toInt64)), (.ref r0)])
  refine OFin.st (fun t k => XS.l2i X7.here hx rfl (hb hby d6_44) rfl k) ?_
  show OFin p e below _ _ T7 (mkF m 45 #[.val (.ref r0), .val (.long (vac fv (kv + 1))), .second, .val (.long (((vac fv (kv + 1)).toUInt64 >>> ((3 : Int32) &&& 0x3f).toInt64.toUInt64).toInt64)), .second] [(.int ((((vac fv (kv + 1)).toUInt64 >>> ((3 : Int32) &&& 0x3f).toInt64.toUInt64).toInt64).toInt32)), (.ref r0)])
  obtain ⟨T8, h8, X8, e8, W8, st8⟩ := putF X7 hx hZ hown (host := "") (Or.inl (hw _ (List.mem_of_getElem? (i := 44) rfl))) Via.refl rfl P7_4 P7_0 (Or.inl (hw _ (List.mem_of_getElem? (i := 45) rfl))) (hw _ (List.mem_of_getElem? (i := 9) rfl)) (ty := .int) (by decide) rfl rfl (g := (mkF m 45 #[.val (.ref r0), .val (.long (vac fv (kv + 1))), .second, .val (.long (((vac fv (kv + 1)).toUInt64 >>> ((3 : Int32) &&& 0x3f).toInt64.toUInt64).toInt64)), .second] [(.int ((((vac fv (kv + 1)).toUInt64 >>> ((3 : Int32) &&& 0x3f).toInt64.toUInt64).toInt64).toInt32)), (.ref r0)])) rfl rfl (hb hby d6_45)
  refine OFin.st st8 ?_
  have Fw8 := P7_4.same W8
  have N8 := Fr.snoc X8 N7 g_r0
  have K8 : Keep h0 h8 [r0] := K7.wr W8 (Or.inl (List.mem_of_getElem? (i := 0) rfl))
  have O8 : Old Z n0 h8 := O7.wr W8 g_r0
  show OFin p e below _ _ T8 (mkF m 48 #[.val (.ref r0), .val (.long (vac fv (kv + 1))), .second, .val (.long (((vac fv (kv + 1)).toUInt64 >>> ((3 : Int32) &&& 0x3f).toInt64.toUInt64).toInt64)), .second] [])
  refine OFin.st (fun t k => XS.aloadN X8.here hx rfl (hb hby d6_48) rfl rfl k) ?_
  show OFin p e below _ _ T8 (mkF m 49 #[.val (.ref r0), .val (.long (vac fv (kv + 1))), .second, .val (.long (((vac fv (kv + 1)).toUInt64 >>> ((3 : Int32) &&& 0x3f).toInt64.toUInt64).toInt64)), .second] [(.ref r0)])
  refine OFin.st (fun t k => XS.lloadN X8.here hx rfl (hb hby d6_49) rfl k) ?_
  show OFin p e below _ _ T8 (mkF m 50 #[.val (.ref r0), .val (.long (vac fv (kv + 1))), .second, .val (.long (((vac fv (kv + 1)).toUInt64 >>> ((3 : Int32) &&& 0x3f).toInt64.toUInt64).toInt64)), .second] [(.long (vac fv (kv + 1))), (.ref r0)])
  refine OFin.st (fun t k => XS.l2i X8.here hx rfl (hb hby d6_50) rfl k) ?_
  show OFin p e below _ _ T8 (mkF m 51 #[.val (.ref r0), .val (.long (vac fv (kv + 1))), .second, .val (.long (((vac fv (kv + 1)).toUInt64 >>> ((3 : Int32) &&& 0x3f).toInt64.toUInt64).toInt64)), .second] [(.int ((vac fv (kv + 1)).toInt32)), (.ref r0)])
  refine OFin.st (fun t k => XS.bipush X8.here hx rfl (hb hby d6_51) k) ?_
  show OFin p e below _ _ T8 (mkF m 53 #[.val (.ref r0), .val (.long (vac fv (kv + 1))), .second, .val (.long (((vac fv (kv + 1)).toUInt64 >>> ((3 : Int32) &&& 0x3f).toInt64.toUInt64).toInt64)), .second] [(.int (7 : Int32)), (.int ((vac fv (kv + 1)).toInt32)), (.ref r0)])
  refine OFin.st (fun t k => XS.iand X8.here hx rfl (hb hby d6_53) rfl k) ?_
  show OFin p e below _ _ T8 (mkF m 54 #[.val (.ref r0), .val (.long (vac fv (kv + 1))), .second, .val (.long (((vac fv (kv + 1)).toUInt64 >>> ((3 : Int32) &&& 0x3f).toInt64.toUInt64).toInt64)), .second] [(.int (((vac fv (kv + 1)).toInt32) &&& (7 : Int32))), (.ref r0)])
  have c9 := (P7_5.other W8 (Or.inr (slot_ne (Or.inl (hw _ (List.mem_of_getElem? (i := 52) rfl))) (Or.inl (hw _ (List.mem_of_getElem? (i := 45) rfl))) (by decide) (t := .int) (t' := .int) (by decide) (by decide))))
  obtain ⟨T10, h10, X10, e10, W10, st10⟩ := putF X8 hx hZ hown (host := "") (Or.inl (hw _ (List.mem_of_getElem? (i := 51) rfl))) Via.refl e8 c9 (P7_0.wr W8) (Or.inl (hw _ (List.mem_of_getElem? (i := 52) rfl))) (hw _ (List.mem_of_getElem? (i := 9) rfl)) (ty := .int) (by decide) rfl rfl (g := (mkF m 54 #[.val (.ref r0), .val (.long (vac fv (kv + 1))), .second, .val (.long (((vac fv (kv + 1)).toUInt64 >>> ((3 : Int32) &&& 0x3f).toInt64.toUInt64).toInt64)), .second] [(.int (((vac fv (kv + 1)).toInt32) &&& (7 : Int32))), (.ref r0)])) rfl rfl (hb hby d6_54)
  refine OFin.st st10 ?_
  have Fw10 := c9.same W10
  have N10 := Fr.snoc X10 N8 g_r0
  have K10 : Keep h0 h10 [r0] := K8.wr W10 (Or.inl (List.mem_of_getElem? (i := 0) rfl))
  have O10 : Old Z n0 h10 := O8.wr W10 g_r0
  show OFin p e below _ _ T10 (mkF m 57 #[.val (.ref r0), .val (.long (vac fv (kv + 1))), .second, .val (.long (((vac fv (kv + 1)).toUInt64 >>> ((3 : Int32) &&& 0x3f).toInt64.toUInt64).toInt64)), .second] [])
  refine OFin.st (fun t k => XS.aloadN X10.here hx rfl (hb hby d6_57) rfl rfl k) ?_
  show OFin p e below _ _ T10 (mkF m 58 #[.val (.ref r0), .val (.long (vac fv (kv + 1))), .second, .val (.long (((vac fv (kv + 1)).toUInt64 >>> ((3 : Int32) &&& 0x3f).toInt64.toUInt64).toInt64)), .second] [(.ref r0)])
  obtain ⟨T11, X11, e11, st11⟩ := getF X10 hx hZ hown (host := "") (Or.inl (hw _ (List.mem_of_getElem? (i := 51) rfl))) Via.refl e10 Fw10 (g := (mkF m 58 #[.val (.ref r0), .val (.long (vac fv (kv + 1))), .second, .val (.long (((vac fv (kv + 1)).toUInt64 >>> ((3 : Int32) &&& 0x3f).toInt64.toUInt64).toInt64)), .second] [(.ref r0)])) rfl rfl (hb hby d6_58)
  refine OFin.st st11 ?_
  show OFin p e below _ _ T11 (mkF m 61 #[.val (.ref r0), .val (.long (vac fv (kv + 1))), .second, .val (.long (((vac fv (kv + 1)).toUInt64 >>> ((3 : Int32) &&& 0x3f).toInt64.toUInt64).toInt64)), .second] [(.int (((vac fv (kv + 1)).toInt32) &&& (7 : Int32)))])
  obtain ⟨T12, X12, e12, st12⟩ := getS2 X11 hx hZ hown (host := "") (Or.inl (hw _ (List.mem_of_getElem? (i := 53) rfl))) Via.refl e11 (S_WIRE_TYPES.ext O10.2) (g := (mkF m 61 #[.val (.ref r0), .val (.long (vac fv (kv + 1))), .second, .val (.long (((vac fv (kv + 1)).toUInt64 >>> ((3 : Int32) &&& 0x3f).toInt64.toUInt64).toInt64)), .second] [(.int (((vac fv (kv + 1)).toInt32) &&& (7 : Int32)))])) rfl (hb hby d6_61)
  refine OFin.st st12 ?_
  show OFin p e below _ _ T12 (mkF m 64 #[.val (.ref r0), .val (.long (vac fv (kv + 1))), .second, .val (.long (((vac fv (kv + 1)).toUInt64 >>> ((3 : Int32) &&& 0x3f).toInt64.toUInt64).toInt64)), .second] [(.ref w_WIRE_TYPES), (.int (((vac fv (kv + 1)).toInt32) &&& (7 : Int32)))])
  refine own_alen X12 hx hZ e12 (A_w_WIRE_TYPES.ext O10.2) (z := (6 : Int32)) (by rw [hW6]; decide) (hb hby d6_64) (pc' := 65) rfl ?_
  show OFin p e below _ _ T12 (mkF m 65 #[.val (.ref r0), .val (.long (vac fv (kv + 1))), .second, .val (.long (((vac fv (kv + 1)).toUInt64 >>> ((3 : Int32) &&& 0x3f).toInt64.toUInt64).toInt64)), .second] [(.int (6 : Int32)), (.int (((vac fv (kv + 1)).toInt32) &&& (7 : Int32)))])
  refine OFin.st (fun t k => XS.icmpYes X12.here hx rfl (pc0 := 65) (pc' := 86) rfl (hb hby d6_65) rfl (tlt hwt).1 (by decide) (by decide) k) ?_
  show OFin p e below _ _ T12 (mkF m 86 #[.val (.ref r0), .val (.long (vac fv (kv + 1))), .second, .val (.long (((vac fv (kv + 1)).toUInt64 >>> ((3 : Int32) &&& 0x3f).toInt64.toUInt64).toInt64)), .second] [])
  have c13 := ((P7_1.other W8 (Or.inr (slot_ne (Or.inr (hw _ (List.mem_of_getElem? (i := 28) rfl))) (Or.inl (hw _ (List.mem_of_getElem? (i := 45) rfl))) (by decide) (t := (.array .byte)) (t' := .int) (by decide) (by decide)))).other W10 (Or.inr (slot_ne (Or.inr (hw _ (List.mem_of_getElem? (i := 28) rfl))) (Or.inl (hw _ (List.mem_of_getElem? (i := 52) rfl))) (by decide) (t := (.array .byte)) (t' := .int) (by decide) (by decide))))
  have c14 := ((P7_2.other W8 (Or.inr (slot_ne (Or.inl (hw _ (List.mem_of_getElem? (i := 30) rfl))) (Or.inl (hw _ (List.mem_of_getElem? (i := 45) rfl))) (by decide) (t := .int) (t' := .int) (by decide) (by decide)))).other W10 (Or.inr (slot_ne (Or.inl (hw _ (List.mem_of_getElem? (i := 30) rfl))) (Or.inl (hw _ (List.mem_of_getElem? (i := 52) rfl))) (by decide) (t := .int) (t' := .int) (by decide) (by decide))))
  have c15 := ((P7_3.other W8 (Or.inr (slot_ne (Or.inr (hw _ (List.mem_of_getElem? (i := 32) rfl))) (Or.inl (hw _ (List.mem_of_getElem? (i := 45) rfl))) (by decide) (t := .int) (t' := .int) (by decide) (by decide)))).other W10 (Or.inr (slot_ne (Or.inr (hw _ (List.mem_of_getElem? (i := 32) rfl))) (Or.inl (hw _ (List.mem_of_getElem? (i := 52) rfl))) (by decide) (t := .int) (t' := .int) (by decide) (by decide))))
  have c16 := (Fw8.other W10 (Or.inr (slot_ne (Or.inl (hw _ (List.mem_of_getElem? (i := 45) rfl))) (Or.inl (hw _ (List.mem_of_getElem? (i := 52) rfl))) (by decide) (t := .int) (t' := .int) (by decide) (by decide))))
  exact own_retV X12 hx Bd.returns Bd.notSynchronized (hb hby d6_86) (by show Qrm6 Z r0 ba pp en ff wt kA vs fv kv kW vW w_WIRE_TYPES h0 n0 _ T12.heap _; rw [e12]; exact ⟨rfl, N10, K10, ((P7_0.wr W8).wr W10), c13, c14, c15, c16, Fw10⟩) (own_endN (by decide) (by decide))
theorem ef_rm5k (m : MethodId) (r0 : Addr) : entryFrame m #[(.ref r0)] 1 = mkF m 0 #[.val (.ref r0)] [] := by first | (simp [entryFrame, mkF, argsToLocals, Value.category]; done) | rfl
def Qrm5k (Z : State) (r0 : Addr) (ba : Addr) (pp : Int32) (en : Int32) (ff : Int32) (wt : Int32) (kA : ClassId) (vs : List Value) (fv : Nat → Int32) (kv : Nat) (kW : ClassId) (vW : List Value) (w_WIRE_TYPES : Addr) (h0 : Heap) (n0 : Nat) (v : Option Value) (h : Heap) (L : List Loc) : Prop := v = some (Value.int (1 : Int32)) ∧ Fr n0 L ∧ Keep h0 h [r0] ∧ Exa Z h r0 "com/example/fillwire/fillwire/codec/ProtoReader" ∧ Fld Z h r0 "com/example/fillwire/fillwire/codec/ProtoReader" "bytes" "[B" (.ref ba) ∧ Fld Z h r0 "com/example/fillwire/fillwire/codec/ProtoReader" "position" "I" (.int (vpo pp (kv + 1))) ∧ Fld Z h r0 "com/example/fillwire/fillwire/codec/ProtoReader" "end" "I" (.int en) ∧ Fld Z h r0 "com/example/fillwire/fillwire/codec/ProtoReader" "field" "I" (.int ((((vac fv (kv + 1)).toUInt64 >>> ((3 : Int32) &&& 0x3f).toInt64.toUInt64).toInt64).toInt32)) ∧ Fld Z h r0 "com/example/fillwire/fillwire/codec/ProtoReader" "wireType" "I" (.int (((vac fv (kv + 1)).toInt32) &&& (7 : Int32)))
set_option maxRecDepth 65536 in
set_option maxHeartbeats 40000000 in
theorem rm5k (l : Launch) (Z : State) (a0 : Array Value) (hw : ∀ d ∈ tables_1, d.before a0 Z = true) (ws : List Jvm.Cond) (r0 : Addr) (ba : Addr) (pp : Int32) (en : Int32) (ff : Int32) (wt : Int32) (kA : ClassId) (vs : List Value) (fv : Nat → Int32) (kv : Nat) (kW : ClassId) (vW : List Value) (w_WIRE_TYPES : Addr) (h0 : Heap) (n0 : Nat) (O0 : Old Z n0 h0) (E_r0 : Exa Z h0 r0 "com/example/fillwire/fillwire/codec/ProtoReader") (F_bytes_r0 : Fld Z h0 r0 "com/example/fillwire/fillwire/codec/ProtoReader" "bytes" "[B" (.ref ba)) (F_position_r0 : Fld Z h0 r0 "com/example/fillwire/fillwire/codec/ProtoReader" "position" "I" (.int pp)) (F_end_r0 : Fld Z h0 r0 "com/example/fillwire/fillwire/codec/ProtoReader" "end" "I" (.int en)) (F_field_r0 : Fld Z h0 r0 "com/example/fillwire/fillwire/codec/ProtoReader" "field" "I" (.int ff)) (F_wireType_r0 : Fld Z h0 r0 "com/example/fillwire/fillwire/codec/ProtoReader" "wireType" "I" (.int wt)) (A_ba : Oar Z h0 ba kA .byte vs) (g_r0 : n0 ≤ r0) (N_ba_r0 : ba ≠ r0) (hk : kv ≤ 9) (hcn : ∀ i, i < kv → fv i < 0) (hln : ¬ fv kv < 0) (h9 : kv = 9 → ¬ (1 : Int32) < fv kv) (hp0 : 0 ≤ pp.toInt) (hp1 : pp.toInt < 2000000000) (hvs : ∀ i, i ≤ kv → vs[pp.toInt.toNat + i]? = some (Value.int (fv i))) (hne : ∀ i, i ≤ kv → ¬ vpo pp i = en) (hn0 : ¬ (((vac fv (kv + 1)).toUInt64 >>> ((3 : Int32) &&& 0x3f).toInt64.toUInt64).toInt64) = (0 : Int64)) (hnq : ¬ (536870911 : Int64) < (((vac fv (kv + 1)).toUInt64 >>> ((3 : Int32) &&& 0x3f).toInt64.toUInt64).toInt64)) (hwt : (((vac fv (kv + 1)).toInt32) &&& (7 : Int32)) < (6 : Int32)) (hW6 : vW.length = 6) (hw4 : ¬ (((vac fv (kv + 1)).toInt32) &&& (7 : Int32)) = (4 : Int32)) (A_w_WIRE_TYPES : Oar Z Z.heap w_WIRE_TYPES kW (.object "java/lang/String") vW) (S_WIRE_TYPES : Sta Z Z.heap "com/example/fillwire/fillwire/codec/ProtoReader" "WIRE_TYPES" "[Ljava/lang/String;" (.ref w_WIRE_TYPES)) :
    MetFree l (⟨"com/example/fillwire/fillwire/codec/ProtoReader", "next", "()Z"⟩ : MethodName) (head1 (Jvm.Cond.code (⟨"com/example/fillwire/fillwire/codec/ProtoReader", "next", "()Z"⟩ : MethodName) prog_34_method_3_code 1 (some .boolean) :: ws) ({ frames := 2, cells := 0, slots := 0, locals := 32 } : Room)) (fun a U => a = #[(.ref r0)] ∧ Z.Warmed39 U.vm ∧ U.heap = h0) (fun _ _ _ _ _ => True) (fun _ U o U' => ∃ v L, o = .returned v ∧ Qrm5k Z r0 ba pp en ff wt kA vs fv kv kW vW w_WIRE_TYPES h0 n0 v U'.heap L ∧ FrameEnd U o U' L ({ frames := 2, cells := 0, slots := 0, locals := 32 } : Room).cells ({ frames := 2, cells := 0, slots := 0, locals := 32 } : Room).slots) := by
  refine MetFree.of_bodySF (plainFor_of_name pn_com_example_fillwire_fillwire_codec_ProtoReader) hisR ?_
  intro p e s m args below meth c s₁ Bd hml0 hP hK
  obtain ⟨rfl, hZ, hh⟩ := hP
  have hx := Bd.exec
  have hby := Bd.bytes
  have hml : c.maxLocals = 1 := hml0
  have hown : s.vm.findClass "com/example/fillwire/fillwire/codec/ProtoReader" = some m.cls := findClass_of_methodNamed Bd.named
  have hnm := (name_of_methodNamed Bd.named Bd.method).1
  have X0 : Stand p l e ({ frames := 2, cells := 0, slots := 0, locals := 32 } : Room) s m #[(.ref r0)] below meth c s₁ [] 0 0 := Stand.of_body Bd
  have e0 : s₁.heap = h0 := by rw [← hh, Bd.state]; rfl
  have N0 := Fr.nil n0
  show OFin p e below (fun o t L => FrameEnd s o t L ({ frames := 2, cells := 0, slots := 0, locals := 32 } : Room).cells ({ frames := 2, cells := 0, slots := 0, locals := 32 } : Room).slots) (fun v h L => Qrm5k Z r0 ba pp en ff wt kA vs fv kv kW vW w_WIRE_TYPES h0 n0 v h L) s₁ (entryFrame m #[(.ref r0)] 1)
  refine OFin.cast (ef_rm5k m r0) ?_
  show OFin p e below _ _ s₁ (mkF m 0 #[.val (.ref r0)] [])
  refine OFin.st (fun t k => XS.aloadN X0.here hx rfl (hb hby d5_0) rfl rfl k) ?_
  show OFin p e below _ _ s₁ (mkF m 1 #[.val (.ref r0)] [(.ref r0)])
  obtain ⟨T1, X1, e1, st1⟩ := getF X0 hx hZ hown (host := "") (Or.inl (hw _ (List.mem_of_getElem? (i := 29) rfl))) Via.refl e0 F_position_r0 (g := (mkF m 1 #[.val (.ref r0)] [(.ref r0)])) rfl rfl (hb hby d5_1)
  refine OFin.st st1 ?_
  show OFin p e below _ _ T1 (mkF m 4 #[.val (.ref r0)] [(.int pp)])
  refine OFin.st (fun t k => XS.aloadN X1.here hx rfl (hb hby d5_4) rfl rfl k) ?_
  show OFin p e below _ _ T1 (mkF m 5 #[.val (.ref r0)] [(.ref r0), (.int pp)])
  obtain ⟨T2, X2, e2, st2⟩ := getF X1 hx hZ hown (host := "") (Or.inl (hw _ (List.mem_of_getElem? (i := 31) rfl))) Via.refl e1 F_end_r0 (g := (mkF m 5 #[.val (.ref r0)] [(.ref r0), (.int pp)])) rfl rfl (hb hby d5_5)
  refine OFin.st st2 ?_
  show OFin p e below _ _ T2 (mkF m 8 #[.val (.ref r0)] [(.int en), (.int pp)])
  refine OFin.st (fun t k => XS.icmpYes X2.here hx rfl (pc0 := 8) (pc' := 13) rfl (hb hby d5_8) rfl (feq (hne 0 (Nat.zero_le _))).2 (by decide) (by decide) k) ?_
  show OFin p e below _ _ T2 (mkF m 13 #[.val (.ref r0)] [])
  refine OFin.st (fun t k => XS.aloadN X2.here hx rfl (hb hby d5_13) rfl rfl k) ?_
  show OFin p e below _ _ T2 (mkF m 14 #[.val (.ref r0)] [(.ref r0)])
  obtain ⟨cq3, q3, q3'⟩ := E_r0.cell
  obtain ⟨_, _, ⟨T3, L3, k3, n3⟩, -, X3, ⟨Lc3, hQ3, l3, y3, z3⟩, st3⟩ := X2.privateBack hx (y := (⟨"com/example/fillwire/fillwire/codec/ProtoReader", "readKey", "()V"⟩ : MethodName)) hown (mvT hZ (hw _ (List.mem_of_getElem? (i := 40) rfl))) (mvT hZ (hw _ (List.mem_of_getElem? (i := 41) rfl))) (own_selP hZ (hw _ (List.mem_of_getElem? (i := 9) rfl)) (hw _ (List.mem_of_getElem? (i := 42) rfl)) (hw _ (List.mem_of_getElem? (i := 41) rfl)) (by decide)) (Cond.privateMethod_at (mvP hZ (hw _ (List.mem_of_getElem? (i := 42) rfl)) (args := #[]))) (mvT hZ (hw _ (List.mem_of_getElem? (i := 43) rfl))) (by decide) (backOf (W := 0) (rm6 l Z a0 hw [] r0 ba pp en ff wt kA vs fv kv kW vW w_WIRE_TYPES h0 n0 O0 E_r0 F_bytes_r0 F_position_r0 F_end_r0 F_field_r0 F_wireType_r0 A_ba g_r0 N_ba_r0 (hk : kv ≤ 9) (hcn : ∀ i, i < kv → fv i < 0) (hln : ¬ fv kv < 0) (h9 : kv = 9 → ¬ (1 : Int32) < fv kv) (hp0 : 0 ≤ pp.toInt) (hp1 : pp.toInt < 2000000000) (hvs : ∀ i, i ≤ kv → vs[pp.toInt.toNat + i]? = some (Value.int (fv i))) (hne : ∀ i, i ≤ kv → ¬ vpo pp i = en) (hn0 : ¬ (((vac fv (kv + 1)).toUInt64 >>> ((3 : Int32) &&& 0x3f).toInt64.toUInt64).toInt64) = (0 : Int64)) (hnq : ¬ (536870911 : Int64) < (((vac fv (kv + 1)).toUInt64 >>> ((3 : Int32) &&& 0x3f).toInt64.toUInt64).toInt64)) (hwt : (((vac fv (kv + 1)).toInt32) &&& (7 : Int32)) < (6 : Int32)) (hW6 : vW.length = 6) A_w_WIRE_TYPES S_WIRE_TYPES) hZ (hw _ (List.mem_of_getElem? (i := 43) rfl)) (hw _ (List.mem_of_getElem? (i := 10) rfl)) (by decide) (by decide)) (g := (mkF m 14 #[.val (.ref r0)] [(.ref r0)])) rfl (by rw [hml]; rfl) (Steps.refl _) (a := r0) (by rw [e2]; exact q3) q3' (argsL := []) (rest := []) (lenOf pd_2 rfl) rfl (by show 2 * 0 + _ ≤ _; exact Nat.le_of_eq rfl) (hb hby d5_14) (fun _ _ => ⟨rfl, e2, (by decide : 0 + 0 ≤ _), (by decide : 0 + 0 ≤ _)⟩)
  dsimp only [Pt.U, Pt.locs, Pt.cells, Pt.slots] at X3 l3 y3 z3 st3 hQ3
  subst l3 y3 z3
  have X3 : Stand p l e ({ frames := 2, cells := 0, slots := 0, locals := 32 } : Room) s m #[(.ref r0)] below meth c T3 _ 0 0 := X3
  obtain ⟨rfl, N3q, K3q, P3_0, P3_1, P3_2, P3_3, P3_4, P3_5⟩ := hQ3
  have N3 := Fr.app N0 N3q
  have K3 : Keep h0 T3.heap [r0] := (Keep.refl h0 [r0]).trans K3q (allS (Or.inl (List.mem_of_getElem? (i := 0) rfl)) all0)
  have O3 : Old Z n0 T3.heap := O0.keep K3q (allS g_r0 all0)
  refine OFin.tr st3 ?_
  show OFin p e below _ _ T3 (mkF m 17 #[.val (.ref r0)] [])
  refine OFin.st (fun t k => XS.aloadN X3.here hx rfl (hb hby d5_17) rfl rfl k) ?_
  show OFin p e below _ _ T3 (mkF m 18 #[.val (.ref r0)] [(.ref r0)])
  obtain ⟨T4, X4, e4, st4⟩ := getF X3 hx hZ hown (host := "") (Or.inl (hw _ (List.mem_of_getElem? (i := 51) rfl))) Via.refl rfl P3_5 (g := (mkF m 18 #[.val (.ref r0)] [(.ref r0)])) rfl rfl (hb hby d5_18)
  refine OFin.st st4 ?_
  show OFin p e below _ _ T4 (mkF m 21 #[.val (.ref r0)] [(.int (((vac fv (kv + 1)).toInt32) &&& (7 : Int32)))])
  refine OFin.st (fun t k => XS.iconst X4.here hx rfl (hb hby d5_21) k) ?_
  show OFin p e below _ _ T4 (mkF m 22 #[.val (.ref r0)] [(.int (4 : Int32)), (.int (((vac fv (kv + 1)).toInt32) &&& (7 : Int32)))])
  refine OFin.st (fun t k => XS.icmpYes X4.here hx rfl (pc0 := 22) (pc' := 39) rfl (hb hby d5_22) rfl (feq hw4).2 (by decide) (by decide) k) ?_
  show OFin p e below _ _ T4 (mkF m 39 #[.val (.ref r0)] [])
  refine OFin.st (fun t k => XS.iconst X4.here hx rfl (hb hby d5_39) k) ?_
  show OFin p e below _ _ T4 (mkF m 40 #[.val (.ref r0)] [(.int (1 : Int32))])
  exact own_retN X4 hx Bd.returns Bd.notSynchronized (t := .boolean) (by simp) rfl (hb hby d5_40) (by show Qrm5k Z r0 ba pp en ff wt kA vs fv kv kW vW w_WIRE_TYPES h0 n0 _ T4.heap _; rw [e4]; exact ⟨rfl, N3, K3, P3_0, P3_1, P3_2, P3_3, P3_4, P3_5⟩) (own_endN (by decide) (by decide))
theorem ef_rm3 (m : MethodId) (r0 : Addr) (r1 : Addr) (p2 : Int32) (p3 : Int32) (r4 : Addr) : entryFrame m #[(.ref r0), (.ref r1), (.int p2), (.int p3), (.ref r4)] 5 = mkF m 0 #[.val (.ref r0), .val (.ref r1), .val (.int p2), .val (.int p3), .val (.ref r4)] [] := by first | (simp [entryFrame, mkF, argsToLocals, Value.category]; done) | rfl
def Qrm3 (Z : State) (r0 : Addr) (r1 : Addr) (p2 : Int32) (p3 : Int32) (r4 : Addr) (u1 : Value) (u2 : Value) (u3 : Value) (u4 : Value) (ff : Int32) (wt : Int32) (h0 : Heap) (n0 : Nat) (v : Option Value) (h : Heap) (L : List Loc) : Prop := v = none ∧ Fr n0 L ∧ Keep h0 h [r0] ∧ Exa Z h r0 "com/example/fillwire/fillwire/codec/ProtoReader" ∧ Fld Z h r0 "com/example/fillwire/fillwire/codec/ProtoReader" "bytes" "[B" (.ref r1) ∧ Fld Z h r0 "com/example/fillwire/fillwire/codec/ProtoReader" "position" "I" (.int p2) ∧ Fld Z h r0 "com/example/fillwire/fillwire/codec/ProtoReader" "end" "I" (.int p3) ∧ Fld Z h r0 "com/example/fillwire/fillwire/codec/ProtoReader" "field" "I" (.int ff) ∧ Fld Z h r0 "com/example/fillwire/fillwire/codec/ProtoReader" "wireType" "I" (.int wt)
set_option maxRecDepth 65536 in
set_option maxHeartbeats 40000000 in
theorem rm3 (l : Launch) (Z : State) (a0 : Array Value) (hw : ∀ d ∈ tables_1, d.before a0 Z = true) (ws : List Jvm.Cond) (r0 : Addr) (r1 : Addr) (p2 : Int32) (p3 : Int32) (r4 : Addr) (u1 : Value) (u2 : Value) (u3 : Value) (u4 : Value) (ff : Int32) (wt : Int32) (h0 : Heap) (n0 : Nat) (O0 : Old Z n0 h0) (E_r0 : Exa Z h0 r0 "com/example/fillwire/fillwire/codec/ProtoReader") (F_bytes_r0 : Fld Z h0 r0 "com/example/fillwire/fillwire/codec/ProtoReader" "bytes" "[B" u1) (F_position_r0 : Fld Z h0 r0 "com/example/fillwire/fillwire/codec/ProtoReader" "position" "I" u2) (F_end_r0 : Fld Z h0 r0 "com/example/fillwire/fillwire/codec/ProtoReader" "end" "I" u3) (F_name_r0 : Fld Z h0 r0 "com/example/fillwire/fillwire/codec/ProtoReader" "name" "Ljava/lang/String;" u4) (F_field_r0 : Fld Z h0 r0 "com/example/fillwire/fillwire/codec/ProtoReader" "field" "I" (.int ff)) (F_wireType_r0 : Fld Z h0 r0 "com/example/fillwire/fillwire/codec/ProtoReader" "wireType" "I" (.int wt)) (g_r0 : n0 ≤ r0) :
    MetFree l (⟨"com/example/fillwire/fillwire/codec/ProtoReader", "<init>", "([BIILjava/lang/String;)V"⟩ : MethodName) (head1 (Jvm.Cond.code (⟨"com/example/fillwire/fillwire/codec/ProtoReader", "<init>", "([BIILjava/lang/String;)V"⟩ : MethodName) prog_34_method_2_code 5 none :: ws) ({ frames := 1, cells := 0, slots := 0, locals := 12 } : Room)) (fun a U => a = #[(.ref r0), (.ref r1), (.int p2), (.int p3), (.ref r4)] ∧ Z.Warmed39 U.vm ∧ U.heap = h0) (fun _ _ _ _ _ => True) (fun _ U o U' => ∃ v L, o = .returned v ∧ Qrm3 Z r0 r1 p2 p3 r4 u1 u2 u3 u4 ff wt h0 n0 v U'.heap L ∧ FrameEnd U o U' L ({ frames := 1, cells := 0, slots := 0, locals := 12 } : Room).cells ({ frames := 1, cells := 0, slots := 0, locals := 12 } : Room).slots) := by
  refine MetFree.of_bodySF (plainFor_of_name pn_com_example_fillwire_fillwire_codec_ProtoReader) hisR ?_
  intro p e s m args below meth c s₁ Bd hml0 hP hK
  obtain ⟨rfl, hZ, hh⟩ := hP
  have hx := Bd.exec
  have hby := Bd.bytes
  have hml : c.maxLocals = 5 := hml0
  have hown : s.vm.findClass "com/example/fillwire/fillwire/codec/ProtoReader" = some m.cls := findClass_of_methodNamed Bd.named
  have hnm := (name_of_methodNamed Bd.named Bd.method).1
  have X0 : Stand p l e ({ frames := 1, cells := 0, slots := 0, locals := 12 } : Room) s m #[(.ref r0), (.ref r1), (.int p2), (.int p3), (.ref r4)] below meth c s₁ [] 0 0 := Stand.of_body Bd
  have e0 : s₁.heap = h0 := by rw [← hh, Bd.state]; rfl
  have N0 := Fr.nil n0
  show OFin p e below (fun o t L => FrameEnd s o t L ({ frames := 1, cells := 0, slots := 0, locals := 12 } : Room).cells ({ frames := 1, cells := 0, slots := 0, locals := 12 } : Room).slots) (fun v h L => Qrm3 Z r0 r1 p2 p3 r4 u1 u2 u3 u4 ff wt h0 n0 v h L) s₁ (entryFrame m #[(.ref r0), (.ref r1), (.int p2), (.int p3), (.ref r4)] 5)
  refine OFin.cast (ef_rm3 m r0 r1 p2 p3 r4) ?_
  show OFin p e below _ _ s₁ (mkF m 0 #[.val (.ref r0), .val (.ref r1), .val (.int p2), .val (.int p3), .val (.ref r4)] [])
  refine OFin.st (fun t k => XS.aloadN X0.here hx rfl (hb hby d3_0) rfl rfl k) ?_
  show OFin p e below _ _ s₁ (mkF m 1 #[.val (.ref r0), .val (.ref r1), .val (.int p2), .val (.int p3), .val (.ref r4)] [(.ref r0)])
  obtain ⟨T1, X1, e1, st1⟩ := initO X0 hx hZ hown (hw _ (List.mem_of_getElem? (i := 24) rfl)) (hw _ (List.mem_of_getElem? (i := 25) rfl)) (hw _ (List.mem_of_getElem? (i := 26) rfl)) e0 (g := (mkF m 1 #[.val (.ref r0), .val (.ref r1), .val (.int p2), .val (.int p3), .val (.ref r4)] [(.ref r0)])) rfl (by rw [hml]; rfl) rfl (hb hby d3_1) (by decide) (W := 0) (by show 2 * 0 + _ ≤ _; exact Nat.le_of_eq rfl) (by decide)
  refine OFin.st st1 ?_
  show OFin p e below _ _ T1 (mkF m 4 #[.val (.ref r0), .val (.ref r1), .val (.int p2), .val (.int p3), .val (.ref r4)] [])
  refine OFin.st (fun t k => XS.aloadN X1.here hx rfl (hb hby d3_4) rfl rfl k) ?_
  show OFin p e below _ _ T1 (mkF m 5 #[.val (.ref r0), .val (.ref r1), .val (.int p2), .val (.int p3), .val (.ref r4)] [(.ref r0)])
  refine OFin.st (fun t k => XS.aloadN X1.here hx rfl (hb hby d3_5) rfl rfl k) ?_
  show OFin p e below _ _ T1 (mkF m 6 #[.val (.ref r0), .val (.ref r1), .val (.int p2), .val (.int p3), .val (.ref r4)] [(.ref r1), (.ref r0)])
  obtain ⟨T2, h2, X2, e2, W2, st2⟩ := putF X1 hx hZ hown (host := "") (Or.inl (hw _ (List.mem_of_getElem? (i := 27) rfl))) Via.refl e1 F_bytes_r0 E_r0 (Or.inr ⟨(hw _ (List.mem_of_getElem? (i := 28) rfl)), rfl, hnm⟩) (hw _ (List.mem_of_getElem? (i := 9) rfl)) (ty := (.array .byte)) (by decide) rfl rfl (g := (mkF m 6 #[.val (.ref r0), .val (.ref r1), .val (.int p2), .val (.int p3), .val (.ref r4)] [(.ref r1), (.ref r0)])) rfl rfl (hb hby d3_6)
  refine OFin.st st2 ?_
  have Fw2 := F_bytes_r0.same W2
  have N2 := Fr.snoc X2 N0 g_r0
  have K2 : Keep h0 h2 [r0] := (Keep.refl h0 [r0]).wr W2 (Or.inl (List.mem_of_getElem? (i := 0) rfl))
  have O2 : Old Z n0 h2 := O0.wr W2 g_r0
  show OFin p e below _ _ T2 (mkF m 9 #[.val (.ref r0), .val (.ref r1), .val (.int p2), .val (.int p3), .val (.ref r4)] [])
  refine OFin.st (fun t k => XS.aloadN X2.here hx rfl (hb hby d3_9) rfl rfl k) ?_
  show OFin p e below _ _ T2 (mkF m 10 #[.val (.ref r0), .val (.ref r1), .val (.int p2), .val (.int p3), .val (.ref r4)] [(.ref r0)])
  refine OFin.st (fun t k => XS.iloadN X2.here hx rfl (hb hby d3_10) rfl k) ?_
  show OFin p e below _ _ T2 (mkF m 11 #[.val (.ref r0), .val (.ref r1), .val (.int p2), .val (.int p3), .val (.ref r4)] [(.int p2), (.ref r0)])
  have c3 := (F_position_r0.other W2 (Or.inr (slot_ne (Or.inl (hw _ (List.mem_of_getElem? (i := 30) rfl))) (Or.inr (hw _ (List.mem_of_getElem? (i := 28) rfl))) (by decide) (t := .int) (t' := (.array .byte)) (by decide) (by decide))))
  obtain ⟨T4, h4, X4, e4, W4, st4⟩ := putF X2 hx hZ hown (host := "") (Or.inl (hw _ (List.mem_of_getElem? (i := 29) rfl))) Via.refl e2 c3 (E_r0.wr W2) (Or.inl (hw _ (List.mem_of_getElem? (i := 30) rfl))) (hw _ (List.mem_of_getElem? (i := 9) rfl)) (ty := .int) (by decide) rfl rfl (g := (mkF m 11 #[.val (.ref r0), .val (.ref r1), .val (.int p2), .val (.int p3), .val (.ref r4)] [(.int p2), (.ref r0)])) rfl rfl (hb hby d3_11)
  refine OFin.st st4 ?_
  have Fw4 := c3.same W4
  have N4 := Fr.snoc X4 N2 g_r0
  have K4 : Keep h0 h4 [r0] := K2.wr W4 (Or.inl (List.mem_of_getElem? (i := 0) rfl))
  have O4 : Old Z n0 h4 := O2.wr W4 g_r0
  show OFin p e below _ _ T4 (mkF m 14 #[.val (.ref r0), .val (.ref r1), .val (.int p2), .val (.int p3), .val (.ref r4)] [])
  refine OFin.st (fun t k => XS.aloadN X4.here hx rfl (hb hby d3_14) rfl rfl k) ?_
  show OFin p e below _ _ T4 (mkF m 15 #[.val (.ref r0), .val (.ref r1), .val (.int p2), .val (.int p3), .val (.ref r4)] [(.ref r0)])
  refine OFin.st (fun t k => XS.iloadN X4.here hx rfl (hb hby d3_15) rfl k) ?_
  show OFin p e below _ _ T4 (mkF m 16 #[.val (.ref r0), .val (.ref r1), .val (.int p2), .val (.int p3), .val (.ref r4)] [(.int p3), (.ref r0)])
  have c5 := ((F_end_r0.other W2 (Or.inr (slot_ne (Or.inr (hw _ (List.mem_of_getElem? (i := 32) rfl))) (Or.inr (hw _ (List.mem_of_getElem? (i := 28) rfl))) (by decide) (t := .int) (t' := (.array .byte)) (by decide) (by decide)))).other W4 (Or.inr (slot_ne (Or.inr (hw _ (List.mem_of_getElem? (i := 32) rfl))) (Or.inl (hw _ (List.mem_of_getElem? (i := 30) rfl))) (by decide) (t := .int) (t' := .int) (by decide) (by decide))))
  obtain ⟨T6, h6, X6, e6, W6, st6⟩ := putF X4 hx hZ hown (host := "") (Or.inl (hw _ (List.mem_of_getElem? (i := 31) rfl))) Via.refl e4 c5 ((E_r0.wr W2).wr W4) (Or.inr ⟨(hw _ (List.mem_of_getElem? (i := 32) rfl)), rfl, hnm⟩) (hw _ (List.mem_of_getElem? (i := 9) rfl)) (ty := .int) (by decide) rfl rfl (g := (mkF m 16 #[.val (.ref r0), .val (.ref r1), .val (.int p2), .val (.int p3), .val (.ref r4)] [(.int p3), (.ref r0)])) rfl rfl (hb hby d3_16)
  refine OFin.st st6 ?_
  have Fw6 := c5.same W6
  have N6 := Fr.snoc X6 N4 g_r0
  have K6 : Keep h0 h6 [r0] := K4.wr W6 (Or.inl (List.mem_of_getElem? (i := 0) rfl))
  have O6 : Old Z n0 h6 := O4.wr W6 g_r0
  show OFin p e below _ _ T6 (mkF m 19 #[.val (.ref r0), .val (.ref r1), .val (.int p2), .val (.int p3), .val (.ref r4)] [])
  refine OFin.st (fun t k => XS.aloadN X6.here hx rfl (hb hby d3_19) rfl rfl k) ?_
  show OFin p e below _ _ T6 (mkF m 20 #[.val (.ref r0), .val (.ref r1), .val (.int p2), .val (.int p3), .val (.ref r4)] [(.ref r0)])
  refine OFin.st (fun t k => XS.aload X6.here hx rfl (hb hby d3_20) rfl rfl k) ?_
  show OFin p e below _ _ T6 (mkF m 22 #[.val (.ref r0), .val (.ref r1), .val (.int p2), .val (.int p3), .val (.ref r4)] [(.ref r4), (.ref r0)])
  have c7 := (((F_name_r0.other W2 (Or.inr (slot_ne (Or.inr (hw _ (List.mem_of_getElem? (i := 34) rfl))) (Or.inr (hw _ (List.mem_of_getElem? (i := 28) rfl))) (by decide) (t := (.object "java/lang/String")) (t' := (.array .byte)) (by decide) (by decide)))).other W4 (Or.inr (slot_ne (Or.inr (hw _ (List.mem_of_getElem? (i := 34) rfl))) (Or.inl (hw _ (List.mem_of_getElem? (i := 30) rfl))) (by decide) (t := (.object "java/lang/String")) (t' := .int) (by decide) (by decide)))).other W6 (Or.inr (slot_ne (Or.inr (hw _ (List.mem_of_getElem? (i := 34) rfl))) (Or.inr (hw _ (List.mem_of_getElem? (i := 32) rfl))) (by decide) (t := (.object "java/lang/String")) (t' := .int) (by decide) (by decide))))
  obtain ⟨T8, h8, X8, e8, W8, st8⟩ := putF X6 hx hZ hown (host := "") (Or.inl (hw _ (List.mem_of_getElem? (i := 33) rfl))) Via.refl e6 c7 (((E_r0.wr W2).wr W4).wr W6) (Or.inr ⟨(hw _ (List.mem_of_getElem? (i := 34) rfl)), rfl, hnm⟩) (hw _ (List.mem_of_getElem? (i := 9) rfl)) (ty := (.object "java/lang/String")) (by decide) rfl rfl (g := (mkF m 22 #[.val (.ref r0), .val (.ref r1), .val (.int p2), .val (.int p3), .val (.ref r4)] [(.ref r4), (.ref r0)])) rfl rfl (hb hby d3_22)
  refine OFin.st st8 ?_
  have Fw8 := c7.same W8
  have N8 := Fr.snoc X8 N6 g_r0
  have K8 : Keep h0 h8 [r0] := K6.wr W8 (Or.inl (List.mem_of_getElem? (i := 0) rfl))
  have O8 : Old Z n0 h8 := O6.wr W8 g_r0
  show OFin p e below _ _ T8 (mkF m 25 #[.val (.ref r0), .val (.ref r1), .val (.int p2), .val (.int p3), .val (.ref r4)] [])
  have c9 := (((Fw2.other W4 (Or.inr (slot_ne (Or.inr (hw _ (List.mem_of_getElem? (i := 28) rfl))) (Or.inl (hw _ (List.mem_of_getElem? (i := 30) rfl))) (by decide) (t := (.array .byte)) (t' := .int) (by decide) (by decide)))).other W6 (Or.inr (slot_ne (Or.inr (hw _ (List.mem_of_getElem? (i := 28) rfl))) (Or.inr (hw _ (List.mem_of_getElem? (i := 32) rfl))) (by decide) (t := (.array .byte)) (t' := .int) (by decide) (by decide)))).other W8 (Or.inr (slot_ne (Or.inr (hw _ (List.mem_of_getElem? (i := 28) rfl))) (Or.inr (hw _ (List.mem_of_getElem? (i := 34) rfl))) (by decide) (t := (.array .byte)) (t' := (.object "java/lang/String")) (by decide) (by decide))))
  have c10 := ((Fw4.other W6 (Or.inr (slot_ne (Or.inl (hw _ (List.mem_of_getElem? (i := 30) rfl))) (Or.inr (hw _ (List.mem_of_getElem? (i := 32) rfl))) (by decide) (t := .int) (t' := .int) (by decide) (by decide)))).other W8 (Or.inr (slot_ne (Or.inl (hw _ (List.mem_of_getElem? (i := 30) rfl))) (Or.inr (hw _ (List.mem_of_getElem? (i := 34) rfl))) (by decide) (t := .int) (t' := (.object "java/lang/String")) (by decide) (by decide))))
  have c11 := (Fw6.other W8 (Or.inr (slot_ne (Or.inr (hw _ (List.mem_of_getElem? (i := 32) rfl))) (Or.inr (hw _ (List.mem_of_getElem? (i := 34) rfl))) (by decide) (t := .int) (t' := (.object "java/lang/String")) (by decide) (by decide))))
  have c12 := ((((F_field_r0.other W2 (Or.inr (slot_ne (Or.inl (hw _ (List.mem_of_getElem? (i := 45) rfl))) (Or.inr (hw _ (List.mem_of_getElem? (i := 28) rfl))) (by decide) (t := .int) (t' := (.array .byte)) (by decide) (by decide)))).other W4 (Or.inr (slot_ne (Or.inl (hw _ (List.mem_of_getElem? (i := 45) rfl))) (Or.inl (hw _ (List.mem_of_getElem? (i := 30) rfl))) (by decide) (t := .int) (t' := .int) (by decide) (by decide)))).other W6 (Or.inr (slot_ne (Or.inl (hw _ (List.mem_of_getElem? (i := 45) rfl))) (Or.inr (hw _ (List.mem_of_getElem? (i := 32) rfl))) (by decide) (t := .int) (t' := .int) (by decide) (by decide)))).other W8 (Or.inr (slot_ne (Or.inl (hw _ (List.mem_of_getElem? (i := 45) rfl))) (Or.inr (hw _ (List.mem_of_getElem? (i := 34) rfl))) (by decide) (t := .int) (t' := (.object "java/lang/String")) (by decide) (by decide))))
  have c13 := ((((F_wireType_r0.other W2 (Or.inr (slot_ne (Or.inl (hw _ (List.mem_of_getElem? (i := 52) rfl))) (Or.inr (hw _ (List.mem_of_getElem? (i := 28) rfl))) (by decide) (t := .int) (t' := (.array .byte)) (by decide) (by decide)))).other W4 (Or.inr (slot_ne (Or.inl (hw _ (List.mem_of_getElem? (i := 52) rfl))) (Or.inl (hw _ (List.mem_of_getElem? (i := 30) rfl))) (by decide) (t := .int) (t' := .int) (by decide) (by decide)))).other W6 (Or.inr (slot_ne (Or.inl (hw _ (List.mem_of_getElem? (i := 52) rfl))) (Or.inr (hw _ (List.mem_of_getElem? (i := 32) rfl))) (by decide) (t := .int) (t' := .int) (by decide) (by decide)))).other W8 (Or.inr (slot_ne (Or.inl (hw _ (List.mem_of_getElem? (i := 52) rfl))) (Or.inr (hw _ (List.mem_of_getElem? (i := 34) rfl))) (by decide) (t := .int) (t' := (.object "java/lang/String")) (by decide) (by decide))))
  exact own_retV X8 hx Bd.returns Bd.notSynchronized (hb hby d3_25) (by show Qrm3 Z r0 r1 p2 p3 r4 u1 u2 u3 u4 ff wt h0 n0 _ T8.heap _; rw [e8]; exact ⟨rfl, N8, K8, ((((E_r0.wr W2).wr W4).wr W6).wr W8), c9, c10, c11, c12, c13⟩) (own_endN (by decide) (by decide))
theorem ef_rm2 (m : MethodId) (r0 : Addr) (r1 : Addr) (r2 : Addr) : entryFrame m #[(.ref r0), (.ref r1), (.ref r2)] 3 = mkF m 0 #[.val (.ref r0), .val (.ref r1), .val (.ref r2)] [] := by first | (simp [entryFrame, mkF, argsToLocals, Value.category]; done) | rfl
def Qrm2 (Z : State) (r0 : Addr) (r1 : Addr) (r2 : Addr) (u1 : Value) (u2 : Value) (u3 : Value) (u4 : Value) (ff : Int32) (wt : Int32) (kA : ClassId) (vs : List Value) (en : Int32) (h0 : Heap) (n0 : Nat) (v : Option Value) (h : Heap) (L : List Loc) : Prop := v = none ∧ Fr n0 L ∧ Keep h0 h [r0] ∧ Exa Z h r0 "com/example/fillwire/fillwire/codec/ProtoReader" ∧ Fld Z h r0 "com/example/fillwire/fillwire/codec/ProtoReader" "bytes" "[B" (.ref r1) ∧ Fld Z h r0 "com/example/fillwire/fillwire/codec/ProtoReader" "position" "I" (.int (0 : Int32)) ∧ Fld Z h r0 "com/example/fillwire/fillwire/codec/ProtoReader" "end" "I" (.int en) ∧ Fld Z h r0 "com/example/fillwire/fillwire/codec/ProtoReader" "field" "I" (.int ff) ∧ Fld Z h r0 "com/example/fillwire/fillwire/codec/ProtoReader" "wireType" "I" (.int wt)
set_option maxRecDepth 65536 in
set_option maxHeartbeats 40000000 in
theorem rm2 (l : Launch) (Z : State) (a0 : Array Value) (hw : ∀ d ∈ tables_1, d.before a0 Z = true) (ws : List Jvm.Cond) (r0 : Addr) (r1 : Addr) (r2 : Addr) (u1 : Value) (u2 : Value) (u3 : Value) (u4 : Value) (ff : Int32) (wt : Int32) (kA : ClassId) (vs : List Value) (en : Int32) (h0 : Heap) (n0 : Nat) (O0 : Old Z n0 h0) (E_r0 : Exa Z h0 r0 "com/example/fillwire/fillwire/codec/ProtoReader") (F_bytes_r0 : Fld Z h0 r0 "com/example/fillwire/fillwire/codec/ProtoReader" "bytes" "[B" u1) (F_position_r0 : Fld Z h0 r0 "com/example/fillwire/fillwire/codec/ProtoReader" "position" "I" u2) (F_end_r0 : Fld Z h0 r0 "com/example/fillwire/fillwire/codec/ProtoReader" "end" "I" u3) (F_name_r0 : Fld Z h0 r0 "com/example/fillwire/fillwire/codec/ProtoReader" "name" "Ljava/lang/String;" u4) (F_field_r0 : Fld Z h0 r0 "com/example/fillwire/fillwire/codec/ProtoReader" "field" "I" (.int ff)) (F_wireType_r0 : Fld Z h0 r0 "com/example/fillwire/fillwire/codec/ProtoReader" "wireType" "I" (.int wt)) (g_r0 : n0 ≤ r0) (A_r1 : Oar Z h0 r1 kA .byte vs) (hen : en.toInt = (vs.length : Int)) :
    MetFree l (⟨"com/example/fillwire/fillwire/codec/ProtoReader", "<init>", "([BLjava/lang/String;)V"⟩ : MethodName) (head1 (Jvm.Cond.code (⟨"com/example/fillwire/fillwire/codec/ProtoReader", "<init>", "([BLjava/lang/String;)V"⟩ : MethodName) prog_34_method_1_code 3 none :: ws) ({ frames := 2, cells := 0, slots := 0, locals := 28 } : Room)) (fun a U => a = #[(.ref r0), (.ref r1), (.ref r2)] ∧ Z.Warmed39 U.vm ∧ U.heap = h0) (fun _ _ _ _ _ => True) (fun _ U o U' => ∃ v L, o = .returned v ∧ Qrm2 Z r0 r1 r2 u1 u2 u3 u4 ff wt kA vs en h0 n0 v U'.heap L ∧ FrameEnd U o U' L ({ frames := 2, cells := 0, slots := 0, locals := 28 } : Room).cells ({ frames := 2, cells := 0, slots := 0, locals := 28 } : Room).slots) := by
  refine MetFree.of_bodySF (plainFor_of_name pn_com_example_fillwire_fillwire_codec_ProtoReader) hisR ?_
  intro p e s m args below meth c s₁ Bd hml0 hP hK
  obtain ⟨rfl, hZ, hh⟩ := hP
  have hx := Bd.exec
  have hby := Bd.bytes
  have hml : c.maxLocals = 3 := hml0
  have hown : s.vm.findClass "com/example/fillwire/fillwire/codec/ProtoReader" = some m.cls := findClass_of_methodNamed Bd.named
  have hnm := (name_of_methodNamed Bd.named Bd.method).1
  have X0 : Stand p l e ({ frames := 2, cells := 0, slots := 0, locals := 28 } : Room) s m #[(.ref r0), (.ref r1), (.ref r2)] below meth c s₁ [] 0 0 := Stand.of_body Bd
  have e0 : s₁.heap = h0 := by rw [← hh, Bd.state]; rfl
  have N0 := Fr.nil n0
  show OFin p e below (fun o t L => FrameEnd s o t L ({ frames := 2, cells := 0, slots := 0, locals := 28 } : Room).cells ({ frames := 2, cells := 0, slots := 0, locals := 28 } : Room).slots) (fun v h L => Qrm2 Z r0 r1 r2 u1 u2 u3 u4 ff wt kA vs en h0 n0 v h L) s₁ (entryFrame m #[(.ref r0), (.ref r1), (.ref r2)] 3)
  refine OFin.cast (ef_rm2 m r0 r1 r2) ?_
  show OFin p e below _ _ s₁ (mkF m 0 #[.val (.ref r0), .val (.ref r1), .val (.ref r2)] [])
  refine OFin.st (fun t k => XS.aloadN X0.here hx rfl (hb hby d2_0) rfl rfl k) ?_
  show OFin p e below _ _ s₁ (mkF m 1 #[.val (.ref r0), .val (.ref r1), .val (.ref r2)] [(.ref r0)])
  refine OFin.st (fun t k => XS.aloadN X0.here hx rfl (hb hby d2_1) rfl rfl k) ?_
  show OFin p e below _ _ s₁ (mkF m 2 #[.val (.ref r0), .val (.ref r1), .val (.ref r2)] [(.ref r1), (.ref r0)])
  refine OFin.st (fun t k => XS.iconst X0.here hx rfl (hb hby d2_2) k) ?_
  show OFin p e below _ _ s₁ (mkF m 3 #[.val (.ref r0), .val (.ref r1), .val (.ref r2)] [(.int (0 : Int32)), (.ref r1), (.ref r0)])
  refine OFin.st (fun t k => XS.aloadN X0.here hx rfl (hb hby d2_3) rfl rfl k) ?_
  show OFin p e below _ _ s₁ (mkF m 4 #[.val (.ref r0), .val (.ref r1), .val (.ref r2)] [(.ref r1), (.int (0 : Int32)), (.ref r1), (.ref r0)])
  refine own_alen X0 hx hZ e0 A_r1 (z := en) hen (hb hby d2_4) (pc' := 5) rfl ?_
  show OFin p e below _ _ s₁ (mkF m 5 #[.val (.ref r0), .val (.ref r1), .val (.ref r2)] [(.int en), (.int (0 : Int32)), (.ref r1), (.ref r0)])
  refine OFin.st (fun t k => XS.aloadN X0.here hx rfl (hb hby d2_5) rfl rfl k) ?_
  show OFin p e below _ _ s₁ (mkF m 6 #[.val (.ref r0), .val (.ref r1), .val (.ref r2)] [(.ref r2), (.int en), (.int (0 : Int32)), (.ref r1), (.ref r0)])
  obtain ⟨_, _, ⟨T1, L1, k1, n1⟩, -, X1, ⟨Lc1, hQ1, l1, y1, z1⟩, st1⟩ := X0.specialBack hx (y := (⟨"com/example/fillwire/fillwire/codec/ProtoReader", "<init>", "([BIILjava/lang/String;)V"⟩ : MethodName)) rfl hown (mvT hZ (hw _ (List.mem_of_getElem? (i := 21) rfl))) (mvT hZ (hw _ (List.mem_of_getElem? (i := 22) rfl))) (mvT hZ (hw _ (List.mem_of_getElem? (i := 23) rfl))) (by decide) (backOf (W := 0) (rm3 l Z a0 hw [] r0 r1 (0 : Int32) en r2 u1 u2 u3 u4 ff wt h0 n0 O0 E_r0 F_bytes_r0 F_position_r0 F_end_r0 F_name_r0 F_field_r0 F_wireType_r0 g_r0) hZ (hw _ (List.mem_of_getElem? (i := 23) rfl)) (hw _ (List.mem_of_getElem? (i := 10) rfl)) (by decide) (by decide)) (g := (mkF m 6 #[.val (.ref r0), .val (.ref r1), .val (.ref r2)] [(.ref r2), (.int en), (.int (0 : Int32)), (.ref r1), (.ref r0)])) rfl (by rw [hml]; rfl) (Steps.refl _) (a := r0) (argsL := [(.ref r1), (.int (0 : Int32)), (.int en), (.ref r2)]) (rest := []) (lenOf pd_6 rfl) rfl (by show 2 * 0 + _ ≤ _; exact Nat.le_of_eq rfl) (hb hby d2_6) (fun _ _ => ⟨rfl, e0, (by decide : 0 + 0 ≤ _), (by decide : 0 + 0 ≤ _)⟩)
  dsimp only [Pt.U, Pt.locs, Pt.cells, Pt.slots] at X1 l1 y1 z1 st1 hQ1
  subst l1 y1 z1
  have X1 : Stand p l e ({ frames := 2, cells := 0, slots := 0, locals := 28 } : Room) s m #[(.ref r0), (.ref r1), (.ref r2)] below meth c T1 _ 0 0 := X1
  obtain ⟨rfl, N1q, K1q, P1_0, P1_1, P1_2, P1_3, P1_4, P1_5⟩ := hQ1
  have N1 := Fr.app N0 N1q
  have K1 : Keep h0 T1.heap [r0] := (Keep.refl h0 [r0]).trans K1q (allS (Or.inl (List.mem_of_getElem? (i := 0) rfl)) all0)
  have O1 : Old Z n0 T1.heap := O0.keep K1q (allS g_r0 all0)
  refine OFin.tr st1 ?_
  show OFin p e below _ _ T1 (mkF m 9 #[.val (.ref r0), .val (.ref r1), .val (.ref r2)] [])
  exact own_retV X1 hx Bd.returns Bd.notSynchronized (hb hby d2_9) (by show Qrm2 Z r0 r1 r2 u1 u2 u3 u4 ff wt kA vs en h0 n0 _ T1.heap _; exact ⟨rfl, N1, K1, P1_0, P1_1, P1_2, P1_3, P1_4, P1_5⟩) (own_endN (by decide) (by decide))
theorem ef_rm10 (m : MethodId) (r0 : Addr) (p1 : Int32) : entryFrame m #[(.ref r0), (.int p1)] 2 = mkF m 0 #[.val (.ref r0), .val (.int p1)] [] := by first | (simp [entryFrame, mkF, argsToLocals, Value.category]; done) | rfl
def Q10 (r0 : Addr) (p1 : Int32) (wt : Int32) (h0 : Heap) (n0 : Nat) (v : Option Value) (h : Heap) (L : List Loc) : Prop := v = none ∧ Fr n0 L ∧ h = h0
set_option maxRecDepth 65536 in
set_option maxHeartbeats 40000000 in
theorem rm10 (l : Launch) (Z : State) (a0 : Array Value) (hw : ∀ d ∈ tables_1, d.before a0 Z = true) (ws : List Jvm.Cond) (r0 : Addr) (p1 : Int32) (wt : Int32) (h0 : Heap) (n0 : Nat) (O0 : Old Z n0 h0) (E_r0 : Exa Z h0 r0 "com/example/fillwire/fillwire/codec/ProtoReader") (F_wireType_r0 : Fld Z h0 r0 "com/example/fillwire/fillwire/codec/ProtoReader" "wireType" "I" (.int wt)) (hx0 : wt = p1) :
    MetFree l (⟨"com/example/fillwire/fillwire/codec/ProtoReader", "expect", "(I)V"⟩ : MethodName) (head1 (Jvm.Cond.code (⟨"com/example/fillwire/fillwire/codec/ProtoReader", "expect", "(I)V"⟩ : MethodName) prog_34_method_15_code 2 none :: ws) ({ frames := 0, cells := 0, slots := 0, locals := 0 } : Room)) (fun a U => a = #[(.ref r0), (.int p1)] ∧ Z.Warmed39 U.vm ∧ U.heap = h0) (fun _ _ _ _ _ => True) (fun _ U o U' => ∃ v L, o = .returned v ∧ Q10 r0 p1 wt h0 n0 v U'.heap L ∧ FrameEnd U o U' L ({ frames := 0, cells := 0, slots := 0, locals := 0 } : Room).cells ({ frames := 0, cells := 0, slots := 0, locals := 0 } : Room).slots) := by
  refine MetFree.of_bodySF (plainFor_of_name pn_com_example_fillwire_fillwire_codec_ProtoReader) hisR ?_
  intro p e s m args below meth c s₁ Bd hml0 hP hK
  obtain ⟨rfl, hZ, hh⟩ := hP
  have hx := Bd.exec
  have hby := Bd.bytes
  have hml : c.maxLocals = 2 := hml0
  have hown : s.vm.findClass "com/example/fillwire/fillwire/codec/ProtoReader" = some m.cls := findClass_of_methodNamed Bd.named
  have hnm := (name_of_methodNamed Bd.named Bd.method).1
  have X0 : Stand p l e ({ frames := 0, cells := 0, slots := 0, locals := 0 } : Room) s m #[(.ref r0), (.int p1)] below meth c s₁ [] 0 0 := Stand.of_body Bd
  have e0 : s₁.heap = h0 := by rw [← hh, Bd.state]; rfl
  have N0 := Fr.nil n0
  show OFin p e below (fun o t L => FrameEnd s o t L ({ frames := 0, cells := 0, slots := 0, locals := 0 } : Room).cells ({ frames := 0, cells := 0, slots := 0, locals := 0 } : Room).slots) (fun v h L => Q10 r0 p1 wt h0 n0 v h L) s₁ (entryFrame m #[(.ref r0), (.int p1)] 2)
  refine OFin.cast (ef_rm10 m r0 p1) ?_
  show OFin p e below _ _ s₁ (mkF m 0 #[.val (.ref r0), .val (.int p1)] [])
  refine OFin.st (fun t k => XS.aloadN X0.here hx rfl (hb hby d10_0) rfl rfl k) ?_
  show OFin p e below _ _ s₁ (mkF m 1 #[.val (.ref r0), .val (.int p1)] [(.ref r0)])
  obtain ⟨T1, X1, e1, st1⟩ := getF X0 hx hZ hown (host := "") (Or.inl (hw _ (List.mem_of_getElem? (i := 51) rfl))) Via.refl e0 F_wireType_r0 (g := (mkF m 1 #[.val (.ref r0), .val (.int p1)] [(.ref r0)])) rfl rfl (hb hby d10_1)
  refine OFin.st st1 ?_
  show OFin p e below _ _ T1 (mkF m 4 #[.val (.ref r0), .val (.int p1)] [(.int wt)])
  refine OFin.st (fun t k => XS.iloadN X1.here hx rfl (hb hby d10_4) rfl k) ?_
  show OFin p e below _ _ T1 (mkF m 5 #[.val (.ref r0), .val (.int p1)] [(.int p1), (.int wt)])
  refine OFin.st (fun t k => XS.icmpYes X1.here hx rfl (pc0 := 5) (pc' := 35) rfl (hb hby d10_5) rfl (teq hx0).1 (by decide) (by decide) k) ?_
  show OFin p e below _ _ T1 (mkF m 35 #[.val (.ref r0), .val (.int p1)] [])
  exact own_retV X1 hx Bd.returns Bd.notSynchronized (hb hby d10_35) ⟨rfl, N0, e1⟩ (own_endN (by decide) (by decide))
theorem ef_rm9 (m : MethodId) (r0 : Addr) : entryFrame m #[(.ref r0)] 1 = mkF m 0 #[.val (.ref r0)] [] := by first | (simp [entryFrame, mkF, argsToLocals, Value.category]; done) | rfl
def Qrm9 (Z : State) (r0 : Addr) (ba : Addr) (pp : Int32) (en : Int32) (ff : Int32) (wt : Int32) (kA : ClassId) (vs : List Value) (fv : Nat → Int32) (kv : Nat) (h0 : Heap) (n0 : Nat) (v : Option Value) (h : Heap) (L : List Loc) : Prop := v = some (Value.long (vac fv (kv + 1))) ∧ Fr n0 L ∧ Keep h0 h [r0] ∧ Exa Z h r0 "com/example/fillwire/fillwire/codec/ProtoReader" ∧ Fld Z h r0 "com/example/fillwire/fillwire/codec/ProtoReader" "bytes" "[B" (.ref ba) ∧ Fld Z h r0 "com/example/fillwire/fillwire/codec/ProtoReader" "position" "I" (.int (vpo pp (kv + 1))) ∧ Fld Z h r0 "com/example/fillwire/fillwire/codec/ProtoReader" "end" "I" (.int en) ∧ Fld Z h r0 "com/example/fillwire/fillwire/codec/ProtoReader" "field" "I" (.int ff) ∧ Fld Z h r0 "com/example/fillwire/fillwire/codec/ProtoReader" "wireType" "I" (.int wt)
set_option maxRecDepth 65536 in
set_option maxHeartbeats 40000000 in
theorem rm9 (l : Launch) (Z : State) (a0 : Array Value) (hw : ∀ d ∈ tables_1, d.before a0 Z = true) (ws : List Jvm.Cond) (r0 : Addr) (ba : Addr) (pp : Int32) (en : Int32) (ff : Int32) (wt : Int32) (kA : ClassId) (vs : List Value) (fv : Nat → Int32) (kv : Nat) (h0 : Heap) (n0 : Nat) (O0 : Old Z n0 h0) (E_r0 : Exa Z h0 r0 "com/example/fillwire/fillwire/codec/ProtoReader") (F_bytes_r0 : Fld Z h0 r0 "com/example/fillwire/fillwire/codec/ProtoReader" "bytes" "[B" (.ref ba)) (F_position_r0 : Fld Z h0 r0 "com/example/fillwire/fillwire/codec/ProtoReader" "position" "I" (.int pp)) (F_end_r0 : Fld Z h0 r0 "com/example/fillwire/fillwire/codec/ProtoReader" "end" "I" (.int en)) (F_field_r0 : Fld Z h0 r0 "com/example/fillwire/fillwire/codec/ProtoReader" "field" "I" (.int ff)) (F_wireType_r0 : Fld Z h0 r0 "com/example/fillwire/fillwire/codec/ProtoReader" "wireType" "I" (.int wt)) (A_ba : Oar Z h0 ba kA .byte vs) (g_r0 : n0 ≤ r0) (N_ba_r0 : ba ≠ r0) (hk : kv ≤ 9) (hcn : ∀ i, i < kv → fv i < 0) (hln : ¬ fv kv < 0) (h9 : kv = 9 → ¬ (1 : Int32) < fv kv) (hp0 : 0 ≤ pp.toInt) (hp1 : pp.toInt < 2000000000) (hvs : ∀ i, i ≤ kv → vs[pp.toInt.toNat + i]? = some (Value.int (fv i))) (hne : ∀ i, i ≤ kv → ¬ vpo pp i = en) (hx0 : wt = (0 : Int32)) :
    MetFree l (⟨"com/example/fillwire/fillwire/codec/ProtoReader", "int64", "()J"⟩ : MethodName) (head1 (Jvm.Cond.code (⟨"com/example/fillwire/fillwire/codec/ProtoReader", "int64", "()J"⟩ : MethodName) prog_34_method_5_code 1 (some .long) :: ws) ({ frames := 1, cells := 0, slots := 0, locals := 16 } : Room)) (fun a U => a = #[(.ref r0)] ∧ Z.Warmed39 U.vm ∧ U.heap = h0) (fun _ _ _ _ _ => True) (fun _ U o U' => ∃ v L, o = .returned v ∧ Qrm9 Z r0 ba pp en ff wt kA vs fv kv h0 n0 v U'.heap L ∧ FrameEnd U o U' L ({ frames := 1, cells := 0, slots := 0, locals := 16 } : Room).cells ({ frames := 1, cells := 0, slots := 0, locals := 16 } : Room).slots) := by
  refine MetFree.of_bodySF (plainFor_of_name pn_com_example_fillwire_fillwire_codec_ProtoReader) hisR ?_
  intro p e s m args below meth c s₁ Bd hml0 hP hK
  obtain ⟨rfl, hZ, hh⟩ := hP
  have hx := Bd.exec
  have hby := Bd.bytes
  have hml : c.maxLocals = 1 := hml0
  have hown : s.vm.findClass "com/example/fillwire/fillwire/codec/ProtoReader" = some m.cls := findClass_of_methodNamed Bd.named
  have hnm := (name_of_methodNamed Bd.named Bd.method).1
  have X0 : Stand p l e ({ frames := 1, cells := 0, slots := 0, locals := 16 } : Room) s m #[(.ref r0)] below meth c s₁ [] 0 0 := Stand.of_body Bd
  have e0 : s₁.heap = h0 := by rw [← hh, Bd.state]; rfl
  have N0 := Fr.nil n0
  show OFin p e below (fun o t L => FrameEnd s o t L ({ frames := 1, cells := 0, slots := 0, locals := 16 } : Room).cells ({ frames := 1, cells := 0, slots := 0, locals := 16 } : Room).slots) (fun v h L => Qrm9 Z r0 ba pp en ff wt kA vs fv kv h0 n0 v h L) s₁ (entryFrame m #[(.ref r0)] 1)
  refine OFin.cast (ef_rm9 m r0) ?_
  show OFin p e below _ _ s₁ (mkF m 0 #[.val (.ref r0)] [])
  refine OFin.st (fun t k => XS.aloadN X0.here hx rfl (hb hby d9_0) rfl rfl k) ?_
  show OFin p e below _ _ s₁ (mkF m 1 #[.val (.ref r0)] [(.ref r0)])
  refine OFin.st (fun t k => XS.iconst X0.here hx rfl (hb hby d9_1) k) ?_
  show OFin p e below _ _ s₁ (mkF m 2 #[.val (.ref r0)] [(.int (0 : Int32)), (.ref r0)])
  obtain ⟨cq1, q1, q1'⟩ := E_r0.cell
  obtain ⟨_, _, ⟨T1, L1, k1, n1⟩, -, X1, ⟨Lc1, hQ1, l1, y1, z1⟩, st1⟩ := X0.privateBack hx (y := (⟨"com/example/fillwire/fillwire/codec/ProtoReader", "expect", "(I)V"⟩ : MethodName)) hown (mvT hZ (hw _ (List.mem_of_getElem? (i := 65) rfl))) (mvT hZ (hw _ (List.mem_of_getElem? (i := 66) rfl))) (own_selP hZ (hw _ (List.mem_of_getElem? (i := 9) rfl)) (hw _ (List.mem_of_getElem? (i := 67) rfl)) (hw _ (List.mem_of_getElem? (i := 66) rfl)) (by decide)) (Cond.privateMethod_at (mvP hZ (hw _ (List.mem_of_getElem? (i := 67) rfl)) (args := #[]))) (mvT hZ (hw _ (List.mem_of_getElem? (i := 68) rfl))) (by decide) (backOf (W := 0) (rm10 l Z a0 hw [] r0 (0 : Int32) wt h0 n0 O0 E_r0 F_wireType_r0 (hx0 : wt = (0 : Int32))) hZ (hw _ (List.mem_of_getElem? (i := 68) rfl)) (hw _ (List.mem_of_getElem? (i := 10) rfl)) (by decide) (by decide)) (g := (mkF m 2 #[.val (.ref r0)] [(.int (0 : Int32)), (.ref r0)])) rfl (by rw [hml]; rfl) (Steps.refl _) (a := r0) (by rw [e0]; exact q1) q1' (argsL := [(.int (0 : Int32))]) (rest := []) (lenOf pd_4 rfl) rfl (by show 2 * 0 + _ ≤ _; exact Nat.le_of_eq rfl) (hb hby d9_2) (fun _ _ => ⟨rfl, e0, (by decide : 0 + 0 ≤ _), (by decide : 0 + 0 ≤ _)⟩)
  dsimp only [Pt.U, Pt.locs, Pt.cells, Pt.slots] at X1 l1 y1 z1 st1 hQ1
  subst l1 y1 z1
  have X1 : Stand p l e ({ frames := 1, cells := 0, slots := 0, locals := 16 } : Room) s m #[(.ref r0)] below meth c T1 _ 0 0 := X1
  obtain ⟨rfl, N1q, e1⟩ := hQ1
  have N1 := Fr.app N0 N1q
  refine OFin.tr st1 ?_
  show OFin p e below _ _ T1 (mkF m 5 #[.val (.ref r0)] [])
  refine OFin.st (fun t k => XS.aloadN X1.here hx rfl (hb hby d9_5) rfl rfl k) ?_
  show OFin p e below _ _ T1 (mkF m 6 #[.val (.ref r0)] [(.ref r0)])
  obtain ⟨Lg2, Xg2, Ng2⟩ : ∃ L, Stand p l e ({ frames := 1, cells := 0, slots := 0, locals := 16 } : Room) s m #[(.ref r0)] below meth c T1 L 0 0 ∧ Fr n0 L := ⟨_, X1, N1⟩
  obtain ⟨cq3, q3, q3'⟩ := E_r0.cell
  obtain ⟨_, _, ⟨T3, L3, k3, n3⟩, -, X3, ⟨Lc3, hQ3, l3, y3, z3⟩, st3⟩ := Xg2.privateBack hx (y := (⟨"com/example/fillwire/fillwire/codec/ProtoReader", "readVarint", "()J"⟩ : MethodName)) hown (mvT hZ (hw _ (List.mem_of_getElem? (i := 46) rfl))) (mvT hZ (hw _ (List.mem_of_getElem? (i := 47) rfl))) (own_selP hZ (hw _ (List.mem_of_getElem? (i := 9) rfl)) (hw _ (List.mem_of_getElem? (i := 48) rfl)) (hw _ (List.mem_of_getElem? (i := 47) rfl)) (by decide)) (Cond.privateMethod_at (mvP hZ (hw _ (List.mem_of_getElem? (i := 48) rfl)) (args := #[]))) (mvT hZ (hw _ (List.mem_of_getElem? (i := 49) rfl))) (by decide) (backOf (W := 0) (rm7 l Z a0 hw [] r0 ba pp en ff wt kA vs fv kv h0 n0 O0 E_r0 F_bytes_r0 F_position_r0 F_end_r0 F_field_r0 F_wireType_r0 A_ba g_r0 N_ba_r0 (hk : kv ≤ 9) (hcn : ∀ i, i < kv → fv i < 0) (hln : ¬ fv kv < 0) (h9 : kv = 9 → ¬ (1 : Int32) < fv kv) (hp0 : 0 ≤ pp.toInt) (hp1 : pp.toInt < 2000000000) (hvs : ∀ i, i ≤ kv → vs[pp.toInt.toNat + i]? = some (Value.int (fv i))) (hne : ∀ i, i ≤ kv → ¬ vpo pp i = en)) hZ (hw _ (List.mem_of_getElem? (i := 49) rfl)) (hw _ (List.mem_of_getElem? (i := 10) rfl)) (by decide) (by decide)) (g := (mkF m 6 #[.val (.ref r0)] [(.ref r0)])) rfl (by rw [hml]; rfl) (Steps.refl _) (a := r0) (by rw [e1]; exact q3) q3' (argsL := []) (rest := []) (lenOf pd_1 rfl) rfl (by show 2 * 0 + _ ≤ _; exact Nat.le_of_eq rfl) (hb hby d9_6) (fun _ _ => ⟨rfl, e1, (by decide : 0 + 0 ≤ _), (by decide : 0 + 0 ≤ _)⟩)
  dsimp only [Pt.U, Pt.locs, Pt.cells, Pt.slots] at X3 l3 y3 z3 st3 hQ3
  subst l3 y3 z3
  have X3 : Stand p l e ({ frames := 1, cells := 0, slots := 0, locals := 16 } : Room) s m #[(.ref r0)] below meth c T3 _ 0 0 := X3
  obtain ⟨rfl, N3q, K3q, P3_0, P3_1, P3_2, P3_3, P3_4, P3_5⟩ := hQ3
  have N3 := Fr.app Ng2 N3q
  have K3 : Keep h0 T3.heap [r0] := (Keep.refl h0 [r0]).trans K3q (allS (Or.inl (List.mem_of_getElem? (i := 0) rfl)) all0)
  have O3 : Old Z n0 T3.heap := O0.keep K3q (allS g_r0 all0)
  refine OFin.tr st3 ?_
  show OFin p e below _ _ T3 (mkF m 9 #[.val (.ref r0)] [(.long (vac fv (kv + 1)))])
  exact own_retJ X3 hx Bd.returns Bd.notSynchronized (hb hby d9_9) (by show Qrm9 Z r0 ba pp en ff wt kA vs fv kv h0 n0 _ T3.heap _; exact ⟨rfl, N3, K3, P3_0, P3_1, P3_2, P3_3, P3_4, P3_5⟩) (own_endN (by decide) (by decide))
theorem ef_rm8 (m : MethodId) (r0 : Addr) : entryFrame m #[(.ref r0)] 2 = mkF m 0 #[.val (.ref r0), .unset] [] := by first | (simp [entryFrame, mkF, argsToLocals, Value.category]; done) | rfl
def Qrm8 (Z : State) (r0 : Addr) (ba : Addr) (pp : Int32) (en : Int32) (ff : Int32) (wt : Int32) (kA : ClassId) (vs : List Value) (fv : Nat → Int32) (kv : Nat) (h0 : Heap) (n0 : Nat) (v : Option Value) (h : Heap) (L : List Loc) : Prop := v = some (Value.int (((((vac fv (kv + 1)).toInt32).toUInt32 >>> ((1 : Int32) &&& 31).toUInt32).toInt32) ^^^ (-(((vac fv (kv + 1)).toInt32) &&& (1 : Int32))))) ∧ Fr n0 L ∧ Keep h0 h [r0] ∧ Exa Z h r0 "com/example/fillwire/fillwire/codec/ProtoReader" ∧ Fld Z h r0 "com/example/fillwire/fillwire/codec/ProtoReader" "bytes" "[B" (.ref ba) ∧ Fld Z h r0 "com/example/fillwire/fillwire/codec/ProtoReader" "position" "I" (.int (vpo pp (kv + 1))) ∧ Fld Z h r0 "com/example/fillwire/fillwire/codec/ProtoReader" "end" "I" (.int en) ∧ Fld Z h r0 "com/example/fillwire/fillwire/codec/ProtoReader" "field" "I" (.int ff) ∧ Fld Z h r0 "com/example/fillwire/fillwire/codec/ProtoReader" "wireType" "I" (.int wt)
set_option maxRecDepth 65536 in
set_option maxHeartbeats 40000000 in
theorem rm8 (l : Launch) (Z : State) (a0 : Array Value) (hw : ∀ d ∈ tables_1, d.before a0 Z = true) (ws : List Jvm.Cond) (r0 : Addr) (ba : Addr) (pp : Int32) (en : Int32) (ff : Int32) (wt : Int32) (kA : ClassId) (vs : List Value) (fv : Nat → Int32) (kv : Nat) (h0 : Heap) (n0 : Nat) (O0 : Old Z n0 h0) (E_r0 : Exa Z h0 r0 "com/example/fillwire/fillwire/codec/ProtoReader") (F_bytes_r0 : Fld Z h0 r0 "com/example/fillwire/fillwire/codec/ProtoReader" "bytes" "[B" (.ref ba)) (F_position_r0 : Fld Z h0 r0 "com/example/fillwire/fillwire/codec/ProtoReader" "position" "I" (.int pp)) (F_end_r0 : Fld Z h0 r0 "com/example/fillwire/fillwire/codec/ProtoReader" "end" "I" (.int en)) (F_field_r0 : Fld Z h0 r0 "com/example/fillwire/fillwire/codec/ProtoReader" "field" "I" (.int ff)) (F_wireType_r0 : Fld Z h0 r0 "com/example/fillwire/fillwire/codec/ProtoReader" "wireType" "I" (.int wt)) (A_ba : Oar Z h0 ba kA .byte vs) (g_r0 : n0 ≤ r0) (N_ba_r0 : ba ≠ r0) (hk : kv ≤ 9) (hcn : ∀ i, i < kv → fv i < 0) (hln : ¬ fv kv < 0) (h9 : kv = 9 → ¬ (1 : Int32) < fv kv) (hp0 : 0 ≤ pp.toInt) (hp1 : pp.toInt < 2000000000) (hvs : ∀ i, i ≤ kv → vs[pp.toInt.toNat + i]? = some (Value.int (fv i))) (hne : ∀ i, i ≤ kv → ¬ vpo pp i = en) (hx0 : wt = (0 : Int32)) :
    MetFree l (⟨"com/example/fillwire/fillwire/codec/ProtoReader", "sint32", "()I"⟩ : MethodName) (head1 (Jvm.Cond.code (⟨"com/example/fillwire/fillwire/codec/ProtoReader", "sint32", "()I"⟩ : MethodName) prog_34_method_8_code 2 (some .int) :: ws) ({ frames := 2, cells := 0, slots := 0, locals := 28 } : Room)) (fun a U => a = #[(.ref r0)] ∧ Z.Warmed39 U.vm ∧ U.heap = h0) (fun _ _ _ _ _ => True) (fun _ U o U' => ∃ v L, o = .returned v ∧ Qrm8 Z r0 ba pp en ff wt kA vs fv kv h0 n0 v U'.heap L ∧ FrameEnd U o U' L ({ frames := 2, cells := 0, slots := 0, locals := 28 } : Room).cells ({ frames := 2, cells := 0, slots := 0, locals := 28 } : Room).slots) := by
  refine MetFree.of_bodySF (plainFor_of_name pn_com_example_fillwire_fillwire_codec_ProtoReader) hisR ?_
  intro p e s m args below meth c s₁ Bd hml0 hP hK
  obtain ⟨rfl, hZ, hh⟩ := hP
  have hx := Bd.exec
  have hby := Bd.bytes
  have hml : c.maxLocals = 2 := hml0
  have hown : s.vm.findClass "com/example/fillwire/fillwire/codec/ProtoReader" = some m.cls := findClass_of_methodNamed Bd.named
  have hnm := (name_of_methodNamed Bd.named Bd.method).1
  have X0 : Stand p l e ({ frames := 2, cells := 0, slots := 0, locals := 28 } : Room) s m #[(.ref r0)] below meth c s₁ [] 0 0 := Stand.of_body Bd
  have e0 : s₁.heap = h0 := by rw [← hh, Bd.state]; rfl
  have N0 := Fr.nil n0
  show OFin p e below (fun o t L => FrameEnd s o t L ({ frames := 2, cells := 0, slots := 0, locals := 28 } : Room).cells ({ frames := 2, cells := 0, slots := 0, locals := 28 } : Room).slots) (fun v h L => Qrm8 Z r0 ba pp en ff wt kA vs fv kv h0 n0 v h L) s₁ (entryFrame m #[(.ref r0)] 2)
  refine OFin.cast (ef_rm8 m r0) ?_
  show OFin p e below _ _ s₁ (mkF m 0 #[.val (.ref r0), .unset] [])
  refine OFin.st (fun t k => XS.aloadN X0.here hx rfl (hb hby d8_0) rfl rfl k) ?_
  show OFin p e below _ _ s₁ (mkF m 1 #[.val (.ref r0), .unset] [(.ref r0)])
  obtain ⟨cq1, kq1, q1a, q1b, q1c⟩ := isOf hZ e0 E_r0
  obtain ⟨_, _, ⟨T1, L1, k1, n1⟩, -, X1, ⟨Lc1, hQ1, l1, y1, z1⟩, st1⟩ := X0.virtualBack hx (y := (⟨"com/example/fillwire/fillwire/codec/ProtoReader", "int64", "()J"⟩ : MethodName)) (z := (⟨"com/example/fillwire/fillwire/codec/ProtoReader", "int64", "()J"⟩ : MethodName)) hown (mvT hZ (hw _ (List.mem_of_getElem? (i := 60) rfl))) (mvT hZ (hw _ (List.mem_of_getElem? (i := 61) rfl))) (notFace_of_selects (args := #[]) (mvT hZ (hw _ (List.mem_of_getElem? (i := 63) rfl)))) (mvT hZ (hw _ (List.mem_of_getElem? (i := 63) rfl))) (mvT hZ (hw _ (List.mem_of_getElem? (i := 62) rfl))) (by decide) (backOf (W := 0) (rm9 l Z a0 hw [] r0 ba pp en ff wt kA vs fv kv h0 n0 O0 E_r0 F_bytes_r0 F_position_r0 F_end_r0 F_field_r0 F_wireType_r0 A_ba g_r0 N_ba_r0 (hk : kv ≤ 9) (hcn : ∀ i, i < kv → fv i < 0) (hln : ¬ fv kv < 0) (h9 : kv = 9 → ¬ (1 : Int32) < fv kv) (hp0 : 0 ≤ pp.toInt) (hp1 : pp.toInt < 2000000000) (hvs : ∀ i, i ≤ kv → vs[pp.toInt.toNat + i]? = some (Value.int (fv i))) (hne : ∀ i, i ≤ kv → ¬ vpo pp i = en) (hx0 : wt = (0 : Int32))) hZ (hw _ (List.mem_of_getElem? (i := 64) rfl)) (hw _ (List.mem_of_getElem? (i := 10) rfl)) (by decide) (by decide)) q1a q1c (g := (mkF m 1 #[.val (.ref r0), .unset] [(.ref r0)])) rfl (by rw [hml]; rfl) (Steps.refl _) (argsL := []) (rest := []) (lenOf pd_1 rfl) rfl (by show 2 * 0 + _ ≤ _; exact Nat.le_of_eq rfl) (hb hby d8_1) (fun _ _ => ⟨rfl, e0, (by decide : 0 + 0 ≤ _), (by decide : 0 + 0 ≤ _)⟩)
  dsimp only [Pt.U, Pt.locs, Pt.cells, Pt.slots] at X1 l1 y1 z1 st1 hQ1
  subst l1 y1 z1
  have X1 : Stand p l e ({ frames := 2, cells := 0, slots := 0, locals := 28 } : Room) s m #[(.ref r0)] below meth c T1 _ 0 0 := X1
  obtain ⟨rfl, N1q, K1q, P1_0, P1_1, P1_2, P1_3, P1_4, P1_5⟩ := hQ1
  have N1 := Fr.app N0 N1q
  have K1 : Keep h0 T1.heap [r0] := (Keep.refl h0 [r0]).trans K1q (allS (Or.inl (List.mem_of_getElem? (i := 0) rfl)) all0)
  have O1 : Old Z n0 T1.heap := O0.keep K1q (allS g_r0 all0)
  refine OFin.tr st1 ?_
  show OFin p e below _ _ T1 (mkF m 4 #[.val (.ref r0), .unset] [(.long (vac fv (kv + 1)))])
  refine OFin.st (fun t k => XS.l2i X1.here hx rfl (hb hby d8_4) rfl k) ?_
  show OFin p e below _ _ T1 (mkF m 5 #[.val (.ref r0), .unset] [(.int ((vac fv (kv + 1)).toInt32))])
  refine OFin.st (fun t k => XS.istoreN X1.here hx rfl (hb hby d8_5) rfl (l' := #[.val (.ref r0), .val (.int ((vac fv (kv + 1)).toInt32))]) rfl k) ?_
  show OFin p e below _ _ T1 (mkF m 6 #[.val (.ref r0), .val (.int ((vac fv (kv + 1)).toInt32))] [])
  refine OFin.st (fun t k => XS.iloadN X1.here hx rfl (hb hby d8_6) rfl k) ?_
  show OFin p e below _ _ T1 (mkF m 7 #[.val (.ref r0), .val (.int ((vac fv (kv + 1)).toInt32))] [(.int ((vac fv (kv + 1)).toInt32))])
  refine OFin.st (fun t k => XS.iconst X1.here hx rfl (hb hby d8_7) k) ?_
  show OFin p e below _ _ T1 (mkF m 8 #[.val (.ref r0), .val (.int ((vac fv (kv + 1)).toInt32))] [(.int (1 : Int32)), (.int ((vac fv (kv + 1)).toInt32))])
  refine OFin.st (fun t k => XS.iushr X1.here hx rfl (hb hby d8_8) rfl k) ?_
  show OFin p e below _ _ T1 (mkF m 9 #[.val (.ref r0), .val (.int ((vac fv (kv + 1)).toInt32))] [(.int ((((vac fv (kv + 1)).toInt32).toUInt32 >>> ((1 : Int32) &&& 31).toUInt32).toInt32))])
  refine OFin.st (fun t k => XS.iloadN X1.here hx rfl (hb hby d8_9) rfl k) ?_
  show OFin p e below _ _ T1 (mkF m 10 #[.val (.ref r0), .val (.int ((vac fv (kv + 1)).toInt32))] [(.int ((vac fv (kv + 1)).toInt32)), (.int ((((vac fv (kv + 1)).toInt32).toUInt32 >>> ((1 : Int32) &&& 31).toUInt32).toInt32))])
  refine OFin.st (fun t k => XS.iconst X1.here hx rfl (hb hby d8_10) k) ?_
  show OFin p e below _ _ T1 (mkF m 11 #[.val (.ref r0), .val (.int ((vac fv (kv + 1)).toInt32))] [(.int (1 : Int32)), (.int ((vac fv (kv + 1)).toInt32)), (.int ((((vac fv (kv + 1)).toInt32).toUInt32 >>> ((1 : Int32) &&& 31).toUInt32).toInt32))])
  refine OFin.st (fun t k => XS.iand X1.here hx rfl (hb hby d8_11) rfl k) ?_
  show OFin p e below _ _ T1 (mkF m 12 #[.val (.ref r0), .val (.int ((vac fv (kv + 1)).toInt32))] [(.int (((vac fv (kv + 1)).toInt32) &&& (1 : Int32))), (.int ((((vac fv (kv + 1)).toInt32).toUInt32 >>> ((1 : Int32) &&& 31).toUInt32).toInt32))])
  refine OFin.st (fun t k => XS.ineg X1.here hx rfl (hb hby d8_12) rfl k) ?_
  show OFin p e below _ _ T1 (mkF m 13 #[.val (.ref r0), .val (.int ((vac fv (kv + 1)).toInt32))] [(.int (-(((vac fv (kv + 1)).toInt32) &&& (1 : Int32)))), (.int ((((vac fv (kv + 1)).toInt32).toUInt32 >>> ((1 : Int32) &&& 31).toUInt32).toInt32))])
  refine OFin.st (fun t k => XS.ixor X1.here hx rfl (hb hby d8_13) rfl k) ?_
  show OFin p e below _ _ T1 (mkF m 14 #[.val (.ref r0), .val (.int ((vac fv (kv + 1)).toInt32))] [(.int (((((vac fv (kv + 1)).toInt32).toUInt32 >>> ((1 : Int32) &&& 31).toUInt32).toInt32) ^^^ (-(((vac fv (kv + 1)).toInt32) &&& (1 : Int32)))))])
  exact own_retI X1 hx Bd.returns Bd.notSynchronized (hb hby d8_14) (by show Qrm8 Z r0 ba pp en ff wt kA vs fv kv h0 n0 _ T1.heap _; exact ⟨rfl, N1, K1, P1_0, P1_1, P1_2, P1_3, P1_4, P1_5⟩) (own_endN (by decide) (by decide))
theorem ef_rm1 (m : MethodId) (q0 : Int64) (p1 : Int32) (p2 : Int32) : entryFrame m #[(.long q0), (.int p1), (.int p2)] 6 = mkF m 0 #[.val (.long q0), .second, .val (.int p1), .val (.int p2), .unset, .unset] [] := by first | (simp [entryFrame, mkF, argsToLocals, Value.category]; done) | rfl
def F1 (q0 : Int64) (p1 : Int32) (p2 : Int32) : Int32 := if p1 < (p2 - (1 : Int32)) then ((((((q0.toUInt64 >>> (((7 : Int32) * p1) &&& 0x3f).toInt64.toUInt64).toInt64) &&& (127 : Int64)) ||| (128 : Int64)).toInt32).toInt8.toInt32) else (if p1 = (p2 - (1 : Int32)) then (((((q0.toUInt64 >>> (((7 : Int32) * p1) &&& 0x3f).toInt64.toUInt64).toInt64) &&& (127 : Int64)).toInt32).toInt8.toInt32) else (0 : Int32))
def Q1 (q0 : Int64) (p1 : Int32) (p2 : Int32) (h0 : Heap) (n0 : Nat) (v : Option Value) (h : Heap) (L : List Loc) : Prop := v = some (Value.int (F1 q0 p1 p2)) ∧ Fr n0 L ∧ h = h0
set_option maxRecDepth 65536 in
set_option maxHeartbeats 40000000 in
theorem rm1 (l : Launch) (Z : State) (a0 : Array Value) (hw : ∀ d ∈ tables_1, d.before a0 Z = true) (ws : List Jvm.Cond) (q0 : Int64) (p1 : Int32) (p2 : Int32) (h0 : Heap) (n0 : Nat) (O0 : Old Z n0 h0)  :
    MetFree l (⟨"com/example/fillwire/fillwire/codec/ProtoReaderSint32PinLaw", "at", "(JII)B"⟩ : MethodName) (head1 (Jvm.Cond.code (⟨"com/example/fillwire/fillwire/codec/ProtoReaderSint32PinLaw", "at", "(JII)B"⟩ : MethodName) method_2_code 6 (some .byte) :: ws) ({ frames := 0, cells := 0, slots := 0, locals := 0 } : Room)) (fun a U => a = #[(.long q0), (.int p1), (.int p2)] ∧ Z.Warmed39 U.vm ∧ U.heap = h0) (fun _ _ _ _ _ => True) (fun _ U o U' => ∃ v L, o = .returned v ∧ Q1 q0 p1 p2 h0 n0 v U'.heap L ∧ FrameEnd U o U' L ({ frames := 0, cells := 0, slots := 0, locals := 0 } : Room).cells ({ frames := 0, cells := 0, slots := 0, locals := 0 } : Room).slots) := by
  refine MetFree.of_bodySF (plainFor_of_name pn_com_example_fillwire_fillwire_codec_ProtoReaderSint32PinLaw) hisR ?_
  intro p e s m args below meth c s₁ Bd hml0 hP hK
  obtain ⟨rfl, hZ, hh⟩ := hP
  have hx := Bd.exec
  have hby := Bd.bytes
  have hml : c.maxLocals = 6 := hml0
  have hown : s.vm.findClass "com/example/fillwire/fillwire/codec/ProtoReaderSint32PinLaw" = some m.cls := findClass_of_methodNamed Bd.named
  have hnm := (name_of_methodNamed Bd.named Bd.method).1
  have X0 : Stand p l e ({ frames := 0, cells := 0, slots := 0, locals := 0 } : Room) s m #[(.long q0), (.int p1), (.int p2)] below meth c s₁ [] 0 0 := Stand.of_body Bd
  have e0 : s₁.heap = h0 := by rw [← hh, Bd.state]; rfl
  have N0 := Fr.nil n0
  show OFin p e below (fun o t L => FrameEnd s o t L ({ frames := 0, cells := 0, slots := 0, locals := 0 } : Room).cells ({ frames := 0, cells := 0, slots := 0, locals := 0 } : Room).slots) (fun v h L => Q1 q0 p1 p2 h0 n0 v h L) s₁ (entryFrame m #[(.long q0), (.int p1), (.int p2)] 6)
  refine OFin.cast (ef_rm1 m q0 p1 p2) ?_
  show OFin p e below _ _ s₁ (mkF m 0 #[.val (.long q0), .second, .val (.int p1), .val (.int p2), .unset, .unset] [])
  refine OFin.st (fun t k => XS.lloadN X0.here hx rfl (hb hby d1_0) rfl k) ?_
  show OFin p e below _ _ s₁ (mkF m 1 #[.val (.long q0), .second, .val (.int p1), .val (.int p2), .unset, .unset] [(.long q0)])
  refine OFin.st (fun t k => XS.bipush X0.here hx rfl (hb hby d1_1) k) ?_
  show OFin p e below _ _ s₁ (mkF m 3 #[.val (.long q0), .second, .val (.int p1), .val (.int p2), .unset, .unset] [(.int (7 : Int32)), (.long q0)])
  refine OFin.st (fun t k => XS.iloadN X0.here hx rfl (hb hby d1_3) rfl k) ?_
  show OFin p e below _ _ s₁ (mkF m 4 #[.val (.long q0), .second, .val (.int p1), .val (.int p2), .unset, .unset] [(.int p1), (.int (7 : Int32)), (.long q0)])
  refine OFin.st (fun t k => XS.imul X0.here hx rfl (hb hby d1_4) rfl k) ?_
  show OFin p e below _ _ s₁ (mkF m 5 #[.val (.long q0), .second, .val (.int p1), .val (.int p2), .unset, .unset] [(.int ((7 : Int32) * p1)), (.long q0)])
  refine OFin.st (fun t k => XS.lushr X0.here hx rfl (hb hby d1_5) rfl k) ?_
  show OFin p e below _ _ s₁ (mkF m 6 #[.val (.long q0), .second, .val (.int p1), .val (.int p2), .unset, .unset] [(.long ((q0.toUInt64 >>> (((7 : Int32) * p1) &&& 0x3f).toInt64.toUInt64).toInt64))])
  refine OFin.st (X0.ldc2Long hx hown (mvT hZ (hw _ (List.mem_of_getElem? (i := 6) rfl))) (g := (mkF m 6 #[.val (.long q0), .second, .val (.int p1), .val (.int p2), .unset, .unset] [(.long ((q0.toUInt64 >>> (((7 : Int32) * p1) &&& 0x3f).toInt64.toUInt64).toInt64))])) rfl (hb hby d1_6)) ?_
  show OFin p e below _ _ s₁ (mkF m 9 #[.val (.long q0), .second, .val (.int p1), .val (.int p2), .unset, .unset] [(.long (127 : Int64)), (.long ((q0.toUInt64 >>> (((7 : Int32) * p1) &&& 0x3f).toInt64.toUInt64).toInt64))])
  refine OFin.st (fun t k => XS.land X0.here hx rfl (hb hby d1_9) rfl k) ?_
  show OFin p e below _ _ s₁ (mkF m 10 #[.val (.long q0), .second, .val (.int p1), .val (.int p2), .unset, .unset] [(.long (((q0.toUInt64 >>> (((7 : Int32) * p1) &&& 0x3f).toInt64.toUInt64).toInt64) &&& (127 : Int64)))])
  refine OFin.st (fun t k => XS.lstore X0.here hx rfl (hb hby d1_10) rfl (l' := #[.val (.long q0), .second, .val (.int p1), .val (.int p2), .val (.long (((q0.toUInt64 >>> (((7 : Int32) * p1) &&& 0x3f).toInt64.toUInt64).toInt64) &&& (127 : Int64))), .second]) rfl k) ?_
  show OFin p e below _ _ s₁ (mkF m 12 #[.val (.long q0), .second, .val (.int p1), .val (.int p2), .val (.long (((q0.toUInt64 >>> (((7 : Int32) * p1) &&& 0x3f).toInt64.toUInt64).toInt64) &&& (127 : Int64))), .second] [])
  refine OFin.st (fun t k => XS.iloadN X0.here hx rfl (hb hby d1_12) rfl k) ?_
  show OFin p e below _ _ s₁ (mkF m 13 #[.val (.long q0), .second, .val (.int p1), .val (.int p2), .val (.long (((q0.toUInt64 >>> (((7 : Int32) * p1) &&& 0x3f).toInt64.toUInt64).toInt64) &&& (127 : Int64))), .second] [(.int p1)])
  refine OFin.st (fun t k => XS.iloadN X0.here hx rfl (hb hby d1_13) rfl k) ?_
  show OFin p e below _ _ s₁ (mkF m 14 #[.val (.long q0), .second, .val (.int p1), .val (.int p2), .val (.long (((q0.toUInt64 >>> (((7 : Int32) * p1) &&& 0x3f).toInt64.toUInt64).toInt64) &&& (127 : Int64))), .second] [(.int p2), (.int p1)])
  refine OFin.st (fun t k => XS.iconst X0.here hx rfl (hb hby d1_14) k) ?_
  show OFin p e below _ _ s₁ (mkF m 15 #[.val (.long q0), .second, .val (.int p1), .val (.int p2), .val (.long (((q0.toUInt64 >>> (((7 : Int32) * p1) &&& 0x3f).toInt64.toUInt64).toInt64) &&& (127 : Int64))), .second] [(.int (1 : Int32)), (.int p2), (.int p1)])
  refine OFin.st (fun t k => XS.isub X0.here hx rfl (hb hby d1_15) rfl k) ?_
  show OFin p e below _ _ s₁ (mkF m 16 #[.val (.long q0), .second, .val (.int p1), .val (.int p2), .val (.long (((q0.toUInt64 >>> (((7 : Int32) * p1) &&& 0x3f).toInt64.toUInt64).toInt64) &&& (127 : Int64))), .second] [(.int (p2 - (1 : Int32))), (.int p1)])
  by_cases hc16 : p1 < (p2 - (1 : Int32))
  · refine OFin.st (fun t k => XS.icmpNo X0.here hx rfl (hb hby d1_16) rfl (tlt hc16).2.1 k) ?_
    show OFin p e below _ _ s₁ (mkF m 19 #[.val (.long q0), .second, .val (.int p1), .val (.int p2), .val (.long (((q0.toUInt64 >>> (((7 : Int32) * p1) &&& 0x3f).toInt64.toUInt64).toInt64) &&& (127 : Int64))), .second] [])
    refine OFin.st (fun t k => XS.lload X0.here hx rfl (hb hby d1_19) rfl k) ?_
    show OFin p e below _ _ s₁ (mkF m 21 #[.val (.long q0), .second, .val (.int p1), .val (.int p2), .val (.long (((q0.toUInt64 >>> (((7 : Int32) * p1) &&& 0x3f).toInt64.toUInt64).toInt64) &&& (127 : Int64))), .second] [(.long (((q0.toUInt64 >>> (((7 : Int32) * p1) &&& 0x3f).toInt64.toUInt64).toInt64) &&& (127 : Int64)))])
    refine OFin.st (X0.ldc2Long hx hown (mvT hZ (hw _ (List.mem_of_getElem? (i := 7) rfl))) (g := (mkF m 21 #[.val (.long q0), .second, .val (.int p1), .val (.int p2), .val (.long (((q0.toUInt64 >>> (((7 : Int32) * p1) &&& 0x3f).toInt64.toUInt64).toInt64) &&& (127 : Int64))), .second] [(.long (((q0.toUInt64 >>> (((7 : Int32) * p1) &&& 0x3f).toInt64.toUInt64).toInt64) &&& (127 : Int64)))])) rfl (hb hby d1_21)) ?_
    show OFin p e below _ _ s₁ (mkF m 24 #[.val (.long q0), .second, .val (.int p1), .val (.int p2), .val (.long (((q0.toUInt64 >>> (((7 : Int32) * p1) &&& 0x3f).toInt64.toUInt64).toInt64) &&& (127 : Int64))), .second] [(.long (128 : Int64)), (.long (((q0.toUInt64 >>> (((7 : Int32) * p1) &&& 0x3f).toInt64.toUInt64).toInt64) &&& (127 : Int64)))])
    refine OFin.st (fun t k => XS.lor X0.here hx rfl (hb hby d1_24) rfl k) ?_
    show OFin p e below _ _ s₁ (mkF m 25 #[.val (.long q0), .second, .val (.int p1), .val (.int p2), .val (.long (((q0.toUInt64 >>> (((7 : Int32) * p1) &&& 0x3f).toInt64.toUInt64).toInt64) &&& (127 : Int64))), .second] [(.long ((((q0.toUInt64 >>> (((7 : Int32) * p1) &&& 0x3f).toInt64.toUInt64).toInt64) &&& (127 : Int64)) ||| (128 : Int64)))])
    refine OFin.st (fun t k => XS.l2i X0.here hx rfl (hb hby d1_25) rfl k) ?_
    show OFin p e below _ _ s₁ (mkF m 26 #[.val (.long q0), .second, .val (.int p1), .val (.int p2), .val (.long (((q0.toUInt64 >>> (((7 : Int32) * p1) &&& 0x3f).toInt64.toUInt64).toInt64) &&& (127 : Int64))), .second] [(.int (((((q0.toUInt64 >>> (((7 : Int32) * p1) &&& 0x3f).toInt64.toUInt64).toInt64) &&& (127 : Int64)) ||| (128 : Int64)).toInt32))])
    refine OFin.st (fun t k => XS.i2b X0.here hx rfl (hb hby d1_26) rfl k) ?_
    show OFin p e below _ _ s₁ (mkF m 27 #[.val (.long q0), .second, .val (.int p1), .val (.int p2), .val (.long (((q0.toUInt64 >>> (((7 : Int32) * p1) &&& 0x3f).toInt64.toUInt64).toInt64) &&& (127 : Int64))), .second] [(.int ((((((q0.toUInt64 >>> (((7 : Int32) * p1) &&& 0x3f).toInt64.toUInt64).toInt64) &&& (127 : Int64)) ||| (128 : Int64)).toInt32).toInt8.toInt32))])
    exact own_retN X0 hx Bd.returns Bd.notSynchronized (t := .byte) (by simp) (own_nb _) (hb hby d1_27) ⟨(by rw [F1, if_pos hc16]; try rfl), N0, e0⟩ (own_endN (by decide) (by decide))
  · refine OFin.st (fun t k => XS.icmpYes X0.here hx rfl (pc0 := 16) (pc' := 28) rfl (hb hby d1_16) rfl (flt hc16).2.1 (by decide) (by decide) k) ?_
    show OFin p e below _ _ s₁ (mkF m 28 #[.val (.long q0), .second, .val (.int p1), .val (.int p2), .val (.long (((q0.toUInt64 >>> (((7 : Int32) * p1) &&& 0x3f).toInt64.toUInt64).toInt64) &&& (127 : Int64))), .second] [])
    refine OFin.st (fun t k => XS.iloadN X0.here hx rfl (hb hby d1_28) rfl k) ?_
    show OFin p e below _ _ s₁ (mkF m 29 #[.val (.long q0), .second, .val (.int p1), .val (.int p2), .val (.long (((q0.toUInt64 >>> (((7 : Int32) * p1) &&& 0x3f).toInt64.toUInt64).toInt64) &&& (127 : Int64))), .second] [(.int p1)])
    refine OFin.st (fun t k => XS.iloadN X0.here hx rfl (hb hby d1_29) rfl k) ?_
    show OFin p e below _ _ s₁ (mkF m 30 #[.val (.long q0), .second, .val (.int p1), .val (.int p2), .val (.long (((q0.toUInt64 >>> (((7 : Int32) * p1) &&& 0x3f).toInt64.toUInt64).toInt64) &&& (127 : Int64))), .second] [(.int p2), (.int p1)])
    refine OFin.st (fun t k => XS.iconst X0.here hx rfl (hb hby d1_30) k) ?_
    show OFin p e below _ _ s₁ (mkF m 31 #[.val (.long q0), .second, .val (.int p1), .val (.int p2), .val (.long (((q0.toUInt64 >>> (((7 : Int32) * p1) &&& 0x3f).toInt64.toUInt64).toInt64) &&& (127 : Int64))), .second] [(.int (1 : Int32)), (.int p2), (.int p1)])
    refine OFin.st (fun t k => XS.isub X0.here hx rfl (hb hby d1_31) rfl k) ?_
    show OFin p e below _ _ s₁ (mkF m 32 #[.val (.long q0), .second, .val (.int p1), .val (.int p2), .val (.long (((q0.toUInt64 >>> (((7 : Int32) * p1) &&& 0x3f).toInt64.toUInt64).toInt64) &&& (127 : Int64))), .second] [(.int (p2 - (1 : Int32))), (.int p1)])
    by_cases hc32 : p1 = (p2 - (1 : Int32))
    · refine OFin.st (fun t k => XS.icmpNo X0.here hx rfl (hb hby d1_32) rfl (teq hc32).2 k) ?_
      show OFin p e below _ _ s₁ (mkF m 35 #[.val (.long q0), .second, .val (.int p1), .val (.int p2), .val (.long (((q0.toUInt64 >>> (((7 : Int32) * p1) &&& 0x3f).toInt64.toUInt64).toInt64) &&& (127 : Int64))), .second] [])
      refine OFin.st (fun t k => XS.lload X0.here hx rfl (hb hby d1_35) rfl k) ?_
      show OFin p e below _ _ s₁ (mkF m 37 #[.val (.long q0), .second, .val (.int p1), .val (.int p2), .val (.long (((q0.toUInt64 >>> (((7 : Int32) * p1) &&& 0x3f).toInt64.toUInt64).toInt64) &&& (127 : Int64))), .second] [(.long (((q0.toUInt64 >>> (((7 : Int32) * p1) &&& 0x3f).toInt64.toUInt64).toInt64) &&& (127 : Int64)))])
      refine OFin.st (fun t k => XS.l2i X0.here hx rfl (hb hby d1_37) rfl k) ?_
      show OFin p e below _ _ s₁ (mkF m 38 #[.val (.long q0), .second, .val (.int p1), .val (.int p2), .val (.long (((q0.toUInt64 >>> (((7 : Int32) * p1) &&& 0x3f).toInt64.toUInt64).toInt64) &&& (127 : Int64))), .second] [(.int ((((q0.toUInt64 >>> (((7 : Int32) * p1) &&& 0x3f).toInt64.toUInt64).toInt64) &&& (127 : Int64)).toInt32))])
      refine OFin.st (fun t k => XS.i2b X0.here hx rfl (hb hby d1_38) rfl k) ?_
      show OFin p e below _ _ s₁ (mkF m 39 #[.val (.long q0), .second, .val (.int p1), .val (.int p2), .val (.long (((q0.toUInt64 >>> (((7 : Int32) * p1) &&& 0x3f).toInt64.toUInt64).toInt64) &&& (127 : Int64))), .second] [(.int (((((q0.toUInt64 >>> (((7 : Int32) * p1) &&& 0x3f).toInt64.toUInt64).toInt64) &&& (127 : Int64)).toInt32).toInt8.toInt32))])
      exact own_retN X0 hx Bd.returns Bd.notSynchronized (t := .byte) (by simp) (own_nb _) (hb hby d1_39) ⟨(by rw [F1, if_neg hc16, if_pos hc32]; try rfl), N0, e0⟩ (own_endN (by decide) (by decide))
    · refine OFin.st (fun t k => XS.icmpYes X0.here hx rfl (pc0 := 32) (pc' := 40) rfl (hb hby d1_32) rfl (feq hc32).2 (by decide) (by decide) k) ?_
      show OFin p e below _ _ s₁ (mkF m 40 #[.val (.long q0), .second, .val (.int p1), .val (.int p2), .val (.long (((q0.toUInt64 >>> (((7 : Int32) * p1) &&& 0x3f).toInt64.toUInt64).toInt64) &&& (127 : Int64))), .second] [])
      refine OFin.st (fun t k => XS.iconst X0.here hx rfl (hb hby d1_40) k) ?_
      show OFin p e below _ _ s₁ (mkF m 41 #[.val (.long q0), .second, .val (.int p1), .val (.int p2), .val (.long (((q0.toUInt64 >>> (((7 : Int32) * p1) &&& 0x3f).toInt64.toUInt64).toInt64) &&& (127 : Int64))), .second] [(.int (0 : Int32))])
      exact own_retN X0 hx Bd.returns Bd.notSynchronized (t := .byte) (by simp) rfl (hb hby d1_41) ⟨(by rw [F1, if_neg hc16, if_neg hc32]; try rfl), N0, e0⟩ (own_endN (by decide) (by decide))
def kvOf (p1 : Int32) : Nat := (((p1 &&& (2147483647 : Int32)) % (10 : Int32)) + (1 : Int32)).toInt.toNat - 1
theorem own_F1b (q0 : Int64) (i n : Int32) : (F1 q0 i n).toInt8.toInt32 = F1 q0 i n := own_ite (P := fun v : Int32 => v.toInt8.toInt32 = v) (own_nb _) (own_ite (P := fun v : Int32 => v.toInt8.toInt32 = v) (own_nb _) (by decide))
theorem own_N (p1 : Int32) : 1 ≤ (((p1 &&& (2147483647 : Int32)) % (10 : Int32)) + (1 : Int32)).toInt ∧ (((p1 &&& (2147483647 : Int32)) % (10 : Int32)) + (1 : Int32)).toInt ≤ 10 := by
  have h := own_rem p1 10 10 (by decide) (by decide)
  have c := c_iadd ((p1 &&& (2147483647 : Int32)) % (10 : Int32)) (1 : Int32)
  have r := rng32 (((p1 &&& (2147483647 : Int32)) % (10 : Int32)) + (1 : Int32))
  rw [(by decide : (1 : Int32).toInt = 1)] at c
  omega
theorem own_hk (p1 : Int32) : kvOf p1 ≤ 9 := by have := own_N p1; unfold kvOf; omega
theorem own_byte : ∀ k : Fin 128, ((((((Int64.ofInt (k.val : Int)) ||| (128 : Int64)).toInt32).toInt8.toInt32) &&& (127 : Int32)).toInt64 = Int64.ofInt (k.val : Int)) ∧ ((((Int64.ofInt (k.val : Int)).toInt32).toInt8.toInt32 &&& (127 : Int32)).toInt64 = Int64.ofInt (k.val : Int)) ∧ ((((Int64.ofInt (k.val : Int)) ||| (128 : Int64)).toInt32).toInt8.toInt32 < 0) ∧ ¬ (((Int64.ofInt (k.val : Int)).toInt32).toInt8.toInt32 < 0) := by decide +kernel
theorem own_b127 (y : Int64) : ∃ k : Fin 128, y &&& (127 : Int64) = Int64.ofInt (k.val : Int) := by
  have h : (y &&& (127 : Int64)).toInt = y.toInt % 128 := c_maskL y (127 : Int64) 7 (by decide) (by decide)
  refine ⟨⟨(y &&& (127 : Int64)).toInt.toNat, by omega⟩, ?_⟩
  show y &&& (127 : Int64) = Int64.ofInt (((y &&& (127 : Int64)).toInt.toNat : Nat) : Int)
  rw [Int.toNat_of_nonneg (by omega)]
  exact (Int64.ofInt_toInt _).symm
def partN (q0 : Int64) (i : Nat) : Int64 := ((q0.toUInt64 >>> (((7 : Int32) * (Int32.ofNat i)) &&& 0x3f).toInt64.toUInt64).toInt64) &&& (127 : Int64)
theorem own_Nm (N : Int32) (kv : Nat) (hN : N.toInt = (kv : Int) + 1) : (N - (1 : Int32)).toInt = (kv : Int) := by
  have c := c_isub N (1 : Int32)
  have r := rng32 (N - (1 : Int32))
  have r2 := rng32 N
  rw [(by decide : (1 : Int32).toInt = 1)] at c
  omega
theorem own_F1lo (q0 : Int64) (i kv : Nat) (N : Int32) (hN : N.toInt = (kv : Int) + 1) (hk : kv ≤ 9) (h : i < kv) : F1 q0 (Int32.ofNat i) N = ((partN q0 i ||| (128 : Int64)).toInt32).toInt8.toInt32 := by
  unfold F1
  rw [if_pos]
  · rfl
  · rw [Int32.lt_iff_toInt_lt, own_Nm N kv hN, Int32.toInt_ofNat_small (by omega)]; omega
theorem own_F1hi (q0 : Int64) (kv : Nat) (N : Int32) (hN : N.toInt = (kv : Int) + 1) (hk : kv ≤ 9) : F1 q0 (Int32.ofNat kv) N = ((partN q0 kv).toInt32).toInt8.toInt32 := by
  have e : Int32.ofNat kv = N - (1 : Int32) := Int32.toInt_inj.mp (by rw [own_Nm N kv hN, Int32.toInt_ofNat_small (by omega)])
  unfold F1
  rw [if_neg, if_pos e]
  · rfl
  · rw [e, Int32.lt_iff_toInt_lt]; omega
theorem own_kv (p1 : Int32) : (((p1 &&& (2147483647 : Int32)) % (10 : Int32)) + (1 : Int32)).toInt = (kvOf p1 : Int) + 1 := by have := own_N p1; unfold kvOf; omega
theorem own_hcn (q0 : Int64) (p1 : Int32) : ∀ i, i < kvOf p1 → F1 q0 (Int32.ofNat i) (((p1 &&& (2147483647 : Int32)) % (10 : Int32)) + (1 : Int32)) < 0 := fun i hi => by
  rw [own_F1lo q0 i (kvOf p1) _ (own_kv p1) (own_hk p1) hi, partN]
  obtain ⟨k, e⟩ := own_b127 ((q0.toUInt64 >>> (((7 : Int32) * (Int32.ofNat i)) &&& 0x3f).toInt64.toUInt64).toInt64)
  rw [e]; exact (own_byte k).2.2.1
theorem own_hln (q0 : Int64) (p1 : Int32) : ¬ F1 q0 (Int32.ofNat (kvOf p1)) (((p1 &&& (2147483647 : Int32)) % (10 : Int32)) + (1 : Int32)) < 0 := by
  rw [own_F1hi q0 (kvOf p1) _ (own_kv p1) (own_hk p1), partN]
  obtain ⟨k, e⟩ := own_b127 ((q0.toUInt64 >>> (((7 : Int32) * (Int32.ofNat (kvOf p1))) &&& 0x3f).toInt64.toUInt64).toInt64)
  rw [e]; exact (own_byte k).2.2.2
theorem own_h9 (q0 : Int64) (p1 : Int32) : kvOf p1 = 9 → ¬ (1 : Int32) < F1 q0 (Int32.ofNat (kvOf p1)) (((p1 &&& (2147483647 : Int32)) % (10 : Int32)) + (1 : Int32)) := fun h => by
  rw [own_F1hi q0 (kvOf p1) _ (own_kv p1) (own_hk p1), partN, h]
  have e : ((q0.toUInt64 >>> (((7 : Int32) * (Int32.ofNat 9)) &&& 0x3f).toInt64.toUInt64).toInt64).toInt = (q0.toInt % 18446744073709551616) / 9223372036854775808 := c_lushr q0 ((7 : Int32) * (Int32.ofNat 9)) 63 (by decide) (by decide)
  generalize ((q0.toUInt64 >>> (((7 : Int32) * (Int32.ofNat 9)) &&& 0x3f).toInt64.toUInt64).toInt64) = y at e
  have h01 : y.toInt = 0 ∨ y.toInt = 1 := by omega
  rcases h01 with q | q
  · have : y = 0 := Int64.toInt_inj.mp (by rw [q]; decide)
    rw [this]; decide
  · have : y = 1 := Int64.toInt_inj.mp (by rw [q]; decide)
    rw [this]; decide
theorem own_partb (q0 : Int64) (i k : Nat) (hi : i ≤ 9) (hk : k < 64) : (partN q0 i).toBitVec.getLsbD k = (decide (k < 7) && q0.toBitVec.getLsbD (7 * i + k)) := by
  have e1 : (((7 : Int32) * (Int32.ofNat i)) &&& 0x3f).toInt64.toUInt64.toBitVec % (64 : BitVec 64) = BitVec.ofNat 64 (7 * i) := (by decide +kernel : ∀ j : Fin 10, (((7 : Int32) * (Int32.ofNat j.val)) &&& 0x3f).toInt64.toUInt64.toBitVec % (64 : BitVec 64) = BitVec.ofNat 64 (7 * j.val)) ⟨i, by omega⟩
  have e : (partN q0 i).toBitVec = (q0.toBitVec >>> (7 * i)) &&& 127#64 := by
    unfold partN
    rw [Int64.toBitVec_and]
    show ((q0.toUInt64 >>> (((7 : Int32) * (Int32.ofNat i)) &&& 0x3f).toInt64.toUInt64).toBitVec) &&& 127#64 = _
    rw [UInt64.toBitVec_shiftRight, e1]
    show (q0.toBitVec >>> (BitVec.ofNat 64 (7 * i))) &&& 127#64 = _
    rw [BitVec.ushiftRight_eq', BitVec.toNat_ofNat, Nat.mod_eq_of_lt (by omega)]
  rw [e, BitVec.getLsbD_and, BitVec.getLsbD_ushiftRight, (by decide +kernel : ∀ j : Fin 64, (127#64).getLsbD j.val = decide (j.val < 7)) ⟨k, hk⟩, Bool.and_comm]
theorem own_vacb (q0 : Int64) (f : Nat → Int32) (n : Nat) (hn : n ≤ 10) (hf : ∀ i, i < n → ((f i) &&& (127 : Int32)).toInt64 = partN q0 i) : ∀ i, i ≤ n → ∀ j, j < 64 → (vac f i).toBitVec.getLsbD j = (decide (j < 7 * i) && q0.toBitVec.getLsbD j)
  | 0, _, j, _ => by
    show (0#64).getLsbD j = _
    simp
  | i + 1, h, j, hj => by
    show ((vac f i) ||| ((((f i) &&& (127 : Int32)).toInt64) <<< ((vsh i) &&& 0x3f).toInt64)).toBitVec.getLsbD j = _
    have e2 : (((vsh i) &&& 0x3f).toInt64.toBitVec.smod 64#64) = BitVec.ofNat 64 (7 * i) := by
      have e := vsh_val i (by omega)
      have e' : vsh i = Int32.ofInt ((7 * i : Nat) : Int) := by
        rw [(by omega : ((7 * i : Nat) : Int) = 7 * (i : Int)), ← e]; exact (Int32.ofInt_toInt _).symm
      rw [e']
      exact (by decide +kernel : ∀ j : Fin 10, ((Int32.ofInt ((7 * j.val : Nat) : Int)) &&& 0x3f).toInt64.toBitVec.smod 64#64 = BitVec.ofNat 64 (7 * j.val)) ⟨i, by omega⟩
    have e3 : (partN q0 i <<< ((vsh i) &&& 0x3f).toInt64).toBitVec = (partN q0 i).toBitVec <<< (7 * i) := by
      rw [Int64.toBitVec_shiftLeft]
      show (partN q0 i).toBitVec <<< (((vsh i) &&& 0x3f).toInt64.toBitVec.smod 64#64) = _
      rw [e2, BitVec.shiftLeft_eq', BitVec.toNat_ofNat, Nat.mod_eq_of_lt (by omega)]
    rw [hf i (by omega), Int64.toBitVec_or, e3, BitVec.getLsbD_or, own_vacb q0 f n hn hf i (by omega) j hj, BitVec.getLsbD_shiftLeft]
    by_cases h1 : j < 7 * i
    · simp [h1, (by omega : j < 7 * (i + 1))]
    · rw [own_partb q0 i (j - 7 * i) (by omega) (by omega), (by omega : 7 * i + (j - 7 * i) = j)]
      rw [(decide_eq_decide.mpr (by omega) : decide (j - 7 * i < 7) = decide (j < 7 * (i + 1)))]
      simp [h1, hj]
theorem own_hvs (q0 : Int64) (p1 : Int32) : ∀ i, i ≤ kvOf p1 → ([(.int (8 : Int32)), (.int (F1 q0 (0 : Int32) (((p1 &&& (2147483647 : Int32)) % (10 : Int32)) + (1 : Int32)))), (.int (F1 q0 (1 : Int32) (((p1 &&& (2147483647 : Int32)) % (10 : Int32)) + (1 : Int32)))), (.int (F1 q0 (2 : Int32) (((p1 &&& (2147483647 : Int32)) % (10 : Int32)) + (1 : Int32)))), (.int (F1 q0 (3 : Int32) (((p1 &&& (2147483647 : Int32)) % (10 : Int32)) + (1 : Int32)))), (.int (F1 q0 (4 : Int32) (((p1 &&& (2147483647 : Int32)) % (10 : Int32)) + (1 : Int32)))), (.int (F1 q0 (5 : Int32) (((p1 &&& (2147483647 : Int32)) % (10 : Int32)) + (1 : Int32)))), (.int (F1 q0 (6 : Int32) (((p1 &&& (2147483647 : Int32)) % (10 : Int32)) + (1 : Int32)))), (.int (F1 q0 (7 : Int32) (((p1 &&& (2147483647 : Int32)) % (10 : Int32)) + (1 : Int32)))), (.int (F1 q0 (8 : Int32) (((p1 &&& (2147483647 : Int32)) % (10 : Int32)) + (1 : Int32)))), (.int (F1 q0 (9 : Int32) (((p1 &&& (2147483647 : Int32)) % (10 : Int32)) + (1 : Int32))))] : List Value)[(vpo (0 : Int32) (0 + 1)).toInt.toNat + i]? = some (Value.int (F1 q0 (Int32.ofNat i) (((p1 &&& (2147483647 : Int32)) % (10 : Int32)) + (1 : Int32)))) := by
  intro i hi
  have h9 : i ≤ 9 := Nat.le_trans hi (own_hk p1)
  rw [(by decide +kernel : (vpo (0 : Int32) (0 + 1)).toInt.toNat = 1)]
  match i, h9 with
  | 0, _ => rfl
  | 1, _ => rfl
  | 2, _ => rfl
  | 3, _ => rfl
  | 4, _ => rfl
  | 5, _ => rfl
  | 6, _ => rfl
  | 7, _ => rfl
  | 8, _ => rfl
  | 9, _ => rfl
  | i + 10, h => exact absurd h (by omega)
theorem own_hne (p1 : Int32) : ∀ i, i ≤ kvOf p1 → ¬ vpo (vpo (0 : Int32) (0 + 1)) i = (11 : Int32) := by
  intro i hi q
  have h9 : i ≤ 9 := Nat.le_trans hi (own_hk p1)
  have e : (vpo (0 : Int32) (0 + 1)).toInt = 1 := by decide +kernel
  have v := vpo_val (vpo (0 : Int32) (0 + 1)) i (by omega) (by omega) (by omega)
  rw [q, e, (by decide : (11 : Int32).toInt = 11)] at v
  omega
theorem own_fb (q0 : Int64) (p1 : Int32) : ∀ i, i < kvOf p1 + 1 → ((F1 q0 (Int32.ofNat i) (((p1 &&& (2147483647 : Int32)) % (10 : Int32)) + (1 : Int32))) &&& (127 : Int32)).toInt64 = partN q0 i := fun i hi => by
  by_cases h : i < kvOf p1
  · rw [own_F1lo q0 i (kvOf p1) _ (own_kv p1) (own_hk p1) h, partN]
    obtain ⟨k, e⟩ := own_b127 ((q0.toUInt64 >>> (((7 : Int32) * (Int32.ofNat i)) &&& 0x3f).toInt64.toUInt64).toInt64)
    rw [e]; exact (own_byte k).1
  · have : i = kvOf p1 := by omega
    subst this
    rw [own_F1hi q0 (kvOf p1) _ (own_kv p1) (own_hk p1), partN]
    obtain ⟨k, e⟩ := own_b127 ((q0.toUInt64 >>> (((7 : Int32) * (Int32.ofNat (kvOf p1))) &&& 0x3f).toInt64.toUInt64).toInt64)
    rw [e]; exact (own_byte k).2.1
theorem own_vac (q0 : Int64) (p1 : Int32) : (vac (fun i => F1 q0 (Int32.ofNat i) (((p1 &&& (2147483647 : Int32)) % (10 : Int32)) + (1 : Int32))) ((kvOf p1) + 1)) = if (((p1 &&& (2147483647 : Int32)) % (10 : Int32)) + (1 : Int32)) = (10 : Int32) then q0 else (q0 &&& (((1 : Int64) <<< (((7 : Int32) * (((p1 &&& (2147483647 : Int32)) % (10 : Int32)) + (1 : Int32))) &&& 0x3f).toInt64) - (1 : Int64))) := by
  have hk := own_hk p1
  have hv := own_kv p1
  have hb := own_vacb q0 (fun i => F1 q0 (Int32.ofNat i) (((p1 &&& (2147483647 : Int32)) % (10 : Int32)) + (1 : Int32))) (kvOf p1 + 1) (by omega) (own_fb q0 p1) (kvOf p1 + 1) (Nat.le_refl _)
  generalize vac (fun i => F1 q0 (Int32.ofNat i) (((p1 &&& (2147483647 : Int32)) % (10 : Int32)) + (1 : Int32))) (kvOf p1 + 1) = y at hb ⊢
  generalize (((p1 &&& (2147483647 : Int32)) % (10 : Int32)) + (1 : Int32)) = N at hv ⊢
  generalize kvOf p1 = k at hk hv hb
  apply Int64.toBitVec_inj.mp
  apply BitVec.eq_of_getLsbD_eq
  intro j hj
  rw [hb j hj]
  by_cases h10 : N = 10
  · rw [if_pos h10]
    rw [h10, (by decide : (10 : Int32).toInt = 10)] at hv
    simp [(by omega : j < 7 * (k + 1))]
  · rw [if_neg h10, Int64.toBitVec_and, BitVec.getLsbD_and]
    have h8 : k < 9 := by
      refine Nat.lt_of_le_of_ne hk fun q => h10 (Int32.toInt_inj.mp ?_)
      rw [hv, q]; decide
    have e : N = Int32.ofInt ((k : Int) + 1) := by rw [← hv]; exact (Int32.ofInt_toInt N).symm
    rw [e, (by decide +kernel : ∀ a : Fin 9, ∀ b : Fin 64, (((1 : Int64) <<< (((7 : Int32) * (Int32.ofInt ((a.val : Int) + 1))) &&& 0x3f).toInt64) - (1 : Int64)).toBitVec.getLsbD b.val = decide (b.val < 7 * (a.val + 1))) ⟨k, h8⟩ ⟨j, hj⟩, Bool.and_comm]
theorem own_zig (w : Int64) : ((w &&& (4294967295 : Int64)) % (2 : Int64) = (0 : Int64) → ((((((w.toInt32).toUInt32 >>> ((1 : Int32) &&& 31).toUInt32).toInt32) ^^^ (-((w.toInt32) &&& (1 : Int32))))).toInt64) = ((w &&& (4294967295 : Int64)) / (2 : Int64))) ∧
    (¬ (w &&& (4294967295 : Int64)) % (2 : Int64) = (0 : Int64) → ((((((w.toInt32).toUInt32 >>> ((1 : Int32) &&& 31).toUInt32).toInt32) ^^^ (-((w.toInt32) &&& (1 : Int32))))).toInt64) = ((-((w &&& (4294967295 : Int64)) / (2 : Int64))) - (1 : Int64))) := by
  have hu : (w &&& (4294967295 : Int64)).toInt = w.toInt % 4294967296 := c_maskL w (4294967295 : Int64) 32 (by decide) (by decide)
  have hx := c_l2i w
  have rx := rng32 w.toInt32
  have hy : (((w.toInt32).toUInt32 >>> ((1 : Int32) &&& 31).toUInt32).toInt32).toInt = (w.toInt32.toInt % 4294967296) / 2 := c_iushr (w.toInt32) (1 : Int32) 1 (by decide) (by decide)
  have hm : ((w.toInt32) &&& (1 : Int32)).toInt = w.toInt32.toInt % 2 := c_mask (w.toInt32) (1 : Int32) 1 (by decide) (by decide)
  have hd := (c_ldiv (w &&& (4294967295 : Int64)) (2 : Int64) 2 (by decide) (by decide)).1 (by omega)
  have hr : ((w &&& (4294967295 : Int64)) % (2 : Int64)).toInt = (w &&& (4294967295 : Int64)).toInt % 2 := by
    rw [Int64.toInt_mod, (by decide : (2 : Int64).toInt = 2), Int.tmod_eq_emod_of_nonneg (by omega)]
  generalize (((w.toInt32).toUInt32 >>> ((1 : Int32) &&& 31).toUInt32).toInt32) = y at hy ⊢
  generalize (w.toInt32) &&& (1 : Int32) = z at hm ⊢
  generalize w &&& (4294967295 : Int64) = u at hu hd hr ⊢
  constructor
  · intro he
    rw [he, (by decide : (0 : Int64).toInt = 0)] at hr
    have hz : z = 0 := Int32.toInt_inj.mp (by rw [(by decide : (0 : Int32).toInt = 0)]; omega)
    rw [hz, (by decide : -(0 : Int32) = 0), Int32.xor_zero]
    apply Int64.toInt_inj.mp
    rw [c_i2l]; omega
  · intro ho
    have hr1 : ¬ (u % (2 : Int64)).toInt = 0 := fun q => ho (Int64.toInt_inj.mp (by rw [q]; decide))
    have hz : z = 1 := Int32.toInt_inj.mp (by rw [(by decide : (1 : Int32).toInt = 1)]; omega)
    rw [hz, Int32.xor_neg_one, Int32.not_eq_neg_add]
    apply Int64.toInt_inj.mp
    rw [c_i2l]
    have a1 := c_ineg y
    have a2 := c_isub (-y) (1 : Int32)
    have a3 := rng32 (-y)
    have a4 := rng32 (-y - (1 : Int32))
    have b1 := c_lneg (u / (2 : Int64))
    have b2 := c_lsub (-(u / (2 : Int64))) (1 : Int64)
    have b3 := rng64 (-(u / (2 : Int64)))
    have b4 := rng64 (-(u / (2 : Int64)) - (1 : Int64))
    rw [(by decide : (1 : Int32).toInt = 1)] at a2
    rw [(by decide : (1 : Int64).toInt = 1)] at b2
    omega

theorem ef_rm0 (m : MethodId) (q0 : Int64) (p1 : Int32) : entryFrame m #[(.long q0), (.int p1)] maxLocals = mkF m 0 #[.val (.long q0), .second, .val (.int p1), .unset, .unset, .unset, .unset, .unset, .unset, .unset, .unset, .unset, .unset] [] := by first | (simp [entryFrame, mkF, argsToLocals, Value.category, maxLocals]; done) | rfl
def Qrm0 (Z : State) (q0 : Int64) (p1 : Int32) (kW : ClassId) (vW : List Value) (w_WIRE_TYPES : Addr) (h0 : Heap) (n0 : Nat) (v : Option Value) (h : Heap) (L : List Loc) : Prop := v = some (Value.int (1 : Int32)) ∧ Fr n0 L ∧ Keep h0 h []
set_option maxRecDepth 65536 in
set_option maxHeartbeats 40000000 in
theorem rm0 (l : Launch) (Z : State) (a0 : Array Value) (hw : ∀ d ∈ tables_1, d.before a0 Z = true) (ws : List Jvm.Cond) (q0 : Int64) (p1 : Int32) (kW : ClassId) (vW : List Value) (w_WIRE_TYPES : Addr) (h0 : Heap) (n0 : Nat) (O0 : Old Z n0 h0) (hW6 : vW.length = 6) (A_w_WIRE_TYPES : Oar Z Z.heap w_WIRE_TYPES kW (.object "java/lang/String") vW) (S_WIRE_TYPES : Sta Z Z.heap "com/example/fillwire/fillwire/codec/ProtoReader" "WIRE_TYPES" "[Ljava/lang/String;" (.ref w_WIRE_TYPES)) :
    MetFree l x (head1 (Jvm.Cond.code x code maxLocals ret :: ws) room_1) (fun a U => a = #[(.long q0), (.int p1)] ∧ Z.Warmed39 U.vm ∧ U.heap = h0) (fun _ _ _ _ _ => True) (fun _ U o U' => ∃ v L, o = .returned v ∧ Qrm0 Z q0 p1 kW vW w_WIRE_TYPES h0 n0 v U'.heap L ∧ ReturnedEndW U o U' L room_1.cells room_1.slots) := by
  refine MetFree.of_bodySF (plainFor_of_name pn_com_example_fillwire_fillwire_codec_ProtoReaderSint32PinLaw) hisR ?_
  intro p e s m args below meth c s₁ Bd hml0 hP hK
  obtain ⟨rfl, hZ, hh⟩ := hP
  have hx := Bd.exec
  have hby := Bd.bytes
  have hml : c.maxLocals = 13 := hml0
  have hown : s.vm.findClass "com/example/fillwire/fillwire/codec/ProtoReaderSint32PinLaw" = some m.cls := findClass_of_methodNamed Bd.named
  have hnm := (name_of_methodNamed Bd.named Bd.method).1
  have X0 : Stand p l e room_1 (s.setVm s.vm) m #[(.long q0), (.int p1)] below meth c s₁ [] 0 0 := Stand.of_body Bd
  have e0 : s₁.heap = h0 := by rw [← hh, Bd.state]; rfl
  have N0 := Fr.nil n0
  have hS0 : s.Since s.vm 0 := (State.WarmedH.refl s).since 0
  have hk0 : 0 ≤ h0.size := Nat.zero_le _
  show OFin p e below (fun o t L => ReturnedEndW s o t L room_1.cells room_1.slots) (fun v h L => Qrm0 Z q0 p1 kW vW w_WIRE_TYPES h0 n0 v h L) s₁ (entryFrame m #[(.long q0), (.int p1)] maxLocals)
  refine OFin.cast (ef_rm0 m q0 p1) ?_
  show OFin p e below _ _ s₁ (mkF m 0 #[.val (.long q0), .second, .val (.int p1), .unset, .unset, .unset, .unset, .unset, .unset, .unset, .unset, .unset, .unset] [])
  refine OFin.st (fun t k => XS.iloadN X0.here hx rfl (hb hby at_0) rfl k) ?_
  show OFin p e below _ _ s₁ (mkF m 1 #[.val (.long q0), .second, .val (.int p1), .unset, .unset, .unset, .unset, .unset, .unset, .unset, .unset, .unset, .unset] [(.int p1)])
  refine OFin.st (X0.ldcInt hx hown (mvT hZ (hw _ (List.mem_of_getElem? (i := 0) rfl))) (g := (mkF m 1 #[.val (.long q0), .second, .val (.int p1), .unset, .unset, .unset, .unset, .unset, .unset, .unset, .unset, .unset, .unset] [(.int p1)])) rfl (hb hby at_1)) ?_
  show OFin p e below _ _ s₁ (mkF m 3 #[.val (.long q0), .second, .val (.int p1), .unset, .unset, .unset, .unset, .unset, .unset, .unset, .unset, .unset, .unset] [(.int (2147483647 : Int32)), (.int p1)])
  refine OFin.st (fun t k => XS.iand X0.here hx rfl (hb hby at_3) rfl k) ?_
  show OFin p e below _ _ s₁ (mkF m 4 #[.val (.long q0), .second, .val (.int p1), .unset, .unset, .unset, .unset, .unset, .unset, .unset, .unset, .unset, .unset] [(.int (p1 &&& (2147483647 : Int32)))])
  refine OFin.st (fun t k => XS.bipush X0.here hx rfl (hb hby at_4) k) ?_
  show OFin p e below _ _ s₁ (mkF m 6 #[.val (.long q0), .second, .val (.int p1), .unset, .unset, .unset, .unset, .unset, .unset, .unset, .unset, .unset, .unset] [(.int (10 : Int32)), (.int (p1 &&& (2147483647 : Int32)))])
  refine OFin.st (fun t k => iremM X0 hx rfl (hb hby at_6) rfl (by decide) k) ?_
  show OFin p e below _ _ s₁ (mkF m 7 #[.val (.long q0), .second, .val (.int p1), .unset, .unset, .unset, .unset, .unset, .unset, .unset, .unset, .unset, .unset] [(.int ((p1 &&& (2147483647 : Int32)) % (10 : Int32)))])
  refine OFin.st (fun t k => XS.iconst X0.here hx rfl (hb hby at_7) k) ?_
  show OFin p e below _ _ s₁ (mkF m 8 #[.val (.long q0), .second, .val (.int p1), .unset, .unset, .unset, .unset, .unset, .unset, .unset, .unset, .unset, .unset] [(.int (1 : Int32)), (.int ((p1 &&& (2147483647 : Int32)) % (10 : Int32)))])
  refine OFin.st (fun t k => XS.iadd X0.here hx rfl (hb hby at_8) rfl k) ?_
  show OFin p e below _ _ s₁ (mkF m 9 #[.val (.long q0), .second, .val (.int p1), .unset, .unset, .unset, .unset, .unset, .unset, .unset, .unset, .unset, .unset] [(.int (((p1 &&& (2147483647 : Int32)) % (10 : Int32)) + (1 : Int32)))])
  refine OFin.st (fun t k => XS.istoreN X0.here hx rfl (hb hby at_9) rfl (l' := #[.val (.long q0), .second, .val (.int p1), .val (.int (((p1 &&& (2147483647 : Int32)) % (10 : Int32)) + (1 : Int32))), .unset, .unset, .unset, .unset, .unset, .unset, .unset, .unset, .unset]) rfl k) ?_
  show OFin p e below _ _ s₁ (mkF m 10 #[.val (.long q0), .second, .val (.int p1), .val (.int (((p1 &&& (2147483647 : Int32)) % (10 : Int32)) + (1 : Int32))), .unset, .unset, .unset, .unset, .unset, .unset, .unset, .unset, .unset] [])
  refine OFin.st (fun t k => XS.bipush X0.here hx rfl (hb hby at_10) k) ?_
  show OFin p e below _ _ s₁ (mkF m 12 #[.val (.long q0), .second, .val (.int p1), .val (.int (((p1 &&& (2147483647 : Int32)) % (10 : Int32)) + (1 : Int32))), .unset, .unset, .unset, .unset, .unset, .unset, .unset, .unset, .unset] [(.int (11 : Int32))])
  obtain ⟨T1, h1, k1, X1, e1, E1, A1, st1⟩ := own_newP X0 hx hZ (hw _ (List.mem_of_getElem? (i := 1) rfl)) e0 (z := (11 : Int32)) (n := 11) (cap := 11) (by decide) (by decide) (by decide) (by decide) (by decide) (pc := 12) (Ls := #[.val (.long q0), .second, .val (.int p1), .val (.int (((p1 &&& (2147483647 : Int32)) % (10 : Int32)) + (1 : Int32))), .unset, .unset, .unset, .unset, .unset, .unset, .unset, .unset, .unset]) (rest := []) (hb hby at_12)
  obtain ⟨b1, gz_b1⟩ : ∃ z, z = h0.size := ⟨_, rfl⟩
  rw [← gz_b1] at A1 st1
  have g_b1 : n0 ≤ b1 := Nat.le_trans (Nat.le_trans (Nat.le_of_eq O0.1.symm) O0.2.1) (Nat.le_of_eq gz_b1.symm)
  have sz_b1 : h0.size ≤ b1 := Nat.le_trans (Keep.refl h0 []).1 (Nat.le_of_eq gz_b1.symm)
  have hk1 := Nat.le_trans hk0 E1.1
  have K1 : Keep h0 h1 [] := (Keep.refl h0 []).ext E1
  have O1 : Old Z n0 h1 := O0.ext E1
  have V1 : Oar Z h1 b1 k1 .byte [(.int (0 : Int32)), (.int (0 : Int32)), (.int (0 : Int32)), (.int (0 : Int32)), (.int (0 : Int32)), (.int (0 : Int32)), (.int (0 : Int32)), (.int (0 : Int32)), (.int (0 : Int32)), (.int (0 : Int32)), (.int (0 : Int32))] := A1
  refine OFin.st st1 ?_
  show OFin p e below _ _ T1 (mkF m 14 #[.val (.long q0), .second, .val (.int p1), .val (.int (((p1 &&& (2147483647 : Int32)) % (10 : Int32)) + (1 : Int32))), .unset, .unset, .unset, .unset, .unset, .unset, .unset, .unset, .unset] [(.ref b1)])
  refine OFin.st (fun t k => XS.astore X1.here hx rfl (hb hby at_14) rfl rfl (l' := #[.val (.long q0), .second, .val (.int p1), .val (.int (((p1 &&& (2147483647 : Int32)) % (10 : Int32)) + (1 : Int32))), .val (.ref b1), .unset, .unset, .unset, .unset, .unset, .unset, .unset, .unset]) rfl k) ?_
  show OFin p e below _ _ T1 (mkF m 16 #[.val (.long q0), .second, .val (.int p1), .val (.int (((p1 &&& (2147483647 : Int32)) % (10 : Int32)) + (1 : Int32))), .val (.ref b1), .unset, .unset, .unset, .unset, .unset, .unset, .unset, .unset] [])
  refine OFin.st (fun t k => XS.aload X1.here hx rfl (hb hby at_16) rfl rfl k) ?_
  show OFin p e below _ _ T1 (mkF m 18 #[.val (.long q0), .second, .val (.int p1), .val (.int (((p1 &&& (2147483647 : Int32)) % (10 : Int32)) + (1 : Int32))), .val (.ref b1), .unset, .unset, .unset, .unset, .unset, .unset, .unset, .unset] [(.ref b1)])
  refine OFin.st (fun t k => XS.iconst X1.here hx rfl (hb hby at_18) k) ?_
  show OFin p e below _ _ T1 (mkF m 19 #[.val (.long q0), .second, .val (.int p1), .val (.int (((p1 &&& (2147483647 : Int32)) % (10 : Int32)) + (1 : Int32))), .val (.ref b1), .unset, .unset, .unset, .unset, .unset, .unset, .unset, .unset] [(.int (0 : Int32)), (.ref b1)])
  refine OFin.st (fun t k => XS.bipush X1.here hx rfl (hb hby at_19) k) ?_
  show OFin p e below _ _ T1 (mkF m 21 #[.val (.long q0), .second, .val (.int p1), .val (.int (((p1 &&& (2147483647 : Int32)) % (10 : Int32)) + (1 : Int32))), .val (.ref b1), .unset, .unset, .unset, .unset, .unset, .unset, .unset, .unset] [(.int (8 : Int32)), (.int (0 : Int32)), (.ref b1)])
  obtain ⟨T2, h2, X2, e2, W2, V2, st2⟩ := own_bastore X1 hx hZ e1 V1 (i := 0) (j := (0 : Int32)) (by decide) (by show 0 < 11; decide) (x := (8 : Int32)) (y := (8 : Int32)) (by decide) (pc := 21) (Ls := #[.val (.long q0), .second, .val (.int p1), .val (.int (((p1 &&& (2147483647 : Int32)) % (10 : Int32)) + (1 : Int32))), .val (.ref b1), .unset, .unset, .unset, .unset, .unset, .unset, .unset, .unset]) (rest := []) (hb hby at_21)
  have N2 := Fr.snoc X2 N0 g_b1
  have hk2 := Nat.le_trans hk1 (Nat.le_of_eq W2.size.symm)
  have K2 : Keep h0 h2 [] := K1.wr W2 (Or.inr sz_b1)
  have O2 : Old Z n0 h2 := O1.wr W2 g_b1
  have Vw2 : Oar Z h2 b1 k1 .byte [(.int (8 : Int32)), (.int (0 : Int32)), (.int (0 : Int32)), (.int (0 : Int32)), (.int (0 : Int32)), (.int (0 : Int32)), (.int (0 : Int32)), (.int (0 : Int32)), (.int (0 : Int32)), (.int (0 : Int32)), (.int (0 : Int32))] := V2
  refine OFin.st st2 ?_
  show OFin p e below _ _ T2 (mkF m 22 #[.val (.long q0), .second, .val (.int p1), .val (.int (((p1 &&& (2147483647 : Int32)) % (10 : Int32)) + (1 : Int32))), .val (.ref b1), .unset, .unset, .unset, .unset, .unset, .unset, .unset, .unset] [])
  refine OFin.st (fun t k => XS.aload X2.here hx rfl (hb hby at_22) rfl rfl k) ?_
  show OFin p e below _ _ T2 (mkF m 24 #[.val (.long q0), .second, .val (.int p1), .val (.int (((p1 &&& (2147483647 : Int32)) % (10 : Int32)) + (1 : Int32))), .val (.ref b1), .unset, .unset, .unset, .unset, .unset, .unset, .unset, .unset] [(.ref b1)])
  refine OFin.st (fun t k => XS.iconst X2.here hx rfl (hb hby at_24) k) ?_
  show OFin p e below _ _ T2 (mkF m 25 #[.val (.long q0), .second, .val (.int p1), .val (.int (((p1 &&& (2147483647 : Int32)) % (10 : Int32)) + (1 : Int32))), .val (.ref b1), .unset, .unset, .unset, .unset, .unset, .unset, .unset, .unset] [(.int (1 : Int32)), (.ref b1)])
  refine OFin.st (fun t k => XS.lloadN X2.here hx rfl (hb hby at_25) rfl k) ?_
  show OFin p e below _ _ T2 (mkF m 26 #[.val (.long q0), .second, .val (.int p1), .val (.int (((p1 &&& (2147483647 : Int32)) % (10 : Int32)) + (1 : Int32))), .val (.ref b1), .unset, .unset, .unset, .unset, .unset, .unset, .unset, .unset] [(.long q0), (.int (1 : Int32)), (.ref b1)])
  refine OFin.st (fun t k => XS.iconst X2.here hx rfl (hb hby at_26) k) ?_
  show OFin p e below _ _ T2 (mkF m 27 #[.val (.long q0), .second, .val (.int p1), .val (.int (((p1 &&& (2147483647 : Int32)) % (10 : Int32)) + (1 : Int32))), .val (.ref b1), .unset, .unset, .unset, .unset, .unset, .unset, .unset, .unset] [(.int (0 : Int32)), (.long q0), (.int (1 : Int32)), (.ref b1)])
  refine OFin.st (fun t k => XS.iloadN X2.here hx rfl (hb hby at_27) rfl k) ?_
  show OFin p e below _ _ T2 (mkF m 28 #[.val (.long q0), .second, .val (.int p1), .val (.int (((p1 &&& (2147483647 : Int32)) % (10 : Int32)) + (1 : Int32))), .val (.ref b1), .unset, .unset, .unset, .unset, .unset, .unset, .unset, .unset] [(.int (((p1 &&& (2147483647 : Int32)) % (10 : Int32)) + (1 : Int32))), (.int (0 : Int32)), (.long q0), (.int (1 : Int32)), (.ref b1)])
  obtain ⟨Lg3, Xg3, Ng3⟩ : ∃ L, Stand p l e room_1 (s.setVm s.vm) m #[(.long q0), (.int p1)] below meth c T2 L 1 11 ∧ Fr n0 L := ⟨_, X2, N2⟩
  obtain ⟨_, _, ⟨T4, L4, k4, n4⟩, -, X4, ⟨Lc4, hQ4, l4, y4, z4⟩, st4⟩ := Jvm.LawKit.callS Xg3 hx (y := (⟨"com/example/fillwire/fillwire/codec/ProtoReaderSint32PinLaw", "at", "(JII)B"⟩ : MethodName)) hown (mvT hZ (hw _ (List.mem_of_getElem? (i := 2) rfl))) (mvT hZ (hw _ (List.mem_of_getElem? (i := 3) rfl))) (mvT hZ (hw _ (List.mem_of_getElem? (i := 4) rfl))) (mvT hZ (hw _ (List.mem_of_getElem? (i := 5) rfl))) (by decide) (backOf (W := 2) (rm1 l Z a0 hw [] q0 (0 : Int32) (((p1 &&& (2147483647 : Int32)) % (10 : Int32)) + (1 : Int32)) h2 n0 O2 ) hZ (hw _ (List.mem_of_getElem? (i := 5) rfl)) (hw _ (List.mem_of_getElem? (i := 4) rfl)) (by decide) (by decide)) (g := (mkF m 28 #[.val (.long q0), .second, .val (.int p1), .val (.int (((p1 &&& (2147483647 : Int32)) % (10 : Int32)) + (1 : Int32))), .val (.ref b1), .unset, .unset, .unset, .unset, .unset, .unset, .unset, .unset] [(.int (((p1 &&& (2147483647 : Int32)) % (10 : Int32)) + (1 : Int32))), (.int (0 : Int32)), (.long q0), (.int (1 : Int32)), (.ref b1)])) rfl (by rw [hml]; rfl) (argsL := [(.long q0), (.int (0 : Int32)), (.int (((p1 &&& (2147483647 : Int32)) % (10 : Int32)) + (1 : Int32)))]) (rest := [(.int (1 : Int32)), (.ref b1)]) (lenOf pd_5 rfl) rfl (by show 2 * 0 + _ ≤ _; exact Nat.le_of_eq rfl) (hb hby at_28) (fun _ _ => ⟨rfl, e2, (by decide : 1 + 0 ≤ _), (by decide : 11 + 0 ≤ _)⟩)
  dsimp only [Pt.U, Pt.locs, Pt.cells, Pt.slots] at X4 l4 y4 z4 st4 hQ4
  subst l4 y4 z4
  have X4 : Stand p l e room_1 (s.setVm s.vm) m #[(.long q0), (.int p1)] below meth c T4 _ 1 11 := X4
  obtain ⟨rfl, N4q, e4⟩ := hQ4
  have N4 := Fr.app Ng3 N4q
  refine OFin.st st4 ?_
  show OFin p e below _ _ T4 (mkF m 31 #[.val (.long q0), .second, .val (.int p1), .val (.int (((p1 &&& (2147483647 : Int32)) % (10 : Int32)) + (1 : Int32))), .val (.ref b1), .unset, .unset, .unset, .unset, .unset, .unset, .unset, .unset] [(.int (F1 q0 (0 : Int32) (((p1 &&& (2147483647 : Int32)) % (10 : Int32)) + (1 : Int32)))), (.int (1 : Int32)), (.ref b1)])
  obtain ⟨T5, h5, X5, e5, W5, V5, st5⟩ := own_bastore X4 hx hZ e4 Vw2 (i := 1) (j := (1 : Int32)) (by decide) (by show 1 < 11; decide) (x := (F1 q0 (0 : Int32) (((p1 &&& (2147483647 : Int32)) % (10 : Int32)) + (1 : Int32)))) (y := (F1 q0 (0 : Int32) (((p1 &&& (2147483647 : Int32)) % (10 : Int32)) + (1 : Int32)))) (own_F1b _ _ _) (pc := 31) (Ls := #[.val (.long q0), .second, .val (.int p1), .val (.int (((p1 &&& (2147483647 : Int32)) % (10 : Int32)) + (1 : Int32))), .val (.ref b1), .unset, .unset, .unset, .unset, .unset, .unset, .unset, .unset]) (rest := []) (hb hby at_31)
  have N5 := Fr.snoc X5 N4 g_b1
  have hk5 := Nat.le_trans hk2 (Nat.le_of_eq W5.size.symm)
  have K5 : Keep h0 h5 [] := K2.wr W5 (Or.inr sz_b1)
  have O5 : Old Z n0 h5 := O2.wr W5 g_b1
  have Vw5 : Oar Z h5 b1 k1 .byte [(.int (8 : Int32)), (.int (F1 q0 (0 : Int32) (((p1 &&& (2147483647 : Int32)) % (10 : Int32)) + (1 : Int32)))), (.int (0 : Int32)), (.int (0 : Int32)), (.int (0 : Int32)), (.int (0 : Int32)), (.int (0 : Int32)), (.int (0 : Int32)), (.int (0 : Int32)), (.int (0 : Int32)), (.int (0 : Int32))] := V5
  refine OFin.st st5 ?_
  show OFin p e below _ _ T5 (mkF m 32 #[.val (.long q0), .second, .val (.int p1), .val (.int (((p1 &&& (2147483647 : Int32)) % (10 : Int32)) + (1 : Int32))), .val (.ref b1), .unset, .unset, .unset, .unset, .unset, .unset, .unset, .unset] [])
  refine OFin.st (fun t k => XS.aload X5.here hx rfl (hb hby at_32) rfl rfl k) ?_
  show OFin p e below _ _ T5 (mkF m 34 #[.val (.long q0), .second, .val (.int p1), .val (.int (((p1 &&& (2147483647 : Int32)) % (10 : Int32)) + (1 : Int32))), .val (.ref b1), .unset, .unset, .unset, .unset, .unset, .unset, .unset, .unset] [(.ref b1)])
  refine OFin.st (fun t k => XS.iconst X5.here hx rfl (hb hby at_34) k) ?_
  show OFin p e below _ _ T5 (mkF m 35 #[.val (.long q0), .second, .val (.int p1), .val (.int (((p1 &&& (2147483647 : Int32)) % (10 : Int32)) + (1 : Int32))), .val (.ref b1), .unset, .unset, .unset, .unset, .unset, .unset, .unset, .unset] [(.int (2 : Int32)), (.ref b1)])
  refine OFin.st (fun t k => XS.lloadN X5.here hx rfl (hb hby at_35) rfl k) ?_
  show OFin p e below _ _ T5 (mkF m 36 #[.val (.long q0), .second, .val (.int p1), .val (.int (((p1 &&& (2147483647 : Int32)) % (10 : Int32)) + (1 : Int32))), .val (.ref b1), .unset, .unset, .unset, .unset, .unset, .unset, .unset, .unset] [(.long q0), (.int (2 : Int32)), (.ref b1)])
  refine OFin.st (fun t k => XS.iconst X5.here hx rfl (hb hby at_36) k) ?_
  show OFin p e below _ _ T5 (mkF m 37 #[.val (.long q0), .second, .val (.int p1), .val (.int (((p1 &&& (2147483647 : Int32)) % (10 : Int32)) + (1 : Int32))), .val (.ref b1), .unset, .unset, .unset, .unset, .unset, .unset, .unset, .unset] [(.int (1 : Int32)), (.long q0), (.int (2 : Int32)), (.ref b1)])
  refine OFin.st (fun t k => XS.iloadN X5.here hx rfl (hb hby at_37) rfl k) ?_
  show OFin p e below _ _ T5 (mkF m 38 #[.val (.long q0), .second, .val (.int p1), .val (.int (((p1 &&& (2147483647 : Int32)) % (10 : Int32)) + (1 : Int32))), .val (.ref b1), .unset, .unset, .unset, .unset, .unset, .unset, .unset, .unset] [(.int (((p1 &&& (2147483647 : Int32)) % (10 : Int32)) + (1 : Int32))), (.int (1 : Int32)), (.long q0), (.int (2 : Int32)), (.ref b1)])
  obtain ⟨Lg6, Xg6, Ng6⟩ : ∃ L, Stand p l e room_1 (s.setVm s.vm) m #[(.long q0), (.int p1)] below meth c T5 L 1 11 ∧ Fr n0 L := ⟨_, X5, N5⟩
  obtain ⟨_, _, ⟨T7, L7, k7, n7⟩, -, X7, ⟨Lc7, hQ7, l7, y7, z7⟩, st7⟩ := Jvm.LawKit.callS Xg6 hx (y := (⟨"com/example/fillwire/fillwire/codec/ProtoReaderSint32PinLaw", "at", "(JII)B"⟩ : MethodName)) hown (mvT hZ (hw _ (List.mem_of_getElem? (i := 2) rfl))) (mvT hZ (hw _ (List.mem_of_getElem? (i := 3) rfl))) (mvT hZ (hw _ (List.mem_of_getElem? (i := 4) rfl))) (mvT hZ (hw _ (List.mem_of_getElem? (i := 5) rfl))) (by decide) (backOf (W := 2) (rm1 l Z a0 hw [] q0 (1 : Int32) (((p1 &&& (2147483647 : Int32)) % (10 : Int32)) + (1 : Int32)) h5 n0 O5 ) hZ (hw _ (List.mem_of_getElem? (i := 5) rfl)) (hw _ (List.mem_of_getElem? (i := 4) rfl)) (by decide) (by decide)) (g := (mkF m 38 #[.val (.long q0), .second, .val (.int p1), .val (.int (((p1 &&& (2147483647 : Int32)) % (10 : Int32)) + (1 : Int32))), .val (.ref b1), .unset, .unset, .unset, .unset, .unset, .unset, .unset, .unset] [(.int (((p1 &&& (2147483647 : Int32)) % (10 : Int32)) + (1 : Int32))), (.int (1 : Int32)), (.long q0), (.int (2 : Int32)), (.ref b1)])) rfl (by rw [hml]; rfl) (argsL := [(.long q0), (.int (1 : Int32)), (.int (((p1 &&& (2147483647 : Int32)) % (10 : Int32)) + (1 : Int32)))]) (rest := [(.int (2 : Int32)), (.ref b1)]) (lenOf pd_5 rfl) rfl (by show 2 * 0 + _ ≤ _; exact Nat.le_of_eq rfl) (hb hby at_38) (fun _ _ => ⟨rfl, e5, (by decide : 1 + 0 ≤ _), (by decide : 11 + 0 ≤ _)⟩)
  dsimp only [Pt.U, Pt.locs, Pt.cells, Pt.slots] at X7 l7 y7 z7 st7 hQ7
  subst l7 y7 z7
  have X7 : Stand p l e room_1 (s.setVm s.vm) m #[(.long q0), (.int p1)] below meth c T7 _ 1 11 := X7
  obtain ⟨rfl, N7q, e7⟩ := hQ7
  have N7 := Fr.app Ng6 N7q
  refine OFin.st st7 ?_
  show OFin p e below _ _ T7 (mkF m 41 #[.val (.long q0), .second, .val (.int p1), .val (.int (((p1 &&& (2147483647 : Int32)) % (10 : Int32)) + (1 : Int32))), .val (.ref b1), .unset, .unset, .unset, .unset, .unset, .unset, .unset, .unset] [(.int (F1 q0 (1 : Int32) (((p1 &&& (2147483647 : Int32)) % (10 : Int32)) + (1 : Int32)))), (.int (2 : Int32)), (.ref b1)])
  obtain ⟨T8, h8, X8, e8, W8, V8, st8⟩ := own_bastore X7 hx hZ e7 Vw5 (i := 2) (j := (2 : Int32)) (by decide) (by show 2 < 11; decide) (x := (F1 q0 (1 : Int32) (((p1 &&& (2147483647 : Int32)) % (10 : Int32)) + (1 : Int32)))) (y := (F1 q0 (1 : Int32) (((p1 &&& (2147483647 : Int32)) % (10 : Int32)) + (1 : Int32)))) (own_F1b _ _ _) (pc := 41) (Ls := #[.val (.long q0), .second, .val (.int p1), .val (.int (((p1 &&& (2147483647 : Int32)) % (10 : Int32)) + (1 : Int32))), .val (.ref b1), .unset, .unset, .unset, .unset, .unset, .unset, .unset, .unset]) (rest := []) (hb hby at_41)
  have N8 := Fr.snoc X8 N7 g_b1
  have hk8 := Nat.le_trans hk5 (Nat.le_of_eq W8.size.symm)
  have K8 : Keep h0 h8 [] := K5.wr W8 (Or.inr sz_b1)
  have O8 : Old Z n0 h8 := O5.wr W8 g_b1
  have Vw8 : Oar Z h8 b1 k1 .byte [(.int (8 : Int32)), (.int (F1 q0 (0 : Int32) (((p1 &&& (2147483647 : Int32)) % (10 : Int32)) + (1 : Int32)))), (.int (F1 q0 (1 : Int32) (((p1 &&& (2147483647 : Int32)) % (10 : Int32)) + (1 : Int32)))), (.int (0 : Int32)), (.int (0 : Int32)), (.int (0 : Int32)), (.int (0 : Int32)), (.int (0 : Int32)), (.int (0 : Int32)), (.int (0 : Int32)), (.int (0 : Int32))] := V8
  refine OFin.st st8 ?_
  show OFin p e below _ _ T8 (mkF m 42 #[.val (.long q0), .second, .val (.int p1), .val (.int (((p1 &&& (2147483647 : Int32)) % (10 : Int32)) + (1 : Int32))), .val (.ref b1), .unset, .unset, .unset, .unset, .unset, .unset, .unset, .unset] [])
  refine OFin.st (fun t k => XS.aload X8.here hx rfl (hb hby at_42) rfl rfl k) ?_
  show OFin p e below _ _ T8 (mkF m 44 #[.val (.long q0), .second, .val (.int p1), .val (.int (((p1 &&& (2147483647 : Int32)) % (10 : Int32)) + (1 : Int32))), .val (.ref b1), .unset, .unset, .unset, .unset, .unset, .unset, .unset, .unset] [(.ref b1)])
  refine OFin.st (fun t k => XS.iconst X8.here hx rfl (hb hby at_44) k) ?_
  show OFin p e below _ _ T8 (mkF m 45 #[.val (.long q0), .second, .val (.int p1), .val (.int (((p1 &&& (2147483647 : Int32)) % (10 : Int32)) + (1 : Int32))), .val (.ref b1), .unset, .unset, .unset, .unset, .unset, .unset, .unset, .unset] [(.int (3 : Int32)), (.ref b1)])
  refine OFin.st (fun t k => XS.lloadN X8.here hx rfl (hb hby at_45) rfl k) ?_
  show OFin p e below _ _ T8 (mkF m 46 #[.val (.long q0), .second, .val (.int p1), .val (.int (((p1 &&& (2147483647 : Int32)) % (10 : Int32)) + (1 : Int32))), .val (.ref b1), .unset, .unset, .unset, .unset, .unset, .unset, .unset, .unset] [(.long q0), (.int (3 : Int32)), (.ref b1)])
  refine OFin.st (fun t k => XS.iconst X8.here hx rfl (hb hby at_46) k) ?_
  show OFin p e below _ _ T8 (mkF m 47 #[.val (.long q0), .second, .val (.int p1), .val (.int (((p1 &&& (2147483647 : Int32)) % (10 : Int32)) + (1 : Int32))), .val (.ref b1), .unset, .unset, .unset, .unset, .unset, .unset, .unset, .unset] [(.int (2 : Int32)), (.long q0), (.int (3 : Int32)), (.ref b1)])
  refine OFin.st (fun t k => XS.iloadN X8.here hx rfl (hb hby at_47) rfl k) ?_
  show OFin p e below _ _ T8 (mkF m 48 #[.val (.long q0), .second, .val (.int p1), .val (.int (((p1 &&& (2147483647 : Int32)) % (10 : Int32)) + (1 : Int32))), .val (.ref b1), .unset, .unset, .unset, .unset, .unset, .unset, .unset, .unset] [(.int (((p1 &&& (2147483647 : Int32)) % (10 : Int32)) + (1 : Int32))), (.int (2 : Int32)), (.long q0), (.int (3 : Int32)), (.ref b1)])
  obtain ⟨Lg9, Xg9, Ng9⟩ : ∃ L, Stand p l e room_1 (s.setVm s.vm) m #[(.long q0), (.int p1)] below meth c T8 L 1 11 ∧ Fr n0 L := ⟨_, X8, N8⟩
  obtain ⟨_, _, ⟨T10, L10, k10, n10⟩, -, X10, ⟨Lc10, hQ10, l10, y10, z10⟩, st10⟩ := Jvm.LawKit.callS Xg9 hx (y := (⟨"com/example/fillwire/fillwire/codec/ProtoReaderSint32PinLaw", "at", "(JII)B"⟩ : MethodName)) hown (mvT hZ (hw _ (List.mem_of_getElem? (i := 2) rfl))) (mvT hZ (hw _ (List.mem_of_getElem? (i := 3) rfl))) (mvT hZ (hw _ (List.mem_of_getElem? (i := 4) rfl))) (mvT hZ (hw _ (List.mem_of_getElem? (i := 5) rfl))) (by decide) (backOf (W := 2) (rm1 l Z a0 hw [] q0 (2 : Int32) (((p1 &&& (2147483647 : Int32)) % (10 : Int32)) + (1 : Int32)) h8 n0 O8 ) hZ (hw _ (List.mem_of_getElem? (i := 5) rfl)) (hw _ (List.mem_of_getElem? (i := 4) rfl)) (by decide) (by decide)) (g := (mkF m 48 #[.val (.long q0), .second, .val (.int p1), .val (.int (((p1 &&& (2147483647 : Int32)) % (10 : Int32)) + (1 : Int32))), .val (.ref b1), .unset, .unset, .unset, .unset, .unset, .unset, .unset, .unset] [(.int (((p1 &&& (2147483647 : Int32)) % (10 : Int32)) + (1 : Int32))), (.int (2 : Int32)), (.long q0), (.int (3 : Int32)), (.ref b1)])) rfl (by rw [hml]; rfl) (argsL := [(.long q0), (.int (2 : Int32)), (.int (((p1 &&& (2147483647 : Int32)) % (10 : Int32)) + (1 : Int32)))]) (rest := [(.int (3 : Int32)), (.ref b1)]) (lenOf pd_5 rfl) rfl (by show 2 * 0 + _ ≤ _; exact Nat.le_of_eq rfl) (hb hby at_48) (fun _ _ => ⟨rfl, e8, (by decide : 1 + 0 ≤ _), (by decide : 11 + 0 ≤ _)⟩)
  dsimp only [Pt.U, Pt.locs, Pt.cells, Pt.slots] at X10 l10 y10 z10 st10 hQ10
  subst l10 y10 z10
  have X10 : Stand p l e room_1 (s.setVm s.vm) m #[(.long q0), (.int p1)] below meth c T10 _ 1 11 := X10
  obtain ⟨rfl, N10q, e10⟩ := hQ10
  have N10 := Fr.app Ng9 N10q
  refine OFin.st st10 ?_
  show OFin p e below _ _ T10 (mkF m 51 #[.val (.long q0), .second, .val (.int p1), .val (.int (((p1 &&& (2147483647 : Int32)) % (10 : Int32)) + (1 : Int32))), .val (.ref b1), .unset, .unset, .unset, .unset, .unset, .unset, .unset, .unset] [(.int (F1 q0 (2 : Int32) (((p1 &&& (2147483647 : Int32)) % (10 : Int32)) + (1 : Int32)))), (.int (3 : Int32)), (.ref b1)])
  obtain ⟨T11, h11, X11, e11, W11, V11, st11⟩ := own_bastore X10 hx hZ e10 Vw8 (i := 3) (j := (3 : Int32)) (by decide) (by show 3 < 11; decide) (x := (F1 q0 (2 : Int32) (((p1 &&& (2147483647 : Int32)) % (10 : Int32)) + (1 : Int32)))) (y := (F1 q0 (2 : Int32) (((p1 &&& (2147483647 : Int32)) % (10 : Int32)) + (1 : Int32)))) (own_F1b _ _ _) (pc := 51) (Ls := #[.val (.long q0), .second, .val (.int p1), .val (.int (((p1 &&& (2147483647 : Int32)) % (10 : Int32)) + (1 : Int32))), .val (.ref b1), .unset, .unset, .unset, .unset, .unset, .unset, .unset, .unset]) (rest := []) (hb hby at_51)
  have N11 := Fr.snoc X11 N10 g_b1
  have hk11 := Nat.le_trans hk8 (Nat.le_of_eq W11.size.symm)
  have K11 : Keep h0 h11 [] := K8.wr W11 (Or.inr sz_b1)
  have O11 : Old Z n0 h11 := O8.wr W11 g_b1
  have Vw11 : Oar Z h11 b1 k1 .byte [(.int (8 : Int32)), (.int (F1 q0 (0 : Int32) (((p1 &&& (2147483647 : Int32)) % (10 : Int32)) + (1 : Int32)))), (.int (F1 q0 (1 : Int32) (((p1 &&& (2147483647 : Int32)) % (10 : Int32)) + (1 : Int32)))), (.int (F1 q0 (2 : Int32) (((p1 &&& (2147483647 : Int32)) % (10 : Int32)) + (1 : Int32)))), (.int (0 : Int32)), (.int (0 : Int32)), (.int (0 : Int32)), (.int (0 : Int32)), (.int (0 : Int32)), (.int (0 : Int32)), (.int (0 : Int32))] := V11
  refine OFin.st st11 ?_
  show OFin p e below _ _ T11 (mkF m 52 #[.val (.long q0), .second, .val (.int p1), .val (.int (((p1 &&& (2147483647 : Int32)) % (10 : Int32)) + (1 : Int32))), .val (.ref b1), .unset, .unset, .unset, .unset, .unset, .unset, .unset, .unset] [])
  refine OFin.st (fun t k => XS.aload X11.here hx rfl (hb hby at_52) rfl rfl k) ?_
  show OFin p e below _ _ T11 (mkF m 54 #[.val (.long q0), .second, .val (.int p1), .val (.int (((p1 &&& (2147483647 : Int32)) % (10 : Int32)) + (1 : Int32))), .val (.ref b1), .unset, .unset, .unset, .unset, .unset, .unset, .unset, .unset] [(.ref b1)])
  refine OFin.st (fun t k => XS.iconst X11.here hx rfl (hb hby at_54) k) ?_
  show OFin p e below _ _ T11 (mkF m 55 #[.val (.long q0), .second, .val (.int p1), .val (.int (((p1 &&& (2147483647 : Int32)) % (10 : Int32)) + (1 : Int32))), .val (.ref b1), .unset, .unset, .unset, .unset, .unset, .unset, .unset, .unset] [(.int (4 : Int32)), (.ref b1)])
  refine OFin.st (fun t k => XS.lloadN X11.here hx rfl (hb hby at_55) rfl k) ?_
  show OFin p e below _ _ T11 (mkF m 56 #[.val (.long q0), .second, .val (.int p1), .val (.int (((p1 &&& (2147483647 : Int32)) % (10 : Int32)) + (1 : Int32))), .val (.ref b1), .unset, .unset, .unset, .unset, .unset, .unset, .unset, .unset] [(.long q0), (.int (4 : Int32)), (.ref b1)])
  refine OFin.st (fun t k => XS.iconst X11.here hx rfl (hb hby at_56) k) ?_
  show OFin p e below _ _ T11 (mkF m 57 #[.val (.long q0), .second, .val (.int p1), .val (.int (((p1 &&& (2147483647 : Int32)) % (10 : Int32)) + (1 : Int32))), .val (.ref b1), .unset, .unset, .unset, .unset, .unset, .unset, .unset, .unset] [(.int (3 : Int32)), (.long q0), (.int (4 : Int32)), (.ref b1)])
  refine OFin.st (fun t k => XS.iloadN X11.here hx rfl (hb hby at_57) rfl k) ?_
  show OFin p e below _ _ T11 (mkF m 58 #[.val (.long q0), .second, .val (.int p1), .val (.int (((p1 &&& (2147483647 : Int32)) % (10 : Int32)) + (1 : Int32))), .val (.ref b1), .unset, .unset, .unset, .unset, .unset, .unset, .unset, .unset] [(.int (((p1 &&& (2147483647 : Int32)) % (10 : Int32)) + (1 : Int32))), (.int (3 : Int32)), (.long q0), (.int (4 : Int32)), (.ref b1)])
  obtain ⟨Lg12, Xg12, Ng12⟩ : ∃ L, Stand p l e room_1 (s.setVm s.vm) m #[(.long q0), (.int p1)] below meth c T11 L 1 11 ∧ Fr n0 L := ⟨_, X11, N11⟩
  obtain ⟨_, _, ⟨T13, L13, k13, n13⟩, -, X13, ⟨Lc13, hQ13, l13, y13, z13⟩, st13⟩ := Jvm.LawKit.callS Xg12 hx (y := (⟨"com/example/fillwire/fillwire/codec/ProtoReaderSint32PinLaw", "at", "(JII)B"⟩ : MethodName)) hown (mvT hZ (hw _ (List.mem_of_getElem? (i := 2) rfl))) (mvT hZ (hw _ (List.mem_of_getElem? (i := 3) rfl))) (mvT hZ (hw _ (List.mem_of_getElem? (i := 4) rfl))) (mvT hZ (hw _ (List.mem_of_getElem? (i := 5) rfl))) (by decide) (backOf (W := 2) (rm1 l Z a0 hw [] q0 (3 : Int32) (((p1 &&& (2147483647 : Int32)) % (10 : Int32)) + (1 : Int32)) h11 n0 O11 ) hZ (hw _ (List.mem_of_getElem? (i := 5) rfl)) (hw _ (List.mem_of_getElem? (i := 4) rfl)) (by decide) (by decide)) (g := (mkF m 58 #[.val (.long q0), .second, .val (.int p1), .val (.int (((p1 &&& (2147483647 : Int32)) % (10 : Int32)) + (1 : Int32))), .val (.ref b1), .unset, .unset, .unset, .unset, .unset, .unset, .unset, .unset] [(.int (((p1 &&& (2147483647 : Int32)) % (10 : Int32)) + (1 : Int32))), (.int (3 : Int32)), (.long q0), (.int (4 : Int32)), (.ref b1)])) rfl (by rw [hml]; rfl) (argsL := [(.long q0), (.int (3 : Int32)), (.int (((p1 &&& (2147483647 : Int32)) % (10 : Int32)) + (1 : Int32)))]) (rest := [(.int (4 : Int32)), (.ref b1)]) (lenOf pd_5 rfl) rfl (by show 2 * 0 + _ ≤ _; exact Nat.le_of_eq rfl) (hb hby at_58) (fun _ _ => ⟨rfl, e11, (by decide : 1 + 0 ≤ _), (by decide : 11 + 0 ≤ _)⟩)
  dsimp only [Pt.U, Pt.locs, Pt.cells, Pt.slots] at X13 l13 y13 z13 st13 hQ13
  subst l13 y13 z13
  have X13 : Stand p l e room_1 (s.setVm s.vm) m #[(.long q0), (.int p1)] below meth c T13 _ 1 11 := X13
  obtain ⟨rfl, N13q, e13⟩ := hQ13
  have N13 := Fr.app Ng12 N13q
  refine OFin.st st13 ?_
  show OFin p e below _ _ T13 (mkF m 61 #[.val (.long q0), .second, .val (.int p1), .val (.int (((p1 &&& (2147483647 : Int32)) % (10 : Int32)) + (1 : Int32))), .val (.ref b1), .unset, .unset, .unset, .unset, .unset, .unset, .unset, .unset] [(.int (F1 q0 (3 : Int32) (((p1 &&& (2147483647 : Int32)) % (10 : Int32)) + (1 : Int32)))), (.int (4 : Int32)), (.ref b1)])
  obtain ⟨T14, h14, X14, e14, W14, V14, st14⟩ := own_bastore X13 hx hZ e13 Vw11 (i := 4) (j := (4 : Int32)) (by decide) (by show 4 < 11; decide) (x := (F1 q0 (3 : Int32) (((p1 &&& (2147483647 : Int32)) % (10 : Int32)) + (1 : Int32)))) (y := (F1 q0 (3 : Int32) (((p1 &&& (2147483647 : Int32)) % (10 : Int32)) + (1 : Int32)))) (own_F1b _ _ _) (pc := 61) (Ls := #[.val (.long q0), .second, .val (.int p1), .val (.int (((p1 &&& (2147483647 : Int32)) % (10 : Int32)) + (1 : Int32))), .val (.ref b1), .unset, .unset, .unset, .unset, .unset, .unset, .unset, .unset]) (rest := []) (hb hby at_61)
  have N14 := Fr.snoc X14 N13 g_b1
  have hk14 := Nat.le_trans hk11 (Nat.le_of_eq W14.size.symm)
  have K14 : Keep h0 h14 [] := K11.wr W14 (Or.inr sz_b1)
  have O14 : Old Z n0 h14 := O11.wr W14 g_b1
  have Vw14 : Oar Z h14 b1 k1 .byte [(.int (8 : Int32)), (.int (F1 q0 (0 : Int32) (((p1 &&& (2147483647 : Int32)) % (10 : Int32)) + (1 : Int32)))), (.int (F1 q0 (1 : Int32) (((p1 &&& (2147483647 : Int32)) % (10 : Int32)) + (1 : Int32)))), (.int (F1 q0 (2 : Int32) (((p1 &&& (2147483647 : Int32)) % (10 : Int32)) + (1 : Int32)))), (.int (F1 q0 (3 : Int32) (((p1 &&& (2147483647 : Int32)) % (10 : Int32)) + (1 : Int32)))), (.int (0 : Int32)), (.int (0 : Int32)), (.int (0 : Int32)), (.int (0 : Int32)), (.int (0 : Int32)), (.int (0 : Int32))] := V14
  refine OFin.st st14 ?_
  show OFin p e below _ _ T14 (mkF m 62 #[.val (.long q0), .second, .val (.int p1), .val (.int (((p1 &&& (2147483647 : Int32)) % (10 : Int32)) + (1 : Int32))), .val (.ref b1), .unset, .unset, .unset, .unset, .unset, .unset, .unset, .unset] [])
  refine OFin.st (fun t k => XS.aload X14.here hx rfl (hb hby at_62) rfl rfl k) ?_
  show OFin p e below _ _ T14 (mkF m 64 #[.val (.long q0), .second, .val (.int p1), .val (.int (((p1 &&& (2147483647 : Int32)) % (10 : Int32)) + (1 : Int32))), .val (.ref b1), .unset, .unset, .unset, .unset, .unset, .unset, .unset, .unset] [(.ref b1)])
  refine OFin.st (fun t k => XS.iconst X14.here hx rfl (hb hby at_64) k) ?_
  show OFin p e below _ _ T14 (mkF m 65 #[.val (.long q0), .second, .val (.int p1), .val (.int (((p1 &&& (2147483647 : Int32)) % (10 : Int32)) + (1 : Int32))), .val (.ref b1), .unset, .unset, .unset, .unset, .unset, .unset, .unset, .unset] [(.int (5 : Int32)), (.ref b1)])
  refine OFin.st (fun t k => XS.lloadN X14.here hx rfl (hb hby at_65) rfl k) ?_
  show OFin p e below _ _ T14 (mkF m 66 #[.val (.long q0), .second, .val (.int p1), .val (.int (((p1 &&& (2147483647 : Int32)) % (10 : Int32)) + (1 : Int32))), .val (.ref b1), .unset, .unset, .unset, .unset, .unset, .unset, .unset, .unset] [(.long q0), (.int (5 : Int32)), (.ref b1)])
  refine OFin.st (fun t k => XS.iconst X14.here hx rfl (hb hby at_66) k) ?_
  show OFin p e below _ _ T14 (mkF m 67 #[.val (.long q0), .second, .val (.int p1), .val (.int (((p1 &&& (2147483647 : Int32)) % (10 : Int32)) + (1 : Int32))), .val (.ref b1), .unset, .unset, .unset, .unset, .unset, .unset, .unset, .unset] [(.int (4 : Int32)), (.long q0), (.int (5 : Int32)), (.ref b1)])
  refine OFin.st (fun t k => XS.iloadN X14.here hx rfl (hb hby at_67) rfl k) ?_
  show OFin p e below _ _ T14 (mkF m 68 #[.val (.long q0), .second, .val (.int p1), .val (.int (((p1 &&& (2147483647 : Int32)) % (10 : Int32)) + (1 : Int32))), .val (.ref b1), .unset, .unset, .unset, .unset, .unset, .unset, .unset, .unset] [(.int (((p1 &&& (2147483647 : Int32)) % (10 : Int32)) + (1 : Int32))), (.int (4 : Int32)), (.long q0), (.int (5 : Int32)), (.ref b1)])
  obtain ⟨Lg15, Xg15, Ng15⟩ : ∃ L, Stand p l e room_1 (s.setVm s.vm) m #[(.long q0), (.int p1)] below meth c T14 L 1 11 ∧ Fr n0 L := ⟨_, X14, N14⟩
  obtain ⟨_, _, ⟨T16, L16, k16, n16⟩, -, X16, ⟨Lc16, hQ16, l16, y16, z16⟩, st16⟩ := Jvm.LawKit.callS Xg15 hx (y := (⟨"com/example/fillwire/fillwire/codec/ProtoReaderSint32PinLaw", "at", "(JII)B"⟩ : MethodName)) hown (mvT hZ (hw _ (List.mem_of_getElem? (i := 2) rfl))) (mvT hZ (hw _ (List.mem_of_getElem? (i := 3) rfl))) (mvT hZ (hw _ (List.mem_of_getElem? (i := 4) rfl))) (mvT hZ (hw _ (List.mem_of_getElem? (i := 5) rfl))) (by decide) (backOf (W := 2) (rm1 l Z a0 hw [] q0 (4 : Int32) (((p1 &&& (2147483647 : Int32)) % (10 : Int32)) + (1 : Int32)) h14 n0 O14 ) hZ (hw _ (List.mem_of_getElem? (i := 5) rfl)) (hw _ (List.mem_of_getElem? (i := 4) rfl)) (by decide) (by decide)) (g := (mkF m 68 #[.val (.long q0), .second, .val (.int p1), .val (.int (((p1 &&& (2147483647 : Int32)) % (10 : Int32)) + (1 : Int32))), .val (.ref b1), .unset, .unset, .unset, .unset, .unset, .unset, .unset, .unset] [(.int (((p1 &&& (2147483647 : Int32)) % (10 : Int32)) + (1 : Int32))), (.int (4 : Int32)), (.long q0), (.int (5 : Int32)), (.ref b1)])) rfl (by rw [hml]; rfl) (argsL := [(.long q0), (.int (4 : Int32)), (.int (((p1 &&& (2147483647 : Int32)) % (10 : Int32)) + (1 : Int32)))]) (rest := [(.int (5 : Int32)), (.ref b1)]) (lenOf pd_5 rfl) rfl (by show 2 * 0 + _ ≤ _; exact Nat.le_of_eq rfl) (hb hby at_68) (fun _ _ => ⟨rfl, e14, (by decide : 1 + 0 ≤ _), (by decide : 11 + 0 ≤ _)⟩)
  dsimp only [Pt.U, Pt.locs, Pt.cells, Pt.slots] at X16 l16 y16 z16 st16 hQ16
  subst l16 y16 z16
  have X16 : Stand p l e room_1 (s.setVm s.vm) m #[(.long q0), (.int p1)] below meth c T16 _ 1 11 := X16
  obtain ⟨rfl, N16q, e16⟩ := hQ16
  have N16 := Fr.app Ng15 N16q
  refine OFin.st st16 ?_
  show OFin p e below _ _ T16 (mkF m 71 #[.val (.long q0), .second, .val (.int p1), .val (.int (((p1 &&& (2147483647 : Int32)) % (10 : Int32)) + (1 : Int32))), .val (.ref b1), .unset, .unset, .unset, .unset, .unset, .unset, .unset, .unset] [(.int (F1 q0 (4 : Int32) (((p1 &&& (2147483647 : Int32)) % (10 : Int32)) + (1 : Int32)))), (.int (5 : Int32)), (.ref b1)])
  obtain ⟨T17, h17, X17, e17, W17, V17, st17⟩ := own_bastore X16 hx hZ e16 Vw14 (i := 5) (j := (5 : Int32)) (by decide) (by show 5 < 11; decide) (x := (F1 q0 (4 : Int32) (((p1 &&& (2147483647 : Int32)) % (10 : Int32)) + (1 : Int32)))) (y := (F1 q0 (4 : Int32) (((p1 &&& (2147483647 : Int32)) % (10 : Int32)) + (1 : Int32)))) (own_F1b _ _ _) (pc := 71) (Ls := #[.val (.long q0), .second, .val (.int p1), .val (.int (((p1 &&& (2147483647 : Int32)) % (10 : Int32)) + (1 : Int32))), .val (.ref b1), .unset, .unset, .unset, .unset, .unset, .unset, .unset, .unset]) (rest := []) (hb hby at_71)
  have N17 := Fr.snoc X17 N16 g_b1
  have hk17 := Nat.le_trans hk14 (Nat.le_of_eq W17.size.symm)
  have K17 : Keep h0 h17 [] := K14.wr W17 (Or.inr sz_b1)
  have O17 : Old Z n0 h17 := O14.wr W17 g_b1
  have Vw17 : Oar Z h17 b1 k1 .byte [(.int (8 : Int32)), (.int (F1 q0 (0 : Int32) (((p1 &&& (2147483647 : Int32)) % (10 : Int32)) + (1 : Int32)))), (.int (F1 q0 (1 : Int32) (((p1 &&& (2147483647 : Int32)) % (10 : Int32)) + (1 : Int32)))), (.int (F1 q0 (2 : Int32) (((p1 &&& (2147483647 : Int32)) % (10 : Int32)) + (1 : Int32)))), (.int (F1 q0 (3 : Int32) (((p1 &&& (2147483647 : Int32)) % (10 : Int32)) + (1 : Int32)))), (.int (F1 q0 (4 : Int32) (((p1 &&& (2147483647 : Int32)) % (10 : Int32)) + (1 : Int32)))), (.int (0 : Int32)), (.int (0 : Int32)), (.int (0 : Int32)), (.int (0 : Int32)), (.int (0 : Int32))] := V17
  refine OFin.st st17 ?_
  show OFin p e below _ _ T17 (mkF m 72 #[.val (.long q0), .second, .val (.int p1), .val (.int (((p1 &&& (2147483647 : Int32)) % (10 : Int32)) + (1 : Int32))), .val (.ref b1), .unset, .unset, .unset, .unset, .unset, .unset, .unset, .unset] [])
  refine OFin.st (fun t k => XS.aload X17.here hx rfl (hb hby at_72) rfl rfl k) ?_
  show OFin p e below _ _ T17 (mkF m 74 #[.val (.long q0), .second, .val (.int p1), .val (.int (((p1 &&& (2147483647 : Int32)) % (10 : Int32)) + (1 : Int32))), .val (.ref b1), .unset, .unset, .unset, .unset, .unset, .unset, .unset, .unset] [(.ref b1)])
  refine OFin.st (fun t k => XS.bipush X17.here hx rfl (hb hby at_74) k) ?_
  show OFin p e below _ _ T17 (mkF m 76 #[.val (.long q0), .second, .val (.int p1), .val (.int (((p1 &&& (2147483647 : Int32)) % (10 : Int32)) + (1 : Int32))), .val (.ref b1), .unset, .unset, .unset, .unset, .unset, .unset, .unset, .unset] [(.int (6 : Int32)), (.ref b1)])
  refine OFin.st (fun t k => XS.lloadN X17.here hx rfl (hb hby at_76) rfl k) ?_
  show OFin p e below _ _ T17 (mkF m 77 #[.val (.long q0), .second, .val (.int p1), .val (.int (((p1 &&& (2147483647 : Int32)) % (10 : Int32)) + (1 : Int32))), .val (.ref b1), .unset, .unset, .unset, .unset, .unset, .unset, .unset, .unset] [(.long q0), (.int (6 : Int32)), (.ref b1)])
  refine OFin.st (fun t k => XS.iconst X17.here hx rfl (hb hby at_77) k) ?_
  show OFin p e below _ _ T17 (mkF m 78 #[.val (.long q0), .second, .val (.int p1), .val (.int (((p1 &&& (2147483647 : Int32)) % (10 : Int32)) + (1 : Int32))), .val (.ref b1), .unset, .unset, .unset, .unset, .unset, .unset, .unset, .unset] [(.int (5 : Int32)), (.long q0), (.int (6 : Int32)), (.ref b1)])
  refine OFin.st (fun t k => XS.iloadN X17.here hx rfl (hb hby at_78) rfl k) ?_
  show OFin p e below _ _ T17 (mkF m 79 #[.val (.long q0), .second, .val (.int p1), .val (.int (((p1 &&& (2147483647 : Int32)) % (10 : Int32)) + (1 : Int32))), .val (.ref b1), .unset, .unset, .unset, .unset, .unset, .unset, .unset, .unset] [(.int (((p1 &&& (2147483647 : Int32)) % (10 : Int32)) + (1 : Int32))), (.int (5 : Int32)), (.long q0), (.int (6 : Int32)), (.ref b1)])
  obtain ⟨Lg18, Xg18, Ng18⟩ : ∃ L, Stand p l e room_1 (s.setVm s.vm) m #[(.long q0), (.int p1)] below meth c T17 L 1 11 ∧ Fr n0 L := ⟨_, X17, N17⟩
  obtain ⟨_, _, ⟨T19, L19, k19, n19⟩, -, X19, ⟨Lc19, hQ19, l19, y19, z19⟩, st19⟩ := Jvm.LawKit.callS Xg18 hx (y := (⟨"com/example/fillwire/fillwire/codec/ProtoReaderSint32PinLaw", "at", "(JII)B"⟩ : MethodName)) hown (mvT hZ (hw _ (List.mem_of_getElem? (i := 2) rfl))) (mvT hZ (hw _ (List.mem_of_getElem? (i := 3) rfl))) (mvT hZ (hw _ (List.mem_of_getElem? (i := 4) rfl))) (mvT hZ (hw _ (List.mem_of_getElem? (i := 5) rfl))) (by decide) (backOf (W := 2) (rm1 l Z a0 hw [] q0 (5 : Int32) (((p1 &&& (2147483647 : Int32)) % (10 : Int32)) + (1 : Int32)) h17 n0 O17 ) hZ (hw _ (List.mem_of_getElem? (i := 5) rfl)) (hw _ (List.mem_of_getElem? (i := 4) rfl)) (by decide) (by decide)) (g := (mkF m 79 #[.val (.long q0), .second, .val (.int p1), .val (.int (((p1 &&& (2147483647 : Int32)) % (10 : Int32)) + (1 : Int32))), .val (.ref b1), .unset, .unset, .unset, .unset, .unset, .unset, .unset, .unset] [(.int (((p1 &&& (2147483647 : Int32)) % (10 : Int32)) + (1 : Int32))), (.int (5 : Int32)), (.long q0), (.int (6 : Int32)), (.ref b1)])) rfl (by rw [hml]; rfl) (argsL := [(.long q0), (.int (5 : Int32)), (.int (((p1 &&& (2147483647 : Int32)) % (10 : Int32)) + (1 : Int32)))]) (rest := [(.int (6 : Int32)), (.ref b1)]) (lenOf pd_5 rfl) rfl (by show 2 * 0 + _ ≤ _; exact Nat.le_of_eq rfl) (hb hby at_79) (fun _ _ => ⟨rfl, e17, (by decide : 1 + 0 ≤ _), (by decide : 11 + 0 ≤ _)⟩)
  dsimp only [Pt.U, Pt.locs, Pt.cells, Pt.slots] at X19 l19 y19 z19 st19 hQ19
  subst l19 y19 z19
  have X19 : Stand p l e room_1 (s.setVm s.vm) m #[(.long q0), (.int p1)] below meth c T19 _ 1 11 := X19
  obtain ⟨rfl, N19q, e19⟩ := hQ19
  have N19 := Fr.app Ng18 N19q
  refine OFin.st st19 ?_
  show OFin p e below _ _ T19 (mkF m 82 #[.val (.long q0), .second, .val (.int p1), .val (.int (((p1 &&& (2147483647 : Int32)) % (10 : Int32)) + (1 : Int32))), .val (.ref b1), .unset, .unset, .unset, .unset, .unset, .unset, .unset, .unset] [(.int (F1 q0 (5 : Int32) (((p1 &&& (2147483647 : Int32)) % (10 : Int32)) + (1 : Int32)))), (.int (6 : Int32)), (.ref b1)])
  obtain ⟨T20, h20, X20, e20, W20, V20, st20⟩ := own_bastore X19 hx hZ e19 Vw17 (i := 6) (j := (6 : Int32)) (by decide) (by show 6 < 11; decide) (x := (F1 q0 (5 : Int32) (((p1 &&& (2147483647 : Int32)) % (10 : Int32)) + (1 : Int32)))) (y := (F1 q0 (5 : Int32) (((p1 &&& (2147483647 : Int32)) % (10 : Int32)) + (1 : Int32)))) (own_F1b _ _ _) (pc := 82) (Ls := #[.val (.long q0), .second, .val (.int p1), .val (.int (((p1 &&& (2147483647 : Int32)) % (10 : Int32)) + (1 : Int32))), .val (.ref b1), .unset, .unset, .unset, .unset, .unset, .unset, .unset, .unset]) (rest := []) (hb hby at_82)
  have N20 := Fr.snoc X20 N19 g_b1
  have hk20 := Nat.le_trans hk17 (Nat.le_of_eq W20.size.symm)
  have K20 : Keep h0 h20 [] := K17.wr W20 (Or.inr sz_b1)
  have O20 : Old Z n0 h20 := O17.wr W20 g_b1
  have Vw20 : Oar Z h20 b1 k1 .byte [(.int (8 : Int32)), (.int (F1 q0 (0 : Int32) (((p1 &&& (2147483647 : Int32)) % (10 : Int32)) + (1 : Int32)))), (.int (F1 q0 (1 : Int32) (((p1 &&& (2147483647 : Int32)) % (10 : Int32)) + (1 : Int32)))), (.int (F1 q0 (2 : Int32) (((p1 &&& (2147483647 : Int32)) % (10 : Int32)) + (1 : Int32)))), (.int (F1 q0 (3 : Int32) (((p1 &&& (2147483647 : Int32)) % (10 : Int32)) + (1 : Int32)))), (.int (F1 q0 (4 : Int32) (((p1 &&& (2147483647 : Int32)) % (10 : Int32)) + (1 : Int32)))), (.int (F1 q0 (5 : Int32) (((p1 &&& (2147483647 : Int32)) % (10 : Int32)) + (1 : Int32)))), (.int (0 : Int32)), (.int (0 : Int32)), (.int (0 : Int32)), (.int (0 : Int32))] := V20
  refine OFin.st st20 ?_
  show OFin p e below _ _ T20 (mkF m 83 #[.val (.long q0), .second, .val (.int p1), .val (.int (((p1 &&& (2147483647 : Int32)) % (10 : Int32)) + (1 : Int32))), .val (.ref b1), .unset, .unset, .unset, .unset, .unset, .unset, .unset, .unset] [])
  refine OFin.st (fun t k => XS.aload X20.here hx rfl (hb hby at_83) rfl rfl k) ?_
  show OFin p e below _ _ T20 (mkF m 85 #[.val (.long q0), .second, .val (.int p1), .val (.int (((p1 &&& (2147483647 : Int32)) % (10 : Int32)) + (1 : Int32))), .val (.ref b1), .unset, .unset, .unset, .unset, .unset, .unset, .unset, .unset] [(.ref b1)])
  refine OFin.st (fun t k => XS.bipush X20.here hx rfl (hb hby at_85) k) ?_
  show OFin p e below _ _ T20 (mkF m 87 #[.val (.long q0), .second, .val (.int p1), .val (.int (((p1 &&& (2147483647 : Int32)) % (10 : Int32)) + (1 : Int32))), .val (.ref b1), .unset, .unset, .unset, .unset, .unset, .unset, .unset, .unset] [(.int (7 : Int32)), (.ref b1)])
  refine OFin.st (fun t k => XS.lloadN X20.here hx rfl (hb hby at_87) rfl k) ?_
  show OFin p e below _ _ T20 (mkF m 88 #[.val (.long q0), .second, .val (.int p1), .val (.int (((p1 &&& (2147483647 : Int32)) % (10 : Int32)) + (1 : Int32))), .val (.ref b1), .unset, .unset, .unset, .unset, .unset, .unset, .unset, .unset] [(.long q0), (.int (7 : Int32)), (.ref b1)])
  refine OFin.st (fun t k => XS.bipush X20.here hx rfl (hb hby at_88) k) ?_
  show OFin p e below _ _ T20 (mkF m 90 #[.val (.long q0), .second, .val (.int p1), .val (.int (((p1 &&& (2147483647 : Int32)) % (10 : Int32)) + (1 : Int32))), .val (.ref b1), .unset, .unset, .unset, .unset, .unset, .unset, .unset, .unset] [(.int (6 : Int32)), (.long q0), (.int (7 : Int32)), (.ref b1)])
  refine OFin.st (fun t k => XS.iloadN X20.here hx rfl (hb hby at_90) rfl k) ?_
  show OFin p e below _ _ T20 (mkF m 91 #[.val (.long q0), .second, .val (.int p1), .val (.int (((p1 &&& (2147483647 : Int32)) % (10 : Int32)) + (1 : Int32))), .val (.ref b1), .unset, .unset, .unset, .unset, .unset, .unset, .unset, .unset] [(.int (((p1 &&& (2147483647 : Int32)) % (10 : Int32)) + (1 : Int32))), (.int (6 : Int32)), (.long q0), (.int (7 : Int32)), (.ref b1)])
  obtain ⟨Lg21, Xg21, Ng21⟩ : ∃ L, Stand p l e room_1 (s.setVm s.vm) m #[(.long q0), (.int p1)] below meth c T20 L 1 11 ∧ Fr n0 L := ⟨_, X20, N20⟩
  obtain ⟨_, _, ⟨T22, L22, k22, n22⟩, -, X22, ⟨Lc22, hQ22, l22, y22, z22⟩, st22⟩ := Jvm.LawKit.callS Xg21 hx (y := (⟨"com/example/fillwire/fillwire/codec/ProtoReaderSint32PinLaw", "at", "(JII)B"⟩ : MethodName)) hown (mvT hZ (hw _ (List.mem_of_getElem? (i := 2) rfl))) (mvT hZ (hw _ (List.mem_of_getElem? (i := 3) rfl))) (mvT hZ (hw _ (List.mem_of_getElem? (i := 4) rfl))) (mvT hZ (hw _ (List.mem_of_getElem? (i := 5) rfl))) (by decide) (backOf (W := 2) (rm1 l Z a0 hw [] q0 (6 : Int32) (((p1 &&& (2147483647 : Int32)) % (10 : Int32)) + (1 : Int32)) h20 n0 O20 ) hZ (hw _ (List.mem_of_getElem? (i := 5) rfl)) (hw _ (List.mem_of_getElem? (i := 4) rfl)) (by decide) (by decide)) (g := (mkF m 91 #[.val (.long q0), .second, .val (.int p1), .val (.int (((p1 &&& (2147483647 : Int32)) % (10 : Int32)) + (1 : Int32))), .val (.ref b1), .unset, .unset, .unset, .unset, .unset, .unset, .unset, .unset] [(.int (((p1 &&& (2147483647 : Int32)) % (10 : Int32)) + (1 : Int32))), (.int (6 : Int32)), (.long q0), (.int (7 : Int32)), (.ref b1)])) rfl (by rw [hml]; rfl) (argsL := [(.long q0), (.int (6 : Int32)), (.int (((p1 &&& (2147483647 : Int32)) % (10 : Int32)) + (1 : Int32)))]) (rest := [(.int (7 : Int32)), (.ref b1)]) (lenOf pd_5 rfl) rfl (by show 2 * 0 + _ ≤ _; exact Nat.le_of_eq rfl) (hb hby at_91) (fun _ _ => ⟨rfl, e20, (by decide : 1 + 0 ≤ _), (by decide : 11 + 0 ≤ _)⟩)
  dsimp only [Pt.U, Pt.locs, Pt.cells, Pt.slots] at X22 l22 y22 z22 st22 hQ22
  subst l22 y22 z22
  have X22 : Stand p l e room_1 (s.setVm s.vm) m #[(.long q0), (.int p1)] below meth c T22 _ 1 11 := X22
  obtain ⟨rfl, N22q, e22⟩ := hQ22
  have N22 := Fr.app Ng21 N22q
  refine OFin.st st22 ?_
  show OFin p e below _ _ T22 (mkF m 94 #[.val (.long q0), .second, .val (.int p1), .val (.int (((p1 &&& (2147483647 : Int32)) % (10 : Int32)) + (1 : Int32))), .val (.ref b1), .unset, .unset, .unset, .unset, .unset, .unset, .unset, .unset] [(.int (F1 q0 (6 : Int32) (((p1 &&& (2147483647 : Int32)) % (10 : Int32)) + (1 : Int32)))), (.int (7 : Int32)), (.ref b1)])
  obtain ⟨T23, h23, X23, e23, W23, V23, st23⟩ := own_bastore X22 hx hZ e22 Vw20 (i := 7) (j := (7 : Int32)) (by decide) (by show 7 < 11; decide) (x := (F1 q0 (6 : Int32) (((p1 &&& (2147483647 : Int32)) % (10 : Int32)) + (1 : Int32)))) (y := (F1 q0 (6 : Int32) (((p1 &&& (2147483647 : Int32)) % (10 : Int32)) + (1 : Int32)))) (own_F1b _ _ _) (pc := 94) (Ls := #[.val (.long q0), .second, .val (.int p1), .val (.int (((p1 &&& (2147483647 : Int32)) % (10 : Int32)) + (1 : Int32))), .val (.ref b1), .unset, .unset, .unset, .unset, .unset, .unset, .unset, .unset]) (rest := []) (hb hby at_94)
  have N23 := Fr.snoc X23 N22 g_b1
  have hk23 := Nat.le_trans hk20 (Nat.le_of_eq W23.size.symm)
  have K23 : Keep h0 h23 [] := K20.wr W23 (Or.inr sz_b1)
  have O23 : Old Z n0 h23 := O20.wr W23 g_b1
  have Vw23 : Oar Z h23 b1 k1 .byte [(.int (8 : Int32)), (.int (F1 q0 (0 : Int32) (((p1 &&& (2147483647 : Int32)) % (10 : Int32)) + (1 : Int32)))), (.int (F1 q0 (1 : Int32) (((p1 &&& (2147483647 : Int32)) % (10 : Int32)) + (1 : Int32)))), (.int (F1 q0 (2 : Int32) (((p1 &&& (2147483647 : Int32)) % (10 : Int32)) + (1 : Int32)))), (.int (F1 q0 (3 : Int32) (((p1 &&& (2147483647 : Int32)) % (10 : Int32)) + (1 : Int32)))), (.int (F1 q0 (4 : Int32) (((p1 &&& (2147483647 : Int32)) % (10 : Int32)) + (1 : Int32)))), (.int (F1 q0 (5 : Int32) (((p1 &&& (2147483647 : Int32)) % (10 : Int32)) + (1 : Int32)))), (.int (F1 q0 (6 : Int32) (((p1 &&& (2147483647 : Int32)) % (10 : Int32)) + (1 : Int32)))), (.int (0 : Int32)), (.int (0 : Int32)), (.int (0 : Int32))] := V23
  refine OFin.st st23 ?_
  show OFin p e below _ _ T23 (mkF m 95 #[.val (.long q0), .second, .val (.int p1), .val (.int (((p1 &&& (2147483647 : Int32)) % (10 : Int32)) + (1 : Int32))), .val (.ref b1), .unset, .unset, .unset, .unset, .unset, .unset, .unset, .unset] [])
  refine OFin.st (fun t k => XS.aload X23.here hx rfl (hb hby at_95) rfl rfl k) ?_
  show OFin p e below _ _ T23 (mkF m 97 #[.val (.long q0), .second, .val (.int p1), .val (.int (((p1 &&& (2147483647 : Int32)) % (10 : Int32)) + (1 : Int32))), .val (.ref b1), .unset, .unset, .unset, .unset, .unset, .unset, .unset, .unset] [(.ref b1)])
  refine OFin.st (fun t k => XS.bipush X23.here hx rfl (hb hby at_97) k) ?_
  show OFin p e below _ _ T23 (mkF m 99 #[.val (.long q0), .second, .val (.int p1), .val (.int (((p1 &&& (2147483647 : Int32)) % (10 : Int32)) + (1 : Int32))), .val (.ref b1), .unset, .unset, .unset, .unset, .unset, .unset, .unset, .unset] [(.int (8 : Int32)), (.ref b1)])
  refine OFin.st (fun t k => XS.lloadN X23.here hx rfl (hb hby at_99) rfl k) ?_
  show OFin p e below _ _ T23 (mkF m 100 #[.val (.long q0), .second, .val (.int p1), .val (.int (((p1 &&& (2147483647 : Int32)) % (10 : Int32)) + (1 : Int32))), .val (.ref b1), .unset, .unset, .unset, .unset, .unset, .unset, .unset, .unset] [(.long q0), (.int (8 : Int32)), (.ref b1)])
  refine OFin.st (fun t k => XS.bipush X23.here hx rfl (hb hby at_100) k) ?_
  show OFin p e below _ _ T23 (mkF m 102 #[.val (.long q0), .second, .val (.int p1), .val (.int (((p1 &&& (2147483647 : Int32)) % (10 : Int32)) + (1 : Int32))), .val (.ref b1), .unset, .unset, .unset, .unset, .unset, .unset, .unset, .unset] [(.int (7 : Int32)), (.long q0), (.int (8 : Int32)), (.ref b1)])
  refine OFin.st (fun t k => XS.iloadN X23.here hx rfl (hb hby at_102) rfl k) ?_
  show OFin p e below _ _ T23 (mkF m 103 #[.val (.long q0), .second, .val (.int p1), .val (.int (((p1 &&& (2147483647 : Int32)) % (10 : Int32)) + (1 : Int32))), .val (.ref b1), .unset, .unset, .unset, .unset, .unset, .unset, .unset, .unset] [(.int (((p1 &&& (2147483647 : Int32)) % (10 : Int32)) + (1 : Int32))), (.int (7 : Int32)), (.long q0), (.int (8 : Int32)), (.ref b1)])
  obtain ⟨Lg24, Xg24, Ng24⟩ : ∃ L, Stand p l e room_1 (s.setVm s.vm) m #[(.long q0), (.int p1)] below meth c T23 L 1 11 ∧ Fr n0 L := ⟨_, X23, N23⟩
  obtain ⟨_, _, ⟨T25, L25, k25, n25⟩, -, X25, ⟨Lc25, hQ25, l25, y25, z25⟩, st25⟩ := Jvm.LawKit.callS Xg24 hx (y := (⟨"com/example/fillwire/fillwire/codec/ProtoReaderSint32PinLaw", "at", "(JII)B"⟩ : MethodName)) hown (mvT hZ (hw _ (List.mem_of_getElem? (i := 2) rfl))) (mvT hZ (hw _ (List.mem_of_getElem? (i := 3) rfl))) (mvT hZ (hw _ (List.mem_of_getElem? (i := 4) rfl))) (mvT hZ (hw _ (List.mem_of_getElem? (i := 5) rfl))) (by decide) (backOf (W := 2) (rm1 l Z a0 hw [] q0 (7 : Int32) (((p1 &&& (2147483647 : Int32)) % (10 : Int32)) + (1 : Int32)) h23 n0 O23 ) hZ (hw _ (List.mem_of_getElem? (i := 5) rfl)) (hw _ (List.mem_of_getElem? (i := 4) rfl)) (by decide) (by decide)) (g := (mkF m 103 #[.val (.long q0), .second, .val (.int p1), .val (.int (((p1 &&& (2147483647 : Int32)) % (10 : Int32)) + (1 : Int32))), .val (.ref b1), .unset, .unset, .unset, .unset, .unset, .unset, .unset, .unset] [(.int (((p1 &&& (2147483647 : Int32)) % (10 : Int32)) + (1 : Int32))), (.int (7 : Int32)), (.long q0), (.int (8 : Int32)), (.ref b1)])) rfl (by rw [hml]; rfl) (argsL := [(.long q0), (.int (7 : Int32)), (.int (((p1 &&& (2147483647 : Int32)) % (10 : Int32)) + (1 : Int32)))]) (rest := [(.int (8 : Int32)), (.ref b1)]) (lenOf pd_5 rfl) rfl (by show 2 * 0 + _ ≤ _; exact Nat.le_of_eq rfl) (hb hby at_103) (fun _ _ => ⟨rfl, e23, (by decide : 1 + 0 ≤ _), (by decide : 11 + 0 ≤ _)⟩)
  dsimp only [Pt.U, Pt.locs, Pt.cells, Pt.slots] at X25 l25 y25 z25 st25 hQ25
  subst l25 y25 z25
  have X25 : Stand p l e room_1 (s.setVm s.vm) m #[(.long q0), (.int p1)] below meth c T25 _ 1 11 := X25
  obtain ⟨rfl, N25q, e25⟩ := hQ25
  have N25 := Fr.app Ng24 N25q
  refine OFin.st st25 ?_
  show OFin p e below _ _ T25 (mkF m 106 #[.val (.long q0), .second, .val (.int p1), .val (.int (((p1 &&& (2147483647 : Int32)) % (10 : Int32)) + (1 : Int32))), .val (.ref b1), .unset, .unset, .unset, .unset, .unset, .unset, .unset, .unset] [(.int (F1 q0 (7 : Int32) (((p1 &&& (2147483647 : Int32)) % (10 : Int32)) + (1 : Int32)))), (.int (8 : Int32)), (.ref b1)])
  obtain ⟨T26, h26, X26, e26, W26, V26, st26⟩ := own_bastore X25 hx hZ e25 Vw23 (i := 8) (j := (8 : Int32)) (by decide) (by show 8 < 11; decide) (x := (F1 q0 (7 : Int32) (((p1 &&& (2147483647 : Int32)) % (10 : Int32)) + (1 : Int32)))) (y := (F1 q0 (7 : Int32) (((p1 &&& (2147483647 : Int32)) % (10 : Int32)) + (1 : Int32)))) (own_F1b _ _ _) (pc := 106) (Ls := #[.val (.long q0), .second, .val (.int p1), .val (.int (((p1 &&& (2147483647 : Int32)) % (10 : Int32)) + (1 : Int32))), .val (.ref b1), .unset, .unset, .unset, .unset, .unset, .unset, .unset, .unset]) (rest := []) (hb hby at_106)
  have N26 := Fr.snoc X26 N25 g_b1
  have hk26 := Nat.le_trans hk23 (Nat.le_of_eq W26.size.symm)
  have K26 : Keep h0 h26 [] := K23.wr W26 (Or.inr sz_b1)
  have O26 : Old Z n0 h26 := O23.wr W26 g_b1
  have Vw26 : Oar Z h26 b1 k1 .byte [(.int (8 : Int32)), (.int (F1 q0 (0 : Int32) (((p1 &&& (2147483647 : Int32)) % (10 : Int32)) + (1 : Int32)))), (.int (F1 q0 (1 : Int32) (((p1 &&& (2147483647 : Int32)) % (10 : Int32)) + (1 : Int32)))), (.int (F1 q0 (2 : Int32) (((p1 &&& (2147483647 : Int32)) % (10 : Int32)) + (1 : Int32)))), (.int (F1 q0 (3 : Int32) (((p1 &&& (2147483647 : Int32)) % (10 : Int32)) + (1 : Int32)))), (.int (F1 q0 (4 : Int32) (((p1 &&& (2147483647 : Int32)) % (10 : Int32)) + (1 : Int32)))), (.int (F1 q0 (5 : Int32) (((p1 &&& (2147483647 : Int32)) % (10 : Int32)) + (1 : Int32)))), (.int (F1 q0 (6 : Int32) (((p1 &&& (2147483647 : Int32)) % (10 : Int32)) + (1 : Int32)))), (.int (F1 q0 (7 : Int32) (((p1 &&& (2147483647 : Int32)) % (10 : Int32)) + (1 : Int32)))), (.int (0 : Int32)), (.int (0 : Int32))] := V26
  refine OFin.st st26 ?_
  show OFin p e below _ _ T26 (mkF m 107 #[.val (.long q0), .second, .val (.int p1), .val (.int (((p1 &&& (2147483647 : Int32)) % (10 : Int32)) + (1 : Int32))), .val (.ref b1), .unset, .unset, .unset, .unset, .unset, .unset, .unset, .unset] [])
  refine OFin.st (fun t k => XS.aload X26.here hx rfl (hb hby at_107) rfl rfl k) ?_
  show OFin p e below _ _ T26 (mkF m 109 #[.val (.long q0), .second, .val (.int p1), .val (.int (((p1 &&& (2147483647 : Int32)) % (10 : Int32)) + (1 : Int32))), .val (.ref b1), .unset, .unset, .unset, .unset, .unset, .unset, .unset, .unset] [(.ref b1)])
  refine OFin.st (fun t k => XS.bipush X26.here hx rfl (hb hby at_109) k) ?_
  show OFin p e below _ _ T26 (mkF m 111 #[.val (.long q0), .second, .val (.int p1), .val (.int (((p1 &&& (2147483647 : Int32)) % (10 : Int32)) + (1 : Int32))), .val (.ref b1), .unset, .unset, .unset, .unset, .unset, .unset, .unset, .unset] [(.int (9 : Int32)), (.ref b1)])
  refine OFin.st (fun t k => XS.lloadN X26.here hx rfl (hb hby at_111) rfl k) ?_
  show OFin p e below _ _ T26 (mkF m 112 #[.val (.long q0), .second, .val (.int p1), .val (.int (((p1 &&& (2147483647 : Int32)) % (10 : Int32)) + (1 : Int32))), .val (.ref b1), .unset, .unset, .unset, .unset, .unset, .unset, .unset, .unset] [(.long q0), (.int (9 : Int32)), (.ref b1)])
  refine OFin.st (fun t k => XS.bipush X26.here hx rfl (hb hby at_112) k) ?_
  show OFin p e below _ _ T26 (mkF m 114 #[.val (.long q0), .second, .val (.int p1), .val (.int (((p1 &&& (2147483647 : Int32)) % (10 : Int32)) + (1 : Int32))), .val (.ref b1), .unset, .unset, .unset, .unset, .unset, .unset, .unset, .unset] [(.int (8 : Int32)), (.long q0), (.int (9 : Int32)), (.ref b1)])
  refine OFin.st (fun t k => XS.iloadN X26.here hx rfl (hb hby at_114) rfl k) ?_
  show OFin p e below _ _ T26 (mkF m 115 #[.val (.long q0), .second, .val (.int p1), .val (.int (((p1 &&& (2147483647 : Int32)) % (10 : Int32)) + (1 : Int32))), .val (.ref b1), .unset, .unset, .unset, .unset, .unset, .unset, .unset, .unset] [(.int (((p1 &&& (2147483647 : Int32)) % (10 : Int32)) + (1 : Int32))), (.int (8 : Int32)), (.long q0), (.int (9 : Int32)), (.ref b1)])
  obtain ⟨Lg27, Xg27, Ng27⟩ : ∃ L, Stand p l e room_1 (s.setVm s.vm) m #[(.long q0), (.int p1)] below meth c T26 L 1 11 ∧ Fr n0 L := ⟨_, X26, N26⟩
  obtain ⟨_, _, ⟨T28, L28, k28, n28⟩, -, X28, ⟨Lc28, hQ28, l28, y28, z28⟩, st28⟩ := Jvm.LawKit.callS Xg27 hx (y := (⟨"com/example/fillwire/fillwire/codec/ProtoReaderSint32PinLaw", "at", "(JII)B"⟩ : MethodName)) hown (mvT hZ (hw _ (List.mem_of_getElem? (i := 2) rfl))) (mvT hZ (hw _ (List.mem_of_getElem? (i := 3) rfl))) (mvT hZ (hw _ (List.mem_of_getElem? (i := 4) rfl))) (mvT hZ (hw _ (List.mem_of_getElem? (i := 5) rfl))) (by decide) (backOf (W := 2) (rm1 l Z a0 hw [] q0 (8 : Int32) (((p1 &&& (2147483647 : Int32)) % (10 : Int32)) + (1 : Int32)) h26 n0 O26 ) hZ (hw _ (List.mem_of_getElem? (i := 5) rfl)) (hw _ (List.mem_of_getElem? (i := 4) rfl)) (by decide) (by decide)) (g := (mkF m 115 #[.val (.long q0), .second, .val (.int p1), .val (.int (((p1 &&& (2147483647 : Int32)) % (10 : Int32)) + (1 : Int32))), .val (.ref b1), .unset, .unset, .unset, .unset, .unset, .unset, .unset, .unset] [(.int (((p1 &&& (2147483647 : Int32)) % (10 : Int32)) + (1 : Int32))), (.int (8 : Int32)), (.long q0), (.int (9 : Int32)), (.ref b1)])) rfl (by rw [hml]; rfl) (argsL := [(.long q0), (.int (8 : Int32)), (.int (((p1 &&& (2147483647 : Int32)) % (10 : Int32)) + (1 : Int32)))]) (rest := [(.int (9 : Int32)), (.ref b1)]) (lenOf pd_5 rfl) rfl (by show 2 * 0 + _ ≤ _; exact Nat.le_of_eq rfl) (hb hby at_115) (fun _ _ => ⟨rfl, e26, (by decide : 1 + 0 ≤ _), (by decide : 11 + 0 ≤ _)⟩)
  dsimp only [Pt.U, Pt.locs, Pt.cells, Pt.slots] at X28 l28 y28 z28 st28 hQ28
  subst l28 y28 z28
  have X28 : Stand p l e room_1 (s.setVm s.vm) m #[(.long q0), (.int p1)] below meth c T28 _ 1 11 := X28
  obtain ⟨rfl, N28q, e28⟩ := hQ28
  have N28 := Fr.app Ng27 N28q
  refine OFin.st st28 ?_
  show OFin p e below _ _ T28 (mkF m 118 #[.val (.long q0), .second, .val (.int p1), .val (.int (((p1 &&& (2147483647 : Int32)) % (10 : Int32)) + (1 : Int32))), .val (.ref b1), .unset, .unset, .unset, .unset, .unset, .unset, .unset, .unset] [(.int (F1 q0 (8 : Int32) (((p1 &&& (2147483647 : Int32)) % (10 : Int32)) + (1 : Int32)))), (.int (9 : Int32)), (.ref b1)])
  obtain ⟨T29, h29, X29, e29, W29, V29, st29⟩ := own_bastore X28 hx hZ e28 Vw26 (i := 9) (j := (9 : Int32)) (by decide) (by show 9 < 11; decide) (x := (F1 q0 (8 : Int32) (((p1 &&& (2147483647 : Int32)) % (10 : Int32)) + (1 : Int32)))) (y := (F1 q0 (8 : Int32) (((p1 &&& (2147483647 : Int32)) % (10 : Int32)) + (1 : Int32)))) (own_F1b _ _ _) (pc := 118) (Ls := #[.val (.long q0), .second, .val (.int p1), .val (.int (((p1 &&& (2147483647 : Int32)) % (10 : Int32)) + (1 : Int32))), .val (.ref b1), .unset, .unset, .unset, .unset, .unset, .unset, .unset, .unset]) (rest := []) (hb hby at_118)
  have N29 := Fr.snoc X29 N28 g_b1
  have hk29 := Nat.le_trans hk26 (Nat.le_of_eq W29.size.symm)
  have K29 : Keep h0 h29 [] := K26.wr W29 (Or.inr sz_b1)
  have O29 : Old Z n0 h29 := O26.wr W29 g_b1
  have Vw29 : Oar Z h29 b1 k1 .byte [(.int (8 : Int32)), (.int (F1 q0 (0 : Int32) (((p1 &&& (2147483647 : Int32)) % (10 : Int32)) + (1 : Int32)))), (.int (F1 q0 (1 : Int32) (((p1 &&& (2147483647 : Int32)) % (10 : Int32)) + (1 : Int32)))), (.int (F1 q0 (2 : Int32) (((p1 &&& (2147483647 : Int32)) % (10 : Int32)) + (1 : Int32)))), (.int (F1 q0 (3 : Int32) (((p1 &&& (2147483647 : Int32)) % (10 : Int32)) + (1 : Int32)))), (.int (F1 q0 (4 : Int32) (((p1 &&& (2147483647 : Int32)) % (10 : Int32)) + (1 : Int32)))), (.int (F1 q0 (5 : Int32) (((p1 &&& (2147483647 : Int32)) % (10 : Int32)) + (1 : Int32)))), (.int (F1 q0 (6 : Int32) (((p1 &&& (2147483647 : Int32)) % (10 : Int32)) + (1 : Int32)))), (.int (F1 q0 (7 : Int32) (((p1 &&& (2147483647 : Int32)) % (10 : Int32)) + (1 : Int32)))), (.int (F1 q0 (8 : Int32) (((p1 &&& (2147483647 : Int32)) % (10 : Int32)) + (1 : Int32)))), (.int (0 : Int32))] := V29
  refine OFin.st st29 ?_
  show OFin p e below _ _ T29 (mkF m 119 #[.val (.long q0), .second, .val (.int p1), .val (.int (((p1 &&& (2147483647 : Int32)) % (10 : Int32)) + (1 : Int32))), .val (.ref b1), .unset, .unset, .unset, .unset, .unset, .unset, .unset, .unset] [])
  refine OFin.st (fun t k => XS.aload X29.here hx rfl (hb hby at_119) rfl rfl k) ?_
  show OFin p e below _ _ T29 (mkF m 121 #[.val (.long q0), .second, .val (.int p1), .val (.int (((p1 &&& (2147483647 : Int32)) % (10 : Int32)) + (1 : Int32))), .val (.ref b1), .unset, .unset, .unset, .unset, .unset, .unset, .unset, .unset] [(.ref b1)])
  refine OFin.st (fun t k => XS.bipush X29.here hx rfl (hb hby at_121) k) ?_
  show OFin p e below _ _ T29 (mkF m 123 #[.val (.long q0), .second, .val (.int p1), .val (.int (((p1 &&& (2147483647 : Int32)) % (10 : Int32)) + (1 : Int32))), .val (.ref b1), .unset, .unset, .unset, .unset, .unset, .unset, .unset, .unset] [(.int (10 : Int32)), (.ref b1)])
  refine OFin.st (fun t k => XS.lloadN X29.here hx rfl (hb hby at_123) rfl k) ?_
  show OFin p e below _ _ T29 (mkF m 124 #[.val (.long q0), .second, .val (.int p1), .val (.int (((p1 &&& (2147483647 : Int32)) % (10 : Int32)) + (1 : Int32))), .val (.ref b1), .unset, .unset, .unset, .unset, .unset, .unset, .unset, .unset] [(.long q0), (.int (10 : Int32)), (.ref b1)])
  refine OFin.st (fun t k => XS.bipush X29.here hx rfl (hb hby at_124) k) ?_
  show OFin p e below _ _ T29 (mkF m 126 #[.val (.long q0), .second, .val (.int p1), .val (.int (((p1 &&& (2147483647 : Int32)) % (10 : Int32)) + (1 : Int32))), .val (.ref b1), .unset, .unset, .unset, .unset, .unset, .unset, .unset, .unset] [(.int (9 : Int32)), (.long q0), (.int (10 : Int32)), (.ref b1)])
  refine OFin.st (fun t k => XS.iloadN X29.here hx rfl (hb hby at_126) rfl k) ?_
  show OFin p e below _ _ T29 (mkF m 127 #[.val (.long q0), .second, .val (.int p1), .val (.int (((p1 &&& (2147483647 : Int32)) % (10 : Int32)) + (1 : Int32))), .val (.ref b1), .unset, .unset, .unset, .unset, .unset, .unset, .unset, .unset] [(.int (((p1 &&& (2147483647 : Int32)) % (10 : Int32)) + (1 : Int32))), (.int (9 : Int32)), (.long q0), (.int (10 : Int32)), (.ref b1)])
  obtain ⟨Lg30, Xg30, Ng30⟩ : ∃ L, Stand p l e room_1 (s.setVm s.vm) m #[(.long q0), (.int p1)] below meth c T29 L 1 11 ∧ Fr n0 L := ⟨_, X29, N29⟩
  obtain ⟨_, _, ⟨T31, L31, k31, n31⟩, -, X31, ⟨Lc31, hQ31, l31, y31, z31⟩, st31⟩ := Jvm.LawKit.callS Xg30 hx (y := (⟨"com/example/fillwire/fillwire/codec/ProtoReaderSint32PinLaw", "at", "(JII)B"⟩ : MethodName)) hown (mvT hZ (hw _ (List.mem_of_getElem? (i := 2) rfl))) (mvT hZ (hw _ (List.mem_of_getElem? (i := 3) rfl))) (mvT hZ (hw _ (List.mem_of_getElem? (i := 4) rfl))) (mvT hZ (hw _ (List.mem_of_getElem? (i := 5) rfl))) (by decide) (backOf (W := 2) (rm1 l Z a0 hw [] q0 (9 : Int32) (((p1 &&& (2147483647 : Int32)) % (10 : Int32)) + (1 : Int32)) h29 n0 O29 ) hZ (hw _ (List.mem_of_getElem? (i := 5) rfl)) (hw _ (List.mem_of_getElem? (i := 4) rfl)) (by decide) (by decide)) (g := (mkF m 127 #[.val (.long q0), .second, .val (.int p1), .val (.int (((p1 &&& (2147483647 : Int32)) % (10 : Int32)) + (1 : Int32))), .val (.ref b1), .unset, .unset, .unset, .unset, .unset, .unset, .unset, .unset] [(.int (((p1 &&& (2147483647 : Int32)) % (10 : Int32)) + (1 : Int32))), (.int (9 : Int32)), (.long q0), (.int (10 : Int32)), (.ref b1)])) rfl (by rw [hml]; rfl) (argsL := [(.long q0), (.int (9 : Int32)), (.int (((p1 &&& (2147483647 : Int32)) % (10 : Int32)) + (1 : Int32)))]) (rest := [(.int (10 : Int32)), (.ref b1)]) (lenOf pd_5 rfl) rfl (by show 2 * 0 + _ ≤ _; exact Nat.le_of_eq rfl) (hb hby at_127) (fun _ _ => ⟨rfl, e29, (by decide : 1 + 0 ≤ _), (by decide : 11 + 0 ≤ _)⟩)
  dsimp only [Pt.U, Pt.locs, Pt.cells, Pt.slots] at X31 l31 y31 z31 st31 hQ31
  subst l31 y31 z31
  have X31 : Stand p l e room_1 (s.setVm s.vm) m #[(.long q0), (.int p1)] below meth c T31 _ 1 11 := X31
  obtain ⟨rfl, N31q, e31⟩ := hQ31
  have N31 := Fr.app Ng30 N31q
  refine OFin.st st31 ?_
  show OFin p e below _ _ T31 (mkF m 130 #[.val (.long q0), .second, .val (.int p1), .val (.int (((p1 &&& (2147483647 : Int32)) % (10 : Int32)) + (1 : Int32))), .val (.ref b1), .unset, .unset, .unset, .unset, .unset, .unset, .unset, .unset] [(.int (F1 q0 (9 : Int32) (((p1 &&& (2147483647 : Int32)) % (10 : Int32)) + (1 : Int32)))), (.int (10 : Int32)), (.ref b1)])
  obtain ⟨T32, h32, X32, e32, W32, V32, st32⟩ := own_bastore X31 hx hZ e31 Vw29 (i := 10) (j := (10 : Int32)) (by decide) (by show 10 < 11; decide) (x := (F1 q0 (9 : Int32) (((p1 &&& (2147483647 : Int32)) % (10 : Int32)) + (1 : Int32)))) (y := (F1 q0 (9 : Int32) (((p1 &&& (2147483647 : Int32)) % (10 : Int32)) + (1 : Int32)))) (own_F1b _ _ _) (pc := 130) (Ls := #[.val (.long q0), .second, .val (.int p1), .val (.int (((p1 &&& (2147483647 : Int32)) % (10 : Int32)) + (1 : Int32))), .val (.ref b1), .unset, .unset, .unset, .unset, .unset, .unset, .unset, .unset]) (rest := []) (hb hby at_130)
  have N32 := Fr.snoc X32 N31 g_b1
  have hk32 := Nat.le_trans hk29 (Nat.le_of_eq W32.size.symm)
  have K32 : Keep h0 h32 [] := K29.wr W32 (Or.inr sz_b1)
  have O32 : Old Z n0 h32 := O29.wr W32 g_b1
  have Vw32 : Oar Z h32 b1 k1 .byte [(.int (8 : Int32)), (.int (F1 q0 (0 : Int32) (((p1 &&& (2147483647 : Int32)) % (10 : Int32)) + (1 : Int32)))), (.int (F1 q0 (1 : Int32) (((p1 &&& (2147483647 : Int32)) % (10 : Int32)) + (1 : Int32)))), (.int (F1 q0 (2 : Int32) (((p1 &&& (2147483647 : Int32)) % (10 : Int32)) + (1 : Int32)))), (.int (F1 q0 (3 : Int32) (((p1 &&& (2147483647 : Int32)) % (10 : Int32)) + (1 : Int32)))), (.int (F1 q0 (4 : Int32) (((p1 &&& (2147483647 : Int32)) % (10 : Int32)) + (1 : Int32)))), (.int (F1 q0 (5 : Int32) (((p1 &&& (2147483647 : Int32)) % (10 : Int32)) + (1 : Int32)))), (.int (F1 q0 (6 : Int32) (((p1 &&& (2147483647 : Int32)) % (10 : Int32)) + (1 : Int32)))), (.int (F1 q0 (7 : Int32) (((p1 &&& (2147483647 : Int32)) % (10 : Int32)) + (1 : Int32)))), (.int (F1 q0 (8 : Int32) (((p1 &&& (2147483647 : Int32)) % (10 : Int32)) + (1 : Int32)))), (.int (F1 q0 (9 : Int32) (((p1 &&& (2147483647 : Int32)) % (10 : Int32)) + (1 : Int32))))] := V32
  refine OFin.st st32 ?_
  show OFin p e below _ _ T32 (mkF m 131 #[.val (.long q0), .second, .val (.int p1), .val (.int (((p1 &&& (2147483647 : Int32)) % (10 : Int32)) + (1 : Int32))), .val (.ref b1), .unset, .unset, .unset, .unset, .unset, .unset, .unset, .unset] [])
  obtain ⟨T33, h33, X33, e33, E33, A33, D33, -, st33⟩ := newO X32 hx hZ hown (hw _ (List.mem_of_getElem? (i := 8) rfl)) (hw _ (List.mem_of_getElem? (i := 9) rfl)) (hw _ (List.mem_of_getElem? (i := 10) rfl)) e32 (g := (mkF m 131 #[.val (.long q0), .second, .val (.int p1), .val (.int (((p1 &&& (2147483647 : Int32)) % (10 : Int32)) + (1 : Int32))), .val (.ref b1), .unset, .unset, .unset, .unset, .unset, .unset, .unset, .unset] [])) rfl (hb hby at_131) (by decide) (by decide)
  obtain ⟨b33, gz_b33⟩ : ∃ z, z = h32.size := ⟨_, rfl⟩
  rw [← gz_b33] at A33 D33 st33
  have N_b1_b33 : b1 ≠ b33 := Nat.ne_of_lt (Nat.lt_of_lt_of_le Vw32.lt (Nat.le_of_eq gz_b33.symm))
  have g_b33 : n0 ≤ b33 := Nat.le_trans (Nat.le_trans (Nat.le_of_eq O32.1.symm) O32.2.1) (Nat.le_of_eq gz_b33.symm)
  have sz_b33 : h0.size ≤ b33 := Nat.le_trans K32.1 (Nat.le_of_eq gz_b33.symm)
  have hk33 := Nat.le_trans hk32 E33.1
  have K33 : Keep h0 h33 [] := K32.ext E33
  have O33 : Old Z n0 h33 := O32.ext E33
  have F_bytes_b33 : Fld Z h33 b33 "com/example/fillwire/fillwire/codec/ProtoReader" "bytes" "[B" .null := D33 (Or.inr (hw _ (List.mem_of_getElem? (i := 28) rfl))) (ty := (.array .byte)) (by decide)
  have F_position_b33 : Fld Z h33 b33 "com/example/fillwire/fillwire/codec/ProtoReader" "position" "I" (.int (0 : Int32)) := D33 (Or.inl (hw _ (List.mem_of_getElem? (i := 30) rfl))) (ty := .int) (by decide)
  have F_end_b33 : Fld Z h33 b33 "com/example/fillwire/fillwire/codec/ProtoReader" "end" "I" (.int (0 : Int32)) := D33 (Or.inr (hw _ (List.mem_of_getElem? (i := 32) rfl))) (ty := .int) (by decide)
  have F_name_b33 : Fld Z h33 b33 "com/example/fillwire/fillwire/codec/ProtoReader" "name" "Ljava/lang/String;" .null := D33 (Or.inr (hw _ (List.mem_of_getElem? (i := 34) rfl))) (ty := (.object "java/lang/String")) (by decide)
  have F_field_b33 : Fld Z h33 b33 "com/example/fillwire/fillwire/codec/ProtoReader" "field" "I" (.int (0 : Int32)) := D33 (Or.inl (hw _ (List.mem_of_getElem? (i := 45) rfl))) (ty := .int) (by decide)
  have F_wireType_b33 : Fld Z h33 b33 "com/example/fillwire/fillwire/codec/ProtoReader" "wireType" "I" (.int (0 : Int32)) := D33 (Or.inl (hw _ (List.mem_of_getElem? (i := 52) rfl))) (ty := .int) (by decide)
  refine OFin.st st33 ?_
  show OFin p e below _ _ T33 (mkF m 134 #[.val (.long q0), .second, .val (.int p1), .val (.int (((p1 &&& (2147483647 : Int32)) % (10 : Int32)) + (1 : Int32))), .val (.ref b1), .unset, .unset, .unset, .unset, .unset, .unset, .unset, .unset] [(.ref b33)])
  refine OFin.st (fun t k => XS.dup X33.here hx rfl (hb hby at_134) rfl rfl k) ?_
  show OFin p e below _ _ T33 (mkF m 135 #[.val (.long q0), .second, .val (.int p1), .val (.int (((p1 &&& (2147483647 : Int32)) % (10 : Int32)) + (1 : Int32))), .val (.ref b1), .unset, .unset, .unset, .unset, .unset, .unset, .unset, .unset] [(.ref b33), (.ref b33)])
  refine OFin.st (fun t k => XS.aload X33.here hx rfl (hb hby at_135) rfl rfl k) ?_
  show OFin p e below _ _ T33 (mkF m 137 #[.val (.long q0), .second, .val (.int p1), .val (.int (((p1 &&& (2147483647 : Int32)) % (10 : Int32)) + (1 : Int32))), .val (.ref b1), .unset, .unset, .unset, .unset, .unset, .unset, .unset, .unset] [(.ref b1), (.ref b33), (.ref b33)])
  have wS34 : ∀ a ∈ Bundle.stringAtoms, a.before a0 Z = true := by
    intro a ha
    simp only [Bundle.stringAtoms, List.mem_cons, List.not_mem_nil, or_false] at ha
    rcases ha with rfl | rfl | rfl | rfl | rfl | rfl | rfl
    · exact (hw _ (List.mem_of_getElem? (i := 12) rfl))
    · exact (hw _ (List.mem_of_getElem? (i := 13) rfl))
    · exact (hw _ (List.mem_of_getElem? (i := 1) rfl))
    · exact (hw _ (List.mem_of_getElem? (i := 14) rfl))
    · exact (hw _ (List.mem_of_getElem? (i := 15) rfl))
    · exact (hw _ (List.mem_of_getElem? (i := 16) rfl))
    · exact (hw _ (List.mem_of_getElem? (i := 17) rfl))
  obtain ⟨a34, T34, h34, kz34, X34, e34, E34, hS34, hkq34, hZ, hown, st34⟩ := ldcS X33 hx hZ hown (hw _ (List.mem_of_getElem? (i := 11) rfl)) wS34 e33 hS0 hk33 (g := (mkF m 137 #[.val (.long q0), .second, .val (.int p1), .val (.int (((p1 &&& (2147483647 : Int32)) % (10 : Int32)) + (1 : Int32))), .val (.ref b1), .unset, .unset, .unset, .unset, .unset, .unset, .unset, .unset] [(.ref b1), (.ref b33), (.ref b33)])) rfl (hb hby at_137) (n := 4) (by decide) (by decide) (by decide) (by decide)
  refine OFin.st st34 ?_
  have hk34 := Nat.le_trans hk33 E34.1
  have K34 : Keep h0 h34 [] := K33.ext E34
  have O34 : Old Z n0 h34 := O33.ext E34
  have hk34 := hkq34
  show OFin p e below _ _ T34 (mkF m 139 #[.val (.long q0), .second, .val (.int p1), .val (.int (((p1 &&& (2147483647 : Int32)) % (10 : Int32)) + (1 : Int32))), .val (.ref b1), .unset, .unset, .unset, .unset, .unset, .unset, .unset, .unset] [(.ref a34), (.ref b1), (.ref b33), (.ref b33)])
  obtain ⟨Lg35, Xg35, Ng35⟩ : ∃ L, Stand p l e room_1 (s.setVm T34.vm) m #[(.long q0), (.int p1)] below meth c T34 L 4 25 ∧ Fr n0 L := ⟨_, X34, N32⟩
  obtain ⟨_, _, ⟨T36, L36, k36, n36⟩, -, X36, ⟨Lc36, hQ36, l36, y36, z36⟩, st36⟩ := Xg35.specialBack hx (y := (⟨"com/example/fillwire/fillwire/codec/ProtoReader", "<init>", "([BLjava/lang/String;)V"⟩ : MethodName)) rfl hown (mvT hZ (hw _ (List.mem_of_getElem? (i := 18) rfl))) (mvT hZ (hw _ (List.mem_of_getElem? (i := 19) rfl))) (mvT hZ (hw _ (List.mem_of_getElem? (i := 20) rfl))) (by decide) (backOf (W := 1) (rm2 l Z a0 hw [] b33 b1 a34 .null (.int (0 : Int32)) (.int (0 : Int32)) .null (0 : Int32) (0 : Int32) k1 [(.int (8 : Int32)), (.int (F1 q0 (0 : Int32) (((p1 &&& (2147483647 : Int32)) % (10 : Int32)) + (1 : Int32)))), (.int (F1 q0 (1 : Int32) (((p1 &&& (2147483647 : Int32)) % (10 : Int32)) + (1 : Int32)))), (.int (F1 q0 (2 : Int32) (((p1 &&& (2147483647 : Int32)) % (10 : Int32)) + (1 : Int32)))), (.int (F1 q0 (3 : Int32) (((p1 &&& (2147483647 : Int32)) % (10 : Int32)) + (1 : Int32)))), (.int (F1 q0 (4 : Int32) (((p1 &&& (2147483647 : Int32)) % (10 : Int32)) + (1 : Int32)))), (.int (F1 q0 (5 : Int32) (((p1 &&& (2147483647 : Int32)) % (10 : Int32)) + (1 : Int32)))), (.int (F1 q0 (6 : Int32) (((p1 &&& (2147483647 : Int32)) % (10 : Int32)) + (1 : Int32)))), (.int (F1 q0 (7 : Int32) (((p1 &&& (2147483647 : Int32)) % (10 : Int32)) + (1 : Int32)))), (.int (F1 q0 (8 : Int32) (((p1 &&& (2147483647 : Int32)) % (10 : Int32)) + (1 : Int32)))), (.int (F1 q0 (9 : Int32) (((p1 &&& (2147483647 : Int32)) % (10 : Int32)) + (1 : Int32))))] (11 : Int32) h34 n0 O34 (A33.ext E34) (F_bytes_b33.ext E34) (F_position_b33.ext E34) (F_end_b33.ext E34) (F_name_b33.ext E34) (F_field_b33.ext E34) (F_wireType_b33.ext E34) g_b33 ((Vw32.ext E33).ext E34) (by simp only [List.length_cons, List.length_nil]; decide)) hZ (hw _ (List.mem_of_getElem? (i := 20) rfl)) (hw _ (List.mem_of_getElem? (i := 10) rfl)) (by decide) (by decide)) (g := (mkF m 139 #[.val (.long q0), .second, .val (.int p1), .val (.int (((p1 &&& (2147483647 : Int32)) % (10 : Int32)) + (1 : Int32))), .val (.ref b1), .unset, .unset, .unset, .unset, .unset, .unset, .unset, .unset] [(.ref a34), (.ref b1), (.ref b33), (.ref b33)])) rfl (by rw [hml]; rfl) (Steps.refl _) (a := b33) (argsL := [(.ref b1), (.ref a34)]) (rest := [(.ref b33)]) (lenOf pd_7 rfl) rfl (by show 2 * 0 + _ ≤ _; exact Nat.le_of_eq rfl) (hb hby at_139) (fun _ _ => ⟨rfl, e34, (by decide : 4 + 0 ≤ _), (by decide : 25 + 0 ≤ _)⟩)
  dsimp only [Pt.U, Pt.locs, Pt.cells, Pt.slots] at X36 l36 y36 z36 st36 hQ36
  subst l36 y36 z36
  have X36 : Stand p l e room_1 (s.setVm T34.vm) m #[(.long q0), (.int p1)] below meth c T36 _ 4 25 := X36
  obtain ⟨rfl, N36q, K36q, P36_0, P36_1, P36_2, P36_3, P36_4, P36_5⟩ := hQ36
  have N36 := Fr.app Ng35 N36q
  have hk36 := Nat.le_trans hk34 K36q.1
  have K36 : Keep h0 T36.heap [] := K34.trans K36q (allS (Or.inr sz_b33) all0)
  have O36 : Old Z n0 T36.heap := O34.keep K36q (allS g_b33 all0)
  refine OFin.tr st36 ?_
  show OFin p e below _ _ T36 (mkF m 142 #[.val (.long q0), .second, .val (.int p1), .val (.int (((p1 &&& (2147483647 : Int32)) % (10 : Int32)) + (1 : Int32))), .val (.ref b1), .unset, .unset, .unset, .unset, .unset, .unset, .unset, .unset] [(.ref b33)])
  refine OFin.st (fun t k => XS.astore X36.here hx rfl (hb hby at_142) rfl rfl (l' := #[.val (.long q0), .second, .val (.int p1), .val (.int (((p1 &&& (2147483647 : Int32)) % (10 : Int32)) + (1 : Int32))), .val (.ref b1), .val (.ref b33), .unset, .unset, .unset, .unset, .unset, .unset, .unset]) rfl k) ?_
  show OFin p e below _ _ T36 (mkF m 144 #[.val (.long q0), .second, .val (.int p1), .val (.int (((p1 &&& (2147483647 : Int32)) % (10 : Int32)) + (1 : Int32))), .val (.ref b1), .val (.ref b33), .unset, .unset, .unset, .unset, .unset, .unset, .unset] [])
  refine OFin.st (fun t k => XS.aload X36.here hx rfl (hb hby at_144) rfl rfl k) ?_
  show OFin p e below _ _ T36 (mkF m 146 #[.val (.long q0), .second, .val (.int p1), .val (.int (((p1 &&& (2147483647 : Int32)) % (10 : Int32)) + (1 : Int32))), .val (.ref b1), .val (.ref b33), .unset, .unset, .unset, .unset, .unset, .unset, .unset] [(.ref b33)])
  obtain ⟨Lg37, Xg37, Ng37⟩ : ∃ L, Stand p l e room_1 (s.setVm T34.vm) m #[(.long q0), (.int p1)] below meth c T36 L 4 25 ∧ Fr n0 L := ⟨_, X36, N36⟩
  obtain ⟨cq38, kq38, q38a, q38b, q38c⟩ := isOf hZ rfl P36_0
  obtain ⟨_, _, ⟨T38, L38, k38, n38⟩, -, X38, ⟨Lc38, hQ38, l38, y38, z38⟩, st38⟩ := Xg37.virtualBack hx (y := (⟨"com/example/fillwire/fillwire/codec/ProtoReader", "next", "()Z"⟩ : MethodName)) (z := (⟨"com/example/fillwire/fillwire/codec/ProtoReader", "next", "()Z"⟩ : MethodName)) hown (mvT hZ (hw _ (List.mem_of_getElem? (i := 35) rfl))) (mvT hZ (hw _ (List.mem_of_getElem? (i := 36) rfl))) (notFace_of_selects (args := #[]) (mvT hZ (hw _ (List.mem_of_getElem? (i := 38) rfl)))) (mvT hZ (hw _ (List.mem_of_getElem? (i := 38) rfl))) (mvT hZ (hw _ (List.mem_of_getElem? (i := 37) rfl))) (by decide) (backOf (W := 0) (rm5k l Z a0 hw [] b33 b1 (0 : Int32) (11 : Int32) (0 : Int32) (0 : Int32) k1 [(.int (8 : Int32)), (.int (F1 q0 (0 : Int32) (((p1 &&& (2147483647 : Int32)) % (10 : Int32)) + (1 : Int32)))), (.int (F1 q0 (1 : Int32) (((p1 &&& (2147483647 : Int32)) % (10 : Int32)) + (1 : Int32)))), (.int (F1 q0 (2 : Int32) (((p1 &&& (2147483647 : Int32)) % (10 : Int32)) + (1 : Int32)))), (.int (F1 q0 (3 : Int32) (((p1 &&& (2147483647 : Int32)) % (10 : Int32)) + (1 : Int32)))), (.int (F1 q0 (4 : Int32) (((p1 &&& (2147483647 : Int32)) % (10 : Int32)) + (1 : Int32)))), (.int (F1 q0 (5 : Int32) (((p1 &&& (2147483647 : Int32)) % (10 : Int32)) + (1 : Int32)))), (.int (F1 q0 (6 : Int32) (((p1 &&& (2147483647 : Int32)) % (10 : Int32)) + (1 : Int32)))), (.int (F1 q0 (7 : Int32) (((p1 &&& (2147483647 : Int32)) % (10 : Int32)) + (1 : Int32)))), (.int (F1 q0 (8 : Int32) (((p1 &&& (2147483647 : Int32)) % (10 : Int32)) + (1 : Int32)))), (.int (F1 q0 (9 : Int32) (((p1 &&& (2147483647 : Int32)) % (10 : Int32)) + (1 : Int32))))] (fun _ => (8 : Int32)) 0 kW vW w_WIRE_TYPES T36.heap n0 O36 P36_0 P36_1 P36_2 P36_3 P36_4 P36_5 (((Vw32.ext E33).ext E34).keep K36q (ninS N_b1_b33 nin0)) g_b33 N_b1_b33 (by decide) (fun i hi => absurd hi (Nat.not_lt_zero _)) (by decide) (fun h => absurd h (by decide)) (by decide) (by decide) (fun i hi => by cases Nat.le_zero.mp hi; rfl) (fun i hi => by cases Nat.le_zero.mp hi; decide) (by decide +kernel) (by decide +kernel) (by decide +kernel) hW6 (by decide +kernel) A_w_WIRE_TYPES S_WIRE_TYPES) hZ (hw _ (List.mem_of_getElem? (i := 39) rfl)) (hw _ (List.mem_of_getElem? (i := 10) rfl)) (by decide) (by decide)) q38a q38c (g := (mkF m 146 #[.val (.long q0), .second, .val (.int p1), .val (.int (((p1 &&& (2147483647 : Int32)) % (10 : Int32)) + (1 : Int32))), .val (.ref b1), .val (.ref b33), .unset, .unset, .unset, .unset, .unset, .unset, .unset] [(.ref b33)])) rfl (by rw [hml]; rfl) (Steps.refl _) (argsL := []) (rest := []) (lenOf pd_3 rfl) rfl (by show 2 * 0 + _ ≤ _; exact Nat.le_of_eq rfl) (hb hby at_146) (fun _ _ => ⟨rfl, rfl, (by decide : 4 + 0 ≤ _), (by decide : 25 + 0 ≤ _)⟩)
  dsimp only [Pt.U, Pt.locs, Pt.cells, Pt.slots] at X38 l38 y38 z38 st38 hQ38
  subst l38 y38 z38
  have X38 : Stand p l e room_1 (s.setVm T34.vm) m #[(.long q0), (.int p1)] below meth c T38 _ 4 25 := X38
  obtain ⟨rfl, N38q, K38q, P38_0, P38_1, P38_2, P38_3, P38_4, P38_5⟩ := hQ38
  have N38 := Fr.app Ng37 N38q
  have hk38 := Nat.le_trans hk36 K38q.1
  have K38 : Keep h0 T38.heap [] := K36.trans K38q (allS (Or.inr sz_b33) all0)
  have O38 : Old Z n0 T38.heap := O36.keep K38q (allS g_b33 all0)
  refine OFin.tr st38 ?_
  show OFin p e below _ _ T38 (mkF m 149 #[.val (.long q0), .second, .val (.int p1), .val (.int (((p1 &&& (2147483647 : Int32)) % (10 : Int32)) + (1 : Int32))), .val (.ref b1), .val (.ref b33), .unset, .unset, .unset, .unset, .unset, .unset, .unset] [(.int (1 : Int32))])
  refine OFin.st (fun t k => XS.ifYes X38.here hx rfl (pc0 := 149) (pc' := 154) rfl (hb hby at_149) rfl ((if0 _ _).trans (feq (by decide : ¬ ((1 : Int32) = (0 : Int32)))).2) (by decide) (by decide) k) ?_
  show OFin p e below _ _ T38 (mkF m 154 #[.val (.long q0), .second, .val (.int p1), .val (.int (((p1 &&& (2147483647 : Int32)) % (10 : Int32)) + (1 : Int32))), .val (.ref b1), .val (.ref b33), .unset, .unset, .unset, .unset, .unset, .unset, .unset] [])
  refine OFin.st (fun t k => XS.aload X38.here hx rfl (hb hby at_154) rfl rfl k) ?_
  show OFin p e below _ _ T38 (mkF m 156 #[.val (.long q0), .second, .val (.int p1), .val (.int (((p1 &&& (2147483647 : Int32)) % (10 : Int32)) + (1 : Int32))), .val (.ref b1), .val (.ref b33), .unset, .unset, .unset, .unset, .unset, .unset, .unset] [(.ref b33)])
  have c39 := ((((Vw32.ext E33).ext E34).keep K36q (ninS N_b1_b33 nin0)).keep K38q (ninS N_b1_b33 nin0))
  obtain ⟨Lg40, Xg40, Ng40⟩ : ∃ L, Stand p l e room_1 (s.setVm T34.vm) m #[(.long q0), (.int p1)] below meth c T38 L 4 25 ∧ Fr n0 L := ⟨_, X38, N38⟩
  obtain ⟨cq41, kq41, q41a, q41b, q41c⟩ := isOf hZ rfl P38_0
  obtain ⟨_, _, ⟨T41, L41, k41, n41⟩, -, X41, ⟨Lc41, hQ41, l41, y41, z41⟩, st41⟩ := Xg40.virtualBack hx (y := (⟨"com/example/fillwire/fillwire/codec/ProtoReader", "sint32", "()I"⟩ : MethodName)) (z := (⟨"com/example/fillwire/fillwire/codec/ProtoReader", "sint32", "()I"⟩ : MethodName)) hown (mvT hZ (hw _ (List.mem_of_getElem? (i := 55) rfl))) (mvT hZ (hw _ (List.mem_of_getElem? (i := 56) rfl))) (notFace_of_selects (args := #[]) (mvT hZ (hw _ (List.mem_of_getElem? (i := 58) rfl)))) (mvT hZ (hw _ (List.mem_of_getElem? (i := 58) rfl))) (mvT hZ (hw _ (List.mem_of_getElem? (i := 57) rfl))) (by decide) (backOf (W := 0) (rm8 l Z a0 hw [] b33 b1 (vpo (0 : Int32) (0 + 1)) (11 : Int32) ((((vac (fun _ => (8 : Int32)) (0 + 1)).toUInt64 >>> ((3 : Int32) &&& 0x3f).toInt64.toUInt64).toInt64).toInt32) (((vac (fun _ => (8 : Int32)) (0 + 1)).toInt32) &&& (7 : Int32)) k1 [(.int (8 : Int32)), (.int (F1 q0 (0 : Int32) (((p1 &&& (2147483647 : Int32)) % (10 : Int32)) + (1 : Int32)))), (.int (F1 q0 (1 : Int32) (((p1 &&& (2147483647 : Int32)) % (10 : Int32)) + (1 : Int32)))), (.int (F1 q0 (2 : Int32) (((p1 &&& (2147483647 : Int32)) % (10 : Int32)) + (1 : Int32)))), (.int (F1 q0 (3 : Int32) (((p1 &&& (2147483647 : Int32)) % (10 : Int32)) + (1 : Int32)))), (.int (F1 q0 (4 : Int32) (((p1 &&& (2147483647 : Int32)) % (10 : Int32)) + (1 : Int32)))), (.int (F1 q0 (5 : Int32) (((p1 &&& (2147483647 : Int32)) % (10 : Int32)) + (1 : Int32)))), (.int (F1 q0 (6 : Int32) (((p1 &&& (2147483647 : Int32)) % (10 : Int32)) + (1 : Int32)))), (.int (F1 q0 (7 : Int32) (((p1 &&& (2147483647 : Int32)) % (10 : Int32)) + (1 : Int32)))), (.int (F1 q0 (8 : Int32) (((p1 &&& (2147483647 : Int32)) % (10 : Int32)) + (1 : Int32)))), (.int (F1 q0 (9 : Int32) (((p1 &&& (2147483647 : Int32)) % (10 : Int32)) + (1 : Int32))))] (fun i => F1 q0 (Int32.ofNat i) (((p1 &&& (2147483647 : Int32)) % (10 : Int32)) + (1 : Int32))) (kvOf p1) T38.heap n0 O38 P38_0 P38_1 P38_2 P38_3 P38_4 P38_5 c39 g_b33 N_b1_b33 (own_hk p1) (own_hcn q0 p1) (own_hln q0 p1) (own_h9 q0 p1) (by decide +kernel) (by decide +kernel) (own_hvs q0 p1) (own_hne p1) (by decide +kernel)) hZ (hw _ (List.mem_of_getElem? (i := 59) rfl)) (hw _ (List.mem_of_getElem? (i := 10) rfl)) (by decide) (by decide)) q41a q41c (g := (mkF m 156 #[.val (.long q0), .second, .val (.int p1), .val (.int (((p1 &&& (2147483647 : Int32)) % (10 : Int32)) + (1 : Int32))), .val (.ref b1), .val (.ref b33), .unset, .unset, .unset, .unset, .unset, .unset, .unset] [(.ref b33)])) rfl (by rw [hml]; rfl) (Steps.refl _) (argsL := []) (rest := []) (lenOf pd_0 rfl) rfl (by show 2 * 0 + _ ≤ _; exact Nat.le_of_eq rfl) (hb hby at_156) (fun _ _ => ⟨rfl, rfl, (by decide : 4 + 0 ≤ _), (by decide : 25 + 0 ≤ _)⟩)
  dsimp only [Pt.U, Pt.locs, Pt.cells, Pt.slots] at X41 l41 y41 z41 st41 hQ41
  subst l41 y41 z41
  have X41 : Stand p l e room_1 (s.setVm T34.vm) m #[(.long q0), (.int p1)] below meth c T41 _ 4 25 := X41
  obtain ⟨rfl, N41q, K41q, P41_0, P41_1, P41_2, P41_3, P41_4, P41_5⟩ := hQ41
  have N41 := Fr.app Ng40 N41q
  have hk41 := Nat.le_trans hk38 K41q.1
  have K41 : Keep h0 T41.heap [] := K38.trans K41q (allS (Or.inr sz_b33) all0)
  have O41 : Old Z n0 T41.heap := O38.keep K41q (allS g_b33 all0)
  refine OFin.tr st41 ?_
  show OFin p e below _ _ T41 (mkF m 159 #[.val (.long q0), .second, .val (.int p1), .val (.int (((p1 &&& (2147483647 : Int32)) % (10 : Int32)) + (1 : Int32))), .val (.ref b1), .val (.ref b33), .unset, .unset, .unset, .unset, .unset, .unset, .unset] [(.int (((((vac (fun i => F1 q0 (Int32.ofNat i) (((p1 &&& (2147483647 : Int32)) % (10 : Int32)) + (1 : Int32))) ((kvOf p1) + 1)).toInt32).toUInt32 >>> ((1 : Int32) &&& 31).toUInt32).toInt32) ^^^ (-(((vac (fun i => F1 q0 (Int32.ofNat i) (((p1 &&& (2147483647 : Int32)) % (10 : Int32)) + (1 : Int32))) ((kvOf p1) + 1)).toInt32) &&& (1 : Int32)))))])
  refine OFin.st (fun t k => XS.istore X41.here hx rfl (hb hby at_159) rfl (l' := #[.val (.long q0), .second, .val (.int p1), .val (.int (((p1 &&& (2147483647 : Int32)) % (10 : Int32)) + (1 : Int32))), .val (.ref b1), .val (.ref b33), .val (.int (((((vac (fun i => F1 q0 (Int32.ofNat i) (((p1 &&& (2147483647 : Int32)) % (10 : Int32)) + (1 : Int32))) ((kvOf p1) + 1)).toInt32).toUInt32 >>> ((1 : Int32) &&& 31).toUInt32).toInt32) ^^^ (-(((vac (fun i => F1 q0 (Int32.ofNat i) (((p1 &&& (2147483647 : Int32)) % (10 : Int32)) + (1 : Int32))) ((kvOf p1) + 1)).toInt32) &&& (1 : Int32))))), .unset, .unset, .unset, .unset, .unset, .unset]) rfl k) ?_
  show OFin p e below _ _ T41 (mkF m 161 #[.val (.long q0), .second, .val (.int p1), .val (.int (((p1 &&& (2147483647 : Int32)) % (10 : Int32)) + (1 : Int32))), .val (.ref b1), .val (.ref b33), .val (.int (((((vac (fun i => F1 q0 (Int32.ofNat i) (((p1 &&& (2147483647 : Int32)) % (10 : Int32)) + (1 : Int32))) ((kvOf p1) + 1)).toInt32).toUInt32 >>> ((1 : Int32) &&& 31).toUInt32).toInt32) ^^^ (-(((vac (fun i => F1 q0 (Int32.ofNat i) (((p1 &&& (2147483647 : Int32)) % (10 : Int32)) + (1 : Int32))) ((kvOf p1) + 1)).toInt32) &&& (1 : Int32))))), .unset, .unset, .unset, .unset, .unset, .unset] [])
  refine OFin.st (fun t k => XS.iloadN X41.here hx rfl (hb hby at_161) rfl k) ?_
  show OFin p e below _ _ T41 (mkF m 162 #[.val (.long q0), .second, .val (.int p1), .val (.int (((p1 &&& (2147483647 : Int32)) % (10 : Int32)) + (1 : Int32))), .val (.ref b1), .val (.ref b33), .val (.int (((((vac (fun i => F1 q0 (Int32.ofNat i) (((p1 &&& (2147483647 : Int32)) % (10 : Int32)) + (1 : Int32))) ((kvOf p1) + 1)).toInt32).toUInt32 >>> ((1 : Int32) &&& 31).toUInt32).toInt32) ^^^ (-(((vac (fun i => F1 q0 (Int32.ofNat i) (((p1 &&& (2147483647 : Int32)) % (10 : Int32)) + (1 : Int32))) ((kvOf p1) + 1)).toInt32) &&& (1 : Int32))))), .unset, .unset, .unset, .unset, .unset, .unset] [(.int (((p1 &&& (2147483647 : Int32)) % (10 : Int32)) + (1 : Int32)))])
  refine OFin.st (fun t k => XS.bipush X41.here hx rfl (hb hby at_162) k) ?_
  show OFin p e below _ _ T41 (mkF m 164 #[.val (.long q0), .second, .val (.int p1), .val (.int (((p1 &&& (2147483647 : Int32)) % (10 : Int32)) + (1 : Int32))), .val (.ref b1), .val (.ref b33), .val (.int (((((vac (fun i => F1 q0 (Int32.ofNat i) (((p1 &&& (2147483647 : Int32)) % (10 : Int32)) + (1 : Int32))) ((kvOf p1) + 1)).toInt32).toUInt32 >>> ((1 : Int32) &&& 31).toUInt32).toInt32) ^^^ (-(((vac (fun i => F1 q0 (Int32.ofNat i) (((p1 &&& (2147483647 : Int32)) % (10 : Int32)) + (1 : Int32))) ((kvOf p1) + 1)).toInt32) &&& (1 : Int32))))), .unset, .unset, .unset, .unset, .unset, .unset] [(.int (10 : Int32)), (.int (((p1 &&& (2147483647 : Int32)) % (10 : Int32)) + (1 : Int32)))])
  by_cases hc164 : (((p1 &&& (2147483647 : Int32)) % (10 : Int32)) + (1 : Int32)) = (10 : Int32)
  · refine OFin.st (fun t k => XS.icmpNo X41.here hx rfl (hb hby at_164) rfl (teq hc164).2 k) ?_
    show OFin p e below _ _ T41 (mkF m 167 #[.val (.long q0), .second, .val (.int p1), .val (.int (((p1 &&& (2147483647 : Int32)) % (10 : Int32)) + (1 : Int32))), .val (.ref b1), .val (.ref b33), .val (.int (((((vac (fun i => F1 q0 (Int32.ofNat i) (((p1 &&& (2147483647 : Int32)) % (10 : Int32)) + (1 : Int32))) ((kvOf p1) + 1)).toInt32).toUInt32 >>> ((1 : Int32) &&& 31).toUInt32).toInt32) ^^^ (-(((vac (fun i => F1 q0 (Int32.ofNat i) (((p1 &&& (2147483647 : Int32)) % (10 : Int32)) + (1 : Int32))) ((kvOf p1) + 1)).toInt32) &&& (1 : Int32))))), .unset, .unset, .unset, .unset, .unset, .unset] [])
    refine OFin.st (fun t k => XS.lloadN X41.here hx rfl (hb hby at_167) rfl k) ?_
    show OFin p e below _ _ T41 (mkF m 168 #[.val (.long q0), .second, .val (.int p1), .val (.int (((p1 &&& (2147483647 : Int32)) % (10 : Int32)) + (1 : Int32))), .val (.ref b1), .val (.ref b33), .val (.int (((((vac (fun i => F1 q0 (Int32.ofNat i) (((p1 &&& (2147483647 : Int32)) % (10 : Int32)) + (1 : Int32))) ((kvOf p1) + 1)).toInt32).toUInt32 >>> ((1 : Int32) &&& 31).toUInt32).toInt32) ^^^ (-(((vac (fun i => F1 q0 (Int32.ofNat i) (((p1 &&& (2147483647 : Int32)) % (10 : Int32)) + (1 : Int32))) ((kvOf p1) + 1)).toInt32) &&& (1 : Int32))))), .unset, .unset, .unset, .unset, .unset, .unset] [(.long q0)])
    refine OFin.st (fun t k => XS.goto X41.here hx rfl (pc0 := 168) (pc' := 181) rfl (hb hby at_168) (by decide) (by decide) k) ?_
    show OFin p e below _ _ T41 (mkF m 181 #[.val (.long q0), .second, .val (.int p1), .val (.int (((p1 &&& (2147483647 : Int32)) % (10 : Int32)) + (1 : Int32))), .val (.ref b1), .val (.ref b33), .val (.int (((((vac (fun i => F1 q0 (Int32.ofNat i) (((p1 &&& (2147483647 : Int32)) % (10 : Int32)) + (1 : Int32))) ((kvOf p1) + 1)).toInt32).toUInt32 >>> ((1 : Int32) &&& 31).toUInt32).toInt32) ^^^ (-(((vac (fun i => F1 q0 (Int32.ofNat i) (((p1 &&& (2147483647 : Int32)) % (10 : Int32)) + (1 : Int32))) ((kvOf p1) + 1)).toInt32) &&& (1 : Int32))))), .unset, .unset, .unset, .unset, .unset, .unset] [(.long q0)])
    refine OFin.st (fun t k => XS.lstore X41.here hx rfl (hb hby at_181) rfl (l' := #[.val (.long q0), .second, .val (.int p1), .val (.int (((p1 &&& (2147483647 : Int32)) % (10 : Int32)) + (1 : Int32))), .val (.ref b1), .val (.ref b33), .val (.int (((((vac (fun i => F1 q0 (Int32.ofNat i) (((p1 &&& (2147483647 : Int32)) % (10 : Int32)) + (1 : Int32))) ((kvOf p1) + 1)).toInt32).toUInt32 >>> ((1 : Int32) &&& 31).toUInt32).toInt32) ^^^ (-(((vac (fun i => F1 q0 (Int32.ofNat i) (((p1 &&& (2147483647 : Int32)) % (10 : Int32)) + (1 : Int32))) ((kvOf p1) + 1)).toInt32) &&& (1 : Int32))))), .val (.long q0), .second, .unset, .unset, .unset, .unset]) rfl k) ?_
    show OFin p e below _ _ T41 (mkF m 183 #[.val (.long q0), .second, .val (.int p1), .val (.int (((p1 &&& (2147483647 : Int32)) % (10 : Int32)) + (1 : Int32))), .val (.ref b1), .val (.ref b33), .val (.int (((((vac (fun i => F1 q0 (Int32.ofNat i) (((p1 &&& (2147483647 : Int32)) % (10 : Int32)) + (1 : Int32))) ((kvOf p1) + 1)).toInt32).toUInt32 >>> ((1 : Int32) &&& 31).toUInt32).toInt32) ^^^ (-(((vac (fun i => F1 q0 (Int32.ofNat i) (((p1 &&& (2147483647 : Int32)) % (10 : Int32)) + (1 : Int32))) ((kvOf p1) + 1)).toInt32) &&& (1 : Int32))))), .val (.long q0), .second, .unset, .unset, .unset, .unset] [])
    refine OFin.st (fun t k => XS.lload X41.here hx rfl (hb hby at_183) rfl k) ?_
    show OFin p e below _ _ T41 (mkF m 185 #[.val (.long q0), .second, .val (.int p1), .val (.int (((p1 &&& (2147483647 : Int32)) % (10 : Int32)) + (1 : Int32))), .val (.ref b1), .val (.ref b33), .val (.int (((((vac (fun i => F1 q0 (Int32.ofNat i) (((p1 &&& (2147483647 : Int32)) % (10 : Int32)) + (1 : Int32))) ((kvOf p1) + 1)).toInt32).toUInt32 >>> ((1 : Int32) &&& 31).toUInt32).toInt32) ^^^ (-(((vac (fun i => F1 q0 (Int32.ofNat i) (((p1 &&& (2147483647 : Int32)) % (10 : Int32)) + (1 : Int32))) ((kvOf p1) + 1)).toInt32) &&& (1 : Int32))))), .val (.long q0), .second, .unset, .unset, .unset, .unset] [(.long q0)])
    refine OFin.st (X41.ldc2Long hx hown (mvT hZ (hw _ (List.mem_of_getElem? (i := 69) rfl))) (g := (mkF m 185 #[.val (.long q0), .second, .val (.int p1), .val (.int (((p1 &&& (2147483647 : Int32)) % (10 : Int32)) + (1 : Int32))), .val (.ref b1), .val (.ref b33), .val (.int (((((vac (fun i => F1 q0 (Int32.ofNat i) (((p1 &&& (2147483647 : Int32)) % (10 : Int32)) + (1 : Int32))) ((kvOf p1) + 1)).toInt32).toUInt32 >>> ((1 : Int32) &&& 31).toUInt32).toInt32) ^^^ (-(((vac (fun i => F1 q0 (Int32.ofNat i) (((p1 &&& (2147483647 : Int32)) % (10 : Int32)) + (1 : Int32))) ((kvOf p1) + 1)).toInt32) &&& (1 : Int32))))), .val (.long q0), .second, .unset, .unset, .unset, .unset] [(.long q0)])) rfl (hb hby at_185)) ?_
    show OFin p e below _ _ T41 (mkF m 188 #[.val (.long q0), .second, .val (.int p1), .val (.int (((p1 &&& (2147483647 : Int32)) % (10 : Int32)) + (1 : Int32))), .val (.ref b1), .val (.ref b33), .val (.int (((((vac (fun i => F1 q0 (Int32.ofNat i) (((p1 &&& (2147483647 : Int32)) % (10 : Int32)) + (1 : Int32))) ((kvOf p1) + 1)).toInt32).toUInt32 >>> ((1 : Int32) &&& 31).toUInt32).toInt32) ^^^ (-(((vac (fun i => F1 q0 (Int32.ofNat i) (((p1 &&& (2147483647 : Int32)) % (10 : Int32)) + (1 : Int32))) ((kvOf p1) + 1)).toInt32) &&& (1 : Int32))))), .val (.long q0), .second, .unset, .unset, .unset, .unset] [(.long (4294967295 : Int64)), (.long q0)])
    refine OFin.st (fun t k => XS.land X41.here hx rfl (hb hby at_188) rfl k) ?_
    show OFin p e below _ _ T41 (mkF m 189 #[.val (.long q0), .second, .val (.int p1), .val (.int (((p1 &&& (2147483647 : Int32)) % (10 : Int32)) + (1 : Int32))), .val (.ref b1), .val (.ref b33), .val (.int (((((vac (fun i => F1 q0 (Int32.ofNat i) (((p1 &&& (2147483647 : Int32)) % (10 : Int32)) + (1 : Int32))) ((kvOf p1) + 1)).toInt32).toUInt32 >>> ((1 : Int32) &&& 31).toUInt32).toInt32) ^^^ (-(((vac (fun i => F1 q0 (Int32.ofNat i) (((p1 &&& (2147483647 : Int32)) % (10 : Int32)) + (1 : Int32))) ((kvOf p1) + 1)).toInt32) &&& (1 : Int32))))), .val (.long q0), .second, .unset, .unset, .unset, .unset] [(.long (q0 &&& (4294967295 : Int64)))])
    refine OFin.st (fun t k => XS.lstore X41.here hx rfl (hb hby at_189) rfl (l' := #[.val (.long q0), .second, .val (.int p1), .val (.int (((p1 &&& (2147483647 : Int32)) % (10 : Int32)) + (1 : Int32))), .val (.ref b1), .val (.ref b33), .val (.int (((((vac (fun i => F1 q0 (Int32.ofNat i) (((p1 &&& (2147483647 : Int32)) % (10 : Int32)) + (1 : Int32))) ((kvOf p1) + 1)).toInt32).toUInt32 >>> ((1 : Int32) &&& 31).toUInt32).toInt32) ^^^ (-(((vac (fun i => F1 q0 (Int32.ofNat i) (((p1 &&& (2147483647 : Int32)) % (10 : Int32)) + (1 : Int32))) ((kvOf p1) + 1)).toInt32) &&& (1 : Int32))))), .val (.long q0), .second, .val (.long (q0 &&& (4294967295 : Int64))), .second, .unset, .unset]) rfl k) ?_
    show OFin p e below _ _ T41 (mkF m 191 #[.val (.long q0), .second, .val (.int p1), .val (.int (((p1 &&& (2147483647 : Int32)) % (10 : Int32)) + (1 : Int32))), .val (.ref b1), .val (.ref b33), .val (.int (((((vac (fun i => F1 q0 (Int32.ofNat i) (((p1 &&& (2147483647 : Int32)) % (10 : Int32)) + (1 : Int32))) ((kvOf p1) + 1)).toInt32).toUInt32 >>> ((1 : Int32) &&& 31).toUInt32).toInt32) ^^^ (-(((vac (fun i => F1 q0 (Int32.ofNat i) (((p1 &&& (2147483647 : Int32)) % (10 : Int32)) + (1 : Int32))) ((kvOf p1) + 1)).toInt32) &&& (1 : Int32))))), .val (.long q0), .second, .val (.long (q0 &&& (4294967295 : Int64))), .second, .unset, .unset] [])
    refine OFin.st (fun t k => XS.lload X41.here hx rfl (hb hby at_191) rfl k) ?_
    show OFin p e below _ _ T41 (mkF m 193 #[.val (.long q0), .second, .val (.int p1), .val (.int (((p1 &&& (2147483647 : Int32)) % (10 : Int32)) + (1 : Int32))), .val (.ref b1), .val (.ref b33), .val (.int (((((vac (fun i => F1 q0 (Int32.ofNat i) (((p1 &&& (2147483647 : Int32)) % (10 : Int32)) + (1 : Int32))) ((kvOf p1) + 1)).toInt32).toUInt32 >>> ((1 : Int32) &&& 31).toUInt32).toInt32) ^^^ (-(((vac (fun i => F1 q0 (Int32.ofNat i) (((p1 &&& (2147483647 : Int32)) % (10 : Int32)) + (1 : Int32))) ((kvOf p1) + 1)).toInt32) &&& (1 : Int32))))), .val (.long q0), .second, .val (.long (q0 &&& (4294967295 : Int64))), .second, .unset, .unset] [(.long (q0 &&& (4294967295 : Int64)))])
    refine OFin.st (X41.ldc2Long hx hown (mvT hZ (hw _ (List.mem_of_getElem? (i := 70) rfl))) (g := (mkF m 193 #[.val (.long q0), .second, .val (.int p1), .val (.int (((p1 &&& (2147483647 : Int32)) % (10 : Int32)) + (1 : Int32))), .val (.ref b1), .val (.ref b33), .val (.int (((((vac (fun i => F1 q0 (Int32.ofNat i) (((p1 &&& (2147483647 : Int32)) % (10 : Int32)) + (1 : Int32))) ((kvOf p1) + 1)).toInt32).toUInt32 >>> ((1 : Int32) &&& 31).toUInt32).toInt32) ^^^ (-(((vac (fun i => F1 q0 (Int32.ofNat i) (((p1 &&& (2147483647 : Int32)) % (10 : Int32)) + (1 : Int32))) ((kvOf p1) + 1)).toInt32) &&& (1 : Int32))))), .val (.long q0), .second, .val (.long (q0 &&& (4294967295 : Int64))), .second, .unset, .unset] [(.long (q0 &&& (4294967295 : Int64)))])) rfl (hb hby at_193)) ?_
    show OFin p e below _ _ T41 (mkF m 196 #[.val (.long q0), .second, .val (.int p1), .val (.int (((p1 &&& (2147483647 : Int32)) % (10 : Int32)) + (1 : Int32))), .val (.ref b1), .val (.ref b33), .val (.int (((((vac (fun i => F1 q0 (Int32.ofNat i) (((p1 &&& (2147483647 : Int32)) % (10 : Int32)) + (1 : Int32))) ((kvOf p1) + 1)).toInt32).toUInt32 >>> ((1 : Int32) &&& 31).toUInt32).toInt32) ^^^ (-(((vac (fun i => F1 q0 (Int32.ofNat i) (((p1 &&& (2147483647 : Int32)) % (10 : Int32)) + (1 : Int32))) ((kvOf p1) + 1)).toInt32) &&& (1 : Int32))))), .val (.long q0), .second, .val (.long (q0 &&& (4294967295 : Int64))), .second, .unset, .unset] [(.long (2 : Int64)), (.long (q0 &&& (4294967295 : Int64)))])
    refine OFin.st (fun t k => own_lremM X41 hx rfl (hb hby at_196) rfl (by decide) k) ?_
    show OFin p e below _ _ T41 (mkF m 197 #[.val (.long q0), .second, .val (.int p1), .val (.int (((p1 &&& (2147483647 : Int32)) % (10 : Int32)) + (1 : Int32))), .val (.ref b1), .val (.ref b33), .val (.int (((((vac (fun i => F1 q0 (Int32.ofNat i) (((p1 &&& (2147483647 : Int32)) % (10 : Int32)) + (1 : Int32))) ((kvOf p1) + 1)).toInt32).toUInt32 >>> ((1 : Int32) &&& 31).toUInt32).toInt32) ^^^ (-(((vac (fun i => F1 q0 (Int32.ofNat i) (((p1 &&& (2147483647 : Int32)) % (10 : Int32)) + (1 : Int32))) ((kvOf p1) + 1)).toInt32) &&& (1 : Int32))))), .val (.long q0), .second, .val (.long (q0 &&& (4294967295 : Int64))), .second, .unset, .unset] [(.long ((q0 &&& (4294967295 : Int64)) % (2 : Int64)))])
    refine OFin.st (fun t k => XS.lconst X41.here hx rfl (hb hby at_197) k) ?_
    show OFin p e below _ _ T41 (mkF m 198 #[.val (.long q0), .second, .val (.int p1), .val (.int (((p1 &&& (2147483647 : Int32)) % (10 : Int32)) + (1 : Int32))), .val (.ref b1), .val (.ref b33), .val (.int (((((vac (fun i => F1 q0 (Int32.ofNat i) (((p1 &&& (2147483647 : Int32)) % (10 : Int32)) + (1 : Int32))) ((kvOf p1) + 1)).toInt32).toUInt32 >>> ((1 : Int32) &&& 31).toUInt32).toInt32) ^^^ (-(((vac (fun i => F1 q0 (Int32.ofNat i) (((p1 &&& (2147483647 : Int32)) % (10 : Int32)) + (1 : Int32))) ((kvOf p1) + 1)).toInt32) &&& (1 : Int32))))), .val (.long q0), .second, .val (.long (q0 &&& (4294967295 : Int64))), .second, .unset, .unset] [(.long (0 : Int64)), (.long ((q0 &&& (4294967295 : Int64)) % (2 : Int64)))])
    refine OFin.st (fun t k => XS.lcmp X41.here hx rfl (hb hby at_198) rfl k) ?_
    show OFin p e below _ _ T41 (mkF m 199 #[.val (.long q0), .second, .val (.int p1), .val (.int (((p1 &&& (2147483647 : Int32)) % (10 : Int32)) + (1 : Int32))), .val (.ref b1), .val (.ref b33), .val (.int (((((vac (fun i => F1 q0 (Int32.ofNat i) (((p1 &&& (2147483647 : Int32)) % (10 : Int32)) + (1 : Int32))) ((kvOf p1) + 1)).toInt32).toUInt32 >>> ((1 : Int32) &&& 31).toUInt32).toInt32) ^^^ (-(((vac (fun i => F1 q0 (Int32.ofNat i) (((p1 &&& (2147483647 : Int32)) % (10 : Int32)) + (1 : Int32))) ((kvOf p1) + 1)).toInt32) &&& (1 : Int32))))), .val (.long q0), .second, .val (.long (q0 &&& (4294967295 : Int64))), .second, .unset, .unset] [(.int (lcmpW ((q0 &&& (4294967295 : Int64)) % (2 : Int64)) (0 : Int64)))])
    by_cases hc199 : ((q0 &&& (4294967295 : Int64)) % (2 : Int64)) = (0 : Int64)
    · refine OFin.st (fun t k => XS.ifNo X41.here hx rfl (hb hby at_199) rfl ((if0 _ _).trans (teq ((lw_eq ((q0 &&& (4294967295 : Int64)) % (2 : Int64)) (0 : Int64)).mpr hc199)).2) k) ?_
      show OFin p e below _ _ T41 (mkF m 202 #[.val (.long q0), .second, .val (.int p1), .val (.int (((p1 &&& (2147483647 : Int32)) % (10 : Int32)) + (1 : Int32))), .val (.ref b1), .val (.ref b33), .val (.int (((((vac (fun i => F1 q0 (Int32.ofNat i) (((p1 &&& (2147483647 : Int32)) % (10 : Int32)) + (1 : Int32))) ((kvOf p1) + 1)).toInt32).toUInt32 >>> ((1 : Int32) &&& 31).toUInt32).toInt32) ^^^ (-(((vac (fun i => F1 q0 (Int32.ofNat i) (((p1 &&& (2147483647 : Int32)) % (10 : Int32)) + (1 : Int32))) ((kvOf p1) + 1)).toInt32) &&& (1 : Int32))))), .val (.long q0), .second, .val (.long (q0 &&& (4294967295 : Int64))), .second, .unset, .unset] [])
      refine OFin.st (fun t k => XS.lload X41.here hx rfl (hb hby at_202) rfl k) ?_
      show OFin p e below _ _ T41 (mkF m 204 #[.val (.long q0), .second, .val (.int p1), .val (.int (((p1 &&& (2147483647 : Int32)) % (10 : Int32)) + (1 : Int32))), .val (.ref b1), .val (.ref b33), .val (.int (((((vac (fun i => F1 q0 (Int32.ofNat i) (((p1 &&& (2147483647 : Int32)) % (10 : Int32)) + (1 : Int32))) ((kvOf p1) + 1)).toInt32).toUInt32 >>> ((1 : Int32) &&& 31).toUInt32).toInt32) ^^^ (-(((vac (fun i => F1 q0 (Int32.ofNat i) (((p1 &&& (2147483647 : Int32)) % (10 : Int32)) + (1 : Int32))) ((kvOf p1) + 1)).toInt32) &&& (1 : Int32))))), .val (.long q0), .second, .val (.long (q0 &&& (4294967295 : Int64))), .second, .unset, .unset] [(.long (q0 &&& (4294967295 : Int64)))])
      refine OFin.st (X41.ldc2Long hx hown (mvT hZ (hw _ (List.mem_of_getElem? (i := 70) rfl))) (g := (mkF m 204 #[.val (.long q0), .second, .val (.int p1), .val (.int (((p1 &&& (2147483647 : Int32)) % (10 : Int32)) + (1 : Int32))), .val (.ref b1), .val (.ref b33), .val (.int (((((vac (fun i => F1 q0 (Int32.ofNat i) (((p1 &&& (2147483647 : Int32)) % (10 : Int32)) + (1 : Int32))) ((kvOf p1) + 1)).toInt32).toUInt32 >>> ((1 : Int32) &&& 31).toUInt32).toInt32) ^^^ (-(((vac (fun i => F1 q0 (Int32.ofNat i) (((p1 &&& (2147483647 : Int32)) % (10 : Int32)) + (1 : Int32))) ((kvOf p1) + 1)).toInt32) &&& (1 : Int32))))), .val (.long q0), .second, .val (.long (q0 &&& (4294967295 : Int64))), .second, .unset, .unset] [(.long (q0 &&& (4294967295 : Int64)))])) rfl (hb hby at_204)) ?_
      show OFin p e below _ _ T41 (mkF m 207 #[.val (.long q0), .second, .val (.int p1), .val (.int (((p1 &&& (2147483647 : Int32)) % (10 : Int32)) + (1 : Int32))), .val (.ref b1), .val (.ref b33), .val (.int (((((vac (fun i => F1 q0 (Int32.ofNat i) (((p1 &&& (2147483647 : Int32)) % (10 : Int32)) + (1 : Int32))) ((kvOf p1) + 1)).toInt32).toUInt32 >>> ((1 : Int32) &&& 31).toUInt32).toInt32) ^^^ (-(((vac (fun i => F1 q0 (Int32.ofNat i) (((p1 &&& (2147483647 : Int32)) % (10 : Int32)) + (1 : Int32))) ((kvOf p1) + 1)).toInt32) &&& (1 : Int32))))), .val (.long q0), .second, .val (.long (q0 &&& (4294967295 : Int64))), .second, .unset, .unset] [(.long (2 : Int64)), (.long (q0 &&& (4294967295 : Int64)))])
      refine OFin.st (fun t k => XS.ldiv X41.here hx rfl (hb hby at_207) rfl (by decide) k) ?_
      show OFin p e below _ _ T41 (mkF m 208 #[.val (.long q0), .second, .val (.int p1), .val (.int (((p1 &&& (2147483647 : Int32)) % (10 : Int32)) + (1 : Int32))), .val (.ref b1), .val (.ref b33), .val (.int (((((vac (fun i => F1 q0 (Int32.ofNat i) (((p1 &&& (2147483647 : Int32)) % (10 : Int32)) + (1 : Int32))) ((kvOf p1) + 1)).toInt32).toUInt32 >>> ((1 : Int32) &&& 31).toUInt32).toInt32) ^^^ (-(((vac (fun i => F1 q0 (Int32.ofNat i) (((p1 &&& (2147483647 : Int32)) % (10 : Int32)) + (1 : Int32))) ((kvOf p1) + 1)).toInt32) &&& (1 : Int32))))), .val (.long q0), .second, .val (.long (q0 &&& (4294967295 : Int64))), .second, .unset, .unset] [(.long ((q0 &&& (4294967295 : Int64)) / (2 : Int64)))])
      refine OFin.st (fun t k => XS.lstore X41.here hx rfl (hb hby at_208) rfl (l' := #[.val (.long q0), .second, .val (.int p1), .val (.int (((p1 &&& (2147483647 : Int32)) % (10 : Int32)) + (1 : Int32))), .val (.ref b1), .val (.ref b33), .val (.int (((((vac (fun i => F1 q0 (Int32.ofNat i) (((p1 &&& (2147483647 : Int32)) % (10 : Int32)) + (1 : Int32))) ((kvOf p1) + 1)).toInt32).toUInt32 >>> ((1 : Int32) &&& 31).toUInt32).toInt32) ^^^ (-(((vac (fun i => F1 q0 (Int32.ofNat i) (((p1 &&& (2147483647 : Int32)) % (10 : Int32)) + (1 : Int32))) ((kvOf p1) + 1)).toInt32) &&& (1 : Int32))))), .val (.long q0), .second, .val (.long (q0 &&& (4294967295 : Int64))), .second, .val (.long ((q0 &&& (4294967295 : Int64)) / (2 : Int64))), .second]) rfl k) ?_
      show OFin p e below _ _ T41 (mkF m 210 #[.val (.long q0), .second, .val (.int p1), .val (.int (((p1 &&& (2147483647 : Int32)) % (10 : Int32)) + (1 : Int32))), .val (.ref b1), .val (.ref b33), .val (.int (((((vac (fun i => F1 q0 (Int32.ofNat i) (((p1 &&& (2147483647 : Int32)) % (10 : Int32)) + (1 : Int32))) ((kvOf p1) + 1)).toInt32).toUInt32 >>> ((1 : Int32) &&& 31).toUInt32).toInt32) ^^^ (-(((vac (fun i => F1 q0 (Int32.ofNat i) (((p1 &&& (2147483647 : Int32)) % (10 : Int32)) + (1 : Int32))) ((kvOf p1) + 1)).toInt32) &&& (1 : Int32))))), .val (.long q0), .second, .val (.long (q0 &&& (4294967295 : Int64))), .second, .val (.long ((q0 &&& (4294967295 : Int64)) / (2 : Int64))), .second] [])
      refine OFin.st (fun t k => XS.goto X41.here hx rfl (pc0 := 210) (pc' := 224) rfl (hb hby at_210) (by decide) (by decide) k) ?_
      show OFin p e below _ _ T41 (mkF m 224 #[.val (.long q0), .second, .val (.int p1), .val (.int (((p1 &&& (2147483647 : Int32)) % (10 : Int32)) + (1 : Int32))), .val (.ref b1), .val (.ref b33), .val (.int (((((vac (fun i => F1 q0 (Int32.ofNat i) (((p1 &&& (2147483647 : Int32)) % (10 : Int32)) + (1 : Int32))) ((kvOf p1) + 1)).toInt32).toUInt32 >>> ((1 : Int32) &&& 31).toUInt32).toInt32) ^^^ (-(((vac (fun i => F1 q0 (Int32.ofNat i) (((p1 &&& (2147483647 : Int32)) % (10 : Int32)) + (1 : Int32))) ((kvOf p1) + 1)).toInt32) &&& (1 : Int32))))), .val (.long q0), .second, .val (.long (q0 &&& (4294967295 : Int64))), .second, .val (.long ((q0 &&& (4294967295 : Int64)) / (2 : Int64))), .second] [])
      refine OFin.st (fun t k => XS.iload X41.here hx rfl (hb hby at_224) rfl k) ?_
      show OFin p e below _ _ T41 (mkF m 226 #[.val (.long q0), .second, .val (.int p1), .val (.int (((p1 &&& (2147483647 : Int32)) % (10 : Int32)) + (1 : Int32))), .val (.ref b1), .val (.ref b33), .val (.int (((((vac (fun i => F1 q0 (Int32.ofNat i) (((p1 &&& (2147483647 : Int32)) % (10 : Int32)) + (1 : Int32))) ((kvOf p1) + 1)).toInt32).toUInt32 >>> ((1 : Int32) &&& 31).toUInt32).toInt32) ^^^ (-(((vac (fun i => F1 q0 (Int32.ofNat i) (((p1 &&& (2147483647 : Int32)) % (10 : Int32)) + (1 : Int32))) ((kvOf p1) + 1)).toInt32) &&& (1 : Int32))))), .val (.long q0), .second, .val (.long (q0 &&& (4294967295 : Int64))), .second, .val (.long ((q0 &&& (4294967295 : Int64)) / (2 : Int64))), .second] [(.int (((((vac (fun i => F1 q0 (Int32.ofNat i) (((p1 &&& (2147483647 : Int32)) % (10 : Int32)) + (1 : Int32))) ((kvOf p1) + 1)).toInt32).toUInt32 >>> ((1 : Int32) &&& 31).toUInt32).toInt32) ^^^ (-(((vac (fun i => F1 q0 (Int32.ofNat i) (((p1 &&& (2147483647 : Int32)) % (10 : Int32)) + (1 : Int32))) ((kvOf p1) + 1)).toInt32) &&& (1 : Int32)))))])
      refine OFin.st (fun t k => XS.i2l X41.here hx rfl (hb hby at_226) rfl k) ?_
      show OFin p e below _ _ T41 (mkF m 227 #[.val (.long q0), .second, .val (.int p1), .val (.int (((p1 &&& (2147483647 : Int32)) % (10 : Int32)) + (1 : Int32))), .val (.ref b1), .val (.ref b33), .val (.int (((((vac (fun i => F1 q0 (Int32.ofNat i) (((p1 &&& (2147483647 : Int32)) % (10 : Int32)) + (1 : Int32))) ((kvOf p1) + 1)).toInt32).toUInt32 >>> ((1 : Int32) &&& 31).toUInt32).toInt32) ^^^ (-(((vac (fun i => F1 q0 (Int32.ofNat i) (((p1 &&& (2147483647 : Int32)) % (10 : Int32)) + (1 : Int32))) ((kvOf p1) + 1)).toInt32) &&& (1 : Int32))))), .val (.long q0), .second, .val (.long (q0 &&& (4294967295 : Int64))), .second, .val (.long ((q0 &&& (4294967295 : Int64)) / (2 : Int64))), .second] [(.long ((((((vac (fun i => F1 q0 (Int32.ofNat i) (((p1 &&& (2147483647 : Int32)) % (10 : Int32)) + (1 : Int32))) ((kvOf p1) + 1)).toInt32).toUInt32 >>> ((1 : Int32) &&& 31).toUInt32).toInt32) ^^^ (-(((vac (fun i => F1 q0 (Int32.ofNat i) (((p1 &&& (2147483647 : Int32)) % (10 : Int32)) + (1 : Int32))) ((kvOf p1) + 1)).toInt32) &&& (1 : Int32)))).toInt64))])
      refine OFin.st (fun t k => XS.lload X41.here hx rfl (hb hby at_227) rfl k) ?_
      show OFin p e below _ _ T41 (mkF m 229 #[.val (.long q0), .second, .val (.int p1), .val (.int (((p1 &&& (2147483647 : Int32)) % (10 : Int32)) + (1 : Int32))), .val (.ref b1), .val (.ref b33), .val (.int (((((vac (fun i => F1 q0 (Int32.ofNat i) (((p1 &&& (2147483647 : Int32)) % (10 : Int32)) + (1 : Int32))) ((kvOf p1) + 1)).toInt32).toUInt32 >>> ((1 : Int32) &&& 31).toUInt32).toInt32) ^^^ (-(((vac (fun i => F1 q0 (Int32.ofNat i) (((p1 &&& (2147483647 : Int32)) % (10 : Int32)) + (1 : Int32))) ((kvOf p1) + 1)).toInt32) &&& (1 : Int32))))), .val (.long q0), .second, .val (.long (q0 &&& (4294967295 : Int64))), .second, .val (.long ((q0 &&& (4294967295 : Int64)) / (2 : Int64))), .second] [(.long ((q0 &&& (4294967295 : Int64)) / (2 : Int64))), (.long ((((((vac (fun i => F1 q0 (Int32.ofNat i) (((p1 &&& (2147483647 : Int32)) % (10 : Int32)) + (1 : Int32))) ((kvOf p1) + 1)).toInt32).toUInt32 >>> ((1 : Int32) &&& 31).toUInt32).toInt32) ^^^ (-(((vac (fun i => F1 q0 (Int32.ofNat i) (((p1 &&& (2147483647 : Int32)) % (10 : Int32)) + (1 : Int32))) ((kvOf p1) + 1)).toInt32) &&& (1 : Int32)))).toInt64))])
      refine OFin.st (fun t k => XS.lcmp X41.here hx rfl (hb hby at_229) rfl k) ?_
      show OFin p e below _ _ T41 (mkF m 230 #[.val (.long q0), .second, .val (.int p1), .val (.int (((p1 &&& (2147483647 : Int32)) % (10 : Int32)) + (1 : Int32))), .val (.ref b1), .val (.ref b33), .val (.int (((((vac (fun i => F1 q0 (Int32.ofNat i) (((p1 &&& (2147483647 : Int32)) % (10 : Int32)) + (1 : Int32))) ((kvOf p1) + 1)).toInt32).toUInt32 >>> ((1 : Int32) &&& 31).toUInt32).toInt32) ^^^ (-(((vac (fun i => F1 q0 (Int32.ofNat i) (((p1 &&& (2147483647 : Int32)) % (10 : Int32)) + (1 : Int32))) ((kvOf p1) + 1)).toInt32) &&& (1 : Int32))))), .val (.long q0), .second, .val (.long (q0 &&& (4294967295 : Int64))), .second, .val (.long ((q0 &&& (4294967295 : Int64)) / (2 : Int64))), .second] [(.int (lcmpW ((((((vac (fun i => F1 q0 (Int32.ofNat i) (((p1 &&& (2147483647 : Int32)) % (10 : Int32)) + (1 : Int32))) ((kvOf p1) + 1)).toInt32).toUInt32 >>> ((1 : Int32) &&& 31).toUInt32).toInt32) ^^^ (-(((vac (fun i => F1 q0 (Int32.ofNat i) (((p1 &&& (2147483647 : Int32)) % (10 : Int32)) + (1 : Int32))) ((kvOf p1) + 1)).toInt32) &&& (1 : Int32)))).toInt64) ((q0 &&& (4294967295 : Int64)) / (2 : Int64))))])
      refine OFin.st (fun t k => XS.ifNo X41.here hx rfl (hb hby at_230) rfl ((if0 _ _).trans (teq ((lw_eq ((((((vac (fun i => F1 q0 (Int32.ofNat i) (((p1 &&& (2147483647 : Int32)) % (10 : Int32)) + (1 : Int32))) ((kvOf p1) + 1)).toInt32).toUInt32 >>> ((1 : Int32) &&& 31).toUInt32).toInt32) ^^^ (-(((vac (fun i => F1 q0 (Int32.ofNat i) (((p1 &&& (2147483647 : Int32)) % (10 : Int32)) + (1 : Int32))) ((kvOf p1) + 1)).toInt32) &&& (1 : Int32)))).toInt64) ((q0 &&& (4294967295 : Int64)) / (2 : Int64))).mpr (by rw [own_vac q0 p1, if_pos hc164]; exact (own_zig _).1 hc199))).2) k) ?_
      show OFin p e below _ _ T41 (mkF m 233 #[.val (.long q0), .second, .val (.int p1), .val (.int (((p1 &&& (2147483647 : Int32)) % (10 : Int32)) + (1 : Int32))), .val (.ref b1), .val (.ref b33), .val (.int (((((vac (fun i => F1 q0 (Int32.ofNat i) (((p1 &&& (2147483647 : Int32)) % (10 : Int32)) + (1 : Int32))) ((kvOf p1) + 1)).toInt32).toUInt32 >>> ((1 : Int32) &&& 31).toUInt32).toInt32) ^^^ (-(((vac (fun i => F1 q0 (Int32.ofNat i) (((p1 &&& (2147483647 : Int32)) % (10 : Int32)) + (1 : Int32))) ((kvOf p1) + 1)).toInt32) &&& (1 : Int32))))), .val (.long q0), .second, .val (.long (q0 &&& (4294967295 : Int64))), .second, .val (.long ((q0 &&& (4294967295 : Int64)) / (2 : Int64))), .second] [])
      refine OFin.st (fun t k => XS.iconst X41.here hx rfl (hb hby at_233) k) ?_
      show OFin p e below _ _ T41 (mkF m 234 #[.val (.long q0), .second, .val (.int p1), .val (.int (((p1 &&& (2147483647 : Int32)) % (10 : Int32)) + (1 : Int32))), .val (.ref b1), .val (.ref b33), .val (.int (((((vac (fun i => F1 q0 (Int32.ofNat i) (((p1 &&& (2147483647 : Int32)) % (10 : Int32)) + (1 : Int32))) ((kvOf p1) + 1)).toInt32).toUInt32 >>> ((1 : Int32) &&& 31).toUInt32).toInt32) ^^^ (-(((vac (fun i => F1 q0 (Int32.ofNat i) (((p1 &&& (2147483647 : Int32)) % (10 : Int32)) + (1 : Int32))) ((kvOf p1) + 1)).toInt32) &&& (1 : Int32))))), .val (.long q0), .second, .val (.long (q0 &&& (4294967295 : Int64))), .second, .val (.long ((q0 &&& (4294967295 : Int64)) / (2 : Int64))), .second] [(.int (1 : Int32))])
      refine OFin.st (fun t k => XS.goto X41.here hx rfl (pc0 := 234) (pc' := 238) rfl (hb hby at_234) (by decide) (by decide) k) ?_
      show OFin p e below _ _ T41 (mkF m 238 #[.val (.long q0), .second, .val (.int p1), .val (.int (((p1 &&& (2147483647 : Int32)) % (10 : Int32)) + (1 : Int32))), .val (.ref b1), .val (.ref b33), .val (.int (((((vac (fun i => F1 q0 (Int32.ofNat i) (((p1 &&& (2147483647 : Int32)) % (10 : Int32)) + (1 : Int32))) ((kvOf p1) + 1)).toInt32).toUInt32 >>> ((1 : Int32) &&& 31).toUInt32).toInt32) ^^^ (-(((vac (fun i => F1 q0 (Int32.ofNat i) (((p1 &&& (2147483647 : Int32)) % (10 : Int32)) + (1 : Int32))) ((kvOf p1) + 1)).toInt32) &&& (1 : Int32))))), .val (.long q0), .second, .val (.long (q0 &&& (4294967295 : Int64))), .second, .val (.long ((q0 &&& (4294967295 : Int64)) / (2 : Int64))), .second] [(.int (1 : Int32))])
      exact own_retN X41 hx Bd.returns Bd.notSynchronized (t := .boolean) (by simp) rfl (hb hby at_238) (by show Qrm0 Z q0 p1 kW vW w_WIRE_TYPES h0 n0 _ T41.heap _; exact ⟨rfl, N41, K41⟩) (own_endW hS34 (by exact hk41) (by decide) (by decide))
    · refine OFin.st (fun t k => XS.ifYes X41.here hx rfl (pc0 := 199) (pc' := 213) rfl (hb hby at_199) rfl ((if0 _ _).trans (feq (fun q => hc199 ((lw_eq ((q0 &&& (4294967295 : Int64)) % (2 : Int64)) (0 : Int64)).mp q))).2) (by decide) (by decide) k) ?_
      show OFin p e below _ _ T41 (mkF m 213 #[.val (.long q0), .second, .val (.int p1), .val (.int (((p1 &&& (2147483647 : Int32)) % (10 : Int32)) + (1 : Int32))), .val (.ref b1), .val (.ref b33), .val (.int (((((vac (fun i => F1 q0 (Int32.ofNat i) (((p1 &&& (2147483647 : Int32)) % (10 : Int32)) + (1 : Int32))) ((kvOf p1) + 1)).toInt32).toUInt32 >>> ((1 : Int32) &&& 31).toUInt32).toInt32) ^^^ (-(((vac (fun i => F1 q0 (Int32.ofNat i) (((p1 &&& (2147483647 : Int32)) % (10 : Int32)) + (1 : Int32))) ((kvOf p1) + 1)).toInt32) &&& (1 : Int32))))), .val (.long q0), .second, .val (.long (q0 &&& (4294967295 : Int64))), .second, .unset, .unset] [])
      refine OFin.st (fun t k => XS.lload X41.here hx rfl (hb hby at_213) rfl k) ?_
      show OFin p e below _ _ T41 (mkF m 215 #[.val (.long q0), .second, .val (.int p1), .val (.int (((p1 &&& (2147483647 : Int32)) % (10 : Int32)) + (1 : Int32))), .val (.ref b1), .val (.ref b33), .val (.int (((((vac (fun i => F1 q0 (Int32.ofNat i) (((p1 &&& (2147483647 : Int32)) % (10 : Int32)) + (1 : Int32))) ((kvOf p1) + 1)).toInt32).toUInt32 >>> ((1 : Int32) &&& 31).toUInt32).toInt32) ^^^ (-(((vac (fun i => F1 q0 (Int32.ofNat i) (((p1 &&& (2147483647 : Int32)) % (10 : Int32)) + (1 : Int32))) ((kvOf p1) + 1)).toInt32) &&& (1 : Int32))))), .val (.long q0), .second, .val (.long (q0 &&& (4294967295 : Int64))), .second, .unset, .unset] [(.long (q0 &&& (4294967295 : Int64)))])
      refine OFin.st (X41.ldc2Long hx hown (mvT hZ (hw _ (List.mem_of_getElem? (i := 70) rfl))) (g := (mkF m 215 #[.val (.long q0), .second, .val (.int p1), .val (.int (((p1 &&& (2147483647 : Int32)) % (10 : Int32)) + (1 : Int32))), .val (.ref b1), .val (.ref b33), .val (.int (((((vac (fun i => F1 q0 (Int32.ofNat i) (((p1 &&& (2147483647 : Int32)) % (10 : Int32)) + (1 : Int32))) ((kvOf p1) + 1)).toInt32).toUInt32 >>> ((1 : Int32) &&& 31).toUInt32).toInt32) ^^^ (-(((vac (fun i => F1 q0 (Int32.ofNat i) (((p1 &&& (2147483647 : Int32)) % (10 : Int32)) + (1 : Int32))) ((kvOf p1) + 1)).toInt32) &&& (1 : Int32))))), .val (.long q0), .second, .val (.long (q0 &&& (4294967295 : Int64))), .second, .unset, .unset] [(.long (q0 &&& (4294967295 : Int64)))])) rfl (hb hby at_215)) ?_
      show OFin p e below _ _ T41 (mkF m 218 #[.val (.long q0), .second, .val (.int p1), .val (.int (((p1 &&& (2147483647 : Int32)) % (10 : Int32)) + (1 : Int32))), .val (.ref b1), .val (.ref b33), .val (.int (((((vac (fun i => F1 q0 (Int32.ofNat i) (((p1 &&& (2147483647 : Int32)) % (10 : Int32)) + (1 : Int32))) ((kvOf p1) + 1)).toInt32).toUInt32 >>> ((1 : Int32) &&& 31).toUInt32).toInt32) ^^^ (-(((vac (fun i => F1 q0 (Int32.ofNat i) (((p1 &&& (2147483647 : Int32)) % (10 : Int32)) + (1 : Int32))) ((kvOf p1) + 1)).toInt32) &&& (1 : Int32))))), .val (.long q0), .second, .val (.long (q0 &&& (4294967295 : Int64))), .second, .unset, .unset] [(.long (2 : Int64)), (.long (q0 &&& (4294967295 : Int64)))])
      refine OFin.st (fun t k => XS.ldiv X41.here hx rfl (hb hby at_218) rfl (by decide) k) ?_
      show OFin p e below _ _ T41 (mkF m 219 #[.val (.long q0), .second, .val (.int p1), .val (.int (((p1 &&& (2147483647 : Int32)) % (10 : Int32)) + (1 : Int32))), .val (.ref b1), .val (.ref b33), .val (.int (((((vac (fun i => F1 q0 (Int32.ofNat i) (((p1 &&& (2147483647 : Int32)) % (10 : Int32)) + (1 : Int32))) ((kvOf p1) + 1)).toInt32).toUInt32 >>> ((1 : Int32) &&& 31).toUInt32).toInt32) ^^^ (-(((vac (fun i => F1 q0 (Int32.ofNat i) (((p1 &&& (2147483647 : Int32)) % (10 : Int32)) + (1 : Int32))) ((kvOf p1) + 1)).toInt32) &&& (1 : Int32))))), .val (.long q0), .second, .val (.long (q0 &&& (4294967295 : Int64))), .second, .unset, .unset] [(.long ((q0 &&& (4294967295 : Int64)) / (2 : Int64)))])
      refine OFin.st (fun t k => XS.lneg X41.here hx rfl (hb hby at_219) rfl k) ?_
      show OFin p e below _ _ T41 (mkF m 220 #[.val (.long q0), .second, .val (.int p1), .val (.int (((p1 &&& (2147483647 : Int32)) % (10 : Int32)) + (1 : Int32))), .val (.ref b1), .val (.ref b33), .val (.int (((((vac (fun i => F1 q0 (Int32.ofNat i) (((p1 &&& (2147483647 : Int32)) % (10 : Int32)) + (1 : Int32))) ((kvOf p1) + 1)).toInt32).toUInt32 >>> ((1 : Int32) &&& 31).toUInt32).toInt32) ^^^ (-(((vac (fun i => F1 q0 (Int32.ofNat i) (((p1 &&& (2147483647 : Int32)) % (10 : Int32)) + (1 : Int32))) ((kvOf p1) + 1)).toInt32) &&& (1 : Int32))))), .val (.long q0), .second, .val (.long (q0 &&& (4294967295 : Int64))), .second, .unset, .unset] [(.long (-((q0 &&& (4294967295 : Int64)) / (2 : Int64))))])
      refine OFin.st (fun t k => XS.lconst X41.here hx rfl (hb hby at_220) k) ?_
      show OFin p e below _ _ T41 (mkF m 221 #[.val (.long q0), .second, .val (.int p1), .val (.int (((p1 &&& (2147483647 : Int32)) % (10 : Int32)) + (1 : Int32))), .val (.ref b1), .val (.ref b33), .val (.int (((((vac (fun i => F1 q0 (Int32.ofNat i) (((p1 &&& (2147483647 : Int32)) % (10 : Int32)) + (1 : Int32))) ((kvOf p1) + 1)).toInt32).toUInt32 >>> ((1 : Int32) &&& 31).toUInt32).toInt32) ^^^ (-(((vac (fun i => F1 q0 (Int32.ofNat i) (((p1 &&& (2147483647 : Int32)) % (10 : Int32)) + (1 : Int32))) ((kvOf p1) + 1)).toInt32) &&& (1 : Int32))))), .val (.long q0), .second, .val (.long (q0 &&& (4294967295 : Int64))), .second, .unset, .unset] [(.long (1 : Int64)), (.long (-((q0 &&& (4294967295 : Int64)) / (2 : Int64))))])
      refine OFin.st (fun t k => XS.lsub X41.here hx rfl (hb hby at_221) rfl k) ?_
      show OFin p e below _ _ T41 (mkF m 222 #[.val (.long q0), .second, .val (.int p1), .val (.int (((p1 &&& (2147483647 : Int32)) % (10 : Int32)) + (1 : Int32))), .val (.ref b1), .val (.ref b33), .val (.int (((((vac (fun i => F1 q0 (Int32.ofNat i) (((p1 &&& (2147483647 : Int32)) % (10 : Int32)) + (1 : Int32))) ((kvOf p1) + 1)).toInt32).toUInt32 >>> ((1 : Int32) &&& 31).toUInt32).toInt32) ^^^ (-(((vac (fun i => F1 q0 (Int32.ofNat i) (((p1 &&& (2147483647 : Int32)) % (10 : Int32)) + (1 : Int32))) ((kvOf p1) + 1)).toInt32) &&& (1 : Int32))))), .val (.long q0), .second, .val (.long (q0 &&& (4294967295 : Int64))), .second, .unset, .unset] [(.long ((-((q0 &&& (4294967295 : Int64)) / (2 : Int64))) - (1 : Int64)))])
      refine OFin.st (fun t k => XS.lstore X41.here hx rfl (hb hby at_222) rfl (l' := #[.val (.long q0), .second, .val (.int p1), .val (.int (((p1 &&& (2147483647 : Int32)) % (10 : Int32)) + (1 : Int32))), .val (.ref b1), .val (.ref b33), .val (.int (((((vac (fun i => F1 q0 (Int32.ofNat i) (((p1 &&& (2147483647 : Int32)) % (10 : Int32)) + (1 : Int32))) ((kvOf p1) + 1)).toInt32).toUInt32 >>> ((1 : Int32) &&& 31).toUInt32).toInt32) ^^^ (-(((vac (fun i => F1 q0 (Int32.ofNat i) (((p1 &&& (2147483647 : Int32)) % (10 : Int32)) + (1 : Int32))) ((kvOf p1) + 1)).toInt32) &&& (1 : Int32))))), .val (.long q0), .second, .val (.long (q0 &&& (4294967295 : Int64))), .second, .val (.long ((-((q0 &&& (4294967295 : Int64)) / (2 : Int64))) - (1 : Int64))), .second]) rfl k) ?_
      show OFin p e below _ _ T41 (mkF m 224 #[.val (.long q0), .second, .val (.int p1), .val (.int (((p1 &&& (2147483647 : Int32)) % (10 : Int32)) + (1 : Int32))), .val (.ref b1), .val (.ref b33), .val (.int (((((vac (fun i => F1 q0 (Int32.ofNat i) (((p1 &&& (2147483647 : Int32)) % (10 : Int32)) + (1 : Int32))) ((kvOf p1) + 1)).toInt32).toUInt32 >>> ((1 : Int32) &&& 31).toUInt32).toInt32) ^^^ (-(((vac (fun i => F1 q0 (Int32.ofNat i) (((p1 &&& (2147483647 : Int32)) % (10 : Int32)) + (1 : Int32))) ((kvOf p1) + 1)).toInt32) &&& (1 : Int32))))), .val (.long q0), .second, .val (.long (q0 &&& (4294967295 : Int64))), .second, .val (.long ((-((q0 &&& (4294967295 : Int64)) / (2 : Int64))) - (1 : Int64))), .second] [])
      refine OFin.st (fun t k => XS.iload X41.here hx rfl (hb hby at_224) rfl k) ?_
      show OFin p e below _ _ T41 (mkF m 226 #[.val (.long q0), .second, .val (.int p1), .val (.int (((p1 &&& (2147483647 : Int32)) % (10 : Int32)) + (1 : Int32))), .val (.ref b1), .val (.ref b33), .val (.int (((((vac (fun i => F1 q0 (Int32.ofNat i) (((p1 &&& (2147483647 : Int32)) % (10 : Int32)) + (1 : Int32))) ((kvOf p1) + 1)).toInt32).toUInt32 >>> ((1 : Int32) &&& 31).toUInt32).toInt32) ^^^ (-(((vac (fun i => F1 q0 (Int32.ofNat i) (((p1 &&& (2147483647 : Int32)) % (10 : Int32)) + (1 : Int32))) ((kvOf p1) + 1)).toInt32) &&& (1 : Int32))))), .val (.long q0), .second, .val (.long (q0 &&& (4294967295 : Int64))), .second, .val (.long ((-((q0 &&& (4294967295 : Int64)) / (2 : Int64))) - (1 : Int64))), .second] [(.int (((((vac (fun i => F1 q0 (Int32.ofNat i) (((p1 &&& (2147483647 : Int32)) % (10 : Int32)) + (1 : Int32))) ((kvOf p1) + 1)).toInt32).toUInt32 >>> ((1 : Int32) &&& 31).toUInt32).toInt32) ^^^ (-(((vac (fun i => F1 q0 (Int32.ofNat i) (((p1 &&& (2147483647 : Int32)) % (10 : Int32)) + (1 : Int32))) ((kvOf p1) + 1)).toInt32) &&& (1 : Int32)))))])
      refine OFin.st (fun t k => XS.i2l X41.here hx rfl (hb hby at_226) rfl k) ?_
      show OFin p e below _ _ T41 (mkF m 227 #[.val (.long q0), .second, .val (.int p1), .val (.int (((p1 &&& (2147483647 : Int32)) % (10 : Int32)) + (1 : Int32))), .val (.ref b1), .val (.ref b33), .val (.int (((((vac (fun i => F1 q0 (Int32.ofNat i) (((p1 &&& (2147483647 : Int32)) % (10 : Int32)) + (1 : Int32))) ((kvOf p1) + 1)).toInt32).toUInt32 >>> ((1 : Int32) &&& 31).toUInt32).toInt32) ^^^ (-(((vac (fun i => F1 q0 (Int32.ofNat i) (((p1 &&& (2147483647 : Int32)) % (10 : Int32)) + (1 : Int32))) ((kvOf p1) + 1)).toInt32) &&& (1 : Int32))))), .val (.long q0), .second, .val (.long (q0 &&& (4294967295 : Int64))), .second, .val (.long ((-((q0 &&& (4294967295 : Int64)) / (2 : Int64))) - (1 : Int64))), .second] [(.long ((((((vac (fun i => F1 q0 (Int32.ofNat i) (((p1 &&& (2147483647 : Int32)) % (10 : Int32)) + (1 : Int32))) ((kvOf p1) + 1)).toInt32).toUInt32 >>> ((1 : Int32) &&& 31).toUInt32).toInt32) ^^^ (-(((vac (fun i => F1 q0 (Int32.ofNat i) (((p1 &&& (2147483647 : Int32)) % (10 : Int32)) + (1 : Int32))) ((kvOf p1) + 1)).toInt32) &&& (1 : Int32)))).toInt64))])
      refine OFin.st (fun t k => XS.lload X41.here hx rfl (hb hby at_227) rfl k) ?_
      show OFin p e below _ _ T41 (mkF m 229 #[.val (.long q0), .second, .val (.int p1), .val (.int (((p1 &&& (2147483647 : Int32)) % (10 : Int32)) + (1 : Int32))), .val (.ref b1), .val (.ref b33), .val (.int (((((vac (fun i => F1 q0 (Int32.ofNat i) (((p1 &&& (2147483647 : Int32)) % (10 : Int32)) + (1 : Int32))) ((kvOf p1) + 1)).toInt32).toUInt32 >>> ((1 : Int32) &&& 31).toUInt32).toInt32) ^^^ (-(((vac (fun i => F1 q0 (Int32.ofNat i) (((p1 &&& (2147483647 : Int32)) % (10 : Int32)) + (1 : Int32))) ((kvOf p1) + 1)).toInt32) &&& (1 : Int32))))), .val (.long q0), .second, .val (.long (q0 &&& (4294967295 : Int64))), .second, .val (.long ((-((q0 &&& (4294967295 : Int64)) / (2 : Int64))) - (1 : Int64))), .second] [(.long ((-((q0 &&& (4294967295 : Int64)) / (2 : Int64))) - (1 : Int64))), (.long ((((((vac (fun i => F1 q0 (Int32.ofNat i) (((p1 &&& (2147483647 : Int32)) % (10 : Int32)) + (1 : Int32))) ((kvOf p1) + 1)).toInt32).toUInt32 >>> ((1 : Int32) &&& 31).toUInt32).toInt32) ^^^ (-(((vac (fun i => F1 q0 (Int32.ofNat i) (((p1 &&& (2147483647 : Int32)) % (10 : Int32)) + (1 : Int32))) ((kvOf p1) + 1)).toInt32) &&& (1 : Int32)))).toInt64))])
      refine OFin.st (fun t k => XS.lcmp X41.here hx rfl (hb hby at_229) rfl k) ?_
      show OFin p e below _ _ T41 (mkF m 230 #[.val (.long q0), .second, .val (.int p1), .val (.int (((p1 &&& (2147483647 : Int32)) % (10 : Int32)) + (1 : Int32))), .val (.ref b1), .val (.ref b33), .val (.int (((((vac (fun i => F1 q0 (Int32.ofNat i) (((p1 &&& (2147483647 : Int32)) % (10 : Int32)) + (1 : Int32))) ((kvOf p1) + 1)).toInt32).toUInt32 >>> ((1 : Int32) &&& 31).toUInt32).toInt32) ^^^ (-(((vac (fun i => F1 q0 (Int32.ofNat i) (((p1 &&& (2147483647 : Int32)) % (10 : Int32)) + (1 : Int32))) ((kvOf p1) + 1)).toInt32) &&& (1 : Int32))))), .val (.long q0), .second, .val (.long (q0 &&& (4294967295 : Int64))), .second, .val (.long ((-((q0 &&& (4294967295 : Int64)) / (2 : Int64))) - (1 : Int64))), .second] [(.int (lcmpW ((((((vac (fun i => F1 q0 (Int32.ofNat i) (((p1 &&& (2147483647 : Int32)) % (10 : Int32)) + (1 : Int32))) ((kvOf p1) + 1)).toInt32).toUInt32 >>> ((1 : Int32) &&& 31).toUInt32).toInt32) ^^^ (-(((vac (fun i => F1 q0 (Int32.ofNat i) (((p1 &&& (2147483647 : Int32)) % (10 : Int32)) + (1 : Int32))) ((kvOf p1) + 1)).toInt32) &&& (1 : Int32)))).toInt64) ((-((q0 &&& (4294967295 : Int64)) / (2 : Int64))) - (1 : Int64))))])
      refine OFin.st (fun t k => XS.ifNo X41.here hx rfl (hb hby at_230) rfl ((if0 _ _).trans (teq ((lw_eq ((((((vac (fun i => F1 q0 (Int32.ofNat i) (((p1 &&& (2147483647 : Int32)) % (10 : Int32)) + (1 : Int32))) ((kvOf p1) + 1)).toInt32).toUInt32 >>> ((1 : Int32) &&& 31).toUInt32).toInt32) ^^^ (-(((vac (fun i => F1 q0 (Int32.ofNat i) (((p1 &&& (2147483647 : Int32)) % (10 : Int32)) + (1 : Int32))) ((kvOf p1) + 1)).toInt32) &&& (1 : Int32)))).toInt64) ((-((q0 &&& (4294967295 : Int64)) / (2 : Int64))) - (1 : Int64))).mpr (by rw [own_vac q0 p1, if_pos hc164]; exact (own_zig _).2 hc199))).2) k) ?_
      show OFin p e below _ _ T41 (mkF m 233 #[.val (.long q0), .second, .val (.int p1), .val (.int (((p1 &&& (2147483647 : Int32)) % (10 : Int32)) + (1 : Int32))), .val (.ref b1), .val (.ref b33), .val (.int (((((vac (fun i => F1 q0 (Int32.ofNat i) (((p1 &&& (2147483647 : Int32)) % (10 : Int32)) + (1 : Int32))) ((kvOf p1) + 1)).toInt32).toUInt32 >>> ((1 : Int32) &&& 31).toUInt32).toInt32) ^^^ (-(((vac (fun i => F1 q0 (Int32.ofNat i) (((p1 &&& (2147483647 : Int32)) % (10 : Int32)) + (1 : Int32))) ((kvOf p1) + 1)).toInt32) &&& (1 : Int32))))), .val (.long q0), .second, .val (.long (q0 &&& (4294967295 : Int64))), .second, .val (.long ((-((q0 &&& (4294967295 : Int64)) / (2 : Int64))) - (1 : Int64))), .second] [])
      refine OFin.st (fun t k => XS.iconst X41.here hx rfl (hb hby at_233) k) ?_
      show OFin p e below _ _ T41 (mkF m 234 #[.val (.long q0), .second, .val (.int p1), .val (.int (((p1 &&& (2147483647 : Int32)) % (10 : Int32)) + (1 : Int32))), .val (.ref b1), .val (.ref b33), .val (.int (((((vac (fun i => F1 q0 (Int32.ofNat i) (((p1 &&& (2147483647 : Int32)) % (10 : Int32)) + (1 : Int32))) ((kvOf p1) + 1)).toInt32).toUInt32 >>> ((1 : Int32) &&& 31).toUInt32).toInt32) ^^^ (-(((vac (fun i => F1 q0 (Int32.ofNat i) (((p1 &&& (2147483647 : Int32)) % (10 : Int32)) + (1 : Int32))) ((kvOf p1) + 1)).toInt32) &&& (1 : Int32))))), .val (.long q0), .second, .val (.long (q0 &&& (4294967295 : Int64))), .second, .val (.long ((-((q0 &&& (4294967295 : Int64)) / (2 : Int64))) - (1 : Int64))), .second] [(.int (1 : Int32))])
      refine OFin.st (fun t k => XS.goto X41.here hx rfl (pc0 := 234) (pc' := 238) rfl (hb hby at_234) (by decide) (by decide) k) ?_
      show OFin p e below _ _ T41 (mkF m 238 #[.val (.long q0), .second, .val (.int p1), .val (.int (((p1 &&& (2147483647 : Int32)) % (10 : Int32)) + (1 : Int32))), .val (.ref b1), .val (.ref b33), .val (.int (((((vac (fun i => F1 q0 (Int32.ofNat i) (((p1 &&& (2147483647 : Int32)) % (10 : Int32)) + (1 : Int32))) ((kvOf p1) + 1)).toInt32).toUInt32 >>> ((1 : Int32) &&& 31).toUInt32).toInt32) ^^^ (-(((vac (fun i => F1 q0 (Int32.ofNat i) (((p1 &&& (2147483647 : Int32)) % (10 : Int32)) + (1 : Int32))) ((kvOf p1) + 1)).toInt32) &&& (1 : Int32))))), .val (.long q0), .second, .val (.long (q0 &&& (4294967295 : Int64))), .second, .val (.long ((-((q0 &&& (4294967295 : Int64)) / (2 : Int64))) - (1 : Int64))), .second] [(.int (1 : Int32))])
      exact own_retN X41 hx Bd.returns Bd.notSynchronized (t := .boolean) (by simp) rfl (hb hby at_238) (by show Qrm0 Z q0 p1 kW vW w_WIRE_TYPES h0 n0 _ T41.heap _; exact ⟨rfl, N41, K41⟩) (own_endW hS34 (by exact hk41) (by decide) (by decide))
  · refine OFin.st (fun t k => XS.icmpYes X41.here hx rfl (pc0 := 164) (pc' := 171) rfl (hb hby at_164) rfl (feq hc164).2 (by decide) (by decide) k) ?_
    show OFin p e below _ _ T41 (mkF m 171 #[.val (.long q0), .second, .val (.int p1), .val (.int (((p1 &&& (2147483647 : Int32)) % (10 : Int32)) + (1 : Int32))), .val (.ref b1), .val (.ref b33), .val (.int (((((vac (fun i => F1 q0 (Int32.ofNat i) (((p1 &&& (2147483647 : Int32)) % (10 : Int32)) + (1 : Int32))) ((kvOf p1) + 1)).toInt32).toUInt32 >>> ((1 : Int32) &&& 31).toUInt32).toInt32) ^^^ (-(((vac (fun i => F1 q0 (Int32.ofNat i) (((p1 &&& (2147483647 : Int32)) % (10 : Int32)) + (1 : Int32))) ((kvOf p1) + 1)).toInt32) &&& (1 : Int32))))), .unset, .unset, .unset, .unset, .unset, .unset] [])
    refine OFin.st (fun t k => XS.lloadN X41.here hx rfl (hb hby at_171) rfl k) ?_
    show OFin p e below _ _ T41 (mkF m 172 #[.val (.long q0), .second, .val (.int p1), .val (.int (((p1 &&& (2147483647 : Int32)) % (10 : Int32)) + (1 : Int32))), .val (.ref b1), .val (.ref b33), .val (.int (((((vac (fun i => F1 q0 (Int32.ofNat i) (((p1 &&& (2147483647 : Int32)) % (10 : Int32)) + (1 : Int32))) ((kvOf p1) + 1)).toInt32).toUInt32 >>> ((1 : Int32) &&& 31).toUInt32).toInt32) ^^^ (-(((vac (fun i => F1 q0 (Int32.ofNat i) (((p1 &&& (2147483647 : Int32)) % (10 : Int32)) + (1 : Int32))) ((kvOf p1) + 1)).toInt32) &&& (1 : Int32))))), .unset, .unset, .unset, .unset, .unset, .unset] [(.long q0)])
    refine OFin.st (fun t k => XS.lconst X41.here hx rfl (hb hby at_172) k) ?_
    show OFin p e below _ _ T41 (mkF m 173 #[.val (.long q0), .second, .val (.int p1), .val (.int (((p1 &&& (2147483647 : Int32)) % (10 : Int32)) + (1 : Int32))), .val (.ref b1), .val (.ref b33), .val (.int (((((vac (fun i => F1 q0 (Int32.ofNat i) (((p1 &&& (2147483647 : Int32)) % (10 : Int32)) + (1 : Int32))) ((kvOf p1) + 1)).toInt32).toUInt32 >>> ((1 : Int32) &&& 31).toUInt32).toInt32) ^^^ (-(((vac (fun i => F1 q0 (Int32.ofNat i) (((p1 &&& (2147483647 : Int32)) % (10 : Int32)) + (1 : Int32))) ((kvOf p1) + 1)).toInt32) &&& (1 : Int32))))), .unset, .unset, .unset, .unset, .unset, .unset] [(.long (1 : Int64)), (.long q0)])
    refine OFin.st (fun t k => XS.bipush X41.here hx rfl (hb hby at_173) k) ?_
    show OFin p e below _ _ T41 (mkF m 175 #[.val (.long q0), .second, .val (.int p1), .val (.int (((p1 &&& (2147483647 : Int32)) % (10 : Int32)) + (1 : Int32))), .val (.ref b1), .val (.ref b33), .val (.int (((((vac (fun i => F1 q0 (Int32.ofNat i) (((p1 &&& (2147483647 : Int32)) % (10 : Int32)) + (1 : Int32))) ((kvOf p1) + 1)).toInt32).toUInt32 >>> ((1 : Int32) &&& 31).toUInt32).toInt32) ^^^ (-(((vac (fun i => F1 q0 (Int32.ofNat i) (((p1 &&& (2147483647 : Int32)) % (10 : Int32)) + (1 : Int32))) ((kvOf p1) + 1)).toInt32) &&& (1 : Int32))))), .unset, .unset, .unset, .unset, .unset, .unset] [(.int (7 : Int32)), (.long (1 : Int64)), (.long q0)])
    refine OFin.st (fun t k => XS.iloadN X41.here hx rfl (hb hby at_175) rfl k) ?_
    show OFin p e below _ _ T41 (mkF m 176 #[.val (.long q0), .second, .val (.int p1), .val (.int (((p1 &&& (2147483647 : Int32)) % (10 : Int32)) + (1 : Int32))), .val (.ref b1), .val (.ref b33), .val (.int (((((vac (fun i => F1 q0 (Int32.ofNat i) (((p1 &&& (2147483647 : Int32)) % (10 : Int32)) + (1 : Int32))) ((kvOf p1) + 1)).toInt32).toUInt32 >>> ((1 : Int32) &&& 31).toUInt32).toInt32) ^^^ (-(((vac (fun i => F1 q0 (Int32.ofNat i) (((p1 &&& (2147483647 : Int32)) % (10 : Int32)) + (1 : Int32))) ((kvOf p1) + 1)).toInt32) &&& (1 : Int32))))), .unset, .unset, .unset, .unset, .unset, .unset] [(.int (((p1 &&& (2147483647 : Int32)) % (10 : Int32)) + (1 : Int32))), (.int (7 : Int32)), (.long (1 : Int64)), (.long q0)])
    refine OFin.st (fun t k => XS.imul X41.here hx rfl (hb hby at_176) rfl k) ?_
    show OFin p e below _ _ T41 (mkF m 177 #[.val (.long q0), .second, .val (.int p1), .val (.int (((p1 &&& (2147483647 : Int32)) % (10 : Int32)) + (1 : Int32))), .val (.ref b1), .val (.ref b33), .val (.int (((((vac (fun i => F1 q0 (Int32.ofNat i) (((p1 &&& (2147483647 : Int32)) % (10 : Int32)) + (1 : Int32))) ((kvOf p1) + 1)).toInt32).toUInt32 >>> ((1 : Int32) &&& 31).toUInt32).toInt32) ^^^ (-(((vac (fun i => F1 q0 (Int32.ofNat i) (((p1 &&& (2147483647 : Int32)) % (10 : Int32)) + (1 : Int32))) ((kvOf p1) + 1)).toInt32) &&& (1 : Int32))))), .unset, .unset, .unset, .unset, .unset, .unset] [(.int ((7 : Int32) * (((p1 &&& (2147483647 : Int32)) % (10 : Int32)) + (1 : Int32)))), (.long (1 : Int64)), (.long q0)])
    refine OFin.st (fun t k => XS.lshl X41.here hx rfl (hb hby at_177) rfl k) ?_
    show OFin p e below _ _ T41 (mkF m 178 #[.val (.long q0), .second, .val (.int p1), .val (.int (((p1 &&& (2147483647 : Int32)) % (10 : Int32)) + (1 : Int32))), .val (.ref b1), .val (.ref b33), .val (.int (((((vac (fun i => F1 q0 (Int32.ofNat i) (((p1 &&& (2147483647 : Int32)) % (10 : Int32)) + (1 : Int32))) ((kvOf p1) + 1)).toInt32).toUInt32 >>> ((1 : Int32) &&& 31).toUInt32).toInt32) ^^^ (-(((vac (fun i => F1 q0 (Int32.ofNat i) (((p1 &&& (2147483647 : Int32)) % (10 : Int32)) + (1 : Int32))) ((kvOf p1) + 1)).toInt32) &&& (1 : Int32))))), .unset, .unset, .unset, .unset, .unset, .unset] [(.long ((1 : Int64) <<< (((7 : Int32) * (((p1 &&& (2147483647 : Int32)) % (10 : Int32)) + (1 : Int32))) &&& 0x3f).toInt64)), (.long q0)])
    refine OFin.st (fun t k => XS.lconst X41.here hx rfl (hb hby at_178) k) ?_
    show OFin p e below _ _ T41 (mkF m 179 #[.val (.long q0), .second, .val (.int p1), .val (.int (((p1 &&& (2147483647 : Int32)) % (10 : Int32)) + (1 : Int32))), .val (.ref b1), .val (.ref b33), .val (.int (((((vac (fun i => F1 q0 (Int32.ofNat i) (((p1 &&& (2147483647 : Int32)) % (10 : Int32)) + (1 : Int32))) ((kvOf p1) + 1)).toInt32).toUInt32 >>> ((1 : Int32) &&& 31).toUInt32).toInt32) ^^^ (-(((vac (fun i => F1 q0 (Int32.ofNat i) (((p1 &&& (2147483647 : Int32)) % (10 : Int32)) + (1 : Int32))) ((kvOf p1) + 1)).toInt32) &&& (1 : Int32))))), .unset, .unset, .unset, .unset, .unset, .unset] [(.long (1 : Int64)), (.long ((1 : Int64) <<< (((7 : Int32) * (((p1 &&& (2147483647 : Int32)) % (10 : Int32)) + (1 : Int32))) &&& 0x3f).toInt64)), (.long q0)])
    refine OFin.st (fun t k => XS.lsub X41.here hx rfl (hb hby at_179) rfl k) ?_
    show OFin p e below _ _ T41 (mkF m 180 #[.val (.long q0), .second, .val (.int p1), .val (.int (((p1 &&& (2147483647 : Int32)) % (10 : Int32)) + (1 : Int32))), .val (.ref b1), .val (.ref b33), .val (.int (((((vac (fun i => F1 q0 (Int32.ofNat i) (((p1 &&& (2147483647 : Int32)) % (10 : Int32)) + (1 : Int32))) ((kvOf p1) + 1)).toInt32).toUInt32 >>> ((1 : Int32) &&& 31).toUInt32).toInt32) ^^^ (-(((vac (fun i => F1 q0 (Int32.ofNat i) (((p1 &&& (2147483647 : Int32)) % (10 : Int32)) + (1 : Int32))) ((kvOf p1) + 1)).toInt32) &&& (1 : Int32))))), .unset, .unset, .unset, .unset, .unset, .unset] [(.long (((1 : Int64) <<< (((7 : Int32) * (((p1 &&& (2147483647 : Int32)) % (10 : Int32)) + (1 : Int32))) &&& 0x3f).toInt64) - (1 : Int64))), (.long q0)])
    refine OFin.st (fun t k => XS.land X41.here hx rfl (hb hby at_180) rfl k) ?_
    show OFin p e below _ _ T41 (mkF m 181 #[.val (.long q0), .second, .val (.int p1), .val (.int (((p1 &&& (2147483647 : Int32)) % (10 : Int32)) + (1 : Int32))), .val (.ref b1), .val (.ref b33), .val (.int (((((vac (fun i => F1 q0 (Int32.ofNat i) (((p1 &&& (2147483647 : Int32)) % (10 : Int32)) + (1 : Int32))) ((kvOf p1) + 1)).toInt32).toUInt32 >>> ((1 : Int32) &&& 31).toUInt32).toInt32) ^^^ (-(((vac (fun i => F1 q0 (Int32.ofNat i) (((p1 &&& (2147483647 : Int32)) % (10 : Int32)) + (1 : Int32))) ((kvOf p1) + 1)).toInt32) &&& (1 : Int32))))), .unset, .unset, .unset, .unset, .unset, .unset] [(.long (q0 &&& (((1 : Int64) <<< (((7 : Int32) * (((p1 &&& (2147483647 : Int32)) % (10 : Int32)) + (1 : Int32))) &&& 0x3f).toInt64) - (1 : Int64))))])
    refine OFin.st (fun t k => XS.lstore X41.here hx rfl (hb hby at_181) rfl (l' := #[.val (.long q0), .second, .val (.int p1), .val (.int (((p1 &&& (2147483647 : Int32)) % (10 : Int32)) + (1 : Int32))), .val (.ref b1), .val (.ref b33), .val (.int (((((vac (fun i => F1 q0 (Int32.ofNat i) (((p1 &&& (2147483647 : Int32)) % (10 : Int32)) + (1 : Int32))) ((kvOf p1) + 1)).toInt32).toUInt32 >>> ((1 : Int32) &&& 31).toUInt32).toInt32) ^^^ (-(((vac (fun i => F1 q0 (Int32.ofNat i) (((p1 &&& (2147483647 : Int32)) % (10 : Int32)) + (1 : Int32))) ((kvOf p1) + 1)).toInt32) &&& (1 : Int32))))), .val (.long (q0 &&& (((1 : Int64) <<< (((7 : Int32) * (((p1 &&& (2147483647 : Int32)) % (10 : Int32)) + (1 : Int32))) &&& 0x3f).toInt64) - (1 : Int64)))), .second, .unset, .unset, .unset, .unset]) rfl k) ?_
    show OFin p e below _ _ T41 (mkF m 183 #[.val (.long q0), .second, .val (.int p1), .val (.int (((p1 &&& (2147483647 : Int32)) % (10 : Int32)) + (1 : Int32))), .val (.ref b1), .val (.ref b33), .val (.int (((((vac (fun i => F1 q0 (Int32.ofNat i) (((p1 &&& (2147483647 : Int32)) % (10 : Int32)) + (1 : Int32))) ((kvOf p1) + 1)).toInt32).toUInt32 >>> ((1 : Int32) &&& 31).toUInt32).toInt32) ^^^ (-(((vac (fun i => F1 q0 (Int32.ofNat i) (((p1 &&& (2147483647 : Int32)) % (10 : Int32)) + (1 : Int32))) ((kvOf p1) + 1)).toInt32) &&& (1 : Int32))))), .val (.long (q0 &&& (((1 : Int64) <<< (((7 : Int32) * (((p1 &&& (2147483647 : Int32)) % (10 : Int32)) + (1 : Int32))) &&& 0x3f).toInt64) - (1 : Int64)))), .second, .unset, .unset, .unset, .unset] [])
    refine OFin.st (fun t k => XS.lload X41.here hx rfl (hb hby at_183) rfl k) ?_
    show OFin p e below _ _ T41 (mkF m 185 #[.val (.long q0), .second, .val (.int p1), .val (.int (((p1 &&& (2147483647 : Int32)) % (10 : Int32)) + (1 : Int32))), .val (.ref b1), .val (.ref b33), .val (.int (((((vac (fun i => F1 q0 (Int32.ofNat i) (((p1 &&& (2147483647 : Int32)) % (10 : Int32)) + (1 : Int32))) ((kvOf p1) + 1)).toInt32).toUInt32 >>> ((1 : Int32) &&& 31).toUInt32).toInt32) ^^^ (-(((vac (fun i => F1 q0 (Int32.ofNat i) (((p1 &&& (2147483647 : Int32)) % (10 : Int32)) + (1 : Int32))) ((kvOf p1) + 1)).toInt32) &&& (1 : Int32))))), .val (.long (q0 &&& (((1 : Int64) <<< (((7 : Int32) * (((p1 &&& (2147483647 : Int32)) % (10 : Int32)) + (1 : Int32))) &&& 0x3f).toInt64) - (1 : Int64)))), .second, .unset, .unset, .unset, .unset] [(.long (q0 &&& (((1 : Int64) <<< (((7 : Int32) * (((p1 &&& (2147483647 : Int32)) % (10 : Int32)) + (1 : Int32))) &&& 0x3f).toInt64) - (1 : Int64))))])
    refine OFin.st (X41.ldc2Long hx hown (mvT hZ (hw _ (List.mem_of_getElem? (i := 69) rfl))) (g := (mkF m 185 #[.val (.long q0), .second, .val (.int p1), .val (.int (((p1 &&& (2147483647 : Int32)) % (10 : Int32)) + (1 : Int32))), .val (.ref b1), .val (.ref b33), .val (.int (((((vac (fun i => F1 q0 (Int32.ofNat i) (((p1 &&& (2147483647 : Int32)) % (10 : Int32)) + (1 : Int32))) ((kvOf p1) + 1)).toInt32).toUInt32 >>> ((1 : Int32) &&& 31).toUInt32).toInt32) ^^^ (-(((vac (fun i => F1 q0 (Int32.ofNat i) (((p1 &&& (2147483647 : Int32)) % (10 : Int32)) + (1 : Int32))) ((kvOf p1) + 1)).toInt32) &&& (1 : Int32))))), .val (.long (q0 &&& (((1 : Int64) <<< (((7 : Int32) * (((p1 &&& (2147483647 : Int32)) % (10 : Int32)) + (1 : Int32))) &&& 0x3f).toInt64) - (1 : Int64)))), .second, .unset, .unset, .unset, .unset] [(.long (q0 &&& (((1 : Int64) <<< (((7 : Int32) * (((p1 &&& (2147483647 : Int32)) % (10 : Int32)) + (1 : Int32))) &&& 0x3f).toInt64) - (1 : Int64))))])) rfl (hb hby at_185)) ?_
    show OFin p e below _ _ T41 (mkF m 188 #[.val (.long q0), .second, .val (.int p1), .val (.int (((p1 &&& (2147483647 : Int32)) % (10 : Int32)) + (1 : Int32))), .val (.ref b1), .val (.ref b33), .val (.int (((((vac (fun i => F1 q0 (Int32.ofNat i) (((p1 &&& (2147483647 : Int32)) % (10 : Int32)) + (1 : Int32))) ((kvOf p1) + 1)).toInt32).toUInt32 >>> ((1 : Int32) &&& 31).toUInt32).toInt32) ^^^ (-(((vac (fun i => F1 q0 (Int32.ofNat i) (((p1 &&& (2147483647 : Int32)) % (10 : Int32)) + (1 : Int32))) ((kvOf p1) + 1)).toInt32) &&& (1 : Int32))))), .val (.long (q0 &&& (((1 : Int64) <<< (((7 : Int32) * (((p1 &&& (2147483647 : Int32)) % (10 : Int32)) + (1 : Int32))) &&& 0x3f).toInt64) - (1 : Int64)))), .second, .unset, .unset, .unset, .unset] [(.long (4294967295 : Int64)), (.long (q0 &&& (((1 : Int64) <<< (((7 : Int32) * (((p1 &&& (2147483647 : Int32)) % (10 : Int32)) + (1 : Int32))) &&& 0x3f).toInt64) - (1 : Int64))))])
    refine OFin.st (fun t k => XS.land X41.here hx rfl (hb hby at_188) rfl k) ?_
    show OFin p e below _ _ T41 (mkF m 189 #[.val (.long q0), .second, .val (.int p1), .val (.int (((p1 &&& (2147483647 : Int32)) % (10 : Int32)) + (1 : Int32))), .val (.ref b1), .val (.ref b33), .val (.int (((((vac (fun i => F1 q0 (Int32.ofNat i) (((p1 &&& (2147483647 : Int32)) % (10 : Int32)) + (1 : Int32))) ((kvOf p1) + 1)).toInt32).toUInt32 >>> ((1 : Int32) &&& 31).toUInt32).toInt32) ^^^ (-(((vac (fun i => F1 q0 (Int32.ofNat i) (((p1 &&& (2147483647 : Int32)) % (10 : Int32)) + (1 : Int32))) ((kvOf p1) + 1)).toInt32) &&& (1 : Int32))))), .val (.long (q0 &&& (((1 : Int64) <<< (((7 : Int32) * (((p1 &&& (2147483647 : Int32)) % (10 : Int32)) + (1 : Int32))) &&& 0x3f).toInt64) - (1 : Int64)))), .second, .unset, .unset, .unset, .unset] [(.long ((q0 &&& (((1 : Int64) <<< (((7 : Int32) * (((p1 &&& (2147483647 : Int32)) % (10 : Int32)) + (1 : Int32))) &&& 0x3f).toInt64) - (1 : Int64))) &&& (4294967295 : Int64)))])
    refine OFin.st (fun t k => XS.lstore X41.here hx rfl (hb hby at_189) rfl (l' := #[.val (.long q0), .second, .val (.int p1), .val (.int (((p1 &&& (2147483647 : Int32)) % (10 : Int32)) + (1 : Int32))), .val (.ref b1), .val (.ref b33), .val (.int (((((vac (fun i => F1 q0 (Int32.ofNat i) (((p1 &&& (2147483647 : Int32)) % (10 : Int32)) + (1 : Int32))) ((kvOf p1) + 1)).toInt32).toUInt32 >>> ((1 : Int32) &&& 31).toUInt32).toInt32) ^^^ (-(((vac (fun i => F1 q0 (Int32.ofNat i) (((p1 &&& (2147483647 : Int32)) % (10 : Int32)) + (1 : Int32))) ((kvOf p1) + 1)).toInt32) &&& (1 : Int32))))), .val (.long (q0 &&& (((1 : Int64) <<< (((7 : Int32) * (((p1 &&& (2147483647 : Int32)) % (10 : Int32)) + (1 : Int32))) &&& 0x3f).toInt64) - (1 : Int64)))), .second, .val (.long ((q0 &&& (((1 : Int64) <<< (((7 : Int32) * (((p1 &&& (2147483647 : Int32)) % (10 : Int32)) + (1 : Int32))) &&& 0x3f).toInt64) - (1 : Int64))) &&& (4294967295 : Int64))), .second, .unset, .unset]) rfl k) ?_
    show OFin p e below _ _ T41 (mkF m 191 #[.val (.long q0), .second, .val (.int p1), .val (.int (((p1 &&& (2147483647 : Int32)) % (10 : Int32)) + (1 : Int32))), .val (.ref b1), .val (.ref b33), .val (.int (((((vac (fun i => F1 q0 (Int32.ofNat i) (((p1 &&& (2147483647 : Int32)) % (10 : Int32)) + (1 : Int32))) ((kvOf p1) + 1)).toInt32).toUInt32 >>> ((1 : Int32) &&& 31).toUInt32).toInt32) ^^^ (-(((vac (fun i => F1 q0 (Int32.ofNat i) (((p1 &&& (2147483647 : Int32)) % (10 : Int32)) + (1 : Int32))) ((kvOf p1) + 1)).toInt32) &&& (1 : Int32))))), .val (.long (q0 &&& (((1 : Int64) <<< (((7 : Int32) * (((p1 &&& (2147483647 : Int32)) % (10 : Int32)) + (1 : Int32))) &&& 0x3f).toInt64) - (1 : Int64)))), .second, .val (.long ((q0 &&& (((1 : Int64) <<< (((7 : Int32) * (((p1 &&& (2147483647 : Int32)) % (10 : Int32)) + (1 : Int32))) &&& 0x3f).toInt64) - (1 : Int64))) &&& (4294967295 : Int64))), .second, .unset, .unset] [])
    refine OFin.st (fun t k => XS.lload X41.here hx rfl (hb hby at_191) rfl k) ?_
    show OFin p e below _ _ T41 (mkF m 193 #[.val (.long q0), .second, .val (.int p1), .val (.int (((p1 &&& (2147483647 : Int32)) % (10 : Int32)) + (1 : Int32))), .val (.ref b1), .val (.ref b33), .val (.int (((((vac (fun i => F1 q0 (Int32.ofNat i) (((p1 &&& (2147483647 : Int32)) % (10 : Int32)) + (1 : Int32))) ((kvOf p1) + 1)).toInt32).toUInt32 >>> ((1 : Int32) &&& 31).toUInt32).toInt32) ^^^ (-(((vac (fun i => F1 q0 (Int32.ofNat i) (((p1 &&& (2147483647 : Int32)) % (10 : Int32)) + (1 : Int32))) ((kvOf p1) + 1)).toInt32) &&& (1 : Int32))))), .val (.long (q0 &&& (((1 : Int64) <<< (((7 : Int32) * (((p1 &&& (2147483647 : Int32)) % (10 : Int32)) + (1 : Int32))) &&& 0x3f).toInt64) - (1 : Int64)))), .second, .val (.long ((q0 &&& (((1 : Int64) <<< (((7 : Int32) * (((p1 &&& (2147483647 : Int32)) % (10 : Int32)) + (1 : Int32))) &&& 0x3f).toInt64) - (1 : Int64))) &&& (4294967295 : Int64))), .second, .unset, .unset] [(.long ((q0 &&& (((1 : Int64) <<< (((7 : Int32) * (((p1 &&& (2147483647 : Int32)) % (10 : Int32)) + (1 : Int32))) &&& 0x3f).toInt64) - (1 : Int64))) &&& (4294967295 : Int64)))])
    refine OFin.st (X41.ldc2Long hx hown (mvT hZ (hw _ (List.mem_of_getElem? (i := 70) rfl))) (g := (mkF m 193 #[.val (.long q0), .second, .val (.int p1), .val (.int (((p1 &&& (2147483647 : Int32)) % (10 : Int32)) + (1 : Int32))), .val (.ref b1), .val (.ref b33), .val (.int (((((vac (fun i => F1 q0 (Int32.ofNat i) (((p1 &&& (2147483647 : Int32)) % (10 : Int32)) + (1 : Int32))) ((kvOf p1) + 1)).toInt32).toUInt32 >>> ((1 : Int32) &&& 31).toUInt32).toInt32) ^^^ (-(((vac (fun i => F1 q0 (Int32.ofNat i) (((p1 &&& (2147483647 : Int32)) % (10 : Int32)) + (1 : Int32))) ((kvOf p1) + 1)).toInt32) &&& (1 : Int32))))), .val (.long (q0 &&& (((1 : Int64) <<< (((7 : Int32) * (((p1 &&& (2147483647 : Int32)) % (10 : Int32)) + (1 : Int32))) &&& 0x3f).toInt64) - (1 : Int64)))), .second, .val (.long ((q0 &&& (((1 : Int64) <<< (((7 : Int32) * (((p1 &&& (2147483647 : Int32)) % (10 : Int32)) + (1 : Int32))) &&& 0x3f).toInt64) - (1 : Int64))) &&& (4294967295 : Int64))), .second, .unset, .unset] [(.long ((q0 &&& (((1 : Int64) <<< (((7 : Int32) * (((p1 &&& (2147483647 : Int32)) % (10 : Int32)) + (1 : Int32))) &&& 0x3f).toInt64) - (1 : Int64))) &&& (4294967295 : Int64)))])) rfl (hb hby at_193)) ?_
    show OFin p e below _ _ T41 (mkF m 196 #[.val (.long q0), .second, .val (.int p1), .val (.int (((p1 &&& (2147483647 : Int32)) % (10 : Int32)) + (1 : Int32))), .val (.ref b1), .val (.ref b33), .val (.int (((((vac (fun i => F1 q0 (Int32.ofNat i) (((p1 &&& (2147483647 : Int32)) % (10 : Int32)) + (1 : Int32))) ((kvOf p1) + 1)).toInt32).toUInt32 >>> ((1 : Int32) &&& 31).toUInt32).toInt32) ^^^ (-(((vac (fun i => F1 q0 (Int32.ofNat i) (((p1 &&& (2147483647 : Int32)) % (10 : Int32)) + (1 : Int32))) ((kvOf p1) + 1)).toInt32) &&& (1 : Int32))))), .val (.long (q0 &&& (((1 : Int64) <<< (((7 : Int32) * (((p1 &&& (2147483647 : Int32)) % (10 : Int32)) + (1 : Int32))) &&& 0x3f).toInt64) - (1 : Int64)))), .second, .val (.long ((q0 &&& (((1 : Int64) <<< (((7 : Int32) * (((p1 &&& (2147483647 : Int32)) % (10 : Int32)) + (1 : Int32))) &&& 0x3f).toInt64) - (1 : Int64))) &&& (4294967295 : Int64))), .second, .unset, .unset] [(.long (2 : Int64)), (.long ((q0 &&& (((1 : Int64) <<< (((7 : Int32) * (((p1 &&& (2147483647 : Int32)) % (10 : Int32)) + (1 : Int32))) &&& 0x3f).toInt64) - (1 : Int64))) &&& (4294967295 : Int64)))])
    refine OFin.st (fun t k => own_lremM X41 hx rfl (hb hby at_196) rfl (by decide) k) ?_
    show OFin p e below _ _ T41 (mkF m 197 #[.val (.long q0), .second, .val (.int p1), .val (.int (((p1 &&& (2147483647 : Int32)) % (10 : Int32)) + (1 : Int32))), .val (.ref b1), .val (.ref b33), .val (.int (((((vac (fun i => F1 q0 (Int32.ofNat i) (((p1 &&& (2147483647 : Int32)) % (10 : Int32)) + (1 : Int32))) ((kvOf p1) + 1)).toInt32).toUInt32 >>> ((1 : Int32) &&& 31).toUInt32).toInt32) ^^^ (-(((vac (fun i => F1 q0 (Int32.ofNat i) (((p1 &&& (2147483647 : Int32)) % (10 : Int32)) + (1 : Int32))) ((kvOf p1) + 1)).toInt32) &&& (1 : Int32))))), .val (.long (q0 &&& (((1 : Int64) <<< (((7 : Int32) * (((p1 &&& (2147483647 : Int32)) % (10 : Int32)) + (1 : Int32))) &&& 0x3f).toInt64) - (1 : Int64)))), .second, .val (.long ((q0 &&& (((1 : Int64) <<< (((7 : Int32) * (((p1 &&& (2147483647 : Int32)) % (10 : Int32)) + (1 : Int32))) &&& 0x3f).toInt64) - (1 : Int64))) &&& (4294967295 : Int64))), .second, .unset, .unset] [(.long (((q0 &&& (((1 : Int64) <<< (((7 : Int32) * (((p1 &&& (2147483647 : Int32)) % (10 : Int32)) + (1 : Int32))) &&& 0x3f).toInt64) - (1 : Int64))) &&& (4294967295 : Int64)) % (2 : Int64)))])
    refine OFin.st (fun t k => XS.lconst X41.here hx rfl (hb hby at_197) k) ?_
    show OFin p e below _ _ T41 (mkF m 198 #[.val (.long q0), .second, .val (.int p1), .val (.int (((p1 &&& (2147483647 : Int32)) % (10 : Int32)) + (1 : Int32))), .val (.ref b1), .val (.ref b33), .val (.int (((((vac (fun i => F1 q0 (Int32.ofNat i) (((p1 &&& (2147483647 : Int32)) % (10 : Int32)) + (1 : Int32))) ((kvOf p1) + 1)).toInt32).toUInt32 >>> ((1 : Int32) &&& 31).toUInt32).toInt32) ^^^ (-(((vac (fun i => F1 q0 (Int32.ofNat i) (((p1 &&& (2147483647 : Int32)) % (10 : Int32)) + (1 : Int32))) ((kvOf p1) + 1)).toInt32) &&& (1 : Int32))))), .val (.long (q0 &&& (((1 : Int64) <<< (((7 : Int32) * (((p1 &&& (2147483647 : Int32)) % (10 : Int32)) + (1 : Int32))) &&& 0x3f).toInt64) - (1 : Int64)))), .second, .val (.long ((q0 &&& (((1 : Int64) <<< (((7 : Int32) * (((p1 &&& (2147483647 : Int32)) % (10 : Int32)) + (1 : Int32))) &&& 0x3f).toInt64) - (1 : Int64))) &&& (4294967295 : Int64))), .second, .unset, .unset] [(.long (0 : Int64)), (.long (((q0 &&& (((1 : Int64) <<< (((7 : Int32) * (((p1 &&& (2147483647 : Int32)) % (10 : Int32)) + (1 : Int32))) &&& 0x3f).toInt64) - (1 : Int64))) &&& (4294967295 : Int64)) % (2 : Int64)))])
    refine OFin.st (fun t k => XS.lcmp X41.here hx rfl (hb hby at_198) rfl k) ?_
    show OFin p e below _ _ T41 (mkF m 199 #[.val (.long q0), .second, .val (.int p1), .val (.int (((p1 &&& (2147483647 : Int32)) % (10 : Int32)) + (1 : Int32))), .val (.ref b1), .val (.ref b33), .val (.int (((((vac (fun i => F1 q0 (Int32.ofNat i) (((p1 &&& (2147483647 : Int32)) % (10 : Int32)) + (1 : Int32))) ((kvOf p1) + 1)).toInt32).toUInt32 >>> ((1 : Int32) &&& 31).toUInt32).toInt32) ^^^ (-(((vac (fun i => F1 q0 (Int32.ofNat i) (((p1 &&& (2147483647 : Int32)) % (10 : Int32)) + (1 : Int32))) ((kvOf p1) + 1)).toInt32) &&& (1 : Int32))))), .val (.long (q0 &&& (((1 : Int64) <<< (((7 : Int32) * (((p1 &&& (2147483647 : Int32)) % (10 : Int32)) + (1 : Int32))) &&& 0x3f).toInt64) - (1 : Int64)))), .second, .val (.long ((q0 &&& (((1 : Int64) <<< (((7 : Int32) * (((p1 &&& (2147483647 : Int32)) % (10 : Int32)) + (1 : Int32))) &&& 0x3f).toInt64) - (1 : Int64))) &&& (4294967295 : Int64))), .second, .unset, .unset] [(.int (lcmpW (((q0 &&& (((1 : Int64) <<< (((7 : Int32) * (((p1 &&& (2147483647 : Int32)) % (10 : Int32)) + (1 : Int32))) &&& 0x3f).toInt64) - (1 : Int64))) &&& (4294967295 : Int64)) % (2 : Int64)) (0 : Int64)))])
    by_cases hc199 : (((q0 &&& (((1 : Int64) <<< (((7 : Int32) * (((p1 &&& (2147483647 : Int32)) % (10 : Int32)) + (1 : Int32))) &&& 0x3f).toInt64) - (1 : Int64))) &&& (4294967295 : Int64)) % (2 : Int64)) = (0 : Int64)
    · refine OFin.st (fun t k => XS.ifNo X41.here hx rfl (hb hby at_199) rfl ((if0 _ _).trans (teq ((lw_eq (((q0 &&& (((1 : Int64) <<< (((7 : Int32) * (((p1 &&& (2147483647 : Int32)) % (10 : Int32)) + (1 : Int32))) &&& 0x3f).toInt64) - (1 : Int64))) &&& (4294967295 : Int64)) % (2 : Int64)) (0 : Int64)).mpr hc199)).2) k) ?_
      show OFin p e below _ _ T41 (mkF m 202 #[.val (.long q0), .second, .val (.int p1), .val (.int (((p1 &&& (2147483647 : Int32)) % (10 : Int32)) + (1 : Int32))), .val (.ref b1), .val (.ref b33), .val (.int (((((vac (fun i => F1 q0 (Int32.ofNat i) (((p1 &&& (2147483647 : Int32)) % (10 : Int32)) + (1 : Int32))) ((kvOf p1) + 1)).toInt32).toUInt32 >>> ((1 : Int32) &&& 31).toUInt32).toInt32) ^^^ (-(((vac (fun i => F1 q0 (Int32.ofNat i) (((p1 &&& (2147483647 : Int32)) % (10 : Int32)) + (1 : Int32))) ((kvOf p1) + 1)).toInt32) &&& (1 : Int32))))), .val (.long (q0 &&& (((1 : Int64) <<< (((7 : Int32) * (((p1 &&& (2147483647 : Int32)) % (10 : Int32)) + (1 : Int32))) &&& 0x3f).toInt64) - (1 : Int64)))), .second, .val (.long ((q0 &&& (((1 : Int64) <<< (((7 : Int32) * (((p1 &&& (2147483647 : Int32)) % (10 : Int32)) + (1 : Int32))) &&& 0x3f).toInt64) - (1 : Int64))) &&& (4294967295 : Int64))), .second, .unset, .unset] [])
      refine OFin.st (fun t k => XS.lload X41.here hx rfl (hb hby at_202) rfl k) ?_
      show OFin p e below _ _ T41 (mkF m 204 #[.val (.long q0), .second, .val (.int p1), .val (.int (((p1 &&& (2147483647 : Int32)) % (10 : Int32)) + (1 : Int32))), .val (.ref b1), .val (.ref b33), .val (.int (((((vac (fun i => F1 q0 (Int32.ofNat i) (((p1 &&& (2147483647 : Int32)) % (10 : Int32)) + (1 : Int32))) ((kvOf p1) + 1)).toInt32).toUInt32 >>> ((1 : Int32) &&& 31).toUInt32).toInt32) ^^^ (-(((vac (fun i => F1 q0 (Int32.ofNat i) (((p1 &&& (2147483647 : Int32)) % (10 : Int32)) + (1 : Int32))) ((kvOf p1) + 1)).toInt32) &&& (1 : Int32))))), .val (.long (q0 &&& (((1 : Int64) <<< (((7 : Int32) * (((p1 &&& (2147483647 : Int32)) % (10 : Int32)) + (1 : Int32))) &&& 0x3f).toInt64) - (1 : Int64)))), .second, .val (.long ((q0 &&& (((1 : Int64) <<< (((7 : Int32) * (((p1 &&& (2147483647 : Int32)) % (10 : Int32)) + (1 : Int32))) &&& 0x3f).toInt64) - (1 : Int64))) &&& (4294967295 : Int64))), .second, .unset, .unset] [(.long ((q0 &&& (((1 : Int64) <<< (((7 : Int32) * (((p1 &&& (2147483647 : Int32)) % (10 : Int32)) + (1 : Int32))) &&& 0x3f).toInt64) - (1 : Int64))) &&& (4294967295 : Int64)))])
      refine OFin.st (X41.ldc2Long hx hown (mvT hZ (hw _ (List.mem_of_getElem? (i := 70) rfl))) (g := (mkF m 204 #[.val (.long q0), .second, .val (.int p1), .val (.int (((p1 &&& (2147483647 : Int32)) % (10 : Int32)) + (1 : Int32))), .val (.ref b1), .val (.ref b33), .val (.int (((((vac (fun i => F1 q0 (Int32.ofNat i) (((p1 &&& (2147483647 : Int32)) % (10 : Int32)) + (1 : Int32))) ((kvOf p1) + 1)).toInt32).toUInt32 >>> ((1 : Int32) &&& 31).toUInt32).toInt32) ^^^ (-(((vac (fun i => F1 q0 (Int32.ofNat i) (((p1 &&& (2147483647 : Int32)) % (10 : Int32)) + (1 : Int32))) ((kvOf p1) + 1)).toInt32) &&& (1 : Int32))))), .val (.long (q0 &&& (((1 : Int64) <<< (((7 : Int32) * (((p1 &&& (2147483647 : Int32)) % (10 : Int32)) + (1 : Int32))) &&& 0x3f).toInt64) - (1 : Int64)))), .second, .val (.long ((q0 &&& (((1 : Int64) <<< (((7 : Int32) * (((p1 &&& (2147483647 : Int32)) % (10 : Int32)) + (1 : Int32))) &&& 0x3f).toInt64) - (1 : Int64))) &&& (4294967295 : Int64))), .second, .unset, .unset] [(.long ((q0 &&& (((1 : Int64) <<< (((7 : Int32) * (((p1 &&& (2147483647 : Int32)) % (10 : Int32)) + (1 : Int32))) &&& 0x3f).toInt64) - (1 : Int64))) &&& (4294967295 : Int64)))])) rfl (hb hby at_204)) ?_
      show OFin p e below _ _ T41 (mkF m 207 #[.val (.long q0), .second, .val (.int p1), .val (.int (((p1 &&& (2147483647 : Int32)) % (10 : Int32)) + (1 : Int32))), .val (.ref b1), .val (.ref b33), .val (.int (((((vac (fun i => F1 q0 (Int32.ofNat i) (((p1 &&& (2147483647 : Int32)) % (10 : Int32)) + (1 : Int32))) ((kvOf p1) + 1)).toInt32).toUInt32 >>> ((1 : Int32) &&& 31).toUInt32).toInt32) ^^^ (-(((vac (fun i => F1 q0 (Int32.ofNat i) (((p1 &&& (2147483647 : Int32)) % (10 : Int32)) + (1 : Int32))) ((kvOf p1) + 1)).toInt32) &&& (1 : Int32))))), .val (.long (q0 &&& (((1 : Int64) <<< (((7 : Int32) * (((p1 &&& (2147483647 : Int32)) % (10 : Int32)) + (1 : Int32))) &&& 0x3f).toInt64) - (1 : Int64)))), .second, .val (.long ((q0 &&& (((1 : Int64) <<< (((7 : Int32) * (((p1 &&& (2147483647 : Int32)) % (10 : Int32)) + (1 : Int32))) &&& 0x3f).toInt64) - (1 : Int64))) &&& (4294967295 : Int64))), .second, .unset, .unset] [(.long (2 : Int64)), (.long ((q0 &&& (((1 : Int64) <<< (((7 : Int32) * (((p1 &&& (2147483647 : Int32)) % (10 : Int32)) + (1 : Int32))) &&& 0x3f).toInt64) - (1 : Int64))) &&& (4294967295 : Int64)))])
      refine OFin.st (fun t k => XS.ldiv X41.here hx rfl (hb hby at_207) rfl (by decide) k) ?_
      show OFin p e below _ _ T41 (mkF m 208 #[.val (.long q0), .second, .val (.int p1), .val (.int (((p1 &&& (2147483647 : Int32)) % (10 : Int32)) + (1 : Int32))), .val (.ref b1), .val (.ref b33), .val (.int (((((vac (fun i => F1 q0 (Int32.ofNat i) (((p1 &&& (2147483647 : Int32)) % (10 : Int32)) + (1 : Int32))) ((kvOf p1) + 1)).toInt32).toUInt32 >>> ((1 : Int32) &&& 31).toUInt32).toInt32) ^^^ (-(((vac (fun i => F1 q0 (Int32.ofNat i) (((p1 &&& (2147483647 : Int32)) % (10 : Int32)) + (1 : Int32))) ((kvOf p1) + 1)).toInt32) &&& (1 : Int32))))), .val (.long (q0 &&& (((1 : Int64) <<< (((7 : Int32) * (((p1 &&& (2147483647 : Int32)) % (10 : Int32)) + (1 : Int32))) &&& 0x3f).toInt64) - (1 : Int64)))), .second, .val (.long ((q0 &&& (((1 : Int64) <<< (((7 : Int32) * (((p1 &&& (2147483647 : Int32)) % (10 : Int32)) + (1 : Int32))) &&& 0x3f).toInt64) - (1 : Int64))) &&& (4294967295 : Int64))), .second, .unset, .unset] [(.long (((q0 &&& (((1 : Int64) <<< (((7 : Int32) * (((p1 &&& (2147483647 : Int32)) % (10 : Int32)) + (1 : Int32))) &&& 0x3f).toInt64) - (1 : Int64))) &&& (4294967295 : Int64)) / (2 : Int64)))])
      refine OFin.st (fun t k => XS.lstore X41.here hx rfl (hb hby at_208) rfl (l' := #[.val (.long q0), .second, .val (.int p1), .val (.int (((p1 &&& (2147483647 : Int32)) % (10 : Int32)) + (1 : Int32))), .val (.ref b1), .val (.ref b33), .val (.int (((((vac (fun i => F1 q0 (Int32.ofNat i) (((p1 &&& (2147483647 : Int32)) % (10 : Int32)) + (1 : Int32))) ((kvOf p1) + 1)).toInt32).toUInt32 >>> ((1 : Int32) &&& 31).toUInt32).toInt32) ^^^ (-(((vac (fun i => F1 q0 (Int32.ofNat i) (((p1 &&& (2147483647 : Int32)) % (10 : Int32)) + (1 : Int32))) ((kvOf p1) + 1)).toInt32) &&& (1 : Int32))))), .val (.long (q0 &&& (((1 : Int64) <<< (((7 : Int32) * (((p1 &&& (2147483647 : Int32)) % (10 : Int32)) + (1 : Int32))) &&& 0x3f).toInt64) - (1 : Int64)))), .second, .val (.long ((q0 &&& (((1 : Int64) <<< (((7 : Int32) * (((p1 &&& (2147483647 : Int32)) % (10 : Int32)) + (1 : Int32))) &&& 0x3f).toInt64) - (1 : Int64))) &&& (4294967295 : Int64))), .second, .val (.long (((q0 &&& (((1 : Int64) <<< (((7 : Int32) * (((p1 &&& (2147483647 : Int32)) % (10 : Int32)) + (1 : Int32))) &&& 0x3f).toInt64) - (1 : Int64))) &&& (4294967295 : Int64)) / (2 : Int64))), .second]) rfl k) ?_
      show OFin p e below _ _ T41 (mkF m 210 #[.val (.long q0), .second, .val (.int p1), .val (.int (((p1 &&& (2147483647 : Int32)) % (10 : Int32)) + (1 : Int32))), .val (.ref b1), .val (.ref b33), .val (.int (((((vac (fun i => F1 q0 (Int32.ofNat i) (((p1 &&& (2147483647 : Int32)) % (10 : Int32)) + (1 : Int32))) ((kvOf p1) + 1)).toInt32).toUInt32 >>> ((1 : Int32) &&& 31).toUInt32).toInt32) ^^^ (-(((vac (fun i => F1 q0 (Int32.ofNat i) (((p1 &&& (2147483647 : Int32)) % (10 : Int32)) + (1 : Int32))) ((kvOf p1) + 1)).toInt32) &&& (1 : Int32))))), .val (.long (q0 &&& (((1 : Int64) <<< (((7 : Int32) * (((p1 &&& (2147483647 : Int32)) % (10 : Int32)) + (1 : Int32))) &&& 0x3f).toInt64) - (1 : Int64)))), .second, .val (.long ((q0 &&& (((1 : Int64) <<< (((7 : Int32) * (((p1 &&& (2147483647 : Int32)) % (10 : Int32)) + (1 : Int32))) &&& 0x3f).toInt64) - (1 : Int64))) &&& (4294967295 : Int64))), .second, .val (.long (((q0 &&& (((1 : Int64) <<< (((7 : Int32) * (((p1 &&& (2147483647 : Int32)) % (10 : Int32)) + (1 : Int32))) &&& 0x3f).toInt64) - (1 : Int64))) &&& (4294967295 : Int64)) / (2 : Int64))), .second] [])
      refine OFin.st (fun t k => XS.goto X41.here hx rfl (pc0 := 210) (pc' := 224) rfl (hb hby at_210) (by decide) (by decide) k) ?_
      show OFin p e below _ _ T41 (mkF m 224 #[.val (.long q0), .second, .val (.int p1), .val (.int (((p1 &&& (2147483647 : Int32)) % (10 : Int32)) + (1 : Int32))), .val (.ref b1), .val (.ref b33), .val (.int (((((vac (fun i => F1 q0 (Int32.ofNat i) (((p1 &&& (2147483647 : Int32)) % (10 : Int32)) + (1 : Int32))) ((kvOf p1) + 1)).toInt32).toUInt32 >>> ((1 : Int32) &&& 31).toUInt32).toInt32) ^^^ (-(((vac (fun i => F1 q0 (Int32.ofNat i) (((p1 &&& (2147483647 : Int32)) % (10 : Int32)) + (1 : Int32))) ((kvOf p1) + 1)).toInt32) &&& (1 : Int32))))), .val (.long (q0 &&& (((1 : Int64) <<< (((7 : Int32) * (((p1 &&& (2147483647 : Int32)) % (10 : Int32)) + (1 : Int32))) &&& 0x3f).toInt64) - (1 : Int64)))), .second, .val (.long ((q0 &&& (((1 : Int64) <<< (((7 : Int32) * (((p1 &&& (2147483647 : Int32)) % (10 : Int32)) + (1 : Int32))) &&& 0x3f).toInt64) - (1 : Int64))) &&& (4294967295 : Int64))), .second, .val (.long (((q0 &&& (((1 : Int64) <<< (((7 : Int32) * (((p1 &&& (2147483647 : Int32)) % (10 : Int32)) + (1 : Int32))) &&& 0x3f).toInt64) - (1 : Int64))) &&& (4294967295 : Int64)) / (2 : Int64))), .second] [])
      refine OFin.st (fun t k => XS.iload X41.here hx rfl (hb hby at_224) rfl k) ?_
      show OFin p e below _ _ T41 (mkF m 226 #[.val (.long q0), .second, .val (.int p1), .val (.int (((p1 &&& (2147483647 : Int32)) % (10 : Int32)) + (1 : Int32))), .val (.ref b1), .val (.ref b33), .val (.int (((((vac (fun i => F1 q0 (Int32.ofNat i) (((p1 &&& (2147483647 : Int32)) % (10 : Int32)) + (1 : Int32))) ((kvOf p1) + 1)).toInt32).toUInt32 >>> ((1 : Int32) &&& 31).toUInt32).toInt32) ^^^ (-(((vac (fun i => F1 q0 (Int32.ofNat i) (((p1 &&& (2147483647 : Int32)) % (10 : Int32)) + (1 : Int32))) ((kvOf p1) + 1)).toInt32) &&& (1 : Int32))))), .val (.long (q0 &&& (((1 : Int64) <<< (((7 : Int32) * (((p1 &&& (2147483647 : Int32)) % (10 : Int32)) + (1 : Int32))) &&& 0x3f).toInt64) - (1 : Int64)))), .second, .val (.long ((q0 &&& (((1 : Int64) <<< (((7 : Int32) * (((p1 &&& (2147483647 : Int32)) % (10 : Int32)) + (1 : Int32))) &&& 0x3f).toInt64) - (1 : Int64))) &&& (4294967295 : Int64))), .second, .val (.long (((q0 &&& (((1 : Int64) <<< (((7 : Int32) * (((p1 &&& (2147483647 : Int32)) % (10 : Int32)) + (1 : Int32))) &&& 0x3f).toInt64) - (1 : Int64))) &&& (4294967295 : Int64)) / (2 : Int64))), .second] [(.int (((((vac (fun i => F1 q0 (Int32.ofNat i) (((p1 &&& (2147483647 : Int32)) % (10 : Int32)) + (1 : Int32))) ((kvOf p1) + 1)).toInt32).toUInt32 >>> ((1 : Int32) &&& 31).toUInt32).toInt32) ^^^ (-(((vac (fun i => F1 q0 (Int32.ofNat i) (((p1 &&& (2147483647 : Int32)) % (10 : Int32)) + (1 : Int32))) ((kvOf p1) + 1)).toInt32) &&& (1 : Int32)))))])
      refine OFin.st (fun t k => XS.i2l X41.here hx rfl (hb hby at_226) rfl k) ?_
      show OFin p e below _ _ T41 (mkF m 227 #[.val (.long q0), .second, .val (.int p1), .val (.int (((p1 &&& (2147483647 : Int32)) % (10 : Int32)) + (1 : Int32))), .val (.ref b1), .val (.ref b33), .val (.int (((((vac (fun i => F1 q0 (Int32.ofNat i) (((p1 &&& (2147483647 : Int32)) % (10 : Int32)) + (1 : Int32))) ((kvOf p1) + 1)).toInt32).toUInt32 >>> ((1 : Int32) &&& 31).toUInt32).toInt32) ^^^ (-(((vac (fun i => F1 q0 (Int32.ofNat i) (((p1 &&& (2147483647 : Int32)) % (10 : Int32)) + (1 : Int32))) ((kvOf p1) + 1)).toInt32) &&& (1 : Int32))))), .val (.long (q0 &&& (((1 : Int64) <<< (((7 : Int32) * (((p1 &&& (2147483647 : Int32)) % (10 : Int32)) + (1 : Int32))) &&& 0x3f).toInt64) - (1 : Int64)))), .second, .val (.long ((q0 &&& (((1 : Int64) <<< (((7 : Int32) * (((p1 &&& (2147483647 : Int32)) % (10 : Int32)) + (1 : Int32))) &&& 0x3f).toInt64) - (1 : Int64))) &&& (4294967295 : Int64))), .second, .val (.long (((q0 &&& (((1 : Int64) <<< (((7 : Int32) * (((p1 &&& (2147483647 : Int32)) % (10 : Int32)) + (1 : Int32))) &&& 0x3f).toInt64) - (1 : Int64))) &&& (4294967295 : Int64)) / (2 : Int64))), .second] [(.long ((((((vac (fun i => F1 q0 (Int32.ofNat i) (((p1 &&& (2147483647 : Int32)) % (10 : Int32)) + (1 : Int32))) ((kvOf p1) + 1)).toInt32).toUInt32 >>> ((1 : Int32) &&& 31).toUInt32).toInt32) ^^^ (-(((vac (fun i => F1 q0 (Int32.ofNat i) (((p1 &&& (2147483647 : Int32)) % (10 : Int32)) + (1 : Int32))) ((kvOf p1) + 1)).toInt32) &&& (1 : Int32)))).toInt64))])
      refine OFin.st (fun t k => XS.lload X41.here hx rfl (hb hby at_227) rfl k) ?_
      show OFin p e below _ _ T41 (mkF m 229 #[.val (.long q0), .second, .val (.int p1), .val (.int (((p1 &&& (2147483647 : Int32)) % (10 : Int32)) + (1 : Int32))), .val (.ref b1), .val (.ref b33), .val (.int (((((vac (fun i => F1 q0 (Int32.ofNat i) (((p1 &&& (2147483647 : Int32)) % (10 : Int32)) + (1 : Int32))) ((kvOf p1) + 1)).toInt32).toUInt32 >>> ((1 : Int32) &&& 31).toUInt32).toInt32) ^^^ (-(((vac (fun i => F1 q0 (Int32.ofNat i) (((p1 &&& (2147483647 : Int32)) % (10 : Int32)) + (1 : Int32))) ((kvOf p1) + 1)).toInt32) &&& (1 : Int32))))), .val (.long (q0 &&& (((1 : Int64) <<< (((7 : Int32) * (((p1 &&& (2147483647 : Int32)) % (10 : Int32)) + (1 : Int32))) &&& 0x3f).toInt64) - (1 : Int64)))), .second, .val (.long ((q0 &&& (((1 : Int64) <<< (((7 : Int32) * (((p1 &&& (2147483647 : Int32)) % (10 : Int32)) + (1 : Int32))) &&& 0x3f).toInt64) - (1 : Int64))) &&& (4294967295 : Int64))), .second, .val (.long (((q0 &&& (((1 : Int64) <<< (((7 : Int32) * (((p1 &&& (2147483647 : Int32)) % (10 : Int32)) + (1 : Int32))) &&& 0x3f).toInt64) - (1 : Int64))) &&& (4294967295 : Int64)) / (2 : Int64))), .second] [(.long (((q0 &&& (((1 : Int64) <<< (((7 : Int32) * (((p1 &&& (2147483647 : Int32)) % (10 : Int32)) + (1 : Int32))) &&& 0x3f).toInt64) - (1 : Int64))) &&& (4294967295 : Int64)) / (2 : Int64))), (.long ((((((vac (fun i => F1 q0 (Int32.ofNat i) (((p1 &&& (2147483647 : Int32)) % (10 : Int32)) + (1 : Int32))) ((kvOf p1) + 1)).toInt32).toUInt32 >>> ((1 : Int32) &&& 31).toUInt32).toInt32) ^^^ (-(((vac (fun i => F1 q0 (Int32.ofNat i) (((p1 &&& (2147483647 : Int32)) % (10 : Int32)) + (1 : Int32))) ((kvOf p1) + 1)).toInt32) &&& (1 : Int32)))).toInt64))])
      refine OFin.st (fun t k => XS.lcmp X41.here hx rfl (hb hby at_229) rfl k) ?_
      show OFin p e below _ _ T41 (mkF m 230 #[.val (.long q0), .second, .val (.int p1), .val (.int (((p1 &&& (2147483647 : Int32)) % (10 : Int32)) + (1 : Int32))), .val (.ref b1), .val (.ref b33), .val (.int (((((vac (fun i => F1 q0 (Int32.ofNat i) (((p1 &&& (2147483647 : Int32)) % (10 : Int32)) + (1 : Int32))) ((kvOf p1) + 1)).toInt32).toUInt32 >>> ((1 : Int32) &&& 31).toUInt32).toInt32) ^^^ (-(((vac (fun i => F1 q0 (Int32.ofNat i) (((p1 &&& (2147483647 : Int32)) % (10 : Int32)) + (1 : Int32))) ((kvOf p1) + 1)).toInt32) &&& (1 : Int32))))), .val (.long (q0 &&& (((1 : Int64) <<< (((7 : Int32) * (((p1 &&& (2147483647 : Int32)) % (10 : Int32)) + (1 : Int32))) &&& 0x3f).toInt64) - (1 : Int64)))), .second, .val (.long ((q0 &&& (((1 : Int64) <<< (((7 : Int32) * (((p1 &&& (2147483647 : Int32)) % (10 : Int32)) + (1 : Int32))) &&& 0x3f).toInt64) - (1 : Int64))) &&& (4294967295 : Int64))), .second, .val (.long (((q0 &&& (((1 : Int64) <<< (((7 : Int32) * (((p1 &&& (2147483647 : Int32)) % (10 : Int32)) + (1 : Int32))) &&& 0x3f).toInt64) - (1 : Int64))) &&& (4294967295 : Int64)) / (2 : Int64))), .second] [(.int (lcmpW ((((((vac (fun i => F1 q0 (Int32.ofNat i) (((p1 &&& (2147483647 : Int32)) % (10 : Int32)) + (1 : Int32))) ((kvOf p1) + 1)).toInt32).toUInt32 >>> ((1 : Int32) &&& 31).toUInt32).toInt32) ^^^ (-(((vac (fun i => F1 q0 (Int32.ofNat i) (((p1 &&& (2147483647 : Int32)) % (10 : Int32)) + (1 : Int32))) ((kvOf p1) + 1)).toInt32) &&& (1 : Int32)))).toInt64) (((q0 &&& (((1 : Int64) <<< (((7 : Int32) * (((p1 &&& (2147483647 : Int32)) % (10 : Int32)) + (1 : Int32))) &&& 0x3f).toInt64) - (1 : Int64))) &&& (4294967295 : Int64)) / (2 : Int64))))])
      refine OFin.st (fun t k => XS.ifNo X41.here hx rfl (hb hby at_230) rfl ((if0 _ _).trans (teq ((lw_eq ((((((vac (fun i => F1 q0 (Int32.ofNat i) (((p1 &&& (2147483647 : Int32)) % (10 : Int32)) + (1 : Int32))) ((kvOf p1) + 1)).toInt32).toUInt32 >>> ((1 : Int32) &&& 31).toUInt32).toInt32) ^^^ (-(((vac (fun i => F1 q0 (Int32.ofNat i) (((p1 &&& (2147483647 : Int32)) % (10 : Int32)) + (1 : Int32))) ((kvOf p1) + 1)).toInt32) &&& (1 : Int32)))).toInt64) (((q0 &&& (((1 : Int64) <<< (((7 : Int32) * (((p1 &&& (2147483647 : Int32)) % (10 : Int32)) + (1 : Int32))) &&& 0x3f).toInt64) - (1 : Int64))) &&& (4294967295 : Int64)) / (2 : Int64))).mpr (by rw [own_vac q0 p1, if_neg hc164]; exact (own_zig _).1 hc199))).2) k) ?_
      show OFin p e below _ _ T41 (mkF m 233 #[.val (.long q0), .second, .val (.int p1), .val (.int (((p1 &&& (2147483647 : Int32)) % (10 : Int32)) + (1 : Int32))), .val (.ref b1), .val (.ref b33), .val (.int (((((vac (fun i => F1 q0 (Int32.ofNat i) (((p1 &&& (2147483647 : Int32)) % (10 : Int32)) + (1 : Int32))) ((kvOf p1) + 1)).toInt32).toUInt32 >>> ((1 : Int32) &&& 31).toUInt32).toInt32) ^^^ (-(((vac (fun i => F1 q0 (Int32.ofNat i) (((p1 &&& (2147483647 : Int32)) % (10 : Int32)) + (1 : Int32))) ((kvOf p1) + 1)).toInt32) &&& (1 : Int32))))), .val (.long (q0 &&& (((1 : Int64) <<< (((7 : Int32) * (((p1 &&& (2147483647 : Int32)) % (10 : Int32)) + (1 : Int32))) &&& 0x3f).toInt64) - (1 : Int64)))), .second, .val (.long ((q0 &&& (((1 : Int64) <<< (((7 : Int32) * (((p1 &&& (2147483647 : Int32)) % (10 : Int32)) + (1 : Int32))) &&& 0x3f).toInt64) - (1 : Int64))) &&& (4294967295 : Int64))), .second, .val (.long (((q0 &&& (((1 : Int64) <<< (((7 : Int32) * (((p1 &&& (2147483647 : Int32)) % (10 : Int32)) + (1 : Int32))) &&& 0x3f).toInt64) - (1 : Int64))) &&& (4294967295 : Int64)) / (2 : Int64))), .second] [])
      refine OFin.st (fun t k => XS.iconst X41.here hx rfl (hb hby at_233) k) ?_
      show OFin p e below _ _ T41 (mkF m 234 #[.val (.long q0), .second, .val (.int p1), .val (.int (((p1 &&& (2147483647 : Int32)) % (10 : Int32)) + (1 : Int32))), .val (.ref b1), .val (.ref b33), .val (.int (((((vac (fun i => F1 q0 (Int32.ofNat i) (((p1 &&& (2147483647 : Int32)) % (10 : Int32)) + (1 : Int32))) ((kvOf p1) + 1)).toInt32).toUInt32 >>> ((1 : Int32) &&& 31).toUInt32).toInt32) ^^^ (-(((vac (fun i => F1 q0 (Int32.ofNat i) (((p1 &&& (2147483647 : Int32)) % (10 : Int32)) + (1 : Int32))) ((kvOf p1) + 1)).toInt32) &&& (1 : Int32))))), .val (.long (q0 &&& (((1 : Int64) <<< (((7 : Int32) * (((p1 &&& (2147483647 : Int32)) % (10 : Int32)) + (1 : Int32))) &&& 0x3f).toInt64) - (1 : Int64)))), .second, .val (.long ((q0 &&& (((1 : Int64) <<< (((7 : Int32) * (((p1 &&& (2147483647 : Int32)) % (10 : Int32)) + (1 : Int32))) &&& 0x3f).toInt64) - (1 : Int64))) &&& (4294967295 : Int64))), .second, .val (.long (((q0 &&& (((1 : Int64) <<< (((7 : Int32) * (((p1 &&& (2147483647 : Int32)) % (10 : Int32)) + (1 : Int32))) &&& 0x3f).toInt64) - (1 : Int64))) &&& (4294967295 : Int64)) / (2 : Int64))), .second] [(.int (1 : Int32))])
      refine OFin.st (fun t k => XS.goto X41.here hx rfl (pc0 := 234) (pc' := 238) rfl (hb hby at_234) (by decide) (by decide) k) ?_
      show OFin p e below _ _ T41 (mkF m 238 #[.val (.long q0), .second, .val (.int p1), .val (.int (((p1 &&& (2147483647 : Int32)) % (10 : Int32)) + (1 : Int32))), .val (.ref b1), .val (.ref b33), .val (.int (((((vac (fun i => F1 q0 (Int32.ofNat i) (((p1 &&& (2147483647 : Int32)) % (10 : Int32)) + (1 : Int32))) ((kvOf p1) + 1)).toInt32).toUInt32 >>> ((1 : Int32) &&& 31).toUInt32).toInt32) ^^^ (-(((vac (fun i => F1 q0 (Int32.ofNat i) (((p1 &&& (2147483647 : Int32)) % (10 : Int32)) + (1 : Int32))) ((kvOf p1) + 1)).toInt32) &&& (1 : Int32))))), .val (.long (q0 &&& (((1 : Int64) <<< (((7 : Int32) * (((p1 &&& (2147483647 : Int32)) % (10 : Int32)) + (1 : Int32))) &&& 0x3f).toInt64) - (1 : Int64)))), .second, .val (.long ((q0 &&& (((1 : Int64) <<< (((7 : Int32) * (((p1 &&& (2147483647 : Int32)) % (10 : Int32)) + (1 : Int32))) &&& 0x3f).toInt64) - (1 : Int64))) &&& (4294967295 : Int64))), .second, .val (.long (((q0 &&& (((1 : Int64) <<< (((7 : Int32) * (((p1 &&& (2147483647 : Int32)) % (10 : Int32)) + (1 : Int32))) &&& 0x3f).toInt64) - (1 : Int64))) &&& (4294967295 : Int64)) / (2 : Int64))), .second] [(.int (1 : Int32))])
      exact own_retN X41 hx Bd.returns Bd.notSynchronized (t := .boolean) (by simp) rfl (hb hby at_238) (by show Qrm0 Z q0 p1 kW vW w_WIRE_TYPES h0 n0 _ T41.heap _; exact ⟨rfl, N41, K41⟩) (own_endW hS34 (by exact hk41) (by decide) (by decide))
    · refine OFin.st (fun t k => XS.ifYes X41.here hx rfl (pc0 := 199) (pc' := 213) rfl (hb hby at_199) rfl ((if0 _ _).trans (feq (fun q => hc199 ((lw_eq (((q0 &&& (((1 : Int64) <<< (((7 : Int32) * (((p1 &&& (2147483647 : Int32)) % (10 : Int32)) + (1 : Int32))) &&& 0x3f).toInt64) - (1 : Int64))) &&& (4294967295 : Int64)) % (2 : Int64)) (0 : Int64)).mp q))).2) (by decide) (by decide) k) ?_
      show OFin p e below _ _ T41 (mkF m 213 #[.val (.long q0), .second, .val (.int p1), .val (.int (((p1 &&& (2147483647 : Int32)) % (10 : Int32)) + (1 : Int32))), .val (.ref b1), .val (.ref b33), .val (.int (((((vac (fun i => F1 q0 (Int32.ofNat i) (((p1 &&& (2147483647 : Int32)) % (10 : Int32)) + (1 : Int32))) ((kvOf p1) + 1)).toInt32).toUInt32 >>> ((1 : Int32) &&& 31).toUInt32).toInt32) ^^^ (-(((vac (fun i => F1 q0 (Int32.ofNat i) (((p1 &&& (2147483647 : Int32)) % (10 : Int32)) + (1 : Int32))) ((kvOf p1) + 1)).toInt32) &&& (1 : Int32))))), .val (.long (q0 &&& (((1 : Int64) <<< (((7 : Int32) * (((p1 &&& (2147483647 : Int32)) % (10 : Int32)) + (1 : Int32))) &&& 0x3f).toInt64) - (1 : Int64)))), .second, .val (.long ((q0 &&& (((1 : Int64) <<< (((7 : Int32) * (((p1 &&& (2147483647 : Int32)) % (10 : Int32)) + (1 : Int32))) &&& 0x3f).toInt64) - (1 : Int64))) &&& (4294967295 : Int64))), .second, .unset, .unset] [])
      refine OFin.st (fun t k => XS.lload X41.here hx rfl (hb hby at_213) rfl k) ?_
      show OFin p e below _ _ T41 (mkF m 215 #[.val (.long q0), .second, .val (.int p1), .val (.int (((p1 &&& (2147483647 : Int32)) % (10 : Int32)) + (1 : Int32))), .val (.ref b1), .val (.ref b33), .val (.int (((((vac (fun i => F1 q0 (Int32.ofNat i) (((p1 &&& (2147483647 : Int32)) % (10 : Int32)) + (1 : Int32))) ((kvOf p1) + 1)).toInt32).toUInt32 >>> ((1 : Int32) &&& 31).toUInt32).toInt32) ^^^ (-(((vac (fun i => F1 q0 (Int32.ofNat i) (((p1 &&& (2147483647 : Int32)) % (10 : Int32)) + (1 : Int32))) ((kvOf p1) + 1)).toInt32) &&& (1 : Int32))))), .val (.long (q0 &&& (((1 : Int64) <<< (((7 : Int32) * (((p1 &&& (2147483647 : Int32)) % (10 : Int32)) + (1 : Int32))) &&& 0x3f).toInt64) - (1 : Int64)))), .second, .val (.long ((q0 &&& (((1 : Int64) <<< (((7 : Int32) * (((p1 &&& (2147483647 : Int32)) % (10 : Int32)) + (1 : Int32))) &&& 0x3f).toInt64) - (1 : Int64))) &&& (4294967295 : Int64))), .second, .unset, .unset] [(.long ((q0 &&& (((1 : Int64) <<< (((7 : Int32) * (((p1 &&& (2147483647 : Int32)) % (10 : Int32)) + (1 : Int32))) &&& 0x3f).toInt64) - (1 : Int64))) &&& (4294967295 : Int64)))])
      refine OFin.st (X41.ldc2Long hx hown (mvT hZ (hw _ (List.mem_of_getElem? (i := 70) rfl))) (g := (mkF m 215 #[.val (.long q0), .second, .val (.int p1), .val (.int (((p1 &&& (2147483647 : Int32)) % (10 : Int32)) + (1 : Int32))), .val (.ref b1), .val (.ref b33), .val (.int (((((vac (fun i => F1 q0 (Int32.ofNat i) (((p1 &&& (2147483647 : Int32)) % (10 : Int32)) + (1 : Int32))) ((kvOf p1) + 1)).toInt32).toUInt32 >>> ((1 : Int32) &&& 31).toUInt32).toInt32) ^^^ (-(((vac (fun i => F1 q0 (Int32.ofNat i) (((p1 &&& (2147483647 : Int32)) % (10 : Int32)) + (1 : Int32))) ((kvOf p1) + 1)).toInt32) &&& (1 : Int32))))), .val (.long (q0 &&& (((1 : Int64) <<< (((7 : Int32) * (((p1 &&& (2147483647 : Int32)) % (10 : Int32)) + (1 : Int32))) &&& 0x3f).toInt64) - (1 : Int64)))), .second, .val (.long ((q0 &&& (((1 : Int64) <<< (((7 : Int32) * (((p1 &&& (2147483647 : Int32)) % (10 : Int32)) + (1 : Int32))) &&& 0x3f).toInt64) - (1 : Int64))) &&& (4294967295 : Int64))), .second, .unset, .unset] [(.long ((q0 &&& (((1 : Int64) <<< (((7 : Int32) * (((p1 &&& (2147483647 : Int32)) % (10 : Int32)) + (1 : Int32))) &&& 0x3f).toInt64) - (1 : Int64))) &&& (4294967295 : Int64)))])) rfl (hb hby at_215)) ?_
      show OFin p e below _ _ T41 (mkF m 218 #[.val (.long q0), .second, .val (.int p1), .val (.int (((p1 &&& (2147483647 : Int32)) % (10 : Int32)) + (1 : Int32))), .val (.ref b1), .val (.ref b33), .val (.int (((((vac (fun i => F1 q0 (Int32.ofNat i) (((p1 &&& (2147483647 : Int32)) % (10 : Int32)) + (1 : Int32))) ((kvOf p1) + 1)).toInt32).toUInt32 >>> ((1 : Int32) &&& 31).toUInt32).toInt32) ^^^ (-(((vac (fun i => F1 q0 (Int32.ofNat i) (((p1 &&& (2147483647 : Int32)) % (10 : Int32)) + (1 : Int32))) ((kvOf p1) + 1)).toInt32) &&& (1 : Int32))))), .val (.long (q0 &&& (((1 : Int64) <<< (((7 : Int32) * (((p1 &&& (2147483647 : Int32)) % (10 : Int32)) + (1 : Int32))) &&& 0x3f).toInt64) - (1 : Int64)))), .second, .val (.long ((q0 &&& (((1 : Int64) <<< (((7 : Int32) * (((p1 &&& (2147483647 : Int32)) % (10 : Int32)) + (1 : Int32))) &&& 0x3f).toInt64) - (1 : Int64))) &&& (4294967295 : Int64))), .second, .unset, .unset] [(.long (2 : Int64)), (.long ((q0 &&& (((1 : Int64) <<< (((7 : Int32) * (((p1 &&& (2147483647 : Int32)) % (10 : Int32)) + (1 : Int32))) &&& 0x3f).toInt64) - (1 : Int64))) &&& (4294967295 : Int64)))])
      refine OFin.st (fun t k => XS.ldiv X41.here hx rfl (hb hby at_218) rfl (by decide) k) ?_
      show OFin p e below _ _ T41 (mkF m 219 #[.val (.long q0), .second, .val (.int p1), .val (.int (((p1 &&& (2147483647 : Int32)) % (10 : Int32)) + (1 : Int32))), .val (.ref b1), .val (.ref b33), .val (.int (((((vac (fun i => F1 q0 (Int32.ofNat i) (((p1 &&& (2147483647 : Int32)) % (10 : Int32)) + (1 : Int32))) ((kvOf p1) + 1)).toInt32).toUInt32 >>> ((1 : Int32) &&& 31).toUInt32).toInt32) ^^^ (-(((vac (fun i => F1 q0 (Int32.ofNat i) (((p1 &&& (2147483647 : Int32)) % (10 : Int32)) + (1 : Int32))) ((kvOf p1) + 1)).toInt32) &&& (1 : Int32))))), .val (.long (q0 &&& (((1 : Int64) <<< (((7 : Int32) * (((p1 &&& (2147483647 : Int32)) % (10 : Int32)) + (1 : Int32))) &&& 0x3f).toInt64) - (1 : Int64)))), .second, .val (.long ((q0 &&& (((1 : Int64) <<< (((7 : Int32) * (((p1 &&& (2147483647 : Int32)) % (10 : Int32)) + (1 : Int32))) &&& 0x3f).toInt64) - (1 : Int64))) &&& (4294967295 : Int64))), .second, .unset, .unset] [(.long (((q0 &&& (((1 : Int64) <<< (((7 : Int32) * (((p1 &&& (2147483647 : Int32)) % (10 : Int32)) + (1 : Int32))) &&& 0x3f).toInt64) - (1 : Int64))) &&& (4294967295 : Int64)) / (2 : Int64)))])
      refine OFin.st (fun t k => XS.lneg X41.here hx rfl (hb hby at_219) rfl k) ?_
      show OFin p e below _ _ T41 (mkF m 220 #[.val (.long q0), .second, .val (.int p1), .val (.int (((p1 &&& (2147483647 : Int32)) % (10 : Int32)) + (1 : Int32))), .val (.ref b1), .val (.ref b33), .val (.int (((((vac (fun i => F1 q0 (Int32.ofNat i) (((p1 &&& (2147483647 : Int32)) % (10 : Int32)) + (1 : Int32))) ((kvOf p1) + 1)).toInt32).toUInt32 >>> ((1 : Int32) &&& 31).toUInt32).toInt32) ^^^ (-(((vac (fun i => F1 q0 (Int32.ofNat i) (((p1 &&& (2147483647 : Int32)) % (10 : Int32)) + (1 : Int32))) ((kvOf p1) + 1)).toInt32) &&& (1 : Int32))))), .val (.long (q0 &&& (((1 : Int64) <<< (((7 : Int32) * (((p1 &&& (2147483647 : Int32)) % (10 : Int32)) + (1 : Int32))) &&& 0x3f).toInt64) - (1 : Int64)))), .second, .val (.long ((q0 &&& (((1 : Int64) <<< (((7 : Int32) * (((p1 &&& (2147483647 : Int32)) % (10 : Int32)) + (1 : Int32))) &&& 0x3f).toInt64) - (1 : Int64))) &&& (4294967295 : Int64))), .second, .unset, .unset] [(.long (-(((q0 &&& (((1 : Int64) <<< (((7 : Int32) * (((p1 &&& (2147483647 : Int32)) % (10 : Int32)) + (1 : Int32))) &&& 0x3f).toInt64) - (1 : Int64))) &&& (4294967295 : Int64)) / (2 : Int64))))])
      refine OFin.st (fun t k => XS.lconst X41.here hx rfl (hb hby at_220) k) ?_
      show OFin p e below _ _ T41 (mkF m 221 #[.val (.long q0), .second, .val (.int p1), .val (.int (((p1 &&& (2147483647 : Int32)) % (10 : Int32)) + (1 : Int32))), .val (.ref b1), .val (.ref b33), .val (.int (((((vac (fun i => F1 q0 (Int32.ofNat i) (((p1 &&& (2147483647 : Int32)) % (10 : Int32)) + (1 : Int32))) ((kvOf p1) + 1)).toInt32).toUInt32 >>> ((1 : Int32) &&& 31).toUInt32).toInt32) ^^^ (-(((vac (fun i => F1 q0 (Int32.ofNat i) (((p1 &&& (2147483647 : Int32)) % (10 : Int32)) + (1 : Int32))) ((kvOf p1) + 1)).toInt32) &&& (1 : Int32))))), .val (.long (q0 &&& (((1 : Int64) <<< (((7 : Int32) * (((p1 &&& (2147483647 : Int32)) % (10 : Int32)) + (1 : Int32))) &&& 0x3f).toInt64) - (1 : Int64)))), .second, .val (.long ((q0 &&& (((1 : Int64) <<< (((7 : Int32) * (((p1 &&& (2147483647 : Int32)) % (10 : Int32)) + (1 : Int32))) &&& 0x3f).toInt64) - (1 : Int64))) &&& (4294967295 : Int64))), .second, .unset, .unset] [(.long (1 : Int64)), (.long (-(((q0 &&& (((1 : Int64) <<< (((7 : Int32) * (((p1 &&& (2147483647 : Int32)) % (10 : Int32)) + (1 : Int32))) &&& 0x3f).toInt64) - (1 : Int64))) &&& (4294967295 : Int64)) / (2 : Int64))))])
      refine OFin.st (fun t k => XS.lsub X41.here hx rfl (hb hby at_221) rfl k) ?_
      show OFin p e below _ _ T41 (mkF m 222 #[.val (.long q0), .second, .val (.int p1), .val (.int (((p1 &&& (2147483647 : Int32)) % (10 : Int32)) + (1 : Int32))), .val (.ref b1), .val (.ref b33), .val (.int (((((vac (fun i => F1 q0 (Int32.ofNat i) (((p1 &&& (2147483647 : Int32)) % (10 : Int32)) + (1 : Int32))) ((kvOf p1) + 1)).toInt32).toUInt32 >>> ((1 : Int32) &&& 31).toUInt32).toInt32) ^^^ (-(((vac (fun i => F1 q0 (Int32.ofNat i) (((p1 &&& (2147483647 : Int32)) % (10 : Int32)) + (1 : Int32))) ((kvOf p1) + 1)).toInt32) &&& (1 : Int32))))), .val (.long (q0 &&& (((1 : Int64) <<< (((7 : Int32) * (((p1 &&& (2147483647 : Int32)) % (10 : Int32)) + (1 : Int32))) &&& 0x3f).toInt64) - (1 : Int64)))), .second, .val (.long ((q0 &&& (((1 : Int64) <<< (((7 : Int32) * (((p1 &&& (2147483647 : Int32)) % (10 : Int32)) + (1 : Int32))) &&& 0x3f).toInt64) - (1 : Int64))) &&& (4294967295 : Int64))), .second, .unset, .unset] [(.long ((-(((q0 &&& (((1 : Int64) <<< (((7 : Int32) * (((p1 &&& (2147483647 : Int32)) % (10 : Int32)) + (1 : Int32))) &&& 0x3f).toInt64) - (1 : Int64))) &&& (4294967295 : Int64)) / (2 : Int64))) - (1 : Int64)))])
      refine OFin.st (fun t k => XS.lstore X41.here hx rfl (hb hby at_222) rfl (l' := #[.val (.long q0), .second, .val (.int p1), .val (.int (((p1 &&& (2147483647 : Int32)) % (10 : Int32)) + (1 : Int32))), .val (.ref b1), .val (.ref b33), .val (.int (((((vac (fun i => F1 q0 (Int32.ofNat i) (((p1 &&& (2147483647 : Int32)) % (10 : Int32)) + (1 : Int32))) ((kvOf p1) + 1)).toInt32).toUInt32 >>> ((1 : Int32) &&& 31).toUInt32).toInt32) ^^^ (-(((vac (fun i => F1 q0 (Int32.ofNat i) (((p1 &&& (2147483647 : Int32)) % (10 : Int32)) + (1 : Int32))) ((kvOf p1) + 1)).toInt32) &&& (1 : Int32))))), .val (.long (q0 &&& (((1 : Int64) <<< (((7 : Int32) * (((p1 &&& (2147483647 : Int32)) % (10 : Int32)) + (1 : Int32))) &&& 0x3f).toInt64) - (1 : Int64)))), .second, .val (.long ((q0 &&& (((1 : Int64) <<< (((7 : Int32) * (((p1 &&& (2147483647 : Int32)) % (10 : Int32)) + (1 : Int32))) &&& 0x3f).toInt64) - (1 : Int64))) &&& (4294967295 : Int64))), .second, .val (.long ((-(((q0 &&& (((1 : Int64) <<< (((7 : Int32) * (((p1 &&& (2147483647 : Int32)) % (10 : Int32)) + (1 : Int32))) &&& 0x3f).toInt64) - (1 : Int64))) &&& (4294967295 : Int64)) / (2 : Int64))) - (1 : Int64))), .second]) rfl k) ?_
      show OFin p e below _ _ T41 (mkF m 224 #[.val (.long q0), .second, .val (.int p1), .val (.int (((p1 &&& (2147483647 : Int32)) % (10 : Int32)) + (1 : Int32))), .val (.ref b1), .val (.ref b33), .val (.int (((((vac (fun i => F1 q0 (Int32.ofNat i) (((p1 &&& (2147483647 : Int32)) % (10 : Int32)) + (1 : Int32))) ((kvOf p1) + 1)).toInt32).toUInt32 >>> ((1 : Int32) &&& 31).toUInt32).toInt32) ^^^ (-(((vac (fun i => F1 q0 (Int32.ofNat i) (((p1 &&& (2147483647 : Int32)) % (10 : Int32)) + (1 : Int32))) ((kvOf p1) + 1)).toInt32) &&& (1 : Int32))))), .val (.long (q0 &&& (((1 : Int64) <<< (((7 : Int32) * (((p1 &&& (2147483647 : Int32)) % (10 : Int32)) + (1 : Int32))) &&& 0x3f).toInt64) - (1 : Int64)))), .second, .val (.long ((q0 &&& (((1 : Int64) <<< (((7 : Int32) * (((p1 &&& (2147483647 : Int32)) % (10 : Int32)) + (1 : Int32))) &&& 0x3f).toInt64) - (1 : Int64))) &&& (4294967295 : Int64))), .second, .val (.long ((-(((q0 &&& (((1 : Int64) <<< (((7 : Int32) * (((p1 &&& (2147483647 : Int32)) % (10 : Int32)) + (1 : Int32))) &&& 0x3f).toInt64) - (1 : Int64))) &&& (4294967295 : Int64)) / (2 : Int64))) - (1 : Int64))), .second] [])
      refine OFin.st (fun t k => XS.iload X41.here hx rfl (hb hby at_224) rfl k) ?_
      show OFin p e below _ _ T41 (mkF m 226 #[.val (.long q0), .second, .val (.int p1), .val (.int (((p1 &&& (2147483647 : Int32)) % (10 : Int32)) + (1 : Int32))), .val (.ref b1), .val (.ref b33), .val (.int (((((vac (fun i => F1 q0 (Int32.ofNat i) (((p1 &&& (2147483647 : Int32)) % (10 : Int32)) + (1 : Int32))) ((kvOf p1) + 1)).toInt32).toUInt32 >>> ((1 : Int32) &&& 31).toUInt32).toInt32) ^^^ (-(((vac (fun i => F1 q0 (Int32.ofNat i) (((p1 &&& (2147483647 : Int32)) % (10 : Int32)) + (1 : Int32))) ((kvOf p1) + 1)).toInt32) &&& (1 : Int32))))), .val (.long (q0 &&& (((1 : Int64) <<< (((7 : Int32) * (((p1 &&& (2147483647 : Int32)) % (10 : Int32)) + (1 : Int32))) &&& 0x3f).toInt64) - (1 : Int64)))), .second, .val (.long ((q0 &&& (((1 : Int64) <<< (((7 : Int32) * (((p1 &&& (2147483647 : Int32)) % (10 : Int32)) + (1 : Int32))) &&& 0x3f).toInt64) - (1 : Int64))) &&& (4294967295 : Int64))), .second, .val (.long ((-(((q0 &&& (((1 : Int64) <<< (((7 : Int32) * (((p1 &&& (2147483647 : Int32)) % (10 : Int32)) + (1 : Int32))) &&& 0x3f).toInt64) - (1 : Int64))) &&& (4294967295 : Int64)) / (2 : Int64))) - (1 : Int64))), .second] [(.int (((((vac (fun i => F1 q0 (Int32.ofNat i) (((p1 &&& (2147483647 : Int32)) % (10 : Int32)) + (1 : Int32))) ((kvOf p1) + 1)).toInt32).toUInt32 >>> ((1 : Int32) &&& 31).toUInt32).toInt32) ^^^ (-(((vac (fun i => F1 q0 (Int32.ofNat i) (((p1 &&& (2147483647 : Int32)) % (10 : Int32)) + (1 : Int32))) ((kvOf p1) + 1)).toInt32) &&& (1 : Int32)))))])
      refine OFin.st (fun t k => XS.i2l X41.here hx rfl (hb hby at_226) rfl k) ?_
      show OFin p e below _ _ T41 (mkF m 227 #[.val (.long q0), .second, .val (.int p1), .val (.int (((p1 &&& (2147483647 : Int32)) % (10 : Int32)) + (1 : Int32))), .val (.ref b1), .val (.ref b33), .val (.int (((((vac (fun i => F1 q0 (Int32.ofNat i) (((p1 &&& (2147483647 : Int32)) % (10 : Int32)) + (1 : Int32))) ((kvOf p1) + 1)).toInt32).toUInt32 >>> ((1 : Int32) &&& 31).toUInt32).toInt32) ^^^ (-(((vac (fun i => F1 q0 (Int32.ofNat i) (((p1 &&& (2147483647 : Int32)) % (10 : Int32)) + (1 : Int32))) ((kvOf p1) + 1)).toInt32) &&& (1 : Int32))))), .val (.long (q0 &&& (((1 : Int64) <<< (((7 : Int32) * (((p1 &&& (2147483647 : Int32)) % (10 : Int32)) + (1 : Int32))) &&& 0x3f).toInt64) - (1 : Int64)))), .second, .val (.long ((q0 &&& (((1 : Int64) <<< (((7 : Int32) * (((p1 &&& (2147483647 : Int32)) % (10 : Int32)) + (1 : Int32))) &&& 0x3f).toInt64) - (1 : Int64))) &&& (4294967295 : Int64))), .second, .val (.long ((-(((q0 &&& (((1 : Int64) <<< (((7 : Int32) * (((p1 &&& (2147483647 : Int32)) % (10 : Int32)) + (1 : Int32))) &&& 0x3f).toInt64) - (1 : Int64))) &&& (4294967295 : Int64)) / (2 : Int64))) - (1 : Int64))), .second] [(.long ((((((vac (fun i => F1 q0 (Int32.ofNat i) (((p1 &&& (2147483647 : Int32)) % (10 : Int32)) + (1 : Int32))) ((kvOf p1) + 1)).toInt32).toUInt32 >>> ((1 : Int32) &&& 31).toUInt32).toInt32) ^^^ (-(((vac (fun i => F1 q0 (Int32.ofNat i) (((p1 &&& (2147483647 : Int32)) % (10 : Int32)) + (1 : Int32))) ((kvOf p1) + 1)).toInt32) &&& (1 : Int32)))).toInt64))])
      refine OFin.st (fun t k => XS.lload X41.here hx rfl (hb hby at_227) rfl k) ?_
      show OFin p e below _ _ T41 (mkF m 229 #[.val (.long q0), .second, .val (.int p1), .val (.int (((p1 &&& (2147483647 : Int32)) % (10 : Int32)) + (1 : Int32))), .val (.ref b1), .val (.ref b33), .val (.int (((((vac (fun i => F1 q0 (Int32.ofNat i) (((p1 &&& (2147483647 : Int32)) % (10 : Int32)) + (1 : Int32))) ((kvOf p1) + 1)).toInt32).toUInt32 >>> ((1 : Int32) &&& 31).toUInt32).toInt32) ^^^ (-(((vac (fun i => F1 q0 (Int32.ofNat i) (((p1 &&& (2147483647 : Int32)) % (10 : Int32)) + (1 : Int32))) ((kvOf p1) + 1)).toInt32) &&& (1 : Int32))))), .val (.long (q0 &&& (((1 : Int64) <<< (((7 : Int32) * (((p1 &&& (2147483647 : Int32)) % (10 : Int32)) + (1 : Int32))) &&& 0x3f).toInt64) - (1 : Int64)))), .second, .val (.long ((q0 &&& (((1 : Int64) <<< (((7 : Int32) * (((p1 &&& (2147483647 : Int32)) % (10 : Int32)) + (1 : Int32))) &&& 0x3f).toInt64) - (1 : Int64))) &&& (4294967295 : Int64))), .second, .val (.long ((-(((q0 &&& (((1 : Int64) <<< (((7 : Int32) * (((p1 &&& (2147483647 : Int32)) % (10 : Int32)) + (1 : Int32))) &&& 0x3f).toInt64) - (1 : Int64))) &&& (4294967295 : Int64)) / (2 : Int64))) - (1 : Int64))), .second] [(.long ((-(((q0 &&& (((1 : Int64) <<< (((7 : Int32) * (((p1 &&& (2147483647 : Int32)) % (10 : Int32)) + (1 : Int32))) &&& 0x3f).toInt64) - (1 : Int64))) &&& (4294967295 : Int64)) / (2 : Int64))) - (1 : Int64))), (.long ((((((vac (fun i => F1 q0 (Int32.ofNat i) (((p1 &&& (2147483647 : Int32)) % (10 : Int32)) + (1 : Int32))) ((kvOf p1) + 1)).toInt32).toUInt32 >>> ((1 : Int32) &&& 31).toUInt32).toInt32) ^^^ (-(((vac (fun i => F1 q0 (Int32.ofNat i) (((p1 &&& (2147483647 : Int32)) % (10 : Int32)) + (1 : Int32))) ((kvOf p1) + 1)).toInt32) &&& (1 : Int32)))).toInt64))])
      refine OFin.st (fun t k => XS.lcmp X41.here hx rfl (hb hby at_229) rfl k) ?_
      show OFin p e below _ _ T41 (mkF m 230 #[.val (.long q0), .second, .val (.int p1), .val (.int (((p1 &&& (2147483647 : Int32)) % (10 : Int32)) + (1 : Int32))), .val (.ref b1), .val (.ref b33), .val (.int (((((vac (fun i => F1 q0 (Int32.ofNat i) (((p1 &&& (2147483647 : Int32)) % (10 : Int32)) + (1 : Int32))) ((kvOf p1) + 1)).toInt32).toUInt32 >>> ((1 : Int32) &&& 31).toUInt32).toInt32) ^^^ (-(((vac (fun i => F1 q0 (Int32.ofNat i) (((p1 &&& (2147483647 : Int32)) % (10 : Int32)) + (1 : Int32))) ((kvOf p1) + 1)).toInt32) &&& (1 : Int32))))), .val (.long (q0 &&& (((1 : Int64) <<< (((7 : Int32) * (((p1 &&& (2147483647 : Int32)) % (10 : Int32)) + (1 : Int32))) &&& 0x3f).toInt64) - (1 : Int64)))), .second, .val (.long ((q0 &&& (((1 : Int64) <<< (((7 : Int32) * (((p1 &&& (2147483647 : Int32)) % (10 : Int32)) + (1 : Int32))) &&& 0x3f).toInt64) - (1 : Int64))) &&& (4294967295 : Int64))), .second, .val (.long ((-(((q0 &&& (((1 : Int64) <<< (((7 : Int32) * (((p1 &&& (2147483647 : Int32)) % (10 : Int32)) + (1 : Int32))) &&& 0x3f).toInt64) - (1 : Int64))) &&& (4294967295 : Int64)) / (2 : Int64))) - (1 : Int64))), .second] [(.int (lcmpW ((((((vac (fun i => F1 q0 (Int32.ofNat i) (((p1 &&& (2147483647 : Int32)) % (10 : Int32)) + (1 : Int32))) ((kvOf p1) + 1)).toInt32).toUInt32 >>> ((1 : Int32) &&& 31).toUInt32).toInt32) ^^^ (-(((vac (fun i => F1 q0 (Int32.ofNat i) (((p1 &&& (2147483647 : Int32)) % (10 : Int32)) + (1 : Int32))) ((kvOf p1) + 1)).toInt32) &&& (1 : Int32)))).toInt64) ((-(((q0 &&& (((1 : Int64) <<< (((7 : Int32) * (((p1 &&& (2147483647 : Int32)) % (10 : Int32)) + (1 : Int32))) &&& 0x3f).toInt64) - (1 : Int64))) &&& (4294967295 : Int64)) / (2 : Int64))) - (1 : Int64))))])
      refine OFin.st (fun t k => XS.ifNo X41.here hx rfl (hb hby at_230) rfl ((if0 _ _).trans (teq ((lw_eq ((((((vac (fun i => F1 q0 (Int32.ofNat i) (((p1 &&& (2147483647 : Int32)) % (10 : Int32)) + (1 : Int32))) ((kvOf p1) + 1)).toInt32).toUInt32 >>> ((1 : Int32) &&& 31).toUInt32).toInt32) ^^^ (-(((vac (fun i => F1 q0 (Int32.ofNat i) (((p1 &&& (2147483647 : Int32)) % (10 : Int32)) + (1 : Int32))) ((kvOf p1) + 1)).toInt32) &&& (1 : Int32)))).toInt64) ((-(((q0 &&& (((1 : Int64) <<< (((7 : Int32) * (((p1 &&& (2147483647 : Int32)) % (10 : Int32)) + (1 : Int32))) &&& 0x3f).toInt64) - (1 : Int64))) &&& (4294967295 : Int64)) / (2 : Int64))) - (1 : Int64))).mpr (by rw [own_vac q0 p1, if_neg hc164]; exact (own_zig _).2 hc199))).2) k) ?_
      show OFin p e below _ _ T41 (mkF m 233 #[.val (.long q0), .second, .val (.int p1), .val (.int (((p1 &&& (2147483647 : Int32)) % (10 : Int32)) + (1 : Int32))), .val (.ref b1), .val (.ref b33), .val (.int (((((vac (fun i => F1 q0 (Int32.ofNat i) (((p1 &&& (2147483647 : Int32)) % (10 : Int32)) + (1 : Int32))) ((kvOf p1) + 1)).toInt32).toUInt32 >>> ((1 : Int32) &&& 31).toUInt32).toInt32) ^^^ (-(((vac (fun i => F1 q0 (Int32.ofNat i) (((p1 &&& (2147483647 : Int32)) % (10 : Int32)) + (1 : Int32))) ((kvOf p1) + 1)).toInt32) &&& (1 : Int32))))), .val (.long (q0 &&& (((1 : Int64) <<< (((7 : Int32) * (((p1 &&& (2147483647 : Int32)) % (10 : Int32)) + (1 : Int32))) &&& 0x3f).toInt64) - (1 : Int64)))), .second, .val (.long ((q0 &&& (((1 : Int64) <<< (((7 : Int32) * (((p1 &&& (2147483647 : Int32)) % (10 : Int32)) + (1 : Int32))) &&& 0x3f).toInt64) - (1 : Int64))) &&& (4294967295 : Int64))), .second, .val (.long ((-(((q0 &&& (((1 : Int64) <<< (((7 : Int32) * (((p1 &&& (2147483647 : Int32)) % (10 : Int32)) + (1 : Int32))) &&& 0x3f).toInt64) - (1 : Int64))) &&& (4294967295 : Int64)) / (2 : Int64))) - (1 : Int64))), .second] [])
      refine OFin.st (fun t k => XS.iconst X41.here hx rfl (hb hby at_233) k) ?_
      show OFin p e below _ _ T41 (mkF m 234 #[.val (.long q0), .second, .val (.int p1), .val (.int (((p1 &&& (2147483647 : Int32)) % (10 : Int32)) + (1 : Int32))), .val (.ref b1), .val (.ref b33), .val (.int (((((vac (fun i => F1 q0 (Int32.ofNat i) (((p1 &&& (2147483647 : Int32)) % (10 : Int32)) + (1 : Int32))) ((kvOf p1) + 1)).toInt32).toUInt32 >>> ((1 : Int32) &&& 31).toUInt32).toInt32) ^^^ (-(((vac (fun i => F1 q0 (Int32.ofNat i) (((p1 &&& (2147483647 : Int32)) % (10 : Int32)) + (1 : Int32))) ((kvOf p1) + 1)).toInt32) &&& (1 : Int32))))), .val (.long (q0 &&& (((1 : Int64) <<< (((7 : Int32) * (((p1 &&& (2147483647 : Int32)) % (10 : Int32)) + (1 : Int32))) &&& 0x3f).toInt64) - (1 : Int64)))), .second, .val (.long ((q0 &&& (((1 : Int64) <<< (((7 : Int32) * (((p1 &&& (2147483647 : Int32)) % (10 : Int32)) + (1 : Int32))) &&& 0x3f).toInt64) - (1 : Int64))) &&& (4294967295 : Int64))), .second, .val (.long ((-(((q0 &&& (((1 : Int64) <<< (((7 : Int32) * (((p1 &&& (2147483647 : Int32)) % (10 : Int32)) + (1 : Int32))) &&& 0x3f).toInt64) - (1 : Int64))) &&& (4294967295 : Int64)) / (2 : Int64))) - (1 : Int64))), .second] [(.int (1 : Int32))])
      refine OFin.st (fun t k => XS.goto X41.here hx rfl (pc0 := 234) (pc' := 238) rfl (hb hby at_234) (by decide) (by decide) k) ?_
      show OFin p e below _ _ T41 (mkF m 238 #[.val (.long q0), .second, .val (.int p1), .val (.int (((p1 &&& (2147483647 : Int32)) % (10 : Int32)) + (1 : Int32))), .val (.ref b1), .val (.ref b33), .val (.int (((((vac (fun i => F1 q0 (Int32.ofNat i) (((p1 &&& (2147483647 : Int32)) % (10 : Int32)) + (1 : Int32))) ((kvOf p1) + 1)).toInt32).toUInt32 >>> ((1 : Int32) &&& 31).toUInt32).toInt32) ^^^ (-(((vac (fun i => F1 q0 (Int32.ofNat i) (((p1 &&& (2147483647 : Int32)) % (10 : Int32)) + (1 : Int32))) ((kvOf p1) + 1)).toInt32) &&& (1 : Int32))))), .val (.long (q0 &&& (((1 : Int64) <<< (((7 : Int32) * (((p1 &&& (2147483647 : Int32)) % (10 : Int32)) + (1 : Int32))) &&& 0x3f).toInt64) - (1 : Int64)))), .second, .val (.long ((q0 &&& (((1 : Int64) <<< (((7 : Int32) * (((p1 &&& (2147483647 : Int32)) % (10 : Int32)) + (1 : Int32))) &&& 0x3f).toInt64) - (1 : Int64))) &&& (4294967295 : Int64))), .second, .val (.long ((-(((q0 &&& (((1 : Int64) <<< (((7 : Int32) * (((p1 &&& (2147483647 : Int32)) % (10 : Int32)) + (1 : Int32))) &&& 0x3f).toInt64) - (1 : Int64))) &&& (4294967295 : Int64)) / (2 : Int64))) - (1 : Int64))), .second] [(.int (1 : Int32))])
      exact own_retN X41 hx Bd.returns Bd.notSynchronized (t := .boolean) (by simp) rfl (hb hby at_238) (by show Qrm0 Z q0 p1 kW vW w_WIRE_TYPES h0 n0 _ T41.heap _; exact ⟨rfl, N41, K41⟩) (own_endW hS34 (by exact hk41) (by decide) (by decide))
set_option maxRecDepth 65536 in
set_option maxHeartbeats 40000000 in
theorem comes_1 {Post : Tables → Env → Array Value → State → Outcome → State → Prop} (hpost : ∀ tb e args s v u, (limb_1_1.after args s (.returned v) u = true ∧ limb_1_2.after args s (.returned v) u = true ∧ True) → ReturnedEndW s (.returned v) u (Jvm.fieldLocs frame_1_writes args s ++ Jvm.arrayLocs frame_1_arrays args s ++ Jvm.staticLocs frame_1_statics s) 16 1152 → Post tb e args s (.returned v) u) :
    ArmFor flags0 classFile x code maxLocals ret World_1 tables_1 room_1 Calls_1 rest_1 Pre_1 Post := by
  intro l hfl _ _ p e ha hc hk s m args below hf hA hF happ hP
  obtain ⟨hcalls, hrest, hpre⟩ := hP
  obtain ⟨-, -, -, hnamed, -, -, -, hat⟩ := (Spec.applies_iff hf).mp happ
  obtain ⟨hg, hn⟩ := and_e (Cond.before_iff.mp (show (Jvm.Cond.and given_1 narrow_1).before args s = true from hpre))
  obtain ⟨g1a, g1b⟩ := and_e hg
  obtain ⟨g2a, g2b⟩ := and_e g1b
  obtain ⟨c1a, c1b⟩ := and_e hn
  obtain ⟨w0, w1, rfl⟩ : ∃ w0 w1 : Value, args = #[w0, w1] := by
    have hs : args.size = 2 := by simpa [Cond.value, given_1] using g1a
    obtain ⟨L⟩ := args
    match L, hs with
    | [w0, w1], _ => exact ⟨w0, w1, rfl⟩
  have hw := fun d (hd : d ∈ tables_1) => atoms_spec (ws := Jvm.Cond.code x code maxLocals ret :: tables_1) hat d (List.mem_cons_of_mem _ hd)
  have hfit : Fit s := fun {y c} hc i hi => by
    obtain ⟨ha, rfl⟩ := Array.getElem?_eq_some_iff.mp hc
    have q := List.all_eq_true.mp ((Array.all_eq_true_iff_forall_mem.mp hF) _ (Array.getElem_mem ha)) i (List.mem_range.mpr hi)
    simpa [Array.getElem?_eq_getElem hi] using q
  obtain ⟨i0, ei0⟩ := isL_v g2a
  obtain rfl : w0 = (.long i0) := Option.some.inj ei0
  obtain ⟨i1, ei1⟩ := is_v g2b
  obtain rfl : w1 = (.int i1) := Option.some.inj ei1
  obtain ⟨w_WIRE_TYPES, ev_WT⟩ := arr_v c1a
  have S_WIRE_TYPES := Sta.start ev_WT (Or.inr ⟨(hw _ (List.mem_of_getElem? (i := 10) rfl)), (hw _ (List.mem_of_getElem? (i := 54) rfl))⟩)
  obtain ⟨kW, vW, A_w_WIRE_TYPES, hW6⟩ := own_arrN ev_WT c1a c1b (k := 6) (by decide)
  obtain ⟨n, o, h1, h2, h3, _, L, rfl, ⟨rfl, N, -⟩, hq⟩ := rm0 l s _ hw tables_1 i0 i1 kW vW w_WIRE_TYPES s.heap s.heap.size (Old.start s) hW6 A_w_WIRE_TYPES S_WIRE_TYPES p e ha hc hk s m _ below hf ((Spec.applies_iff_loose hf).mp happ).1 ⟨rfl, State.Warmed39.refl s, rfl⟩ trivial
  refine ⟨n, _, h1, h2, h3, hpost _ _ _ _ _ _ ⟨Cond.after_iff.mpr rfl, Cond.after_iff.mpr (eq_i res_at (Term.int_eval (1)) rfl), trivial⟩ ⟨hq.1, hq.2.1, hq.2.2.1, (hq.2.2.2.sift fun y hy => Or.inr (N y hy)).mono (by decide) (by decide)⟩⟩
theorem main_1_1 : Claimed_1_1 := comes_1 fun _ _ _ _ _ _ h hF => ⟨h.1, hF⟩
theorem main_1_2 : Claimed_1_2 := comes_1 fun _ _ _ _ _ _ h hF => ⟨h.2.1, hF⟩
end Jvm.Pilot.@@N@@
namespace Jvm.Pilot.@@N@@
open Jvm Jvm.ClassFile Sem Op Lib Jvm.Free Jvm.Stand Jvm.Pilot.@@N@@.Jvm.D
/-! MADE BY PROGRAM (witnessworld.py) out of the Statement's table words and the real class files: 15 classes; the members and pool entries that the words name. The judged class is class 1, her method 2. -/
namespace start1
open Jvm.ClassFile
def u (s : String) : CpInfo := .utf8 (stringToUtf16 s)
/-- a pool by its gaps: so many unusable entries, then the entry; so many at the end -/
def gap : Nat → List CpInfo → List CpInfo
  | 0, r => r
  | n + 1, r => .unusable :: gap n r
def poolList (es : List (Nat × CpInfo)) (last : Nat) : List CpInfo := es.foldr (fun e r => gap e.1 (e.2 :: r)) (gap last [])
def pool (es : List (Nat × CpInfo)) (last : Nat) : Array CpInfo := ⟨poolList es last⟩
def fileOf (pool : Array CpInfo) (this : Nat) (attrs : Array Attribute := #[]) (ms : Array MethodInfo := #[]) (fl : Nat := 33) (sup : Nat := 0) (ifs : Array Nat := #[]) (fds : Array FieldInfo := #[]) : ClassFile where
  minorVersion := 0
  majorVersion := 65
  constantPool := pool
  accessFlags := fl
  thisClass := this
  superClass := sup
  interfaces := ifs
  fields := fds
  methods := ms
  attributes := attrs
def plain (name : String) (sup : Option ClassId) : Class where
  name := name
  kind := .ordinary
  loader := none
  accessFlags := 33
  super := sup
  interfaces := #[]
  cf := none
  fields := #[]
  methods := #[]
  instanceTypes := #[]
  staticTypes := #[]
  resolved := #[]
  callSites := []
  init := .initialized
  statics := none
  mirror := none

def pool0 : Array CpInfo := pool [(5, u "<init>"), (0, u "()V"), (1, .class_ 10), (1, u "java/lang/Object")] 113

def k0c0 : Code := { maxStack := 0, maxLocals := 1, code := object_method_1_code, exceptionTable := #[], attributes := #[] }
def k0m0 : Method := { name := "<init>", desc := "()V", sig := { parameters := [], returnType := none }, accessFlags := 1, code := some k0c0 }
/-- java/lang/Object -/
def k0 : Class := { plain "java/lang/Object" none with
  accessFlags := 33
  interfaces := #[]
  cf := some (fileOf pool0 8 #[] #[{ accessFlags := 1, nameIndex := 5, descriptorIndex := 6, attributes := #[] }] 33 0 #[] #[])
  fields := #[]
  methods := #[k0m0]
  instanceTypes := #[]
  staticTypes := #[]
  resolved := Array.replicate 124 none
  statics := none }

def pool1 : Array CpInfo := pool [(2, .class_ 4), (1, u "java/lang/Object"), (0, u "<init>"), (0, u "()V"), (0, .long 127), (1, .long 128), (1, .integer 2147483647), (0, .methodref 13 14), (0, .class_ 15), (0, .nameAndType 16 17), (0, u "com/example/fillwire/fillwire/codec/ProtoReaderSint32PinLaw"), (0, u "at"), (0, u "(JII)B"), (0, .class_ 19), (0, u "com/example/fillwire/fillwire/codec/ProtoReader"), (0, .string 21), (0, u "m"), (0, .methodref 18 23), (0, .nameAndType 5 24), (0, u "([BLjava/lang/String;)V"), (0, .methodref 18 26), (0, .nameAndType 27 28), (0, u "next"), (0, u "()Z"), (0, .methodref 18 30), (0, .nameAndType 31 32), (0, u "sint32"), (0, u "()I"), (0, .long 4294967295), (1, .long 2), (4, u "law"), (0, u "(JI)Z")] 7

def k1m0 : Method := { name := "<init>", desc := "()V", sig := { parameters := [], returnType := none }, accessFlags := 1, code := none }
def k1c1 : Code := { maxStack := 4, maxLocals := 6, code := method_2_code, exceptionTable := #[], attributes := #[] }
def k1m1 : Method := { name := "at", desc := "(JII)B", sig := { parameters := [.long, .int, .int], returnType := some .byte }, accessFlags := 10, code := some k1c1 }
def k1c2 : Code := { maxStack := 6, maxLocals := 13, code := code, exceptionTable := #[], attributes := #[] }
def k1m2 : Method := { name := "law", desc := "(JI)Z", sig := { parameters := [.long, .int], returnType := some .boolean }, accessFlags := 9, code := some k1c2 }
/-- com/example/fillwire/fillwire/codec/ProtoReaderSint32PinLaw -/
def k1 : Class := { plain "com/example/fillwire/fillwire/codec/ProtoReaderSint32PinLaw" (some 0) with
  accessFlags := 49
  interfaces := #[]
  cf := some (fileOf pool1 13 #[] #[{ accessFlags := 1, nameIndex := 5, descriptorIndex := 6, attributes := #[] }, { accessFlags := 10, nameIndex := 16, descriptorIndex := 17, attributes := #[] }, { accessFlags := 9, nameIndex := 40, descriptorIndex := 41, attributes := #[] }] 49 2 #[] #[])
  fields := #[]
  methods := #[k1m0, k1m1, k1m2]
  instanceTypes := #[]
  staticTypes := #[]
  resolved := Array.replicate 49 none
  statics := none }

def pool2 : Array CpInfo := pool [(1, .methodref 2 3), (0, .class_ 4), (0, .nameAndType 5 6), (0, u "com/example/fillwire/fillwire/codec/ProtoReader"), (0, u "<init>"), (0, u "([BIILjava/lang/String;)V"), (0, .methodref 8 9), (0, .class_ 10), (0, .nameAndType 5 11), (0, u "java/lang/Object"), (0, u "()V"), (0, .fieldref 2 13), (0, .nameAndType 14 15), (0, u "bytes"), (0, u "[B"), (0, .fieldref 2 17), (0, .nameAndType 18 19), (0, u "position"), (0, u "I"), (0, .fieldref 2 21), (0, .nameAndType 22 19), (0, u "end"), (0, .fieldref 2 24), (0, .nameAndType 25 26), (0, u "name"), (0, u "Ljava/lang/String;"), (0, .methodref 2 28), (0, .nameAndType 29 11), (0, u "readKey"), (0, .fieldref 2 31), (0, .nameAndType 32 19), (0, u "wireType"), (0, .fieldref 2 34), (0, .nameAndType 35 19), (0, u "field"), (8, .methodref 2 45), (0, .nameAndType 46 47), (0, u "expect"), (0, u "(I)V"), (0, .methodref 2 49), (0, .nameAndType 50 51), (0, u "readVarint"), (0, u "()J"), (0, .methodref 2 53), (0, .nameAndType 54 51), (0, u "int64"), (5, u "()I"), (32, .long 536870911), (10, .fieldref 2 105), (0, .nameAndType 106 107), (0, u "WIRE_TYPES"), (0, u "[Ljava/lang/String;"), (41, u "VARINT"), (2, u "I64"), (1, u "LEN"), (1, u "END_GROUP"), (1, u "I32"), (1, u "MAX_FIELD_NUMBER"), (0, u "J"), (0, u "([BLjava/lang/String;)V"), (2, u "next"), (0, u "()Z"), (4, u "sint32")] 48

def k2c0 : Code := { maxStack := 5, maxLocals := 3, code := prog_34_method_1_code, exceptionTable := #[], attributes := #[] }
def k2m0 : Method := { name := "<init>", desc := "([BLjava/lang/String;)V", sig := { parameters := [(.array .byte), (.object "java/lang/String")], returnType := none }, accessFlags := 0, code := some k2c0 }
def k2c1 : Code := { maxStack := 2, maxLocals := 5, code := prog_34_method_2_code, exceptionTable := #[], attributes := #[] }
def k2m1 : Method := { name := "<init>", desc := "([BIILjava/lang/String;)V", sig := { parameters := [(.array .byte), .int, .int, (.object "java/lang/String")], returnType := none }, accessFlags := 2, code := some k2c1 }
def k2c2 : Code := { maxStack := 2, maxLocals := 1, code := prog_34_method_3_code, exceptionTable := #[], attributes := #[] }
def k2m2 : Method := { name := "next", desc := "()Z", sig := { parameters := [], returnType := some .boolean }, accessFlags := 0, code := some k2c2 }
def k2c3 : Code := { maxStack := 2, maxLocals := 1, code := prog_34_method_5_code, exceptionTable := #[], attributes := #[] }
def k2m3 : Method := { name := "int64", desc := "()J", sig := { parameters := [], returnType := some .long }, accessFlags := 0, code := some k2c3 }
def k2c4 : Code := { maxStack := 3, maxLocals := 2, code := prog_34_method_8_code, exceptionTable := #[], attributes := #[] }
def k2m4 : Method := { name := "sint32", desc := "()I", sig := { parameters := [], returnType := some .int }, accessFlags := 0, code := some k2c4 }
def k2c5 : Code := { maxStack := 4, maxLocals := 5, code := prog_34_method_14_code, exceptionTable := #[], attributes := #[] }
def k2m5 : Method := { name := "readKey", desc := "()V", sig := { parameters := [], returnType := none }, accessFlags := 2, code := some k2c5 }
def k2c6 : Code := { maxStack := 5, maxLocals := 2, code := prog_34_method_15_code, exceptionTable := #[], attributes := #[] }
def k2m6 : Method := { name := "expect", desc := "(I)V", sig := { parameters := [.int], returnType := none }, accessFlags := 2, code := some k2c6 }
def k2c7 : Code := { maxStack := 5, maxLocals := 5, code := prog_34_method_16_code, exceptionTable := #[], attributes := #[] }
def k2m7 : Method := { name := "readVarint", desc := "()J", sig := { parameters := [], returnType := some .long }, accessFlags := 2, code := some k2c7 }
/-- com/example/fillwire/fillwire/codec/ProtoReader -/
def k2 : Class := { plain "com/example/fillwire/fillwire/codec/ProtoReader" (some 0) with
  accessFlags := 48
  interfaces := #[]
  cf := some (fileOf pool2 2 #[] #[{ accessFlags := 0, nameIndex := 5, descriptorIndex := 162, attributes := #[] }, { accessFlags := 2, nameIndex := 5, descriptorIndex := 6, attributes := #[] }, { accessFlags := 0, nameIndex := 165, descriptorIndex := 166, attributes := #[] }, { accessFlags := 0, nameIndex := 54, descriptorIndex := 51, attributes := #[] }, { accessFlags := 0, nameIndex := 171, descriptorIndex := 60, attributes := #[] }, { accessFlags := 2, nameIndex := 29, descriptorIndex := 11, attributes := #[] }, { accessFlags := 2, nameIndex := 46, descriptorIndex := 47, attributes := #[] }, { accessFlags := 2, nameIndex := 50, descriptorIndex := 51, attributes := #[] }] 48 8 #[] #[{ accessFlags := 26, nameIndex := 149, descriptorIndex := 19, attributes := #[] }, { accessFlags := 26, nameIndex := 152, descriptorIndex := 19, attributes := #[] }, { accessFlags := 26, nameIndex := 154, descriptorIndex := 19, attributes := #[] }, { accessFlags := 26, nameIndex := 156, descriptorIndex := 19, attributes := #[] }, { accessFlags := 26, nameIndex := 158, descriptorIndex := 19, attributes := #[] }, { accessFlags := 26, nameIndex := 106, descriptorIndex := 107, attributes := #[] }, { accessFlags := 26, nameIndex := 160, descriptorIndex := 161, attributes := #[] }, { accessFlags := 18, nameIndex := 14, descriptorIndex := 15, attributes := #[] }, { accessFlags := 18, nameIndex := 22, descriptorIndex := 19, attributes := #[] }, { accessFlags := 18, nameIndex := 25, descriptorIndex := 26, attributes := #[] }, { accessFlags := 2, nameIndex := 18, descriptorIndex := 19, attributes := #[] }, { accessFlags := 2, nameIndex := 35, descriptorIndex := 19, attributes := #[] }, { accessFlags := 2, nameIndex := 32, descriptorIndex := 19, attributes := #[] }])
  fields := #[{ name := "VARINT", type := .int, accessFlags := 26, slot := 0, constantValue := 0 }, { name := "I64", type := .int, accessFlags := 26, slot := 1, constantValue := 0 }, { name := "LEN", type := .int, accessFlags := 26, slot := 2, constantValue := 0 }, { name := "END_GROUP", type := .int, accessFlags := 26, slot := 3, constantValue := 0 }, { name := "I32", type := .int, accessFlags := 26, slot := 4, constantValue := 0 }, { name := "WIRE_TYPES", type := (.array (.object "java/lang/String")), accessFlags := 26, slot := 5, constantValue := 0 }, { name := "MAX_FIELD_NUMBER", type := .long, accessFlags := 26, slot := 6, constantValue := 0 }, { name := "bytes", type := (.array .byte), accessFlags := 18, slot := 0, constantValue := 0 }, { name := "end", type := .int, accessFlags := 18, slot := 1, constantValue := 0 }, { name := "name", type := (.object "java/lang/String"), accessFlags := 18, slot := 2, constantValue := 0 }, { name := "position", type := .int, accessFlags := 2, slot := 3, constantValue := 0 }, { name := "field", type := .int, accessFlags := 2, slot := 4, constantValue := 0 }, { name := "wireType", type := .int, accessFlags := 2, slot := 5, constantValue := 0 }]
  methods := #[k2m0, k2m1, k2m2, k2m3, k2m4, k2m5, k2m6, k2m7]
  instanceTypes := #[(.array .byte), .int, (.object "java/lang/String"), .int, .int, .int]
  staticTypes := #[.int, .int, .int, .int, .int, (.array (.object "java/lang/String")), .long]
  resolved := Array.replicate 220 none
  statics := some 0 }

def pool3 : Array CpInfo := pool [(1, .class_ 2), (0, u "java/io/Serializable"), (0, .class_ 4), (0, u "java/lang/Object")] 2

/-- java/io/Serializable -/
def k3 : Class := { plain "java/io/Serializable" (some 0) with
  accessFlags := 1537
  interfaces := #[]
  cf := some (fileOf pool3 1 #[] #[] 1537 3 #[] #[])
  fields := #[]
  methods := #[]
  instanceTypes := #[]
  staticTypes := #[]
  resolved := Array.replicate 7 none
  statics := none }

def pool4 : Array CpInfo := pool [(1, .class_ 2), (0, u "java/lang/Comparable"), (0, .class_ 4), (0, u "java/lang/Object")] 7

/-- java/lang/Comparable -/
def k4 : Class := { plain "java/lang/Comparable" (some 0) with
  accessFlags := 1537
  interfaces := #[]
  cf := some (fileOf pool4 1 #[] #[] 1537 3 #[] #[])
  fields := #[]
  methods := #[]
  instanceTypes := #[]
  staticTypes := #[]
  resolved := Array.replicate 12 none
  statics := none }

def pool5 : Array CpInfo := pool [(2, .class_ 4), (1, u "java/lang/CharSequence"), (42, .class_ 48), (0, u "java/lang/CharSequence$1CodePointIterator"), (10, .class_ 60), (0, u "java/lang/CharSequence$1CharIterator"), (5, .class_ 67), (0, u "java/lang/Object")] 63

/-- java/lang/CharSequence -/
def k5 : Class := { plain "java/lang/CharSequence" (some 0) with
  accessFlags := 1537
  interfaces := #[]
  cf := some (fileOf pool5 2 #[.nestMembers #[47, 59]] #[] 1537 66 #[] #[])
  fields := #[]
  methods := #[]
  instanceTypes := #[]
  staticTypes := #[]
  resolved := Array.replicate 131 none
  statics := none }

def pool6 : Array CpInfo := pool [(1, .class_ 2), (0, u "java/lang/constant/Constable"), (0, .class_ 4), (0, u "java/lang/Object")] 6

/-- java/lang/constant/Constable -/
def k6 : Class := { plain "java/lang/constant/Constable" (some 0) with
  accessFlags := 1537
  interfaces := #[]
  cf := some (fileOf pool6 1 #[] #[] 1537 3 #[] #[])
  fields := #[]
  methods := #[]
  instanceTypes := #[]
  staticTypes := #[]
  resolved := Array.replicate 11 none
  statics := none }

def pool7 : Array CpInfo := pool [(1, .class_ 2), (0, u "java/lang/constant/ConstantDesc"), (0, .class_ 4), (0, u "java/lang/Object")] 32

/-- java/lang/constant/ConstantDesc -/
def k7 : Class := { plain "java/lang/constant/ConstantDesc" (some 0) with
  accessFlags := 1537
  interfaces := #[]
  cf := some (fileOf pool7 1 #[] #[] 1537 3 #[] #[])
  fields := #[]
  methods := #[]
  instanceTypes := #[]
  staticTypes := #[]
  resolved := Array.replicate 37 none
  statics := none }

def pool8 : Array CpInfo := pool [(2, .class_ 4), (1, u "java/lang/Object"), (0, u "<init>"), (0, u "()V"), (3, .class_ 12), (1, u "java/lang/String"), (0, u "value"), (0, u "[B"), (2, u "coder"), (0, u "B"), (2, u "hash"), (0, u "I"), (2, u "hashIsZero"), (0, u "Z"), (13, u "COMPACT_STRINGS"), (534, .class_ 576), (0, u "java/lang/CharSequence"), (22, u "CASE_INSENSITIVE_ORDER"), (0, u "Ljava/util/Comparator;"), (500, u "serialPersistentFields"), (0, u "[Ljava/io/ObjectStreamField;"), (0, .class_ 1104), (0, u "java/lang/String$CaseInsensitiveComparator"), (1, .class_ 1107), (0, u "java/io/Serializable"), (0, .class_ 1109), (0, u "java/lang/Comparable"), (0, .class_ 1111), (0, u "java/lang/constant/Constable"), (0, .class_ 1113), (0, u "java/lang/constant/ConstantDesc"), (2, u "serialVersionUID"), (0, u "J"), (3, u "REPL"), (0, u "C"), (2, u "LATIN1"), (1, u "UTF16")] 323

def k8m0 : Method := { name := "<init>", desc := "()V", sig := { parameters := [], returnType := none }, accessFlags := 1, code := none }
/-- java/lang/String -/
def k8 : Class := { plain "java/lang/String" (some 0) with
  accessFlags := 49
  interfaces := #[3, 4, 5, 6, 7]
  cf := some (fileOf pool8 10 #[.nestMembers #[1103]] #[{ accessFlags := 1, nameIndex := 5, descriptorIndex := 6, attributes := #[] }] 49 2 #[1106, 1108, 575, 1110, 1112] #[{ accessFlags := 18, nameIndex := 13, descriptorIndex := 14, attributes := #[] }, { accessFlags := 18, nameIndex := 17, descriptorIndex := 18, attributes := #[] }, { accessFlags := 2, nameIndex := 21, descriptorIndex := 22, attributes := #[] }, { accessFlags := 2, nameIndex := 25, descriptorIndex := 26, attributes := #[] }, { accessFlags := 26, nameIndex := 1116, descriptorIndex := 1117, attributes := #[] }, { accessFlags := 24, nameIndex := 40, descriptorIndex := 26, attributes := #[] }, { accessFlags := 26, nameIndex := 1101, descriptorIndex := 1102, attributes := #[] }, { accessFlags := 26, nameIndex := 1121, descriptorIndex := 1122, attributes := #[] }, { accessFlags := 25, nameIndex := 599, descriptorIndex := 600, attributes := #[] }, { accessFlags := 24, nameIndex := 1125, descriptorIndex := 18, attributes := #[] }, { accessFlags := 24, nameIndex := 1127, descriptorIndex := 18, attributes := #[] }])
  fields := #[{ name := "value", type := (.array .byte), accessFlags := 18, slot := 0, constantValue := 0 }, { name := "coder", type := .byte, accessFlags := 18, slot := 1, constantValue := 0 }, { name := "hash", type := .int, accessFlags := 2, slot := 2, constantValue := 0 }, { name := "hashIsZero", type := .boolean, accessFlags := 2, slot := 3, constantValue := 0 }, { name := "serialVersionUID", type := .long, accessFlags := 26, slot := 0, constantValue := 0 }, { name := "COMPACT_STRINGS", type := .boolean, accessFlags := 24, slot := 1, constantValue := 0 }, { name := "serialPersistentFields", type := (.array (.object "java/io/ObjectStreamField")), accessFlags := 26, slot := 2, constantValue := 0 }, { name := "REPL", type := .char, accessFlags := 26, slot := 3, constantValue := 0 }, { name := "CASE_INSENSITIVE_ORDER", type := (.object "java/util/Comparator"), accessFlags := 25, slot := 4, constantValue := 0 }, { name := "LATIN1", type := .byte, accessFlags := 24, slot := 5, constantValue := 0 }, { name := "UTF16", type := .byte, accessFlags := 24, slot := 6, constantValue := 0 }]
  methods := #[k8m0]
  instanceTypes := #[(.array .byte), .byte, .int, .boolean]
  staticTypes := #[.long, .boolean, (.array (.object "java/io/ObjectStreamField")), .char, (.object "java/util/Comparator"), .byte, .byte]
  resolved := Array.replicate 1451 none
  statics := none }

def pool9 : Array CpInfo := pool [(1, u "java/lang/Cloneable"), (0, .class_ 1), (0, u "java/lang/Object"), (0, .class_ 3)] 3

/-- java/lang/Cloneable -/
def k9 : Class := { plain "java/lang/Cloneable" (some 0) with
  accessFlags := 1537
  interfaces := #[]
  cf := some (fileOf pool9 2 #[] #[] 1537 4 #[] #[])
  fields := #[]
  methods := #[]
  instanceTypes := #[]
  staticTypes := #[]
  resolved := Array.replicate 8 none
  statics := none }

/-- the primitive byte -/
def k10 : Class := { plain "byte" none with kind := .primitive 'B', accessFlags := 0x411 }
/-- [B -/
def k11 : Class := { plain "[B" (some 0) with kind := .array 10 .byte, interfaces := #[9, 3], accessFlags := 1041 }

/-- the primitive int -/
def k12 : Class := { plain "int" none with kind := .primitive 'I', accessFlags := 0x411 }
/-- [I -/
def k13 : Class := { plain "[I" (some 0) with kind := .array 12 .int, interfaces := #[9, 3], accessFlags := 1041 }

/-- [Ljava/lang/String; -/
def k14 : Class := { plain "[Ljava/lang/String;" (some 0) with kind := .array 8 (.object "java/lang/String"), interfaces := #[9, 3], accessFlags := 1041 }

def heap : Heap := #[{ cls := 2, slots := #[.int 0, .int 0, .int 0, .int 0, .int 0, .ref 1, .long 0], vm := .statics 2 },
  { cls := 14, slots := #[.null, .null, .null, .null, .null, .null], vm := .none }]
def classes : Array Class := #[k0, k1, k2, k3, k4, k5, k6, k7, k8, k9, k10, k11, k12, k13, k14]
def interned : List (Array UInt16 × Addr) := []
def slotsUsed : Nat := 13
def theMethod : MethodId := ⟨1, 2⟩
def args0 : Array Value := #[.long 300, .int 5]
def aboutOver (below : List Frame) : State where
  vm := { classes := classes, interned := interned.toArray }
  heap := heap
  slotsUsed := slotsUsed
  threads := #[{ frames := .invoking theMethod args0 :: below }]
def below0 : List Frame := [.native { method := ⟨0, 0⟩, args := #[] }]
def about1 : State := aboutOver below0
def p0 : Program := .bare "" "" ""
def e0 : Env := launch0.env 0 0 0
theorem w_frames : about1.frames = Frame.invoking theMethod args0 :: below0 := rfl
set_option maxRecDepth 65536 in
theorem w_args : argsFit about1.vm theMethod args0 = true := by decide +kernel
set_option maxRecDepth 65536 in
theorem w_heap : heapFits about1 = true := by decide +kernel
set_option maxRecDepth 65536 in
theorem w_runnable : about1.curStatus? = some .runnable := by decide +kernel
set_option maxRecDepth 65536 in
theorem w_alone : about1.alone = true := by decide +kernel
set_option maxRecDepth 65536 in
theorem w_named : about1.methodNamed? x = some theMethod := by decide +kernel
set_option maxRecDepth 65536 in
theorem w_hears : about1.hears theMethod below0 = true := by decide +kernel
set_option maxRecDepth 65536 in
theorem w_ripe : about1.ripe theMethod args0 below0 = true := by decide +kernel
theorem w_running : about1.status = .running := rfl
set_option maxRecDepth 65536 in
theorem w_room : about1.hasRoom e0.platform room_1 = true :=
  launch0.hasRoom_least _ room_1 (by decide +kernel) (by decide +kernel) (by decide +kernel) (by decide +kernel) (by decide +kernel) (by decide +kernel)
theorem allAtoms_all (ts : List Jvm.Cond) (a : Array Jvm.Value) (st : Jvm.State) : (allAtoms ts).before a st = ts.all (fun c => c.before a st) := by
  induction ts with
  | nil => rfl
  | cons c t ih =>
    show (Jvm.Cond.and c (allAtoms t)).before a st = _
    rw [Jvm.Cond.before_and, ih, List.all_cons]
def words1 : List Jvm.Cond := Jvm.Cond.code x code maxLocals ret :: tables_1
/-- a 'code' word, met by the world's own term for the bytes: nothing is compared byte by byte -/
theorem code_word {y : MethodName} {bytes : ByteArray} {mx : Nat} {rt : Option FieldType} {a : Array Value} {s : State} {m : MethodId} {meth : Method} {c : Code} (h1 : s.methodNamed? y = some m) (h2 : s.vm.method? m = some meth) (h3 : meth.code = some c) (h4 : c.code = bytes)
    (h5 : (c.maxLocals == mx && c.exceptionTable.isEmpty && decide (c.maxStack ≤ mostOperands) && decide (meth.sig.returnType = rt) && !meth.locks && decide (parseMethodDescriptor y.desc = some meth.sig)) = true) : (Jvm.Cond.code y bytes mx rt).before a s = true := by
  simp only [Bool.and_eq_true, beq_iff_eq, Bool.not_eq_true', decide_eq_true_eq] at h5
  obtain ⟨⟨⟨⟨⟨g1, g2⟩, g3⟩, g4⟩, g5⟩, g6⟩ := h5
  simp [Cond.before, Cond.holds, Cond.value, h1, h2, h3, h4, g1, g2, g3, g4, g5, g6]
def isCode : Jvm.Cond → Bool
  | .code _ _ _ _ => true
  | _ => false
theorem all_split {L : List Jvm.Cond} {P : Jvm.Cond → Bool} (h1 : L.all (fun c => isCode c || P c) = true) (h2 : ∀ c ∈ L.filter isCode, P c = true) : L.all P = true := by
  refine List.all_eq_true.mpr fun c hc => ?_
  have h := List.all_eq_true.mp h1 c hc
  rcases Bool.eq_false_or_eq_true (isCode c) with hi | hi
  · exact h2 c (List.mem_filter.mpr ⟨hc, hi⟩)
  · simpa [hi] using h
set_option maxRecDepth 65536 in
theorem w_c0 : (Jvm.Cond.code x code maxLocals ret).before args0 about1 = true := code_word (m := ⟨1, 2⟩) (meth := k1m2) (c := k1c2) (by decide +kernel) rfl rfl rfl (by decide +kernel)
set_option maxRecDepth 65536 in
theorem w_c1 : (Jvm.Cond.code ({ cls := "com/example/fillwire/fillwire/codec/ProtoReaderSint32PinLaw", name := "at", desc := "(JII)B" } : Jvm.MethodName) method_2_code (6 : Nat) (Option.some Jvm.ClassFile.FieldType.byte)).before args0 about1 = true := code_word (m := ⟨1, 1⟩) (meth := k1m1) (c := k1c1) (by decide +kernel) rfl rfl rfl (by decide +kernel)
set_option maxRecDepth 65536 in
theorem w_c2 : (Jvm.Cond.code ({ cls := "com/example/fillwire/fillwire/codec/ProtoReader", name := "<init>", desc := "([BLjava/lang/String;)V" } : Jvm.MethodName) prog_34_method_1_code (3 : Nat) (Option.none : Option Jvm.ClassFile.FieldType)).before args0 about1 = true := code_word (m := ⟨2, 0⟩) (meth := k2m0) (c := k2c0) (by decide +kernel) rfl rfl rfl (by decide +kernel)
set_option maxRecDepth 65536 in
theorem w_c3 : (Jvm.Cond.code ({ cls := "com/example/fillwire/fillwire/codec/ProtoReader", name := "<init>", desc := "([BIILjava/lang/String;)V" } : Jvm.MethodName) prog_34_method_2_code (5 : Nat) (Option.none : Option Jvm.ClassFile.FieldType)).before args0 about1 = true := code_word (m := ⟨2, 1⟩) (meth := k2m1) (c := k2c1) (by decide +kernel) rfl rfl rfl (by decide +kernel)
set_option maxRecDepth 65536 in
theorem w_c4 : (Jvm.Cond.code ({ cls := "java/lang/Object", name := "<init>", desc := "()V" } : Jvm.MethodName) object_method_1_code (1 : Nat) (Option.none : Option Jvm.ClassFile.FieldType)).before args0 about1 = true := code_word (m := ⟨0, 0⟩) (meth := k0m0) (c := k0c0) (by decide +kernel) rfl rfl rfl (by decide +kernel)
set_option maxRecDepth 65536 in
theorem w_c5 : (Jvm.Cond.code ({ cls := "com/example/fillwire/fillwire/codec/ProtoReader", name := "next", desc := "()Z" } : Jvm.MethodName) prog_34_method_3_code (1 : Nat) (Option.some Jvm.ClassFile.FieldType.boolean)).before args0 about1 = true := code_word (m := ⟨2, 2⟩) (meth := k2m2) (c := k2c2) (by decide +kernel) rfl rfl rfl (by decide +kernel)
set_option maxRecDepth 65536 in
theorem w_c6 : (Jvm.Cond.code ({ cls := "com/example/fillwire/fillwire/codec/ProtoReader", name := "readKey", desc := "()V" } : Jvm.MethodName) prog_34_method_14_code (5 : Nat) (Option.none : Option Jvm.ClassFile.FieldType)).before args0 about1 = true := code_word (m := ⟨2, 5⟩) (meth := k2m5) (c := k2c5) (by decide +kernel) rfl rfl rfl (by decide +kernel)
set_option maxRecDepth 65536 in
theorem w_c7 : (Jvm.Cond.code ({ cls := "com/example/fillwire/fillwire/codec/ProtoReader", name := "readVarint", desc := "()J" } : Jvm.MethodName) prog_34_method_16_code (5 : Nat) (Option.some Jvm.ClassFile.FieldType.long)).before args0 about1 = true := code_word (m := ⟨2, 7⟩) (meth := k2m7) (c := k2c7) (by decide +kernel) rfl rfl rfl (by decide +kernel)
set_option maxRecDepth 65536 in
theorem w_c8 : (Jvm.Cond.code ({ cls := "com/example/fillwire/fillwire/codec/ProtoReader", name := "sint32", desc := "()I" } : Jvm.MethodName) prog_34_method_8_code (2 : Nat) (Option.some Jvm.ClassFile.FieldType.int)).before args0 about1 = true := code_word (m := ⟨2, 4⟩) (meth := k2m4) (c := k2c4) (by decide +kernel) rfl rfl rfl (by decide +kernel)
set_option maxRecDepth 65536 in
theorem w_c9 : (Jvm.Cond.code ({ cls := "com/example/fillwire/fillwire/codec/ProtoReader", name := "int64", desc := "()J" } : Jvm.MethodName) prog_34_method_5_code (1 : Nat) (Option.some Jvm.ClassFile.FieldType.long)).before args0 about1 = true := code_word (m := ⟨2, 3⟩) (meth := k2m3) (c := k2c3) (by decide +kernel) rfl rfl rfl (by decide +kernel)
set_option maxRecDepth 65536 in
theorem w_c10 : (Jvm.Cond.code ({ cls := "com/example/fillwire/fillwire/codec/ProtoReader", name := "expect", desc := "(I)V" } : Jvm.MethodName) prog_34_method_15_code (2 : Nat) (Option.none : Option Jvm.ClassFile.FieldType)).before args0 about1 = true := code_word (m := ⟨2, 6⟩) (meth := k2m6) (c := k2c6) (by decide +kernel) rfl rfl rfl (by decide +kernel)
def codes1 : List Jvm.Cond := [Jvm.Cond.code x code maxLocals ret, Jvm.Cond.code ({ cls := "com/example/fillwire/fillwire/codec/ProtoReaderSint32PinLaw", name := "at", desc := "(JII)B" } : Jvm.MethodName) method_2_code (6 : Nat) (Option.some Jvm.ClassFile.FieldType.byte), Jvm.Cond.code ({ cls := "com/example/fillwire/fillwire/codec/ProtoReader", name := "<init>", desc := "([BLjava/lang/String;)V" } : Jvm.MethodName) prog_34_method_1_code (3 : Nat) (Option.none : Option Jvm.ClassFile.FieldType), Jvm.Cond.code ({ cls := "com/example/fillwire/fillwire/codec/ProtoReader", name := "<init>", desc := "([BIILjava/lang/String;)V" } : Jvm.MethodName) prog_34_method_2_code (5 : Nat) (Option.none : Option Jvm.ClassFile.FieldType), Jvm.Cond.code ({ cls := "java/lang/Object", name := "<init>", desc := "()V" } : Jvm.MethodName) object_method_1_code (1 : Nat) (Option.none : Option Jvm.ClassFile.FieldType), Jvm.Cond.code ({ cls := "com/example/fillwire/fillwire/codec/ProtoReader", name := "next", desc := "()Z" } : Jvm.MethodName) prog_34_method_3_code (1 : Nat) (Option.some Jvm.ClassFile.FieldType.boolean), Jvm.Cond.code ({ cls := "com/example/fillwire/fillwire/codec/ProtoReader", name := "readKey", desc := "()V" } : Jvm.MethodName) prog_34_method_14_code (5 : Nat) (Option.none : Option Jvm.ClassFile.FieldType), Jvm.Cond.code ({ cls := "com/example/fillwire/fillwire/codec/ProtoReader", name := "readVarint", desc := "()J" } : Jvm.MethodName) prog_34_method_16_code (5 : Nat) (Option.some Jvm.ClassFile.FieldType.long), Jvm.Cond.code ({ cls := "com/example/fillwire/fillwire/codec/ProtoReader", name := "sint32", desc := "()I" } : Jvm.MethodName) prog_34_method_8_code (2 : Nat) (Option.some Jvm.ClassFile.FieldType.int), Jvm.Cond.code ({ cls := "com/example/fillwire/fillwire/codec/ProtoReader", name := "int64", desc := "()J" } : Jvm.MethodName) prog_34_method_5_code (1 : Nat) (Option.some Jvm.ClassFile.FieldType.long), Jvm.Cond.code ({ cls := "com/example/fillwire/fillwire/codec/ProtoReader", name := "expect", desc := "(I)V" } : Jvm.MethodName) prog_34_method_15_code (2 : Nat) (Option.none : Option Jvm.ClassFile.FieldType)]
set_option maxRecDepth 65536 in
theorem codes_eq : words1.filter isCode = codes1 := rfl
theorem w_codes : ∀ c ∈ words1.filter isCode, c.before args0 about1 = true := by
  rw [codes_eq]
  intro c hc
  simp only [codes1, List.mem_cons, List.not_mem_nil, or_false] at hc
  rcases hc with rfl | rfl | rfl | rfl | rfl | rfl | rfl | rfl | rfl | rfl | rfl
  · exact w_c0
  · exact w_c1
  · exact w_c2
  · exact w_c3
  · exact w_c4
  · exact w_c5
  · exact w_c6
  · exact w_c7
  · exact w_c8
  · exact w_c9
  · exact w_c10
set_option maxRecDepth 65536 in
theorem w_t1 : (words1.take 24).all (fun c => isCode c || c.before args0 about1) = true := by decide +kernel
set_option maxRecDepth 65536 in
theorem w_t2 : ((words1.drop 24).take 24).all (fun c => isCode c || c.before args0 about1) = true := by decide +kernel
set_option maxRecDepth 65536 in
theorem w_t3 : ((words1.drop 24).drop 24).all (fun c => isCode c || c.before args0 about1) = true := by decide +kernel
theorem w_tables : (allAtoms (Jvm.Cond.code x code maxLocals ret :: tables_1)).before args0 about1 = true := by
  rw [allAtoms_all]
  show words1.all (fun c => c.before args0 about1) = true
  refine all_split ?_ w_codes
  rw [← List.take_append_drop 24 words1, List.all_append, w_t1, ← List.take_append_drop 24 (words1.drop 24), List.all_append, w_t2, w_t3]
  rfl
set_option maxRecDepth 65536 in
theorem w_case : (Jvm.Cond.and given_1 narrow_1).before args0 about1 = true := by decide +kernel
theorem w_applies : (headSpec (Jvm.Cond.code x code maxLocals ret :: tables_1) room_1).applies x e0.platform about1 = true :=
  (Spec.applies_iff w_frames).mpr ⟨w_running, w_runnable, w_alone, w_named, w_hears, w_ripe, w_room, w_tables⟩
theorem atStart : AtStart classFile x code maxLocals ret World_1 tables_1 room_1 Calls_1 rest_1 Pre_1 launch0 p0 e0 about1 theMethod args0 below0 :=
  ⟨lists_1, trivial, launch0.admits_env _ _ _, launch0.least_env, fairChoices_fair.cas, fairChoices_fair.clock, w_frames, w_args, w_heap, w_applies, trivial, trivial, w_case⟩
end start1
theorem witness_1 : WitnessClaimed_1 := ⟨start1.p0, start1.e0, start1.about1, start1.theMethod, start1.args0, start1.below0, start1.atStart⟩
end Jvm.Pilot.@@N@@
