import JvmDerived
import JvmDerived.Pilot.@@N@@Statement
import JvmDerived.Pilot.@@N@@Code
set_option linter.unusedVariables false
set_option linter.unusedSimpArgs false
namespace Jvm.RoadKit
open Sem ClassFile Op Lib Jvm.Stand Jvm.Free Jvm.LawKit
section Own
variable {p : Program} {l : Launch} {e : Env} {R : Room} {s : State} {m : MethodId} {args : Array Value} {below : List Frame} {meth : Method} {c : Code} {T T' : State} {locs : List Loc} {cells slots kc ks : Nat} {Q : Option Value → Heap → List Loc → Prop} {g g' : JFrame} {FE : Outcome → State → List Loc → Prop}
/-- from T with the frame g on top the body comes to its end: what it returns, the heap and the places written are as Q says; FE: the frame's own word of that end -/
def OFin (p : Program) (e : Env) (below : List Frame) (FE : Outcome → State → List Loc → Prop) (Q : Option Value → Heap → List Loc → Prop) (T : State) (g : JFrame) : Prop :=
  ∃ s₂ o, Steps p.tables e below (T.setTop g) s₂ ∧ s₂.status = .running ∧ Ended s₂ below o ∧ ∃ v L, o = .returned v ∧ Q v s₂.heap L ∧ FE o s₂ L
theorem OFin.st (st : ∀ target, Steps p.tables e below (T'.setTop g') target → Steps p.tables e below (T.setTop g) target) (h : OFin p e below FE Q T' g') : OFin p e below FE Q T g := by
  obtain ⟨s₂, o, h1, r⟩ := h; exact ⟨s₂, o, st _ h1, r⟩
theorem OFin.tr (st : Steps p.tables e below (T.setTop g) (T'.setTop g')) (h : OFin p e below FE Q T' g') : OFin p e below FE Q T g := h.st fun _ k => st.trans k
theorem OFin.cast (q : g = g') (h : OFin p e below FE Q T g') : OFin p e below FE Q T g := q ▸ h
/-- the end's frame: narrow (nothing interned), and wide (over the tables at hand) -/
theorem own_endN {v : Option Value} (hc : cells ≤ kc) (hs : slots ≤ ks) : ∀ fs : List Frame, s.WarmedH (T.setFrames fs).vm → s.sameButNew ({ T.setFrames fs with vm := s.vm } : State) locs cells slots → FrameEnd s (.returned v) (T.setFrames fs) locs kc ks :=
  fun fs hW h => ⟨⟨v, rfl⟩, hW, h.mono hc hs⟩
theorem own_endW {vm₁ : Vm} {n : Nat} {v : Option Value} (hS : s.Since vm₁ n) (hn : n ≤ T.heap.size) (hc : cells ≤ kc) (hs : slots ≤ ks) : ∀ fs : List Frame, (s.setVm vm₁).WarmedH (T.setFrames fs).vm → (s.setVm vm₁).sameButNew ({ T.setFrames fs with vm := vm₁ } : State) locs cells slots → ReturnedEndW s (.returned v) (T.setFrames fs) locs kc ks :=
  fun fs hW h => by
    obtain ⟨a, b, c'⟩ := hS.ended (U := T.setFrames fs) hW hn h
    exact ⟨⟨v, rfl⟩, a, b, c'.mono hc hs⟩
theorem own_retV (X : Stand p l e R s m args below meth c T locs cells slots) (hx : p.tables.exec = Jvm.exec) {pc : Nat} {Ls : Array Slot} (hret : meth.sig.returnType = none) (hlk : meth.locks = false) (hd : decode c.code pc = .ok (.return_, 1)) (hQ : Q none T.heap locs) (hE : ∀ fs : List Frame, s.WarmedH (T.setFrames fs).vm → s.sameButNew ({ T.setFrames fs with vm := s.vm } : State) locs cells slots → FE (.returned none) (T.setFrames fs) locs) : OFin p e below FE Q T (mkF m pc Ls []) := by
  obtain ⟨fs, hr, hrun, hended, hW, hsame⟩ := X.leave (v := none) (fun _ => rfl) hlk
  exact ⟨_, _, X.returnOut hx hret hd hr, hrun, hended, _, _, rfl, hQ, hE fs hW hsame⟩
theorem own_retI (X : Stand p l e R s m args below meth c T locs cells slots) (hx : p.tables.exec = Jvm.exec) {pc : Nat} {Ls : Array Slot} {z : Int32} {rest : List Value} (hret : meth.sig.returnType = some .int) (hlk : meth.locks = false) (hd : decode c.code pc = .ok (.ireturn, 1)) (hQ : Q (some (.int z)) T.heap locs) (hE : ∀ fs : List Frame, s.WarmedH (T.setFrames fs).vm → s.sameButNew ({ T.setFrames fs with vm := s.vm } : State) locs cells slots → FE (.returned (some (.int z))) (T.setFrames fs) locs) : OFin p e below FE Q T (mkF m pc Ls (.int z :: rest)) := by
  obtain ⟨fs, hr, hrun, hended, hW, hsame⟩ := X.leave (v := some (.int z)) (fun h => by rw [hret] at h; cases h) hlk
  exact ⟨_, _, retOut X hx hret rfl (Or.inl ⟨rfl, Or.inl rfl, z, rfl⟩) hd hr, hrun, hended, _, _, rfl, hQ, hE fs hW hsame⟩
theorem own_retN (X : Stand p l e R s m args below meth c T locs cells slots) (hx : p.tables.exec = Jvm.exec) {pc : Nat} {Ls : Array Slot} {z z' : Int32} {rest : List Value} {t : FieldType} (hret : meth.sig.returnType = some t) (hlk : meth.locks = false) (ht : t = .boolean ∨ t = .byte ∨ t = .char ∨ t = .short) (hz : nar t z = z') (hd : decode c.code pc = .ok (.ireturn, 1)) (hQ : Q (some (.int z')) T.heap locs) (hE : ∀ fs : List Frame, s.WarmedH (T.setFrames fs).vm → s.sameButNew ({ T.setFrames fs with vm := s.vm } : State) locs cells slots → FE (.returned (some (.int z'))) (T.setFrames fs) locs) : OFin p e below FE Q T (mkF m pc Ls (.int z :: rest)) := by
  subst hz
  obtain ⟨fs, hr, hrun, hended, hW, hsame⟩ := X.leave (v := some (.int (nar t z))) (fun h => by rw [hret] at h; cases h) hlk
  exact ⟨_, _, retN X hx hret ht hd hr, hrun, hended, _, _, rfl, hQ, hE fs hW hsame⟩
theorem own_retJ (X : Stand p l e R s m args below meth c T locs cells slots) (hx : p.tables.exec = Jvm.exec) {pc : Nat} {Ls : Array Slot} {z : Int64} {rest : List Value} (hret : meth.sig.returnType = some .long) (hlk : meth.locks = false) (hd : decode c.code pc = .ok (.lreturn, 1)) (hQ : Q (some (.long z)) T.heap locs) (hE : ∀ fs : List Frame, s.WarmedH (T.setFrames fs).vm → s.sameButNew ({ T.setFrames fs with vm := s.vm } : State) locs cells slots → FE (.returned (some (.long z))) (T.setFrames fs) locs) : OFin p e below FE Q T (mkF m pc Ls (.long z :: rest)) := by
  obtain ⟨fs, hr, hrun, hended, hW, hsame⟩ := X.leave (v := some (.long z)) (fun h => by rw [hret] at h; cases h) hlk
  exact ⟨_, _, retOut X hx hret rfl (Or.inr (Or.inl ⟨rfl, rfl, z, rfl⟩)) hd hr, hrun, hended, _, _, rfl, hQ, hE fs hW hsame⟩
theorem own_retR (X : Stand p l e R s m args below meth c T locs cells slots) (hx : p.tables.exec = Jvm.exec) {pc : Nat} {Ls : Array Slot} {w : Value} {t : FieldType} {rest : List Value} (hret : meth.sig.returnType = some t) (hlk : meth.locks = false) (ht : t.isReference = true) (hn : narrow t w = w) (hw : w.isRef = true) (hd : decode c.code pc = .ok (.areturn, 1)) (hQ : Q (some w) T.heap locs) (hE : ∀ fs : List Frame, s.WarmedH (T.setFrames fs).vm → s.sameButNew ({ T.setFrames fs with vm := s.vm } : State) locs cells slots → FE (.returned (some w)) (T.setFrames fs) locs) : OFin p e below FE Q T (mkF m pc Ls (w :: rest)) := by
  obtain ⟨fs, hr, hrun, hended, hW, hsame⟩ := X.leave (v := some w) (fun h => by rw [hret] at h; cases h) hlk
  exact ⟨_, _, retOut X hx hret hn (Or.inr (Or.inr (Or.inr (Or.inr ⟨rfl, ht, hw⟩)))) hd hr, hrun, hended, _, _, rfl, hQ, hE fs hW hsame⟩
end Own
end Jvm.RoadKit
namespace Jvm.RoadKit
open Sem ClassFile Op Lib Jvm.Stand Jvm.Free Jvm.LawKit
theorem own_fldI {args : Array Value} {s : State} {t : Term} {C n d : String} {a : Addr} {x : Int32} (ev : t.eval args s none [] s = some (.ref a)) (h : (Jvm.Cond.eq (Term.field t C n d) (Term.int x)).value args s none s [] = some true) : Fld s s.heap a C n d (.int x) := by
  obtain ⟨u, y, e1, e2, -, k2⟩ := cmp_v (Or.inl h)
  cases (Option.some.inj (e2.symm.trans (Term.int_eval x)) : y = .int x)
  obtain ⟨z, rfl⟩ := k2
  have q : z = x := by simpa [Jvm.Cond.value, e1, e2] using h
  subst q
  exact Fld.start ((fld_at ev).symm.trans e1)
theorem own_fldJ {args : Array Value} {s : State} {t : Term} {C n d : String} {a : Addr} {x : Int64} (ev : t.eval args s none [] s = some (.ref a)) (h : (Jvm.Cond.eq (Term.field t C n d) (Term.long x)).value args s none s [] = some true) : Fld s s.heap a C n d (.long x) := by
  obtain ⟨u, y, e1, e2, -, k2⟩ := cmp_v (Or.inl h)
  cases (Option.some.inj (e2.symm.trans (long_at x)) : y = .long x)
  obtain ⟨z, rfl⟩ := k2
  have q : z = x := by simpa [Jvm.Cond.value, e1, e2] using h
  subst q
  exact Fld.start ((fld_at ev).symm.trans e1)
end Jvm.RoadKit
namespace Jvm.RoadKit
theorem own_ite {α : Sort _} {P : α → Prop} {c : Prop} [Decidable c] {a b : α} (ha : P a) (hb : P b) : P (if c then a else b) := by split <;> assumption
theorem own_ite2 {α β : Sort _} {P : α → β → Prop} {c : Prop} [Decidable c] {a b : α} {a' b' : β} (ha : P a a') (hb : P b b') : P (if c then a else b) (if c then a' else b') := by split <;> assumption
/-- (x &&& 0x7fffffff) % d lies between 0 and d -/
theorem own_rem (x d : Int32) (n : Int) (hn : d.toInt = n) (h0 : 0 < n) : 0 ≤ ((x &&& (2147483647 : Int32)) % d).toInt ∧ ((x &&& (2147483647 : Int32)) % d).toInt < n := by
  have h1 := c_mask x (2147483647 : Int32) 31 (by decide) (by decide)
  have h2 := (c_irem (x &&& (2147483647 : Int32)) d n hn).1 (by rw [h1]; omega)
  rw [h2, h1]
  exact ⟨Int.emod_nonneg _ (by omega), Int.emod_lt_of_pos _ h0⟩
end Jvm.RoadKit
namespace Jvm.RoadKit
open Sem ClassFile Op Lib Jvm.Stand Jvm.Free Jvm.LawKit
theorem own_lremM {p : Program} {l : Launch} {e : Env} {R : Room} {s : State} {m : MethodId} {args : Array Value} {below : List Frame} {meth : Method} {c : Code} {T : State} {locs : List Loc} {cells slots : Nat} {g : JFrame} {target : State} (X : Stand p l e R s m args below meth c T locs cells slots) (hx : p.tables.exec = Jvm.exec) (hg : g.method = m) {x y : Int64} {rest : List Value} (hd : decode c.code g.pc = .ok (.lrem, 1)) (hs : g.stack = .long y :: .long x :: rest) (hy : y ≠ 0)
    (hr : Steps p.tables e below (T.setTop { g with pc := g.pc + 1, stack := .long (x % y) :: rest }) target) : Steps p.tables e below (T.setTop g) target :=
  XS.lrem X.here hx hg hd hs hy (by rw [lrem_mod]; exact hr)
end Jvm.RoadKit
namespace Jvm.RoadKit
open Sem ClassFile Op Lib Jvm.Stand Jvm.Free Jvm.LawKit
theorem own_pop2L {p : Program} {l : Launch} {e : Env} {R : Room} {s : State} {m : MethodId} {args : Array Value} {below : List Frame} {meth : Method} {c : Code} {T : State} {locs : List Loc} {cells slots : Nat} {g : JFrame} {target : State} (X : Stand p l e R s m args below meth c T locs cells slots) (hx : p.tables.exec = Jvm.exec) (hg : g.method = m) {x : Int64} {rest : List Value} (hd : decode c.code g.pc = .ok (.pop2, 1)) (hs : g.stack = .long x :: rest)
    (hr : Steps p.tables e below (T.setTop { g with pc := g.pc + 1, stack := rest }) target) : Steps p.tables e below (T.setTop g) target := by
  subst hg
  jvm_step X.here [X.here.top, hx, hd, hs, Value.category]
  exact hr
end Jvm.RoadKit
namespace Jvm.RoadKit
open Sem ClassFile Op Lib Jvm.Stand Jvm.Free Jvm.LawKit
section OwnArr
variable {p : Program} {l : Launch} {e : Env} {R : Room} {s : State} {m : MethodId} {args : Array Value} {below : List Frame} {meth : Method} {c : Code} {T T' : State} {locs : List Loc} {cells slots kc ks : Nat} {Q : Option Value → Heap → List Loc → Prop} {FE : Outcome → State → List Loc → Prop} {Z : State} {h h' : Heap} {a b : Addr} {k : ClassId} {ty : FieldType} {vs : List Value} {ws : List Addr} {i sl : Nat} {j : Int32} {v : Value}
/-- the array at a holds just vs -/
def Oar (Z : State) (h : Heap) (a : Addr) (k : ClassId) (ty : FieldType) (vs : List Value) : Prop := ∃ c : Cell, Arr Z h a c ty ∧ c.cls = k ∧ c.slots = vs.toArray ∧ vs.length < 2 ^ 31
theorem Oar.lt (F : Oar Z h a k ty vs) : a < h.size := by obtain ⟨c, A, -⟩ := F; exact A.lt
theorem Oar.len (F : Oar Z h a k ty vs) : vs.length < 2 ^ 31 := by obtain ⟨c, -, -, -, q⟩ := F; exact q
theorem Oar.ext (E : Ext h h') (F : Oar Z h a k ty vs) : Oar Z h' a k ty vs := by obtain ⟨c, A, r⟩ := F; exact ⟨c, A.ext E, r⟩
theorem Oar.other (W : Wr h h' b sl v) (F : Oar Z h a k ty vs) (q : a ≠ b) : Oar Z h' a k ty vs := by obtain ⟨c, A, r⟩ := F; exact ⟨c, A.other W q, r⟩
theorem Oar.keep (F : Oar Z h a k ty vs) (K : Keep h h' ws) (q : a ∉ ws) : Oar Z h' a k ty vs := by obtain ⟨c, A, r⟩ := F; exact ⟨c, ⟨K.2.1 a c A.1 q, A.2⟩, r⟩
theorem own_idx (hj : j.toInt = (i : Int)) : ¬ j < 0 ∧ j.toNatClampNeg = i := by
  constructor
  · rw [Int32.lt_iff_toInt_lt, hj]; simp
  · rw [Int32.toNatClampNeg, hj]; simp
theorem own_inb {c : Cell} (hs : c.slots = vs.toArray) (hj : j.toInt = (i : Int)) (hi : i < vs.length) : ¬ (j < 0 ∨ c.slots.size ≤ j.toNatClampNeg) := by
  obtain ⟨q1, q2⟩ := own_idx hj
  rw [q2, hs]; simp only [List.size_toArray]; intro q; rcases q with q | q
  · exact q1 q
  · omega
theorem own_cat1 {v : Value} (h : v.isRef = true) : v.category = 1 := by cases v <;> first | rfl | cases h
theorem own_lt_of {x : Value} (hv : vs[i]? = some x) : i < vs.length := (List.getElem?_eq_some_iff.mp hv).1
theorem Oar.set (F : Oar Z h a k ty vs) (W : Wr h h' a sl v) : Oar Z h' a k ty (vs.set sl v) := by
  obtain ⟨c, A, q1, q2, q3⟩ := F
  exact ⟨_, A.same W, q1, by simp [Cell.setSlot, q2], by simpa using q3⟩
theorem Oar.new {z : Int32} {n : Nat} (A : Arr Z h a (newA k ty z) ty) (hz : z.toInt = (n : Int)) : Oar Z h a k ty (List.replicate n (defaultValue ty)) := by
  obtain ⟨q1, q2⟩ := own_idx hz
  refine ⟨_, A, rfl, by simp [newA, q2], ?_⟩
  have := z.toInt_lt
  simp; omega
theorem own_iaload (X : Stand p l e R s m args below meth c T locs cells slots) (hx : p.tables.exec = Jvm.exec) (hZ : Z.Warmed39 s.vm) (eT : T.heap = h) (F : Oar Z h a k .int vs) (hj : j.toInt = (i : Int)) (hv : vs[i]? = some v) {pc pc' : Nat} {Ls : Array Slot} {rest : List Value} (hd : decode c.code pc = .ok (.iaload, 1)) (hp : pc + 1 = pc')
    (hr : OFin p e below FE Q T (mkF m pc' Ls (v :: rest))) : OFin p e below FE Q T (mkF m pc Ls (.int j :: .ref a :: rest)) := by
  subst hp; obtain ⟨cl, A, -, q2, -⟩ := F
  exact hr.st (X.iaload hx (j := j) (v := v) (by rw [eT]; exact A.1) (State.isArrayOf_alike hZ.alike A.2.1) A.2.2 (own_inb q2 hj (own_lt_of hv)) (by rw [(own_idx hj).2, q2]; simpa using hv) (g := mkF m pc Ls (.int j :: .ref a :: rest)) rfl rfl hd)
theorem own_laload (X : Stand p l e R s m args below meth c T locs cells slots) (hx : p.tables.exec = Jvm.exec) (hZ : Z.Warmed39 s.vm) (eT : T.heap = h) (F : Oar Z h a k .long vs) (hj : j.toInt = (i : Int)) (hv : vs[i]? = some v) {pc pc' : Nat} {Ls : Array Slot} {rest : List Value} (hd : decode c.code pc = .ok (.laload, 1)) (hp : pc + 1 = pc')
    (hr : OFin p e below FE Q T (mkF m pc' Ls (v :: rest))) : OFin p e below FE Q T (mkF m pc Ls (.int j :: .ref a :: rest)) := by
  subst hp; obtain ⟨cl, A, -, q2, -⟩ := F
  exact hr.st (X.laload hx (j := j) (v := v) (by rw [eT]; exact A.1) (State.isArrayOf_alike hZ.alike A.2.1) A.2.2 (own_inb q2 hj (own_lt_of hv)) (by rw [(own_idx hj).2, q2]; simpa using hv) (g := mkF m pc Ls (.int j :: .ref a :: rest)) rfl rfl hd)
theorem own_baload (X : Stand p l e R s m args below meth c T locs cells slots) (hx : p.tables.exec = Jvm.exec) (hZ : Z.Warmed39 s.vm) (eT : T.heap = h) (F : Oar Z h a k .byte vs) (hj : j.toInt = (i : Int)) (hv : vs[i]? = some v) {pc pc' : Nat} {Ls : Array Slot} {rest : List Value} (hd : decode c.code pc = .ok (.baload, 1)) (hp : pc + 1 = pc')
    (hr : OFin p e below FE Q T (mkF m pc' Ls (v :: rest))) : OFin p e below FE Q T (mkF m pc Ls (.int j :: .ref a :: rest)) := by
  subst hp; obtain ⟨cl, A, -, q2, -⟩ := F
  exact hr.st (X.baloadBytes hx (j := j) (v := v) (by rw [eT]; exact A.1) (State.isArrayOf_alike hZ.alike A.2.1) A.2.2 (own_inb q2 hj (own_lt_of hv)) (by rw [(own_idx hj).2, q2]; simpa using hv) (g := mkF m pc Ls (.int j :: .ref a :: rest)) rfl rfl hd)
theorem own_zaload (X : Stand p l e R s m args below meth c T locs cells slots) (hx : p.tables.exec = Jvm.exec) (hZ : Z.Warmed39 s.vm) (eT : T.heap = h) (F : Oar Z h a k .boolean vs) (hj : j.toInt = (i : Int)) (hv : vs[i]? = some v) {pc pc' : Nat} {Ls : Array Slot} {rest : List Value} (hd : decode c.code pc = .ok (.baload, 1)) (hp : pc + 1 = pc')
    (hr : OFin p e below FE Q T (mkF m pc' Ls (v :: rest))) : OFin p e below FE Q T (mkF m pc Ls (.int j :: .ref a :: rest)) := by
  subst hp; obtain ⟨cl, A, -, q2, -⟩ := F
  exact hr.st (X.baloadBooleans hx (j := j) (v := v) (by rw [eT]; exact A.1) (State.isArrayOf_alike hZ.alike A.2.1) A.2.2 (own_inb q2 hj (own_lt_of hv)) (by rw [(own_idx hj).2, q2]; simpa using hv) (g := mkF m pc Ls (.int j :: .ref a :: rest)) rfl rfl hd)
theorem own_aaload (X : Stand p l e R s m args below meth c T locs cells slots) (hx : p.tables.exec = Jvm.exec) (hZ : Z.Warmed39 s.vm) (eT : T.heap = h) (F : Oar Z h a k ty vs) (hty : ty.isReference = true) (hj : j.toInt = (i : Int)) (hv : vs[i]? = some v) {pc pc' : Nat} {Ls : Array Slot} {rest : List Value} (hd : decode c.code pc = .ok (.aaload, 1)) (hp : pc + 1 = pc')
    (hr : OFin p e below FE Q T (mkF m pc' Ls (v :: rest))) : OFin p e below FE Q T (mkF m pc Ls (.int j :: .ref a :: rest)) := by
  subst hp; obtain ⟨cl, A, -, q2, -⟩ := F
  exact hr.st (X.aaload hx (j := j) (v := v) (by rw [eT]; exact A.1) (State.isArrayOf_alike hZ.alike A.2.1) hty A.2.2 (own_inb q2 hj (own_lt_of hv)) (by rw [(own_idx hj).2, q2]; simpa using hv) (g := mkF m pc Ls (.int j :: .ref a :: rest)) rfl rfl hd)
theorem own_alen (X : Stand p l e R s m args below meth c T locs cells slots) (hx : p.tables.exec = Jvm.exec) (hZ : Z.Warmed39 s.vm) (eT : T.heap = h) (F : Oar Z h a k ty vs) {z : Int32} (hz : z.toInt = (vs.length : Int)) {pc pc' : Nat} {Ls : Array Slot} {rest : List Value} (hd : decode c.code pc = .ok (.arraylength, 1)) (hp : pc + 1 = pc')
    (hr : OFin p e below FE Q T (mkF m pc' Ls (.int z :: rest))) : OFin p e below FE Q T (mkF m pc Ls (.ref a :: rest)) := by
  subst hp; obtain ⟨cl, A, -, q2, q3⟩ := F
  have q : cl.slots.size.toInt32 = z := by
    rw [q2, List.size_toArray, ← Int32.toInt_inj, hz]; exact Int32.toInt_ofNat_small q3
  subst q
  exact hr.st (X.arraylength hx (by rw [eT]; exact A.1) (State.isArrayOf_alike hZ.alike A.2.1) (g := mkF m pc Ls (.ref a :: rest)) rfl rfl hd)
/-- a store: what each law of a store gives, over Oar -/
theorem own_lastore (X : Stand p l e R s m args below meth c T locs cells slots) (hx : p.tables.exec = Jvm.exec) (hZ : Z.Warmed39 s.vm) (eT : T.heap = h) (F : Oar Z h a k .long vs) (hj : j.toInt = (i : Int)) (hi : i < vs.length) {x : Int64} {pc : Nat} {Ls : Array Slot} {rest : List Value} (hd : decode c.code pc = .ok (.lastore, 1)) :
    ∃ T' h', Stand p l e R s m args below meth c T' (locs ++ [⟨a, i⟩]) cells slots ∧ T'.heap = h' ∧ Wr h h' a i (.long x) ∧ Oar Z h' a k .long (vs.set i (.long x)) ∧ ∀ target, Steps p.tables e below (T'.setTop (mkF m (pc + 1) Ls rest)) target → Steps p.tables e below (T.setTop (mkF m pc Ls (.long x :: .int j :: .ref a :: rest))) target := by
  have F' := F
  obtain ⟨cl, A, -, q2, -⟩ := F
  obtain ⟨T', h', X', e', W, st⟩ := stJ X hx hZ eT A (j := j) (x := x) (own_inb q2 hj hi) (g := mkF m pc Ls (.long x :: .int j :: .ref a :: rest)) rfl rfl hd
  rw [(own_idx hj).2] at X' W
  exact ⟨T', h', X', e', W, F'.set W, st⟩
theorem own_iastore (X : Stand p l e R s m args below meth c T locs cells slots) (hx : p.tables.exec = Jvm.exec) (hZ : Z.Warmed39 s.vm) (eT : T.heap = h) (F : Oar Z h a k .int vs) (hj : j.toInt = (i : Int)) (hi : i < vs.length) {x : Int32} {pc : Nat} {Ls : Array Slot} {rest : List Value} (hd : decode c.code pc = .ok (.iastore, 1)) :
    ∃ T' h', Stand p l e R s m args below meth c T' (locs ++ [⟨a, i⟩]) cells slots ∧ T'.heap = h' ∧ Wr h h' a i (.int x) ∧ Oar Z h' a k .int (vs.set i (.int x)) ∧ ∀ target, Steps p.tables e below (T'.setTop (mkF m (pc + 1) Ls rest)) target → Steps p.tables e below (T.setTop (mkF m pc Ls (.int x :: .int j :: .ref a :: rest))) target := by
  have F' := F
  obtain ⟨cl, A, -, q2, -⟩ := F
  obtain ⟨T', h', X', e', W, st⟩ := stI X hx hZ eT A (j := j) (x := x) (own_inb q2 hj hi) (g := mkF m pc Ls (.int x :: .int j :: .ref a :: rest)) rfl rfl hd
  rw [(own_idx hj).2] at X' W
  exact ⟨T', h', X', e', W, F'.set W, st⟩
theorem own_bastore (X : Stand p l e R s m args below meth c T locs cells slots) (hx : p.tables.exec = Jvm.exec) (hZ : Z.Warmed39 s.vm) (eT : T.heap = h) (F : Oar Z h a k .byte vs) (hj : j.toInt = (i : Int)) (hi : i < vs.length) {x y : Int32} (hy : x.toInt8.toInt32 = y) {pc : Nat} {Ls : Array Slot} {rest : List Value} (hd : decode c.code pc = .ok (.bastore, 1)) :
    ∃ T' h', Stand p l e R s m args below meth c T' (locs ++ [⟨a, i⟩]) cells slots ∧ T'.heap = h' ∧ Wr h h' a i (.int y) ∧ Oar Z h' a k .byte (vs.set i (.int y)) ∧ ∀ target, Steps p.tables e below (T'.setTop (mkF m (pc + 1) Ls rest)) target → Steps p.tables e below (T.setTop (mkF m pc Ls (.int x :: .int j :: .ref a :: rest))) target := by
  have F' := F
  obtain ⟨cl, A, -, q2, -⟩ := F
  obtain ⟨T', h', X', e', W, st⟩ := stB X hx hZ eT A (j := j) (x := x) (own_inb q2 hj hi) (g := mkF m pc Ls (.int x :: .int j :: .ref a :: rest)) rfl rfl hd
  subst hy
  rw [(own_idx hj).2] at X' W
  exact ⟨T', h', X', e', W, F'.set W, st⟩
theorem own_zastore (X : Stand p l e R s m args below meth c T locs cells slots) (hx : p.tables.exec = Jvm.exec) (hZ : Z.Warmed39 s.vm) (eT : T.heap = h) (F : Oar Z h a k .boolean vs) (hj : j.toInt = (i : Int)) (hi : i < vs.length) {x y : Int32} (hy : x &&& 1 = y) {pc : Nat} {Ls : Array Slot} {rest : List Value} (hd : decode c.code pc = .ok (.bastore, 1)) :
    ∃ T' h', Stand p l e R s m args below meth c T' (locs ++ [⟨a, i⟩]) cells slots ∧ T'.heap = h' ∧ Wr h h' a i (.int y) ∧ Oar Z h' a k .boolean (vs.set i (.int y)) ∧ ∀ target, Steps p.tables e below (T'.setTop (mkF m (pc + 1) Ls rest)) target → Steps p.tables e below (T.setTop (mkF m pc Ls (.int x :: .int j :: .ref a :: rest))) target := by
  have F' := F
  obtain ⟨cl, A, -, q2, -⟩ := F
  obtain ⟨T', h', X', e', W, st⟩ := stZ X hx hZ eT A (j := j) (x := x) (own_inb q2 hj hi) (g := mkF m pc Ls (.int x :: .int j :: .ref a :: rest)) rfl rfl hd
  subst hy
  rw [(own_idx hj).2] at X' W
  exact ⟨T', h', X', e', W, F'.set W, st⟩
theorem own_aastore (X : Stand p l e R s m args below meth c T locs cells slots) (hx : p.tables.exec = Jvm.exec) (hZ : Z.Warmed39 s.vm) (eT : T.heap = h) (F : Oar Z h a k ty vs) (hty : ty.isReference = true) (hj : j.toInt = (i : Int)) (hi : i < vs.length) (O : Sto Z h a v) {pc : Nat} {Ls : Array Slot} {rest : List Value} (hd : decode c.code pc = .ok (.aastore, 1)) :
    ∃ T' h', Stand p l e R s m args below meth c T' (locs ++ [⟨a, i⟩]) cells slots ∧ T'.heap = h' ∧ Wr h h' a i v ∧ Oar Z h' a k ty (vs.set i v) ∧ ∀ target, Steps p.tables e below (T'.setTop (mkF m (pc + 1) Ls rest)) target → Steps p.tables e below (T.setTop (mkF m pc Ls (v :: .int j :: .ref a :: rest))) target := by
  have F' := F
  obtain ⟨cl, A, -, q2, -⟩ := F
  obtain ⟨T', h', X', e', W, st⟩ := stR X hx hZ eT A (j := j) (v := v) (own_inb q2 hj hi) hty O (g := mkF m pc Ls (v :: .int j :: .ref a :: rest)) rfl rfl hd
  rw [(own_idx hj).2] at X' W
  exact ⟨T', h', X', e', W, F'.set W, st⟩
theorem own_newP (X : Stand p l e R s m args below meth c T locs cells slots) (hx : p.tables.exec = Jvm.exec) (hZ : Z.Warmed39 s.vm) {a0 : Array Value} {aty : ArrayType} (w : (Jvm.Cond.arrayClass (newarray.typeOf aty)).before a0 Z = true) (eT : T.heap = h) {z : Int32} {n cap : Nat} (hz : z.toInt = (n : Int)) (hcap : n ≤ cap) (hb : cap * 8 ≤ 536870912) (hc : cells + 1 ≤ R.cells) (hl : slots + cap ≤ R.slots) {pc : Nat} {Ls : Array Slot} {rest : List Value} (hd : decode c.code pc = .ok (.newarray aty, 2)) :
    ∃ T' h' cA, Stand p l e R s m args below meth c T' locs (cells + 1) (slots + cap) ∧ T'.heap = h' ∧ Ext h h' ∧ Oar Z h' h.size cA (newarray.typeOf aty) (List.replicate n (defaultValue (newarray.typeOf aty))) ∧ ∀ target, Steps p.tables e below (T'.setTop (mkF m (pc + 2) Ls (.ref h.size :: rest))) target → Steps p.tables e below (T.setTop (mkF m pc Ls (.int z :: rest))) target := by
  obtain ⟨q1, q2⟩ := own_idx hz
  obtain ⟨T', h', cA, X', e', E, A, st⟩ := newP X hx hZ w eT (g := mkF m pc Ls (.int z :: rest)) rfl hd rfl q1 (cap := cap) (by rw [q2]; exact hcap) hb hc hl
  exact ⟨T', h', cA, X', e', E, Oar.new A hz, st⟩
theorem own_newR (X : Stand p l e R s m args below meth c T locs cells slots) (hx : p.tables.exec = Jvm.exec) (hZ : Z.Warmed39 s.vm) {a0 : Array Value} {own C : String} {index : Nat} (hown : s.vm.findClass own = some m.cls) (w1 : (Jvm.Cond.classLink own index C).before a0 Z = true) (w2 : (Jvm.Cond.arrayOver (.object C)).before a0 Z = true) (eT : T.heap = h) {z : Int32} {n cap : Nat} (hz : z.toInt = (n : Int)) (hcap : n ≤ cap) (hb : cap * 8 ≤ 536870912) (hc : cells + 1 ≤ R.cells) (hl : slots + cap ≤ R.slots) {ad : String} (had : "[" ++ (FieldType.object C).toString = ad) {pc : Nat} {Ls : Array Slot} {rest : List Value} (hd : decode c.code pc = .ok (.anewarray index, 3)) :
    ∃ T' h' cA, Stand p l e R s m args below meth c T' locs (cells + 1) (slots + cap) ∧ T'.heap = h' ∧ Ext h h' ∧ Oar Z h' h.size cA (.object C) (List.replicate n .null) ∧ Exa Z h' h.size ad ∧ Ovr Z cA C ∧ ∀ target, Steps p.tables e below (T'.setTop (mkF m (pc + 3) Ls (.ref h.size :: rest))) target → Steps p.tables e below (T.setTop (mkF m pc Ls (.int z :: rest))) target := by
  obtain ⟨q1, q2⟩ := own_idx hz
  obtain ⟨T', h', cA, X', e', E, A, EE, O, st⟩ := newRE X hx hZ hown w1 w2 eT (g := mkF m pc Ls (.int z :: rest)) rfl hd rfl q1 (cap := cap) (by rw [q2]; exact hcap) hb hc hl had
  exact ⟨T', h', cA, X', e', E, Oar.new A hz, EE, O, st⟩
theorem own_newRA (X : Stand p l e R s m args below meth c T locs cells slots) (hx : p.tables.exec = Jvm.exec) (hZ : Z.Warmed39 s.vm) {a0 : Array Value} {own C : String} {t : FieldType} {index : Nat} (hown : s.vm.findClass own = some m.cls) (hC : (FieldType.array t).toString = C) (w1 : (Jvm.Cond.classLink own index C).before a0 Z = true) (w2 : (Jvm.Cond.arrayOver (.array t)).before a0 Z = true) (eT : T.heap = h) {z : Int32} {n cap : Nat} (hz : z.toInt = (n : Int)) (hcap : n ≤ cap) (hb : cap * 8 ≤ 536870912) (hc : cells + 1 ≤ R.cells) (hl : slots + cap ≤ R.slots) {ad : String} (had : "[" ++ C = ad) {pc : Nat} {Ls : Array Slot} {rest : List Value} (hd : decode c.code pc = .ok (.anewarray index, 3)) :
    ∃ T' h' cA, Stand p l e R s m args below meth c T' locs (cells + 1) (slots + cap) ∧ T'.heap = h' ∧ Ext h h' ∧ Oar Z h' h.size cA (.array t) (List.replicate n .null) ∧ Exa Z h' h.size ad ∧ OvrA Z cA t C ∧ ∀ target, Steps p.tables e below (T'.setTop (mkF m (pc + 3) Ls (.ref h.size :: rest))) target → Steps p.tables e below (T.setTop (mkF m pc Ls (.int z :: rest))) target := by
  obtain ⟨q1, q2⟩ := own_idx hz
  obtain ⟨T', h', cA, X', e', E, A, EE, O, st⟩ := newRA X hx hZ hown hC w1 w2 eT (g := mkF m pc Ls (.int z :: rest)) rfl hd rfl q1 (cap := cap) (by rw [q2]; exact hcap) hb hc hl had
  exact ⟨T', h', cA, X', e', E, Oar.new A hz, EE, O, st⟩
theorem own_sto {y : Addr} {C : String} (F : Oar Z h a k ty vs) (O : Ovr Z k C) (I : Ins Z h y C true) : Sto Z h a (.ref y) := by
  obtain ⟨cl, A, q, -, -⟩ := F; exact Sto.ofV A q O I
theorem own_clone (X : Stand p l e R s m args below meth c T locs cells slots) (hx : p.tables.exec = Jvm.exec) (hZ : Z.Warmed39 s.vm) {a0 : Array Value} {own ad : String} {index : Nat} (hown : s.vm.findClass own = some m.cls)
    (w1 : (Jvm.Cond.methodLink own index ⟨ad, "clone", "()Ljava/lang/Object;"⟩).before a0 Z = true) (w2 : (Jvm.Cond.sameMethod ad "java/lang/Object" "clone" "()Ljava/lang/Object;").before a0 Z = true) (w3 : (Jvm.Cond.native ⟨"java/lang/Object", "clone", "()Ljava/lang/Object;"⟩).before a0 Z = true)
    (w4 : (Jvm.Cond.instanceMethod ⟨"java/lang/Object", "clone", "()Ljava/lang/Object;"⟩).before a0 Z = true) (w5 : (Jvm.Cond.selects ad ⟨ad, "clone", "()Ljava/lang/Object;"⟩ ⟨"java/lang/Object", "clone", "()Ljava/lang/Object;"⟩).before a0 Z = true) (w6 : (Jvm.Cond.castable ad "java/lang/Cloneable").before a0 Z = true)
    (eT : T.heap = h) (F : Oar Z h a k ty vs) (hv : ∀ v ∈ vs, fits ty v = true) (E : Exa Z h a ad) {g : JFrame} (hg : g.method = m) (hsize : g.locals.size = c.maxLocals) {rest : List Value} (hs : g.stack = .ref a :: rest) (hd : decode c.code g.pc = .ok (.invokevirtual index, 3))
    (hf : 1 ≤ R.frames) {W cap : Nat} (hW : 2 * g.monitorRoom + (rest.map fun v => v.category).sum ≤ W) (hl : W + 14 ≤ R.locals) (hcap : vs.length ≤ cap) (hc : cells + 1 ≤ R.cells) (hsl : slots + cap ≤ R.slots) :
    ∃ T' h', Stand p l e R s m args below meth c T' locs (cells + 1) (slots + cap) ∧ T'.heap = h' ∧ Ext h h' ∧ Oar Z h' h.size k ty vs ∧ Exa Z h' h.size ad ∧
      ∀ target, Steps p.tables e below (T'.setTop { g with pc := g.pc + 3, stack := .ref h.size :: rest }) target → Steps p.tables e below (T.setTop g) target := by
  obtain ⟨cl, A, q1, q2, q3⟩ := F
  have FC : FitC Z cl := fitC_of A fun i hi v hv' => hv v (by
    rw [q2] at hv'
    exact List.mem_of_getElem? (i := i) (by simpa using hv'))
  obtain ⟨T', h', X', e', ex, A', E', st⟩ := cloneA X hx hZ hown w1 w2 w3 w4 w5 w6 eT A E FC hg hsize hs hd hf hW hl (cap := cap) (by rw [q2]; simpa using hcap) hc hsl
  exact ⟨T', h', X', e', ex, ⟨cloneOf cl, A', q1, q2, q3⟩, E', st⟩
end OwnArr
theorem own_iteH {α : Sort _} {P : α → Prop} {c : Prop} [Decidable c] {a b : α} (ha : c → P a) (hb : ¬ c → P b) : P (if c then a else b) := by
  split
  · rename_i q; exact ha q
  · rename_i q; exact hb q
theorem own_narR {t : FieldType} {v : Value} (h : v.isRef = true) : narrow t v = v := by
  rcases ref_cases h with rfl | ⟨y, rfl⟩ <;> cases t <;> rfl
/-- a private method is selected by its own class, where the sheet bears no such word -/
theorem own_selP {Z s : State} {a0 args : Array Value} {y : MethodName} {n : Nat} (hZ : Z.Warmed39 s.vm) (wi : (Jvm.Cond.instantiable y.cls n).before a0 Z = true) (wp : (Jvm.Cond.privateMethod y).before a0 Z = true) (wm : (Jvm.Cond.instanceMethod y).before a0 Z = true) (hy : y.cls ≠ "java/lang/invoke/MethodHandle" ∧ y.cls ≠ "java/lang/invoke/VarHandle") : (Jvm.Cond.selects y.cls y y).before args s = true := by
  obtain ⟨c, k, h1, h2, -, h4, -⟩ := Cond.instantiable_spec (mv (args := args) hZ wi)
  exact Stand.selects_self_of_private h1 h2 (by cases hk : k.isInterface <;> simp_all) (Cond.privateMethod_at (mvP hZ wp (args := args))) (mv hZ wm) hy
end Jvm.RoadKit
namespace Jvm.RoadKit
open Sem ClassFile Op Lib Jvm.Stand Jvm.Free Jvm.LawKit
/-- an element that is a named object -/
theorem own_elemR {args : Array Value} {s : State} {t u : Term} {j : Int32} {a : Addr} (h : (Jvm.Cond.eq (Term.elem t (Term.int j)) u).value args s none s [] = some true) (ev : u.eval args s none [] s = some (.ref a)) : (Term.elem t (Term.int j)).eval args s none [] s = some (.ref a) := by
  obtain ⟨x, y, e1, e2, k1, k2⟩ := cmp_v (Or.inl h)
  cases e2.symm.trans ev
  have hx : x.isRef = true := by cases x <;> simp_all [Kin]
  rcases ref_cases hx with rfl | ⟨b, rfl⟩
  · simp [Jvm.Cond.value, e1, e2] at h
  · have q : b = a := by simpa [Jvm.Cond.value, e1, e2] using h
    rw [e1, q]
/-- an array of the start, element by element -/
theorem own_arr {args : Array Value} {s : State} {t : Term} {a : Addr} {ty : FieldType} {vs : List Value} {n : Int32} (hfit : Fit s) (ev : t.eval args s none [] s = some (.ref a)) (h1 : (Jvm.Cond.arrayOf t ty).value args s none s [] = some true) (h2 : (Jvm.Cond.eq (Term.length t) (Term.int n)).value args s none s [] = some true)
    (hn : n.toInt = (vs.length : Int)) (hel : ∀ (j : Nat) (hj : j < vs.length), (Term.elem t (Term.int (Int32.ofNat j))).eval args s none [] s = some vs[j]) : ∃ k, Oar s s.heap a k ty vs := by
  obtain ⟨c, A⟩ := Arr.start ev h1
  obtain ⟨x, y, e1, e2, -, k2⟩ := cmp_v (Or.inl h2)
  cases (Option.some.inj (e2.symm.trans (Term.int_eval n)) : y = .int n)
  obtain ⟨z, rfl⟩ := k2
  have q : z = n := by simpa [Jvm.Cond.value, e1, e2] using h2
  subst q
  have hlt : vs.length < 2 ^ 31 := by have := z.toInt_lt; omega
  have hat := A.fin (Vm.Alike.refl _)
  have hsz : c.slots.size = vs.length := by
    by_cases hb : c.slots.size < 2 ^ 31
    · have e3 := len_f ev hat hb
      rw [e1] at e3
      have e4 : z = c.slots.size.toInt32 := by injection e3 with e3; injection e3
      have e5 := len_toInt hb
      rw [← e4, hn] at e5
      omega
    · simp [Term.eval, ev, hat, hb] at e1
  refine ⟨c.cls, c, A, rfl, ?_, hlt⟩
  apply Array.ext
  · simp [hsz]
  · intro i h3 h4
    have hi : i < vs.length := by simpa using h4
    have e6 := hel i hi
    have hj : (Int32.ofNat i).toInt = (i : Int) := Int32.toInt_ofNat_small (by omega)
    have e7 := elem_in e6 ev (Term.int_eval _) A.1
    rw [(own_idx hj).2] at e7
    have e8 := e7.2
    rw [Array.getElem?_eq_getElem h3] at e8
    injection e8 with e8
    try simpa using e8
end Jvm.RoadKit
namespace Jvm.RoadKit
open Sem ClassFile Op Lib Jvm.Stand Jvm.Free Jvm.LawKit
/-- an array of the start of which the length alone is known -/
theorem own_arrN {args : Array Value} {s : State} {t : Term} {a : Addr} {ty : FieldType} {n : Int32} {k : Nat} (ev : t.eval args s none [] s = some (.ref a)) (h1 : (Jvm.Cond.arrayOf t ty).value args s none s [] = some true) (h2 : (Jvm.Cond.eq (Term.length t) (Term.int n)).value args s none s [] = some true) (hn : n.toInt = (k : Int)) : ∃ kk vs, Oar s s.heap a kk ty vs ∧ vs.length = k := by
  obtain ⟨c, A⟩ := Arr.start ev h1
  obtain ⟨x, y, e1, e2, -, k2⟩ := cmp_v (Or.inl h2)
  cases (Option.some.inj (e2.symm.trans (Term.int_eval n)) : y = .int n)
  obtain ⟨z, rfl⟩ := k2
  have q : z = n := by simpa [Jvm.Cond.value, e1, e2] using h2
  subst q
  have hlt : k < 2 ^ 31 := by have := z.toInt_lt; omega
  have hat := A.fin (Vm.Alike.refl _)
  have hsz : c.slots.size = k := by
    by_cases hb : c.slots.size < 2 ^ 31
    · have e3 := len_f ev hat hb
      rw [e1] at e3
      have e4 : z = c.slots.size.toInt32 := by injection e3 with e3; injection e3
      have e5 := len_toInt hb
      rw [← e4, hn] at e5
      omega
    · simp [Term.eval, ev, hat, hb] at e1
  exact ⟨c.cls, c.slots.toList, ⟨c, A, rfl, by simp, by simp [hsz, hlt]⟩, by simp [hsz]⟩
end Jvm.RoadKit
namespace Jvm.Pilot.@@N@@
open Jvm Jvm.ClassFile Sem Op Lib Jvm.Free Jvm.Stand Jvm.LawKit Jvm.RoadKit Bundle Jvm.Pilot.@@N@@.Jvm.D
theorem d8_0 : decode method_4_code 0 = .ok (.lload_n 0, 1) := by decide +kernel
theorem d8_1 : decode method_4_code 1 = .ok (.bipush 7, 2) := by decide +kernel
theorem d8_3 : decode method_4_code 3 = .ok (.iload_n 2, 1) := by decide +kernel
theorem d8_4 : decode method_4_code 4 = .ok (.imul, 1) := by decide +kernel
theorem d8_5 : decode method_4_code 5 = .ok (.lushr, 1) := by decide +kernel
theorem d8_6 : decode method_4_code 6 = .ok (.ldc2_w 54, 3) := by decide +kernel
theorem d8_9 : decode method_4_code 9 = .ok (.land, 1) := by decide +kernel
theorem d8_10 : decode method_4_code 10 = .ok (.lstore 4, 2) := by decide +kernel
theorem d8_12 : decode method_4_code 12 = .ok (.iload_n 2, 1) := by decide +kernel
theorem d8_13 : decode method_4_code 13 = .ok (.iload_n 3, 1) := by decide +kernel
theorem d8_14 : decode method_4_code 14 = .ok (.iconst 1, 1) := by decide +kernel
theorem d8_15 : decode method_4_code 15 = .ok (.isub, 1) := by decide +kernel
theorem d8_16 : decode method_4_code 16 = .ok (.if_icmp .ge 11, 3) := by decide +kernel
theorem d8_19 : decode method_4_code 19 = .ok (.lload 4, 2) := by decide +kernel
theorem d8_21 : decode method_4_code 21 = .ok (.ldc2_w 46, 3) := by decide +kernel
theorem d8_24 : decode method_4_code 24 = .ok (.lor, 1) := by decide +kernel
theorem d8_25 : decode method_4_code 25 = .ok (.lstore 4, 2) := by decide +kernel
theorem d8_27 : decode method_4_code 27 = .ok (.lload 4, 2) := by decide +kernel
theorem d8_29 : decode method_4_code 29 = .ok (.l2i, 1) := by decide +kernel
theorem d8_30 : decode method_4_code 30 = .ok (.i2b, 1) := by decide +kernel
theorem d8_31 : decode method_4_code 31 = .ok (.ireturn, 1) := by decide +kernel
theorem pn_com_example_fillwire_fillwire_codec_ProtoReaderNextPinLaw : plainName "com/example/fillwire/fillwire/codec/ProtoReaderNextPinLaw" = true := by first | (simp [plainName, overriddenIn]; done) | decide +kernel
theorem d7_0 : decode method_5_code 0 = .ok (.iconst 0, 1) := by decide +kernel
theorem d7_1 : decode method_5_code 1 = .ok (.iload 4, 2) := by decide +kernel
theorem d7_3 : decode method_5_code 3 = .ok (.if_icmp .ge 13, 3) := by decide +kernel
theorem d7_6 : decode method_5_code 6 = .ok (.aload_n 0, 1) := by decide +kernel
theorem d7_7 : decode method_5_code 7 = .ok (.iload_n 1, 1) := by decide +kernel
theorem d7_8 : decode method_5_code 8 = .ok (.lload_n 2, 1) := by decide +kernel
theorem d7_9 : decode method_5_code 9 = .ok (.iconst 0, 1) := by decide +kernel
theorem d7_10 : decode method_5_code 10 = .ok (.iload 4, 2) := by decide +kernel
theorem d7_12 : decode method_5_code 12 = .ok (.invokestatic 56, 3) := by decide +kernel
theorem pd_7 : parseMethodDescriptor "(JII)B" = some ⟨[.long, .int, .int], some .byte⟩ := by decide +kernel
theorem d7_15 : decode method_5_code 15 = .ok (.bastore, 1) := by decide +kernel
theorem d7_16 : decode method_5_code 16 = .ok (.iconst 1, 1) := by decide +kernel
theorem d7_17 : decode method_5_code 17 = .ok (.iload 4, 2) := by decide +kernel
theorem d7_19 : decode method_5_code 19 = .ok (.if_icmp .ge 15, 3) := by decide +kernel
theorem d7_22 : decode method_5_code 22 = .ok (.aload_n 0, 1) := by decide +kernel
theorem d7_23 : decode method_5_code 23 = .ok (.iload_n 1, 1) := by decide +kernel
theorem d7_24 : decode method_5_code 24 = .ok (.iconst 1, 1) := by decide +kernel
theorem d7_25 : decode method_5_code 25 = .ok (.iadd, 1) := by decide +kernel
theorem d7_26 : decode method_5_code 26 = .ok (.lload_n 2, 1) := by decide +kernel
theorem d7_27 : decode method_5_code 27 = .ok (.iconst 1, 1) := by decide +kernel
theorem d7_28 : decode method_5_code 28 = .ok (.iload 4, 2) := by decide +kernel
theorem d7_30 : decode method_5_code 30 = .ok (.invokestatic 56, 3) := by decide +kernel
theorem d7_33 : decode method_5_code 33 = .ok (.bastore, 1) := by decide +kernel
theorem d7_34 : decode method_5_code 34 = .ok (.iconst 2, 1) := by decide +kernel
theorem d7_35 : decode method_5_code 35 = .ok (.iload 4, 2) := by decide +kernel
theorem d7_37 : decode method_5_code 37 = .ok (.if_icmp .ge 15, 3) := by decide +kernel
theorem d7_40 : decode method_5_code 40 = .ok (.aload_n 0, 1) := by decide +kernel
theorem d7_41 : decode method_5_code 41 = .ok (.iload_n 1, 1) := by decide +kernel
theorem d7_42 : decode method_5_code 42 = .ok (.iconst 2, 1) := by decide +kernel
theorem d7_43 : decode method_5_code 43 = .ok (.iadd, 1) := by decide +kernel
theorem d7_44 : decode method_5_code 44 = .ok (.lload_n 2, 1) := by decide +kernel
theorem d7_45 : decode method_5_code 45 = .ok (.iconst 2, 1) := by decide +kernel
theorem d7_46 : decode method_5_code 46 = .ok (.iload 4, 2) := by decide +kernel
theorem d7_48 : decode method_5_code 48 = .ok (.invokestatic 56, 3) := by decide +kernel
theorem d7_51 : decode method_5_code 51 = .ok (.bastore, 1) := by decide +kernel
theorem d7_52 : decode method_5_code 52 = .ok (.iconst 3, 1) := by decide +kernel
theorem d7_53 : decode method_5_code 53 = .ok (.iload 4, 2) := by decide +kernel
theorem d7_55 : decode method_5_code 55 = .ok (.if_icmp .ge 15, 3) := by decide +kernel
theorem d7_58 : decode method_5_code 58 = .ok (.aload_n 0, 1) := by decide +kernel
theorem d7_59 : decode method_5_code 59 = .ok (.iload_n 1, 1) := by decide +kernel
theorem d7_60 : decode method_5_code 60 = .ok (.iconst 3, 1) := by decide +kernel
theorem d7_61 : decode method_5_code 61 = .ok (.iadd, 1) := by decide +kernel
theorem d7_62 : decode method_5_code 62 = .ok (.lload_n 2, 1) := by decide +kernel
theorem d7_63 : decode method_5_code 63 = .ok (.iconst 3, 1) := by decide +kernel
theorem d7_64 : decode method_5_code 64 = .ok (.iload 4, 2) := by decide +kernel
theorem d7_66 : decode method_5_code 66 = .ok (.invokestatic 56, 3) := by decide +kernel
theorem d7_69 : decode method_5_code 69 = .ok (.bastore, 1) := by decide +kernel
theorem d7_70 : decode method_5_code 70 = .ok (.iconst 4, 1) := by decide +kernel
theorem d7_71 : decode method_5_code 71 = .ok (.iload 4, 2) := by decide +kernel
theorem d7_73 : decode method_5_code 73 = .ok (.if_icmp .ge 15, 3) := by decide +kernel
theorem d7_76 : decode method_5_code 76 = .ok (.aload_n 0, 1) := by decide +kernel
theorem d7_77 : decode method_5_code 77 = .ok (.iload_n 1, 1) := by decide +kernel
theorem d7_78 : decode method_5_code 78 = .ok (.iconst 4, 1) := by decide +kernel
theorem d7_79 : decode method_5_code 79 = .ok (.iadd, 1) := by decide +kernel
theorem d7_80 : decode method_5_code 80 = .ok (.lload_n 2, 1) := by decide +kernel
theorem d7_81 : decode method_5_code 81 = .ok (.iconst 4, 1) := by decide +kernel
theorem d7_82 : decode method_5_code 82 = .ok (.iload 4, 2) := by decide +kernel
theorem d7_84 : decode method_5_code 84 = .ok (.invokestatic 56, 3) := by decide +kernel
theorem d7_87 : decode method_5_code 87 = .ok (.bastore, 1) := by decide +kernel
theorem d7_88 : decode method_5_code 88 = .ok (.iconst 5, 1) := by decide +kernel
theorem d7_89 : decode method_5_code 89 = .ok (.iload 4, 2) := by decide +kernel
theorem d7_91 : decode method_5_code 91 = .ok (.if_icmp .ge 15, 3) := by decide +kernel
theorem d7_94 : decode method_5_code 94 = .ok (.aload_n 0, 1) := by decide +kernel
theorem d7_95 : decode method_5_code 95 = .ok (.iload_n 1, 1) := by decide +kernel
theorem d7_96 : decode method_5_code 96 = .ok (.iconst 5, 1) := by decide +kernel
theorem d7_97 : decode method_5_code 97 = .ok (.iadd, 1) := by decide +kernel
theorem d7_98 : decode method_5_code 98 = .ok (.lload_n 2, 1) := by decide +kernel
theorem d7_99 : decode method_5_code 99 = .ok (.iconst 5, 1) := by decide +kernel
theorem d7_100 : decode method_5_code 100 = .ok (.iload 4, 2) := by decide +kernel
theorem d7_102 : decode method_5_code 102 = .ok (.invokestatic 56, 3) := by decide +kernel
theorem d7_105 : decode method_5_code 105 = .ok (.bastore, 1) := by decide +kernel
theorem d7_106 : decode method_5_code 106 = .ok (.bipush 6, 2) := by decide +kernel
theorem d7_108 : decode method_5_code 108 = .ok (.iload 4, 2) := by decide +kernel
theorem d7_110 : decode method_5_code 110 = .ok (.if_icmp .ge 17, 3) := by decide +kernel
theorem d7_113 : decode method_5_code 113 = .ok (.aload_n 0, 1) := by decide +kernel
theorem d7_114 : decode method_5_code 114 = .ok (.iload_n 1, 1) := by decide +kernel
theorem d7_115 : decode method_5_code 115 = .ok (.bipush 6, 2) := by decide +kernel
theorem d7_117 : decode method_5_code 117 = .ok (.iadd, 1) := by decide +kernel
theorem d7_118 : decode method_5_code 118 = .ok (.lload_n 2, 1) := by decide +kernel
theorem d7_119 : decode method_5_code 119 = .ok (.bipush 6, 2) := by decide +kernel
theorem d7_121 : decode method_5_code 121 = .ok (.iload 4, 2) := by decide +kernel
theorem d7_123 : decode method_5_code 123 = .ok (.invokestatic 56, 3) := by decide +kernel
theorem d7_126 : decode method_5_code 126 = .ok (.bastore, 1) := by decide +kernel
theorem d7_127 : decode method_5_code 127 = .ok (.bipush 7, 2) := by decide +kernel
theorem d7_129 : decode method_5_code 129 = .ok (.iload 4, 2) := by decide +kernel
theorem d7_131 : decode method_5_code 131 = .ok (.if_icmp .ge 17, 3) := by decide +kernel
theorem d7_134 : decode method_5_code 134 = .ok (.aload_n 0, 1) := by decide +kernel
theorem d7_135 : decode method_5_code 135 = .ok (.iload_n 1, 1) := by decide +kernel
theorem d7_136 : decode method_5_code 136 = .ok (.bipush 7, 2) := by decide +kernel
theorem d7_138 : decode method_5_code 138 = .ok (.iadd, 1) := by decide +kernel
theorem d7_139 : decode method_5_code 139 = .ok (.lload_n 2, 1) := by decide +kernel
theorem d7_140 : decode method_5_code 140 = .ok (.bipush 7, 2) := by decide +kernel
theorem d7_142 : decode method_5_code 142 = .ok (.iload 4, 2) := by decide +kernel
theorem d7_144 : decode method_5_code 144 = .ok (.invokestatic 56, 3) := by decide +kernel
theorem d7_147 : decode method_5_code 147 = .ok (.bastore, 1) := by decide +kernel
theorem d7_148 : decode method_5_code 148 = .ok (.bipush 8, 2) := by decide +kernel
theorem d7_150 : decode method_5_code 150 = .ok (.iload 4, 2) := by decide +kernel
theorem d7_152 : decode method_5_code 152 = .ok (.if_icmp .ge 17, 3) := by decide +kernel
theorem d7_155 : decode method_5_code 155 = .ok (.aload_n 0, 1) := by decide +kernel
theorem d7_156 : decode method_5_code 156 = .ok (.iload_n 1, 1) := by decide +kernel
theorem d7_157 : decode method_5_code 157 = .ok (.bipush 8, 2) := by decide +kernel
theorem d7_159 : decode method_5_code 159 = .ok (.iadd, 1) := by decide +kernel
theorem d7_160 : decode method_5_code 160 = .ok (.lload_n 2, 1) := by decide +kernel
theorem d7_161 : decode method_5_code 161 = .ok (.bipush 8, 2) := by decide +kernel
theorem d7_163 : decode method_5_code 163 = .ok (.iload 4, 2) := by decide +kernel
theorem d7_165 : decode method_5_code 165 = .ok (.invokestatic 56, 3) := by decide +kernel
theorem d7_168 : decode method_5_code 168 = .ok (.bastore, 1) := by decide +kernel
theorem d7_169 : decode method_5_code 169 = .ok (.bipush 9, 2) := by decide +kernel
theorem d7_171 : decode method_5_code 171 = .ok (.iload 4, 2) := by decide +kernel
theorem d7_173 : decode method_5_code 173 = .ok (.if_icmp .ge 17, 3) := by decide +kernel
theorem d7_176 : decode method_5_code 176 = .ok (.aload_n 0, 1) := by decide +kernel
theorem d7_177 : decode method_5_code 177 = .ok (.iload_n 1, 1) := by decide +kernel
theorem d7_178 : decode method_5_code 178 = .ok (.bipush 9, 2) := by decide +kernel
theorem d7_180 : decode method_5_code 180 = .ok (.iadd, 1) := by decide +kernel
theorem d7_181 : decode method_5_code 181 = .ok (.lload_n 2, 1) := by decide +kernel
theorem d7_182 : decode method_5_code 182 = .ok (.bipush 9, 2) := by decide +kernel
theorem d7_184 : decode method_5_code 184 = .ok (.iload 4, 2) := by decide +kernel
theorem d7_186 : decode method_5_code 186 = .ok (.invokestatic 56, 3) := by decide +kernel
theorem d7_189 : decode method_5_code 189 = .ok (.bastore, 1) := by decide +kernel
theorem d7_190 : decode method_5_code 190 = .ok (.return_, 1) := by decide +kernel
theorem d10_0 : decode prog_34_method_16_code 0 = .ok (.lconst 0, 1) := by decide +kernel
theorem d10_1 : decode prog_34_method_16_code 1 = .ok (.lstore_n 1, 1) := by decide +kernel
theorem d10_2 : decode prog_34_method_16_code 2 = .ok (.iconst 0, 1) := by decide +kernel
theorem d10_3 : decode prog_34_method_16_code 3 = .ok (.istore_n 3, 1) := by decide +kernel
theorem d10_4 : decode prog_34_method_16_code 4 = .ok (.iload_n 3, 1) := by decide +kernel
theorem d10_5 : decode prog_34_method_16_code 5 = .ok (.bipush 64, 2) := by decide +kernel
theorem d10_7 : decode prog_34_method_16_code 7 = .ok (.if_icmp .ge 87, 3) := by decide +kernel
theorem d10_10 : decode prog_34_method_16_code 10 = .ok (.aload_n 0, 1) := by decide +kernel
theorem d10_11 : decode prog_34_method_16_code 11 = .ok (.getfield 16, 3) := by decide +kernel
theorem d10_14 : decode prog_34_method_16_code 14 = .ok (.aload_n 0, 1) := by decide +kernel
theorem d10_15 : decode prog_34_method_16_code 15 = .ok (.getfield 20, 3) := by decide +kernel
theorem d10_18 : decode prog_34_method_16_code 18 = .ok (.if_icmp .ne 8, 3) := by decide +kernel
theorem d10_26 : decode prog_34_method_16_code 26 = .ok (.aload_n 0, 1) := by decide +kernel
theorem d10_27 : decode prog_34_method_16_code 27 = .ok (.getfield 12, 3) := by decide +kernel
theorem d10_30 : decode prog_34_method_16_code 30 = .ok (.aload_n 0, 1) := by decide +kernel
theorem d10_31 : decode prog_34_method_16_code 31 = .ok (.dup, 1) := by decide +kernel
theorem d10_32 : decode prog_34_method_16_code 32 = .ok (.getfield 16, 3) := by decide +kernel
theorem d10_35 : decode prog_34_method_16_code 35 = .ok (.dup_x1, 1) := by decide +kernel
theorem d10_36 : decode prog_34_method_16_code 36 = .ok (.iconst 1, 1) := by decide +kernel
theorem d10_37 : decode prog_34_method_16_code 37 = .ok (.iadd, 1) := by decide +kernel
theorem d10_38 : decode prog_34_method_16_code 38 = .ok (.putfield 16, 3) := by decide +kernel
theorem d10_41 : decode prog_34_method_16_code 41 = .ok (.baload, 1) := by decide +kernel
theorem d10_42 : decode prog_34_method_16_code 42 = .ok (.istore 4, 2) := by decide +kernel
theorem d10_44 : decode prog_34_method_16_code 44 = .ok (.lload_n 1, 1) := by decide +kernel
theorem d10_45 : decode prog_34_method_16_code 45 = .ok (.iload 4, 2) := by decide +kernel
theorem d10_47 : decode prog_34_method_16_code 47 = .ok (.bipush 127, 2) := by decide +kernel
theorem d10_49 : decode prog_34_method_16_code 49 = .ok (.iand, 1) := by decide +kernel
theorem d10_50 : decode prog_34_method_16_code 50 = .ok (.i2l, 1) := by decide +kernel
theorem d10_51 : decode prog_34_method_16_code 51 = .ok (.iload_n 3, 1) := by decide +kernel
theorem d10_52 : decode prog_34_method_16_code 52 = .ok (.lshl, 1) := by decide +kernel
theorem d10_53 : decode prog_34_method_16_code 53 = .ok (.lor, 1) := by decide +kernel
theorem d10_54 : decode prog_34_method_16_code 54 = .ok (.lstore_n 1, 1) := by decide +kernel
theorem d10_55 : decode prog_34_method_16_code 55 = .ok (.iload 4, 2) := by decide +kernel
theorem d10_57 : decode prog_34_method_16_code 57 = .ok (.ifCond .lt 31, 3) := by decide +kernel
theorem d10_60 : decode prog_34_method_16_code 60 = .ok (.iload_n 3, 1) := by decide +kernel
theorem d10_61 : decode prog_34_method_16_code 61 = .ok (.bipush 63, 2) := by decide +kernel
theorem d10_63 : decode prog_34_method_16_code 63 = .ok (.if_icmp .ne 23, 3) := by decide +kernel
theorem d10_66 : decode prog_34_method_16_code 66 = .ok (.iload 4, 2) := by decide +kernel
theorem d10_68 : decode prog_34_method_16_code 68 = .ok (.iconst 1, 1) := by decide +kernel
theorem d10_69 : decode prog_34_method_16_code 69 = .ok (.if_icmp .le 17, 3) := by decide +kernel
theorem d10_86 : decode prog_34_method_16_code 86 = .ok (.lload_n 1, 1) := by decide +kernel
theorem d10_87 : decode prog_34_method_16_code 87 = .ok (.lreturn, 1) := by decide +kernel
theorem d10_88 : decode prog_34_method_16_code 88 = .ok (.iinc 3 7, 3) := by decide +kernel
theorem d10_91 : decode prog_34_method_16_code 91 = .ok (.goto (-87), 3) := by decide +kernel
theorem pn_com_example_fillwire_fillwire_codec_ProtoReader : plainName "com/example/fillwire/fillwire/codec/ProtoReader" = true := by first | (simp [plainName, overriddenIn]; done) | decide +kernel
theorem d9_0 : decode prog_34_method_14_code 0 = .ok (.aload_n 0, 1) := by decide +kernel
theorem d9_1 : decode prog_34_method_14_code 1 = .ok (.iconst 0, 1) := by decide +kernel
theorem d9_2 : decode prog_34_method_14_code 2 = .ok (.putfield 33, 3) := by decide +kernel
theorem d9_5 : decode prog_34_method_14_code 5 = .ok (.aload_n 0, 1) := by decide +kernel
theorem d9_6 : decode prog_34_method_14_code 6 = .ok (.invokevirtual 48, 3) := by decide +kernel
theorem pd_1 : parseMethodDescriptor "()J" = some ⟨[], some .long⟩ := by decide +kernel
theorem d9_9 : decode prog_34_method_14_code 9 = .ok (.lstore_n 1, 1) := by decide +kernel
theorem d9_10 : decode prog_34_method_14_code 10 = .ok (.lload_n 1, 1) := by decide +kernel
theorem d9_11 : decode prog_34_method_14_code 11 = .ok (.iconst 3, 1) := by decide +kernel
theorem d9_12 : decode prog_34_method_14_code 12 = .ok (.lushr, 1) := by decide +kernel
theorem d9_13 : decode prog_34_method_14_code 13 = .ok (.lstore_n 3, 1) := by decide +kernel
theorem d9_14 : decode prog_34_method_14_code 14 = .ok (.lload_n 3, 1) := by decide +kernel
theorem d9_15 : decode prog_34_method_14_code 15 = .ok (.lconst 0, 1) := by decide +kernel
theorem d9_16 : decode prog_34_method_14_code 16 = .ok (.lcmp, 1) := by decide +kernel
theorem d9_17 : decode prog_34_method_14_code 17 = .ok (.ifCond .eq 11, 3) := by decide +kernel
theorem d9_20 : decode prog_34_method_14_code 20 = .ok (.lload_n 3, 1) := by decide +kernel
theorem d9_21 : decode prog_34_method_14_code 21 = .ok (.ldc2_w 93, 3) := by decide +kernel
theorem d9_24 : decode prog_34_method_14_code 24 = .ok (.lcmp, 1) := by decide +kernel
theorem d9_25 : decode prog_34_method_14_code 25 = .ok (.ifCond .le 17, 3) := by decide +kernel
theorem d9_42 : decode prog_34_method_14_code 42 = .ok (.aload_n 0, 1) := by decide +kernel
theorem d9_43 : decode prog_34_method_14_code 43 = .ok (.lload_n 3, 1) := by decide +kernel
theorem d9_44 : decode prog_34_method_14_code 44 = .ok (.l2i, 1) := by decide +kernel
theorem d9_45 : decode prog_34_method_14_code 45 = .ok (.putfield 33, 3) := by decide +kernel
theorem d9_48 : decode prog_34_method_14_code 48 = .ok (.aload_n 0, 1) := by decide +kernel
theorem d9_49 : decode prog_34_method_14_code 49 = .ok (.lload_n 1, 1) := by decide +kernel
theorem d9_50 : decode prog_34_method_14_code 50 = .ok (.l2i, 1) := by decide +kernel
theorem d9_51 : decode prog_34_method_14_code 51 = .ok (.bipush 7, 2) := by decide +kernel
theorem d9_53 : decode prog_34_method_14_code 53 = .ok (.iand, 1) := by decide +kernel
theorem d9_54 : decode prog_34_method_14_code 54 = .ok (.putfield 30, 3) := by decide +kernel
theorem d9_57 : decode prog_34_method_14_code 57 = .ok (.aload_n 0, 1) := by decide +kernel
theorem d9_58 : decode prog_34_method_14_code 58 = .ok (.getfield 30, 3) := by decide +kernel
theorem d9_61 : decode prog_34_method_14_code 61 = .ok (.getstatic 104, 3) := by decide +kernel
theorem d9_64 : decode prog_34_method_14_code 64 = .ok (.arraylength, 1) := by decide +kernel
theorem d9_65 : decode prog_34_method_14_code 65 = .ok (.if_icmp .lt 21, 3) := by decide +kernel
theorem d9_86 : decode prog_34_method_14_code 86 = .ok (.return_, 1) := by decide +kernel
theorem d15_0 : decode prog_34_method_18_code 0 = .ok (.iload_n 1, 1) := by decide +kernel
theorem d15_1 : decode prog_34_method_18_code 1 = .ok (.aload_n 0, 1) := by decide +kernel
theorem d15_2 : decode prog_34_method_18_code 2 = .ok (.getfield 20, 3) := by decide +kernel
theorem d15_5 : decode prog_34_method_18_code 5 = .ok (.aload_n 0, 1) := by decide +kernel
theorem d15_6 : decode prog_34_method_18_code 6 = .ok (.getfield 16, 3) := by decide +kernel
theorem d15_9 : decode prog_34_method_18_code 9 = .ok (.isub, 1) := by decide +kernel
theorem d15_10 : decode prog_34_method_18_code 10 = .ok (.if_icmp .le 8, 3) := by decide +kernel
theorem d15_18 : decode prog_34_method_18_code 18 = .ok (.aload_n 0, 1) := by decide +kernel
theorem d15_19 : decode prog_34_method_18_code 19 = .ok (.dup, 1) := by decide +kernel
theorem d15_20 : decode prog_34_method_18_code 20 = .ok (.getfield 16, 3) := by decide +kernel
theorem d15_23 : decode prog_34_method_18_code 23 = .ok (.iload_n 1, 1) := by decide +kernel
theorem d15_24 : decode prog_34_method_18_code 24 = .ok (.iadd, 1) := by decide +kernel
theorem d15_25 : decode prog_34_method_18_code 25 = .ok (.putfield 16, 3) := by decide +kernel
theorem d15_28 : decode prog_34_method_18_code 28 = .ok (.return_, 1) := by decide +kernel
theorem d16_0 : decode prog_34_method_17_code 0 = .ok (.aload_n 0, 1) := by decide +kernel
theorem d16_1 : decode prog_34_method_17_code 1 = .ok (.invokevirtual 48, 3) := by decide +kernel
theorem d16_4 : decode prog_34_method_17_code 4 = .ok (.lstore_n 1, 1) := by decide +kernel
theorem d16_5 : decode prog_34_method_17_code 5 = .ok (.aload_n 0, 1) := by decide +kernel
theorem d16_6 : decode prog_34_method_17_code 6 = .ok (.getfield 20, 3) := by decide +kernel
theorem d16_9 : decode prog_34_method_17_code 9 = .ok (.aload_n 0, 1) := by decide +kernel
theorem d16_10 : decode prog_34_method_17_code 10 = .ok (.getfield 16, 3) := by decide +kernel
theorem d16_13 : decode prog_34_method_17_code 13 = .ok (.isub, 1) := by decide +kernel
theorem d16_14 : decode prog_34_method_17_code 14 = .ok (.istore_n 3, 1) := by decide +kernel
theorem d16_15 : decode prog_34_method_17_code 15 = .ok (.lload_n 1, 1) := by decide +kernel
theorem d16_16 : decode prog_34_method_17_code 16 = .ok (.lconst 0, 1) := by decide +kernel
theorem d16_17 : decode prog_34_method_17_code 17 = .ok (.lcmp, 1) := by decide +kernel
theorem d16_18 : decode prog_34_method_17_code 18 = .ok (.ifCond .lt 10, 3) := by decide +kernel
theorem d16_21 : decode prog_34_method_17_code 21 = .ok (.lload_n 1, 1) := by decide +kernel
theorem d16_22 : decode prog_34_method_17_code 22 = .ok (.iload_n 3, 1) := by decide +kernel
theorem d16_23 : decode prog_34_method_17_code 23 = .ok (.i2l, 1) := by decide +kernel
theorem d16_24 : decode prog_34_method_17_code 24 = .ok (.lcmp, 1) := by decide +kernel
theorem d16_25 : decode prog_34_method_17_code 25 = .ok (.ifCond .le 22, 3) := by decide +kernel
theorem d16_47 : decode prog_34_method_17_code 47 = .ok (.lload_n 1, 1) := by decide +kernel
theorem d16_48 : decode prog_34_method_17_code 48 = .ok (.l2i, 1) := by decide +kernel
theorem d16_49 : decode prog_34_method_17_code 49 = .ok (.ireturn, 1) := by decide +kernel
theorem d14_0 : decode prog_34_method_13_code 0 = .ok (.aload_n 0, 1) := by decide +kernel
theorem d14_1 : decode prog_34_method_13_code 1 = .ok (.getfield 33, 3) := by decide +kernel
theorem d14_4 : decode prog_34_method_13_code 4 = .ok (.istore_n 2, 1) := by decide +kernel
theorem d14_5 : decode prog_34_method_13_code 5 = .ok (.iload_n 1, 1) := by decide +kernel
theorem d14_6 : decode prog_34_method_13_code 6 = .ok (.bipush 64, 2) := by decide +kernel
theorem d14_8 : decode prog_34_method_13_code 8 = .ok (.if_icmp .le 14, 3) := by decide +kernel
theorem d14_22 : decode prog_34_method_13_code 22 = .ok (.aload_n 0, 1) := by decide +kernel
theorem d14_23 : decode prog_34_method_13_code 23 = .ok (.getfield 16, 3) := by decide +kernel
theorem d14_26 : decode prog_34_method_13_code 26 = .ok (.aload_n 0, 1) := by decide +kernel
theorem d14_27 : decode prog_34_method_13_code 27 = .ok (.getfield 20, 3) := by decide +kernel
theorem d14_30 : decode prog_34_method_13_code 30 = .ok (.if_icmp .ne 14, 3) := by decide +kernel
theorem d14_44 : decode prog_34_method_13_code 44 = .ok (.aload_n 0, 1) := by decide +kernel
theorem d14_45 : decode prog_34_method_13_code 45 = .ok (.invokevirtual 27, 3) := by decide +kernel
theorem pd_2 : parseMethodDescriptor "()V" = some ⟨[], none⟩ := by decide +kernel
theorem d14_48 : decode prog_34_method_13_code 48 = .ok (.aload_n 0, 1) := by decide +kernel
theorem d14_49 : decode prog_34_method_13_code 49 = .ok (.getfield 30, 3) := by decide +kernel
theorem d14_52 : decode prog_34_method_13_code 52 = .ok (.iconst 4, 1) := by decide +kernel
theorem d14_53 : decode prog_34_method_13_code 53 = .ok (.if_icmp .ne 27, 3) := by decide +kernel
theorem d14_56 : decode prog_34_method_13_code 56 = .ok (.aload_n 0, 1) := by decide +kernel
theorem d14_57 : decode prog_34_method_13_code 57 = .ok (.getfield 33, 3) := by decide +kernel
theorem d14_60 : decode prog_34_method_13_code 60 = .ok (.iload_n 2, 1) := by decide +kernel
theorem d14_61 : decode prog_34_method_13_code 61 = .ok (.if_icmp .eq 18, 3) := by decide +kernel
theorem d14_79 : decode prog_34_method_13_code 79 = .ok (.return_, 1) := by decide +kernel
theorem d13_0 : decode prog_34_method_12_code 0 = .ok (.aload_n 0, 1) := by decide +kernel
theorem d13_1 : decode prog_34_method_12_code 1 = .ok (.getfield 30, 3) := by decide +kernel
theorem d13_4 : decode prog_34_method_12_code 4 = .ok (.tableswitch 76 0 5 #[40, 48, 57, 76, 76, 68], 40) := by decide +kernel
theorem d13_44 : decode prog_34_method_12_code 44 = .ok (.aload_n 0, 1) := by decide +kernel
theorem d13_45 : decode prog_34_method_12_code 45 = .ok (.invokevirtual 48, 3) := by decide +kernel
theorem d13_48 : decode prog_34_method_12_code 48 = .ok (.pop2, 1) := by decide +kernel
theorem d13_49 : decode prog_34_method_12_code 49 = .ok (.goto 38, 3) := by decide +kernel
theorem d13_87 : decode prog_34_method_12_code 87 = .ok (.return_, 1) := by decide +kernel
theorem d12_0 : decode prog_34_method_11_code 0 = .ok (.aload_n 0, 1) := by decide +kernel
theorem d12_1 : decode prog_34_method_11_code 1 = .ok (.iconst 0, 1) := by decide +kernel
theorem d12_2 : decode prog_34_method_11_code 2 = .ok (.invokevirtual 77, 3) := by decide +kernel
theorem pd_4 : parseMethodDescriptor "(I)V" = some ⟨[.int], none⟩ := by decide +kernel
theorem d12_5 : decode prog_34_method_11_code 5 = .ok (.return_, 1) := by decide +kernel
theorem d13_52 : decode prog_34_method_12_code 52 = .ok (.aload_n 0, 1) := by decide +kernel
theorem d13_53 : decode prog_34_method_12_code 53 = .ok (.bipush 8, 2) := by decide +kernel
theorem d13_55 : decode prog_34_method_12_code 55 = .ok (.invokevirtual 80, 3) := by decide +kernel
theorem d13_58 : decode prog_34_method_12_code 58 = .ok (.goto 29, 3) := by decide +kernel
theorem d13_61 : decode prog_34_method_12_code 61 = .ok (.aload_n 0, 1) := by decide +kernel
theorem d13_62 : decode prog_34_method_12_code 62 = .ok (.aload_n 0, 1) := by decide +kernel
theorem d13_63 : decode prog_34_method_12_code 63 = .ok (.invokevirtual 57, 3) := by decide +kernel
theorem pd_0 : parseMethodDescriptor "()I" = some ⟨[], some .int⟩ := by decide +kernel
theorem d13_66 : decode prog_34_method_12_code 66 = .ok (.invokevirtual 80, 3) := by decide +kernel
theorem d13_69 : decode prog_34_method_12_code 69 = .ok (.goto 18, 3) := by decide +kernel
theorem d13_80 : decode prog_34_method_12_code 80 = .ok (.aload_n 0, 1) := by decide +kernel
theorem d13_81 : decode prog_34_method_12_code 81 = .ok (.iload_n 1, 1) := by decide +kernel
theorem d13_82 : decode prog_34_method_12_code 82 = .ok (.iconst 1, 1) := by decide +kernel
theorem d13_83 : decode prog_34_method_12_code 83 = .ok (.iadd, 1) := by decide +kernel
theorem d13_84 : decode prog_34_method_12_code 84 = .ok (.invokevirtual 83, 3) := by decide +kernel
theorem d13_72 : decode prog_34_method_12_code 72 = .ok (.aload_n 0, 1) := by decide +kernel
theorem d13_73 : decode prog_34_method_12_code 73 = .ok (.iconst 4, 1) := by decide +kernel
theorem d13_74 : decode prog_34_method_12_code 74 = .ok (.invokevirtual 80, 3) := by decide +kernel
theorem d13_77 : decode prog_34_method_12_code 77 = .ok (.goto 10, 3) := by decide +kernel
theorem d4_0 : decode prog_34_method_3_code 0 = .ok (.aload_n 0, 1) := by decide +kernel
theorem d4_1 : decode prog_34_method_3_code 1 = .ok (.getfield 16, 3) := by decide +kernel
theorem d4_4 : decode prog_34_method_3_code 4 = .ok (.aload_n 0, 1) := by decide +kernel
theorem d4_5 : decode prog_34_method_3_code 5 = .ok (.getfield 20, 3) := by decide +kernel
theorem d4_8 : decode prog_34_method_3_code 8 = .ok (.if_icmp .ne 5, 3) := by decide +kernel
theorem d4_13 : decode prog_34_method_3_code 13 = .ok (.aload_n 0, 1) := by decide +kernel
theorem d4_14 : decode prog_34_method_3_code 14 = .ok (.invokevirtual 27, 3) := by decide +kernel
theorem d4_17 : decode prog_34_method_3_code 17 = .ok (.aload_n 0, 1) := by decide +kernel
theorem d4_18 : decode prog_34_method_3_code 18 = .ok (.getfield 30, 3) := by decide +kernel
theorem d4_21 : decode prog_34_method_3_code 21 = .ok (.iconst 4, 1) := by decide +kernel
theorem d4_22 : decode prog_34_method_3_code 22 = .ok (.if_icmp .ne 17, 3) := by decide +kernel
theorem d4_39 : decode prog_34_method_3_code 39 = .ok (.iconst 1, 1) := by decide +kernel
theorem d4_40 : decode prog_34_method_3_code 40 = .ok (.ireturn, 1) := by decide +kernel
theorem d2_0 : decode prog_34_method_2_code 0 = .ok (.aload_n 0, 1) := by decide +kernel
theorem d2_1 : decode prog_34_method_2_code 1 = .ok (.invokespecial 7, 3) := by decide +kernel
theorem d2_4 : decode prog_34_method_2_code 4 = .ok (.aload_n 0, 1) := by decide +kernel
theorem d2_5 : decode prog_34_method_2_code 5 = .ok (.aload_n 1, 1) := by decide +kernel
theorem d2_6 : decode prog_34_method_2_code 6 = .ok (.putfield 12, 3) := by decide +kernel
theorem d2_9 : decode prog_34_method_2_code 9 = .ok (.aload_n 0, 1) := by decide +kernel
theorem d2_10 : decode prog_34_method_2_code 10 = .ok (.iload_n 2, 1) := by decide +kernel
theorem d2_11 : decode prog_34_method_2_code 11 = .ok (.putfield 16, 3) := by decide +kernel
theorem d2_14 : decode prog_34_method_2_code 14 = .ok (.aload_n 0, 1) := by decide +kernel
theorem d2_15 : decode prog_34_method_2_code 15 = .ok (.iload_n 3, 1) := by decide +kernel
theorem d2_16 : decode prog_34_method_2_code 16 = .ok (.putfield 20, 3) := by decide +kernel
theorem d2_19 : decode prog_34_method_2_code 19 = .ok (.aload_n 0, 1) := by decide +kernel
theorem d2_20 : decode prog_34_method_2_code 20 = .ok (.aload 4, 2) := by decide +kernel
theorem d2_22 : decode prog_34_method_2_code 22 = .ok (.putfield 23, 3) := by decide +kernel
theorem d2_25 : decode prog_34_method_2_code 25 = .ok (.return_, 1) := by decide +kernel
theorem d1_0 : decode prog_34_method_1_code 0 = .ok (.aload_n 0, 1) := by decide +kernel
theorem d1_1 : decode prog_34_method_1_code 1 = .ok (.aload_n 1, 1) := by decide +kernel
theorem d1_2 : decode prog_34_method_1_code 2 = .ok (.iconst 0, 1) := by decide +kernel
theorem d1_3 : decode prog_34_method_1_code 3 = .ok (.aload_n 1, 1) := by decide +kernel
theorem d1_4 : decode prog_34_method_1_code 4 = .ok (.arraylength, 1) := by decide +kernel
theorem d1_5 : decode prog_34_method_1_code 5 = .ok (.aload_n 2, 1) := by decide +kernel
theorem d1_6 : decode prog_34_method_1_code 6 = .ok (.invokespecial 1, 3) := by decide +kernel
theorem pd_8 : parseMethodDescriptor "([BIILjava/lang/String;)V" = some ⟨[(.array .byte), .int, .int, (.object "java/lang/String")], none⟩ := by decide +kernel
theorem d1_9 : decode prog_34_method_1_code 9 = .ok (.return_, 1) := by decide +kernel
theorem d4_11 : decode prog_34_method_3_code 11 = .ok (.iconst 0, 1) := by decide +kernel
theorem d4_12 : decode prog_34_method_3_code 12 = .ok (.ireturn, 1) := by decide +kernel
theorem d5_0 : decode method_3_code 0 = .ok (.lload_n 0, 1) := by decide +kernel
theorem d5_1 : decode method_3_code 1 = .ok (.ldc2_w 46, 3) := by decide +kernel
theorem d5_4 : decode method_3_code 4 = .ok (.lcmp, 1) := by decide +kernel
theorem d5_5 : decode method_3_code 5 = .ok (.ifCond .ge 5, 3) := by decide +kernel
theorem d5_8 : decode method_3_code 8 = .ok (.iconst 1, 1) := by decide +kernel
theorem d5_9 : decode method_3_code 9 = .ok (.ireturn, 1) := by decide +kernel
theorem d5_10 : decode method_3_code 10 = .ok (.lload_n 0, 1) := by decide +kernel
theorem d5_11 : decode method_3_code 11 = .ok (.ldc2_w 48, 3) := by decide +kernel
theorem d5_14 : decode method_3_code 14 = .ok (.lcmp, 1) := by decide +kernel
theorem d5_15 : decode method_3_code 15 = .ok (.ifCond .ge 5, 3) := by decide +kernel
theorem d5_18 : decode method_3_code 18 = .ok (.iconst 2, 1) := by decide +kernel
theorem d5_19 : decode method_3_code 19 = .ok (.ireturn, 1) := by decide +kernel
theorem d5_20 : decode method_3_code 20 = .ok (.lload_n 0, 1) := by decide +kernel
theorem d5_21 : decode method_3_code 21 = .ok (.ldc2_w 50, 3) := by decide +kernel
theorem d5_24 : decode method_3_code 24 = .ok (.lcmp, 1) := by decide +kernel
theorem d5_25 : decode method_3_code 25 = .ok (.ifCond .ge 5, 3) := by decide +kernel
theorem d5_28 : decode method_3_code 28 = .ok (.iconst 3, 1) := by decide +kernel
theorem d5_29 : decode method_3_code 29 = .ok (.ireturn, 1) := by decide +kernel
theorem d5_30 : decode method_3_code 30 = .ok (.lload_n 0, 1) := by decide +kernel
theorem d5_31 : decode method_3_code 31 = .ok (.ldc2_w 52, 3) := by decide +kernel
theorem d5_34 : decode method_3_code 34 = .ok (.lcmp, 1) := by decide +kernel
theorem d5_35 : decode method_3_code 35 = .ok (.ifCond .ge 5, 3) := by decide +kernel
theorem d5_38 : decode method_3_code 38 = .ok (.iconst 4, 1) := by decide +kernel
theorem d5_39 : decode method_3_code 39 = .ok (.ireturn, 1) := by decide +kernel
theorem d5_40 : decode method_3_code 40 = .ok (.iconst 5, 1) := by decide +kernel
theorem d5_41 : decode method_3_code 41 = .ok (.ireturn, 1) := by decide +kernel
theorem d6_0 : decode jdk_29_method_69_code 0 = .ok (.iload_n 0, 1) := by decide +kernel
theorem d6_1 : decode jdk_29_method_69_code 1 = .ok (.iload_n 1, 1) := by decide +kernel
theorem d6_2 : decode jdk_29_method_69_code 2 = .ok (.if_icmp .gt 7, 3) := by decide +kernel
theorem d6_9 : decode jdk_29_method_69_code 9 = .ok (.iload_n 1, 1) := by decide +kernel
theorem d6_10 : decode jdk_29_method_69_code 10 = .ok (.ireturn, 1) := by decide +kernel
theorem d6_5 : decode jdk_29_method_69_code 5 = .ok (.iload_n 0, 1) := by decide +kernel
theorem d6_6 : decode jdk_29_method_69_code 6 = .ok (.goto 4, 3) := by decide +kernel
theorem d11_0 : decode prog_34_method_4_code 0 = .ok (.aload_n 0, 1) := by decide +kernel
theorem d11_1 : decode prog_34_method_4_code 1 = .ok (.getfield 33, 3) := by decide +kernel
theorem d11_4 : decode prog_34_method_4_code 4 = .ok (.ireturn, 1) := by decide +kernel
theorem pd_10 : parseMethodDescriptor "([BLjava/lang/String;)V" = some ⟨[(.array .byte), (.object "java/lang/String")], none⟩ := by decide +kernel
theorem pd_3 : parseMethodDescriptor "()Z" = some ⟨[], some .boolean⟩ := by decide +kernel
theorem pd_6 : parseMethodDescriptor "(J)I" = some ⟨[.long], some .int⟩ := by decide +kernel
theorem pd_5 : parseMethodDescriptor "(II)I" = some ⟨[.int, .int], some .int⟩ := by decide +kernel
theorem pd_9 : parseMethodDescriptor "([BIJI)V" = some ⟨[(.array .byte), .int, .long, .int], none⟩ := by decide +kernel
/-- the shift, the position and the value behind i turns of the loop -/
def vsh : Nat → Int32
  | 0 => (0 : Int32)
  | i + 1 => (vsh i) + (7 : Int32)
def vpo (p : Int32) : Nat → Int32
  | 0 => p
  | i + 1 => (vpo p i) + (1 : Int32)
def vac (f : Nat → Int32) : Nat → Int64
  | 0 => (0 : Int64)
  | i + 1 => ((vac f i) ||| ((((f i) &&& (127 : Int32)).toInt64) <<< ((vsh i) &&& 0x3f).toInt64))
theorem vsh_val : ∀ i : Nat, i ≤ 100 → (vsh i).toInt = 7 * (i : Int)
  | 0, _ => by decide
  | i + 1, h => by
    have q := vsh_val i (by omega)
    have e : (vsh (i + 1)).toInt = ((vsh i) + (7 : Int32)).toInt := rfl
    have c := c_iadd (vsh i) (7 : Int32)
    have r := rng32 ((vsh i) + (7 : Int32))
    have s7 : (7 : Int32).toInt = 7 := by decide
    rw [e]; rw [q, s7] at c; omega
theorem vpo_val (p : Int32) : ∀ i : Nat, i ≤ 100 → 0 ≤ p.toInt → p.toInt < 2000000000 → (vpo p i).toInt = p.toInt + (i : Int)
  | 0, _, _, _ => by show p.toInt = _; omega
  | i + 1, h, h1, h2 => by
    have q := vpo_val p i (by omega) h1 h2
    have e : (vpo p (i + 1)).toInt = ((vpo p i) + (1 : Int32)).toInt := rfl
    have c := c_iadd (vpo p i) (1 : Int32)
    have r := rng32 ((vpo p i) + (1 : Int32))
    have s1 : (1 : Int32).toInt = 1 := by decide
    rw [e]; rw [q, s1] at c; omega
theorem own_lt32 {x y : Int32} (h : x.toInt < y.toInt) : x < y := Int32.lt_iff_toInt_lt.mpr h
theorem own_nlt32 {x y : Int32} (h : y.toInt ≤ x.toInt) : ¬ x < y := fun q => by have := Int32.lt_iff_toInt_lt.mp q; omega
theorem own_sh9 (i kv : Nat) (h : i = kv) (hb : i ≤ 100) (q : vsh i = (63 : Int32)) : kv = 9 := by
  have e := vsh_val i hb
  rw [q, (by decide : (63 : Int32).toInt = 63)] at e
  omega
theorem own_nb (x : Int32) : nar .byte (x.toInt8.toInt32) = x.toInt8.toInt32 := by simp [nar]
def pN (vs : List Value) (o : Nat) (f : Nat → Int32) : Nat → List Value
  | 0 => vs
  | i + 1 => (pN vs o f i).set (o + i) (.int (f i))
theorem pN_len (vs : List Value) (o : Nat) (f : Nat → Int32) : ∀ d, (pN vs o f d).length = vs.length
  | 0 => rfl
  | d + 1 => by show ((pN vs o f d).set (o + d) (.int (f d))).length = _; rw [List.length_set]; exact pN_len vs o f d
theorem pN_in (vs : List Value) (o : Nat) (f : Nat → Int32) : ∀ d i, i < d → o + i < vs.length → (pN vs o f d)[o + i]? = some (.int (f i))
  | 0, i, h, _ => by omega
  | d + 1, i, h, h3 => by
    show ((pN vs o f d).set (o + d) (.int (f d)))[o + i]? = _
    rw [List.getElem?_set]
    by_cases q : i = d
    · rw [if_pos (by omega), if_pos (by rw [pN_len]; omega), q]
    · rw [if_neg (by omega)]; exact pN_in vs o f d i (by omega) h3
theorem pN_out (vs : List Value) (o : Nat) (f : Nat → Int32) : ∀ d i, i < o ∨ o + d ≤ i → (pN vs o f d)[i]? = vs[i]?
  | 0, i, _ => rfl
  | d + 1, i, h => by
    show ((pN vs o f d).set (o + d) (.int (f d)))[i]? = _
    rw [List.getElem?_set, if_neg (by omega)]
    exact pN_out vs o f d i (by omega)

theorem ef_rm8 (m : MethodId) (q0 : Int64) (p1 : Int32) (p2 : Int32) : entryFrame m #[(.long q0), (.int p1), (.int p2)] 6 = mkF m 0 #[.val (.long q0), .second, .val (.int p1), .val (.int p2), .unset, .unset] [] := by first | (simp [entryFrame, mkF, argsToLocals, Value.category]; done) | rfl
def F8 (q0 : Int64) (p1 : Int32) (p2 : Int32) : Int32 := if p1 < (p2 - (1 : Int32)) then ((((((q0.toUInt64 >>> (((7 : Int32) * p1) &&& 0x3f).toInt64.toUInt64).toInt64) &&& (127 : Int64)) ||| (128 : Int64)).toInt32).toInt8.toInt32) else (((((q0.toUInt64 >>> (((7 : Int32) * p1) &&& 0x3f).toInt64.toUInt64).toInt64) &&& (127 : Int64)).toInt32).toInt8.toInt32)
def Q8 (q0 : Int64) (p1 : Int32) (p2 : Int32) (h0 : Heap) (n0 : Nat) (v : Option Value) (h : Heap) (L : List Loc) : Prop := v = some (Value.int (F8 q0 p1 p2)) ∧ Fr n0 L ∧ h = h0
set_option maxRecDepth 65536 in
set_option maxHeartbeats 40000000 in
theorem rm8 (l : Launch) (Z : State) (a0 : Array Value) (hw : ∀ d ∈ tables_1, d.before a0 Z = true) (ws : List Jvm.Cond) (q0 : Int64) (p1 : Int32) (p2 : Int32) (h0 : Heap) (n0 : Nat) (O0 : Old Z n0 h0)  :
    MetFree l (⟨"com/example/fillwire/fillwire/codec/ProtoReaderNextPinLaw", "g", "(JII)B"⟩ : MethodName) (head1 (Jvm.Cond.code (⟨"com/example/fillwire/fillwire/codec/ProtoReaderNextPinLaw", "g", "(JII)B"⟩ : MethodName) method_4_code 6 (some .byte) :: ws) ({ frames := 0, cells := 0, slots := 0, locals := 0 } : Room)) (fun a U => a = #[(.long q0), (.int p1), (.int p2)] ∧ Z.Warmed39 U.vm ∧ U.heap = h0) (fun _ _ _ _ _ => True) (fun _ U o U' => ∃ v L, o = .returned v ∧ Q8 q0 p1 p2 h0 n0 v U'.heap L ∧ FrameEnd U o U' L ({ frames := 0, cells := 0, slots := 0, locals := 0 } : Room).cells ({ frames := 0, cells := 0, slots := 0, locals := 0 } : Room).slots) := by
  refine MetFree.of_bodySF (plainFor_of_name pn_com_example_fillwire_fillwire_codec_ProtoReaderNextPinLaw) hisR ?_
  intro p e s m args below meth c s₁ Bd hml0 hP hK
  obtain ⟨rfl, hZ, hh⟩ := hP
  have hx := Bd.exec
  have hby := Bd.bytes
  have hml : c.maxLocals = 6 := hml0
  have hown : s.vm.findClass "com/example/fillwire/fillwire/codec/ProtoReaderNextPinLaw" = some m.cls := findClass_of_methodNamed Bd.named
  have hnm := (name_of_methodNamed Bd.named Bd.method).1
  have X0 : Stand p l e ({ frames := 0, cells := 0, slots := 0, locals := 0 } : Room) s m #[(.long q0), (.int p1), (.int p2)] below meth c s₁ [] 0 0 := Stand.of_body Bd
  have e0 : s₁.heap = h0 := by rw [← hh, Bd.state]; rfl
  have N0 := Fr.nil n0
  show OFin p e below (fun o t L => FrameEnd s o t L ({ frames := 0, cells := 0, slots := 0, locals := 0 } : Room).cells ({ frames := 0, cells := 0, slots := 0, locals := 0 } : Room).slots) (fun v h L => Q8 q0 p1 p2 h0 n0 v h L) s₁ (entryFrame m #[(.long q0), (.int p1), (.int p2)] 6)
  refine OFin.cast (ef_rm8 m q0 p1 p2) ?_
  show OFin p e below _ _ s₁ (mkF m 0 #[.val (.long q0), .second, .val (.int p1), .val (.int p2), .unset, .unset] [])
  refine OFin.st (fun t k => XS.lloadN X0.here hx rfl (hb hby d8_0) rfl k) ?_
  show OFin p e below _ _ s₁ (mkF m 1 #[.val (.long q0), .second, .val (.int p1), .val (.int p2), .unset, .unset] [(.long q0)])
  refine OFin.st (fun t k => XS.bipush X0.here hx rfl (hb hby d8_1) k) ?_
  show OFin p e below _ _ s₁ (mkF m 3 #[.val (.long q0), .second, .val (.int p1), .val (.int p2), .unset, .unset] [(.int (7 : Int32)), (.long q0)])
  refine OFin.st (fun t k => XS.iloadN X0.here hx rfl (hb hby d8_3) rfl k) ?_
  show OFin p e below _ _ s₁ (mkF m 4 #[.val (.long q0), .second, .val (.int p1), .val (.int p2), .unset, .unset] [(.int p1), (.int (7 : Int32)), (.long q0)])
  refine OFin.st (fun t k => XS.imul X0.here hx rfl (hb hby d8_4) rfl k) ?_
  show OFin p e below _ _ s₁ (mkF m 5 #[.val (.long q0), .second, .val (.int p1), .val (.int p2), .unset, .unset] [(.int ((7 : Int32) * p1)), (.long q0)])
  refine OFin.st (fun t k => XS.lushr X0.here hx rfl (hb hby d8_5) rfl k) ?_
  show OFin p e below _ _ s₁ (mkF m 6 #[.val (.long q0), .second, .val (.int p1), .val (.int p2), .unset, .unset] [(.long ((q0.toUInt64 >>> (((7 : Int32) * p1) &&& 0x3f).toInt64.toUInt64).toInt64))])
  refine OFin.st (X0.ldc2Long hx hown (mvT hZ (hw _ (List.mem_of_getElem? (i := 51) rfl))) (g := (mkF m 6 #[.val (.long q0), .second, .val (.int p1), .val (.int p2), .unset, .unset] [(.long ((q0.toUInt64 >>> (((7 : Int32) * p1) &&& 0x3f).toInt64.toUInt64).toInt64))])) rfl (hb hby d8_6)) ?_
  show OFin p e below _ _ s₁ (mkF m 9 #[.val (.long q0), .second, .val (.int p1), .val (.int p2), .unset, .unset] [(.long (127 : Int64)), (.long ((q0.toUInt64 >>> (((7 : Int32) * p1) &&& 0x3f).toInt64.toUInt64).toInt64))])
  refine OFin.st (fun t k => XS.land X0.here hx rfl (hb hby d8_9) rfl k) ?_
  show OFin p e below _ _ s₁ (mkF m 10 #[.val (.long q0), .second, .val (.int p1), .val (.int p2), .unset, .unset] [(.long (((q0.toUInt64 >>> (((7 : Int32) * p1) &&& 0x3f).toInt64.toUInt64).toInt64) &&& (127 : Int64)))])
  refine OFin.st (fun t k => XS.lstore X0.here hx rfl (hb hby d8_10) rfl (l' := #[.val (.long q0), .second, .val (.int p1), .val (.int p2), .val (.long (((q0.toUInt64 >>> (((7 : Int32) * p1) &&& 0x3f).toInt64.toUInt64).toInt64) &&& (127 : Int64))), .second]) rfl k) ?_
  show OFin p e below _ _ s₁ (mkF m 12 #[.val (.long q0), .second, .val (.int p1), .val (.int p2), .val (.long (((q0.toUInt64 >>> (((7 : Int32) * p1) &&& 0x3f).toInt64.toUInt64).toInt64) &&& (127 : Int64))), .second] [])
  refine OFin.st (fun t k => XS.iloadN X0.here hx rfl (hb hby d8_12) rfl k) ?_
  show OFin p e below _ _ s₁ (mkF m 13 #[.val (.long q0), .second, .val (.int p1), .val (.int p2), .val (.long (((q0.toUInt64 >>> (((7 : Int32) * p1) &&& 0x3f).toInt64.toUInt64).toInt64) &&& (127 : Int64))), .second] [(.int p1)])
  refine OFin.st (fun t k => XS.iloadN X0.here hx rfl (hb hby d8_13) rfl k) ?_
  show OFin p e below _ _ s₁ (mkF m 14 #[.val (.long q0), .second, .val (.int p1), .val (.int p2), .val (.long (((q0.toUInt64 >>> (((7 : Int32) * p1) &&& 0x3f).toInt64.toUInt64).toInt64) &&& (127 : Int64))), .second] [(.int p2), (.int p1)])
  refine OFin.st (fun t k => XS.iconst X0.here hx rfl (hb hby d8_14) k) ?_
  show OFin p e below _ _ s₁ (mkF m 15 #[.val (.long q0), .second, .val (.int p1), .val (.int p2), .val (.long (((q0.toUInt64 >>> (((7 : Int32) * p1) &&& 0x3f).toInt64.toUInt64).toInt64) &&& (127 : Int64))), .second] [(.int (1 : Int32)), (.int p2), (.int p1)])
  refine OFin.st (fun t k => XS.isub X0.here hx rfl (hb hby d8_15) rfl k) ?_
  show OFin p e below _ _ s₁ (mkF m 16 #[.val (.long q0), .second, .val (.int p1), .val (.int p2), .val (.long (((q0.toUInt64 >>> (((7 : Int32) * p1) &&& 0x3f).toInt64.toUInt64).toInt64) &&& (127 : Int64))), .second] [(.int (p2 - (1 : Int32))), (.int p1)])
  by_cases hc16 : p1 < (p2 - (1 : Int32))
  · refine OFin.st (fun t k => XS.icmpNo X0.here hx rfl (hb hby d8_16) rfl (tlt hc16).2.1 k) ?_
    show OFin p e below _ _ s₁ (mkF m 19 #[.val (.long q0), .second, .val (.int p1), .val (.int p2), .val (.long (((q0.toUInt64 >>> (((7 : Int32) * p1) &&& 0x3f).toInt64.toUInt64).toInt64) &&& (127 : Int64))), .second] [])
    refine OFin.st (fun t k => XS.lload X0.here hx rfl (hb hby d8_19) rfl k) ?_
    show OFin p e below _ _ s₁ (mkF m 21 #[.val (.long q0), .second, .val (.int p1), .val (.int p2), .val (.long (((q0.toUInt64 >>> (((7 : Int32) * p1) &&& 0x3f).toInt64.toUInt64).toInt64) &&& (127 : Int64))), .second] [(.long (((q0.toUInt64 >>> (((7 : Int32) * p1) &&& 0x3f).toInt64.toUInt64).toInt64) &&& (127 : Int64)))])
    refine OFin.st (X0.ldc2Long hx hown (mvT hZ (hw _ (List.mem_of_getElem? (i := 39) rfl))) (g := (mkF m 21 #[.val (.long q0), .second, .val (.int p1), .val (.int p2), .val (.long (((q0.toUInt64 >>> (((7 : Int32) * p1) &&& 0x3f).toInt64.toUInt64).toInt64) &&& (127 : Int64))), .second] [(.long (((q0.toUInt64 >>> (((7 : Int32) * p1) &&& 0x3f).toInt64.toUInt64).toInt64) &&& (127 : Int64)))])) rfl (hb hby d8_21)) ?_
    show OFin p e below _ _ s₁ (mkF m 24 #[.val (.long q0), .second, .val (.int p1), .val (.int p2), .val (.long (((q0.toUInt64 >>> (((7 : Int32) * p1) &&& 0x3f).toInt64.toUInt64).toInt64) &&& (127 : Int64))), .second] [(.long (128 : Int64)), (.long (((q0.toUInt64 >>> (((7 : Int32) * p1) &&& 0x3f).toInt64.toUInt64).toInt64) &&& (127 : Int64)))])
    refine OFin.st (fun t k => XS.lor X0.here hx rfl (hb hby d8_24) rfl k) ?_
    show OFin p e below _ _ s₁ (mkF m 25 #[.val (.long q0), .second, .val (.int p1), .val (.int p2), .val (.long (((q0.toUInt64 >>> (((7 : Int32) * p1) &&& 0x3f).toInt64.toUInt64).toInt64) &&& (127 : Int64))), .second] [(.long ((((q0.toUInt64 >>> (((7 : Int32) * p1) &&& 0x3f).toInt64.toUInt64).toInt64) &&& (127 : Int64)) ||| (128 : Int64)))])
    refine OFin.st (fun t k => XS.lstore X0.here hx rfl (hb hby d8_25) rfl (l' := #[.val (.long q0), .second, .val (.int p1), .val (.int p2), .val (.long ((((q0.toUInt64 >>> (((7 : Int32) * p1) &&& 0x3f).toInt64.toUInt64).toInt64) &&& (127 : Int64)) ||| (128 : Int64))), .second]) rfl k) ?_
    show OFin p e below _ _ s₁ (mkF m 27 #[.val (.long q0), .second, .val (.int p1), .val (.int p2), .val (.long ((((q0.toUInt64 >>> (((7 : Int32) * p1) &&& 0x3f).toInt64.toUInt64).toInt64) &&& (127 : Int64)) ||| (128 : Int64))), .second] [])
    refine OFin.st (fun t k => XS.lload X0.here hx rfl (hb hby d8_27) rfl k) ?_
    show OFin p e below _ _ s₁ (mkF m 29 #[.val (.long q0), .second, .val (.int p1), .val (.int p2), .val (.long ((((q0.toUInt64 >>> (((7 : Int32) * p1) &&& 0x3f).toInt64.toUInt64).toInt64) &&& (127 : Int64)) ||| (128 : Int64))), .second] [(.long ((((q0.toUInt64 >>> (((7 : Int32) * p1) &&& 0x3f).toInt64.toUInt64).toInt64) &&& (127 : Int64)) ||| (128 : Int64)))])
    refine OFin.st (fun t k => XS.l2i X0.here hx rfl (hb hby d8_29) rfl k) ?_
    show OFin p e below _ _ s₁ (mkF m 30 #[.val (.long q0), .second, .val (.int p1), .val (.int p2), .val (.long ((((q0.toUInt64 >>> (((7 : Int32) * p1) &&& 0x3f).toInt64.toUInt64).toInt64) &&& (127 : Int64)) ||| (128 : Int64))), .second] [(.int (((((q0.toUInt64 >>> (((7 : Int32) * p1) &&& 0x3f).toInt64.toUInt64).toInt64) &&& (127 : Int64)) ||| (128 : Int64)).toInt32))])
    refine OFin.st (fun t k => XS.i2b X0.here hx rfl (hb hby d8_30) rfl k) ?_
    show OFin p e below _ _ s₁ (mkF m 31 #[.val (.long q0), .second, .val (.int p1), .val (.int p2), .val (.long ((((q0.toUInt64 >>> (((7 : Int32) * p1) &&& 0x3f).toInt64.toUInt64).toInt64) &&& (127 : Int64)) ||| (128 : Int64))), .second] [(.int ((((((q0.toUInt64 >>> (((7 : Int32) * p1) &&& 0x3f).toInt64.toUInt64).toInt64) &&& (127 : Int64)) ||| (128 : Int64)).toInt32).toInt8.toInt32))])
    exact own_retN X0 hx Bd.returns Bd.notSynchronized (t := .byte) (by simp) (own_nb _) (hb hby d8_31) ⟨(by rw [F8, if_pos hc16]; try rfl), N0, e0⟩ (own_endN (by decide) (by decide))
  · refine OFin.st (fun t k => XS.icmpYes X0.here hx rfl (pc0 := 16) (pc' := 27) rfl (hb hby d8_16) rfl (flt hc16).2.1 (by decide) (by decide) k) ?_
    show OFin p e below _ _ s₁ (mkF m 27 #[.val (.long q0), .second, .val (.int p1), .val (.int p2), .val (.long (((q0.toUInt64 >>> (((7 : Int32) * p1) &&& 0x3f).toInt64.toUInt64).toInt64) &&& (127 : Int64))), .second] [])
    refine OFin.st (fun t k => XS.lload X0.here hx rfl (hb hby d8_27) rfl k) ?_
    show OFin p e below _ _ s₁ (mkF m 29 #[.val (.long q0), .second, .val (.int p1), .val (.int p2), .val (.long (((q0.toUInt64 >>> (((7 : Int32) * p1) &&& 0x3f).toInt64.toUInt64).toInt64) &&& (127 : Int64))), .second] [(.long (((q0.toUInt64 >>> (((7 : Int32) * p1) &&& 0x3f).toInt64.toUInt64).toInt64) &&& (127 : Int64)))])
    refine OFin.st (fun t k => XS.l2i X0.here hx rfl (hb hby d8_29) rfl k) ?_
    show OFin p e below _ _ s₁ (mkF m 30 #[.val (.long q0), .second, .val (.int p1), .val (.int p2), .val (.long (((q0.toUInt64 >>> (((7 : Int32) * p1) &&& 0x3f).toInt64.toUInt64).toInt64) &&& (127 : Int64))), .second] [(.int ((((q0.toUInt64 >>> (((7 : Int32) * p1) &&& 0x3f).toInt64.toUInt64).toInt64) &&& (127 : Int64)).toInt32))])
    refine OFin.st (fun t k => XS.i2b X0.here hx rfl (hb hby d8_30) rfl k) ?_
    show OFin p e below _ _ s₁ (mkF m 31 #[.val (.long q0), .second, .val (.int p1), .val (.int p2), .val (.long (((q0.toUInt64 >>> (((7 : Int32) * p1) &&& 0x3f).toInt64.toUInt64).toInt64) &&& (127 : Int64))), .second] [(.int (((((q0.toUInt64 >>> (((7 : Int32) * p1) &&& 0x3f).toInt64.toUInt64).toInt64) &&& (127 : Int64)).toInt32).toInt8.toInt32))])
    exact own_retN X0 hx Bd.returns Bd.notSynchronized (t := .byte) (by simp) (own_nb _) (hb hby d8_31) ⟨(by rw [F8, if_neg hc16]; try rfl), N0, e0⟩ (own_endN (by decide) (by decide))
def gf (v : Int64) (n : Int32) (i : Nat) : Int32 := F8 v (Int32.ofNat i) n
theorem own_gb (v : Int64) (i n : Int32) : (F8 v i n).toInt8.toInt32 = F8 v i n := own_ite (P := fun v : Int32 => v.toInt8.toInt32 = v) (own_nb _) (own_nb _)
theorem own_off (p : Int32) (o i : Nat) (j : Int32) (h : p.toInt = (o : Int)) (hj : j.toInt = (i : Int)) (hb : o + i < 2000000000) : (p + j).toInt = ((o + i : Nat) : Int) := by
  have c := c_iadd p j
  have r := rng32 (p + j)
  omega
theorem own_i32 {x y : Int32} : x < y ↔ x.toInt < y.toInt := Int32.lt_iff_toInt_lt

theorem ef_rm7 (m : MethodId) (r0 : Addr) (p1 : Int32) (q2 : Int64) (p3 : Int32) : entryFrame m #[(.ref r0), (.int p1), (.long q2), (.int p3)] 5 = mkF m 0 #[.val (.ref r0), .val (.int p1), .val (.long q2), .second, .val (.int p3)] [] := by first | (simp [entryFrame, mkF, argsToLocals, Value.category]; done) | rfl
def Qrm7 (Z : State) (r0 : Addr) (p1 : Int32) (q2 : Int64) (p3 : Int32) (kA : ClassId) (vs : List Value) (on : Nat) (ln : Nat) (h0 : Heap) (n0 : Nat) (v : Option Value) (h : Heap) (L : List Loc) : Prop := v = none ∧ Fr n0 L ∧ Keep h0 h [r0] ∧ Oar Z h r0 kA .byte (pN vs on (gf q2 p3) ln)
set_option maxRecDepth 65536 in
set_option maxHeartbeats 40000000 in
theorem rm7 (l : Launch) (Z : State) (a0 : Array Value) (hw : ∀ d ∈ tables_1, d.before a0 Z = true) (ws : List Jvm.Cond) (r0 : Addr) (p1 : Int32) (q2 : Int64) (p3 : Int32) (kA : ClassId) (vs : List Value) (on : Nat) (ln : Nat) (h0 : Heap) (n0 : Nat) (O0 : Old Z n0 h0) (A_r0 : Oar Z h0 r0 kA .byte vs) (g_r0 : n0 ≤ r0) (hon : p1.toInt = (on : Int)) (hln : p3.toInt = (ln : Int)) (hl1 : 1 ≤ ln) (hl10 : ln ≤ 10) (hlv : on + ln ≤ vs.length) (hlb : vs.length < 1000) :
    MetFree l (⟨"com/example/fillwire/fillwire/codec/ProtoReaderNextPinLaw", "put", "([BIJI)V"⟩ : MethodName) (head1 (Jvm.Cond.code (⟨"com/example/fillwire/fillwire/codec/ProtoReaderNextPinLaw", "put", "([BIJI)V"⟩ : MethodName) method_5_code 5 none :: ws) ({ frames := 1, cells := 0, slots := 0, locals := 19 } : Room)) (fun a U => a = #[(.ref r0), (.int p1), (.long q2), (.int p3)] ∧ Z.Warmed39 U.vm ∧ U.heap = h0) (fun _ _ _ _ _ => True) (fun _ U o U' => ∃ v L, o = .returned v ∧ Qrm7 Z r0 p1 q2 p3 kA vs on ln h0 n0 v U'.heap L ∧ FrameEnd U o U' L ({ frames := 1, cells := 0, slots := 0, locals := 19 } : Room).cells ({ frames := 1, cells := 0, slots := 0, locals := 19 } : Room).slots) := by
  refine MetFree.of_bodySF (plainFor_of_name pn_com_example_fillwire_fillwire_codec_ProtoReaderNextPinLaw) hisR ?_
  intro p e s m args below meth c s₁ Bd hml0 hP hK
  obtain ⟨rfl, hZ, hh⟩ := hP
  have hx := Bd.exec
  have hby := Bd.bytes
  have hml : c.maxLocals = 5 := hml0
  have hown : s.vm.findClass "com/example/fillwire/fillwire/codec/ProtoReaderNextPinLaw" = some m.cls := findClass_of_methodNamed Bd.named
  have hnm := (name_of_methodNamed Bd.named Bd.method).1
  have X0 : Stand p l e ({ frames := 1, cells := 0, slots := 0, locals := 19 } : Room) s m #[(.ref r0), (.int p1), (.long q2), (.int p3)] below meth c s₁ [] 0 0 := Stand.of_body Bd
  have e0 : s₁.heap = h0 := by rw [← hh, Bd.state]; rfl
  have N0 := Fr.nil n0
  show OFin p e below (fun o t L => FrameEnd s o t L ({ frames := 1, cells := 0, slots := 0, locals := 19 } : Room).cells ({ frames := 1, cells := 0, slots := 0, locals := 19 } : Room).slots) (fun v h L => Qrm7 Z r0 p1 q2 p3 kA vs on ln h0 n0 v h L) s₁ (entryFrame m #[(.ref r0), (.int p1), (.long q2), (.int p3)] 5)
  refine OFin.cast (ef_rm7 m r0 p1 q2 p3) ?_
  show OFin p e below _ _ s₁ (mkF m 0 #[.val (.ref r0), .val (.int p1), .val (.long q2), .second, .val (.int p3)] [])
  refine OFin.st (fun t k => XS.iconst X0.here hx rfl (hb hby d7_0) k) ?_
  show OFin p e below _ _ s₁ (mkF m 1 #[.val (.ref r0), .val (.int p1), .val (.long q2), .second, .val (.int p3)] [(.int (0 : Int32))])
  refine OFin.st (fun t k => XS.iload X0.here hx rfl (hb hby d7_1) rfl k) ?_
  show OFin p e below _ _ s₁ (mkF m 3 #[.val (.ref r0), .val (.int p1), .val (.long q2), .second, .val (.int p3)] [(.int p3), (.int (0 : Int32))])
  by_cases hc3 : (0 : Int32) < p3
  · refine OFin.st (fun t k => XS.icmpNo X0.here hx rfl (hb hby d7_3) rfl (tlt hc3).2.1 k) ?_
    show OFin p e below _ _ s₁ (mkF m 6 #[.val (.ref r0), .val (.int p1), .val (.long q2), .second, .val (.int p3)] [])
    refine OFin.st (fun t k => XS.aloadN X0.here hx rfl (hb hby d7_6) rfl rfl k) ?_
    show OFin p e below _ _ s₁ (mkF m 7 #[.val (.ref r0), .val (.int p1), .val (.long q2), .second, .val (.int p3)] [(.ref r0)])
    refine OFin.st (fun t k => XS.iloadN X0.here hx rfl (hb hby d7_7) rfl k) ?_
    show OFin p e below _ _ s₁ (mkF m 8 #[.val (.ref r0), .val (.int p1), .val (.long q2), .second, .val (.int p3)] [(.int p1), (.ref r0)])
    refine OFin.st (fun t k => XS.lloadN X0.here hx rfl (hb hby d7_8) rfl k) ?_
    show OFin p e below _ _ s₁ (mkF m 9 #[.val (.ref r0), .val (.int p1), .val (.long q2), .second, .val (.int p3)] [(.long q2), (.int p1), (.ref r0)])
    refine OFin.st (fun t k => XS.iconst X0.here hx rfl (hb hby d7_9) k) ?_
    show OFin p e below _ _ s₁ (mkF m 10 #[.val (.ref r0), .val (.int p1), .val (.long q2), .second, .val (.int p3)] [(.int (0 : Int32)), (.long q2), (.int p1), (.ref r0)])
    refine OFin.st (fun t k => XS.iload X0.here hx rfl (hb hby d7_10) rfl k) ?_
    show OFin p e below _ _ s₁ (mkF m 12 #[.val (.ref r0), .val (.int p1), .val (.long q2), .second, .val (.int p3)] [(.int p3), (.int (0 : Int32)), (.long q2), (.int p1), (.ref r0)])
    obtain ⟨_, _, ⟨T1, L1, k1, n1⟩, -, X1, ⟨Lc1, hQ1, l1, y1, z1⟩, st1⟩ := Jvm.LawKit.callS X0 hx (y := (⟨"com/example/fillwire/fillwire/codec/ProtoReaderNextPinLaw", "g", "(JII)B"⟩ : MethodName)) hown (mvT hZ (hw _ (List.mem_of_getElem? (i := 48) rfl))) (mvT hZ (hw _ (List.mem_of_getElem? (i := 49) rfl))) (mvT hZ (hw _ (List.mem_of_getElem? (i := 37) rfl))) (mvT hZ (hw _ (List.mem_of_getElem? (i := 50) rfl))) (by decide) (backOf (W := 2) (rm8 l Z a0 hw [] q2 (0 : Int32) p3 h0 n0 O0 ) hZ (hw _ (List.mem_of_getElem? (i := 50) rfl)) (hw _ (List.mem_of_getElem? (i := 37) rfl)) (by decide) (by decide)) (g := (mkF m 12 #[.val (.ref r0), .val (.int p1), .val (.long q2), .second, .val (.int p3)] [(.int p3), (.int (0 : Int32)), (.long q2), (.int p1), (.ref r0)])) rfl (by rw [hml]; rfl) (argsL := [(.long q2), (.int (0 : Int32)), (.int p3)]) (rest := [(.int p1), (.ref r0)]) (lenOf pd_7 rfl) rfl (by show 2 * 0 + _ ≤ _; exact Nat.le_of_eq rfl) (hb hby d7_12) (fun _ _ => ⟨rfl, e0, (by decide : 0 + 0 ≤ _), (by decide : 0 + 0 ≤ _)⟩)
    dsimp only [Pt.U, Pt.locs, Pt.cells, Pt.slots] at X1 l1 y1 z1 st1 hQ1
    subst l1 y1 z1
    obtain ⟨rfl, N1q, e1⟩ := hQ1
    have N1 := Fr.app N0 N1q
    refine OFin.st st1 ?_
    show OFin p e below _ _ T1 (mkF m 15 #[.val (.ref r0), .val (.int p1), .val (.long q2), .second, .val (.int p3)] [(.int (F8 q2 (0 : Int32) p3)), (.int p1), (.ref r0)])
    obtain ⟨T2, h2, X2, e2, W2, V2, st2⟩ := own_bastore X1 hx hZ e1 A_r0 (i := (on + 0)) (j := p1) hon (by have := own_i32.mp hc3; rw [(by decide : (0 : Int32).toInt = 0)] at this; omega) (x := (F8 q2 (0 : Int32) p3)) (y := (F8 q2 (0 : Int32) p3)) (own_gb _ _ _) (pc := 15) (Ls := #[.val (.ref r0), .val (.int p1), .val (.long q2), .second, .val (.int p3)]) (rest := []) (hb hby d7_15)
    have N2 := Fr.snoc X2 N1 g_r0
    have K2 : Keep h0 h2 [r0] := (Keep.refl h0 [r0]).wr W2 (Or.inl (List.mem_of_getElem? (i := 0) rfl))
    have O2 : Old Z n0 h2 := O0.wr W2 g_r0
    have Vw2 : Oar Z h2 r0 kA .byte (pN vs on (gf q2 p3) 1) := V2
    refine OFin.st st2 ?_
    show OFin p e below _ _ T2 (mkF m 16 #[.val (.ref r0), .val (.int p1), .val (.long q2), .second, .val (.int p3)] [])
    refine OFin.st (fun t k => XS.iconst X2.here hx rfl (hb hby d7_16) k) ?_
    show OFin p e below _ _ T2 (mkF m 17 #[.val (.ref r0), .val (.int p1), .val (.long q2), .second, .val (.int p3)] [(.int (1 : Int32))])
    refine OFin.st (fun t k => XS.iload X2.here hx rfl (hb hby d7_17) rfl k) ?_
    show OFin p e below _ _ T2 (mkF m 19 #[.val (.ref r0), .val (.int p1), .val (.long q2), .second, .val (.int p3)] [(.int p3), (.int (1 : Int32))])
    by_cases hc19 : (1 : Int32) < p3
    · refine OFin.st (fun t k => XS.icmpNo X2.here hx rfl (hb hby d7_19) rfl (tlt hc19).2.1 k) ?_
      show OFin p e below _ _ T2 (mkF m 22 #[.val (.ref r0), .val (.int p1), .val (.long q2), .second, .val (.int p3)] [])
      refine OFin.st (fun t k => XS.aloadN X2.here hx rfl (hb hby d7_22) rfl rfl k) ?_
      show OFin p e below _ _ T2 (mkF m 23 #[.val (.ref r0), .val (.int p1), .val (.long q2), .second, .val (.int p3)] [(.ref r0)])
      refine OFin.st (fun t k => XS.iloadN X2.here hx rfl (hb hby d7_23) rfl k) ?_
      show OFin p e below _ _ T2 (mkF m 24 #[.val (.ref r0), .val (.int p1), .val (.long q2), .second, .val (.int p3)] [(.int p1), (.ref r0)])
      refine OFin.st (fun t k => XS.iconst X2.here hx rfl (hb hby d7_24) k) ?_
      show OFin p e below _ _ T2 (mkF m 25 #[.val (.ref r0), .val (.int p1), .val (.long q2), .second, .val (.int p3)] [(.int (1 : Int32)), (.int p1), (.ref r0)])
      refine OFin.st (fun t k => XS.iadd X2.here hx rfl (hb hby d7_25) rfl k) ?_
      show OFin p e below _ _ T2 (mkF m 26 #[.val (.ref r0), .val (.int p1), .val (.long q2), .second, .val (.int p3)] [(.int (p1 + (1 : Int32))), (.ref r0)])
      refine OFin.st (fun t k => XS.lloadN X2.here hx rfl (hb hby d7_26) rfl k) ?_
      show OFin p e below _ _ T2 (mkF m 27 #[.val (.ref r0), .val (.int p1), .val (.long q2), .second, .val (.int p3)] [(.long q2), (.int (p1 + (1 : Int32))), (.ref r0)])
      refine OFin.st (fun t k => XS.iconst X2.here hx rfl (hb hby d7_27) k) ?_
      show OFin p e below _ _ T2 (mkF m 28 #[.val (.ref r0), .val (.int p1), .val (.long q2), .second, .val (.int p3)] [(.int (1 : Int32)), (.long q2), (.int (p1 + (1 : Int32))), (.ref r0)])
      refine OFin.st (fun t k => XS.iload X2.here hx rfl (hb hby d7_28) rfl k) ?_
      show OFin p e below _ _ T2 (mkF m 30 #[.val (.ref r0), .val (.int p1), .val (.long q2), .second, .val (.int p3)] [(.int p3), (.int (1 : Int32)), (.long q2), (.int (p1 + (1 : Int32))), (.ref r0)])
      obtain ⟨_, _, ⟨T3, L3, k3, n3⟩, -, X3, ⟨Lc3, hQ3, l3, y3, z3⟩, st3⟩ := Jvm.LawKit.callS X2 hx (y := (⟨"com/example/fillwire/fillwire/codec/ProtoReaderNextPinLaw", "g", "(JII)B"⟩ : MethodName)) hown (mvT hZ (hw _ (List.mem_of_getElem? (i := 48) rfl))) (mvT hZ (hw _ (List.mem_of_getElem? (i := 49) rfl))) (mvT hZ (hw _ (List.mem_of_getElem? (i := 37) rfl))) (mvT hZ (hw _ (List.mem_of_getElem? (i := 50) rfl))) (by decide) (backOf (W := 2) (rm8 l Z a0 hw [] q2 (1 : Int32) p3 h2 n0 O2 ) hZ (hw _ (List.mem_of_getElem? (i := 50) rfl)) (hw _ (List.mem_of_getElem? (i := 37) rfl)) (by decide) (by decide)) (g := (mkF m 30 #[.val (.ref r0), .val (.int p1), .val (.long q2), .second, .val (.int p3)] [(.int p3), (.int (1 : Int32)), (.long q2), (.int (p1 + (1 : Int32))), (.ref r0)])) rfl (by rw [hml]; rfl) (argsL := [(.long q2), (.int (1 : Int32)), (.int p3)]) (rest := [(.int (p1 + (1 : Int32))), (.ref r0)]) (lenOf pd_7 rfl) rfl (by show 2 * 0 + _ ≤ _; exact Nat.le_of_eq rfl) (hb hby d7_30) (fun _ _ => ⟨rfl, e2, (by decide : 0 + 0 ≤ _), (by decide : 0 + 0 ≤ _)⟩)
      dsimp only [Pt.U, Pt.locs, Pt.cells, Pt.slots] at X3 l3 y3 z3 st3 hQ3
      subst l3 y3 z3
      obtain ⟨rfl, N3q, e3⟩ := hQ3
      have N3 := Fr.app N2 N3q
      refine OFin.st st3 ?_
      show OFin p e below _ _ T3 (mkF m 33 #[.val (.ref r0), .val (.int p1), .val (.long q2), .second, .val (.int p3)] [(.int (F8 q2 (1 : Int32) p3)), (.int (p1 + (1 : Int32))), (.ref r0)])
      obtain ⟨T4, h4, X4, e4, W4, V4, st4⟩ := own_bastore X3 hx hZ e3 Vw2 (i := (on + 1)) (j := (p1 + (1 : Int32))) (own_off p1 on 1 (1 : Int32) hon (by decide) (by omega)) (by rw [pN_len]; have := own_i32.mp hc19; rw [(by decide : (1 : Int32).toInt = 1)] at this; omega) (x := (F8 q2 (1 : Int32) p3)) (y := (F8 q2 (1 : Int32) p3)) (own_gb _ _ _) (pc := 33) (Ls := #[.val (.ref r0), .val (.int p1), .val (.long q2), .second, .val (.int p3)]) (rest := []) (hb hby d7_33)
      have N4 := Fr.snoc X4 N3 g_r0
      have K4 : Keep h0 h4 [r0] := K2.wr W4 (Or.inl (List.mem_of_getElem? (i := 0) rfl))
      have O4 : Old Z n0 h4 := O2.wr W4 g_r0
      have Vw4 : Oar Z h4 r0 kA .byte (pN vs on (gf q2 p3) 2) := V4
      refine OFin.st st4 ?_
      show OFin p e below _ _ T4 (mkF m 34 #[.val (.ref r0), .val (.int p1), .val (.long q2), .second, .val (.int p3)] [])
      refine OFin.st (fun t k => XS.iconst X4.here hx rfl (hb hby d7_34) k) ?_
      show OFin p e below _ _ T4 (mkF m 35 #[.val (.ref r0), .val (.int p1), .val (.long q2), .second, .val (.int p3)] [(.int (2 : Int32))])
      refine OFin.st (fun t k => XS.iload X4.here hx rfl (hb hby d7_35) rfl k) ?_
      show OFin p e below _ _ T4 (mkF m 37 #[.val (.ref r0), .val (.int p1), .val (.long q2), .second, .val (.int p3)] [(.int p3), (.int (2 : Int32))])
      by_cases hc37 : (2 : Int32) < p3
      · refine OFin.st (fun t k => XS.icmpNo X4.here hx rfl (hb hby d7_37) rfl (tlt hc37).2.1 k) ?_
        show OFin p e below _ _ T4 (mkF m 40 #[.val (.ref r0), .val (.int p1), .val (.long q2), .second, .val (.int p3)] [])
        refine OFin.st (fun t k => XS.aloadN X4.here hx rfl (hb hby d7_40) rfl rfl k) ?_
        show OFin p e below _ _ T4 (mkF m 41 #[.val (.ref r0), .val (.int p1), .val (.long q2), .second, .val (.int p3)] [(.ref r0)])
        refine OFin.st (fun t k => XS.iloadN X4.here hx rfl (hb hby d7_41) rfl k) ?_
        show OFin p e below _ _ T4 (mkF m 42 #[.val (.ref r0), .val (.int p1), .val (.long q2), .second, .val (.int p3)] [(.int p1), (.ref r0)])
        refine OFin.st (fun t k => XS.iconst X4.here hx rfl (hb hby d7_42) k) ?_
        show OFin p e below _ _ T4 (mkF m 43 #[.val (.ref r0), .val (.int p1), .val (.long q2), .second, .val (.int p3)] [(.int (2 : Int32)), (.int p1), (.ref r0)])
        refine OFin.st (fun t k => XS.iadd X4.here hx rfl (hb hby d7_43) rfl k) ?_
        show OFin p e below _ _ T4 (mkF m 44 #[.val (.ref r0), .val (.int p1), .val (.long q2), .second, .val (.int p3)] [(.int (p1 + (2 : Int32))), (.ref r0)])
        refine OFin.st (fun t k => XS.lloadN X4.here hx rfl (hb hby d7_44) rfl k) ?_
        show OFin p e below _ _ T4 (mkF m 45 #[.val (.ref r0), .val (.int p1), .val (.long q2), .second, .val (.int p3)] [(.long q2), (.int (p1 + (2 : Int32))), (.ref r0)])
        refine OFin.st (fun t k => XS.iconst X4.here hx rfl (hb hby d7_45) k) ?_
        show OFin p e below _ _ T4 (mkF m 46 #[.val (.ref r0), .val (.int p1), .val (.long q2), .second, .val (.int p3)] [(.int (2 : Int32)), (.long q2), (.int (p1 + (2 : Int32))), (.ref r0)])
        refine OFin.st (fun t k => XS.iload X4.here hx rfl (hb hby d7_46) rfl k) ?_
        show OFin p e below _ _ T4 (mkF m 48 #[.val (.ref r0), .val (.int p1), .val (.long q2), .second, .val (.int p3)] [(.int p3), (.int (2 : Int32)), (.long q2), (.int (p1 + (2 : Int32))), (.ref r0)])
        obtain ⟨_, _, ⟨T5, L5, k5, n5⟩, -, X5, ⟨Lc5, hQ5, l5, y5, z5⟩, st5⟩ := Jvm.LawKit.callS X4 hx (y := (⟨"com/example/fillwire/fillwire/codec/ProtoReaderNextPinLaw", "g", "(JII)B"⟩ : MethodName)) hown (mvT hZ (hw _ (List.mem_of_getElem? (i := 48) rfl))) (mvT hZ (hw _ (List.mem_of_getElem? (i := 49) rfl))) (mvT hZ (hw _ (List.mem_of_getElem? (i := 37) rfl))) (mvT hZ (hw _ (List.mem_of_getElem? (i := 50) rfl))) (by decide) (backOf (W := 2) (rm8 l Z a0 hw [] q2 (2 : Int32) p3 h4 n0 O4 ) hZ (hw _ (List.mem_of_getElem? (i := 50) rfl)) (hw _ (List.mem_of_getElem? (i := 37) rfl)) (by decide) (by decide)) (g := (mkF m 48 #[.val (.ref r0), .val (.int p1), .val (.long q2), .second, .val (.int p3)] [(.int p3), (.int (2 : Int32)), (.long q2), (.int (p1 + (2 : Int32))), (.ref r0)])) rfl (by rw [hml]; rfl) (argsL := [(.long q2), (.int (2 : Int32)), (.int p3)]) (rest := [(.int (p1 + (2 : Int32))), (.ref r0)]) (lenOf pd_7 rfl) rfl (by show 2 * 0 + _ ≤ _; exact Nat.le_of_eq rfl) (hb hby d7_48) (fun _ _ => ⟨rfl, e4, (by decide : 0 + 0 ≤ _), (by decide : 0 + 0 ≤ _)⟩)
        dsimp only [Pt.U, Pt.locs, Pt.cells, Pt.slots] at X5 l5 y5 z5 st5 hQ5
        subst l5 y5 z5
        obtain ⟨rfl, N5q, e5⟩ := hQ5
        have N5 := Fr.app N4 N5q
        refine OFin.st st5 ?_
        show OFin p e below _ _ T5 (mkF m 51 #[.val (.ref r0), .val (.int p1), .val (.long q2), .second, .val (.int p3)] [(.int (F8 q2 (2 : Int32) p3)), (.int (p1 + (2 : Int32))), (.ref r0)])
        obtain ⟨T6, h6, X6, e6, W6, V6, st6⟩ := own_bastore X5 hx hZ e5 Vw4 (i := (on + 2)) (j := (p1 + (2 : Int32))) (own_off p1 on 2 (2 : Int32) hon (by decide) (by omega)) (by rw [pN_len]; have := own_i32.mp hc37; rw [(by decide : (2 : Int32).toInt = 2)] at this; omega) (x := (F8 q2 (2 : Int32) p3)) (y := (F8 q2 (2 : Int32) p3)) (own_gb _ _ _) (pc := 51) (Ls := #[.val (.ref r0), .val (.int p1), .val (.long q2), .second, .val (.int p3)]) (rest := []) (hb hby d7_51)
        have N6 := Fr.snoc X6 N5 g_r0
        have K6 : Keep h0 h6 [r0] := K4.wr W6 (Or.inl (List.mem_of_getElem? (i := 0) rfl))
        have O6 : Old Z n0 h6 := O4.wr W6 g_r0
        have Vw6 : Oar Z h6 r0 kA .byte (pN vs on (gf q2 p3) 3) := V6
        refine OFin.st st6 ?_
        show OFin p e below _ _ T6 (mkF m 52 #[.val (.ref r0), .val (.int p1), .val (.long q2), .second, .val (.int p3)] [])
        refine OFin.st (fun t k => XS.iconst X6.here hx rfl (hb hby d7_52) k) ?_
        show OFin p e below _ _ T6 (mkF m 53 #[.val (.ref r0), .val (.int p1), .val (.long q2), .second, .val (.int p3)] [(.int (3 : Int32))])
        refine OFin.st (fun t k => XS.iload X6.here hx rfl (hb hby d7_53) rfl k) ?_
        show OFin p e below _ _ T6 (mkF m 55 #[.val (.ref r0), .val (.int p1), .val (.long q2), .second, .val (.int p3)] [(.int p3), (.int (3 : Int32))])
        by_cases hc55 : (3 : Int32) < p3
        · refine OFin.st (fun t k => XS.icmpNo X6.here hx rfl (hb hby d7_55) rfl (tlt hc55).2.1 k) ?_
          show OFin p e below _ _ T6 (mkF m 58 #[.val (.ref r0), .val (.int p1), .val (.long q2), .second, .val (.int p3)] [])
          refine OFin.st (fun t k => XS.aloadN X6.here hx rfl (hb hby d7_58) rfl rfl k) ?_
          show OFin p e below _ _ T6 (mkF m 59 #[.val (.ref r0), .val (.int p1), .val (.long q2), .second, .val (.int p3)] [(.ref r0)])
          refine OFin.st (fun t k => XS.iloadN X6.here hx rfl (hb hby d7_59) rfl k) ?_
          show OFin p e below _ _ T6 (mkF m 60 #[.val (.ref r0), .val (.int p1), .val (.long q2), .second, .val (.int p3)] [(.int p1), (.ref r0)])
          refine OFin.st (fun t k => XS.iconst X6.here hx rfl (hb hby d7_60) k) ?_
          show OFin p e below _ _ T6 (mkF m 61 #[.val (.ref r0), .val (.int p1), .val (.long q2), .second, .val (.int p3)] [(.int (3 : Int32)), (.int p1), (.ref r0)])
          refine OFin.st (fun t k => XS.iadd X6.here hx rfl (hb hby d7_61) rfl k) ?_
          show OFin p e below _ _ T6 (mkF m 62 #[.val (.ref r0), .val (.int p1), .val (.long q2), .second, .val (.int p3)] [(.int (p1 + (3 : Int32))), (.ref r0)])
          refine OFin.st (fun t k => XS.lloadN X6.here hx rfl (hb hby d7_62) rfl k) ?_
          show OFin p e below _ _ T6 (mkF m 63 #[.val (.ref r0), .val (.int p1), .val (.long q2), .second, .val (.int p3)] [(.long q2), (.int (p1 + (3 : Int32))), (.ref r0)])
          refine OFin.st (fun t k => XS.iconst X6.here hx rfl (hb hby d7_63) k) ?_
          show OFin p e below _ _ T6 (mkF m 64 #[.val (.ref r0), .val (.int p1), .val (.long q2), .second, .val (.int p3)] [(.int (3 : Int32)), (.long q2), (.int (p1 + (3 : Int32))), (.ref r0)])
          refine OFin.st (fun t k => XS.iload X6.here hx rfl (hb hby d7_64) rfl k) ?_
          show OFin p e below _ _ T6 (mkF m 66 #[.val (.ref r0), .val (.int p1), .val (.long q2), .second, .val (.int p3)] [(.int p3), (.int (3 : Int32)), (.long q2), (.int (p1 + (3 : Int32))), (.ref r0)])
          obtain ⟨_, _, ⟨T7, L7, k7, n7⟩, -, X7, ⟨Lc7, hQ7, l7, y7, z7⟩, st7⟩ := Jvm.LawKit.callS X6 hx (y := (⟨"com/example/fillwire/fillwire/codec/ProtoReaderNextPinLaw", "g", "(JII)B"⟩ : MethodName)) hown (mvT hZ (hw _ (List.mem_of_getElem? (i := 48) rfl))) (mvT hZ (hw _ (List.mem_of_getElem? (i := 49) rfl))) (mvT hZ (hw _ (List.mem_of_getElem? (i := 37) rfl))) (mvT hZ (hw _ (List.mem_of_getElem? (i := 50) rfl))) (by decide) (backOf (W := 2) (rm8 l Z a0 hw [] q2 (3 : Int32) p3 h6 n0 O6 ) hZ (hw _ (List.mem_of_getElem? (i := 50) rfl)) (hw _ (List.mem_of_getElem? (i := 37) rfl)) (by decide) (by decide)) (g := (mkF m 66 #[.val (.ref r0), .val (.int p1), .val (.long q2), .second, .val (.int p3)] [(.int p3), (.int (3 : Int32)), (.long q2), (.int (p1 + (3 : Int32))), (.ref r0)])) rfl (by rw [hml]; rfl) (argsL := [(.long q2), (.int (3 : Int32)), (.int p3)]) (rest := [(.int (p1 + (3 : Int32))), (.ref r0)]) (lenOf pd_7 rfl) rfl (by show 2 * 0 + _ ≤ _; exact Nat.le_of_eq rfl) (hb hby d7_66) (fun _ _ => ⟨rfl, e6, (by decide : 0 + 0 ≤ _), (by decide : 0 + 0 ≤ _)⟩)
          dsimp only [Pt.U, Pt.locs, Pt.cells, Pt.slots] at X7 l7 y7 z7 st7 hQ7
          subst l7 y7 z7
          obtain ⟨rfl, N7q, e7⟩ := hQ7
          have N7 := Fr.app N6 N7q
          refine OFin.st st7 ?_
          show OFin p e below _ _ T7 (mkF m 69 #[.val (.ref r0), .val (.int p1), .val (.long q2), .second, .val (.int p3)] [(.int (F8 q2 (3 : Int32) p3)), (.int (p1 + (3 : Int32))), (.ref r0)])
          obtain ⟨T8, h8, X8, e8, W8, V8, st8⟩ := own_bastore X7 hx hZ e7 Vw6 (i := (on + 3)) (j := (p1 + (3 : Int32))) (own_off p1 on 3 (3 : Int32) hon (by decide) (by omega)) (by rw [pN_len]; have := own_i32.mp hc55; rw [(by decide : (3 : Int32).toInt = 3)] at this; omega) (x := (F8 q2 (3 : Int32) p3)) (y := (F8 q2 (3 : Int32) p3)) (own_gb _ _ _) (pc := 69) (Ls := #[.val (.ref r0), .val (.int p1), .val (.long q2), .second, .val (.int p3)]) (rest := []) (hb hby d7_69)
          have N8 := Fr.snoc X8 N7 g_r0
          have K8 : Keep h0 h8 [r0] := K6.wr W8 (Or.inl (List.mem_of_getElem? (i := 0) rfl))
          have O8 : Old Z n0 h8 := O6.wr W8 g_r0
          have Vw8 : Oar Z h8 r0 kA .byte (pN vs on (gf q2 p3) 4) := V8
          refine OFin.st st8 ?_
          show OFin p e below _ _ T8 (mkF m 70 #[.val (.ref r0), .val (.int p1), .val (.long q2), .second, .val (.int p3)] [])
          refine OFin.st (fun t k => XS.iconst X8.here hx rfl (hb hby d7_70) k) ?_
          show OFin p e below _ _ T8 (mkF m 71 #[.val (.ref r0), .val (.int p1), .val (.long q2), .second, .val (.int p3)] [(.int (4 : Int32))])
          refine OFin.st (fun t k => XS.iload X8.here hx rfl (hb hby d7_71) rfl k) ?_
          show OFin p e below _ _ T8 (mkF m 73 #[.val (.ref r0), .val (.int p1), .val (.long q2), .second, .val (.int p3)] [(.int p3), (.int (4 : Int32))])
          by_cases hc73 : (4 : Int32) < p3
          · refine OFin.st (fun t k => XS.icmpNo X8.here hx rfl (hb hby d7_73) rfl (tlt hc73).2.1 k) ?_
            show OFin p e below _ _ T8 (mkF m 76 #[.val (.ref r0), .val (.int p1), .val (.long q2), .second, .val (.int p3)] [])
            refine OFin.st (fun t k => XS.aloadN X8.here hx rfl (hb hby d7_76) rfl rfl k) ?_
            show OFin p e below _ _ T8 (mkF m 77 #[.val (.ref r0), .val (.int p1), .val (.long q2), .second, .val (.int p3)] [(.ref r0)])
            refine OFin.st (fun t k => XS.iloadN X8.here hx rfl (hb hby d7_77) rfl k) ?_
            show OFin p e below _ _ T8 (mkF m 78 #[.val (.ref r0), .val (.int p1), .val (.long q2), .second, .val (.int p3)] [(.int p1), (.ref r0)])
            refine OFin.st (fun t k => XS.iconst X8.here hx rfl (hb hby d7_78) k) ?_
            show OFin p e below _ _ T8 (mkF m 79 #[.val (.ref r0), .val (.int p1), .val (.long q2), .second, .val (.int p3)] [(.int (4 : Int32)), (.int p1), (.ref r0)])
            refine OFin.st (fun t k => XS.iadd X8.here hx rfl (hb hby d7_79) rfl k) ?_
            show OFin p e below _ _ T8 (mkF m 80 #[.val (.ref r0), .val (.int p1), .val (.long q2), .second, .val (.int p3)] [(.int (p1 + (4 : Int32))), (.ref r0)])
            refine OFin.st (fun t k => XS.lloadN X8.here hx rfl (hb hby d7_80) rfl k) ?_
            show OFin p e below _ _ T8 (mkF m 81 #[.val (.ref r0), .val (.int p1), .val (.long q2), .second, .val (.int p3)] [(.long q2), (.int (p1 + (4 : Int32))), (.ref r0)])
            refine OFin.st (fun t k => XS.iconst X8.here hx rfl (hb hby d7_81) k) ?_
            show OFin p e below _ _ T8 (mkF m 82 #[.val (.ref r0), .val (.int p1), .val (.long q2), .second, .val (.int p3)] [(.int (4 : Int32)), (.long q2), (.int (p1 + (4 : Int32))), (.ref r0)])
            refine OFin.st (fun t k => XS.iload X8.here hx rfl (hb hby d7_82) rfl k) ?_
            show OFin p e below _ _ T8 (mkF m 84 #[.val (.ref r0), .val (.int p1), .val (.long q2), .second, .val (.int p3)] [(.int p3), (.int (4 : Int32)), (.long q2), (.int (p1 + (4 : Int32))), (.ref r0)])
            obtain ⟨_, _, ⟨T9, L9, k9, n9⟩, -, X9, ⟨Lc9, hQ9, l9, y9, z9⟩, st9⟩ := Jvm.LawKit.callS X8 hx (y := (⟨"com/example/fillwire/fillwire/codec/ProtoReaderNextPinLaw", "g", "(JII)B"⟩ : MethodName)) hown (mvT hZ (hw _ (List.mem_of_getElem? (i := 48) rfl))) (mvT hZ (hw _ (List.mem_of_getElem? (i := 49) rfl))) (mvT hZ (hw _ (List.mem_of_getElem? (i := 37) rfl))) (mvT hZ (hw _ (List.mem_of_getElem? (i := 50) rfl))) (by decide) (backOf (W := 2) (rm8 l Z a0 hw [] q2 (4 : Int32) p3 h8 n0 O8 ) hZ (hw _ (List.mem_of_getElem? (i := 50) rfl)) (hw _ (List.mem_of_getElem? (i := 37) rfl)) (by decide) (by decide)) (g := (mkF m 84 #[.val (.ref r0), .val (.int p1), .val (.long q2), .second, .val (.int p3)] [(.int p3), (.int (4 : Int32)), (.long q2), (.int (p1 + (4 : Int32))), (.ref r0)])) rfl (by rw [hml]; rfl) (argsL := [(.long q2), (.int (4 : Int32)), (.int p3)]) (rest := [(.int (p1 + (4 : Int32))), (.ref r0)]) (lenOf pd_7 rfl) rfl (by show 2 * 0 + _ ≤ _; exact Nat.le_of_eq rfl) (hb hby d7_84) (fun _ _ => ⟨rfl, e8, (by decide : 0 + 0 ≤ _), (by decide : 0 + 0 ≤ _)⟩)
            dsimp only [Pt.U, Pt.locs, Pt.cells, Pt.slots] at X9 l9 y9 z9 st9 hQ9
            subst l9 y9 z9
            obtain ⟨rfl, N9q, e9⟩ := hQ9
            have N9 := Fr.app N8 N9q
            refine OFin.st st9 ?_
            show OFin p e below _ _ T9 (mkF m 87 #[.val (.ref r0), .val (.int p1), .val (.long q2), .second, .val (.int p3)] [(.int (F8 q2 (4 : Int32) p3)), (.int (p1 + (4 : Int32))), (.ref r0)])
            obtain ⟨T10, h10, X10, e10, W10, V10, st10⟩ := own_bastore X9 hx hZ e9 Vw8 (i := (on + 4)) (j := (p1 + (4 : Int32))) (own_off p1 on 4 (4 : Int32) hon (by decide) (by omega)) (by rw [pN_len]; have := own_i32.mp hc73; rw [(by decide : (4 : Int32).toInt = 4)] at this; omega) (x := (F8 q2 (4 : Int32) p3)) (y := (F8 q2 (4 : Int32) p3)) (own_gb _ _ _) (pc := 87) (Ls := #[.val (.ref r0), .val (.int p1), .val (.long q2), .second, .val (.int p3)]) (rest := []) (hb hby d7_87)
            have N10 := Fr.snoc X10 N9 g_r0
            have K10 : Keep h0 h10 [r0] := K8.wr W10 (Or.inl (List.mem_of_getElem? (i := 0) rfl))
            have O10 : Old Z n0 h10 := O8.wr W10 g_r0
            have Vw10 : Oar Z h10 r0 kA .byte (pN vs on (gf q2 p3) 5) := V10
            refine OFin.st st10 ?_
            show OFin p e below _ _ T10 (mkF m 88 #[.val (.ref r0), .val (.int p1), .val (.long q2), .second, .val (.int p3)] [])
            refine OFin.st (fun t k => XS.iconst X10.here hx rfl (hb hby d7_88) k) ?_
            show OFin p e below _ _ T10 (mkF m 89 #[.val (.ref r0), .val (.int p1), .val (.long q2), .second, .val (.int p3)] [(.int (5 : Int32))])
            refine OFin.st (fun t k => XS.iload X10.here hx rfl (hb hby d7_89) rfl k) ?_
            show OFin p e below _ _ T10 (mkF m 91 #[.val (.ref r0), .val (.int p1), .val (.long q2), .second, .val (.int p3)] [(.int p3), (.int (5 : Int32))])
            by_cases hc91 : (5 : Int32) < p3
            · refine OFin.st (fun t k => XS.icmpNo X10.here hx rfl (hb hby d7_91) rfl (tlt hc91).2.1 k) ?_
              show OFin p e below _ _ T10 (mkF m 94 #[.val (.ref r0), .val (.int p1), .val (.long q2), .second, .val (.int p3)] [])
              refine OFin.st (fun t k => XS.aloadN X10.here hx rfl (hb hby d7_94) rfl rfl k) ?_
              show OFin p e below _ _ T10 (mkF m 95 #[.val (.ref r0), .val (.int p1), .val (.long q2), .second, .val (.int p3)] [(.ref r0)])
              refine OFin.st (fun t k => XS.iloadN X10.here hx rfl (hb hby d7_95) rfl k) ?_
              show OFin p e below _ _ T10 (mkF m 96 #[.val (.ref r0), .val (.int p1), .val (.long q2), .second, .val (.int p3)] [(.int p1), (.ref r0)])
              refine OFin.st (fun t k => XS.iconst X10.here hx rfl (hb hby d7_96) k) ?_
              show OFin p e below _ _ T10 (mkF m 97 #[.val (.ref r0), .val (.int p1), .val (.long q2), .second, .val (.int p3)] [(.int (5 : Int32)), (.int p1), (.ref r0)])
              refine OFin.st (fun t k => XS.iadd X10.here hx rfl (hb hby d7_97) rfl k) ?_
              show OFin p e below _ _ T10 (mkF m 98 #[.val (.ref r0), .val (.int p1), .val (.long q2), .second, .val (.int p3)] [(.int (p1 + (5 : Int32))), (.ref r0)])
              refine OFin.st (fun t k => XS.lloadN X10.here hx rfl (hb hby d7_98) rfl k) ?_
              show OFin p e below _ _ T10 (mkF m 99 #[.val (.ref r0), .val (.int p1), .val (.long q2), .second, .val (.int p3)] [(.long q2), (.int (p1 + (5 : Int32))), (.ref r0)])
              refine OFin.st (fun t k => XS.iconst X10.here hx rfl (hb hby d7_99) k) ?_
              show OFin p e below _ _ T10 (mkF m 100 #[.val (.ref r0), .val (.int p1), .val (.long q2), .second, .val (.int p3)] [(.int (5 : Int32)), (.long q2), (.int (p1 + (5 : Int32))), (.ref r0)])
              refine OFin.st (fun t k => XS.iload X10.here hx rfl (hb hby d7_100) rfl k) ?_
              show OFin p e below _ _ T10 (mkF m 102 #[.val (.ref r0), .val (.int p1), .val (.long q2), .second, .val (.int p3)] [(.int p3), (.int (5 : Int32)), (.long q2), (.int (p1 + (5 : Int32))), (.ref r0)])
              obtain ⟨_, _, ⟨T11, L11, k11, n11⟩, -, X11, ⟨Lc11, hQ11, l11, y11, z11⟩, st11⟩ := Jvm.LawKit.callS X10 hx (y := (⟨"com/example/fillwire/fillwire/codec/ProtoReaderNextPinLaw", "g", "(JII)B"⟩ : MethodName)) hown (mvT hZ (hw _ (List.mem_of_getElem? (i := 48) rfl))) (mvT hZ (hw _ (List.mem_of_getElem? (i := 49) rfl))) (mvT hZ (hw _ (List.mem_of_getElem? (i := 37) rfl))) (mvT hZ (hw _ (List.mem_of_getElem? (i := 50) rfl))) (by decide) (backOf (W := 2) (rm8 l Z a0 hw [] q2 (5 : Int32) p3 h10 n0 O10 ) hZ (hw _ (List.mem_of_getElem? (i := 50) rfl)) (hw _ (List.mem_of_getElem? (i := 37) rfl)) (by decide) (by decide)) (g := (mkF m 102 #[.val (.ref r0), .val (.int p1), .val (.long q2), .second, .val (.int p3)] [(.int p3), (.int (5 : Int32)), (.long q2), (.int (p1 + (5 : Int32))), (.ref r0)])) rfl (by rw [hml]; rfl) (argsL := [(.long q2), (.int (5 : Int32)), (.int p3)]) (rest := [(.int (p1 + (5 : Int32))), (.ref r0)]) (lenOf pd_7 rfl) rfl (by show 2 * 0 + _ ≤ _; exact Nat.le_of_eq rfl) (hb hby d7_102) (fun _ _ => ⟨rfl, e10, (by decide : 0 + 0 ≤ _), (by decide : 0 + 0 ≤ _)⟩)
              dsimp only [Pt.U, Pt.locs, Pt.cells, Pt.slots] at X11 l11 y11 z11 st11 hQ11
              subst l11 y11 z11
              obtain ⟨rfl, N11q, e11⟩ := hQ11
              have N11 := Fr.app N10 N11q
              refine OFin.st st11 ?_
              show OFin p e below _ _ T11 (mkF m 105 #[.val (.ref r0), .val (.int p1), .val (.long q2), .second, .val (.int p3)] [(.int (F8 q2 (5 : Int32) p3)), (.int (p1 + (5 : Int32))), (.ref r0)])
              obtain ⟨T12, h12, X12, e12, W12, V12, st12⟩ := own_bastore X11 hx hZ e11 Vw10 (i := (on + 5)) (j := (p1 + (5 : Int32))) (own_off p1 on 5 (5 : Int32) hon (by decide) (by omega)) (by rw [pN_len]; have := own_i32.mp hc91; rw [(by decide : (5 : Int32).toInt = 5)] at this; omega) (x := (F8 q2 (5 : Int32) p3)) (y := (F8 q2 (5 : Int32) p3)) (own_gb _ _ _) (pc := 105) (Ls := #[.val (.ref r0), .val (.int p1), .val (.long q2), .second, .val (.int p3)]) (rest := []) (hb hby d7_105)
              have N12 := Fr.snoc X12 N11 g_r0
              have K12 : Keep h0 h12 [r0] := K10.wr W12 (Or.inl (List.mem_of_getElem? (i := 0) rfl))
              have O12 : Old Z n0 h12 := O10.wr W12 g_r0
              have Vw12 : Oar Z h12 r0 kA .byte (pN vs on (gf q2 p3) 6) := V12
              refine OFin.st st12 ?_
              show OFin p e below _ _ T12 (mkF m 106 #[.val (.ref r0), .val (.int p1), .val (.long q2), .second, .val (.int p3)] [])
              refine OFin.st (fun t k => XS.bipush X12.here hx rfl (hb hby d7_106) k) ?_
              show OFin p e below _ _ T12 (mkF m 108 #[.val (.ref r0), .val (.int p1), .val (.long q2), .second, .val (.int p3)] [(.int (6 : Int32))])
              refine OFin.st (fun t k => XS.iload X12.here hx rfl (hb hby d7_108) rfl k) ?_
              show OFin p e below _ _ T12 (mkF m 110 #[.val (.ref r0), .val (.int p1), .val (.long q2), .second, .val (.int p3)] [(.int p3), (.int (6 : Int32))])
              by_cases hc110 : (6 : Int32) < p3
              · refine OFin.st (fun t k => XS.icmpNo X12.here hx rfl (hb hby d7_110) rfl (tlt hc110).2.1 k) ?_
                show OFin p e below _ _ T12 (mkF m 113 #[.val (.ref r0), .val (.int p1), .val (.long q2), .second, .val (.int p3)] [])
                refine OFin.st (fun t k => XS.aloadN X12.here hx rfl (hb hby d7_113) rfl rfl k) ?_
                show OFin p e below _ _ T12 (mkF m 114 #[.val (.ref r0), .val (.int p1), .val (.long q2), .second, .val (.int p3)] [(.ref r0)])
                refine OFin.st (fun t k => XS.iloadN X12.here hx rfl (hb hby d7_114) rfl k) ?_
                show OFin p e below _ _ T12 (mkF m 115 #[.val (.ref r0), .val (.int p1), .val (.long q2), .second, .val (.int p3)] [(.int p1), (.ref r0)])
                refine OFin.st (fun t k => XS.bipush X12.here hx rfl (hb hby d7_115) k) ?_
                show OFin p e below _ _ T12 (mkF m 117 #[.val (.ref r0), .val (.int p1), .val (.long q2), .second, .val (.int p3)] [(.int (6 : Int32)), (.int p1), (.ref r0)])
                refine OFin.st (fun t k => XS.iadd X12.here hx rfl (hb hby d7_117) rfl k) ?_
                show OFin p e below _ _ T12 (mkF m 118 #[.val (.ref r0), .val (.int p1), .val (.long q2), .second, .val (.int p3)] [(.int (p1 + (6 : Int32))), (.ref r0)])
                refine OFin.st (fun t k => XS.lloadN X12.here hx rfl (hb hby d7_118) rfl k) ?_
                show OFin p e below _ _ T12 (mkF m 119 #[.val (.ref r0), .val (.int p1), .val (.long q2), .second, .val (.int p3)] [(.long q2), (.int (p1 + (6 : Int32))), (.ref r0)])
                refine OFin.st (fun t k => XS.bipush X12.here hx rfl (hb hby d7_119) k) ?_
                show OFin p e below _ _ T12 (mkF m 121 #[.val (.ref r0), .val (.int p1), .val (.long q2), .second, .val (.int p3)] [(.int (6 : Int32)), (.long q2), (.int (p1 + (6 : Int32))), (.ref r0)])
                refine OFin.st (fun t k => XS.iload X12.here hx rfl (hb hby d7_121) rfl k) ?_
                show OFin p e below _ _ T12 (mkF m 123 #[.val (.ref r0), .val (.int p1), .val (.long q2), .second, .val (.int p3)] [(.int p3), (.int (6 : Int32)), (.long q2), (.int (p1 + (6 : Int32))), (.ref r0)])
                obtain ⟨_, _, ⟨T13, L13, k13, n13⟩, -, X13, ⟨Lc13, hQ13, l13, y13, z13⟩, st13⟩ := Jvm.LawKit.callS X12 hx (y := (⟨"com/example/fillwire/fillwire/codec/ProtoReaderNextPinLaw", "g", "(JII)B"⟩ : MethodName)) hown (mvT hZ (hw _ (List.mem_of_getElem? (i := 48) rfl))) (mvT hZ (hw _ (List.mem_of_getElem? (i := 49) rfl))) (mvT hZ (hw _ (List.mem_of_getElem? (i := 37) rfl))) (mvT hZ (hw _ (List.mem_of_getElem? (i := 50) rfl))) (by decide) (backOf (W := 2) (rm8 l Z a0 hw [] q2 (6 : Int32) p3 h12 n0 O12 ) hZ (hw _ (List.mem_of_getElem? (i := 50) rfl)) (hw _ (List.mem_of_getElem? (i := 37) rfl)) (by decide) (by decide)) (g := (mkF m 123 #[.val (.ref r0), .val (.int p1), .val (.long q2), .second, .val (.int p3)] [(.int p3), (.int (6 : Int32)), (.long q2), (.int (p1 + (6 : Int32))), (.ref r0)])) rfl (by rw [hml]; rfl) (argsL := [(.long q2), (.int (6 : Int32)), (.int p3)]) (rest := [(.int (p1 + (6 : Int32))), (.ref r0)]) (lenOf pd_7 rfl) rfl (by show 2 * 0 + _ ≤ _; exact Nat.le_of_eq rfl) (hb hby d7_123) (fun _ _ => ⟨rfl, e12, (by decide : 0 + 0 ≤ _), (by decide : 0 + 0 ≤ _)⟩)
                dsimp only [Pt.U, Pt.locs, Pt.cells, Pt.slots] at X13 l13 y13 z13 st13 hQ13
                subst l13 y13 z13
                obtain ⟨rfl, N13q, e13⟩ := hQ13
                have N13 := Fr.app N12 N13q
                refine OFin.st st13 ?_
                show OFin p e below _ _ T13 (mkF m 126 #[.val (.ref r0), .val (.int p1), .val (.long q2), .second, .val (.int p3)] [(.int (F8 q2 (6 : Int32) p3)), (.int (p1 + (6 : Int32))), (.ref r0)])
                obtain ⟨T14, h14, X14, e14, W14, V14, st14⟩ := own_bastore X13 hx hZ e13 Vw12 (i := (on + 6)) (j := (p1 + (6 : Int32))) (own_off p1 on 6 (6 : Int32) hon (by decide) (by omega)) (by rw [pN_len]; have := own_i32.mp hc110; rw [(by decide : (6 : Int32).toInt = 6)] at this; omega) (x := (F8 q2 (6 : Int32) p3)) (y := (F8 q2 (6 : Int32) p3)) (own_gb _ _ _) (pc := 126) (Ls := #[.val (.ref r0), .val (.int p1), .val (.long q2), .second, .val (.int p3)]) (rest := []) (hb hby d7_126)
                have N14 := Fr.snoc X14 N13 g_r0
                have K14 : Keep h0 h14 [r0] := K12.wr W14 (Or.inl (List.mem_of_getElem? (i := 0) rfl))
                have O14 : Old Z n0 h14 := O12.wr W14 g_r0
                have Vw14 : Oar Z h14 r0 kA .byte (pN vs on (gf q2 p3) 7) := V14
                refine OFin.st st14 ?_
                show OFin p e below _ _ T14 (mkF m 127 #[.val (.ref r0), .val (.int p1), .val (.long q2), .second, .val (.int p3)] [])
                refine OFin.st (fun t k => XS.bipush X14.here hx rfl (hb hby d7_127) k) ?_
                show OFin p e below _ _ T14 (mkF m 129 #[.val (.ref r0), .val (.int p1), .val (.long q2), .second, .val (.int p3)] [(.int (7 : Int32))])
                refine OFin.st (fun t k => XS.iload X14.here hx rfl (hb hby d7_129) rfl k) ?_
                show OFin p e below _ _ T14 (mkF m 131 #[.val (.ref r0), .val (.int p1), .val (.long q2), .second, .val (.int p3)] [(.int p3), (.int (7 : Int32))])
                by_cases hc131 : (7 : Int32) < p3
                · refine OFin.st (fun t k => XS.icmpNo X14.here hx rfl (hb hby d7_131) rfl (tlt hc131).2.1 k) ?_
                  show OFin p e below _ _ T14 (mkF m 134 #[.val (.ref r0), .val (.int p1), .val (.long q2), .second, .val (.int p3)] [])
                  refine OFin.st (fun t k => XS.aloadN X14.here hx rfl (hb hby d7_134) rfl rfl k) ?_
                  show OFin p e below _ _ T14 (mkF m 135 #[.val (.ref r0), .val (.int p1), .val (.long q2), .second, .val (.int p3)] [(.ref r0)])
                  refine OFin.st (fun t k => XS.iloadN X14.here hx rfl (hb hby d7_135) rfl k) ?_
                  show OFin p e below _ _ T14 (mkF m 136 #[.val (.ref r0), .val (.int p1), .val (.long q2), .second, .val (.int p3)] [(.int p1), (.ref r0)])
                  refine OFin.st (fun t k => XS.bipush X14.here hx rfl (hb hby d7_136) k) ?_
                  show OFin p e below _ _ T14 (mkF m 138 #[.val (.ref r0), .val (.int p1), .val (.long q2), .second, .val (.int p3)] [(.int (7 : Int32)), (.int p1), (.ref r0)])
                  refine OFin.st (fun t k => XS.iadd X14.here hx rfl (hb hby d7_138) rfl k) ?_
                  show OFin p e below _ _ T14 (mkF m 139 #[.val (.ref r0), .val (.int p1), .val (.long q2), .second, .val (.int p3)] [(.int (p1 + (7 : Int32))), (.ref r0)])
                  refine OFin.st (fun t k => XS.lloadN X14.here hx rfl (hb hby d7_139) rfl k) ?_
                  show OFin p e below _ _ T14 (mkF m 140 #[.val (.ref r0), .val (.int p1), .val (.long q2), .second, .val (.int p3)] [(.long q2), (.int (p1 + (7 : Int32))), (.ref r0)])
                  refine OFin.st (fun t k => XS.bipush X14.here hx rfl (hb hby d7_140) k) ?_
                  show OFin p e below _ _ T14 (mkF m 142 #[.val (.ref r0), .val (.int p1), .val (.long q2), .second, .val (.int p3)] [(.int (7 : Int32)), (.long q2), (.int (p1 + (7 : Int32))), (.ref r0)])
                  refine OFin.st (fun t k => XS.iload X14.here hx rfl (hb hby d7_142) rfl k) ?_
                  show OFin p e below _ _ T14 (mkF m 144 #[.val (.ref r0), .val (.int p1), .val (.long q2), .second, .val (.int p3)] [(.int p3), (.int (7 : Int32)), (.long q2), (.int (p1 + (7 : Int32))), (.ref r0)])
                  obtain ⟨_, _, ⟨T15, L15, k15, n15⟩, -, X15, ⟨Lc15, hQ15, l15, y15, z15⟩, st15⟩ := Jvm.LawKit.callS X14 hx (y := (⟨"com/example/fillwire/fillwire/codec/ProtoReaderNextPinLaw", "g", "(JII)B"⟩ : MethodName)) hown (mvT hZ (hw _ (List.mem_of_getElem? (i := 48) rfl))) (mvT hZ (hw _ (List.mem_of_getElem? (i := 49) rfl))) (mvT hZ (hw _ (List.mem_of_getElem? (i := 37) rfl))) (mvT hZ (hw _ (List.mem_of_getElem? (i := 50) rfl))) (by decide) (backOf (W := 2) (rm8 l Z a0 hw [] q2 (7 : Int32) p3 h14 n0 O14 ) hZ (hw _ (List.mem_of_getElem? (i := 50) rfl)) (hw _ (List.mem_of_getElem? (i := 37) rfl)) (by decide) (by decide)) (g := (mkF m 144 #[.val (.ref r0), .val (.int p1), .val (.long q2), .second, .val (.int p3)] [(.int p3), (.int (7 : Int32)), (.long q2), (.int (p1 + (7 : Int32))), (.ref r0)])) rfl (by rw [hml]; rfl) (argsL := [(.long q2), (.int (7 : Int32)), (.int p3)]) (rest := [(.int (p1 + (7 : Int32))), (.ref r0)]) (lenOf pd_7 rfl) rfl (by show 2 * 0 + _ ≤ _; exact Nat.le_of_eq rfl) (hb hby d7_144) (fun _ _ => ⟨rfl, e14, (by decide : 0 + 0 ≤ _), (by decide : 0 + 0 ≤ _)⟩)
                  dsimp only [Pt.U, Pt.locs, Pt.cells, Pt.slots] at X15 l15 y15 z15 st15 hQ15
                  subst l15 y15 z15
                  obtain ⟨rfl, N15q, e15⟩ := hQ15
                  have N15 := Fr.app N14 N15q
                  refine OFin.st st15 ?_
                  show OFin p e below _ _ T15 (mkF m 147 #[.val (.ref r0), .val (.int p1), .val (.long q2), .second, .val (.int p3)] [(.int (F8 q2 (7 : Int32) p3)), (.int (p1 + (7 : Int32))), (.ref r0)])
                  obtain ⟨T16, h16, X16, e16, W16, V16, st16⟩ := own_bastore X15 hx hZ e15 Vw14 (i := (on + 7)) (j := (p1 + (7 : Int32))) (own_off p1 on 7 (7 : Int32) hon (by decide) (by omega)) (by rw [pN_len]; have := own_i32.mp hc131; rw [(by decide : (7 : Int32).toInt = 7)] at this; omega) (x := (F8 q2 (7 : Int32) p3)) (y := (F8 q2 (7 : Int32) p3)) (own_gb _ _ _) (pc := 147) (Ls := #[.val (.ref r0), .val (.int p1), .val (.long q2), .second, .val (.int p3)]) (rest := []) (hb hby d7_147)
                  have N16 := Fr.snoc X16 N15 g_r0
                  have K16 : Keep h0 h16 [r0] := K14.wr W16 (Or.inl (List.mem_of_getElem? (i := 0) rfl))
                  have O16 : Old Z n0 h16 := O14.wr W16 g_r0
                  have Vw16 : Oar Z h16 r0 kA .byte (pN vs on (gf q2 p3) 8) := V16
                  refine OFin.st st16 ?_
                  show OFin p e below _ _ T16 (mkF m 148 #[.val (.ref r0), .val (.int p1), .val (.long q2), .second, .val (.int p3)] [])
                  refine OFin.st (fun t k => XS.bipush X16.here hx rfl (hb hby d7_148) k) ?_
                  show OFin p e below _ _ T16 (mkF m 150 #[.val (.ref r0), .val (.int p1), .val (.long q2), .second, .val (.int p3)] [(.int (8 : Int32))])
                  refine OFin.st (fun t k => XS.iload X16.here hx rfl (hb hby d7_150) rfl k) ?_
                  show OFin p e below _ _ T16 (mkF m 152 #[.val (.ref r0), .val (.int p1), .val (.long q2), .second, .val (.int p3)] [(.int p3), (.int (8 : Int32))])
                  by_cases hc152 : (8 : Int32) < p3
                  · refine OFin.st (fun t k => XS.icmpNo X16.here hx rfl (hb hby d7_152) rfl (tlt hc152).2.1 k) ?_
                    show OFin p e below _ _ T16 (mkF m 155 #[.val (.ref r0), .val (.int p1), .val (.long q2), .second, .val (.int p3)] [])
                    refine OFin.st (fun t k => XS.aloadN X16.here hx rfl (hb hby d7_155) rfl rfl k) ?_
                    show OFin p e below _ _ T16 (mkF m 156 #[.val (.ref r0), .val (.int p1), .val (.long q2), .second, .val (.int p3)] [(.ref r0)])
                    refine OFin.st (fun t k => XS.iloadN X16.here hx rfl (hb hby d7_156) rfl k) ?_
                    show OFin p e below _ _ T16 (mkF m 157 #[.val (.ref r0), .val (.int p1), .val (.long q2), .second, .val (.int p3)] [(.int p1), (.ref r0)])
                    refine OFin.st (fun t k => XS.bipush X16.here hx rfl (hb hby d7_157) k) ?_
                    show OFin p e below _ _ T16 (mkF m 159 #[.val (.ref r0), .val (.int p1), .val (.long q2), .second, .val (.int p3)] [(.int (8 : Int32)), (.int p1), (.ref r0)])
                    refine OFin.st (fun t k => XS.iadd X16.here hx rfl (hb hby d7_159) rfl k) ?_
                    show OFin p e below _ _ T16 (mkF m 160 #[.val (.ref r0), .val (.int p1), .val (.long q2), .second, .val (.int p3)] [(.int (p1 + (8 : Int32))), (.ref r0)])
                    refine OFin.st (fun t k => XS.lloadN X16.here hx rfl (hb hby d7_160) rfl k) ?_
                    show OFin p e below _ _ T16 (mkF m 161 #[.val (.ref r0), .val (.int p1), .val (.long q2), .second, .val (.int p3)] [(.long q2), (.int (p1 + (8 : Int32))), (.ref r0)])
                    refine OFin.st (fun t k => XS.bipush X16.here hx rfl (hb hby d7_161) k) ?_
                    show OFin p e below _ _ T16 (mkF m 163 #[.val (.ref r0), .val (.int p1), .val (.long q2), .second, .val (.int p3)] [(.int (8 : Int32)), (.long q2), (.int (p1 + (8 : Int32))), (.ref r0)])
                    refine OFin.st (fun t k => XS.iload X16.here hx rfl (hb hby d7_163) rfl k) ?_
                    show OFin p e below _ _ T16 (mkF m 165 #[.val (.ref r0), .val (.int p1), .val (.long q2), .second, .val (.int p3)] [(.int p3), (.int (8 : Int32)), (.long q2), (.int (p1 + (8 : Int32))), (.ref r0)])
                    obtain ⟨_, _, ⟨T17, L17, k17, n17⟩, -, X17, ⟨Lc17, hQ17, l17, y17, z17⟩, st17⟩ := Jvm.LawKit.callS X16 hx (y := (⟨"com/example/fillwire/fillwire/codec/ProtoReaderNextPinLaw", "g", "(JII)B"⟩ : MethodName)) hown (mvT hZ (hw _ (List.mem_of_getElem? (i := 48) rfl))) (mvT hZ (hw _ (List.mem_of_getElem? (i := 49) rfl))) (mvT hZ (hw _ (List.mem_of_getElem? (i := 37) rfl))) (mvT hZ (hw _ (List.mem_of_getElem? (i := 50) rfl))) (by decide) (backOf (W := 2) (rm8 l Z a0 hw [] q2 (8 : Int32) p3 h16 n0 O16 ) hZ (hw _ (List.mem_of_getElem? (i := 50) rfl)) (hw _ (List.mem_of_getElem? (i := 37) rfl)) (by decide) (by decide)) (g := (mkF m 165 #[.val (.ref r0), .val (.int p1), .val (.long q2), .second, .val (.int p3)] [(.int p3), (.int (8 : Int32)), (.long q2), (.int (p1 + (8 : Int32))), (.ref r0)])) rfl (by rw [hml]; rfl) (argsL := [(.long q2), (.int (8 : Int32)), (.int p3)]) (rest := [(.int (p1 + (8 : Int32))), (.ref r0)]) (lenOf pd_7 rfl) rfl (by show 2 * 0 + _ ≤ _; exact Nat.le_of_eq rfl) (hb hby d7_165) (fun _ _ => ⟨rfl, e16, (by decide : 0 + 0 ≤ _), (by decide : 0 + 0 ≤ _)⟩)
                    dsimp only [Pt.U, Pt.locs, Pt.cells, Pt.slots] at X17 l17 y17 z17 st17 hQ17
                    subst l17 y17 z17
                    obtain ⟨rfl, N17q, e17⟩ := hQ17
                    have N17 := Fr.app N16 N17q
                    refine OFin.st st17 ?_
                    show OFin p e below _ _ T17 (mkF m 168 #[.val (.ref r0), .val (.int p1), .val (.long q2), .second, .val (.int p3)] [(.int (F8 q2 (8 : Int32) p3)), (.int (p1 + (8 : Int32))), (.ref r0)])
                    obtain ⟨T18, h18, X18, e18, W18, V18, st18⟩ := own_bastore X17 hx hZ e17 Vw16 (i := (on + 8)) (j := (p1 + (8 : Int32))) (own_off p1 on 8 (8 : Int32) hon (by decide) (by omega)) (by rw [pN_len]; have := own_i32.mp hc152; rw [(by decide : (8 : Int32).toInt = 8)] at this; omega) (x := (F8 q2 (8 : Int32) p3)) (y := (F8 q2 (8 : Int32) p3)) (own_gb _ _ _) (pc := 168) (Ls := #[.val (.ref r0), .val (.int p1), .val (.long q2), .second, .val (.int p3)]) (rest := []) (hb hby d7_168)
                    have N18 := Fr.snoc X18 N17 g_r0
                    have K18 : Keep h0 h18 [r0] := K16.wr W18 (Or.inl (List.mem_of_getElem? (i := 0) rfl))
                    have O18 : Old Z n0 h18 := O16.wr W18 g_r0
                    have Vw18 : Oar Z h18 r0 kA .byte (pN vs on (gf q2 p3) 9) := V18
                    refine OFin.st st18 ?_
                    show OFin p e below _ _ T18 (mkF m 169 #[.val (.ref r0), .val (.int p1), .val (.long q2), .second, .val (.int p3)] [])
                    refine OFin.st (fun t k => XS.bipush X18.here hx rfl (hb hby d7_169) k) ?_
                    show OFin p e below _ _ T18 (mkF m 171 #[.val (.ref r0), .val (.int p1), .val (.long q2), .second, .val (.int p3)] [(.int (9 : Int32))])
                    refine OFin.st (fun t k => XS.iload X18.here hx rfl (hb hby d7_171) rfl k) ?_
                    show OFin p e below _ _ T18 (mkF m 173 #[.val (.ref r0), .val (.int p1), .val (.long q2), .second, .val (.int p3)] [(.int p3), (.int (9 : Int32))])
                    by_cases hc173 : (9 : Int32) < p3
                    · refine OFin.st (fun t k => XS.icmpNo X18.here hx rfl (hb hby d7_173) rfl (tlt hc173).2.1 k) ?_
                      show OFin p e below _ _ T18 (mkF m 176 #[.val (.ref r0), .val (.int p1), .val (.long q2), .second, .val (.int p3)] [])
                      refine OFin.st (fun t k => XS.aloadN X18.here hx rfl (hb hby d7_176) rfl rfl k) ?_
                      show OFin p e below _ _ T18 (mkF m 177 #[.val (.ref r0), .val (.int p1), .val (.long q2), .second, .val (.int p3)] [(.ref r0)])
                      refine OFin.st (fun t k => XS.iloadN X18.here hx rfl (hb hby d7_177) rfl k) ?_
                      show OFin p e below _ _ T18 (mkF m 178 #[.val (.ref r0), .val (.int p1), .val (.long q2), .second, .val (.int p3)] [(.int p1), (.ref r0)])
                      refine OFin.st (fun t k => XS.bipush X18.here hx rfl (hb hby d7_178) k) ?_
                      show OFin p e below _ _ T18 (mkF m 180 #[.val (.ref r0), .val (.int p1), .val (.long q2), .second, .val (.int p3)] [(.int (9 : Int32)), (.int p1), (.ref r0)])
                      refine OFin.st (fun t k => XS.iadd X18.here hx rfl (hb hby d7_180) rfl k) ?_
                      show OFin p e below _ _ T18 (mkF m 181 #[.val (.ref r0), .val (.int p1), .val (.long q2), .second, .val (.int p3)] [(.int (p1 + (9 : Int32))), (.ref r0)])
                      refine OFin.st (fun t k => XS.lloadN X18.here hx rfl (hb hby d7_181) rfl k) ?_
                      show OFin p e below _ _ T18 (mkF m 182 #[.val (.ref r0), .val (.int p1), .val (.long q2), .second, .val (.int p3)] [(.long q2), (.int (p1 + (9 : Int32))), (.ref r0)])
                      refine OFin.st (fun t k => XS.bipush X18.here hx rfl (hb hby d7_182) k) ?_
                      show OFin p e below _ _ T18 (mkF m 184 #[.val (.ref r0), .val (.int p1), .val (.long q2), .second, .val (.int p3)] [(.int (9 : Int32)), (.long q2), (.int (p1 + (9 : Int32))), (.ref r0)])
                      refine OFin.st (fun t k => XS.iload X18.here hx rfl (hb hby d7_184) rfl k) ?_
                      show OFin p e below _ _ T18 (mkF m 186 #[.val (.ref r0), .val (.int p1), .val (.long q2), .second, .val (.int p3)] [(.int p3), (.int (9 : Int32)), (.long q2), (.int (p1 + (9 : Int32))), (.ref r0)])
                      obtain ⟨_, _, ⟨T19, L19, k19, n19⟩, -, X19, ⟨Lc19, hQ19, l19, y19, z19⟩, st19⟩ := Jvm.LawKit.callS X18 hx (y := (⟨"com/example/fillwire/fillwire/codec/ProtoReaderNextPinLaw", "g", "(JII)B"⟩ : MethodName)) hown (mvT hZ (hw _ (List.mem_of_getElem? (i := 48) rfl))) (mvT hZ (hw _ (List.mem_of_getElem? (i := 49) rfl))) (mvT hZ (hw _ (List.mem_of_getElem? (i := 37) rfl))) (mvT hZ (hw _ (List.mem_of_getElem? (i := 50) rfl))) (by decide) (backOf (W := 2) (rm8 l Z a0 hw [] q2 (9 : Int32) p3 h18 n0 O18 ) hZ (hw _ (List.mem_of_getElem? (i := 50) rfl)) (hw _ (List.mem_of_getElem? (i := 37) rfl)) (by decide) (by decide)) (g := (mkF m 186 #[.val (.ref r0), .val (.int p1), .val (.long q2), .second, .val (.int p3)] [(.int p3), (.int (9 : Int32)), (.long q2), (.int (p1 + (9 : Int32))), (.ref r0)])) rfl (by rw [hml]; rfl) (argsL := [(.long q2), (.int (9 : Int32)), (.int p3)]) (rest := [(.int (p1 + (9 : Int32))), (.ref r0)]) (lenOf pd_7 rfl) rfl (by show 2 * 0 + _ ≤ _; exact Nat.le_of_eq rfl) (hb hby d7_186) (fun _ _ => ⟨rfl, e18, (by decide : 0 + 0 ≤ _), (by decide : 0 + 0 ≤ _)⟩)
                      dsimp only [Pt.U, Pt.locs, Pt.cells, Pt.slots] at X19 l19 y19 z19 st19 hQ19
                      subst l19 y19 z19
                      obtain ⟨rfl, N19q, e19⟩ := hQ19
                      have N19 := Fr.app N18 N19q
                      refine OFin.st st19 ?_
                      show OFin p e below _ _ T19 (mkF m 189 #[.val (.ref r0), .val (.int p1), .val (.long q2), .second, .val (.int p3)] [(.int (F8 q2 (9 : Int32) p3)), (.int (p1 + (9 : Int32))), (.ref r0)])
                      obtain ⟨T20, h20, X20, e20, W20, V20, st20⟩ := own_bastore X19 hx hZ e19 Vw18 (i := (on + 9)) (j := (p1 + (9 : Int32))) (own_off p1 on 9 (9 : Int32) hon (by decide) (by omega)) (by rw [pN_len]; have := own_i32.mp hc173; rw [(by decide : (9 : Int32).toInt = 9)] at this; omega) (x := (F8 q2 (9 : Int32) p3)) (y := (F8 q2 (9 : Int32) p3)) (own_gb _ _ _) (pc := 189) (Ls := #[.val (.ref r0), .val (.int p1), .val (.long q2), .second, .val (.int p3)]) (rest := []) (hb hby d7_189)
                      have N20 := Fr.snoc X20 N19 g_r0
                      have K20 : Keep h0 h20 [r0] := K18.wr W20 (Or.inl (List.mem_of_getElem? (i := 0) rfl))
                      have O20 : Old Z n0 h20 := O18.wr W20 g_r0
                      have Vw20 : Oar Z h20 r0 kA .byte (pN vs on (gf q2 p3) 10) := V20
                      refine OFin.st st20 ?_
                      show OFin p e below _ _ T20 (mkF m 190 #[.val (.ref r0), .val (.int p1), .val (.long q2), .second, .val (.int p3)] [])
                      exact own_retV X20 hx Bd.returns Bd.notSynchronized (hb hby d7_190) (by show Qrm7 Z r0 p1 q2 p3 kA vs on ln h0 n0 _ T20.heap _; rw [e20]; exact ⟨rfl, N20, K20, (by
                                      have z1 := own_i32.mp hc173
                                      rw [(by decide : (9 : Int32).toInt = 9)] at z1
                                      have e : ln = 10 := by omega
                                      rw [e]; exact Vw20)⟩) (own_endN (by decide) (by decide))
                    · refine OFin.st (fun t k => XS.icmpYes X18.here hx rfl (pc0 := 173) (pc' := 190) rfl (hb hby d7_173) rfl (flt hc173).2.1 (by decide) (by decide) k) ?_
                      show OFin p e below _ _ T18 (mkF m 190 #[.val (.ref r0), .val (.int p1), .val (.long q2), .second, .val (.int p3)] [])
                      exact own_retV X18 hx Bd.returns Bd.notSynchronized (hb hby d7_190) (by show Qrm7 Z r0 p1 q2 p3 kA vs on ln h0 n0 _ T18.heap _; rw [e18]; exact ⟨rfl, N18, K18, (by
                                      have z1 := own_i32.mp hc152
                                      rw [(by decide : (8 : Int32).toInt = 8)] at z1
                                      have z2 : ¬ (9 : Int32).toInt < p3.toInt := fun q => hc173 (own_i32.mpr q)
                                      rw [(by decide : (9 : Int32).toInt = 9)] at z2
                                      have e : ln = 9 := by omega
                                      rw [e]; exact Vw18)⟩) (own_endN (by decide) (by decide))
                  · refine OFin.st (fun t k => XS.icmpYes X16.here hx rfl (pc0 := 152) (pc' := 169) rfl (hb hby d7_152) rfl (flt hc152).2.1 (by decide) (by decide) k) ?_
                    show OFin p e below _ _ T16 (mkF m 169 #[.val (.ref r0), .val (.int p1), .val (.long q2), .second, .val (.int p3)] [])
                    refine OFin.st (fun t k => XS.bipush X16.here hx rfl (hb hby d7_169) k) ?_
                    show OFin p e below _ _ T16 (mkF m 171 #[.val (.ref r0), .val (.int p1), .val (.long q2), .second, .val (.int p3)] [(.int (9 : Int32))])
                    refine OFin.st (fun t k => XS.iload X16.here hx rfl (hb hby d7_171) rfl k) ?_
                    show OFin p e below _ _ T16 (mkF m 173 #[.val (.ref r0), .val (.int p1), .val (.long q2), .second, .val (.int p3)] [(.int p3), (.int (9 : Int32))])
                    refine OFin.st (fun t k => XS.icmpYes X16.here hx rfl (pc0 := 173) (pc' := 190) rfl (hb hby d7_173) rfl (flt (fun q => hc152 (own_i32.mpr (by have := own_i32.mp q; rw [(by decide : (9 : Int32).toInt = 9)] at this; rw [(by decide : (8 : Int32).toInt = 8)]; omega)))).2.1 (by decide) (by decide) k) ?_
                    show OFin p e below _ _ T16 (mkF m 190 #[.val (.ref r0), .val (.int p1), .val (.long q2), .second, .val (.int p3)] [])
                    exact own_retV X16 hx Bd.returns Bd.notSynchronized (hb hby d7_190) (by show Qrm7 Z r0 p1 q2 p3 kA vs on ln h0 n0 _ T16.heap _; rw [e16]; exact ⟨rfl, N16, K16, (by
                                    have z1 := own_i32.mp hc131
                                    rw [(by decide : (7 : Int32).toInt = 7)] at z1
                                    have z2 : ¬ (8 : Int32).toInt < p3.toInt := fun q => hc152 (own_i32.mpr q)
                                    rw [(by decide : (8 : Int32).toInt = 8)] at z2
                                    have e : ln = 8 := by omega
                                    rw [e]; exact Vw16)⟩) (own_endN (by decide) (by decide))
                · refine OFin.st (fun t k => XS.icmpYes X14.here hx rfl (pc0 := 131) (pc' := 148) rfl (hb hby d7_131) rfl (flt hc131).2.1 (by decide) (by decide) k) ?_
                  show OFin p e below _ _ T14 (mkF m 148 #[.val (.ref r0), .val (.int p1), .val (.long q2), .second, .val (.int p3)] [])
                  refine OFin.st (fun t k => XS.bipush X14.here hx rfl (hb hby d7_148) k) ?_
                  show OFin p e below _ _ T14 (mkF m 150 #[.val (.ref r0), .val (.int p1), .val (.long q2), .second, .val (.int p3)] [(.int (8 : Int32))])
                  refine OFin.st (fun t k => XS.iload X14.here hx rfl (hb hby d7_150) rfl k) ?_
                  show OFin p e below _ _ T14 (mkF m 152 #[.val (.ref r0), .val (.int p1), .val (.long q2), .second, .val (.int p3)] [(.int p3), (.int (8 : Int32))])
                  refine OFin.st (fun t k => XS.icmpYes X14.here hx rfl (pc0 := 152) (pc' := 169) rfl (hb hby d7_152) rfl (flt (fun q => hc131 (own_i32.mpr (by have := own_i32.mp q; rw [(by decide : (8 : Int32).toInt = 8)] at this; rw [(by decide : (7 : Int32).toInt = 7)]; omega)))).2.1 (by decide) (by decide) k) ?_
                  show OFin p e below _ _ T14 (mkF m 169 #[.val (.ref r0), .val (.int p1), .val (.long q2), .second, .val (.int p3)] [])
                  refine OFin.st (fun t k => XS.bipush X14.here hx rfl (hb hby d7_169) k) ?_
                  show OFin p e below _ _ T14 (mkF m 171 #[.val (.ref r0), .val (.int p1), .val (.long q2), .second, .val (.int p3)] [(.int (9 : Int32))])
                  refine OFin.st (fun t k => XS.iload X14.here hx rfl (hb hby d7_171) rfl k) ?_
                  show OFin p e below _ _ T14 (mkF m 173 #[.val (.ref r0), .val (.int p1), .val (.long q2), .second, .val (.int p3)] [(.int p3), (.int (9 : Int32))])
                  refine OFin.st (fun t k => XS.icmpYes X14.here hx rfl (pc0 := 173) (pc' := 190) rfl (hb hby d7_173) rfl (flt (fun q => hc131 (own_i32.mpr (by have := own_i32.mp q; rw [(by decide : (9 : Int32).toInt = 9)] at this; rw [(by decide : (7 : Int32).toInt = 7)]; omega)))).2.1 (by decide) (by decide) k) ?_
                  show OFin p e below _ _ T14 (mkF m 190 #[.val (.ref r0), .val (.int p1), .val (.long q2), .second, .val (.int p3)] [])
                  exact own_retV X14 hx Bd.returns Bd.notSynchronized (hb hby d7_190) (by show Qrm7 Z r0 p1 q2 p3 kA vs on ln h0 n0 _ T14.heap _; rw [e14]; exact ⟨rfl, N14, K14, (by
                                  have z1 := own_i32.mp hc110
                                  rw [(by decide : (6 : Int32).toInt = 6)] at z1
                                  have z2 : ¬ (7 : Int32).toInt < p3.toInt := fun q => hc131 (own_i32.mpr q)
                                  rw [(by decide : (7 : Int32).toInt = 7)] at z2
                                  have e : ln = 7 := by omega
                                  rw [e]; exact Vw14)⟩) (own_endN (by decide) (by decide))
              · refine OFin.st (fun t k => XS.icmpYes X12.here hx rfl (pc0 := 110) (pc' := 127) rfl (hb hby d7_110) rfl (flt hc110).2.1 (by decide) (by decide) k) ?_
                show OFin p e below _ _ T12 (mkF m 127 #[.val (.ref r0), .val (.int p1), .val (.long q2), .second, .val (.int p3)] [])
                refine OFin.st (fun t k => XS.bipush X12.here hx rfl (hb hby d7_127) k) ?_
                show OFin p e below _ _ T12 (mkF m 129 #[.val (.ref r0), .val (.int p1), .val (.long q2), .second, .val (.int p3)] [(.int (7 : Int32))])
                refine OFin.st (fun t k => XS.iload X12.here hx rfl (hb hby d7_129) rfl k) ?_
                show OFin p e below _ _ T12 (mkF m 131 #[.val (.ref r0), .val (.int p1), .val (.long q2), .second, .val (.int p3)] [(.int p3), (.int (7 : Int32))])
                refine OFin.st (fun t k => XS.icmpYes X12.here hx rfl (pc0 := 131) (pc' := 148) rfl (hb hby d7_131) rfl (flt (fun q => hc110 (own_i32.mpr (by have := own_i32.mp q; rw [(by decide : (7 : Int32).toInt = 7)] at this; rw [(by decide : (6 : Int32).toInt = 6)]; omega)))).2.1 (by decide) (by decide) k) ?_
                show OFin p e below _ _ T12 (mkF m 148 #[.val (.ref r0), .val (.int p1), .val (.long q2), .second, .val (.int p3)] [])
                refine OFin.st (fun t k => XS.bipush X12.here hx rfl (hb hby d7_148) k) ?_
                show OFin p e below _ _ T12 (mkF m 150 #[.val (.ref r0), .val (.int p1), .val (.long q2), .second, .val (.int p3)] [(.int (8 : Int32))])
                refine OFin.st (fun t k => XS.iload X12.here hx rfl (hb hby d7_150) rfl k) ?_
                show OFin p e below _ _ T12 (mkF m 152 #[.val (.ref r0), .val (.int p1), .val (.long q2), .second, .val (.int p3)] [(.int p3), (.int (8 : Int32))])
                refine OFin.st (fun t k => XS.icmpYes X12.here hx rfl (pc0 := 152) (pc' := 169) rfl (hb hby d7_152) rfl (flt (fun q => hc110 (own_i32.mpr (by have := own_i32.mp q; rw [(by decide : (8 : Int32).toInt = 8)] at this; rw [(by decide : (6 : Int32).toInt = 6)]; omega)))).2.1 (by decide) (by decide) k) ?_
                show OFin p e below _ _ T12 (mkF m 169 #[.val (.ref r0), .val (.int p1), .val (.long q2), .second, .val (.int p3)] [])
                refine OFin.st (fun t k => XS.bipush X12.here hx rfl (hb hby d7_169) k) ?_
                show OFin p e below _ _ T12 (mkF m 171 #[.val (.ref r0), .val (.int p1), .val (.long q2), .second, .val (.int p3)] [(.int (9 : Int32))])
                refine OFin.st (fun t k => XS.iload X12.here hx rfl (hb hby d7_171) rfl k) ?_
                show OFin p e below _ _ T12 (mkF m 173 #[.val (.ref r0), .val (.int p1), .val (.long q2), .second, .val (.int p3)] [(.int p3), (.int (9 : Int32))])
                refine OFin.st (fun t k => XS.icmpYes X12.here hx rfl (pc0 := 173) (pc' := 190) rfl (hb hby d7_173) rfl (flt (fun q => hc110 (own_i32.mpr (by have := own_i32.mp q; rw [(by decide : (9 : Int32).toInt = 9)] at this; rw [(by decide : (6 : Int32).toInt = 6)]; omega)))).2.1 (by decide) (by decide) k) ?_
                show OFin p e below _ _ T12 (mkF m 190 #[.val (.ref r0), .val (.int p1), .val (.long q2), .second, .val (.int p3)] [])
                exact own_retV X12 hx Bd.returns Bd.notSynchronized (hb hby d7_190) (by show Qrm7 Z r0 p1 q2 p3 kA vs on ln h0 n0 _ T12.heap _; rw [e12]; exact ⟨rfl, N12, K12, (by
                                have z1 := own_i32.mp hc91
                                rw [(by decide : (5 : Int32).toInt = 5)] at z1
                                have z2 : ¬ (6 : Int32).toInt < p3.toInt := fun q => hc110 (own_i32.mpr q)
                                rw [(by decide : (6 : Int32).toInt = 6)] at z2
                                have e : ln = 6 := by omega
                                rw [e]; exact Vw12)⟩) (own_endN (by decide) (by decide))
            · refine OFin.st (fun t k => XS.icmpYes X10.here hx rfl (pc0 := 91) (pc' := 106) rfl (hb hby d7_91) rfl (flt hc91).2.1 (by decide) (by decide) k) ?_
              show OFin p e below _ _ T10 (mkF m 106 #[.val (.ref r0), .val (.int p1), .val (.long q2), .second, .val (.int p3)] [])
              refine OFin.st (fun t k => XS.bipush X10.here hx rfl (hb hby d7_106) k) ?_
              show OFin p e below _ _ T10 (mkF m 108 #[.val (.ref r0), .val (.int p1), .val (.long q2), .second, .val (.int p3)] [(.int (6 : Int32))])
              refine OFin.st (fun t k => XS.iload X10.here hx rfl (hb hby d7_108) rfl k) ?_
              show OFin p e below _ _ T10 (mkF m 110 #[.val (.ref r0), .val (.int p1), .val (.long q2), .second, .val (.int p3)] [(.int p3), (.int (6 : Int32))])
              refine OFin.st (fun t k => XS.icmpYes X10.here hx rfl (pc0 := 110) (pc' := 127) rfl (hb hby d7_110) rfl (flt (fun q => hc91 (own_i32.mpr (by have := own_i32.mp q; rw [(by decide : (6 : Int32).toInt = 6)] at this; rw [(by decide : (5 : Int32).toInt = 5)]; omega)))).2.1 (by decide) (by decide) k) ?_
              show OFin p e below _ _ T10 (mkF m 127 #[.val (.ref r0), .val (.int p1), .val (.long q2), .second, .val (.int p3)] [])
              refine OFin.st (fun t k => XS.bipush X10.here hx rfl (hb hby d7_127) k) ?_
              show OFin p e below _ _ T10 (mkF m 129 #[.val (.ref r0), .val (.int p1), .val (.long q2), .second, .val (.int p3)] [(.int (7 : Int32))])
              refine OFin.st (fun t k => XS.iload X10.here hx rfl (hb hby d7_129) rfl k) ?_
              show OFin p e below _ _ T10 (mkF m 131 #[.val (.ref r0), .val (.int p1), .val (.long q2), .second, .val (.int p3)] [(.int p3), (.int (7 : Int32))])
              refine OFin.st (fun t k => XS.icmpYes X10.here hx rfl (pc0 := 131) (pc' := 148) rfl (hb hby d7_131) rfl (flt (fun q => hc91 (own_i32.mpr (by have := own_i32.mp q; rw [(by decide : (7 : Int32).toInt = 7)] at this; rw [(by decide : (5 : Int32).toInt = 5)]; omega)))).2.1 (by decide) (by decide) k) ?_
              show OFin p e below _ _ T10 (mkF m 148 #[.val (.ref r0), .val (.int p1), .val (.long q2), .second, .val (.int p3)] [])
              refine OFin.st (fun t k => XS.bipush X10.here hx rfl (hb hby d7_148) k) ?_
              show OFin p e below _ _ T10 (mkF m 150 #[.val (.ref r0), .val (.int p1), .val (.long q2), .second, .val (.int p3)] [(.int (8 : Int32))])
              refine OFin.st (fun t k => XS.iload X10.here hx rfl (hb hby d7_150) rfl k) ?_
              show OFin p e below _ _ T10 (mkF m 152 #[.val (.ref r0), .val (.int p1), .val (.long q2), .second, .val (.int p3)] [(.int p3), (.int (8 : Int32))])
              refine OFin.st (fun t k => XS.icmpYes X10.here hx rfl (pc0 := 152) (pc' := 169) rfl (hb hby d7_152) rfl (flt (fun q => hc91 (own_i32.mpr (by have := own_i32.mp q; rw [(by decide : (8 : Int32).toInt = 8)] at this; rw [(by decide : (5 : Int32).toInt = 5)]; omega)))).2.1 (by decide) (by decide) k) ?_
              show OFin p e below _ _ T10 (mkF m 169 #[.val (.ref r0), .val (.int p1), .val (.long q2), .second, .val (.int p3)] [])
              refine OFin.st (fun t k => XS.bipush X10.here hx rfl (hb hby d7_169) k) ?_
              show OFin p e below _ _ T10 (mkF m 171 #[.val (.ref r0), .val (.int p1), .val (.long q2), .second, .val (.int p3)] [(.int (9 : Int32))])
              refine OFin.st (fun t k => XS.iload X10.here hx rfl (hb hby d7_171) rfl k) ?_
              show OFin p e below _ _ T10 (mkF m 173 #[.val (.ref r0), .val (.int p1), .val (.long q2), .second, .val (.int p3)] [(.int p3), (.int (9 : Int32))])
              refine OFin.st (fun t k => XS.icmpYes X10.here hx rfl (pc0 := 173) (pc' := 190) rfl (hb hby d7_173) rfl (flt (fun q => hc91 (own_i32.mpr (by have := own_i32.mp q; rw [(by decide : (9 : Int32).toInt = 9)] at this; rw [(by decide : (5 : Int32).toInt = 5)]; omega)))).2.1 (by decide) (by decide) k) ?_
              show OFin p e below _ _ T10 (mkF m 190 #[.val (.ref r0), .val (.int p1), .val (.long q2), .second, .val (.int p3)] [])
              exact own_retV X10 hx Bd.returns Bd.notSynchronized (hb hby d7_190) (by show Qrm7 Z r0 p1 q2 p3 kA vs on ln h0 n0 _ T10.heap _; rw [e10]; exact ⟨rfl, N10, K10, (by
                              have z1 := own_i32.mp hc73
                              rw [(by decide : (4 : Int32).toInt = 4)] at z1
                              have z2 : ¬ (5 : Int32).toInt < p3.toInt := fun q => hc91 (own_i32.mpr q)
                              rw [(by decide : (5 : Int32).toInt = 5)] at z2
                              have e : ln = 5 := by omega
                              rw [e]; exact Vw10)⟩) (own_endN (by decide) (by decide))
          · refine OFin.st (fun t k => XS.icmpYes X8.here hx rfl (pc0 := 73) (pc' := 88) rfl (hb hby d7_73) rfl (flt hc73).2.1 (by decide) (by decide) k) ?_
            show OFin p e below _ _ T8 (mkF m 88 #[.val (.ref r0), .val (.int p1), .val (.long q2), .second, .val (.int p3)] [])
            refine OFin.st (fun t k => XS.iconst X8.here hx rfl (hb hby d7_88) k) ?_
            show OFin p e below _ _ T8 (mkF m 89 #[.val (.ref r0), .val (.int p1), .val (.long q2), .second, .val (.int p3)] [(.int (5 : Int32))])
            refine OFin.st (fun t k => XS.iload X8.here hx rfl (hb hby d7_89) rfl k) ?_
            show OFin p e below _ _ T8 (mkF m 91 #[.val (.ref r0), .val (.int p1), .val (.long q2), .second, .val (.int p3)] [(.int p3), (.int (5 : Int32))])
            refine OFin.st (fun t k => XS.icmpYes X8.here hx rfl (pc0 := 91) (pc' := 106) rfl (hb hby d7_91) rfl (flt (fun q => hc73 (own_i32.mpr (by have := own_i32.mp q; rw [(by decide : (5 : Int32).toInt = 5)] at this; rw [(by decide : (4 : Int32).toInt = 4)]; omega)))).2.1 (by decide) (by decide) k) ?_
            show OFin p e below _ _ T8 (mkF m 106 #[.val (.ref r0), .val (.int p1), .val (.long q2), .second, .val (.int p3)] [])
            refine OFin.st (fun t k => XS.bipush X8.here hx rfl (hb hby d7_106) k) ?_
            show OFin p e below _ _ T8 (mkF m 108 #[.val (.ref r0), .val (.int p1), .val (.long q2), .second, .val (.int p3)] [(.int (6 : Int32))])
            refine OFin.st (fun t k => XS.iload X8.here hx rfl (hb hby d7_108) rfl k) ?_
            show OFin p e below _ _ T8 (mkF m 110 #[.val (.ref r0), .val (.int p1), .val (.long q2), .second, .val (.int p3)] [(.int p3), (.int (6 : Int32))])
            refine OFin.st (fun t k => XS.icmpYes X8.here hx rfl (pc0 := 110) (pc' := 127) rfl (hb hby d7_110) rfl (flt (fun q => hc73 (own_i32.mpr (by have := own_i32.mp q; rw [(by decide : (6 : Int32).toInt = 6)] at this; rw [(by decide : (4 : Int32).toInt = 4)]; omega)))).2.1 (by decide) (by decide) k) ?_
            show OFin p e below _ _ T8 (mkF m 127 #[.val (.ref r0), .val (.int p1), .val (.long q2), .second, .val (.int p3)] [])
            refine OFin.st (fun t k => XS.bipush X8.here hx rfl (hb hby d7_127) k) ?_
            show OFin p e below _ _ T8 (mkF m 129 #[.val (.ref r0), .val (.int p1), .val (.long q2), .second, .val (.int p3)] [(.int (7 : Int32))])
            refine OFin.st (fun t k => XS.iload X8.here hx rfl (hb hby d7_129) rfl k) ?_
            show OFin p e below _ _ T8 (mkF m 131 #[.val (.ref r0), .val (.int p1), .val (.long q2), .second, .val (.int p3)] [(.int p3), (.int (7 : Int32))])
            refine OFin.st (fun t k => XS.icmpYes X8.here hx rfl (pc0 := 131) (pc' := 148) rfl (hb hby d7_131) rfl (flt (fun q => hc73 (own_i32.mpr (by have := own_i32.mp q; rw [(by decide : (7 : Int32).toInt = 7)] at this; rw [(by decide : (4 : Int32).toInt = 4)]; omega)))).2.1 (by decide) (by decide) k) ?_
            show OFin p e below _ _ T8 (mkF m 148 #[.val (.ref r0), .val (.int p1), .val (.long q2), .second, .val (.int p3)] [])
            refine OFin.st (fun t k => XS.bipush X8.here hx rfl (hb hby d7_148) k) ?_
            show OFin p e below _ _ T8 (mkF m 150 #[.val (.ref r0), .val (.int p1), .val (.long q2), .second, .val (.int p3)] [(.int (8 : Int32))])
            refine OFin.st (fun t k => XS.iload X8.here hx rfl (hb hby d7_150) rfl k) ?_
            show OFin p e below _ _ T8 (mkF m 152 #[.val (.ref r0), .val (.int p1), .val (.long q2), .second, .val (.int p3)] [(.int p3), (.int (8 : Int32))])
            refine OFin.st (fun t k => XS.icmpYes X8.here hx rfl (pc0 := 152) (pc' := 169) rfl (hb hby d7_152) rfl (flt (fun q => hc73 (own_i32.mpr (by have := own_i32.mp q; rw [(by decide : (8 : Int32).toInt = 8)] at this; rw [(by decide : (4 : Int32).toInt = 4)]; omega)))).2.1 (by decide) (by decide) k) ?_
            show OFin p e below _ _ T8 (mkF m 169 #[.val (.ref r0), .val (.int p1), .val (.long q2), .second, .val (.int p3)] [])
            refine OFin.st (fun t k => XS.bipush X8.here hx rfl (hb hby d7_169) k) ?_
            show OFin p e below _ _ T8 (mkF m 171 #[.val (.ref r0), .val (.int p1), .val (.long q2), .second, .val (.int p3)] [(.int (9 : Int32))])
            refine OFin.st (fun t k => XS.iload X8.here hx rfl (hb hby d7_171) rfl k) ?_
            show OFin p e below _ _ T8 (mkF m 173 #[.val (.ref r0), .val (.int p1), .val (.long q2), .second, .val (.int p3)] [(.int p3), (.int (9 : Int32))])
            refine OFin.st (fun t k => XS.icmpYes X8.here hx rfl (pc0 := 173) (pc' := 190) rfl (hb hby d7_173) rfl (flt (fun q => hc73 (own_i32.mpr (by have := own_i32.mp q; rw [(by decide : (9 : Int32).toInt = 9)] at this; rw [(by decide : (4 : Int32).toInt = 4)]; omega)))).2.1 (by decide) (by decide) k) ?_
            show OFin p e below _ _ T8 (mkF m 190 #[.val (.ref r0), .val (.int p1), .val (.long q2), .second, .val (.int p3)] [])
            exact own_retV X8 hx Bd.returns Bd.notSynchronized (hb hby d7_190) (by show Qrm7 Z r0 p1 q2 p3 kA vs on ln h0 n0 _ T8.heap _; rw [e8]; exact ⟨rfl, N8, K8, (by
                            have z1 := own_i32.mp hc55
                            rw [(by decide : (3 : Int32).toInt = 3)] at z1
                            have z2 : ¬ (4 : Int32).toInt < p3.toInt := fun q => hc73 (own_i32.mpr q)
                            rw [(by decide : (4 : Int32).toInt = 4)] at z2
                            have e : ln = 4 := by omega
                            rw [e]; exact Vw8)⟩) (own_endN (by decide) (by decide))
        · refine OFin.st (fun t k => XS.icmpYes X6.here hx rfl (pc0 := 55) (pc' := 70) rfl (hb hby d7_55) rfl (flt hc55).2.1 (by decide) (by decide) k) ?_
          show OFin p e below _ _ T6 (mkF m 70 #[.val (.ref r0), .val (.int p1), .val (.long q2), .second, .val (.int p3)] [])
          refine OFin.st (fun t k => XS.iconst X6.here hx rfl (hb hby d7_70) k) ?_
          show OFin p e below _ _ T6 (mkF m 71 #[.val (.ref r0), .val (.int p1), .val (.long q2), .second, .val (.int p3)] [(.int (4 : Int32))])
          refine OFin.st (fun t k => XS.iload X6.here hx rfl (hb hby d7_71) rfl k) ?_
          show OFin p e below _ _ T6 (mkF m 73 #[.val (.ref r0), .val (.int p1), .val (.long q2), .second, .val (.int p3)] [(.int p3), (.int (4 : Int32))])
          refine OFin.st (fun t k => XS.icmpYes X6.here hx rfl (pc0 := 73) (pc' := 88) rfl (hb hby d7_73) rfl (flt (fun q => hc55 (own_i32.mpr (by have := own_i32.mp q; rw [(by decide : (4 : Int32).toInt = 4)] at this; rw [(by decide : (3 : Int32).toInt = 3)]; omega)))).2.1 (by decide) (by decide) k) ?_
          show OFin p e below _ _ T6 (mkF m 88 #[.val (.ref r0), .val (.int p1), .val (.long q2), .second, .val (.int p3)] [])
          refine OFin.st (fun t k => XS.iconst X6.here hx rfl (hb hby d7_88) k) ?_
          show OFin p e below _ _ T6 (mkF m 89 #[.val (.ref r0), .val (.int p1), .val (.long q2), .second, .val (.int p3)] [(.int (5 : Int32))])
          refine OFin.st (fun t k => XS.iload X6.here hx rfl (hb hby d7_89) rfl k) ?_
          show OFin p e below _ _ T6 (mkF m 91 #[.val (.ref r0), .val (.int p1), .val (.long q2), .second, .val (.int p3)] [(.int p3), (.int (5 : Int32))])
          refine OFin.st (fun t k => XS.icmpYes X6.here hx rfl (pc0 := 91) (pc' := 106) rfl (hb hby d7_91) rfl (flt (fun q => hc55 (own_i32.mpr (by have := own_i32.mp q; rw [(by decide : (5 : Int32).toInt = 5)] at this; rw [(by decide : (3 : Int32).toInt = 3)]; omega)))).2.1 (by decide) (by decide) k) ?_
          show OFin p e below _ _ T6 (mkF m 106 #[.val (.ref r0), .val (.int p1), .val (.long q2), .second, .val (.int p3)] [])
          refine OFin.st (fun t k => XS.bipush X6.here hx rfl (hb hby d7_106) k) ?_
          show OFin p e below _ _ T6 (mkF m 108 #[.val (.ref r0), .val (.int p1), .val (.long q2), .second, .val (.int p3)] [(.int (6 : Int32))])
          refine OFin.st (fun t k => XS.iload X6.here hx rfl (hb hby d7_108) rfl k) ?_
          show OFin p e below _ _ T6 (mkF m 110 #[.val (.ref r0), .val (.int p1), .val (.long q2), .second, .val (.int p3)] [(.int p3), (.int (6 : Int32))])
          refine OFin.st (fun t k => XS.icmpYes X6.here hx rfl (pc0 := 110) (pc' := 127) rfl (hb hby d7_110) rfl (flt (fun q => hc55 (own_i32.mpr (by have := own_i32.mp q; rw [(by decide : (6 : Int32).toInt = 6)] at this; rw [(by decide : (3 : Int32).toInt = 3)]; omega)))).2.1 (by decide) (by decide) k) ?_
          show OFin p e below _ _ T6 (mkF m 127 #[.val (.ref r0), .val (.int p1), .val (.long q2), .second, .val (.int p3)] [])
          refine OFin.st (fun t k => XS.bipush X6.here hx rfl (hb hby d7_127) k) ?_
          show OFin p e below _ _ T6 (mkF m 129 #[.val (.ref r0), .val (.int p1), .val (.long q2), .second, .val (.int p3)] [(.int (7 : Int32))])
          refine OFin.st (fun t k => XS.iload X6.here hx rfl (hb hby d7_129) rfl k) ?_
          show OFin p e below _ _ T6 (mkF m 131 #[.val (.ref r0), .val (.int p1), .val (.long q2), .second, .val (.int p3)] [(.int p3), (.int (7 : Int32))])
          refine OFin.st (fun t k => XS.icmpYes X6.here hx rfl (pc0 := 131) (pc' := 148) rfl (hb hby d7_131) rfl (flt (fun q => hc55 (own_i32.mpr (by have := own_i32.mp q; rw [(by decide : (7 : Int32).toInt = 7)] at this; rw [(by decide : (3 : Int32).toInt = 3)]; omega)))).2.1 (by decide) (by decide) k) ?_
          show OFin p e below _ _ T6 (mkF m 148 #[.val (.ref r0), .val (.int p1), .val (.long q2), .second, .val (.int p3)] [])
          refine OFin.st (fun t k => XS.bipush X6.here hx rfl (hb hby d7_148) k) ?_
          show OFin p e below _ _ T6 (mkF m 150 #[.val (.ref r0), .val (.int p1), .val (.long q2), .second, .val (.int p3)] [(.int (8 : Int32))])
          refine OFin.st (fun t k => XS.iload X6.here hx rfl (hb hby d7_150) rfl k) ?_
          show OFin p e below _ _ T6 (mkF m 152 #[.val (.ref r0), .val (.int p1), .val (.long q2), .second, .val (.int p3)] [(.int p3), (.int (8 : Int32))])
          refine OFin.st (fun t k => XS.icmpYes X6.here hx rfl (pc0 := 152) (pc' := 169) rfl (hb hby d7_152) rfl (flt (fun q => hc55 (own_i32.mpr (by have := own_i32.mp q; rw [(by decide : (8 : Int32).toInt = 8)] at this; rw [(by decide : (3 : Int32).toInt = 3)]; omega)))).2.1 (by decide) (by decide) k) ?_
          show OFin p e below _ _ T6 (mkF m 169 #[.val (.ref r0), .val (.int p1), .val (.long q2), .second, .val (.int p3)] [])
          refine OFin.st (fun t k => XS.bipush X6.here hx rfl (hb hby d7_169) k) ?_
          show OFin p e below _ _ T6 (mkF m 171 #[.val (.ref r0), .val (.int p1), .val (.long q2), .second, .val (.int p3)] [(.int (9 : Int32))])
          refine OFin.st (fun t k => XS.iload X6.here hx rfl (hb hby d7_171) rfl k) ?_
          show OFin p e below _ _ T6 (mkF m 173 #[.val (.ref r0), .val (.int p1), .val (.long q2), .second, .val (.int p3)] [(.int p3), (.int (9 : Int32))])
          refine OFin.st (fun t k => XS.icmpYes X6.here hx rfl (pc0 := 173) (pc' := 190) rfl (hb hby d7_173) rfl (flt (fun q => hc55 (own_i32.mpr (by have := own_i32.mp q; rw [(by decide : (9 : Int32).toInt = 9)] at this; rw [(by decide : (3 : Int32).toInt = 3)]; omega)))).2.1 (by decide) (by decide) k) ?_
          show OFin p e below _ _ T6 (mkF m 190 #[.val (.ref r0), .val (.int p1), .val (.long q2), .second, .val (.int p3)] [])
          exact own_retV X6 hx Bd.returns Bd.notSynchronized (hb hby d7_190) (by show Qrm7 Z r0 p1 q2 p3 kA vs on ln h0 n0 _ T6.heap _; rw [e6]; exact ⟨rfl, N6, K6, (by
                          have z1 := own_i32.mp hc37
                          rw [(by decide : (2 : Int32).toInt = 2)] at z1
                          have z2 : ¬ (3 : Int32).toInt < p3.toInt := fun q => hc55 (own_i32.mpr q)
                          rw [(by decide : (3 : Int32).toInt = 3)] at z2
                          have e : ln = 3 := by omega
                          rw [e]; exact Vw6)⟩) (own_endN (by decide) (by decide))
      · refine OFin.st (fun t k => XS.icmpYes X4.here hx rfl (pc0 := 37) (pc' := 52) rfl (hb hby d7_37) rfl (flt hc37).2.1 (by decide) (by decide) k) ?_
        show OFin p e below _ _ T4 (mkF m 52 #[.val (.ref r0), .val (.int p1), .val (.long q2), .second, .val (.int p3)] [])
        refine OFin.st (fun t k => XS.iconst X4.here hx rfl (hb hby d7_52) k) ?_
        show OFin p e below _ _ T4 (mkF m 53 #[.val (.ref r0), .val (.int p1), .val (.long q2), .second, .val (.int p3)] [(.int (3 : Int32))])
        refine OFin.st (fun t k => XS.iload X4.here hx rfl (hb hby d7_53) rfl k) ?_
        show OFin p e below _ _ T4 (mkF m 55 #[.val (.ref r0), .val (.int p1), .val (.long q2), .second, .val (.int p3)] [(.int p3), (.int (3 : Int32))])
        refine OFin.st (fun t k => XS.icmpYes X4.here hx rfl (pc0 := 55) (pc' := 70) rfl (hb hby d7_55) rfl (flt (fun q => hc37 (own_i32.mpr (by have := own_i32.mp q; rw [(by decide : (3 : Int32).toInt = 3)] at this; rw [(by decide : (2 : Int32).toInt = 2)]; omega)))).2.1 (by decide) (by decide) k) ?_
        show OFin p e below _ _ T4 (mkF m 70 #[.val (.ref r0), .val (.int p1), .val (.long q2), .second, .val (.int p3)] [])
        refine OFin.st (fun t k => XS.iconst X4.here hx rfl (hb hby d7_70) k) ?_
        show OFin p e below _ _ T4 (mkF m 71 #[.val (.ref r0), .val (.int p1), .val (.long q2), .second, .val (.int p3)] [(.int (4 : Int32))])
        refine OFin.st (fun t k => XS.iload X4.here hx rfl (hb hby d7_71) rfl k) ?_
        show OFin p e below _ _ T4 (mkF m 73 #[.val (.ref r0), .val (.int p1), .val (.long q2), .second, .val (.int p3)] [(.int p3), (.int (4 : Int32))])
        refine OFin.st (fun t k => XS.icmpYes X4.here hx rfl (pc0 := 73) (pc' := 88) rfl (hb hby d7_73) rfl (flt (fun q => hc37 (own_i32.mpr (by have := own_i32.mp q; rw [(by decide : (4 : Int32).toInt = 4)] at this; rw [(by decide : (2 : Int32).toInt = 2)]; omega)))).2.1 (by decide) (by decide) k) ?_
        show OFin p e below _ _ T4 (mkF m 88 #[.val (.ref r0), .val (.int p1), .val (.long q2), .second, .val (.int p3)] [])
        refine OFin.st (fun t k => XS.iconst X4.here hx rfl (hb hby d7_88) k) ?_
        show OFin p e below _ _ T4 (mkF m 89 #[.val (.ref r0), .val (.int p1), .val (.long q2), .second, .val (.int p3)] [(.int (5 : Int32))])
        refine OFin.st (fun t k => XS.iload X4.here hx rfl (hb hby d7_89) rfl k) ?_
        show OFin p e below _ _ T4 (mkF m 91 #[.val (.ref r0), .val (.int p1), .val (.long q2), .second, .val (.int p3)] [(.int p3), (.int (5 : Int32))])
        refine OFin.st (fun t k => XS.icmpYes X4.here hx rfl (pc0 := 91) (pc' := 106) rfl (hb hby d7_91) rfl (flt (fun q => hc37 (own_i32.mpr (by have := own_i32.mp q; rw [(by decide : (5 : Int32).toInt = 5)] at this; rw [(by decide : (2 : Int32).toInt = 2)]; omega)))).2.1 (by decide) (by decide) k) ?_
        show OFin p e below _ _ T4 (mkF m 106 #[.val (.ref r0), .val (.int p1), .val (.long q2), .second, .val (.int p3)] [])
        refine OFin.st (fun t k => XS.bipush X4.here hx rfl (hb hby d7_106) k) ?_
        show OFin p e below _ _ T4 (mkF m 108 #[.val (.ref r0), .val (.int p1), .val (.long q2), .second, .val (.int p3)] [(.int (6 : Int32))])
        refine OFin.st (fun t k => XS.iload X4.here hx rfl (hb hby d7_108) rfl k) ?_
        show OFin p e below _ _ T4 (mkF m 110 #[.val (.ref r0), .val (.int p1), .val (.long q2), .second, .val (.int p3)] [(.int p3), (.int (6 : Int32))])
        refine OFin.st (fun t k => XS.icmpYes X4.here hx rfl (pc0 := 110) (pc' := 127) rfl (hb hby d7_110) rfl (flt (fun q => hc37 (own_i32.mpr (by have := own_i32.mp q; rw [(by decide : (6 : Int32).toInt = 6)] at this; rw [(by decide : (2 : Int32).toInt = 2)]; omega)))).2.1 (by decide) (by decide) k) ?_
        show OFin p e below _ _ T4 (mkF m 127 #[.val (.ref r0), .val (.int p1), .val (.long q2), .second, .val (.int p3)] [])
        refine OFin.st (fun t k => XS.bipush X4.here hx rfl (hb hby d7_127) k) ?_
        show OFin p e below _ _ T4 (mkF m 129 #[.val (.ref r0), .val (.int p1), .val (.long q2), .second, .val (.int p3)] [(.int (7 : Int32))])
        refine OFin.st (fun t k => XS.iload X4.here hx rfl (hb hby d7_129) rfl k) ?_
        show OFin p e below _ _ T4 (mkF m 131 #[.val (.ref r0), .val (.int p1), .val (.long q2), .second, .val (.int p3)] [(.int p3), (.int (7 : Int32))])
        refine OFin.st (fun t k => XS.icmpYes X4.here hx rfl (pc0 := 131) (pc' := 148) rfl (hb hby d7_131) rfl (flt (fun q => hc37 (own_i32.mpr (by have := own_i32.mp q; rw [(by decide : (7 : Int32).toInt = 7)] at this; rw [(by decide : (2 : Int32).toInt = 2)]; omega)))).2.1 (by decide) (by decide) k) ?_
        show OFin p e below _ _ T4 (mkF m 148 #[.val (.ref r0), .val (.int p1), .val (.long q2), .second, .val (.int p3)] [])
        refine OFin.st (fun t k => XS.bipush X4.here hx rfl (hb hby d7_148) k) ?_
        show OFin p e below _ _ T4 (mkF m 150 #[.val (.ref r0), .val (.int p1), .val (.long q2), .second, .val (.int p3)] [(.int (8 : Int32))])
        refine OFin.st (fun t k => XS.iload X4.here hx rfl (hb hby d7_150) rfl k) ?_
        show OFin p e below _ _ T4 (mkF m 152 #[.val (.ref r0), .val (.int p1), .val (.long q2), .second, .val (.int p3)] [(.int p3), (.int (8 : Int32))])
        refine OFin.st (fun t k => XS.icmpYes X4.here hx rfl (pc0 := 152) (pc' := 169) rfl (hb hby d7_152) rfl (flt (fun q => hc37 (own_i32.mpr (by have := own_i32.mp q; rw [(by decide : (8 : Int32).toInt = 8)] at this; rw [(by decide : (2 : Int32).toInt = 2)]; omega)))).2.1 (by decide) (by decide) k) ?_
        show OFin p e below _ _ T4 (mkF m 169 #[.val (.ref r0), .val (.int p1), .val (.long q2), .second, .val (.int p3)] [])
        refine OFin.st (fun t k => XS.bipush X4.here hx rfl (hb hby d7_169) k) ?_
        show OFin p e below _ _ T4 (mkF m 171 #[.val (.ref r0), .val (.int p1), .val (.long q2), .second, .val (.int p3)] [(.int (9 : Int32))])
        refine OFin.st (fun t k => XS.iload X4.here hx rfl (hb hby d7_171) rfl k) ?_
        show OFin p e below _ _ T4 (mkF m 173 #[.val (.ref r0), .val (.int p1), .val (.long q2), .second, .val (.int p3)] [(.int p3), (.int (9 : Int32))])
        refine OFin.st (fun t k => XS.icmpYes X4.here hx rfl (pc0 := 173) (pc' := 190) rfl (hb hby d7_173) rfl (flt (fun q => hc37 (own_i32.mpr (by have := own_i32.mp q; rw [(by decide : (9 : Int32).toInt = 9)] at this; rw [(by decide : (2 : Int32).toInt = 2)]; omega)))).2.1 (by decide) (by decide) k) ?_
        show OFin p e below _ _ T4 (mkF m 190 #[.val (.ref r0), .val (.int p1), .val (.long q2), .second, .val (.int p3)] [])
        exact own_retV X4 hx Bd.returns Bd.notSynchronized (hb hby d7_190) (by show Qrm7 Z r0 p1 q2 p3 kA vs on ln h0 n0 _ T4.heap _; rw [e4]; exact ⟨rfl, N4, K4, (by
                        have z1 := own_i32.mp hc19
                        rw [(by decide : (1 : Int32).toInt = 1)] at z1
                        have z2 : ¬ (2 : Int32).toInt < p3.toInt := fun q => hc37 (own_i32.mpr q)
                        rw [(by decide : (2 : Int32).toInt = 2)] at z2
                        have e : ln = 2 := by omega
                        rw [e]; exact Vw4)⟩) (own_endN (by decide) (by decide))
    · refine OFin.st (fun t k => XS.icmpYes X2.here hx rfl (pc0 := 19) (pc' := 34) rfl (hb hby d7_19) rfl (flt hc19).2.1 (by decide) (by decide) k) ?_
      show OFin p e below _ _ T2 (mkF m 34 #[.val (.ref r0), .val (.int p1), .val (.long q2), .second, .val (.int p3)] [])
      refine OFin.st (fun t k => XS.iconst X2.here hx rfl (hb hby d7_34) k) ?_
      show OFin p e below _ _ T2 (mkF m 35 #[.val (.ref r0), .val (.int p1), .val (.long q2), .second, .val (.int p3)] [(.int (2 : Int32))])
      refine OFin.st (fun t k => XS.iload X2.here hx rfl (hb hby d7_35) rfl k) ?_
      show OFin p e below _ _ T2 (mkF m 37 #[.val (.ref r0), .val (.int p1), .val (.long q2), .second, .val (.int p3)] [(.int p3), (.int (2 : Int32))])
      refine OFin.st (fun t k => XS.icmpYes X2.here hx rfl (pc0 := 37) (pc' := 52) rfl (hb hby d7_37) rfl (flt (fun q => hc19 (own_i32.mpr (by have := own_i32.mp q; rw [(by decide : (2 : Int32).toInt = 2)] at this; rw [(by decide : (1 : Int32).toInt = 1)]; omega)))).2.1 (by decide) (by decide) k) ?_
      show OFin p e below _ _ T2 (mkF m 52 #[.val (.ref r0), .val (.int p1), .val (.long q2), .second, .val (.int p3)] [])
      refine OFin.st (fun t k => XS.iconst X2.here hx rfl (hb hby d7_52) k) ?_
      show OFin p e below _ _ T2 (mkF m 53 #[.val (.ref r0), .val (.int p1), .val (.long q2), .second, .val (.int p3)] [(.int (3 : Int32))])
      refine OFin.st (fun t k => XS.iload X2.here hx rfl (hb hby d7_53) rfl k) ?_
      show OFin p e below _ _ T2 (mkF m 55 #[.val (.ref r0), .val (.int p1), .val (.long q2), .second, .val (.int p3)] [(.int p3), (.int (3 : Int32))])
      refine OFin.st (fun t k => XS.icmpYes X2.here hx rfl (pc0 := 55) (pc' := 70) rfl (hb hby d7_55) rfl (flt (fun q => hc19 (own_i32.mpr (by have := own_i32.mp q; rw [(by decide : (3 : Int32).toInt = 3)] at this; rw [(by decide : (1 : Int32).toInt = 1)]; omega)))).2.1 (by decide) (by decide) k) ?_
      show OFin p e below _ _ T2 (mkF m 70 #[.val (.ref r0), .val (.int p1), .val (.long q2), .second, .val (.int p3)] [])
      refine OFin.st (fun t k => XS.iconst X2.here hx rfl (hb hby d7_70) k) ?_
      show OFin p e below _ _ T2 (mkF m 71 #[.val (.ref r0), .val (.int p1), .val (.long q2), .second, .val (.int p3)] [(.int (4 : Int32))])
      refine OFin.st (fun t k => XS.iload X2.here hx rfl (hb hby d7_71) rfl k) ?_
      show OFin p e below _ _ T2 (mkF m 73 #[.val (.ref r0), .val (.int p1), .val (.long q2), .second, .val (.int p3)] [(.int p3), (.int (4 : Int32))])
      refine OFin.st (fun t k => XS.icmpYes X2.here hx rfl (pc0 := 73) (pc' := 88) rfl (hb hby d7_73) rfl (flt (fun q => hc19 (own_i32.mpr (by have := own_i32.mp q; rw [(by decide : (4 : Int32).toInt = 4)] at this; rw [(by decide : (1 : Int32).toInt = 1)]; omega)))).2.1 (by decide) (by decide) k) ?_
      show OFin p e below _ _ T2 (mkF m 88 #[.val (.ref r0), .val (.int p1), .val (.long q2), .second, .val (.int p3)] [])
      refine OFin.st (fun t k => XS.iconst X2.here hx rfl (hb hby d7_88) k) ?_
      show OFin p e below _ _ T2 (mkF m 89 #[.val (.ref r0), .val (.int p1), .val (.long q2), .second, .val (.int p3)] [(.int (5 : Int32))])
      refine OFin.st (fun t k => XS.iload X2.here hx rfl (hb hby d7_89) rfl k) ?_
      show OFin p e below _ _ T2 (mkF m 91 #[.val (.ref r0), .val (.int p1), .val (.long q2), .second, .val (.int p3)] [(.int p3), (.int (5 : Int32))])
      refine OFin.st (fun t k => XS.icmpYes X2.here hx rfl (pc0 := 91) (pc' := 106) rfl (hb hby d7_91) rfl (flt (fun q => hc19 (own_i32.mpr (by have := own_i32.mp q; rw [(by decide : (5 : Int32).toInt = 5)] at this; rw [(by decide : (1 : Int32).toInt = 1)]; omega)))).2.1 (by decide) (by decide) k) ?_
      show OFin p e below _ _ T2 (mkF m 106 #[.val (.ref r0), .val (.int p1), .val (.long q2), .second, .val (.int p3)] [])
      refine OFin.st (fun t k => XS.bipush X2.here hx rfl (hb hby d7_106) k) ?_
      show OFin p e below _ _ T2 (mkF m 108 #[.val (.ref r0), .val (.int p1), .val (.long q2), .second, .val (.int p3)] [(.int (6 : Int32))])
      refine OFin.st (fun t k => XS.iload X2.here hx rfl (hb hby d7_108) rfl k) ?_
      show OFin p e below _ _ T2 (mkF m 110 #[.val (.ref r0), .val (.int p1), .val (.long q2), .second, .val (.int p3)] [(.int p3), (.int (6 : Int32))])
      refine OFin.st (fun t k => XS.icmpYes X2.here hx rfl (pc0 := 110) (pc' := 127) rfl (hb hby d7_110) rfl (flt (fun q => hc19 (own_i32.mpr (by have := own_i32.mp q; rw [(by decide : (6 : Int32).toInt = 6)] at this; rw [(by decide : (1 : Int32).toInt = 1)]; omega)))).2.1 (by decide) (by decide) k) ?_
      show OFin p e below _ _ T2 (mkF m 127 #[.val (.ref r0), .val (.int p1), .val (.long q2), .second, .val (.int p3)] [])
      refine OFin.st (fun t k => XS.bipush X2.here hx rfl (hb hby d7_127) k) ?_
      show OFin p e below _ _ T2 (mkF m 129 #[.val (.ref r0), .val (.int p1), .val (.long q2), .second, .val (.int p3)] [(.int (7 : Int32))])
      refine OFin.st (fun t k => XS.iload X2.here hx rfl (hb hby d7_129) rfl k) ?_
      show OFin p e below _ _ T2 (mkF m 131 #[.val (.ref r0), .val (.int p1), .val (.long q2), .second, .val (.int p3)] [(.int p3), (.int (7 : Int32))])
      refine OFin.st (fun t k => XS.icmpYes X2.here hx rfl (pc0 := 131) (pc' := 148) rfl (hb hby d7_131) rfl (flt (fun q => hc19 (own_i32.mpr (by have := own_i32.mp q; rw [(by decide : (7 : Int32).toInt = 7)] at this; rw [(by decide : (1 : Int32).toInt = 1)]; omega)))).2.1 (by decide) (by decide) k) ?_
      show OFin p e below _ _ T2 (mkF m 148 #[.val (.ref r0), .val (.int p1), .val (.long q2), .second, .val (.int p3)] [])
      refine OFin.st (fun t k => XS.bipush X2.here hx rfl (hb hby d7_148) k) ?_
      show OFin p e below _ _ T2 (mkF m 150 #[.val (.ref r0), .val (.int p1), .val (.long q2), .second, .val (.int p3)] [(.int (8 : Int32))])
      refine OFin.st (fun t k => XS.iload X2.here hx rfl (hb hby d7_150) rfl k) ?_
      show OFin p e below _ _ T2 (mkF m 152 #[.val (.ref r0), .val (.int p1), .val (.long q2), .second, .val (.int p3)] [(.int p3), (.int (8 : Int32))])
      refine OFin.st (fun t k => XS.icmpYes X2.here hx rfl (pc0 := 152) (pc' := 169) rfl (hb hby d7_152) rfl (flt (fun q => hc19 (own_i32.mpr (by have := own_i32.mp q; rw [(by decide : (8 : Int32).toInt = 8)] at this; rw [(by decide : (1 : Int32).toInt = 1)]; omega)))).2.1 (by decide) (by decide) k) ?_
      show OFin p e below _ _ T2 (mkF m 169 #[.val (.ref r0), .val (.int p1), .val (.long q2), .second, .val (.int p3)] [])
      refine OFin.st (fun t k => XS.bipush X2.here hx rfl (hb hby d7_169) k) ?_
      show OFin p e below _ _ T2 (mkF m 171 #[.val (.ref r0), .val (.int p1), .val (.long q2), .second, .val (.int p3)] [(.int (9 : Int32))])
      refine OFin.st (fun t k => XS.iload X2.here hx rfl (hb hby d7_171) rfl k) ?_
      show OFin p e below _ _ T2 (mkF m 173 #[.val (.ref r0), .val (.int p1), .val (.long q2), .second, .val (.int p3)] [(.int p3), (.int (9 : Int32))])
      refine OFin.st (fun t k => XS.icmpYes X2.here hx rfl (pc0 := 173) (pc' := 190) rfl (hb hby d7_173) rfl (flt (fun q => hc19 (own_i32.mpr (by have := own_i32.mp q; rw [(by decide : (9 : Int32).toInt = 9)] at this; rw [(by decide : (1 : Int32).toInt = 1)]; omega)))).2.1 (by decide) (by decide) k) ?_
      show OFin p e below _ _ T2 (mkF m 190 #[.val (.ref r0), .val (.int p1), .val (.long q2), .second, .val (.int p3)] [])
      exact own_retV X2 hx Bd.returns Bd.notSynchronized (hb hby d7_190) (by show Qrm7 Z r0 p1 q2 p3 kA vs on ln h0 n0 _ T2.heap _; rw [e2]; exact ⟨rfl, N2, K2, (by
                      have z1 := own_i32.mp hc3
                      rw [(by decide : (0 : Int32).toInt = 0)] at z1
                      have z2 : ¬ (1 : Int32).toInt < p3.toInt := fun q => hc19 (own_i32.mpr q)
                      rw [(by decide : (1 : Int32).toInt = 1)] at z2
                      have e : ln = 1 := by omega
                      rw [e]; exact Vw2)⟩) (own_endN (by decide) (by decide))
  · refine OFin.st (fun t k => XS.icmpYes X0.here hx rfl (pc0 := 3) (pc' := 16) rfl (hb hby d7_3) rfl (flt hc3).2.1 (by decide) (by decide) k) ?_
    show OFin p e below _ _ s₁ (mkF m 16 #[.val (.ref r0), .val (.int p1), .val (.long q2), .second, .val (.int p3)] [])
    refine OFin.st (fun t k => XS.iconst X0.here hx rfl (hb hby d7_16) k) ?_
    show OFin p e below _ _ s₁ (mkF m 17 #[.val (.ref r0), .val (.int p1), .val (.long q2), .second, .val (.int p3)] [(.int (1 : Int32))])
    refine OFin.st (fun t k => XS.iload X0.here hx rfl (hb hby d7_17) rfl k) ?_
    show OFin p e below _ _ s₁ (mkF m 19 #[.val (.ref r0), .val (.int p1), .val (.long q2), .second, .val (.int p3)] [(.int p3), (.int (1 : Int32))])
    refine OFin.st (fun t k => XS.icmpYes X0.here hx rfl (pc0 := 19) (pc' := 34) rfl (hb hby d7_19) rfl (flt (fun q => hc3 (own_i32.mpr (by have := own_i32.mp q; rw [(by decide : (1 : Int32).toInt = 1)] at this; rw [(by decide : (0 : Int32).toInt = 0)]; omega)))).2.1 (by decide) (by decide) k) ?_
    show OFin p e below _ _ s₁ (mkF m 34 #[.val (.ref r0), .val (.int p1), .val (.long q2), .second, .val (.int p3)] [])
    refine OFin.st (fun t k => XS.iconst X0.here hx rfl (hb hby d7_34) k) ?_
    show OFin p e below _ _ s₁ (mkF m 35 #[.val (.ref r0), .val (.int p1), .val (.long q2), .second, .val (.int p3)] [(.int (2 : Int32))])
    refine OFin.st (fun t k => XS.iload X0.here hx rfl (hb hby d7_35) rfl k) ?_
    show OFin p e below _ _ s₁ (mkF m 37 #[.val (.ref r0), .val (.int p1), .val (.long q2), .second, .val (.int p3)] [(.int p3), (.int (2 : Int32))])
    refine OFin.st (fun t k => XS.icmpYes X0.here hx rfl (pc0 := 37) (pc' := 52) rfl (hb hby d7_37) rfl (flt (fun q => hc3 (own_i32.mpr (by have := own_i32.mp q; rw [(by decide : (2 : Int32).toInt = 2)] at this; rw [(by decide : (0 : Int32).toInt = 0)]; omega)))).2.1 (by decide) (by decide) k) ?_
    show OFin p e below _ _ s₁ (mkF m 52 #[.val (.ref r0), .val (.int p1), .val (.long q2), .second, .val (.int p3)] [])
    refine OFin.st (fun t k => XS.iconst X0.here hx rfl (hb hby d7_52) k) ?_
    show OFin p e below _ _ s₁ (mkF m 53 #[.val (.ref r0), .val (.int p1), .val (.long q2), .second, .val (.int p3)] [(.int (3 : Int32))])
    refine OFin.st (fun t k => XS.iload X0.here hx rfl (hb hby d7_53) rfl k) ?_
    show OFin p e below _ _ s₁ (mkF m 55 #[.val (.ref r0), .val (.int p1), .val (.long q2), .second, .val (.int p3)] [(.int p3), (.int (3 : Int32))])
    refine OFin.st (fun t k => XS.icmpYes X0.here hx rfl (pc0 := 55) (pc' := 70) rfl (hb hby d7_55) rfl (flt (fun q => hc3 (own_i32.mpr (by have := own_i32.mp q; rw [(by decide : (3 : Int32).toInt = 3)] at this; rw [(by decide : (0 : Int32).toInt = 0)]; omega)))).2.1 (by decide) (by decide) k) ?_
    show OFin p e below _ _ s₁ (mkF m 70 #[.val (.ref r0), .val (.int p1), .val (.long q2), .second, .val (.int p3)] [])
    refine OFin.st (fun t k => XS.iconst X0.here hx rfl (hb hby d7_70) k) ?_
    show OFin p e below _ _ s₁ (mkF m 71 #[.val (.ref r0), .val (.int p1), .val (.long q2), .second, .val (.int p3)] [(.int (4 : Int32))])
    refine OFin.st (fun t k => XS.iload X0.here hx rfl (hb hby d7_71) rfl k) ?_
    show OFin p e below _ _ s₁ (mkF m 73 #[.val (.ref r0), .val (.int p1), .val (.long q2), .second, .val (.int p3)] [(.int p3), (.int (4 : Int32))])
    refine OFin.st (fun t k => XS.icmpYes X0.here hx rfl (pc0 := 73) (pc' := 88) rfl (hb hby d7_73) rfl (flt (fun q => hc3 (own_i32.mpr (by have := own_i32.mp q; rw [(by decide : (4 : Int32).toInt = 4)] at this; rw [(by decide : (0 : Int32).toInt = 0)]; omega)))).2.1 (by decide) (by decide) k) ?_
    show OFin p e below _ _ s₁ (mkF m 88 #[.val (.ref r0), .val (.int p1), .val (.long q2), .second, .val (.int p3)] [])
    refine OFin.st (fun t k => XS.iconst X0.here hx rfl (hb hby d7_88) k) ?_
    show OFin p e below _ _ s₁ (mkF m 89 #[.val (.ref r0), .val (.int p1), .val (.long q2), .second, .val (.int p3)] [(.int (5 : Int32))])
    refine OFin.st (fun t k => XS.iload X0.here hx rfl (hb hby d7_89) rfl k) ?_
    show OFin p e below _ _ s₁ (mkF m 91 #[.val (.ref r0), .val (.int p1), .val (.long q2), .second, .val (.int p3)] [(.int p3), (.int (5 : Int32))])
    refine OFin.st (fun t k => XS.icmpYes X0.here hx rfl (pc0 := 91) (pc' := 106) rfl (hb hby d7_91) rfl (flt (fun q => hc3 (own_i32.mpr (by have := own_i32.mp q; rw [(by decide : (5 : Int32).toInt = 5)] at this; rw [(by decide : (0 : Int32).toInt = 0)]; omega)))).2.1 (by decide) (by decide) k) ?_
    show OFin p e below _ _ s₁ (mkF m 106 #[.val (.ref r0), .val (.int p1), .val (.long q2), .second, .val (.int p3)] [])
    refine OFin.st (fun t k => XS.bipush X0.here hx rfl (hb hby d7_106) k) ?_
    show OFin p e below _ _ s₁ (mkF m 108 #[.val (.ref r0), .val (.int p1), .val (.long q2), .second, .val (.int p3)] [(.int (6 : Int32))])
    refine OFin.st (fun t k => XS.iload X0.here hx rfl (hb hby d7_108) rfl k) ?_
    show OFin p e below _ _ s₁ (mkF m 110 #[.val (.ref r0), .val (.int p1), .val (.long q2), .second, .val (.int p3)] [(.int p3), (.int (6 : Int32))])
    refine OFin.st (fun t k => XS.icmpYes X0.here hx rfl (pc0 := 110) (pc' := 127) rfl (hb hby d7_110) rfl (flt (fun q => hc3 (own_i32.mpr (by have := own_i32.mp q; rw [(by decide : (6 : Int32).toInt = 6)] at this; rw [(by decide : (0 : Int32).toInt = 0)]; omega)))).2.1 (by decide) (by decide) k) ?_
    show OFin p e below _ _ s₁ (mkF m 127 #[.val (.ref r0), .val (.int p1), .val (.long q2), .second, .val (.int p3)] [])
    refine OFin.st (fun t k => XS.bipush X0.here hx rfl (hb hby d7_127) k) ?_
    show OFin p e below _ _ s₁ (mkF m 129 #[.val (.ref r0), .val (.int p1), .val (.long q2), .second, .val (.int p3)] [(.int (7 : Int32))])
    refine OFin.st (fun t k => XS.iload X0.here hx rfl (hb hby d7_129) rfl k) ?_
    show OFin p e below _ _ s₁ (mkF m 131 #[.val (.ref r0), .val (.int p1), .val (.long q2), .second, .val (.int p3)] [(.int p3), (.int (7 : Int32))])
    refine OFin.st (fun t k => XS.icmpYes X0.here hx rfl (pc0 := 131) (pc' := 148) rfl (hb hby d7_131) rfl (flt (fun q => hc3 (own_i32.mpr (by have := own_i32.mp q; rw [(by decide : (7 : Int32).toInt = 7)] at this; rw [(by decide : (0 : Int32).toInt = 0)]; omega)))).2.1 (by decide) (by decide) k) ?_
    show OFin p e below _ _ s₁ (mkF m 148 #[.val (.ref r0), .val (.int p1), .val (.long q2), .second, .val (.int p3)] [])
    refine OFin.st (fun t k => XS.bipush X0.here hx rfl (hb hby d7_148) k) ?_
    show OFin p e below _ _ s₁ (mkF m 150 #[.val (.ref r0), .val (.int p1), .val (.long q2), .second, .val (.int p3)] [(.int (8 : Int32))])
    refine OFin.st (fun t k => XS.iload X0.here hx rfl (hb hby d7_150) rfl k) ?_
    show OFin p e below _ _ s₁ (mkF m 152 #[.val (.ref r0), .val (.int p1), .val (.long q2), .second, .val (.int p3)] [(.int p3), (.int (8 : Int32))])
    refine OFin.st (fun t k => XS.icmpYes X0.here hx rfl (pc0 := 152) (pc' := 169) rfl (hb hby d7_152) rfl (flt (fun q => hc3 (own_i32.mpr (by have := own_i32.mp q; rw [(by decide : (8 : Int32).toInt = 8)] at this; rw [(by decide : (0 : Int32).toInt = 0)]; omega)))).2.1 (by decide) (by decide) k) ?_
    show OFin p e below _ _ s₁ (mkF m 169 #[.val (.ref r0), .val (.int p1), .val (.long q2), .second, .val (.int p3)] [])
    refine OFin.st (fun t k => XS.bipush X0.here hx rfl (hb hby d7_169) k) ?_
    show OFin p e below _ _ s₁ (mkF m 171 #[.val (.ref r0), .val (.int p1), .val (.long q2), .second, .val (.int p3)] [(.int (9 : Int32))])
    refine OFin.st (fun t k => XS.iload X0.here hx rfl (hb hby d7_171) rfl k) ?_
    show OFin p e below _ _ s₁ (mkF m 173 #[.val (.ref r0), .val (.int p1), .val (.long q2), .second, .val (.int p3)] [(.int p3), (.int (9 : Int32))])
    refine OFin.st (fun t k => XS.icmpYes X0.here hx rfl (pc0 := 173) (pc' := 190) rfl (hb hby d7_173) rfl (flt (fun q => hc3 (own_i32.mpr (by have := own_i32.mp q; rw [(by decide : (9 : Int32).toInt = 9)] at this; rw [(by decide : (0 : Int32).toInt = 0)]; omega)))).2.1 (by decide) (by decide) k) ?_
    show OFin p e below _ _ s₁ (mkF m 190 #[.val (.ref r0), .val (.int p1), .val (.long q2), .second, .val (.int p3)] [])
    exact own_retV X0 hx Bd.returns Bd.notSynchronized (hb hby d7_190) (by show Qrm7 Z r0 p1 q2 p3 kA vs on ln h0 n0 _ s₁.heap _; rw [e0]; exact ⟨rfl, N0, (Keep.refl h0 [r0]), (by
                    have z2 : ¬ (0 : Int32).toInt < p3.toInt := fun q => hc3 (own_i32.mpr q)
                    rw [(by decide : (0 : Int32).toInt = 0)] at z2
                    have e : ln = 0 := by omega
                    rw [e]; exact A_r0)⟩) (own_endN (by decide) (by decide))
theorem ef_rm10 (m : MethodId) (r0 : Addr) : entryFrame m #[(.ref r0)] 5 = mkF m 0 #[.val (.ref r0), .unset, .unset, .unset, .unset] [] := by first | (simp [entryFrame, mkF, argsToLocals, Value.category]; done) | rfl
def Qrm10 (Z : State) (r0 : Addr) (ba : Addr) (pp : Int32) (en : Int32) (ff : Int32) (wt : Int32) (kA : ClassId) (vs : List Value) (fv : Nat → Int32) (kv : Nat) (h0 : Heap) (n0 : Nat) (v : Option Value) (h : Heap) (L : List Loc) : Prop := v = some (Value.long (vac fv (kv + 1))) ∧ Fr n0 L ∧ Keep h0 h [r0] ∧ Exa Z h r0 "com/example/fillwire/fillwire/codec/ProtoReader" ∧ Fld Z h r0 "com/example/fillwire/fillwire/codec/ProtoReader" "bytes" "[B" (.ref ba) ∧ Fld Z h r0 "com/example/fillwire/fillwire/codec/ProtoReader" "position" "I" (.int (vpo pp (kv + 1))) ∧ Fld Z h r0 "com/example/fillwire/fillwire/codec/ProtoReader" "end" "I" (.int en) ∧ Fld Z h r0 "com/example/fillwire/fillwire/codec/ProtoReader" "field" "I" (.int ff) ∧ Fld Z h r0 "com/example/fillwire/fillwire/codec/ProtoReader" "wireType" "I" (.int wt)
set_option maxRecDepth 65536 in
set_option maxHeartbeats 40000000 in
theorem rm10 (l : Launch) (Z : State) (a0 : Array Value) (hw : ∀ d ∈ tables_1, d.before a0 Z = true) (ws : List Jvm.Cond) (r0 : Addr) (ba : Addr) (pp : Int32) (en : Int32) (ff : Int32) (wt : Int32) (kA : ClassId) (vs : List Value) (fv : Nat → Int32) (kv : Nat) (h0 : Heap) (n0 : Nat) (O0 : Old Z n0 h0) (E_r0 : Exa Z h0 r0 "com/example/fillwire/fillwire/codec/ProtoReader") (F_bytes_r0 : Fld Z h0 r0 "com/example/fillwire/fillwire/codec/ProtoReader" "bytes" "[B" (.ref ba)) (F_position_r0 : Fld Z h0 r0 "com/example/fillwire/fillwire/codec/ProtoReader" "position" "I" (.int pp)) (F_end_r0 : Fld Z h0 r0 "com/example/fillwire/fillwire/codec/ProtoReader" "end" "I" (.int en)) (F_field_r0 : Fld Z h0 r0 "com/example/fillwire/fillwire/codec/ProtoReader" "field" "I" (.int ff)) (F_wireType_r0 : Fld Z h0 r0 "com/example/fillwire/fillwire/codec/ProtoReader" "wireType" "I" (.int wt)) (A_ba : Oar Z h0 ba kA .byte vs) (g_r0 : n0 ≤ r0) (N_ba_r0 : ba ≠ r0) (hk : kv ≤ 9) (hcn : ∀ i, i < kv → fv i < 0) (hln : ¬ fv kv < 0) (h9 : kv = 9 → ¬ (1 : Int32) < fv kv) (hp0 : 0 ≤ pp.toInt) (hp1 : pp.toInt < 2000000000) (hvs : ∀ i, i ≤ kv → vs[pp.toInt.toNat + i]? = some (Value.int (fv i))) (hne : ∀ i, i ≤ kv → ¬ vpo pp i = en) :
    MetFree l (⟨"com/example/fillwire/fillwire/codec/ProtoReader", "readVarint", "()J"⟩ : MethodName) (head1 (Jvm.Cond.code (⟨"com/example/fillwire/fillwire/codec/ProtoReader", "readVarint", "()J"⟩ : MethodName) prog_34_method_16_code 5 (some .long) :: ws) ({ frames := 0, cells := 0, slots := 0, locals := 0 } : Room)) (fun a U => a = #[(.ref r0)] ∧ Z.Warmed39 U.vm ∧ U.heap = h0) (fun _ _ _ _ _ => True) (fun _ U o U' => ∃ v L, o = .returned v ∧ Qrm10 Z r0 ba pp en ff wt kA vs fv kv h0 n0 v U'.heap L ∧ FrameEnd U o U' L ({ frames := 0, cells := 0, slots := 0, locals := 0 } : Room).cells ({ frames := 0, cells := 0, slots := 0, locals := 0 } : Room).slots) := by
  refine MetFree.of_bodySF (plainFor_of_name pn_com_example_fillwire_fillwire_codec_ProtoReader) hisR ?_
  intro p e s m args below meth c s₁ Bd hml0 hP hK
  obtain ⟨rfl, hZ, hh⟩ := hP
  have hx := Bd.exec
  have hby := Bd.bytes
  have hml : c.maxLocals = 5 := hml0
  have hown : s.vm.findClass "com/example/fillwire/fillwire/codec/ProtoReader" = some m.cls := findClass_of_methodNamed Bd.named
  have hnm := (name_of_methodNamed Bd.named Bd.method).1
  have X0 : Stand p l e ({ frames := 0, cells := 0, slots := 0, locals := 0 } : Room) s m #[(.ref r0)] below meth c s₁ [] 0 0 := Stand.of_body Bd
  have e0 : s₁.heap = h0 := by rw [← hh, Bd.state]; rfl
  have N0 := Fr.nil n0
  show OFin p e below (fun o t L => FrameEnd s o t L ({ frames := 0, cells := 0, slots := 0, locals := 0 } : Room).cells ({ frames := 0, cells := 0, slots := 0, locals := 0 } : Room).slots) (fun v h L => Qrm10 Z r0 ba pp en ff wt kA vs fv kv h0 n0 v h L) s₁ (entryFrame m #[(.ref r0)] 5)
  refine OFin.cast (ef_rm10 m r0) ?_
  show OFin p e below _ _ s₁ (mkF m 0 #[.val (.ref r0), .unset, .unset, .unset, .unset] [])
  refine OFin.st (fun t k => XS.lconst X0.here hx rfl (hb hby d10_0) k) ?_
  show OFin p e below _ _ s₁ (mkF m 1 #[.val (.ref r0), .unset, .unset, .unset, .unset] [(.long (0 : Int64))])
  refine OFin.st (fun t k => XS.lstoreN X0.here hx rfl (hb hby d10_1) rfl (l' := #[.val (.ref r0), .val (.long (0 : Int64)), .second, .unset, .unset]) rfl k) ?_
  show OFin p e below _ _ s₁ (mkF m 2 #[.val (.ref r0), .val (.long (0 : Int64)), .second, .unset, .unset] [])
  refine OFin.st (fun t k => XS.iconst X0.here hx rfl (hb hby d10_2) k) ?_
  show OFin p e below _ _ s₁ (mkF m 3 #[.val (.ref r0), .val (.long (0 : Int64)), .second, .unset, .unset] [(.int (0 : Int32))])
  refine OFin.st (fun t k => XS.istoreN X0.here hx rfl (hb hby d10_3) rfl (l' := #[.val (.ref r0), .val (.long (0 : Int64)), .second, .val (.int (0 : Int32)), .unset]) rfl k) ?_
  show OFin p e below _ _ s₁ (mkF m 4 #[.val (.ref r0), .val (.long (0 : Int64)), .second, .val (.int (0 : Int32)), .unset] [])
  have loop1 : ∀ (d : Nat) (i : Nat) (s4 : Slot) (T1 : State) (h1 : Heap) (locs1 : List Loc), kv - i = d → (i ≤ kv) → (One s4) → Stand p l e ({ frames := 0, cells := 0, slots := 0, locals := 0 } : Room) s m #[(.ref r0)] below meth c T1 locs1 0 0 → T1.heap = h1 → Fr n0 locs1 → Keep h0 h1 [r0] → Old Z n0 h1 → Exa Z h1 r0 "com/example/fillwire/fillwire/codec/ProtoReader" → Fld Z h1 r0 "com/example/fillwire/fillwire/codec/ProtoReader" "bytes" "[B" (.ref ba) → Fld Z h1 r0 "com/example/fillwire/fillwire/codec/ProtoReader" "position" "I" (.int (vpo pp i)) → Fld Z h1 r0 "com/example/fillwire/fillwire/codec/ProtoReader" "end" "I" (.int en) → Fld Z h1 r0 "com/example/fillwire/fillwire/codec/ProtoReader" "field" "I" (.int ff) → Fld Z h1 r0 "com/example/fillwire/fillwire/codec/ProtoReader" "wireType" "I" (.int wt) → Oar Z h1 ba kA .byte vs → OFin p e below (fun o t L => FrameEnd s o t L ({ frames := 0, cells := 0, slots := 0, locals := 0 } : Room).cells ({ frames := 0, cells := 0, slots := 0, locals := 0 } : Room).slots) (fun v h L => Qrm10 Z r0 ba pp en ff wt kA vs fv kv h0 n0 v h L) T1 (mkF m 4 #[.val (.ref r0), .val (.long (vac fv i)), .second, .val (.int (vsh i)), s4] []) := by
    intro d
    induction d using Nat.strongRecOn with
    | ind d ih1 =>
      intro i s4 T1 h1 locs1 hd1 hi One_s4 X1 e1 N1 K1 O1 L1_E_r0 L1_F_bytes_r0 L1_F_position_r0 L1_F_end_r0 L1_F_field_r0 L1_F_wireType_r0 L1_A_ba
      refine OFin.st (fun t k => XS.iloadN X1.here hx rfl (hb hby d10_4) rfl k) ?_
      show OFin p e below _ _ T1 (mkF m 5 #[.val (.ref r0), .val (.long (vac fv i)), .second, .val (.int (vsh i)), s4] [(.int (vsh i))])
      refine OFin.st (fun t k => XS.bipush X1.here hx rfl (hb hby d10_5) k) ?_
      show OFin p e below _ _ T1 (mkF m 7 #[.val (.ref r0), .val (.long (vac fv i)), .second, .val (.int (vsh i)), s4] [(.int (64 : Int32)), (.int (vsh i))])
      refine OFin.st (fun t k => XS.icmpNo X1.here hx rfl (hb hby d10_7) rfl (tlt (own_lt32 (by rw [vsh_val i (by omega), (by decide : (64 : Int32).toInt = 64)]; omega))).2.1 k) ?_
      show OFin p e below _ _ T1 (mkF m 10 #[.val (.ref r0), .val (.long (vac fv i)), .second, .val (.int (vsh i)), s4] [])
      refine OFin.st (fun t k => XS.aloadN X1.here hx rfl (hb hby d10_10) rfl rfl k) ?_
      show OFin p e below _ _ T1 (mkF m 11 #[.val (.ref r0), .val (.long (vac fv i)), .second, .val (.int (vsh i)), s4] [(.ref r0)])
      obtain ⟨T2, X2, e2, st2⟩ := getF X1 hx hZ hown (host := "") (Or.inl (hw _ (List.mem_of_getElem? (i := 22) rfl))) Via.refl e1 L1_F_position_r0 (g := (mkF m 11 #[.val (.ref r0), .val (.long (vac fv i)), .second, .val (.int (vsh i)), s4] [(.ref r0)])) rfl rfl (hb hby d10_11)
      refine OFin.st st2 ?_
      show OFin p e below _ _ T2 (mkF m 14 #[.val (.ref r0), .val (.long (vac fv i)), .second, .val (.int (vsh i)), s4] [(.int (vpo pp i))])
      refine OFin.st (fun t k => XS.aloadN X2.here hx rfl (hb hby d10_14) rfl rfl k) ?_
      show OFin p e below _ _ T2 (mkF m 15 #[.val (.ref r0), .val (.long (vac fv i)), .second, .val (.int (vsh i)), s4] [(.ref r0), (.int (vpo pp i))])
      obtain ⟨T3, X3, e3, st3⟩ := getF X2 hx hZ hown (host := "") (Or.inl (hw _ (List.mem_of_getElem? (i := 24) rfl))) Via.refl e2 L1_F_end_r0 (g := (mkF m 15 #[.val (.ref r0), .val (.long (vac fv i)), .second, .val (.int (vsh i)), s4] [(.ref r0), (.int (vpo pp i))])) rfl rfl (hb hby d10_15)
      refine OFin.st st3 ?_
      show OFin p e below _ _ T3 (mkF m 18 #[.val (.ref r0), .val (.long (vac fv i)), .second, .val (.int (vsh i)), s4] [(.int en), (.int (vpo pp i))])
      refine OFin.st (fun t k => XS.icmpYes X3.here hx rfl (pc0 := 18) (pc' := 26) rfl (hb hby d10_18) rfl (feq (hne i hi)).2 (by decide) (by decide) k) ?_
      show OFin p e below _ _ T3 (mkF m 26 #[.val (.ref r0), .val (.long (vac fv i)), .second, .val (.int (vsh i)), s4] [])
      refine OFin.st (fun t k => XS.aloadN X3.here hx rfl (hb hby d10_26) rfl rfl k) ?_
      show OFin p e below _ _ T3 (mkF m 27 #[.val (.ref r0), .val (.long (vac fv i)), .second, .val (.int (vsh i)), s4] [(.ref r0)])
      obtain ⟨T4, X4, e4, st4⟩ := getF X3 hx hZ hown (host := "") (Or.inl (hw _ (List.mem_of_getElem? (i := 20) rfl))) Via.refl e3 L1_F_bytes_r0 (g := (mkF m 27 #[.val (.ref r0), .val (.long (vac fv i)), .second, .val (.int (vsh i)), s4] [(.ref r0)])) rfl rfl (hb hby d10_27)
      refine OFin.st st4 ?_
      show OFin p e below _ _ T4 (mkF m 30 #[.val (.ref r0), .val (.long (vac fv i)), .second, .val (.int (vsh i)), s4] [(.ref ba)])
      refine OFin.st (fun t k => XS.aloadN X4.here hx rfl (hb hby d10_30) rfl rfl k) ?_
      show OFin p e below _ _ T4 (mkF m 31 #[.val (.ref r0), .val (.long (vac fv i)), .second, .val (.int (vsh i)), s4] [(.ref r0), (.ref ba)])
      refine OFin.st (fun t k => XS.dup X4.here hx rfl (hb hby d10_31) rfl rfl k) ?_
      show OFin p e below _ _ T4 (mkF m 32 #[.val (.ref r0), .val (.long (vac fv i)), .second, .val (.int (vsh i)), s4] [(.ref r0), (.ref r0), (.ref ba)])
      obtain ⟨T5, X5, e5, st5⟩ := getF X4 hx hZ hown (host := "") (Or.inl (hw _ (List.mem_of_getElem? (i := 22) rfl))) Via.refl e4 L1_F_position_r0 (g := (mkF m 32 #[.val (.ref r0), .val (.long (vac fv i)), .second, .val (.int (vsh i)), s4] [(.ref r0), (.ref r0), (.ref ba)])) rfl rfl (hb hby d10_32)
      refine OFin.st st5 ?_
      show OFin p e below _ _ T5 (mkF m 35 #[.val (.ref r0), .val (.long (vac fv i)), .second, .val (.int (vsh i)), s4] [(.int (vpo pp i)), (.ref r0), (.ref ba)])
      refine OFin.st (fun t k => XS.dupX1 X5.here hx rfl (hb hby d10_35) rfl rfl rfl k) ?_
      show OFin p e below _ _ T5 (mkF m 36 #[.val (.ref r0), .val (.long (vac fv i)), .second, .val (.int (vsh i)), s4] [(.int (vpo pp i)), (.ref r0), (.int (vpo pp i)), (.ref ba)])
      refine OFin.st (fun t k => XS.iconst X5.here hx rfl (hb hby d10_36) k) ?_
      show OFin p e below _ _ T5 (mkF m 37 #[.val (.ref r0), .val (.long (vac fv i)), .second, .val (.int (vsh i)), s4] [(.int (1 : Int32)), (.int (vpo pp i)), (.ref r0), (.int (vpo pp i)), (.ref ba)])
      refine OFin.st (fun t k => XS.iadd X5.here hx rfl (hb hby d10_37) rfl k) ?_
      show OFin p e below _ _ T5 (mkF m 38 #[.val (.ref r0), .val (.long (vac fv i)), .second, .val (.int (vsh i)), s4] [(.int ((vpo pp i) + (1 : Int32))), (.ref r0), (.int (vpo pp i)), (.ref ba)])
      obtain ⟨T6, h6, X6, e6, W6, st6⟩ := putF X5 hx hZ hown (host := "") (Or.inl (hw _ (List.mem_of_getElem? (i := 22) rfl))) Via.refl e5 L1_F_position_r0 L1_E_r0 (Or.inl (hw _ (List.mem_of_getElem? (i := 23) rfl))) (hw _ (List.mem_of_getElem? (i := 1) rfl)) (ty := .int) (by decide) rfl rfl (g := (mkF m 38 #[.val (.ref r0), .val (.long (vac fv i)), .second, .val (.int (vsh i)), s4] [(.int ((vpo pp i) + (1 : Int32))), (.ref r0), (.int (vpo pp i)), (.ref ba)])) rfl rfl (hb hby d10_38)
      refine OFin.st st6 ?_
      have Fw6 := L1_F_position_r0.same W6
      have N6 := Fr.snoc X6 N1 g_r0
      have K6 : Keep h0 h6 [r0] := K1.wr W6 (Or.inl (List.mem_of_getElem? (i := 0) rfl))
      have O6 : Old Z n0 h6 := O1.wr W6 g_r0
      show OFin p e below _ _ T6 (mkF m 41 #[.val (.ref r0), .val (.long (vac fv i)), .second, .val (.int (vsh i)), s4] [(.int (vpo pp i)), (.ref ba)])
      refine own_baload X6 hx hZ e6 (L1_A_ba.other W6 N_ba_r0) (i := (pp.toInt.toNat + i)) (j := (vpo pp i)) (by rw [vpo_val pp i (by omega) hp0 hp1]; omega) (v := (.int (fv i))) (hvs i hi) (hb hby d10_41) (pc' := 42) rfl ?_
      show OFin p e below _ _ T6 (mkF m 42 #[.val (.ref r0), .val (.long (vac fv i)), .second, .val (.int (vsh i)), s4] [(.int (fv i))])
      refine OFin.st (fun t k => XS.istoreS X6.here hx rfl (hb hby d10_42) rfl rfl One_s4 k) ?_
      show OFin p e below _ _ T6 (mkF m 44 #[.val (.ref r0), .val (.long (vac fv i)), .second, .val (.int (vsh i)), .val (.int (fv i))] [])
      refine OFin.st (fun t k => XS.lloadN X6.here hx rfl (hb hby d10_44) rfl k) ?_
      show OFin p e below _ _ T6 (mkF m 45 #[.val (.ref r0), .val (.long (vac fv i)), .second, .val (.int (vsh i)), .val (.int (fv i))] [(.long (vac fv i))])
      refine OFin.st (fun t k => XS.iload X6.here hx rfl (hb hby d10_45) rfl k) ?_
      show OFin p e below _ _ T6 (mkF m 47 #[.val (.ref r0), .val (.long (vac fv i)), .second, .val (.int (vsh i)), .val (.int (fv i))] [(.int (fv i)), (.long (vac fv i))])
      refine OFin.st (fun t k => XS.bipush X6.here hx rfl (hb hby d10_47) k) ?_
      show OFin p e below _ _ T6 (mkF m 49 #[.val (.ref r0), .val (.long (vac fv i)), .second, .val (.int (vsh i)), .val (.int (fv i))] [(.int (127 : Int32)), (.int (fv i)), (.long (vac fv i))])
      refine OFin.st (fun t k => XS.iand X6.here hx rfl (hb hby d10_49) rfl k) ?_
      show OFin p e below _ _ T6 (mkF m 50 #[.val (.ref r0), .val (.long (vac fv i)), .second, .val (.int (vsh i)), .val (.int (fv i))] [(.int ((fv i) &&& (127 : Int32))), (.long (vac fv i))])
      refine OFin.st (fun t k => XS.i2l X6.here hx rfl (hb hby d10_50) rfl k) ?_
      show OFin p e below _ _ T6 (mkF m 51 #[.val (.ref r0), .val (.long (vac fv i)), .second, .val (.int (vsh i)), .val (.int (fv i))] [(.long (((fv i) &&& (127 : Int32)).toInt64)), (.long (vac fv i))])
      refine OFin.st (fun t k => XS.iloadN X6.here hx rfl (hb hby d10_51) rfl k) ?_
      show OFin p e below _ _ T6 (mkF m 52 #[.val (.ref r0), .val (.long (vac fv i)), .second, .val (.int (vsh i)), .val (.int (fv i))] [(.int (vsh i)), (.long (((fv i) &&& (127 : Int32)).toInt64)), (.long (vac fv i))])
      refine OFin.st (fun t k => XS.lshl X6.here hx rfl (hb hby d10_52) rfl k) ?_
      show OFin p e below _ _ T6 (mkF m 53 #[.val (.ref r0), .val (.long (vac fv i)), .second, .val (.int (vsh i)), .val (.int (fv i))] [(.long ((((fv i) &&& (127 : Int32)).toInt64) <<< ((vsh i) &&& 0x3f).toInt64)), (.long (vac fv i))])
      refine OFin.st (fun t k => XS.lor X6.here hx rfl (hb hby d10_53) rfl k) ?_
      show OFin p e below _ _ T6 (mkF m 54 #[.val (.ref r0), .val (.long (vac fv i)), .second, .val (.int (vsh i)), .val (.int (fv i))] [(.long ((vac fv i) ||| ((((fv i) &&& (127 : Int32)).toInt64) <<< ((vsh i) &&& 0x3f).toInt64)))])
      refine OFin.st (fun t k => XS.lstoreN X6.here hx rfl (hb hby d10_54) rfl (l' := #[.val (.ref r0), .val (.long ((vac fv i) ||| ((((fv i) &&& (127 : Int32)).toInt64) <<< ((vsh i) &&& 0x3f).toInt64))), .second, .val (.int (vsh i)), .val (.int (fv i))]) rfl k) ?_
      show OFin p e below _ _ T6 (mkF m 55 #[.val (.ref r0), .val (.long ((vac fv i) ||| ((((fv i) &&& (127 : Int32)).toInt64) <<< ((vsh i) &&& 0x3f).toInt64))), .second, .val (.int (vsh i)), .val (.int (fv i))] [])
      refine OFin.st (fun t k => XS.iload X6.here hx rfl (hb hby d10_55) rfl k) ?_
      show OFin p e below _ _ T6 (mkF m 57 #[.val (.ref r0), .val (.long ((vac fv i) ||| ((((fv i) &&& (127 : Int32)).toInt64) <<< ((vsh i) &&& 0x3f).toInt64))), .second, .val (.int (vsh i)), .val (.int (fv i))] [(.int (fv i))])
      by_cases hik : i = kv
      · refine OFin.st (fun t k => XS.ifNo X6.here hx rfl (hb hby d10_57) rfl ((if0 _ _).trans (flt (hik ▸ hln)).1) k) ?_
        show OFin p e below _ _ T6 (mkF m 60 #[.val (.ref r0), .val (.long ((vac fv i) ||| ((((fv i) &&& (127 : Int32)).toInt64) <<< ((vsh i) &&& 0x3f).toInt64))), .second, .val (.int (vsh i)), .val (.int (fv i))] [])
        refine OFin.st (fun t k => XS.iloadN X6.here hx rfl (hb hby d10_60) rfl k) ?_
        show OFin p e below _ _ T6 (mkF m 61 #[.val (.ref r0), .val (.long ((vac fv i) ||| ((((fv i) &&& (127 : Int32)).toInt64) <<< ((vsh i) &&& 0x3f).toInt64))), .second, .val (.int (vsh i)), .val (.int (fv i))] [(.int (vsh i))])
        refine OFin.st (fun t k => XS.bipush X6.here hx rfl (hb hby d10_61) k) ?_
        show OFin p e below _ _ T6 (mkF m 63 #[.val (.ref r0), .val (.long ((vac fv i) ||| ((((fv i) &&& (127 : Int32)).toInt64) <<< ((vsh i) &&& 0x3f).toInt64))), .second, .val (.int (vsh i)), .val (.int (fv i))] [(.int (63 : Int32)), (.int (vsh i))])
        by_cases hc63 : (vsh i) = (63 : Int32)
        · refine OFin.st (fun t k => XS.icmpNo X6.here hx rfl (hb hby d10_63) rfl (teq hc63).2 k) ?_
          show OFin p e below _ _ T6 (mkF m 66 #[.val (.ref r0), .val (.long ((vac fv i) ||| ((((fv i) &&& (127 : Int32)).toInt64) <<< ((vsh i) &&& 0x3f).toInt64))), .second, .val (.int (vsh i)), .val (.int (fv i))] [])
          refine OFin.st (fun t k => XS.iload X6.here hx rfl (hb hby d10_66) rfl k) ?_
          show OFin p e below _ _ T6 (mkF m 68 #[.val (.ref r0), .val (.long ((vac fv i) ||| ((((fv i) &&& (127 : Int32)).toInt64) <<< ((vsh i) &&& 0x3f).toInt64))), .second, .val (.int (vsh i)), .val (.int (fv i))] [(.int (fv i))])
          refine OFin.st (fun t k => XS.iconst X6.here hx rfl (hb hby d10_68) k) ?_
          show OFin p e below _ _ T6 (mkF m 69 #[.val (.ref r0), .val (.long ((vac fv i) ||| ((((fv i) &&& (127 : Int32)).toInt64) <<< ((vsh i) &&& 0x3f).toInt64))), .second, .val (.int (vsh i)), .val (.int (fv i))] [(.int (1 : Int32)), (.int (fv i))])
          refine OFin.st (fun t k => XS.icmpYes X6.here hx rfl (pc0 := 69) (pc' := 86) rfl (hb hby d10_69) rfl (flt (hik ▸ h9 (own_sh9 i kv hik (by omega) hc63))).2.2.2 (by decide) (by decide) k) ?_
          show OFin p e below _ _ T6 (mkF m 86 #[.val (.ref r0), .val (.long ((vac fv i) ||| ((((fv i) &&& (127 : Int32)).toInt64) <<< ((vsh i) &&& 0x3f).toInt64))), .second, .val (.int (vsh i)), .val (.int (fv i))] [])
          refine OFin.st (fun t k => XS.lloadN X6.here hx rfl (hb hby d10_86) rfl k) ?_
          show OFin p e below _ _ T6 (mkF m 87 #[.val (.ref r0), .val (.long ((vac fv i) ||| ((((fv i) &&& (127 : Int32)).toInt64) <<< ((vsh i) &&& 0x3f).toInt64))), .second, .val (.int (vsh i)), .val (.int (fv i))] [(.long ((vac fv i) ||| ((((fv i) &&& (127 : Int32)).toInt64) <<< ((vsh i) &&& 0x3f).toInt64)))])
          have c7 := (L1_F_bytes_r0.other W6 (Or.inr (slot_ne (Or.inr (hw _ (List.mem_of_getElem? (i := 21) rfl))) (Or.inl (hw _ (List.mem_of_getElem? (i := 23) rfl))) (by decide) (t := (.array .byte)) (t' := .int) (by decide) (by decide))))
          have c8 := (L1_F_end_r0.other W6 (Or.inr (slot_ne (Or.inr (hw _ (List.mem_of_getElem? (i := 25) rfl))) (Or.inl (hw _ (List.mem_of_getElem? (i := 23) rfl))) (by decide) (t := .int) (t' := .int) (by decide) (by decide))))
          have c9 := (L1_F_field_r0.other W6 (Or.inr (slot_ne (Or.inl (hw _ (List.mem_of_getElem? (i := 57) rfl))) (Or.inl (hw _ (List.mem_of_getElem? (i := 23) rfl))) (by decide) (t := .int) (t' := .int) (by decide) (by decide))))
          have c10 := (L1_F_wireType_r0.other W6 (Or.inr (slot_ne (Or.inl (hw _ (List.mem_of_getElem? (i := 64) rfl))) (Or.inl (hw _ (List.mem_of_getElem? (i := 23) rfl))) (by decide) (t := .int) (t' := .int) (by decide) (by decide))))
          exact own_retJ X6 hx Bd.returns Bd.notSynchronized (hb hby d10_87) (by show Qrm10 Z r0 ba pp en ff wt kA vs fv kv h0 n0 _ T6.heap _; rw [e6]; exact ⟨(by rw [← hik]; rfl), N6, K6, (L1_E_r0.wr W6), c7, (by rw [← hik]; exact Fw6), c8, c9, c10⟩) (own_endN (by decide) (by decide))
        · refine OFin.st (fun t k => XS.icmpYes X6.here hx rfl (pc0 := 63) (pc' := 86) rfl (hb hby d10_63) rfl (feq hc63).2 (by decide) (by decide) k) ?_
          show OFin p e below _ _ T6 (mkF m 86 #[.val (.ref r0), .val (.long ((vac fv i) ||| ((((fv i) &&& (127 : Int32)).toInt64) <<< ((vsh i) &&& 0x3f).toInt64))), .second, .val (.int (vsh i)), .val (.int (fv i))] [])
          refine OFin.st (fun t k => XS.lloadN X6.here hx rfl (hb hby d10_86) rfl k) ?_
          show OFin p e below _ _ T6 (mkF m 87 #[.val (.ref r0), .val (.long ((vac fv i) ||| ((((fv i) &&& (127 : Int32)).toInt64) <<< ((vsh i) &&& 0x3f).toInt64))), .second, .val (.int (vsh i)), .val (.int (fv i))] [(.long ((vac fv i) ||| ((((fv i) &&& (127 : Int32)).toInt64) <<< ((vsh i) &&& 0x3f).toInt64)))])
          have c11 := (L1_F_bytes_r0.other W6 (Or.inr (slot_ne (Or.inr (hw _ (List.mem_of_getElem? (i := 21) rfl))) (Or.inl (hw _ (List.mem_of_getElem? (i := 23) rfl))) (by decide) (t := (.array .byte)) (t' := .int) (by decide) (by decide))))
          have c12 := (L1_F_end_r0.other W6 (Or.inr (slot_ne (Or.inr (hw _ (List.mem_of_getElem? (i := 25) rfl))) (Or.inl (hw _ (List.mem_of_getElem? (i := 23) rfl))) (by decide) (t := .int) (t' := .int) (by decide) (by decide))))
          have c13 := (L1_F_field_r0.other W6 (Or.inr (slot_ne (Or.inl (hw _ (List.mem_of_getElem? (i := 57) rfl))) (Or.inl (hw _ (List.mem_of_getElem? (i := 23) rfl))) (by decide) (t := .int) (t' := .int) (by decide) (by decide))))
          have c14 := (L1_F_wireType_r0.other W6 (Or.inr (slot_ne (Or.inl (hw _ (List.mem_of_getElem? (i := 64) rfl))) (Or.inl (hw _ (List.mem_of_getElem? (i := 23) rfl))) (by decide) (t := .int) (t' := .int) (by decide) (by decide))))
          exact own_retJ X6 hx Bd.returns Bd.notSynchronized (hb hby d10_87) (by show Qrm10 Z r0 ba pp en ff wt kA vs fv kv h0 n0 _ T6.heap _; rw [e6]; exact ⟨(by rw [← hik]; rfl), N6, K6, (L1_E_r0.wr W6), c11, (by rw [← hik]; exact Fw6), c12, c13, c14⟩) (own_endN (by decide) (by decide))
      · refine OFin.st (fun t k => XS.ifYes X6.here hx rfl (pc0 := 57) (pc' := 88) rfl (hb hby d10_57) rfl ((if0 _ _).trans (tlt (hcn i (by omega))).1) (by decide) (by decide) k) ?_
        show OFin p e below _ _ T6 (mkF m 88 #[.val (.ref r0), .val (.long ((vac fv i) ||| ((((fv i) &&& (127 : Int32)).toInt64) <<< ((vsh i) &&& 0x3f).toInt64))), .second, .val (.int (vsh i)), .val (.int (fv i))] [])
        refine OFin.st (fun t k => XS.iinc X6.here hx rfl (hb hby d10_88) rfl (l' := #[.val (.ref r0), .val (.long ((vac fv i) ||| ((((fv i) &&& (127 : Int32)).toInt64) <<< ((vsh i) &&& 0x3f).toInt64))), .second, .val (.int ((vsh i) + (7 : Int32))), .val (.int (fv i))]) rfl k) ?_
        show OFin p e below _ _ T6 (mkF m 91 #[.val (.ref r0), .val (.long ((vac fv i) ||| ((((fv i) &&& (127 : Int32)).toInt64) <<< ((vsh i) &&& 0x3f).toInt64))), .second, .val (.int ((vsh i) + (7 : Int32))), .val (.int (fv i))] [])
        refine OFin.st (fun t k => XS.goto X6.here hx rfl (pc0 := 91) (pc' := 4) rfl (hb hby d10_91) (by decide) (by decide) k) ?_
        show OFin p e below _ _ T6 (mkF m 4 #[.val (.ref r0), .val (.long ((vac fv i) ||| ((((fv i) &&& (127 : Int32)).toInt64) <<< ((vsh i) &&& 0x3f).toInt64))), .second, .val (.int ((vsh i) + (7 : Int32))), .val (.int (fv i))] [])
        have c15 := (L1_F_bytes_r0.other W6 (Or.inr (slot_ne (Or.inr (hw _ (List.mem_of_getElem? (i := 21) rfl))) (Or.inl (hw _ (List.mem_of_getElem? (i := 23) rfl))) (by decide) (t := (.array .byte)) (t' := .int) (by decide) (by decide))))
        have c16 := (L1_F_end_r0.other W6 (Or.inr (slot_ne (Or.inr (hw _ (List.mem_of_getElem? (i := 25) rfl))) (Or.inl (hw _ (List.mem_of_getElem? (i := 23) rfl))) (by decide) (t := .int) (t' := .int) (by decide) (by decide))))
        have c17 := (L1_F_field_r0.other W6 (Or.inr (slot_ne (Or.inl (hw _ (List.mem_of_getElem? (i := 57) rfl))) (Or.inl (hw _ (List.mem_of_getElem? (i := 23) rfl))) (by decide) (t := .int) (t' := .int) (by decide) (by decide))))
        have c18 := (L1_F_wireType_r0.other W6 (Or.inr (slot_ne (Or.inl (hw _ (List.mem_of_getElem? (i := 64) rfl))) (Or.inl (hw _ (List.mem_of_getElem? (i := 23) rfl))) (by decide) (t := .int) (t' := .int) (by decide) (by decide))))
        exact ih1 _ (by omega) (i + 1) (.val (.int (fv i))) _ _ _ rfl (by omega) (One.val rfl) X6 e6 N6 K6 O6 (L1_E_r0.wr W6) c15 Fw6 c16 c17 c18 (L1_A_ba.other W6 N_ba_r0)
  exact loop1 _ 0 _ _ _ _ rfl (Nat.zero_le _) One.u X0 e0 N0 (Keep.refl h0 [r0]) O0 E_r0 F_bytes_r0 F_position_r0 F_end_r0 F_field_r0 F_wireType_r0 A_ba
theorem ef_rm9 (m : MethodId) (r0 : Addr) : entryFrame m #[(.ref r0)] 5 = mkF m 0 #[.val (.ref r0), .unset, .unset, .unset, .unset] [] := by first | (simp [entryFrame, mkF, argsToLocals, Value.category]; done) | rfl
def Qrm9 (Z : State) (r0 : Addr) (ba : Addr) (pp : Int32) (en : Int32) (ff : Int32) (wt : Int32) (kA : ClassId) (vs : List Value) (fv : Nat → Int32) (kv : Nat) (kW : ClassId) (vW : List Value) (w_WIRE_TYPES : Addr) (h0 : Heap) (n0 : Nat) (v : Option Value) (h : Heap) (L : List Loc) : Prop := v = none ∧ Fr n0 L ∧ Keep h0 h [r0] ∧ Exa Z h r0 "com/example/fillwire/fillwire/codec/ProtoReader" ∧ Fld Z h r0 "com/example/fillwire/fillwire/codec/ProtoReader" "bytes" "[B" (.ref ba) ∧ Fld Z h r0 "com/example/fillwire/fillwire/codec/ProtoReader" "position" "I" (.int (vpo pp (kv + 1))) ∧ Fld Z h r0 "com/example/fillwire/fillwire/codec/ProtoReader" "end" "I" (.int en) ∧ Fld Z h r0 "com/example/fillwire/fillwire/codec/ProtoReader" "field" "I" (.int ((((vac fv (kv + 1)).toUInt64 >>> ((3 : Int32) &&& 0x3f).toInt64.toUInt64).toInt64).toInt32)) ∧ Fld Z h r0 "com/example/fillwire/fillwire/codec/ProtoReader" "wireType" "I" (.int (((vac fv (kv + 1)).toInt32) &&& (7 : Int32)))
set_option maxRecDepth 65536 in
set_option maxHeartbeats 40000000 in
theorem rm9 (l : Launch) (Z : State) (a0 : Array Value) (hw : ∀ d ∈ tables_1, d.before a0 Z = true) (ws : List Jvm.Cond) (r0 : Addr) (ba : Addr) (pp : Int32) (en : Int32) (ff : Int32) (wt : Int32) (kA : ClassId) (vs : List Value) (fv : Nat → Int32) (kv : Nat) (kW : ClassId) (vW : List Value) (w_WIRE_TYPES : Addr) (h0 : Heap) (n0 : Nat) (O0 : Old Z n0 h0) (E_r0 : Exa Z h0 r0 "com/example/fillwire/fillwire/codec/ProtoReader") (F_bytes_r0 : Fld Z h0 r0 "com/example/fillwire/fillwire/codec/ProtoReader" "bytes" "[B" (.ref ba)) (F_position_r0 : Fld Z h0 r0 "com/example/fillwire/fillwire/codec/ProtoReader" "position" "I" (.int pp)) (F_end_r0 : Fld Z h0 r0 "com/example/fillwire/fillwire/codec/ProtoReader" "end" "I" (.int en)) (F_field_r0 : Fld Z h0 r0 "com/example/fillwire/fillwire/codec/ProtoReader" "field" "I" (.int ff)) (F_wireType_r0 : Fld Z h0 r0 "com/example/fillwire/fillwire/codec/ProtoReader" "wireType" "I" (.int wt)) (A_ba : Oar Z h0 ba kA .byte vs) (g_r0 : n0 ≤ r0) (N_ba_r0 : ba ≠ r0) (hk : kv ≤ 9) (hcn : ∀ i, i < kv → fv i < 0) (hln : ¬ fv kv < 0) (h9 : kv = 9 → ¬ (1 : Int32) < fv kv) (hp0 : 0 ≤ pp.toInt) (hp1 : pp.toInt < 2000000000) (hvs : ∀ i, i ≤ kv → vs[pp.toInt.toNat + i]? = some (Value.int (fv i))) (hne : ∀ i, i ≤ kv → ¬ vpo pp i = en) (hn0 : ¬ (((vac fv (kv + 1)).toUInt64 >>> ((3 : Int32) &&& 0x3f).toInt64.toUInt64).toInt64) = (0 : Int64)) (hnq : ¬ (536870911 : Int64) < (((vac fv (kv + 1)).toUInt64 >>> ((3 : Int32) &&& 0x3f).toInt64.toUInt64).toInt64)) (hwt : (((vac fv (kv + 1)).toInt32) &&& (7 : Int32)) < (6 : Int32)) (hW6 : vW.length = 6) (A_w_WIRE_TYPES : Oar Z Z.heap w_WIRE_TYPES kW (.object "java/lang/String") vW) (S_WIRE_TYPES : Sta Z Z.heap "com/example/fillwire/fillwire/codec/ProtoReader" "WIRE_TYPES" "[Ljava/lang/String;" (.ref w_WIRE_TYPES)) :
    MetFree l (⟨"com/example/fillwire/fillwire/codec/ProtoReader", "readKey", "()V"⟩ : MethodName) (head1 (Jvm.Cond.code (⟨"com/example/fillwire/fillwire/codec/ProtoReader", "readKey", "()V"⟩ : MethodName) prog_34_method_14_code 5 none :: ws) ({ frames := 1, cells := 0, slots := 0, locals := 16 } : Room)) (fun a U => a = #[(.ref r0)] ∧ Z.Warmed39 U.vm ∧ U.heap = h0) (fun _ _ _ _ _ => True) (fun _ U o U' => ∃ v L, o = .returned v ∧ Qrm9 Z r0 ba pp en ff wt kA vs fv kv kW vW w_WIRE_TYPES h0 n0 v U'.heap L ∧ FrameEnd U o U' L ({ frames := 1, cells := 0, slots := 0, locals := 16 } : Room).cells ({ frames := 1, cells := 0, slots := 0, locals := 16 } : Room).slots) := by
  refine MetFree.of_bodySF (plainFor_of_name pn_com_example_fillwire_fillwire_codec_ProtoReader) hisR ?_
  intro p e s m args below meth c s₁ Bd hml0 hP hK
  obtain ⟨rfl, hZ, hh⟩ := hP
  have hx := Bd.exec
  have hby := Bd.bytes
  have hml : c.maxLocals = 5 := hml0
  have hown : s.vm.findClass "com/example/fillwire/fillwire/codec/ProtoReader" = some m.cls := findClass_of_methodNamed Bd.named
  have hnm := (name_of_methodNamed Bd.named Bd.method).1
  have X0 : Stand p l e ({ frames := 1, cells := 0, slots := 0, locals := 16 } : Room) s m #[(.ref r0)] below meth c s₁ [] 0 0 := Stand.of_body Bd
  have e0 : s₁.heap = h0 := by rw [← hh, Bd.state]; rfl
  have N0 := Fr.nil n0
  show OFin p e below (fun o t L => FrameEnd s o t L ({ frames := 1, cells := 0, slots := 0, locals := 16 } : Room).cells ({ frames := 1, cells := 0, slots := 0, locals := 16 } : Room).slots) (fun v h L => Qrm9 Z r0 ba pp en ff wt kA vs fv kv kW vW w_WIRE_TYPES h0 n0 v h L) s₁ (entryFrame m #[(.ref r0)] 5)
  refine OFin.cast (ef_rm9 m r0) ?_
  show OFin p e below _ _ s₁ (mkF m 0 #[.val (.ref r0), .unset, .unset, .unset, .unset] [])
  refine OFin.st (fun t k => XS.aloadN X0.here hx rfl (hb hby d9_0) rfl rfl k) ?_
  show OFin p e below _ _ s₁ (mkF m 1 #[.val (.ref r0), .unset, .unset, .unset, .unset] [(.ref r0)])
  refine OFin.st (fun t k => XS.iconst X0.here hx rfl (hb hby d9_1) k) ?_
  show OFin p e below _ _ s₁ (mkF m 2 #[.val (.ref r0), .unset, .unset, .unset, .unset] [(.int (0 : Int32)), (.ref r0)])
  obtain ⟨T1, h1, X1, e1, W1, st1⟩ := putF X0 hx hZ hown (host := "") (Or.inl (hw _ (List.mem_of_getElem? (i := 56) rfl))) Via.refl e0 F_field_r0 E_r0 (Or.inl (hw _ (List.mem_of_getElem? (i := 57) rfl))) (hw _ (List.mem_of_getElem? (i := 1) rfl)) (ty := .int) (by decide) rfl rfl (g := (mkF m 2 #[.val (.ref r0), .unset, .unset, .unset, .unset] [(.int (0 : Int32)), (.ref r0)])) rfl rfl (hb hby d9_2)
  refine OFin.st st1 ?_
  have Fw1 := F_field_r0.same W1
  have N1 := Fr.snoc X1 N0 g_r0
  have K1 : Keep h0 h1 [r0] := (Keep.refl h0 [r0]).wr W1 (Or.inl (List.mem_of_getElem? (i := 0) rfl))
  have O1 : Old Z n0 h1 := O0.wr W1 g_r0
  show OFin p e below _ _ T1 (mkF m 5 #[.val (.ref r0), .unset, .unset, .unset, .unset] [])
  refine OFin.st (fun t k => XS.aloadN X1.here hx rfl (hb hby d9_5) rfl rfl k) ?_
  show OFin p e below _ _ T1 (mkF m 6 #[.val (.ref r0), .unset, .unset, .unset, .unset] [(.ref r0)])
  have c2 := (F_bytes_r0.other W1 (Or.inr (slot_ne (Or.inr (hw _ (List.mem_of_getElem? (i := 21) rfl))) (Or.inl (hw _ (List.mem_of_getElem? (i := 57) rfl))) (by decide) (t := (.array .byte)) (t' := .int) (by decide) (by decide))))
  have c3 := (F_position_r0.other W1 (Or.inr (slot_ne (Or.inl (hw _ (List.mem_of_getElem? (i := 23) rfl))) (Or.inl (hw _ (List.mem_of_getElem? (i := 57) rfl))) (by decide) (t := .int) (t' := .int) (by decide) (by decide))))
  have c4 := (F_end_r0.other W1 (Or.inr (slot_ne (Or.inr (hw _ (List.mem_of_getElem? (i := 25) rfl))) (Or.inl (hw _ (List.mem_of_getElem? (i := 57) rfl))) (by decide) (t := .int) (t' := .int) (by decide) (by decide))))
  have c5 := (F_wireType_r0.other W1 (Or.inr (slot_ne (Or.inl (hw _ (List.mem_of_getElem? (i := 64) rfl))) (Or.inl (hw _ (List.mem_of_getElem? (i := 57) rfl))) (by decide) (t := .int) (t' := .int) (by decide) (by decide))))
  obtain ⟨cq6, q6, q6'⟩ := (E_r0.wr W1).cell
  obtain ⟨_, _, ⟨T6, L6, k6, n6⟩, -, X6, ⟨Lc6, hQ6, l6, y6, z6⟩, st6⟩ := X1.privateBack hx (y := (⟨"com/example/fillwire/fillwire/codec/ProtoReader", "readVarint", "()J"⟩ : MethodName)) hown (mvT hZ (hw _ (List.mem_of_getElem? (i := 58) rfl))) (mvT hZ (hw _ (List.mem_of_getElem? (i := 59) rfl))) (own_selP hZ (hw _ (List.mem_of_getElem? (i := 1) rfl)) (hw _ (List.mem_of_getElem? (i := 60) rfl)) (hw _ (List.mem_of_getElem? (i := 59) rfl)) (by decide)) (Cond.privateMethod_at (mvP hZ (hw _ (List.mem_of_getElem? (i := 60) rfl)) (args := #[]))) (mvT hZ (hw _ (List.mem_of_getElem? (i := 61) rfl))) (by decide) (backOf (W := 0) (rm10 l Z a0 hw [] r0 ba pp en (0 : Int32) wt kA vs fv kv h1 n0 O1 (E_r0.wr W1) c2 c3 c4 Fw1 c5 (A_ba.other W1 N_ba_r0) g_r0 N_ba_r0 (hk : kv ≤ 9) (hcn : ∀ i, i < kv → fv i < 0) (hln : ¬ fv kv < 0) (h9 : kv = 9 → ¬ (1 : Int32) < fv kv) (hp0 : 0 ≤ pp.toInt) (hp1 : pp.toInt < 2000000000) (hvs : ∀ i, i ≤ kv → vs[pp.toInt.toNat + i]? = some (Value.int (fv i))) (hne : ∀ i, i ≤ kv → ¬ vpo pp i = en)) hZ (hw _ (List.mem_of_getElem? (i := 61) rfl)) (hw _ (List.mem_of_getElem? (i := 2) rfl)) (by decide) (by decide)) (g := (mkF m 6 #[.val (.ref r0), .unset, .unset, .unset, .unset] [(.ref r0)])) rfl (by rw [hml]; rfl) (Steps.refl _) (a := r0) (by rw [e1]; exact q6) q6' (argsL := []) (rest := []) (lenOf pd_1 rfl) rfl (by show 2 * 0 + _ ≤ _; exact Nat.le_of_eq rfl) (hb hby d9_6) (fun _ _ => ⟨rfl, e1, (by decide : 0 + 0 ≤ _), (by decide : 0 + 0 ≤ _)⟩)
  dsimp only [Pt.U, Pt.locs, Pt.cells, Pt.slots] at X6 l6 y6 z6 st6 hQ6
  subst l6 y6 z6
  obtain ⟨rfl, N6q, K6q, P6_0, P6_1, P6_2, P6_3, P6_4, P6_5⟩ := hQ6
  have N6 := Fr.app N1 N6q
  have K6 : Keep h0 T6.heap [r0] := K1.trans K6q (allS (Or.inl (List.mem_of_getElem? (i := 0) rfl)) all0)
  have O6 : Old Z n0 T6.heap := O1.keep K6q (allS g_r0 all0)
  refine OFin.tr st6 ?_
  show OFin p e below _ _ T6 (mkF m 9 #[.val (.ref r0), .unset, .unset, .unset, .unset] [(.long (vac fv (kv + 1)))])
  refine OFin.st (fun t k => XS.lstoreN X6.here hx rfl (hb hby d9_9) rfl (l' := #[.val (.ref r0), .val (.long (vac fv (kv + 1))), .second, .unset, .unset]) rfl k) ?_
  show OFin p e below _ _ T6 (mkF m 10 #[.val (.ref r0), .val (.long (vac fv (kv + 1))), .second, .unset, .unset] [])
  refine OFin.st (fun t k => XS.lloadN X6.here hx rfl (hb hby d9_10) rfl k) ?_
  show OFin p e below _ _ T6 (mkF m 11 #[.val (.ref r0), .val (.long (vac fv (kv + 1))), .second, .unset, .unset] [(.long (vac fv (kv + 1)))])
  refine OFin.st (fun t k => XS.iconst X6.here hx rfl (hb hby d9_11) k) ?_
  show OFin p e below _ _ T6 (mkF m 12 #[.val (.ref r0), .val (.long (vac fv (kv + 1))), .second, .unset, .unset] [(.int (3 : Int32)), (.long (vac fv (kv + 1)))])
  refine OFin.st (fun t k => XS.lushr X6.here hx rfl (hb hby d9_12) rfl k) ?_
  show OFin p e below _ _ T6 (mkF m 13 #[.val (.ref r0), .val (.long (vac fv (kv + 1))), .second, .unset, .unset] [(.long (((vac fv (kv + 1)).toUInt64 >>> ((3 : Int32) &&& 0x3f).toInt64.toUInt64).toInt64))])
  refine OFin.st (fun t k => XS.lstoreN X6.here hx rfl (hb hby d9_13) rfl (l' := #[.val (.ref r0), .val (.long (vac fv (kv + 1))), .second, .val (.long (((vac fv (kv + 1)).toUInt64 >>> ((3 : Int32) &&& 0x3f).toInt64.toUInt64).toInt64)), .second]) rfl k) ?_
  show OFin p e below _ _ T6 (mkF m 14 #[.val (.ref r0), .val (.long (vac fv (kv + 1))), .second, .val (.long (((vac fv (kv + 1)).toUInt64 >>> ((3 : Int32) &&& 0x3f).toInt64.toUInt64).toInt64)), .second] [])
  refine OFin.st (fun t k => XS.lloadN X6.here hx rfl (hb hby d9_14) rfl k) ?_
  show OFin p e below _ _ T6 (mkF m 15 #[.val (.ref r0), .val (.long (vac fv (kv + 1))), .second, .val (.long (((vac fv (kv + 1)).toUInt64 >>> ((3 : Int32) &&& 0x3f).toInt64.toUInt64).toInt64)), .second] [(.long (((vac fv (kv + 1)).toUInt64 >>> ((3 : Int32) &&& 0x3f).toInt64.toUInt64).toInt64))])
  refine OFin.st (fun t k => XS.lconst X6.here hx rfl (hb hby d9_15) k) ?_
  show OFin p e below _ _ T6 (mkF m 16 #[.val (.ref r0), .val (.long (vac fv (kv + 1))), .second, .val (.long (((vac fv (kv + 1)).toUInt64 >>> ((3 : Int32) &&& 0x3f).toInt64.toUInt64).toInt64)), .second] [(.long (0 : Int64)), (.long (((vac fv (kv + 1)).toUInt64 >>> ((3 : Int32) &&& 0x3f).toInt64.toUInt64).toInt64))])
  refine OFin.st (fun t k => XS.lcmp X6.here hx rfl (hb hby d9_16) rfl k) ?_
  show OFin p e below _ _ T6 (mkF m 17 #[.val (.ref r0), .val (.long (vac fv (kv + 1))), .second, .val (.long (((vac fv (kv + 1)).toUInt64 >>> ((3 : Int32) &&& 0x3f).toInt64.toUInt64).toInt64)), .second] [(.int (lcmpW (((vac fv (kv + 1)).toUInt64 >>> ((3 : Int32) &&& 0x3f).toInt64.toUInt64).toInt64) (0 : Int64)))])
  refine OFin.st (fun t k => XS.ifNo X6.here hx rfl (hb hby d9_17) rfl ((if0 _ _).trans (feq (fun q => hn0 ((lw_eq (((vac fv (kv + 1)).toUInt64 >>> ((3 : Int32) &&& 0x3f).toInt64.toUInt64).toInt64) (0 : Int64)).mp q))).1) k) ?_
  show OFin p e below _ _ T6 (mkF m 20 #[.val (.ref r0), .val (.long (vac fv (kv + 1))), .second, .val (.long (((vac fv (kv + 1)).toUInt64 >>> ((3 : Int32) &&& 0x3f).toInt64.toUInt64).toInt64)), .second] [])
  refine OFin.st (fun t k => XS.lloadN X6.here hx rfl (hb hby d9_20) rfl k) ?_
  show OFin p e below _ _ T6 (mkF m 21 #[.val (.ref r0), .val (.long (vac fv (kv + 1))), .second, .val (.long (((vac fv (kv + 1)).toUInt64 >>> ((3 : Int32) &&& 0x3f).toInt64.toUInt64).toInt64)), .second] [(.long (((vac fv (kv + 1)).toUInt64 >>> ((3 : Int32) &&& 0x3f).toInt64.toUInt64).toInt64))])
  refine OFin.st (X6.ldc2Long hx hown (mvT hZ (hw _ (List.mem_of_getElem? (i := 62) rfl))) (g := (mkF m 21 #[.val (.ref r0), .val (.long (vac fv (kv + 1))), .second, .val (.long (((vac fv (kv + 1)).toUInt64 >>> ((3 : Int32) &&& 0x3f).toInt64.toUInt64).toInt64)), .second] [(.long (((vac fv (kv + 1)).toUInt64 >>> ((3 : Int32) &&& 0x3f).toInt64.toUInt64).toInt64))])) rfl (hb hby d9_21)) ?_
  show OFin p e below _ _ T6 (mkF m 24 #[.val (.ref r0), .val (.long (vac fv (kv + 1))), .second, .val (.long (((vac fv (kv + 1)).toUInt64 >>> ((3 : Int32) &&& 0x3f).toInt64.toUInt64).toInt64)), .second] [(.long (536870911 : Int64)), (.long (((vac fv (kv + 1)).toUInt64 >>> ((3 : Int32) &&& 0x3f).toInt64.toUInt64).toInt64))])
  refine OFin.st (fun t k => XS.lcmp X6.here hx rfl (hb hby d9_24) rfl k) ?_
  show OFin p e below _ _ T6 (mkF m 25 #[.val (.ref r0), .val (.long (vac fv (kv + 1))), .second, .val (.long (((vac fv (kv + 1)).toUInt64 >>> ((3 : Int32) &&& 0x3f).toInt64.toUInt64).toInt64)), .second] [(.int (lcmpW (((vac fv (kv + 1)).toUInt64 >>> ((3 : Int32) &&& 0x3f).toInt64.toUInt64).toInt64) (536870911 : Int64)))])
  refine OFin.st (fun t k => XS.ifYes X6.here hx rfl (pc0 := 25) (pc' := 42) rfl (hb hby d9_25) rfl ((if0 _ _).trans (flt (fun q => hnq ((lw_gt (((vac fv (kv + 1)).toUInt64 >>> ((3 : Int32) &&& 0x3f).toInt64.toUInt64).toInt64) (536870911 : Int64)).mp q))).2.2.2) (by decide) (by decide) k) ?_
  show OFin p e below _ _ T6 (mkF m 42 #[.val (.ref r0), .val (.long (vac fv (kv + 1))), .second, .val (.long (((vac fv (kv + 1)).toUInt64 >>> ((3 : Int32) &&& 0x3f).toInt64.toUInt64).toInt64)), .second] [])
  refine OFin.st (fun t k => XS.aloadN X6.here hx rfl (hb hby d9_42) rfl rfl k) ?_
  show OFin p e below _ _ T6 (mkF m 43 #[.val (.ref r0), .val (.long (vac fv (kv + 1))), .second, .val (.long (((vac fv (kv + 1)).toUInt64 >>> ((3 : Int32) &&& 0x3f).toInt64.toUInt64).toInt64)), .second] [(.ref r0)])
  refine OFin.st (fun t k => XS.lloadN X6.here hx rfl (hb hby d9_43) rfl k) ?_
  show OFin p e below _ _ T6 (mkF m 44 #[.val (.ref r0), .val (.long (vac fv (kv + 1))), .second, .val (.long (((vac fv (kv + 1)).toUInt64 >>> ((3 : Int32) &&& 0x3f).toInt64.toUInt64).toInt64)), .second] [(.long (((vac fv (kv + 1)).toUInt64 >>> ((3 : Int32) &&& 0x3f).toInt64.toUInt64).toInt64)), (.ref r0)])
  refine OFin.st (fun t k => XS.l2i X6.here hx rfl (hb hby d9_44) rfl k) ?_
  show OFin p e below _ _ T6 (mkF m 45 #[.val (.ref r0), .val (.long (vac fv (kv + 1))), .second, .val (.long (((vac fv (kv + 1)).toUInt64 >>> ((3 : Int32) &&& 0x3f).toInt64.toUInt64).toInt64)), .second] [(.int ((((vac fv (kv + 1)).toUInt64 >>> ((3 : Int32) &&& 0x3f).toInt64.toUInt64).toInt64).toInt32)), (.ref r0)])
  obtain ⟨T7, h7, X7, e7, W7, st7⟩ := putF X6 hx hZ hown (host := "") (Or.inl (hw _ (List.mem_of_getElem? (i := 56) rfl))) Via.refl rfl P6_4 P6_0 (Or.inl (hw _ (List.mem_of_getElem? (i := 57) rfl))) (hw _ (List.mem_of_getElem? (i := 1) rfl)) (ty := .int) (by decide) rfl rfl (g := (mkF m 45 #[.val (.ref r0), .val (.long (vac fv (kv + 1))), .second, .val (.long (((vac fv (kv + 1)).toUInt64 >>> ((3 : Int32) &&& 0x3f).toInt64.toUInt64).toInt64)), .second] [(.int ((((vac fv (kv + 1)).toUInt64 >>> ((3 : Int32) &&& 0x3f).toInt64.toUInt64).toInt64).toInt32)), (.ref r0)])) rfl rfl (hb hby d9_45)
  refine OFin.st st7 ?_
  have Fw7 := P6_4.same W7
  have N7 := Fr.snoc X7 N6 g_r0
  have K7 : Keep h0 h7 [r0] := K6.wr W7 (Or.inl (List.mem_of_getElem? (i := 0) rfl))
  have O7 : Old Z n0 h7 := O6.wr W7 g_r0
  show OFin p e below _ _ T7 (mkF m 48 #[.val (.ref r0), .val (.long (vac fv (kv + 1))), .second, .val (.long (((vac fv (kv + 1)).toUInt64 >>> ((3 : Int32) &&& 0x3f).toInt64.toUInt64).toInt64)), .second] [])
  refine OFin.st (fun t k => XS.aloadN X7.here hx rfl (hb hby d9_48) rfl rfl k) ?_
  show OFin p e below _ _ T7 (mkF m 49 #[.val (.ref r0), .val (.long (vac fv (kv + 1))), .second, .val (.long (((vac fv (kv + 1)).toUInt64 >>> ((3 : Int32) &&& 0x3f).toInt64.toUInt64).toInt64)), .second] [(.ref r0)])
  refine OFin.st (fun t k => XS.lloadN X7.here hx rfl (hb hby d9_49) rfl k) ?_
  show OFin p e below _ _ T7 (mkF m 50 #[.val (.ref r0), .val (.long (vac fv (kv + 1))), .second, .val (.long (((vac fv (kv + 1)).toUInt64 >>> ((3 : Int32) &&& 0x3f).toInt64.toUInt64).toInt64)), .second] [(.long (vac fv (kv + 1))), (.ref r0)])
  refine OFin.st (fun t k => XS.l2i X7.here hx rfl (hb hby d9_50) rfl k) ?_
  show OFin p e below _ _ T7 (mkF m 51 #[.val (.ref r0), .val (.long (vac fv (kv + 1))), .second, .val (.long (((vac fv (kv + 1)).toUInt64 >>> ((3 : Int32) &&& 0x3f).toInt64.toUInt64).toInt64)), .second] [(.int ((vac fv (kv + 1)).toInt32)), (.ref r0)])
  refine OFin.st (fun t k => XS.bipush X7.here hx rfl (hb hby d9_51) k) ?_
  show OFin p e below _ _ T7 (mkF m 53 #[.val (.ref r0), .val (.long (vac fv (kv + 1))), .second, .val (.long (((vac fv (kv + 1)).toUInt64 >>> ((3 : Int32) &&& 0x3f).toInt64.toUInt64).toInt64)), .second] [(.int (7 : Int32)), (.int ((vac fv (kv + 1)).toInt32)), (.ref r0)])
  refine OFin.st (fun t k => XS.iand X7.here hx rfl (hb hby d9_53) rfl k) ?_
  show OFin p e below _ _ T7 (mkF m 54 #[.val (.ref r0), .val (.long (vac fv (kv + 1))), .second, .val (.long (((vac fv (kv + 1)).toUInt64 >>> ((3 : Int32) &&& 0x3f).toInt64.toUInt64).toInt64)), .second] [(.int (((vac fv (kv + 1)).toInt32) &&& (7 : Int32))), (.ref r0)])
  have c8 := (P6_5.other W7 (Or.inr (slot_ne (Or.inl (hw _ (List.mem_of_getElem? (i := 64) rfl))) (Or.inl (hw _ (List.mem_of_getElem? (i := 57) rfl))) (by decide) (t := .int) (t' := .int) (by decide) (by decide))))
  obtain ⟨T9, h9, X9, e9, W9, st9⟩ := putF X7 hx hZ hown (host := "") (Or.inl (hw _ (List.mem_of_getElem? (i := 63) rfl))) Via.refl e7 c8 (P6_0.wr W7) (Or.inl (hw _ (List.mem_of_getElem? (i := 64) rfl))) (hw _ (List.mem_of_getElem? (i := 1) rfl)) (ty := .int) (by decide) rfl rfl (g := (mkF m 54 #[.val (.ref r0), .val (.long (vac fv (kv + 1))), .second, .val (.long (((vac fv (kv + 1)).toUInt64 >>> ((3 : Int32) &&& 0x3f).toInt64.toUInt64).toInt64)), .second] [(.int (((vac fv (kv + 1)).toInt32) &&& (7 : Int32))), (.ref r0)])) rfl rfl (hb hby d9_54)
  refine OFin.st st9 ?_
  have Fw9 := c8.same W9
  have N9 := Fr.snoc X9 N7 g_r0
  have K9 : Keep h0 h9 [r0] := K7.wr W9 (Or.inl (List.mem_of_getElem? (i := 0) rfl))
  have O9 : Old Z n0 h9 := O7.wr W9 g_r0
  show OFin p e below _ _ T9 (mkF m 57 #[.val (.ref r0), .val (.long (vac fv (kv + 1))), .second, .val (.long (((vac fv (kv + 1)).toUInt64 >>> ((3 : Int32) &&& 0x3f).toInt64.toUInt64).toInt64)), .second] [])
  refine OFin.st (fun t k => XS.aloadN X9.here hx rfl (hb hby d9_57) rfl rfl k) ?_
  show OFin p e below _ _ T9 (mkF m 58 #[.val (.ref r0), .val (.long (vac fv (kv + 1))), .second, .val (.long (((vac fv (kv + 1)).toUInt64 >>> ((3 : Int32) &&& 0x3f).toInt64.toUInt64).toInt64)), .second] [(.ref r0)])
  obtain ⟨T10, X10, e10, st10⟩ := getF X9 hx hZ hown (host := "") (Or.inl (hw _ (List.mem_of_getElem? (i := 63) rfl))) Via.refl e9 Fw9 (g := (mkF m 58 #[.val (.ref r0), .val (.long (vac fv (kv + 1))), .second, .val (.long (((vac fv (kv + 1)).toUInt64 >>> ((3 : Int32) &&& 0x3f).toInt64.toUInt64).toInt64)), .second] [(.ref r0)])) rfl rfl (hb hby d9_58)
  refine OFin.st st10 ?_
  show OFin p e below _ _ T10 (mkF m 61 #[.val (.ref r0), .val (.long (vac fv (kv + 1))), .second, .val (.long (((vac fv (kv + 1)).toUInt64 >>> ((3 : Int32) &&& 0x3f).toInt64.toUInt64).toInt64)), .second] [(.int (((vac fv (kv + 1)).toInt32) &&& (7 : Int32)))])
  obtain ⟨T11, X11, e11, st11⟩ := getS2 X10 hx hZ hown (host := "") (Or.inl (hw _ (List.mem_of_getElem? (i := 65) rfl))) Via.refl e10 (S_WIRE_TYPES.ext O9.2) (g := (mkF m 61 #[.val (.ref r0), .val (.long (vac fv (kv + 1))), .second, .val (.long (((vac fv (kv + 1)).toUInt64 >>> ((3 : Int32) &&& 0x3f).toInt64.toUInt64).toInt64)), .second] [(.int (((vac fv (kv + 1)).toInt32) &&& (7 : Int32)))])) rfl (hb hby d9_61)
  refine OFin.st st11 ?_
  show OFin p e below _ _ T11 (mkF m 64 #[.val (.ref r0), .val (.long (vac fv (kv + 1))), .second, .val (.long (((vac fv (kv + 1)).toUInt64 >>> ((3 : Int32) &&& 0x3f).toInt64.toUInt64).toInt64)), .second] [(.ref w_WIRE_TYPES), (.int (((vac fv (kv + 1)).toInt32) &&& (7 : Int32)))])
  refine own_alen X11 hx hZ e11 (A_w_WIRE_TYPES.ext O9.2) (z := (6 : Int32)) (by rw [hW6]; decide) (hb hby d9_64) (pc' := 65) rfl ?_
  show OFin p e below _ _ T11 (mkF m 65 #[.val (.ref r0), .val (.long (vac fv (kv + 1))), .second, .val (.long (((vac fv (kv + 1)).toUInt64 >>> ((3 : Int32) &&& 0x3f).toInt64.toUInt64).toInt64)), .second] [(.int (6 : Int32)), (.int (((vac fv (kv + 1)).toInt32) &&& (7 : Int32)))])
  refine OFin.st (fun t k => XS.icmpYes X11.here hx rfl (pc0 := 65) (pc' := 86) rfl (hb hby d9_65) rfl (tlt hwt).1 (by decide) (by decide) k) ?_
  show OFin p e below _ _ T11 (mkF m 86 #[.val (.ref r0), .val (.long (vac fv (kv + 1))), .second, .val (.long (((vac fv (kv + 1)).toUInt64 >>> ((3 : Int32) &&& 0x3f).toInt64.toUInt64).toInt64)), .second] [])
  have c12 := ((P6_1.other W7 (Or.inr (slot_ne (Or.inr (hw _ (List.mem_of_getElem? (i := 21) rfl))) (Or.inl (hw _ (List.mem_of_getElem? (i := 57) rfl))) (by decide) (t := (.array .byte)) (t' := .int) (by decide) (by decide)))).other W9 (Or.inr (slot_ne (Or.inr (hw _ (List.mem_of_getElem? (i := 21) rfl))) (Or.inl (hw _ (List.mem_of_getElem? (i := 64) rfl))) (by decide) (t := (.array .byte)) (t' := .int) (by decide) (by decide))))
  have c13 := ((P6_2.other W7 (Or.inr (slot_ne (Or.inl (hw _ (List.mem_of_getElem? (i := 23) rfl))) (Or.inl (hw _ (List.mem_of_getElem? (i := 57) rfl))) (by decide) (t := .int) (t' := .int) (by decide) (by decide)))).other W9 (Or.inr (slot_ne (Or.inl (hw _ (List.mem_of_getElem? (i := 23) rfl))) (Or.inl (hw _ (List.mem_of_getElem? (i := 64) rfl))) (by decide) (t := .int) (t' := .int) (by decide) (by decide))))
  have c14 := ((P6_3.other W7 (Or.inr (slot_ne (Or.inr (hw _ (List.mem_of_getElem? (i := 25) rfl))) (Or.inl (hw _ (List.mem_of_getElem? (i := 57) rfl))) (by decide) (t := .int) (t' := .int) (by decide) (by decide)))).other W9 (Or.inr (slot_ne (Or.inr (hw _ (List.mem_of_getElem? (i := 25) rfl))) (Or.inl (hw _ (List.mem_of_getElem? (i := 64) rfl))) (by decide) (t := .int) (t' := .int) (by decide) (by decide))))
  have c15 := (Fw7.other W9 (Or.inr (slot_ne (Or.inl (hw _ (List.mem_of_getElem? (i := 57) rfl))) (Or.inl (hw _ (List.mem_of_getElem? (i := 64) rfl))) (by decide) (t := .int) (t' := .int) (by decide) (by decide))))
  exact own_retV X11 hx Bd.returns Bd.notSynchronized (hb hby d9_86) (by show Qrm9 Z r0 ba pp en ff wt kA vs fv kv kW vW w_WIRE_TYPES h0 n0 _ T11.heap _; rw [e11]; exact ⟨rfl, N9, K9, ((P6_0.wr W7).wr W9), c12, c13, c14, c15, Fw9⟩) (own_endN (by decide) (by decide))
theorem ef_rm15 (m : MethodId) (r0 : Addr) (p1 : Int32) : entryFrame m #[(.ref r0), (.int p1)] 2 = mkF m 0 #[.val (.ref r0), .val (.int p1)] [] := by first | (simp [entryFrame, mkF, argsToLocals, Value.category]; done) | rfl
def Qrm15 (Z : State) (r0 : Addr) (p1 : Int32) (ba : Addr) (pp : Int32) (en : Int32) (ff : Int32) (wt : Int32) (h0 : Heap) (n0 : Nat) (v : Option Value) (h : Heap) (L : List Loc) : Prop := v = none ∧ Fr n0 L ∧ Keep h0 h [r0] ∧ Exa Z h r0 "com/example/fillwire/fillwire/codec/ProtoReader" ∧ Fld Z h r0 "com/example/fillwire/fillwire/codec/ProtoReader" "bytes" "[B" (.ref ba) ∧ Fld Z h r0 "com/example/fillwire/fillwire/codec/ProtoReader" "position" "I" (.int (pp + p1)) ∧ Fld Z h r0 "com/example/fillwire/fillwire/codec/ProtoReader" "end" "I" (.int en) ∧ Fld Z h r0 "com/example/fillwire/fillwire/codec/ProtoReader" "field" "I" (.int ff) ∧ Fld Z h r0 "com/example/fillwire/fillwire/codec/ProtoReader" "wireType" "I" (.int wt)
set_option maxRecDepth 65536 in
set_option maxHeartbeats 40000000 in
theorem rm15 (l : Launch) (Z : State) (a0 : Array Value) (hw : ∀ d ∈ tables_1, d.before a0 Z = true) (ws : List Jvm.Cond) (r0 : Addr) (p1 : Int32) (ba : Addr) (pp : Int32) (en : Int32) (ff : Int32) (wt : Int32) (h0 : Heap) (n0 : Nat) (O0 : Old Z n0 h0) (E_r0 : Exa Z h0 r0 "com/example/fillwire/fillwire/codec/ProtoReader") (F_bytes_r0 : Fld Z h0 r0 "com/example/fillwire/fillwire/codec/ProtoReader" "bytes" "[B" (.ref ba)) (F_position_r0 : Fld Z h0 r0 "com/example/fillwire/fillwire/codec/ProtoReader" "position" "I" (.int pp)) (F_end_r0 : Fld Z h0 r0 "com/example/fillwire/fillwire/codec/ProtoReader" "end" "I" (.int en)) (F_field_r0 : Fld Z h0 r0 "com/example/fillwire/fillwire/codec/ProtoReader" "field" "I" (.int ff)) (F_wireType_r0 : Fld Z h0 r0 "com/example/fillwire/fillwire/codec/ProtoReader" "wireType" "I" (.int wt)) (g_r0 : n0 ≤ r0) (hadv : ¬ (en - pp) < p1) :
    MetFree l (⟨"com/example/fillwire/fillwire/codec/ProtoReader", "advance", "(I)V"⟩ : MethodName) (head1 (Jvm.Cond.code (⟨"com/example/fillwire/fillwire/codec/ProtoReader", "advance", "(I)V"⟩ : MethodName) prog_34_method_18_code 2 none :: ws) ({ frames := 0, cells := 0, slots := 0, locals := 0 } : Room)) (fun a U => a = #[(.ref r0), (.int p1)] ∧ Z.Warmed39 U.vm ∧ U.heap = h0) (fun _ _ _ _ _ => True) (fun _ U o U' => ∃ v L, o = .returned v ∧ Qrm15 Z r0 p1 ba pp en ff wt h0 n0 v U'.heap L ∧ FrameEnd U o U' L ({ frames := 0, cells := 0, slots := 0, locals := 0 } : Room).cells ({ frames := 0, cells := 0, slots := 0, locals := 0 } : Room).slots) := by
  refine MetFree.of_bodySF (plainFor_of_name pn_com_example_fillwire_fillwire_codec_ProtoReader) hisR ?_
  intro p e s m args below meth c s₁ Bd hml0 hP hK
  obtain ⟨rfl, hZ, hh⟩ := hP
  have hx := Bd.exec
  have hby := Bd.bytes
  have hml : c.maxLocals = 2 := hml0
  have hown : s.vm.findClass "com/example/fillwire/fillwire/codec/ProtoReader" = some m.cls := findClass_of_methodNamed Bd.named
  have hnm := (name_of_methodNamed Bd.named Bd.method).1
  have X0 : Stand p l e ({ frames := 0, cells := 0, slots := 0, locals := 0 } : Room) s m #[(.ref r0), (.int p1)] below meth c s₁ [] 0 0 := Stand.of_body Bd
  have e0 : s₁.heap = h0 := by rw [← hh, Bd.state]; rfl
  have N0 := Fr.nil n0
  show OFin p e below (fun o t L => FrameEnd s o t L ({ frames := 0, cells := 0, slots := 0, locals := 0 } : Room).cells ({ frames := 0, cells := 0, slots := 0, locals := 0 } : Room).slots) (fun v h L => Qrm15 Z r0 p1 ba pp en ff wt h0 n0 v h L) s₁ (entryFrame m #[(.ref r0), (.int p1)] 2)
  refine OFin.cast (ef_rm15 m r0 p1) ?_
  show OFin p e below _ _ s₁ (mkF m 0 #[.val (.ref r0), .val (.int p1)] [])
  refine OFin.st (fun t k => XS.iloadN X0.here hx rfl (hb hby d15_0) rfl k) ?_
  show OFin p e below _ _ s₁ (mkF m 1 #[.val (.ref r0), .val (.int p1)] [(.int p1)])
  refine OFin.st (fun t k => XS.aloadN X0.here hx rfl (hb hby d15_1) rfl rfl k) ?_
  show OFin p e below _ _ s₁ (mkF m 2 #[.val (.ref r0), .val (.int p1)] [(.ref r0), (.int p1)])
  obtain ⟨T1, X1, e1, st1⟩ := getF X0 hx hZ hown (host := "") (Or.inl (hw _ (List.mem_of_getElem? (i := 24) rfl))) Via.refl e0 F_end_r0 (g := (mkF m 2 #[.val (.ref r0), .val (.int p1)] [(.ref r0), (.int p1)])) rfl rfl (hb hby d15_2)
  refine OFin.st st1 ?_
  show OFin p e below _ _ T1 (mkF m 5 #[.val (.ref r0), .val (.int p1)] [(.int en), (.int p1)])
  refine OFin.st (fun t k => XS.aloadN X1.here hx rfl (hb hby d15_5) rfl rfl k) ?_
  show OFin p e below _ _ T1 (mkF m 6 #[.val (.ref r0), .val (.int p1)] [(.ref r0), (.int en), (.int p1)])
  obtain ⟨T2, X2, e2, st2⟩ := getF X1 hx hZ hown (host := "") (Or.inl (hw _ (List.mem_of_getElem? (i := 22) rfl))) Via.refl e1 F_position_r0 (g := (mkF m 6 #[.val (.ref r0), .val (.int p1)] [(.ref r0), (.int en), (.int p1)])) rfl rfl (hb hby d15_6)
  refine OFin.st st2 ?_
  show OFin p e below _ _ T2 (mkF m 9 #[.val (.ref r0), .val (.int p1)] [(.int pp), (.int en), (.int p1)])
  refine OFin.st (fun t k => XS.isub X2.here hx rfl (hb hby d15_9) rfl k) ?_
  show OFin p e below _ _ T2 (mkF m 10 #[.val (.ref r0), .val (.int p1)] [(.int (en - pp)), (.int p1)])
  refine OFin.st (fun t k => XS.icmpYes X2.here hx rfl (pc0 := 10) (pc' := 18) rfl (hb hby d15_10) rfl (flt hadv).2.2.2 (by decide) (by decide) k) ?_
  show OFin p e below _ _ T2 (mkF m 18 #[.val (.ref r0), .val (.int p1)] [])
  refine OFin.st (fun t k => XS.aloadN X2.here hx rfl (hb hby d15_18) rfl rfl k) ?_
  show OFin p e below _ _ T2 (mkF m 19 #[.val (.ref r0), .val (.int p1)] [(.ref r0)])
  refine OFin.st (fun t k => XS.dup X2.here hx rfl (hb hby d15_19) rfl rfl k) ?_
  show OFin p e below _ _ T2 (mkF m 20 #[.val (.ref r0), .val (.int p1)] [(.ref r0), (.ref r0)])
  obtain ⟨T3, X3, e3, st3⟩ := getF X2 hx hZ hown (host := "") (Or.inl (hw _ (List.mem_of_getElem? (i := 22) rfl))) Via.refl e2 F_position_r0 (g := (mkF m 20 #[.val (.ref r0), .val (.int p1)] [(.ref r0), (.ref r0)])) rfl rfl (hb hby d15_20)
  refine OFin.st st3 ?_
  show OFin p e below _ _ T3 (mkF m 23 #[.val (.ref r0), .val (.int p1)] [(.int pp), (.ref r0)])
  refine OFin.st (fun t k => XS.iloadN X3.here hx rfl (hb hby d15_23) rfl k) ?_
  show OFin p e below _ _ T3 (mkF m 24 #[.val (.ref r0), .val (.int p1)] [(.int p1), (.int pp), (.ref r0)])
  refine OFin.st (fun t k => XS.iadd X3.here hx rfl (hb hby d15_24) rfl k) ?_
  show OFin p e below _ _ T3 (mkF m 25 #[.val (.ref r0), .val (.int p1)] [(.int (pp + p1)), (.ref r0)])
  obtain ⟨T4, h4, X4, e4, W4, st4⟩ := putF X3 hx hZ hown (host := "") (Or.inl (hw _ (List.mem_of_getElem? (i := 22) rfl))) Via.refl e3 F_position_r0 E_r0 (Or.inl (hw _ (List.mem_of_getElem? (i := 23) rfl))) (hw _ (List.mem_of_getElem? (i := 1) rfl)) (ty := .int) (by decide) rfl rfl (g := (mkF m 25 #[.val (.ref r0), .val (.int p1)] [(.int (pp + p1)), (.ref r0)])) rfl rfl (hb hby d15_25)
  refine OFin.st st4 ?_
  have Fw4 := F_position_r0.same W4
  have N4 := Fr.snoc X4 N0 g_r0
  have K4 : Keep h0 h4 [r0] := (Keep.refl h0 [r0]).wr W4 (Or.inl (List.mem_of_getElem? (i := 0) rfl))
  have O4 : Old Z n0 h4 := O0.wr W4 g_r0
  show OFin p e below _ _ T4 (mkF m 28 #[.val (.ref r0), .val (.int p1)] [])
  have c5 := (F_bytes_r0.other W4 (Or.inr (slot_ne (Or.inr (hw _ (List.mem_of_getElem? (i := 21) rfl))) (Or.inl (hw _ (List.mem_of_getElem? (i := 23) rfl))) (by decide) (t := (.array .byte)) (t' := .int) (by decide) (by decide))))
  have c6 := (F_end_r0.other W4 (Or.inr (slot_ne (Or.inr (hw _ (List.mem_of_getElem? (i := 25) rfl))) (Or.inl (hw _ (List.mem_of_getElem? (i := 23) rfl))) (by decide) (t := .int) (t' := .int) (by decide) (by decide))))
  have c7 := (F_field_r0.other W4 (Or.inr (slot_ne (Or.inl (hw _ (List.mem_of_getElem? (i := 57) rfl))) (Or.inl (hw _ (List.mem_of_getElem? (i := 23) rfl))) (by decide) (t := .int) (t' := .int) (by decide) (by decide))))
  have c8 := (F_wireType_r0.other W4 (Or.inr (slot_ne (Or.inl (hw _ (List.mem_of_getElem? (i := 64) rfl))) (Or.inl (hw _ (List.mem_of_getElem? (i := 23) rfl))) (by decide) (t := .int) (t' := .int) (by decide) (by decide))))
  exact own_retV X4 hx Bd.returns Bd.notSynchronized (hb hby d15_28) (by show Qrm15 Z r0 p1 ba pp en ff wt h0 n0 _ T4.heap _; rw [e4]; exact ⟨rfl, N4, K4, (E_r0.wr W4), c5, Fw4, c6, c7, c8⟩) (own_endN (by decide) (by decide))
theorem ef_rm16 (m : MethodId) (r0 : Addr) : entryFrame m #[(.ref r0)] 4 = mkF m 0 #[.val (.ref r0), .unset, .unset, .unset] [] := by first | (simp [entryFrame, mkF, argsToLocals, Value.category]; done) | rfl
def Qrm16 (Z : State) (r0 : Addr) (ba : Addr) (pp : Int32) (en : Int32) (ff : Int32) (wt : Int32) (kA : ClassId) (vs : List Value) (fv : Nat → Int32) (kv : Nat) (h0 : Heap) (n0 : Nat) (v : Option Value) (h : Heap) (L : List Loc) : Prop := v = some (Value.int ((vac fv (kv + 1)).toInt32)) ∧ Fr n0 L ∧ Keep h0 h [r0] ∧ Exa Z h r0 "com/example/fillwire/fillwire/codec/ProtoReader" ∧ Fld Z h r0 "com/example/fillwire/fillwire/codec/ProtoReader" "bytes" "[B" (.ref ba) ∧ Fld Z h r0 "com/example/fillwire/fillwire/codec/ProtoReader" "position" "I" (.int (vpo pp (kv + 1))) ∧ Fld Z h r0 "com/example/fillwire/fillwire/codec/ProtoReader" "end" "I" (.int en) ∧ Fld Z h r0 "com/example/fillwire/fillwire/codec/ProtoReader" "field" "I" (.int ff) ∧ Fld Z h r0 "com/example/fillwire/fillwire/codec/ProtoReader" "wireType" "I" (.int wt)
set_option maxRecDepth 65536 in
set_option maxHeartbeats 40000000 in
theorem rm16 (l : Launch) (Z : State) (a0 : Array Value) (hw : ∀ d ∈ tables_1, d.before a0 Z = true) (ws : List Jvm.Cond) (r0 : Addr) (ba : Addr) (pp : Int32) (en : Int32) (ff : Int32) (wt : Int32) (kA : ClassId) (vs : List Value) (fv : Nat → Int32) (kv : Nat) (h0 : Heap) (n0 : Nat) (O0 : Old Z n0 h0) (E_r0 : Exa Z h0 r0 "com/example/fillwire/fillwire/codec/ProtoReader") (F_bytes_r0 : Fld Z h0 r0 "com/example/fillwire/fillwire/codec/ProtoReader" "bytes" "[B" (.ref ba)) (F_position_r0 : Fld Z h0 r0 "com/example/fillwire/fillwire/codec/ProtoReader" "position" "I" (.int pp)) (F_end_r0 : Fld Z h0 r0 "com/example/fillwire/fillwire/codec/ProtoReader" "end" "I" (.int en)) (F_field_r0 : Fld Z h0 r0 "com/example/fillwire/fillwire/codec/ProtoReader" "field" "I" (.int ff)) (F_wireType_r0 : Fld Z h0 r0 "com/example/fillwire/fillwire/codec/ProtoReader" "wireType" "I" (.int wt)) (A_ba : Oar Z h0 ba kA .byte vs) (g_r0 : n0 ≤ r0) (N_ba_r0 : ba ≠ r0) (hk : kv ≤ 9) (hcn : ∀ i, i < kv → fv i < 0) (hln : ¬ fv kv < 0) (h9 : kv = 9 → ¬ (1 : Int32) < fv kv) (hp0 : 0 ≤ pp.toInt) (hp1 : pp.toInt < 2000000000) (hvs : ∀ i, i ≤ kv → vs[pp.toInt.toNat + i]? = some (Value.int (fv i))) (hne : ∀ i, i ≤ kv → ¬ vpo pp i = en) (hl0 : ¬ (vac fv (kv + 1)) < (0 : Int64)) (hl1 : ¬ ((en - (vpo pp (kv + 1))).toInt64) < (vac fv (kv + 1))) :
    MetFree l (⟨"com/example/fillwire/fillwire/codec/ProtoReader", "readLength", "()I"⟩ : MethodName) (head1 (Jvm.Cond.code (⟨"com/example/fillwire/fillwire/codec/ProtoReader", "readLength", "()I"⟩ : MethodName) prog_34_method_17_code 4 (some .int) :: ws) ({ frames := 1, cells := 0, slots := 0, locals := 16 } : Room)) (fun a U => a = #[(.ref r0)] ∧ Z.Warmed39 U.vm ∧ U.heap = h0) (fun _ _ _ _ _ => True) (fun _ U o U' => ∃ v L, o = .returned v ∧ Qrm16 Z r0 ba pp en ff wt kA vs fv kv h0 n0 v U'.heap L ∧ FrameEnd U o U' L ({ frames := 1, cells := 0, slots := 0, locals := 16 } : Room).cells ({ frames := 1, cells := 0, slots := 0, locals := 16 } : Room).slots) := by
  refine MetFree.of_bodySF (plainFor_of_name pn_com_example_fillwire_fillwire_codec_ProtoReader) hisR ?_
  intro p e s m args below meth c s₁ Bd hml0 hP hK
  obtain ⟨rfl, hZ, hh⟩ := hP
  have hx := Bd.exec
  have hby := Bd.bytes
  have hml : c.maxLocals = 4 := hml0
  have hown : s.vm.findClass "com/example/fillwire/fillwire/codec/ProtoReader" = some m.cls := findClass_of_methodNamed Bd.named
  have hnm := (name_of_methodNamed Bd.named Bd.method).1
  have X0 : Stand p l e ({ frames := 1, cells := 0, slots := 0, locals := 16 } : Room) s m #[(.ref r0)] below meth c s₁ [] 0 0 := Stand.of_body Bd
  have e0 : s₁.heap = h0 := by rw [← hh, Bd.state]; rfl
  have N0 := Fr.nil n0
  show OFin p e below (fun o t L => FrameEnd s o t L ({ frames := 1, cells := 0, slots := 0, locals := 16 } : Room).cells ({ frames := 1, cells := 0, slots := 0, locals := 16 } : Room).slots) (fun v h L => Qrm16 Z r0 ba pp en ff wt kA vs fv kv h0 n0 v h L) s₁ (entryFrame m #[(.ref r0)] 4)
  refine OFin.cast (ef_rm16 m r0) ?_
  show OFin p e below _ _ s₁ (mkF m 0 #[.val (.ref r0), .unset, .unset, .unset] [])
  refine OFin.st (fun t k => XS.aloadN X0.here hx rfl (hb hby d16_0) rfl rfl k) ?_
  show OFin p e below _ _ s₁ (mkF m 1 #[.val (.ref r0), .unset, .unset, .unset] [(.ref r0)])
  obtain ⟨cq1, q1, q1'⟩ := E_r0.cell
  obtain ⟨_, _, ⟨T1, L1, k1, n1⟩, -, X1, ⟨Lc1, hQ1, l1, y1, z1⟩, st1⟩ := X0.privateBack hx (y := (⟨"com/example/fillwire/fillwire/codec/ProtoReader", "readVarint", "()J"⟩ : MethodName)) hown (mvT hZ (hw _ (List.mem_of_getElem? (i := 58) rfl))) (mvT hZ (hw _ (List.mem_of_getElem? (i := 59) rfl))) (own_selP hZ (hw _ (List.mem_of_getElem? (i := 1) rfl)) (hw _ (List.mem_of_getElem? (i := 60) rfl)) (hw _ (List.mem_of_getElem? (i := 59) rfl)) (by decide)) (Cond.privateMethod_at (mvP hZ (hw _ (List.mem_of_getElem? (i := 60) rfl)) (args := #[]))) (mvT hZ (hw _ (List.mem_of_getElem? (i := 61) rfl))) (by decide) (backOf (W := 0) (rm10 l Z a0 hw [] r0 ba pp en ff wt kA vs fv kv h0 n0 O0 E_r0 F_bytes_r0 F_position_r0 F_end_r0 F_field_r0 F_wireType_r0 A_ba g_r0 N_ba_r0 (hk : kv ≤ 9) (hcn : ∀ i, i < kv → fv i < 0) (hln : ¬ fv kv < 0) (h9 : kv = 9 → ¬ (1 : Int32) < fv kv) (hp0 : 0 ≤ pp.toInt) (hp1 : pp.toInt < 2000000000) (hvs : ∀ i, i ≤ kv → vs[pp.toInt.toNat + i]? = some (Value.int (fv i))) (hne : ∀ i, i ≤ kv → ¬ vpo pp i = en)) hZ (hw _ (List.mem_of_getElem? (i := 61) rfl)) (hw _ (List.mem_of_getElem? (i := 2) rfl)) (by decide) (by decide)) (g := (mkF m 1 #[.val (.ref r0), .unset, .unset, .unset] [(.ref r0)])) rfl (by rw [hml]; rfl) (Steps.refl _) (a := r0) (by rw [e0]; exact q1) q1' (argsL := []) (rest := []) (lenOf pd_1 rfl) rfl (by show 2 * 0 + _ ≤ _; exact Nat.le_of_eq rfl) (hb hby d16_1) (fun _ _ => ⟨rfl, e0, (by decide : 0 + 0 ≤ _), (by decide : 0 + 0 ≤ _)⟩)
  dsimp only [Pt.U, Pt.locs, Pt.cells, Pt.slots] at X1 l1 y1 z1 st1 hQ1
  subst l1 y1 z1
  obtain ⟨rfl, N1q, K1q, P1_0, P1_1, P1_2, P1_3, P1_4, P1_5⟩ := hQ1
  have N1 := Fr.app N0 N1q
  have K1 : Keep h0 T1.heap [r0] := (Keep.refl h0 [r0]).trans K1q (allS (Or.inl (List.mem_of_getElem? (i := 0) rfl)) all0)
  have O1 : Old Z n0 T1.heap := O0.keep K1q (allS g_r0 all0)
  refine OFin.tr st1 ?_
  show OFin p e below _ _ T1 (mkF m 4 #[.val (.ref r0), .unset, .unset, .unset] [(.long (vac fv (kv + 1)))])
  refine OFin.st (fun t k => XS.lstoreN X1.here hx rfl (hb hby d16_4) rfl (l' := #[.val (.ref r0), .val (.long (vac fv (kv + 1))), .second, .unset]) rfl k) ?_
  show OFin p e below _ _ T1 (mkF m 5 #[.val (.ref r0), .val (.long (vac fv (kv + 1))), .second, .unset] [])
  refine OFin.st (fun t k => XS.aloadN X1.here hx rfl (hb hby d16_5) rfl rfl k) ?_
  show OFin p e below _ _ T1 (mkF m 6 #[.val (.ref r0), .val (.long (vac fv (kv + 1))), .second, .unset] [(.ref r0)])
  obtain ⟨T2, X2, e2, st2⟩ := getF X1 hx hZ hown (host := "") (Or.inl (hw _ (List.mem_of_getElem? (i := 24) rfl))) Via.refl rfl P1_3 (g := (mkF m 6 #[.val (.ref r0), .val (.long (vac fv (kv + 1))), .second, .unset] [(.ref r0)])) rfl rfl (hb hby d16_6)
  refine OFin.st st2 ?_
  show OFin p e below _ _ T2 (mkF m 9 #[.val (.ref r0), .val (.long (vac fv (kv + 1))), .second, .unset] [(.int en)])
  refine OFin.st (fun t k => XS.aloadN X2.here hx rfl (hb hby d16_9) rfl rfl k) ?_
  show OFin p e below _ _ T2 (mkF m 10 #[.val (.ref r0), .val (.long (vac fv (kv + 1))), .second, .unset] [(.ref r0), (.int en)])
  obtain ⟨T3, X3, e3, st3⟩ := getF X2 hx hZ hown (host := "") (Or.inl (hw _ (List.mem_of_getElem? (i := 22) rfl))) Via.refl e2 P1_2 (g := (mkF m 10 #[.val (.ref r0), .val (.long (vac fv (kv + 1))), .second, .unset] [(.ref r0), (.int en)])) rfl rfl (hb hby d16_10)
  refine OFin.st st3 ?_
  show OFin p e below _ _ T3 (mkF m 13 #[.val (.ref r0), .val (.long (vac fv (kv + 1))), .second, .unset] [(.int (vpo pp (kv + 1))), (.int en)])
  refine OFin.st (fun t k => XS.isub X3.here hx rfl (hb hby d16_13) rfl k) ?_
  show OFin p e below _ _ T3 (mkF m 14 #[.val (.ref r0), .val (.long (vac fv (kv + 1))), .second, .unset] [(.int (en - (vpo pp (kv + 1))))])
  refine OFin.st (fun t k => XS.istoreN X3.here hx rfl (hb hby d16_14) rfl (l' := #[.val (.ref r0), .val (.long (vac fv (kv + 1))), .second, .val (.int (en - (vpo pp (kv + 1))))]) rfl k) ?_
  show OFin p e below _ _ T3 (mkF m 15 #[.val (.ref r0), .val (.long (vac fv (kv + 1))), .second, .val (.int (en - (vpo pp (kv + 1))))] [])
  refine OFin.st (fun t k => XS.lloadN X3.here hx rfl (hb hby d16_15) rfl k) ?_
  show OFin p e below _ _ T3 (mkF m 16 #[.val (.ref r0), .val (.long (vac fv (kv + 1))), .second, .val (.int (en - (vpo pp (kv + 1))))] [(.long (vac fv (kv + 1)))])
  refine OFin.st (fun t k => XS.lconst X3.here hx rfl (hb hby d16_16) k) ?_
  show OFin p e below _ _ T3 (mkF m 17 #[.val (.ref r0), .val (.long (vac fv (kv + 1))), .second, .val (.int (en - (vpo pp (kv + 1))))] [(.long (0 : Int64)), (.long (vac fv (kv + 1)))])
  refine OFin.st (fun t k => XS.lcmp X3.here hx rfl (hb hby d16_17) rfl k) ?_
  show OFin p e below _ _ T3 (mkF m 18 #[.val (.ref r0), .val (.long (vac fv (kv + 1))), .second, .val (.int (en - (vpo pp (kv + 1))))] [(.int (lcmpW (vac fv (kv + 1)) (0 : Int64)))])
  refine OFin.st (fun t k => XS.ifNo X3.here hx rfl (hb hby d16_18) rfl ((if0 _ _).trans (flt (fun q => hl0 ((lw_lt (vac fv (kv + 1)) (0 : Int64)).mp q))).1) k) ?_
  show OFin p e below _ _ T3 (mkF m 21 #[.val (.ref r0), .val (.long (vac fv (kv + 1))), .second, .val (.int (en - (vpo pp (kv + 1))))] [])
  refine OFin.st (fun t k => XS.lloadN X3.here hx rfl (hb hby d16_21) rfl k) ?_
  show OFin p e below _ _ T3 (mkF m 22 #[.val (.ref r0), .val (.long (vac fv (kv + 1))), .second, .val (.int (en - (vpo pp (kv + 1))))] [(.long (vac fv (kv + 1)))])
  refine OFin.st (fun t k => XS.iloadN X3.here hx rfl (hb hby d16_22) rfl k) ?_
  show OFin p e below _ _ T3 (mkF m 23 #[.val (.ref r0), .val (.long (vac fv (kv + 1))), .second, .val (.int (en - (vpo pp (kv + 1))))] [(.int (en - (vpo pp (kv + 1)))), (.long (vac fv (kv + 1)))])
  refine OFin.st (fun t k => XS.i2l X3.here hx rfl (hb hby d16_23) rfl k) ?_
  show OFin p e below _ _ T3 (mkF m 24 #[.val (.ref r0), .val (.long (vac fv (kv + 1))), .second, .val (.int (en - (vpo pp (kv + 1))))] [(.long ((en - (vpo pp (kv + 1))).toInt64)), (.long (vac fv (kv + 1)))])
  refine OFin.st (fun t k => XS.lcmp X3.here hx rfl (hb hby d16_24) rfl k) ?_
  show OFin p e below _ _ T3 (mkF m 25 #[.val (.ref r0), .val (.long (vac fv (kv + 1))), .second, .val (.int (en - (vpo pp (kv + 1))))] [(.int (lcmpW (vac fv (kv + 1)) ((en - (vpo pp (kv + 1))).toInt64)))])
  refine OFin.st (fun t k => XS.ifYes X3.here hx rfl (pc0 := 25) (pc' := 47) rfl (hb hby d16_25) rfl ((if0 _ _).trans (flt (fun q => hl1 ((lw_gt (vac fv (kv + 1)) ((en - (vpo pp (kv + 1))).toInt64)).mp q))).2.2.2) (by decide) (by decide) k) ?_
  show OFin p e below _ _ T3 (mkF m 47 #[.val (.ref r0), .val (.long (vac fv (kv + 1))), .second, .val (.int (en - (vpo pp (kv + 1))))] [])
  refine OFin.st (fun t k => XS.lloadN X3.here hx rfl (hb hby d16_47) rfl k) ?_
  show OFin p e below _ _ T3 (mkF m 48 #[.val (.ref r0), .val (.long (vac fv (kv + 1))), .second, .val (.int (en - (vpo pp (kv + 1))))] [(.long (vac fv (kv + 1)))])
  refine OFin.st (fun t k => XS.l2i X3.here hx rfl (hb hby d16_48) rfl k) ?_
  show OFin p e below _ _ T3 (mkF m 49 #[.val (.ref r0), .val (.long (vac fv (kv + 1))), .second, .val (.int (en - (vpo pp (kv + 1))))] [(.int ((vac fv (kv + 1)).toInt32))])
  exact own_retI X3 hx Bd.returns Bd.notSynchronized (hb hby d16_49) (by show Qrm16 Z r0 ba pp en ff wt kA vs fv kv h0 n0 _ T3.heap _; rw [e3]; exact ⟨rfl, N1, K1, P1_0, P1_1, P1_2, P1_3, P1_4, P1_5⟩) (own_endN (by decide) (by decide))
theorem ef_rm14 (m : MethodId) (r0 : Addr) (p1 : Int32) : entryFrame m #[(.ref r0), (.int p1)] 3 = mkF m 0 #[.val (.ref r0), .val (.int p1), .unset] [] := by first | (simp [entryFrame, mkF, argsToLocals, Value.category]; done) | rfl
def Qrm14 (Z : State) (r0 : Addr) (p1 : Int32) (ba : Addr) (pp : Int32) (en : Int32) (ff : Int32) (wt : Int32) (kA : ClassId) (vs : List Value) (fv : Nat → Int32) (kv : Nat) (kW : ClassId) (vW : List Value) (w_WIRE_TYPES : Addr) (h0 : Heap) (n0 : Nat) (v : Option Value) (h : Heap) (L : List Loc) : Prop := v = none ∧ Fr n0 L ∧ Keep h0 h [r0] ∧ Exa Z h r0 "com/example/fillwire/fillwire/codec/ProtoReader" ∧ Fld Z h r0 "com/example/fillwire/fillwire/codec/ProtoReader" "bytes" "[B" (.ref ba) ∧ Fld Z h r0 "com/example/fillwire/fillwire/codec/ProtoReader" "position" "I" (.int (vpo pp (kv + 1))) ∧ Fld Z h r0 "com/example/fillwire/fillwire/codec/ProtoReader" "end" "I" (.int en) ∧ Fld Z h r0 "com/example/fillwire/fillwire/codec/ProtoReader" "field" "I" (.int ((((vac fv (kv + 1)).toUInt64 >>> ((3 : Int32) &&& 0x3f).toInt64.toUInt64).toInt64).toInt32)) ∧ Fld Z h r0 "com/example/fillwire/fillwire/codec/ProtoReader" "wireType" "I" (.int (((vac fv (kv + 1)).toInt32) &&& (7 : Int32)))
set_option maxRecDepth 65536 in
set_option maxHeartbeats 40000000 in
theorem rm14 (l : Launch) (Z : State) (a0 : Array Value) (hw : ∀ d ∈ tables_1, d.before a0 Z = true) (ws : List Jvm.Cond) (r0 : Addr) (p1 : Int32) (ba : Addr) (pp : Int32) (en : Int32) (ff : Int32) (wt : Int32) (kA : ClassId) (vs : List Value) (fv : Nat → Int32) (kv : Nat) (kW : ClassId) (vW : List Value) (w_WIRE_TYPES : Addr) (h0 : Heap) (n0 : Nat) (O0 : Old Z n0 h0) (E_r0 : Exa Z h0 r0 "com/example/fillwire/fillwire/codec/ProtoReader") (F_bytes_r0 : Fld Z h0 r0 "com/example/fillwire/fillwire/codec/ProtoReader" "bytes" "[B" (.ref ba)) (F_position_r0 : Fld Z h0 r0 "com/example/fillwire/fillwire/codec/ProtoReader" "position" "I" (.int pp)) (F_end_r0 : Fld Z h0 r0 "com/example/fillwire/fillwire/codec/ProtoReader" "end" "I" (.int en)) (F_field_r0 : Fld Z h0 r0 "com/example/fillwire/fillwire/codec/ProtoReader" "field" "I" (.int ff)) (F_wireType_r0 : Fld Z h0 r0 "com/example/fillwire/fillwire/codec/ProtoReader" "wireType" "I" (.int wt)) (A_ba : Oar Z h0 ba kA .byte vs) (g_r0 : n0 ≤ r0) (N_ba_r0 : ba ≠ r0) (hk : kv ≤ 9) (hcn : ∀ i, i < kv → fv i < 0) (hln : ¬ fv kv < 0) (h9 : kv = 9 → ¬ (1 : Int32) < fv kv) (hp0 : 0 ≤ pp.toInt) (hp1 : pp.toInt < 2000000000) (hvs : ∀ i, i ≤ kv → vs[pp.toInt.toNat + i]? = some (Value.int (fv i))) (hne : ∀ i, i ≤ kv → ¬ vpo pp i = en) (hn0 : ¬ (((vac fv (kv + 1)).toUInt64 >>> ((3 : Int32) &&& 0x3f).toInt64.toUInt64).toInt64) = (0 : Int64)) (hnq : ¬ (536870911 : Int64) < (((vac fv (kv + 1)).toUInt64 >>> ((3 : Int32) &&& 0x3f).toInt64.toUInt64).toInt64)) (hwt : (((vac fv (kv + 1)).toInt32) &&& (7 : Int32)) < (6 : Int32)) (hW6 : vW.length = 6) (hdep : ¬ (64 : Int32) < p1) (hw4 : (((vac fv (kv + 1)).toInt32) &&& (7 : Int32)) = (4 : Int32)) (hgf : ((((vac fv (kv + 1)).toUInt64 >>> ((3 : Int32) &&& 0x3f).toInt64.toUInt64).toInt64).toInt32) = ff) (A_w_WIRE_TYPES : Oar Z Z.heap w_WIRE_TYPES kW (.object "java/lang/String") vW) (S_WIRE_TYPES : Sta Z Z.heap "com/example/fillwire/fillwire/codec/ProtoReader" "WIRE_TYPES" "[Ljava/lang/String;" (.ref w_WIRE_TYPES)) :
    MetFree l (⟨"com/example/fillwire/fillwire/codec/ProtoReader", "skipGroup", "(I)V"⟩ : MethodName) (head1 (Jvm.Cond.code (⟨"com/example/fillwire/fillwire/codec/ProtoReader", "skipGroup", "(I)V"⟩ : MethodName) prog_34_method_13_code 3 none :: ws) ({ frames := 2, cells := 0, slots := 0, locals := 32 } : Room)) (fun a U => a = #[(.ref r0), (.int p1)] ∧ Z.Warmed39 U.vm ∧ U.heap = h0) (fun _ _ _ _ _ => True) (fun _ U o U' => ∃ v L, o = .returned v ∧ Qrm14 Z r0 p1 ba pp en ff wt kA vs fv kv kW vW w_WIRE_TYPES h0 n0 v U'.heap L ∧ FrameEnd U o U' L ({ frames := 2, cells := 0, slots := 0, locals := 32 } : Room).cells ({ frames := 2, cells := 0, slots := 0, locals := 32 } : Room).slots) := by
  refine MetFree.of_bodySF (plainFor_of_name pn_com_example_fillwire_fillwire_codec_ProtoReader) hisR ?_
  intro p e s m args below meth c s₁ Bd hml0 hP hK
  obtain ⟨rfl, hZ, hh⟩ := hP
  have hx := Bd.exec
  have hby := Bd.bytes
  have hml : c.maxLocals = 3 := hml0
  have hown : s.vm.findClass "com/example/fillwire/fillwire/codec/ProtoReader" = some m.cls := findClass_of_methodNamed Bd.named
  have hnm := (name_of_methodNamed Bd.named Bd.method).1
  have X0 : Stand p l e ({ frames := 2, cells := 0, slots := 0, locals := 32 } : Room) s m #[(.ref r0), (.int p1)] below meth c s₁ [] 0 0 := Stand.of_body Bd
  have e0 : s₁.heap = h0 := by rw [← hh, Bd.state]; rfl
  have N0 := Fr.nil n0
  show OFin p e below (fun o t L => FrameEnd s o t L ({ frames := 2, cells := 0, slots := 0, locals := 32 } : Room).cells ({ frames := 2, cells := 0, slots := 0, locals := 32 } : Room).slots) (fun v h L => Qrm14 Z r0 p1 ba pp en ff wt kA vs fv kv kW vW w_WIRE_TYPES h0 n0 v h L) s₁ (entryFrame m #[(.ref r0), (.int p1)] 3)
  refine OFin.cast (ef_rm14 m r0 p1) ?_
  show OFin p e below _ _ s₁ (mkF m 0 #[.val (.ref r0), .val (.int p1), .unset] [])
  refine OFin.st (fun t k => XS.aloadN X0.here hx rfl (hb hby d14_0) rfl rfl k) ?_
  show OFin p e below _ _ s₁ (mkF m 1 #[.val (.ref r0), .val (.int p1), .unset] [(.ref r0)])
  obtain ⟨T1, X1, e1, st1⟩ := getF X0 hx hZ hown (host := "") (Or.inl (hw _ (List.mem_of_getElem? (i := 56) rfl))) Via.refl e0 F_field_r0 (g := (mkF m 1 #[.val (.ref r0), .val (.int p1), .unset] [(.ref r0)])) rfl rfl (hb hby d14_1)
  refine OFin.st st1 ?_
  show OFin p e below _ _ T1 (mkF m 4 #[.val (.ref r0), .val (.int p1), .unset] [(.int ff)])
  refine OFin.st (fun t k => XS.istoreN X1.here hx rfl (hb hby d14_4) rfl (l' := #[.val (.ref r0), .val (.int p1), .val (.int ff)]) rfl k) ?_
  show OFin p e below _ _ T1 (mkF m 5 #[.val (.ref r0), .val (.int p1), .val (.int ff)] [])
  refine OFin.st (fun t k => XS.iloadN X1.here hx rfl (hb hby d14_5) rfl k) ?_
  show OFin p e below _ _ T1 (mkF m 6 #[.val (.ref r0), .val (.int p1), .val (.int ff)] [(.int p1)])
  refine OFin.st (fun t k => XS.bipush X1.here hx rfl (hb hby d14_6) k) ?_
  show OFin p e below _ _ T1 (mkF m 8 #[.val (.ref r0), .val (.int p1), .val (.int ff)] [(.int (64 : Int32)), (.int p1)])
  refine OFin.st (fun t k => XS.icmpYes X1.here hx rfl (pc0 := 8) (pc' := 22) rfl (hb hby d14_8) rfl (flt hdep).2.2.2 (by decide) (by decide) k) ?_
  show OFin p e below _ _ T1 (mkF m 22 #[.val (.ref r0), .val (.int p1), .val (.int ff)] [])
  refine OFin.st (fun t k => XS.aloadN X1.here hx rfl (hb hby d14_22) rfl rfl k) ?_
  show OFin p e below _ _ T1 (mkF m 23 #[.val (.ref r0), .val (.int p1), .val (.int ff)] [(.ref r0)])
  obtain ⟨T2, X2, e2, st2⟩ := getF X1 hx hZ hown (host := "") (Or.inl (hw _ (List.mem_of_getElem? (i := 22) rfl))) Via.refl e1 F_position_r0 (g := (mkF m 23 #[.val (.ref r0), .val (.int p1), .val (.int ff)] [(.ref r0)])) rfl rfl (hb hby d14_23)
  refine OFin.st st2 ?_
  show OFin p e below _ _ T2 (mkF m 26 #[.val (.ref r0), .val (.int p1), .val (.int ff)] [(.int pp)])
  refine OFin.st (fun t k => XS.aloadN X2.here hx rfl (hb hby d14_26) rfl rfl k) ?_
  show OFin p e below _ _ T2 (mkF m 27 #[.val (.ref r0), .val (.int p1), .val (.int ff)] [(.ref r0), (.int pp)])
  obtain ⟨T3, X3, e3, st3⟩ := getF X2 hx hZ hown (host := "") (Or.inl (hw _ (List.mem_of_getElem? (i := 24) rfl))) Via.refl e2 F_end_r0 (g := (mkF m 27 #[.val (.ref r0), .val (.int p1), .val (.int ff)] [(.ref r0), (.int pp)])) rfl rfl (hb hby d14_27)
  refine OFin.st st3 ?_
  show OFin p e below _ _ T3 (mkF m 30 #[.val (.ref r0), .val (.int p1), .val (.int ff)] [(.int en), (.int pp)])
  refine OFin.st (fun t k => XS.icmpYes X3.here hx rfl (pc0 := 30) (pc' := 44) rfl (hb hby d14_30) rfl (feq (hne 0 (Nat.zero_le _))).2 (by decide) (by decide) k) ?_
  show OFin p e below _ _ T3 (mkF m 44 #[.val (.ref r0), .val (.int p1), .val (.int ff)] [])
  refine OFin.st (fun t k => XS.aloadN X3.here hx rfl (hb hby d14_44) rfl rfl k) ?_
  show OFin p e below _ _ T3 (mkF m 45 #[.val (.ref r0), .val (.int p1), .val (.int ff)] [(.ref r0)])
  obtain ⟨cq4, q4, q4'⟩ := E_r0.cell
  obtain ⟨_, _, ⟨T4, L4, k4, n4⟩, -, X4, ⟨Lc4, hQ4, l4, y4, z4⟩, st4⟩ := X3.privateBack hx (y := (⟨"com/example/fillwire/fillwire/codec/ProtoReader", "readKey", "()V"⟩ : MethodName)) hown (mvT hZ (hw _ (List.mem_of_getElem? (i := 52) rfl))) (mvT hZ (hw _ (List.mem_of_getElem? (i := 53) rfl))) (own_selP hZ (hw _ (List.mem_of_getElem? (i := 1) rfl)) (hw _ (List.mem_of_getElem? (i := 54) rfl)) (hw _ (List.mem_of_getElem? (i := 53) rfl)) (by decide)) (Cond.privateMethod_at (mvP hZ (hw _ (List.mem_of_getElem? (i := 54) rfl)) (args := #[]))) (mvT hZ (hw _ (List.mem_of_getElem? (i := 55) rfl))) (by decide) (backOf (W := 0) (rm9 l Z a0 hw [] r0 ba pp en ff wt kA vs fv kv kW vW w_WIRE_TYPES h0 n0 O0 E_r0 F_bytes_r0 F_position_r0 F_end_r0 F_field_r0 F_wireType_r0 A_ba g_r0 N_ba_r0 (hk : kv ≤ 9) (hcn : ∀ i, i < kv → fv i < 0) (hln : ¬ fv kv < 0) (h9 : kv = 9 → ¬ (1 : Int32) < fv kv) (hp0 : 0 ≤ pp.toInt) (hp1 : pp.toInt < 2000000000) (hvs : ∀ i, i ≤ kv → vs[pp.toInt.toNat + i]? = some (Value.int (fv i))) (hne : ∀ i, i ≤ kv → ¬ vpo pp i = en) (hn0 : ¬ (((vac fv (kv + 1)).toUInt64 >>> ((3 : Int32) &&& 0x3f).toInt64.toUInt64).toInt64) = (0 : Int64)) (hnq : ¬ (536870911 : Int64) < (((vac fv (kv + 1)).toUInt64 >>> ((3 : Int32) &&& 0x3f).toInt64.toUInt64).toInt64)) (hwt : (((vac fv (kv + 1)).toInt32) &&& (7 : Int32)) < (6 : Int32)) (hW6 : vW.length = 6) A_w_WIRE_TYPES S_WIRE_TYPES) hZ (hw _ (List.mem_of_getElem? (i := 55) rfl)) (hw _ (List.mem_of_getElem? (i := 2) rfl)) (by decide) (by decide)) (g := (mkF m 45 #[.val (.ref r0), .val (.int p1), .val (.int ff)] [(.ref r0)])) rfl (by rw [hml]; rfl) (Steps.refl _) (a := r0) (by rw [e3]; exact q4) q4' (argsL := []) (rest := []) (lenOf pd_2 rfl) rfl (by show 2 * 0 + _ ≤ _; exact Nat.le_of_eq rfl) (hb hby d14_45) (fun _ _ => ⟨rfl, e3, (by decide : 0 + 0 ≤ _), (by decide : 0 + 0 ≤ _)⟩)
  dsimp only [Pt.U, Pt.locs, Pt.cells, Pt.slots] at X4 l4 y4 z4 st4 hQ4
  subst l4 y4 z4
  obtain ⟨rfl, N4q, K4q, P4_0, P4_1, P4_2, P4_3, P4_4, P4_5⟩ := hQ4
  have N4 := Fr.app N0 N4q
  have K4 : Keep h0 T4.heap [r0] := (Keep.refl h0 [r0]).trans K4q (allS (Or.inl (List.mem_of_getElem? (i := 0) rfl)) all0)
  have O4 : Old Z n0 T4.heap := O0.keep K4q (allS g_r0 all0)
  refine OFin.tr st4 ?_
  show OFin p e below _ _ T4 (mkF m 48 #[.val (.ref r0), .val (.int p1), .val (.int ff)] [])
  refine OFin.st (fun t k => XS.aloadN X4.here hx rfl (hb hby d14_48) rfl rfl k) ?_
  show OFin p e below _ _ T4 (mkF m 49 #[.val (.ref r0), .val (.int p1), .val (.int ff)] [(.ref r0)])
  obtain ⟨T5, X5, e5, st5⟩ := getF X4 hx hZ hown (host := "") (Or.inl (hw _ (List.mem_of_getElem? (i := 63) rfl))) Via.refl rfl P4_5 (g := (mkF m 49 #[.val (.ref r0), .val (.int p1), .val (.int ff)] [(.ref r0)])) rfl rfl (hb hby d14_49)
  refine OFin.st st5 ?_
  show OFin p e below _ _ T5 (mkF m 52 #[.val (.ref r0), .val (.int p1), .val (.int ff)] [(.int (((vac fv (kv + 1)).toInt32) &&& (7 : Int32)))])
  refine OFin.st (fun t k => XS.iconst X5.here hx rfl (hb hby d14_52) k) ?_
  show OFin p e below _ _ T5 (mkF m 53 #[.val (.ref r0), .val (.int p1), .val (.int ff)] [(.int (4 : Int32)), (.int (((vac fv (kv + 1)).toInt32) &&& (7 : Int32)))])
  refine OFin.st (fun t k => XS.icmpNo X5.here hx rfl (hb hby d14_53) rfl (teq hw4).2 k) ?_
  show OFin p e below _ _ T5 (mkF m 56 #[.val (.ref r0), .val (.int p1), .val (.int ff)] [])
  refine OFin.st (fun t k => XS.aloadN X5.here hx rfl (hb hby d14_56) rfl rfl k) ?_
  show OFin p e below _ _ T5 (mkF m 57 #[.val (.ref r0), .val (.int p1), .val (.int ff)] [(.ref r0)])
  obtain ⟨T6, X6, e6, st6⟩ := getF X5 hx hZ hown (host := "") (Or.inl (hw _ (List.mem_of_getElem? (i := 56) rfl))) Via.refl e5 P4_4 (g := (mkF m 57 #[.val (.ref r0), .val (.int p1), .val (.int ff)] [(.ref r0)])) rfl rfl (hb hby d14_57)
  refine OFin.st st6 ?_
  show OFin p e below _ _ T6 (mkF m 60 #[.val (.ref r0), .val (.int p1), .val (.int ff)] [(.int ((((vac fv (kv + 1)).toUInt64 >>> ((3 : Int32) &&& 0x3f).toInt64.toUInt64).toInt64).toInt32))])
  refine OFin.st (fun t k => XS.iloadN X6.here hx rfl (hb hby d14_60) rfl k) ?_
  show OFin p e below _ _ T6 (mkF m 61 #[.val (.ref r0), .val (.int p1), .val (.int ff)] [(.int ff), (.int ((((vac fv (kv + 1)).toUInt64 >>> ((3 : Int32) &&& 0x3f).toInt64.toUInt64).toInt64).toInt32))])
  refine OFin.st (fun t k => XS.icmpYes X6.here hx rfl (pc0 := 61) (pc' := 79) rfl (hb hby d14_61) rfl (teq hgf).1 (by decide) (by decide) k) ?_
  show OFin p e below _ _ T6 (mkF m 79 #[.val (.ref r0), .val (.int p1), .val (.int ff)] [])
  exact own_retV X6 hx Bd.returns Bd.notSynchronized (hb hby d14_79) (by show Qrm14 Z r0 p1 ba pp en ff wt kA vs fv kv kW vW w_WIRE_TYPES h0 n0 _ T6.heap _; rw [e6]; exact ⟨rfl, N4, K4, P4_0, P4_1, P4_2, P4_3, P4_4, P4_5⟩) (own_endN (by decide) (by decide))
theorem ef_rm13t0 (m : MethodId) (r0 : Addr) : entryFrame m #[(.ref r0), (.int (0 : Int32))] 2 = mkF m 0 #[.val (.ref r0), .val (.int (0 : Int32))] [] := by first | (simp [entryFrame, mkF, argsToLocals, Value.category]; done) | rfl
def Qrm13t0 (Z : State) (r0 : Addr) (ba : Addr) (pp : Int32) (en : Int32) (ff : Int32) (kA : ClassId) (vs : List Value) (fv : Nat → Int32) (kv : Nat) (h0 : Heap) (n0 : Nat) (v : Option Value) (h : Heap) (L : List Loc) : Prop := v = none ∧ Fr n0 L ∧ Keep h0 h [r0] ∧ Exa Z h r0 "com/example/fillwire/fillwire/codec/ProtoReader" ∧ Fld Z h r0 "com/example/fillwire/fillwire/codec/ProtoReader" "bytes" "[B" (.ref ba) ∧ Fld Z h r0 "com/example/fillwire/fillwire/codec/ProtoReader" "position" "I" (.int (vpo pp (kv + 1))) ∧ Fld Z h r0 "com/example/fillwire/fillwire/codec/ProtoReader" "end" "I" (.int en) ∧ Fld Z h r0 "com/example/fillwire/fillwire/codec/ProtoReader" "field" "I" (.int ff) ∧ Fld Z h r0 "com/example/fillwire/fillwire/codec/ProtoReader" "wireType" "I" (.int (0 : Int32))
set_option maxRecDepth 65536 in
set_option maxHeartbeats 40000000 in
theorem rm13t0 (l : Launch) (Z : State) (a0 : Array Value) (hw : ∀ d ∈ tables_1, d.before a0 Z = true) (ws : List Jvm.Cond) (r0 : Addr) (ba : Addr) (pp : Int32) (en : Int32) (ff : Int32) (kA : ClassId) (vs : List Value) (fv : Nat → Int32) (kv : Nat) (h0 : Heap) (n0 : Nat) (O0 : Old Z n0 h0) (E_r0 : Exa Z h0 r0 "com/example/fillwire/fillwire/codec/ProtoReader") (F_bytes_r0 : Fld Z h0 r0 "com/example/fillwire/fillwire/codec/ProtoReader" "bytes" "[B" (.ref ba)) (F_position_r0 : Fld Z h0 r0 "com/example/fillwire/fillwire/codec/ProtoReader" "position" "I" (.int pp)) (F_end_r0 : Fld Z h0 r0 "com/example/fillwire/fillwire/codec/ProtoReader" "end" "I" (.int en)) (F_field_r0 : Fld Z h0 r0 "com/example/fillwire/fillwire/codec/ProtoReader" "field" "I" (.int ff)) (F_wireType_r0 : Fld Z h0 r0 "com/example/fillwire/fillwire/codec/ProtoReader" "wireType" "I" (.int (0 : Int32))) (A_ba : Oar Z h0 ba kA .byte vs) (g_r0 : n0 ≤ r0) (N_ba_r0 : ba ≠ r0) (hk : kv ≤ 9) (hcn : ∀ i, i < kv → fv i < 0) (hln : ¬ fv kv < 0) (h9 : kv = 9 → ¬ (1 : Int32) < fv kv) (hp0 : 0 ≤ pp.toInt) (hp1 : pp.toInt < 2000000000) (hvs : ∀ i, i ≤ kv → vs[pp.toInt.toNat + i]? = some (Value.int (fv i))) (hne : ∀ i, i ≤ kv → ¬ vpo pp i = en) :
    MetFree l (⟨"com/example/fillwire/fillwire/codec/ProtoReader", "skipValue", "(I)V"⟩ : MethodName) (head1 (Jvm.Cond.code (⟨"com/example/fillwire/fillwire/codec/ProtoReader", "skipValue", "(I)V"⟩ : MethodName) prog_34_method_12_code 2 none :: ws) ({ frames := 1, cells := 0, slots := 0, locals := 16 } : Room)) (fun a U => a = #[(.ref r0), (.int (0 : Int32))] ∧ Z.Warmed39 U.vm ∧ U.heap = h0) (fun _ _ _ _ _ => True) (fun _ U o U' => ∃ v L, o = .returned v ∧ Qrm13t0 Z r0 ba pp en ff kA vs fv kv h0 n0 v U'.heap L ∧ FrameEnd U o U' L ({ frames := 1, cells := 0, slots := 0, locals := 16 } : Room).cells ({ frames := 1, cells := 0, slots := 0, locals := 16 } : Room).slots) := by
  refine MetFree.of_bodySF (plainFor_of_name pn_com_example_fillwire_fillwire_codec_ProtoReader) hisR ?_
  intro p e s m args below meth c s₁ Bd hml0 hP hK
  obtain ⟨rfl, hZ, hh⟩ := hP
  have hx := Bd.exec
  have hby := Bd.bytes
  have hml : c.maxLocals = 2 := hml0
  have hown : s.vm.findClass "com/example/fillwire/fillwire/codec/ProtoReader" = some m.cls := findClass_of_methodNamed Bd.named
  have hnm := (name_of_methodNamed Bd.named Bd.method).1
  have X0 : Stand p l e ({ frames := 1, cells := 0, slots := 0, locals := 16 } : Room) s m #[(.ref r0), (.int (0 : Int32))] below meth c s₁ [] 0 0 := Stand.of_body Bd
  have e0 : s₁.heap = h0 := by rw [← hh, Bd.state]; rfl
  have N0 := Fr.nil n0
  show OFin p e below (fun o t L => FrameEnd s o t L ({ frames := 1, cells := 0, slots := 0, locals := 16 } : Room).cells ({ frames := 1, cells := 0, slots := 0, locals := 16 } : Room).slots) (fun v h L => Qrm13t0 Z r0 ba pp en ff kA vs fv kv h0 n0 v h L) s₁ (entryFrame m #[(.ref r0), (.int (0 : Int32))] 2)
  refine OFin.cast (ef_rm13t0 m r0) ?_
  show OFin p e below _ _ s₁ (mkF m 0 #[.val (.ref r0), .val (.int (0 : Int32))] [])
  refine OFin.st (fun t k => XS.aloadN X0.here hx rfl (hb hby d13_0) rfl rfl k) ?_
  show OFin p e below _ _ s₁ (mkF m 1 #[.val (.ref r0), .val (.int (0 : Int32))] [(.ref r0)])
  obtain ⟨T1, X1, e1, st1⟩ := getF X0 hx hZ hown (host := "") (Or.inl (hw _ (List.mem_of_getElem? (i := 63) rfl))) Via.refl e0 F_wireType_r0 (g := (mkF m 1 #[.val (.ref r0), .val (.int (0 : Int32))] [(.ref r0)])) rfl rfl (hb hby d13_1)
  refine OFin.st st1 ?_
  show OFin p e below _ _ T1 (mkF m 4 #[.val (.ref r0), .val (.int (0 : Int32))] [(.int (0 : Int32))])
  refine OFin.st (fun t k => XS.tswIn X1.here hx rfl (pc0 := 4) (pc' := 44) rfl (hb hby d13_4) rfl (by decide) (o := 40) rfl (by decide) (by decide) k) ?_
  show OFin p e below _ _ T1 (mkF m 44 #[.val (.ref r0), .val (.int (0 : Int32))] [])
  refine OFin.st (fun t k => XS.aloadN X1.here hx rfl (hb hby d13_44) rfl rfl k) ?_
  show OFin p e below _ _ T1 (mkF m 45 #[.val (.ref r0), .val (.int (0 : Int32))] [(.ref r0)])
  obtain ⟨cq2, q2, q2'⟩ := E_r0.cell
  obtain ⟨_, _, ⟨T2, L2, k2, n2⟩, -, X2, ⟨Lc2, hQ2, l2, y2, z2⟩, st2⟩ := X1.privateBack hx (y := (⟨"com/example/fillwire/fillwire/codec/ProtoReader", "readVarint", "()J"⟩ : MethodName)) hown (mvT hZ (hw _ (List.mem_of_getElem? (i := 58) rfl))) (mvT hZ (hw _ (List.mem_of_getElem? (i := 59) rfl))) (own_selP hZ (hw _ (List.mem_of_getElem? (i := 1) rfl)) (hw _ (List.mem_of_getElem? (i := 60) rfl)) (hw _ (List.mem_of_getElem? (i := 59) rfl)) (by decide)) (Cond.privateMethod_at (mvP hZ (hw _ (List.mem_of_getElem? (i := 60) rfl)) (args := #[]))) (mvT hZ (hw _ (List.mem_of_getElem? (i := 61) rfl))) (by decide) (backOf (W := 0) (rm10 l Z a0 hw [] r0 ba pp en ff (0 : Int32) kA vs fv kv h0 n0 O0 E_r0 F_bytes_r0 F_position_r0 F_end_r0 F_field_r0 F_wireType_r0 A_ba g_r0 N_ba_r0 (hk : kv ≤ 9) (hcn : ∀ i, i < kv → fv i < 0) (hln : ¬ fv kv < 0) (h9 : kv = 9 → ¬ (1 : Int32) < fv kv) (hp0 : 0 ≤ pp.toInt) (hp1 : pp.toInt < 2000000000) (hvs : ∀ i, i ≤ kv → vs[pp.toInt.toNat + i]? = some (Value.int (fv i))) (hne : ∀ i, i ≤ kv → ¬ vpo pp i = en)) hZ (hw _ (List.mem_of_getElem? (i := 61) rfl)) (hw _ (List.mem_of_getElem? (i := 2) rfl)) (by decide) (by decide)) (g := (mkF m 45 #[.val (.ref r0), .val (.int (0 : Int32))] [(.ref r0)])) rfl (by rw [hml]; rfl) (Steps.refl _) (a := r0) (by rw [e1]; exact q2) q2' (argsL := []) (rest := []) (lenOf pd_1 rfl) rfl (by show 2 * 0 + _ ≤ _; exact Nat.le_of_eq rfl) (hb hby d13_45) (fun _ _ => ⟨rfl, e1, (by decide : 0 + 0 ≤ _), (by decide : 0 + 0 ≤ _)⟩)
  dsimp only [Pt.U, Pt.locs, Pt.cells, Pt.slots] at X2 l2 y2 z2 st2 hQ2
  subst l2 y2 z2
  obtain ⟨rfl, N2q, K2q, P2_0, P2_1, P2_2, P2_3, P2_4, P2_5⟩ := hQ2
  have N2 := Fr.app N0 N2q
  have K2 : Keep h0 T2.heap [r0] := (Keep.refl h0 [r0]).trans K2q (allS (Or.inl (List.mem_of_getElem? (i := 0) rfl)) all0)
  have O2 : Old Z n0 T2.heap := O0.keep K2q (allS g_r0 all0)
  refine OFin.tr st2 ?_
  show OFin p e below _ _ T2 (mkF m 48 #[.val (.ref r0), .val (.int (0 : Int32))] [(.long (vac fv (kv + 1)))])
  refine OFin.st (fun t k => own_pop2L X2 hx rfl (hb hby d13_48) rfl k) ?_
  show OFin p e below _ _ T2 (mkF m 49 #[.val (.ref r0), .val (.int (0 : Int32))] [])
  refine OFin.st (fun t k => XS.goto X2.here hx rfl (pc0 := 49) (pc' := 87) rfl (hb hby d13_49) (by decide) (by decide) k) ?_
  show OFin p e below _ _ T2 (mkF m 87 #[.val (.ref r0), .val (.int (0 : Int32))] [])
  exact own_retV X2 hx Bd.returns Bd.notSynchronized (hb hby d13_87) (by show Qrm13t0 Z r0 ba pp en ff kA vs fv kv h0 n0 _ T2.heap _; exact ⟨rfl, N2, K2, P2_0, P2_1, P2_2, P2_3, P2_4, P2_5⟩) (own_endN (by decide) (by decide))
theorem ef_rm12t0 (m : MethodId) (r0 : Addr) : entryFrame m #[(.ref r0)] 1 = mkF m 0 #[.val (.ref r0)] [] := by first | (simp [entryFrame, mkF, argsToLocals, Value.category]; done) | rfl
def Qrm12t0 (Z : State) (r0 : Addr) (ba : Addr) (pp : Int32) (en : Int32) (ff : Int32) (kA : ClassId) (vs : List Value) (fv : Nat → Int32) (kv : Nat) (h0 : Heap) (n0 : Nat) (v : Option Value) (h : Heap) (L : List Loc) : Prop := v = none ∧ Fr n0 L ∧ Keep h0 h [r0] ∧ Exa Z h r0 "com/example/fillwire/fillwire/codec/ProtoReader" ∧ Fld Z h r0 "com/example/fillwire/fillwire/codec/ProtoReader" "bytes" "[B" (.ref ba) ∧ Fld Z h r0 "com/example/fillwire/fillwire/codec/ProtoReader" "position" "I" (.int (vpo pp (kv + 1))) ∧ Fld Z h r0 "com/example/fillwire/fillwire/codec/ProtoReader" "end" "I" (.int en) ∧ Fld Z h r0 "com/example/fillwire/fillwire/codec/ProtoReader" "field" "I" (.int ff) ∧ Fld Z h r0 "com/example/fillwire/fillwire/codec/ProtoReader" "wireType" "I" (.int (0 : Int32))
set_option maxRecDepth 65536 in
set_option maxHeartbeats 40000000 in
theorem rm12t0 (l : Launch) (Z : State) (a0 : Array Value) (hw : ∀ d ∈ tables_1, d.before a0 Z = true) (ws : List Jvm.Cond) (r0 : Addr) (ba : Addr) (pp : Int32) (en : Int32) (ff : Int32) (kA : ClassId) (vs : List Value) (fv : Nat → Int32) (kv : Nat) (h0 : Heap) (n0 : Nat) (O0 : Old Z n0 h0) (E_r0 : Exa Z h0 r0 "com/example/fillwire/fillwire/codec/ProtoReader") (F_bytes_r0 : Fld Z h0 r0 "com/example/fillwire/fillwire/codec/ProtoReader" "bytes" "[B" (.ref ba)) (F_position_r0 : Fld Z h0 r0 "com/example/fillwire/fillwire/codec/ProtoReader" "position" "I" (.int pp)) (F_end_r0 : Fld Z h0 r0 "com/example/fillwire/fillwire/codec/ProtoReader" "end" "I" (.int en)) (F_field_r0 : Fld Z h0 r0 "com/example/fillwire/fillwire/codec/ProtoReader" "field" "I" (.int ff)) (F_wireType_r0 : Fld Z h0 r0 "com/example/fillwire/fillwire/codec/ProtoReader" "wireType" "I" (.int (0 : Int32))) (A_ba : Oar Z h0 ba kA .byte vs) (g_r0 : n0 ≤ r0) (N_ba_r0 : ba ≠ r0) (hk : kv ≤ 9) (hcn : ∀ i, i < kv → fv i < 0) (hln : ¬ fv kv < 0) (h9 : kv = 9 → ¬ (1 : Int32) < fv kv) (hp0 : 0 ≤ pp.toInt) (hp1 : pp.toInt < 2000000000) (hvs : ∀ i, i ≤ kv → vs[pp.toInt.toNat + i]? = some (Value.int (fv i))) (hne : ∀ i, i ≤ kv → ¬ vpo pp i = en) :
    MetFree l (⟨"com/example/fillwire/fillwire/codec/ProtoReader", "skip", "()V"⟩ : MethodName) (head1 (Jvm.Cond.code (⟨"com/example/fillwire/fillwire/codec/ProtoReader", "skip", "()V"⟩ : MethodName) prog_34_method_11_code 1 none :: ws) ({ frames := 2, cells := 0, slots := 0, locals := 29 } : Room)) (fun a U => a = #[(.ref r0)] ∧ Z.Warmed39 U.vm ∧ U.heap = h0) (fun _ _ _ _ _ => True) (fun _ U o U' => ∃ v L, o = .returned v ∧ Qrm12t0 Z r0 ba pp en ff kA vs fv kv h0 n0 v U'.heap L ∧ FrameEnd U o U' L ({ frames := 2, cells := 0, slots := 0, locals := 29 } : Room).cells ({ frames := 2, cells := 0, slots := 0, locals := 29 } : Room).slots) := by
  refine MetFree.of_bodySF (plainFor_of_name pn_com_example_fillwire_fillwire_codec_ProtoReader) hisR ?_
  intro p e s m args below meth c s₁ Bd hml0 hP hK
  obtain ⟨rfl, hZ, hh⟩ := hP
  have hx := Bd.exec
  have hby := Bd.bytes
  have hml : c.maxLocals = 1 := hml0
  have hown : s.vm.findClass "com/example/fillwire/fillwire/codec/ProtoReader" = some m.cls := findClass_of_methodNamed Bd.named
  have hnm := (name_of_methodNamed Bd.named Bd.method).1
  have X0 : Stand p l e ({ frames := 2, cells := 0, slots := 0, locals := 29 } : Room) s m #[(.ref r0)] below meth c s₁ [] 0 0 := Stand.of_body Bd
  have e0 : s₁.heap = h0 := by rw [← hh, Bd.state]; rfl
  have N0 := Fr.nil n0
  show OFin p e below (fun o t L => FrameEnd s o t L ({ frames := 2, cells := 0, slots := 0, locals := 29 } : Room).cells ({ frames := 2, cells := 0, slots := 0, locals := 29 } : Room).slots) (fun v h L => Qrm12t0 Z r0 ba pp en ff kA vs fv kv h0 n0 v h L) s₁ (entryFrame m #[(.ref r0)] 1)
  refine OFin.cast (ef_rm12t0 m r0) ?_
  show OFin p e below _ _ s₁ (mkF m 0 #[.val (.ref r0)] [])
  refine OFin.st (fun t k => XS.aloadN X0.here hx rfl (hb hby d12_0) rfl rfl k) ?_
  show OFin p e below _ _ s₁ (mkF m 1 #[.val (.ref r0)] [(.ref r0)])
  refine OFin.st (fun t k => XS.iconst X0.here hx rfl (hb hby d12_1) k) ?_
  show OFin p e below _ _ s₁ (mkF m 2 #[.val (.ref r0)] [(.int (0 : Int32)), (.ref r0)])
  obtain ⟨cq1, q1, q1'⟩ := E_r0.cell
  obtain ⟨_, _, ⟨T1, L1, k1, n1⟩, -, X1, ⟨Lc1, hQ1, l1, y1, z1⟩, st1⟩ := X0.privateBack hx (y := (⟨"com/example/fillwire/fillwire/codec/ProtoReader", "skipValue", "(I)V"⟩ : MethodName)) hown (mvT hZ (hw _ (List.mem_of_getElem? (i := 77) rfl))) (mvT hZ (hw _ (List.mem_of_getElem? (i := 78) rfl))) (own_selP hZ (hw _ (List.mem_of_getElem? (i := 1) rfl)) (hw _ (List.mem_of_getElem? (i := 79) rfl)) (hw _ (List.mem_of_getElem? (i := 78) rfl)) (by decide)) (Cond.privateMethod_at (mvP hZ (hw _ (List.mem_of_getElem? (i := 79) rfl)) (args := #[]))) (mvT hZ (hw _ (List.mem_of_getElem? (i := 80) rfl))) (by decide) (backOf (W := 0) (rm13t0 l Z a0 hw [] r0 ba pp en ff kA vs fv kv h0 n0 O0 E_r0 F_bytes_r0 F_position_r0 F_end_r0 F_field_r0 F_wireType_r0 A_ba g_r0 N_ba_r0 (hk : kv ≤ 9) (hcn : ∀ i, i < kv → fv i < 0) (hln : ¬ fv kv < 0) (h9 : kv = 9 → ¬ (1 : Int32) < fv kv) (hp0 : 0 ≤ pp.toInt) (hp1 : pp.toInt < 2000000000) (hvs : ∀ i, i ≤ kv → vs[pp.toInt.toNat + i]? = some (Value.int (fv i))) (hne : ∀ i, i ≤ kv → ¬ vpo pp i = en)) hZ (hw _ (List.mem_of_getElem? (i := 80) rfl)) (hw _ (List.mem_of_getElem? (i := 2) rfl)) (by decide) (by decide)) (g := (mkF m 2 #[.val (.ref r0)] [(.int (0 : Int32)), (.ref r0)])) rfl (by rw [hml]; rfl) (Steps.refl _) (a := r0) (by rw [e0]; exact q1) q1' (argsL := [(.int (0 : Int32))]) (rest := []) (lenOf pd_4 rfl) rfl (by show 2 * 0 + _ ≤ _; exact Nat.le_of_eq rfl) (hb hby d12_2) (fun _ _ => ⟨rfl, e0, (by decide : 0 + 0 ≤ _), (by decide : 0 + 0 ≤ _)⟩)
  dsimp only [Pt.U, Pt.locs, Pt.cells, Pt.slots] at X1 l1 y1 z1 st1 hQ1
  subst l1 y1 z1
  obtain ⟨rfl, N1q, K1q, P1_0, P1_1, P1_2, P1_3, P1_4, P1_5⟩ := hQ1
  have N1 := Fr.app N0 N1q
  have K1 : Keep h0 T1.heap [r0] := (Keep.refl h0 [r0]).trans K1q (allS (Or.inl (List.mem_of_getElem? (i := 0) rfl)) all0)
  have O1 : Old Z n0 T1.heap := O0.keep K1q (allS g_r0 all0)
  refine OFin.tr st1 ?_
  show OFin p e below _ _ T1 (mkF m 5 #[.val (.ref r0)] [])
  exact own_retV X1 hx Bd.returns Bd.notSynchronized (hb hby d12_5) (by show Qrm12t0 Z r0 ba pp en ff kA vs fv kv h0 n0 _ T1.heap _; exact ⟨rfl, N1, K1, P1_0, P1_1, P1_2, P1_3, P1_4, P1_5⟩) (own_endN (by decide) (by decide))
theorem ef_rm13t1 (m : MethodId) (r0 : Addr) : entryFrame m #[(.ref r0), (.int (0 : Int32))] 2 = mkF m 0 #[.val (.ref r0), .val (.int (0 : Int32))] [] := by first | (simp [entryFrame, mkF, argsToLocals, Value.category]; done) | rfl
def Qrm13t1 (Z : State) (r0 : Addr) (ba : Addr) (pp : Int32) (en : Int32) (ff : Int32) (kA : ClassId) (vs : List Value) (h0 : Heap) (n0 : Nat) (v : Option Value) (h : Heap) (L : List Loc) : Prop := v = none ∧ Fr n0 L ∧ Keep h0 h [r0] ∧ Exa Z h r0 "com/example/fillwire/fillwire/codec/ProtoReader" ∧ Fld Z h r0 "com/example/fillwire/fillwire/codec/ProtoReader" "bytes" "[B" (.ref ba) ∧ Fld Z h r0 "com/example/fillwire/fillwire/codec/ProtoReader" "position" "I" (.int (pp + (8 : Int32))) ∧ Fld Z h r0 "com/example/fillwire/fillwire/codec/ProtoReader" "end" "I" (.int en) ∧ Fld Z h r0 "com/example/fillwire/fillwire/codec/ProtoReader" "field" "I" (.int ff) ∧ Fld Z h r0 "com/example/fillwire/fillwire/codec/ProtoReader" "wireType" "I" (.int (1 : Int32))
set_option maxRecDepth 65536 in
set_option maxHeartbeats 40000000 in
theorem rm13t1 (l : Launch) (Z : State) (a0 : Array Value) (hw : ∀ d ∈ tables_1, d.before a0 Z = true) (ws : List Jvm.Cond) (r0 : Addr) (ba : Addr) (pp : Int32) (en : Int32) (ff : Int32) (kA : ClassId) (vs : List Value) (h0 : Heap) (n0 : Nat) (O0 : Old Z n0 h0) (E_r0 : Exa Z h0 r0 "com/example/fillwire/fillwire/codec/ProtoReader") (F_bytes_r0 : Fld Z h0 r0 "com/example/fillwire/fillwire/codec/ProtoReader" "bytes" "[B" (.ref ba)) (F_position_r0 : Fld Z h0 r0 "com/example/fillwire/fillwire/codec/ProtoReader" "position" "I" (.int pp)) (F_end_r0 : Fld Z h0 r0 "com/example/fillwire/fillwire/codec/ProtoReader" "end" "I" (.int en)) (F_field_r0 : Fld Z h0 r0 "com/example/fillwire/fillwire/codec/ProtoReader" "field" "I" (.int ff)) (F_wireType_r0 : Fld Z h0 r0 "com/example/fillwire/fillwire/codec/ProtoReader" "wireType" "I" (.int (1 : Int32))) (A_ba : Oar Z h0 ba kA .byte vs) (g_r0 : n0 ≤ r0) (N_ba_r0 : ba ≠ r0) (hadv : ¬ (en - pp) < (8 : Int32)) :
    MetFree l (⟨"com/example/fillwire/fillwire/codec/ProtoReader", "skipValue", "(I)V"⟩ : MethodName) (head1 (Jvm.Cond.code (⟨"com/example/fillwire/fillwire/codec/ProtoReader", "skipValue", "(I)V"⟩ : MethodName) prog_34_method_12_code 2 none :: ws) ({ frames := 1, cells := 0, slots := 0, locals := 13 } : Room)) (fun a U => a = #[(.ref r0), (.int (0 : Int32))] ∧ Z.Warmed39 U.vm ∧ U.heap = h0) (fun _ _ _ _ _ => True) (fun _ U o U' => ∃ v L, o = .returned v ∧ Qrm13t1 Z r0 ba pp en ff kA vs h0 n0 v U'.heap L ∧ FrameEnd U o U' L ({ frames := 1, cells := 0, slots := 0, locals := 13 } : Room).cells ({ frames := 1, cells := 0, slots := 0, locals := 13 } : Room).slots) := by
  refine MetFree.of_bodySF (plainFor_of_name pn_com_example_fillwire_fillwire_codec_ProtoReader) hisR ?_
  intro p e s m args below meth c s₁ Bd hml0 hP hK
  obtain ⟨rfl, hZ, hh⟩ := hP
  have hx := Bd.exec
  have hby := Bd.bytes
  have hml : c.maxLocals = 2 := hml0
  have hown : s.vm.findClass "com/example/fillwire/fillwire/codec/ProtoReader" = some m.cls := findClass_of_methodNamed Bd.named
  have hnm := (name_of_methodNamed Bd.named Bd.method).1
  have X0 : Stand p l e ({ frames := 1, cells := 0, slots := 0, locals := 13 } : Room) s m #[(.ref r0), (.int (0 : Int32))] below meth c s₁ [] 0 0 := Stand.of_body Bd
  have e0 : s₁.heap = h0 := by rw [← hh, Bd.state]; rfl
  have N0 := Fr.nil n0
  show OFin p e below (fun o t L => FrameEnd s o t L ({ frames := 1, cells := 0, slots := 0, locals := 13 } : Room).cells ({ frames := 1, cells := 0, slots := 0, locals := 13 } : Room).slots) (fun v h L => Qrm13t1 Z r0 ba pp en ff kA vs h0 n0 v h L) s₁ (entryFrame m #[(.ref r0), (.int (0 : Int32))] 2)
  refine OFin.cast (ef_rm13t1 m r0) ?_
  show OFin p e below _ _ s₁ (mkF m 0 #[.val (.ref r0), .val (.int (0 : Int32))] [])
  refine OFin.st (fun t k => XS.aloadN X0.here hx rfl (hb hby d13_0) rfl rfl k) ?_
  show OFin p e below _ _ s₁ (mkF m 1 #[.val (.ref r0), .val (.int (0 : Int32))] [(.ref r0)])
  obtain ⟨T1, X1, e1, st1⟩ := getF X0 hx hZ hown (host := "") (Or.inl (hw _ (List.mem_of_getElem? (i := 63) rfl))) Via.refl e0 F_wireType_r0 (g := (mkF m 1 #[.val (.ref r0), .val (.int (0 : Int32))] [(.ref r0)])) rfl rfl (hb hby d13_1)
  refine OFin.st st1 ?_
  show OFin p e below _ _ T1 (mkF m 4 #[.val (.ref r0), .val (.int (0 : Int32))] [(.int (1 : Int32))])
  refine OFin.st (fun t k => XS.tswIn X1.here hx rfl (pc0 := 4) (pc' := 52) rfl (hb hby d13_4) rfl (by decide) (o := 48) rfl (by decide) (by decide) k) ?_
  show OFin p e below _ _ T1 (mkF m 52 #[.val (.ref r0), .val (.int (0 : Int32))] [])
  refine OFin.st (fun t k => XS.aloadN X1.here hx rfl (hb hby d13_52) rfl rfl k) ?_
  show OFin p e below _ _ T1 (mkF m 53 #[.val (.ref r0), .val (.int (0 : Int32))] [(.ref r0)])
  refine OFin.st (fun t k => XS.bipush X1.here hx rfl (hb hby d13_53) k) ?_
  show OFin p e below _ _ T1 (mkF m 55 #[.val (.ref r0), .val (.int (0 : Int32))] [(.int (8 : Int32)), (.ref r0)])
  obtain ⟨cq2, q2, q2'⟩ := E_r0.cell
  obtain ⟨_, _, ⟨T2, L2, k2, n2⟩, -, X2, ⟨Lc2, hQ2, l2, y2, z2⟩, st2⟩ := X1.privateBack hx (y := (⟨"com/example/fillwire/fillwire/codec/ProtoReader", "advance", "(I)V"⟩ : MethodName)) hown (mvT hZ (hw _ (List.mem_of_getElem? (i := 86) rfl))) (mvT hZ (hw _ (List.mem_of_getElem? (i := 87) rfl))) (own_selP hZ (hw _ (List.mem_of_getElem? (i := 1) rfl)) (hw _ (List.mem_of_getElem? (i := 88) rfl)) (hw _ (List.mem_of_getElem? (i := 87) rfl)) (by decide)) (Cond.privateMethod_at (mvP hZ (hw _ (List.mem_of_getElem? (i := 88) rfl)) (args := #[]))) (mvT hZ (hw _ (List.mem_of_getElem? (i := 89) rfl))) (by decide) (backOf (W := 0) (rm15 l Z a0 hw [] r0 (8 : Int32) ba pp en ff (1 : Int32) h0 n0 O0 E_r0 F_bytes_r0 F_position_r0 F_end_r0 F_field_r0 F_wireType_r0 g_r0 (hadv : ¬ (en - pp) < (8 : Int32))) hZ (hw _ (List.mem_of_getElem? (i := 89) rfl)) (hw _ (List.mem_of_getElem? (i := 2) rfl)) (by decide) (by decide)) (g := (mkF m 55 #[.val (.ref r0), .val (.int (0 : Int32))] [(.int (8 : Int32)), (.ref r0)])) rfl (by rw [hml]; rfl) (Steps.refl _) (a := r0) (by rw [e1]; exact q2) q2' (argsL := [(.int (8 : Int32))]) (rest := []) (lenOf pd_4 rfl) rfl (by show 2 * 0 + _ ≤ _; exact Nat.le_of_eq rfl) (hb hby d13_55) (fun _ _ => ⟨rfl, e1, (by decide : 0 + 0 ≤ _), (by decide : 0 + 0 ≤ _)⟩)
  dsimp only [Pt.U, Pt.locs, Pt.cells, Pt.slots] at X2 l2 y2 z2 st2 hQ2
  subst l2 y2 z2
  obtain ⟨rfl, N2q, K2q, P2_0, P2_1, P2_2, P2_3, P2_4, P2_5⟩ := hQ2
  have N2 := Fr.app N0 N2q
  have K2 : Keep h0 T2.heap [r0] := (Keep.refl h0 [r0]).trans K2q (allS (Or.inl (List.mem_of_getElem? (i := 0) rfl)) all0)
  have O2 : Old Z n0 T2.heap := O0.keep K2q (allS g_r0 all0)
  refine OFin.tr st2 ?_
  show OFin p e below _ _ T2 (mkF m 58 #[.val (.ref r0), .val (.int (0 : Int32))] [])
  refine OFin.st (fun t k => XS.goto X2.here hx rfl (pc0 := 58) (pc' := 87) rfl (hb hby d13_58) (by decide) (by decide) k) ?_
  show OFin p e below _ _ T2 (mkF m 87 #[.val (.ref r0), .val (.int (0 : Int32))] [])
  exact own_retV X2 hx Bd.returns Bd.notSynchronized (hb hby d13_87) (by show Qrm13t1 Z r0 ba pp en ff kA vs h0 n0 _ T2.heap _; exact ⟨rfl, N2, K2, P2_0, P2_1, P2_2, P2_3, P2_4, P2_5⟩) (own_endN (by decide) (by decide))
theorem ef_rm12t1 (m : MethodId) (r0 : Addr) : entryFrame m #[(.ref r0)] 1 = mkF m 0 #[.val (.ref r0)] [] := by first | (simp [entryFrame, mkF, argsToLocals, Value.category]; done) | rfl
def Qrm12t1 (Z : State) (r0 : Addr) (ba : Addr) (pp : Int32) (en : Int32) (ff : Int32) (kA : ClassId) (vs : List Value) (h0 : Heap) (n0 : Nat) (v : Option Value) (h : Heap) (L : List Loc) : Prop := v = none ∧ Fr n0 L ∧ Keep h0 h [r0] ∧ Exa Z h r0 "com/example/fillwire/fillwire/codec/ProtoReader" ∧ Fld Z h r0 "com/example/fillwire/fillwire/codec/ProtoReader" "bytes" "[B" (.ref ba) ∧ Fld Z h r0 "com/example/fillwire/fillwire/codec/ProtoReader" "position" "I" (.int (pp + (8 : Int32))) ∧ Fld Z h r0 "com/example/fillwire/fillwire/codec/ProtoReader" "end" "I" (.int en) ∧ Fld Z h r0 "com/example/fillwire/fillwire/codec/ProtoReader" "field" "I" (.int ff) ∧ Fld Z h r0 "com/example/fillwire/fillwire/codec/ProtoReader" "wireType" "I" (.int (1 : Int32))
set_option maxRecDepth 65536 in
set_option maxHeartbeats 40000000 in
theorem rm12t1 (l : Launch) (Z : State) (a0 : Array Value) (hw : ∀ d ∈ tables_1, d.before a0 Z = true) (ws : List Jvm.Cond) (r0 : Addr) (ba : Addr) (pp : Int32) (en : Int32) (ff : Int32) (kA : ClassId) (vs : List Value) (h0 : Heap) (n0 : Nat) (O0 : Old Z n0 h0) (E_r0 : Exa Z h0 r0 "com/example/fillwire/fillwire/codec/ProtoReader") (F_bytes_r0 : Fld Z h0 r0 "com/example/fillwire/fillwire/codec/ProtoReader" "bytes" "[B" (.ref ba)) (F_position_r0 : Fld Z h0 r0 "com/example/fillwire/fillwire/codec/ProtoReader" "position" "I" (.int pp)) (F_end_r0 : Fld Z h0 r0 "com/example/fillwire/fillwire/codec/ProtoReader" "end" "I" (.int en)) (F_field_r0 : Fld Z h0 r0 "com/example/fillwire/fillwire/codec/ProtoReader" "field" "I" (.int ff)) (F_wireType_r0 : Fld Z h0 r0 "com/example/fillwire/fillwire/codec/ProtoReader" "wireType" "I" (.int (1 : Int32))) (A_ba : Oar Z h0 ba kA .byte vs) (g_r0 : n0 ≤ r0) (N_ba_r0 : ba ≠ r0) (hadv : ¬ (en - pp) < (8 : Int32)) :
    MetFree l (⟨"com/example/fillwire/fillwire/codec/ProtoReader", "skip", "()V"⟩ : MethodName) (head1 (Jvm.Cond.code (⟨"com/example/fillwire/fillwire/codec/ProtoReader", "skip", "()V"⟩ : MethodName) prog_34_method_11_code 1 none :: ws) ({ frames := 2, cells := 0, slots := 0, locals := 26 } : Room)) (fun a U => a = #[(.ref r0)] ∧ Z.Warmed39 U.vm ∧ U.heap = h0) (fun _ _ _ _ _ => True) (fun _ U o U' => ∃ v L, o = .returned v ∧ Qrm12t1 Z r0 ba pp en ff kA vs h0 n0 v U'.heap L ∧ FrameEnd U o U' L ({ frames := 2, cells := 0, slots := 0, locals := 26 } : Room).cells ({ frames := 2, cells := 0, slots := 0, locals := 26 } : Room).slots) := by
  refine MetFree.of_bodySF (plainFor_of_name pn_com_example_fillwire_fillwire_codec_ProtoReader) hisR ?_
  intro p e s m args below meth c s₁ Bd hml0 hP hK
  obtain ⟨rfl, hZ, hh⟩ := hP
  have hx := Bd.exec
  have hby := Bd.bytes
  have hml : c.maxLocals = 1 := hml0
  have hown : s.vm.findClass "com/example/fillwire/fillwire/codec/ProtoReader" = some m.cls := findClass_of_methodNamed Bd.named
  have hnm := (name_of_methodNamed Bd.named Bd.method).1
  have X0 : Stand p l e ({ frames := 2, cells := 0, slots := 0, locals := 26 } : Room) s m #[(.ref r0)] below meth c s₁ [] 0 0 := Stand.of_body Bd
  have e0 : s₁.heap = h0 := by rw [← hh, Bd.state]; rfl
  have N0 := Fr.nil n0
  show OFin p e below (fun o t L => FrameEnd s o t L ({ frames := 2, cells := 0, slots := 0, locals := 26 } : Room).cells ({ frames := 2, cells := 0, slots := 0, locals := 26 } : Room).slots) (fun v h L => Qrm12t1 Z r0 ba pp en ff kA vs h0 n0 v h L) s₁ (entryFrame m #[(.ref r0)] 1)
  refine OFin.cast (ef_rm12t1 m r0) ?_
  show OFin p e below _ _ s₁ (mkF m 0 #[.val (.ref r0)] [])
  refine OFin.st (fun t k => XS.aloadN X0.here hx rfl (hb hby d12_0) rfl rfl k) ?_
  show OFin p e below _ _ s₁ (mkF m 1 #[.val (.ref r0)] [(.ref r0)])
  refine OFin.st (fun t k => XS.iconst X0.here hx rfl (hb hby d12_1) k) ?_
  show OFin p e below _ _ s₁ (mkF m 2 #[.val (.ref r0)] [(.int (0 : Int32)), (.ref r0)])
  obtain ⟨cq1, q1, q1'⟩ := E_r0.cell
  obtain ⟨_, _, ⟨T1, L1, k1, n1⟩, -, X1, ⟨Lc1, hQ1, l1, y1, z1⟩, st1⟩ := X0.privateBack hx (y := (⟨"com/example/fillwire/fillwire/codec/ProtoReader", "skipValue", "(I)V"⟩ : MethodName)) hown (mvT hZ (hw _ (List.mem_of_getElem? (i := 77) rfl))) (mvT hZ (hw _ (List.mem_of_getElem? (i := 78) rfl))) (own_selP hZ (hw _ (List.mem_of_getElem? (i := 1) rfl)) (hw _ (List.mem_of_getElem? (i := 79) rfl)) (hw _ (List.mem_of_getElem? (i := 78) rfl)) (by decide)) (Cond.privateMethod_at (mvP hZ (hw _ (List.mem_of_getElem? (i := 79) rfl)) (args := #[]))) (mvT hZ (hw _ (List.mem_of_getElem? (i := 80) rfl))) (by decide) (backOf (W := 0) (rm13t1 l Z a0 hw [] r0 ba pp en ff kA vs h0 n0 O0 E_r0 F_bytes_r0 F_position_r0 F_end_r0 F_field_r0 F_wireType_r0 A_ba g_r0 N_ba_r0 (hadv : ¬ (en - pp) < (8 : Int32))) hZ (hw _ (List.mem_of_getElem? (i := 80) rfl)) (hw _ (List.mem_of_getElem? (i := 2) rfl)) (by decide) (by decide)) (g := (mkF m 2 #[.val (.ref r0)] [(.int (0 : Int32)), (.ref r0)])) rfl (by rw [hml]; rfl) (Steps.refl _) (a := r0) (by rw [e0]; exact q1) q1' (argsL := [(.int (0 : Int32))]) (rest := []) (lenOf pd_4 rfl) rfl (by show 2 * 0 + _ ≤ _; exact Nat.le_of_eq rfl) (hb hby d12_2) (fun _ _ => ⟨rfl, e0, (by decide : 0 + 0 ≤ _), (by decide : 0 + 0 ≤ _)⟩)
  dsimp only [Pt.U, Pt.locs, Pt.cells, Pt.slots] at X1 l1 y1 z1 st1 hQ1
  subst l1 y1 z1
  obtain ⟨rfl, N1q, K1q, P1_0, P1_1, P1_2, P1_3, P1_4, P1_5⟩ := hQ1
  have N1 := Fr.app N0 N1q
  have K1 : Keep h0 T1.heap [r0] := (Keep.refl h0 [r0]).trans K1q (allS (Or.inl (List.mem_of_getElem? (i := 0) rfl)) all0)
  have O1 : Old Z n0 T1.heap := O0.keep K1q (allS g_r0 all0)
  refine OFin.tr st1 ?_
  show OFin p e below _ _ T1 (mkF m 5 #[.val (.ref r0)] [])
  exact own_retV X1 hx Bd.returns Bd.notSynchronized (hb hby d12_5) (by show Qrm12t1 Z r0 ba pp en ff kA vs h0 n0 _ T1.heap _; exact ⟨rfl, N1, K1, P1_0, P1_1, P1_2, P1_3, P1_4, P1_5⟩) (own_endN (by decide) (by decide))
theorem ef_rm13t2 (m : MethodId) (r0 : Addr) : entryFrame m #[(.ref r0), (.int (0 : Int32))] 2 = mkF m 0 #[.val (.ref r0), .val (.int (0 : Int32))] [] := by first | (simp [entryFrame, mkF, argsToLocals, Value.category]; done) | rfl
def Qrm13t2 (Z : State) (r0 : Addr) (ba : Addr) (pp : Int32) (en : Int32) (ff : Int32) (kA : ClassId) (vs : List Value) (fv : Nat → Int32) (kv : Nat) (h0 : Heap) (n0 : Nat) (v : Option Value) (h : Heap) (L : List Loc) : Prop := v = none ∧ Fr n0 L ∧ Keep h0 h [r0] ∧ Exa Z h r0 "com/example/fillwire/fillwire/codec/ProtoReader" ∧ Fld Z h r0 "com/example/fillwire/fillwire/codec/ProtoReader" "bytes" "[B" (.ref ba) ∧ Fld Z h r0 "com/example/fillwire/fillwire/codec/ProtoReader" "position" "I" (.int ((vpo pp (kv + 1)) + ((vac fv (kv + 1)).toInt32))) ∧ Fld Z h r0 "com/example/fillwire/fillwire/codec/ProtoReader" "end" "I" (.int en) ∧ Fld Z h r0 "com/example/fillwire/fillwire/codec/ProtoReader" "field" "I" (.int ff) ∧ Fld Z h r0 "com/example/fillwire/fillwire/codec/ProtoReader" "wireType" "I" (.int (2 : Int32))
set_option maxRecDepth 65536 in
set_option maxHeartbeats 40000000 in
theorem rm13t2 (l : Launch) (Z : State) (a0 : Array Value) (hw : ∀ d ∈ tables_1, d.before a0 Z = true) (ws : List Jvm.Cond) (r0 : Addr) (ba : Addr) (pp : Int32) (en : Int32) (ff : Int32) (kA : ClassId) (vs : List Value) (fv : Nat → Int32) (kv : Nat) (h0 : Heap) (n0 : Nat) (O0 : Old Z n0 h0) (E_r0 : Exa Z h0 r0 "com/example/fillwire/fillwire/codec/ProtoReader") (F_bytes_r0 : Fld Z h0 r0 "com/example/fillwire/fillwire/codec/ProtoReader" "bytes" "[B" (.ref ba)) (F_position_r0 : Fld Z h0 r0 "com/example/fillwire/fillwire/codec/ProtoReader" "position" "I" (.int pp)) (F_end_r0 : Fld Z h0 r0 "com/example/fillwire/fillwire/codec/ProtoReader" "end" "I" (.int en)) (F_field_r0 : Fld Z h0 r0 "com/example/fillwire/fillwire/codec/ProtoReader" "field" "I" (.int ff)) (F_wireType_r0 : Fld Z h0 r0 "com/example/fillwire/fillwire/codec/ProtoReader" "wireType" "I" (.int (2 : Int32))) (A_ba : Oar Z h0 ba kA .byte vs) (g_r0 : n0 ≤ r0) (N_ba_r0 : ba ≠ r0) (hk : kv ≤ 9) (hcn : ∀ i, i < kv → fv i < 0) (hln : ¬ fv kv < 0) (h9 : kv = 9 → ¬ (1 : Int32) < fv kv) (hp0 : 0 ≤ pp.toInt) (hp1 : pp.toInt < 2000000000) (hvs : ∀ i, i ≤ kv → vs[pp.toInt.toNat + i]? = some (Value.int (fv i))) (hne : ∀ i, i ≤ kv → ¬ vpo pp i = en) (hl0 : ¬ (vac fv (kv + 1)) < (0 : Int64)) (hl1 : ¬ ((en - (vpo pp (kv + 1))).toInt64) < (vac fv (kv + 1))) (hadv : ¬ (en - (vpo pp (kv + 1))) < ((vac fv (kv + 1)).toInt32)) :
    MetFree l (⟨"com/example/fillwire/fillwire/codec/ProtoReader", "skipValue", "(I)V"⟩ : MethodName) (head1 (Jvm.Cond.code (⟨"com/example/fillwire/fillwire/codec/ProtoReader", "skipValue", "(I)V"⟩ : MethodName) prog_34_method_12_code 2 none :: ws) ({ frames := 2, cells := 0, slots := 0, locals := 32 } : Room)) (fun a U => a = #[(.ref r0), (.int (0 : Int32))] ∧ Z.Warmed39 U.vm ∧ U.heap = h0) (fun _ _ _ _ _ => True) (fun _ U o U' => ∃ v L, o = .returned v ∧ Qrm13t2 Z r0 ba pp en ff kA vs fv kv h0 n0 v U'.heap L ∧ FrameEnd U o U' L ({ frames := 2, cells := 0, slots := 0, locals := 32 } : Room).cells ({ frames := 2, cells := 0, slots := 0, locals := 32 } : Room).slots) := by
  refine MetFree.of_bodySF (plainFor_of_name pn_com_example_fillwire_fillwire_codec_ProtoReader) hisR ?_
  intro p e s m args below meth c s₁ Bd hml0 hP hK
  obtain ⟨rfl, hZ, hh⟩ := hP
  have hx := Bd.exec
  have hby := Bd.bytes
  have hml : c.maxLocals = 2 := hml0
  have hown : s.vm.findClass "com/example/fillwire/fillwire/codec/ProtoReader" = some m.cls := findClass_of_methodNamed Bd.named
  have hnm := (name_of_methodNamed Bd.named Bd.method).1
  have X0 : Stand p l e ({ frames := 2, cells := 0, slots := 0, locals := 32 } : Room) s m #[(.ref r0), (.int (0 : Int32))] below meth c s₁ [] 0 0 := Stand.of_body Bd
  have e0 : s₁.heap = h0 := by rw [← hh, Bd.state]; rfl
  have N0 := Fr.nil n0
  show OFin p e below (fun o t L => FrameEnd s o t L ({ frames := 2, cells := 0, slots := 0, locals := 32 } : Room).cells ({ frames := 2, cells := 0, slots := 0, locals := 32 } : Room).slots) (fun v h L => Qrm13t2 Z r0 ba pp en ff kA vs fv kv h0 n0 v h L) s₁ (entryFrame m #[(.ref r0), (.int (0 : Int32))] 2)
  refine OFin.cast (ef_rm13t2 m r0) ?_
  show OFin p e below _ _ s₁ (mkF m 0 #[.val (.ref r0), .val (.int (0 : Int32))] [])
  refine OFin.st (fun t k => XS.aloadN X0.here hx rfl (hb hby d13_0) rfl rfl k) ?_
  show OFin p e below _ _ s₁ (mkF m 1 #[.val (.ref r0), .val (.int (0 : Int32))] [(.ref r0)])
  obtain ⟨T1, X1, e1, st1⟩ := getF X0 hx hZ hown (host := "") (Or.inl (hw _ (List.mem_of_getElem? (i := 63) rfl))) Via.refl e0 F_wireType_r0 (g := (mkF m 1 #[.val (.ref r0), .val (.int (0 : Int32))] [(.ref r0)])) rfl rfl (hb hby d13_1)
  refine OFin.st st1 ?_
  show OFin p e below _ _ T1 (mkF m 4 #[.val (.ref r0), .val (.int (0 : Int32))] [(.int (2 : Int32))])
  refine OFin.st (fun t k => XS.tswIn X1.here hx rfl (pc0 := 4) (pc' := 61) rfl (hb hby d13_4) rfl (by decide) (o := 57) rfl (by decide) (by decide) k) ?_
  show OFin p e below _ _ T1 (mkF m 61 #[.val (.ref r0), .val (.int (0 : Int32))] [])
  refine OFin.st (fun t k => XS.aloadN X1.here hx rfl (hb hby d13_61) rfl rfl k) ?_
  show OFin p e below _ _ T1 (mkF m 62 #[.val (.ref r0), .val (.int (0 : Int32))] [(.ref r0)])
  refine OFin.st (fun t k => XS.aloadN X1.here hx rfl (hb hby d13_62) rfl rfl k) ?_
  show OFin p e below _ _ T1 (mkF m 63 #[.val (.ref r0), .val (.int (0 : Int32))] [(.ref r0), (.ref r0)])
  obtain ⟨cq2, q2, q2'⟩ := E_r0.cell
  obtain ⟨_, _, ⟨T2, L2, k2, n2⟩, -, X2, ⟨Lc2, hQ2, l2, y2, z2⟩, st2⟩ := X1.privateBack hx (y := (⟨"com/example/fillwire/fillwire/codec/ProtoReader", "readLength", "()I"⟩ : MethodName)) hown (mvT hZ (hw _ (List.mem_of_getElem? (i := 92) rfl))) (mvT hZ (hw _ (List.mem_of_getElem? (i := 93) rfl))) (own_selP hZ (hw _ (List.mem_of_getElem? (i := 1) rfl)) (hw _ (List.mem_of_getElem? (i := 94) rfl)) (hw _ (List.mem_of_getElem? (i := 93) rfl)) (by decide)) (Cond.privateMethod_at (mvP hZ (hw _ (List.mem_of_getElem? (i := 94) rfl)) (args := #[]))) (mvT hZ (hw _ (List.mem_of_getElem? (i := 95) rfl))) (by decide) (backOf (W := 1) (rm16 l Z a0 hw [] r0 ba pp en ff (2 : Int32) kA vs fv kv h0 n0 O0 E_r0 F_bytes_r0 F_position_r0 F_end_r0 F_field_r0 F_wireType_r0 A_ba g_r0 N_ba_r0 (hk : kv ≤ 9) (hcn : ∀ i, i < kv → fv i < 0) (hln : ¬ fv kv < 0) (h9 : kv = 9 → ¬ (1 : Int32) < fv kv) (hp0 : 0 ≤ pp.toInt) (hp1 : pp.toInt < 2000000000) (hvs : ∀ i, i ≤ kv → vs[pp.toInt.toNat + i]? = some (Value.int (fv i))) (hne : ∀ i, i ≤ kv → ¬ vpo pp i = en) (hl0 : ¬ (vac fv (kv + 1)) < (0 : Int64)) (hl1 : ¬ ((en - (vpo pp (kv + 1))).toInt64) < (vac fv (kv + 1)))) hZ (hw _ (List.mem_of_getElem? (i := 95) rfl)) (hw _ (List.mem_of_getElem? (i := 2) rfl)) (by decide) (by decide)) (g := (mkF m 63 #[.val (.ref r0), .val (.int (0 : Int32))] [(.ref r0), (.ref r0)])) rfl (by rw [hml]; rfl) (Steps.refl _) (a := r0) (by rw [e1]; exact q2) q2' (argsL := []) (rest := [(.ref r0)]) (lenOf pd_0 rfl) rfl (by show 2 * 0 + _ ≤ _; exact Nat.le_of_eq rfl) (hb hby d13_63) (fun _ _ => ⟨rfl, e1, (by decide : 0 + 0 ≤ _), (by decide : 0 + 0 ≤ _)⟩)
  dsimp only [Pt.U, Pt.locs, Pt.cells, Pt.slots] at X2 l2 y2 z2 st2 hQ2
  subst l2 y2 z2
  obtain ⟨rfl, N2q, K2q, P2_0, P2_1, P2_2, P2_3, P2_4, P2_5⟩ := hQ2
  have N2 := Fr.app N0 N2q
  have K2 : Keep h0 T2.heap [r0] := (Keep.refl h0 [r0]).trans K2q (allS (Or.inl (List.mem_of_getElem? (i := 0) rfl)) all0)
  have O2 : Old Z n0 T2.heap := O0.keep K2q (allS g_r0 all0)
  refine OFin.tr st2 ?_
  show OFin p e below _ _ T2 (mkF m 66 #[.val (.ref r0), .val (.int (0 : Int32))] [(.int ((vac fv (kv + 1)).toInt32)), (.ref r0)])
  obtain ⟨cq3, q3, q3'⟩ := P2_0.cell
  obtain ⟨_, _, ⟨T3, L3, k3, n3⟩, -, X3, ⟨Lc3, hQ3, l3, y3, z3⟩, st3⟩ := X2.privateBack hx (y := (⟨"com/example/fillwire/fillwire/codec/ProtoReader", "advance", "(I)V"⟩ : MethodName)) hown (mvT hZ (hw _ (List.mem_of_getElem? (i := 86) rfl))) (mvT hZ (hw _ (List.mem_of_getElem? (i := 87) rfl))) (own_selP hZ (hw _ (List.mem_of_getElem? (i := 1) rfl)) (hw _ (List.mem_of_getElem? (i := 88) rfl)) (hw _ (List.mem_of_getElem? (i := 87) rfl)) (by decide)) (Cond.privateMethod_at (mvP hZ (hw _ (List.mem_of_getElem? (i := 88) rfl)) (args := #[]))) (mvT hZ (hw _ (List.mem_of_getElem? (i := 89) rfl))) (by decide) (backOf (W := 0) (rm15 l Z a0 hw [] r0 ((vac fv (kv + 1)).toInt32) ba (vpo pp (kv + 1)) en ff (2 : Int32) T2.heap n0 O2 P2_0 P2_1 P2_2 P2_3 P2_4 P2_5 g_r0 (hadv : ¬ (en - (vpo pp (kv + 1))) < ((vac fv (kv + 1)).toInt32))) hZ (hw _ (List.mem_of_getElem? (i := 89) rfl)) (hw _ (List.mem_of_getElem? (i := 2) rfl)) (by decide) (by decide)) (g := (mkF m 66 #[.val (.ref r0), .val (.int (0 : Int32))] [(.int ((vac fv (kv + 1)).toInt32)), (.ref r0)])) rfl (by rw [hml]; rfl) (Steps.refl _) (a := r0) q3 q3' (argsL := [(.int ((vac fv (kv + 1)).toInt32))]) (rest := []) (lenOf pd_4 rfl) rfl (by show 2 * 0 + _ ≤ _; exact Nat.le_of_eq rfl) (hb hby d13_66) (fun _ _ => ⟨rfl, rfl, (by decide : 0 + 0 ≤ _), (by decide : 0 + 0 ≤ _)⟩)
  dsimp only [Pt.U, Pt.locs, Pt.cells, Pt.slots] at X3 l3 y3 z3 st3 hQ3
  subst l3 y3 z3
  obtain ⟨rfl, N3q, K3q, P3_0, P3_1, P3_2, P3_3, P3_4, P3_5⟩ := hQ3
  have N3 := Fr.app N2 N3q
  have K3 : Keep h0 T3.heap [r0] := K2.trans K3q (allS (Or.inl (List.mem_of_getElem? (i := 0) rfl)) all0)
  have O3 : Old Z n0 T3.heap := O2.keep K3q (allS g_r0 all0)
  refine OFin.tr st3 ?_
  show OFin p e below _ _ T3 (mkF m 69 #[.val (.ref r0), .val (.int (0 : Int32))] [])
  refine OFin.st (fun t k => XS.goto X3.here hx rfl (pc0 := 69) (pc' := 87) rfl (hb hby d13_69) (by decide) (by decide) k) ?_
  show OFin p e below _ _ T3 (mkF m 87 #[.val (.ref r0), .val (.int (0 : Int32))] [])
  exact own_retV X3 hx Bd.returns Bd.notSynchronized (hb hby d13_87) (by show Qrm13t2 Z r0 ba pp en ff kA vs fv kv h0 n0 _ T3.heap _; exact ⟨rfl, N3, K3, P3_0, P3_1, P3_2, P3_3, P3_4, P3_5⟩) (own_endN (by decide) (by decide))
theorem ef_rm12t2 (m : MethodId) (r0 : Addr) : entryFrame m #[(.ref r0)] 1 = mkF m 0 #[.val (.ref r0)] [] := by first | (simp [entryFrame, mkF, argsToLocals, Value.category]; done) | rfl
def Qrm12t2 (Z : State) (r0 : Addr) (ba : Addr) (pp : Int32) (en : Int32) (ff : Int32) (kA : ClassId) (vs : List Value) (fv : Nat → Int32) (kv : Nat) (h0 : Heap) (n0 : Nat) (v : Option Value) (h : Heap) (L : List Loc) : Prop := v = none ∧ Fr n0 L ∧ Keep h0 h [r0] ∧ Exa Z h r0 "com/example/fillwire/fillwire/codec/ProtoReader" ∧ Fld Z h r0 "com/example/fillwire/fillwire/codec/ProtoReader" "bytes" "[B" (.ref ba) ∧ Fld Z h r0 "com/example/fillwire/fillwire/codec/ProtoReader" "position" "I" (.int ((vpo pp (kv + 1)) + ((vac fv (kv + 1)).toInt32))) ∧ Fld Z h r0 "com/example/fillwire/fillwire/codec/ProtoReader" "end" "I" (.int en) ∧ Fld Z h r0 "com/example/fillwire/fillwire/codec/ProtoReader" "field" "I" (.int ff) ∧ Fld Z h r0 "com/example/fillwire/fillwire/codec/ProtoReader" "wireType" "I" (.int (2 : Int32))
set_option maxRecDepth 65536 in
set_option maxHeartbeats 40000000 in
theorem rm12t2 (l : Launch) (Z : State) (a0 : Array Value) (hw : ∀ d ∈ tables_1, d.before a0 Z = true) (ws : List Jvm.Cond) (r0 : Addr) (ba : Addr) (pp : Int32) (en : Int32) (ff : Int32) (kA : ClassId) (vs : List Value) (fv : Nat → Int32) (kv : Nat) (h0 : Heap) (n0 : Nat) (O0 : Old Z n0 h0) (E_r0 : Exa Z h0 r0 "com/example/fillwire/fillwire/codec/ProtoReader") (F_bytes_r0 : Fld Z h0 r0 "com/example/fillwire/fillwire/codec/ProtoReader" "bytes" "[B" (.ref ba)) (F_position_r0 : Fld Z h0 r0 "com/example/fillwire/fillwire/codec/ProtoReader" "position" "I" (.int pp)) (F_end_r0 : Fld Z h0 r0 "com/example/fillwire/fillwire/codec/ProtoReader" "end" "I" (.int en)) (F_field_r0 : Fld Z h0 r0 "com/example/fillwire/fillwire/codec/ProtoReader" "field" "I" (.int ff)) (F_wireType_r0 : Fld Z h0 r0 "com/example/fillwire/fillwire/codec/ProtoReader" "wireType" "I" (.int (2 : Int32))) (A_ba : Oar Z h0 ba kA .byte vs) (g_r0 : n0 ≤ r0) (N_ba_r0 : ba ≠ r0) (hk : kv ≤ 9) (hcn : ∀ i, i < kv → fv i < 0) (hln : ¬ fv kv < 0) (h9 : kv = 9 → ¬ (1 : Int32) < fv kv) (hp0 : 0 ≤ pp.toInt) (hp1 : pp.toInt < 2000000000) (hvs : ∀ i, i ≤ kv → vs[pp.toInt.toNat + i]? = some (Value.int (fv i))) (hne : ∀ i, i ≤ kv → ¬ vpo pp i = en) (hl0 : ¬ (vac fv (kv + 1)) < (0 : Int64)) (hl1 : ¬ ((en - (vpo pp (kv + 1))).toInt64) < (vac fv (kv + 1))) (hadv : ¬ (en - (vpo pp (kv + 1))) < ((vac fv (kv + 1)).toInt32)) :
    MetFree l (⟨"com/example/fillwire/fillwire/codec/ProtoReader", "skip", "()V"⟩ : MethodName) (head1 (Jvm.Cond.code (⟨"com/example/fillwire/fillwire/codec/ProtoReader", "skip", "()V"⟩ : MethodName) prog_34_method_11_code 1 none :: ws) ({ frames := 3, cells := 0, slots := 0, locals := 45 } : Room)) (fun a U => a = #[(.ref r0)] ∧ Z.Warmed39 U.vm ∧ U.heap = h0) (fun _ _ _ _ _ => True) (fun _ U o U' => ∃ v L, o = .returned v ∧ Qrm12t2 Z r0 ba pp en ff kA vs fv kv h0 n0 v U'.heap L ∧ FrameEnd U o U' L ({ frames := 3, cells := 0, slots := 0, locals := 45 } : Room).cells ({ frames := 3, cells := 0, slots := 0, locals := 45 } : Room).slots) := by
  refine MetFree.of_bodySF (plainFor_of_name pn_com_example_fillwire_fillwire_codec_ProtoReader) hisR ?_
  intro p e s m args below meth c s₁ Bd hml0 hP hK
  obtain ⟨rfl, hZ, hh⟩ := hP
  have hx := Bd.exec
  have hby := Bd.bytes
  have hml : c.maxLocals = 1 := hml0
  have hown : s.vm.findClass "com/example/fillwire/fillwire/codec/ProtoReader" = some m.cls := findClass_of_methodNamed Bd.named
  have hnm := (name_of_methodNamed Bd.named Bd.method).1
  have X0 : Stand p l e ({ frames := 3, cells := 0, slots := 0, locals := 45 } : Room) s m #[(.ref r0)] below meth c s₁ [] 0 0 := Stand.of_body Bd
  have e0 : s₁.heap = h0 := by rw [← hh, Bd.state]; rfl
  have N0 := Fr.nil n0
  show OFin p e below (fun o t L => FrameEnd s o t L ({ frames := 3, cells := 0, slots := 0, locals := 45 } : Room).cells ({ frames := 3, cells := 0, slots := 0, locals := 45 } : Room).slots) (fun v h L => Qrm12t2 Z r0 ba pp en ff kA vs fv kv h0 n0 v h L) s₁ (entryFrame m #[(.ref r0)] 1)
  refine OFin.cast (ef_rm12t2 m r0) ?_
  show OFin p e below _ _ s₁ (mkF m 0 #[.val (.ref r0)] [])
  refine OFin.st (fun t k => XS.aloadN X0.here hx rfl (hb hby d12_0) rfl rfl k) ?_
  show OFin p e below _ _ s₁ (mkF m 1 #[.val (.ref r0)] [(.ref r0)])
  refine OFin.st (fun t k => XS.iconst X0.here hx rfl (hb hby d12_1) k) ?_
  show OFin p e below _ _ s₁ (mkF m 2 #[.val (.ref r0)] [(.int (0 : Int32)), (.ref r0)])
  obtain ⟨cq1, q1, q1'⟩ := E_r0.cell
  obtain ⟨_, _, ⟨T1, L1, k1, n1⟩, -, X1, ⟨Lc1, hQ1, l1, y1, z1⟩, st1⟩ := X0.privateBack hx (y := (⟨"com/example/fillwire/fillwire/codec/ProtoReader", "skipValue", "(I)V"⟩ : MethodName)) hown (mvT hZ (hw _ (List.mem_of_getElem? (i := 77) rfl))) (mvT hZ (hw _ (List.mem_of_getElem? (i := 78) rfl))) (own_selP hZ (hw _ (List.mem_of_getElem? (i := 1) rfl)) (hw _ (List.mem_of_getElem? (i := 79) rfl)) (hw _ (List.mem_of_getElem? (i := 78) rfl)) (by decide)) (Cond.privateMethod_at (mvP hZ (hw _ (List.mem_of_getElem? (i := 79) rfl)) (args := #[]))) (mvT hZ (hw _ (List.mem_of_getElem? (i := 80) rfl))) (by decide) (backOf (W := 0) (rm13t2 l Z a0 hw [] r0 ba pp en ff kA vs fv kv h0 n0 O0 E_r0 F_bytes_r0 F_position_r0 F_end_r0 F_field_r0 F_wireType_r0 A_ba g_r0 N_ba_r0 (hk : kv ≤ 9) (hcn : ∀ i, i < kv → fv i < 0) (hln : ¬ fv kv < 0) (h9 : kv = 9 → ¬ (1 : Int32) < fv kv) (hp0 : 0 ≤ pp.toInt) (hp1 : pp.toInt < 2000000000) (hvs : ∀ i, i ≤ kv → vs[pp.toInt.toNat + i]? = some (Value.int (fv i))) (hne : ∀ i, i ≤ kv → ¬ vpo pp i = en) (hl0 : ¬ (vac fv (kv + 1)) < (0 : Int64)) (hl1 : ¬ ((en - (vpo pp (kv + 1))).toInt64) < (vac fv (kv + 1))) (hadv : ¬ (en - (vpo pp (kv + 1))) < ((vac fv (kv + 1)).toInt32))) hZ (hw _ (List.mem_of_getElem? (i := 80) rfl)) (hw _ (List.mem_of_getElem? (i := 2) rfl)) (by decide) (by decide)) (g := (mkF m 2 #[.val (.ref r0)] [(.int (0 : Int32)), (.ref r0)])) rfl (by rw [hml]; rfl) (Steps.refl _) (a := r0) (by rw [e0]; exact q1) q1' (argsL := [(.int (0 : Int32))]) (rest := []) (lenOf pd_4 rfl) rfl (by show 2 * 0 + _ ≤ _; exact Nat.le_of_eq rfl) (hb hby d12_2) (fun _ _ => ⟨rfl, e0, (by decide : 0 + 0 ≤ _), (by decide : 0 + 0 ≤ _)⟩)
  dsimp only [Pt.U, Pt.locs, Pt.cells, Pt.slots] at X1 l1 y1 z1 st1 hQ1
  subst l1 y1 z1
  obtain ⟨rfl, N1q, K1q, P1_0, P1_1, P1_2, P1_3, P1_4, P1_5⟩ := hQ1
  have N1 := Fr.app N0 N1q
  have K1 : Keep h0 T1.heap [r0] := (Keep.refl h0 [r0]).trans K1q (allS (Or.inl (List.mem_of_getElem? (i := 0) rfl)) all0)
  have O1 : Old Z n0 T1.heap := O0.keep K1q (allS g_r0 all0)
  refine OFin.tr st1 ?_
  show OFin p e below _ _ T1 (mkF m 5 #[.val (.ref r0)] [])
  exact own_retV X1 hx Bd.returns Bd.notSynchronized (hb hby d12_5) (by show Qrm12t2 Z r0 ba pp en ff kA vs fv kv h0 n0 _ T1.heap _; exact ⟨rfl, N1, K1, P1_0, P1_1, P1_2, P1_3, P1_4, P1_5⟩) (own_endN (by decide) (by decide))
theorem ef_rm13t3 (m : MethodId) (r0 : Addr) : entryFrame m #[(.ref r0), (.int (0 : Int32))] 2 = mkF m 0 #[.val (.ref r0), .val (.int (0 : Int32))] [] := by first | (simp [entryFrame, mkF, argsToLocals, Value.category]; done) | rfl
def Qrm13t3 (Z : State) (r0 : Addr) (ba : Addr) (pp : Int32) (en : Int32) (ff : Int32) (kA : ClassId) (vs : List Value) (fv : Nat → Int32) (kv : Nat) (kW : ClassId) (vW : List Value) (w_WIRE_TYPES : Addr) (h0 : Heap) (n0 : Nat) (v : Option Value) (h : Heap) (L : List Loc) : Prop := v = none ∧ Fr n0 L ∧ Keep h0 h [r0] ∧ Exa Z h r0 "com/example/fillwire/fillwire/codec/ProtoReader" ∧ Fld Z h r0 "com/example/fillwire/fillwire/codec/ProtoReader" "bytes" "[B" (.ref ba) ∧ Fld Z h r0 "com/example/fillwire/fillwire/codec/ProtoReader" "position" "I" (.int (vpo pp (kv + 1))) ∧ Fld Z h r0 "com/example/fillwire/fillwire/codec/ProtoReader" "end" "I" (.int en) ∧ Fld Z h r0 "com/example/fillwire/fillwire/codec/ProtoReader" "field" "I" (.int ((((vac fv (kv + 1)).toUInt64 >>> ((3 : Int32) &&& 0x3f).toInt64.toUInt64).toInt64).toInt32)) ∧ Fld Z h r0 "com/example/fillwire/fillwire/codec/ProtoReader" "wireType" "I" (.int (((vac fv (kv + 1)).toInt32) &&& (7 : Int32)))
set_option maxRecDepth 65536 in
set_option maxHeartbeats 40000000 in
theorem rm13t3 (l : Launch) (Z : State) (a0 : Array Value) (hw : ∀ d ∈ tables_1, d.before a0 Z = true) (ws : List Jvm.Cond) (r0 : Addr) (ba : Addr) (pp : Int32) (en : Int32) (ff : Int32) (kA : ClassId) (vs : List Value) (fv : Nat → Int32) (kv : Nat) (kW : ClassId) (vW : List Value) (w_WIRE_TYPES : Addr) (h0 : Heap) (n0 : Nat) (O0 : Old Z n0 h0) (E_r0 : Exa Z h0 r0 "com/example/fillwire/fillwire/codec/ProtoReader") (F_bytes_r0 : Fld Z h0 r0 "com/example/fillwire/fillwire/codec/ProtoReader" "bytes" "[B" (.ref ba)) (F_position_r0 : Fld Z h0 r0 "com/example/fillwire/fillwire/codec/ProtoReader" "position" "I" (.int pp)) (F_end_r0 : Fld Z h0 r0 "com/example/fillwire/fillwire/codec/ProtoReader" "end" "I" (.int en)) (F_field_r0 : Fld Z h0 r0 "com/example/fillwire/fillwire/codec/ProtoReader" "field" "I" (.int ff)) (F_wireType_r0 : Fld Z h0 r0 "com/example/fillwire/fillwire/codec/ProtoReader" "wireType" "I" (.int (3 : Int32))) (A_ba : Oar Z h0 ba kA .byte vs) (g_r0 : n0 ≤ r0) (N_ba_r0 : ba ≠ r0) (hk : kv ≤ 9) (hcn : ∀ i, i < kv → fv i < 0) (hln : ¬ fv kv < 0) (h9 : kv = 9 → ¬ (1 : Int32) < fv kv) (hp0 : 0 ≤ pp.toInt) (hp1 : pp.toInt < 2000000000) (hvs : ∀ i, i ≤ kv → vs[pp.toInt.toNat + i]? = some (Value.int (fv i))) (hne : ∀ i, i ≤ kv → ¬ vpo pp i = en) (hn0 : ¬ (((vac fv (kv + 1)).toUInt64 >>> ((3 : Int32) &&& 0x3f).toInt64.toUInt64).toInt64) = (0 : Int64)) (hnq : ¬ (536870911 : Int64) < (((vac fv (kv + 1)).toUInt64 >>> ((3 : Int32) &&& 0x3f).toInt64.toUInt64).toInt64)) (hwt : (((vac fv (kv + 1)).toInt32) &&& (7 : Int32)) < (6 : Int32)) (hW6 : vW.length = 6) (hw4 : (((vac fv (kv + 1)).toInt32) &&& (7 : Int32)) = (4 : Int32)) (hgf : ((((vac fv (kv + 1)).toUInt64 >>> ((3 : Int32) &&& 0x3f).toInt64.toUInt64).toInt64).toInt32) = ff) (A_w_WIRE_TYPES : Oar Z Z.heap w_WIRE_TYPES kW (.object "java/lang/String") vW) (S_WIRE_TYPES : Sta Z Z.heap "com/example/fillwire/fillwire/codec/ProtoReader" "WIRE_TYPES" "[Ljava/lang/String;" (.ref w_WIRE_TYPES)) :
    MetFree l (⟨"com/example/fillwire/fillwire/codec/ProtoReader", "skipValue", "(I)V"⟩ : MethodName) (head1 (Jvm.Cond.code (⟨"com/example/fillwire/fillwire/codec/ProtoReader", "skipValue", "(I)V"⟩ : MethodName) prog_34_method_12_code 2 none :: ws) ({ frames := 3, cells := 0, slots := 0, locals := 46 } : Room)) (fun a U => a = #[(.ref r0), (.int (0 : Int32))] ∧ Z.Warmed39 U.vm ∧ U.heap = h0) (fun _ _ _ _ _ => True) (fun _ U o U' => ∃ v L, o = .returned v ∧ Qrm13t3 Z r0 ba pp en ff kA vs fv kv kW vW w_WIRE_TYPES h0 n0 v U'.heap L ∧ FrameEnd U o U' L ({ frames := 3, cells := 0, slots := 0, locals := 46 } : Room).cells ({ frames := 3, cells := 0, slots := 0, locals := 46 } : Room).slots) := by
  refine MetFree.of_bodySF (plainFor_of_name pn_com_example_fillwire_fillwire_codec_ProtoReader) hisR ?_
  intro p e s m args below meth c s₁ Bd hml0 hP hK
  obtain ⟨rfl, hZ, hh⟩ := hP
  have hx := Bd.exec
  have hby := Bd.bytes
  have hml : c.maxLocals = 2 := hml0
  have hown : s.vm.findClass "com/example/fillwire/fillwire/codec/ProtoReader" = some m.cls := findClass_of_methodNamed Bd.named
  have hnm := (name_of_methodNamed Bd.named Bd.method).1
  have X0 : Stand p l e ({ frames := 3, cells := 0, slots := 0, locals := 46 } : Room) s m #[(.ref r0), (.int (0 : Int32))] below meth c s₁ [] 0 0 := Stand.of_body Bd
  have e0 : s₁.heap = h0 := by rw [← hh, Bd.state]; rfl
  have N0 := Fr.nil n0
  show OFin p e below (fun o t L => FrameEnd s o t L ({ frames := 3, cells := 0, slots := 0, locals := 46 } : Room).cells ({ frames := 3, cells := 0, slots := 0, locals := 46 } : Room).slots) (fun v h L => Qrm13t3 Z r0 ba pp en ff kA vs fv kv kW vW w_WIRE_TYPES h0 n0 v h L) s₁ (entryFrame m #[(.ref r0), (.int (0 : Int32))] 2)
  refine OFin.cast (ef_rm13t3 m r0) ?_
  show OFin p e below _ _ s₁ (mkF m 0 #[.val (.ref r0), .val (.int (0 : Int32))] [])
  refine OFin.st (fun t k => XS.aloadN X0.here hx rfl (hb hby d13_0) rfl rfl k) ?_
  show OFin p e below _ _ s₁ (mkF m 1 #[.val (.ref r0), .val (.int (0 : Int32))] [(.ref r0)])
  obtain ⟨T1, X1, e1, st1⟩ := getF X0 hx hZ hown (host := "") (Or.inl (hw _ (List.mem_of_getElem? (i := 63) rfl))) Via.refl e0 F_wireType_r0 (g := (mkF m 1 #[.val (.ref r0), .val (.int (0 : Int32))] [(.ref r0)])) rfl rfl (hb hby d13_1)
  refine OFin.st st1 ?_
  show OFin p e below _ _ T1 (mkF m 4 #[.val (.ref r0), .val (.int (0 : Int32))] [(.int (3 : Int32))])
  refine OFin.st (fun t k => XS.tswIn X1.here hx rfl (pc0 := 4) (pc' := 80) rfl (hb hby d13_4) rfl (by decide) (o := 76) rfl (by decide) (by decide) k) ?_
  show OFin p e below _ _ T1 (mkF m 80 #[.val (.ref r0), .val (.int (0 : Int32))] [])
  refine OFin.st (fun t k => XS.aloadN X1.here hx rfl (hb hby d13_80) rfl rfl k) ?_
  show OFin p e below _ _ T1 (mkF m 81 #[.val (.ref r0), .val (.int (0 : Int32))] [(.ref r0)])
  refine OFin.st (fun t k => XS.iloadN X1.here hx rfl (hb hby d13_81) rfl k) ?_
  show OFin p e below _ _ T1 (mkF m 82 #[.val (.ref r0), .val (.int (0 : Int32))] [(.int (0 : Int32)), (.ref r0)])
  refine OFin.st (fun t k => XS.iconst X1.here hx rfl (hb hby d13_82) k) ?_
  show OFin p e below _ _ T1 (mkF m 83 #[.val (.ref r0), .val (.int (0 : Int32))] [(.int (1 : Int32)), (.int (0 : Int32)), (.ref r0)])
  refine OFin.st (fun t k => XS.iadd X1.here hx rfl (hb hby d13_83) rfl k) ?_
  show OFin p e below _ _ T1 (mkF m 84 #[.val (.ref r0), .val (.int (0 : Int32))] [(.int ((0 : Int32) + (1 : Int32))), (.ref r0)])
  obtain ⟨cq2, q2, q2'⟩ := E_r0.cell
  obtain ⟨_, _, ⟨T2, L2, k2, n2⟩, -, X2, ⟨Lc2, hQ2, l2, y2, z2⟩, st2⟩ := X1.privateBack hx (y := (⟨"com/example/fillwire/fillwire/codec/ProtoReader", "skipGroup", "(I)V"⟩ : MethodName)) hown (mvT hZ (hw _ (List.mem_of_getElem? (i := 81) rfl))) (mvT hZ (hw _ (List.mem_of_getElem? (i := 82) rfl))) (own_selP hZ (hw _ (List.mem_of_getElem? (i := 1) rfl)) (hw _ (List.mem_of_getElem? (i := 83) rfl)) (hw _ (List.mem_of_getElem? (i := 82) rfl)) (by decide)) (Cond.privateMethod_at (mvP hZ (hw _ (List.mem_of_getElem? (i := 83) rfl)) (args := #[]))) (mvT hZ (hw _ (List.mem_of_getElem? (i := 84) rfl))) (by decide) (backOf (W := 0) (rm14 l Z a0 hw [] r0 ((0 : Int32) + (1 : Int32)) ba pp en ff (3 : Int32) kA vs fv kv kW vW w_WIRE_TYPES h0 n0 O0 E_r0 F_bytes_r0 F_position_r0 F_end_r0 F_field_r0 F_wireType_r0 A_ba g_r0 N_ba_r0 (hk : kv ≤ 9) (hcn : ∀ i, i < kv → fv i < 0) (hln : ¬ fv kv < 0) (h9 : kv = 9 → ¬ (1 : Int32) < fv kv) (hp0 : 0 ≤ pp.toInt) (hp1 : pp.toInt < 2000000000) (hvs : ∀ i, i ≤ kv → vs[pp.toInt.toNat + i]? = some (Value.int (fv i))) (hne : ∀ i, i ≤ kv → ¬ vpo pp i = en) (hn0 : ¬ (((vac fv (kv + 1)).toUInt64 >>> ((3 : Int32) &&& 0x3f).toInt64.toUInt64).toInt64) = (0 : Int64)) (hnq : ¬ (536870911 : Int64) < (((vac fv (kv + 1)).toUInt64 >>> ((3 : Int32) &&& 0x3f).toInt64.toUInt64).toInt64)) (hwt : (((vac fv (kv + 1)).toInt32) &&& (7 : Int32)) < (6 : Int32)) (hW6 : vW.length = 6) (by decide) (hw4 : (((vac fv (kv + 1)).toInt32) &&& (7 : Int32)) = (4 : Int32)) (hgf : ((((vac fv (kv + 1)).toUInt64 >>> ((3 : Int32) &&& 0x3f).toInt64.toUInt64).toInt64).toInt32) = ff) A_w_WIRE_TYPES S_WIRE_TYPES) hZ (hw _ (List.mem_of_getElem? (i := 84) rfl)) (hw _ (List.mem_of_getElem? (i := 2) rfl)) (by decide) (by decide)) (g := (mkF m 84 #[.val (.ref r0), .val (.int (0 : Int32))] [(.int ((0 : Int32) + (1 : Int32))), (.ref r0)])) rfl (by rw [hml]; rfl) (Steps.refl _) (a := r0) (by rw [e1]; exact q2) q2' (argsL := [(.int ((0 : Int32) + (1 : Int32)))]) (rest := []) (lenOf pd_4 rfl) rfl (by show 2 * 0 + _ ≤ _; exact Nat.le_of_eq rfl) (hb hby d13_84) (fun _ _ => ⟨rfl, e1, (by decide : 0 + 0 ≤ _), (by decide : 0 + 0 ≤ _)⟩)
  dsimp only [Pt.U, Pt.locs, Pt.cells, Pt.slots] at X2 l2 y2 z2 st2 hQ2
  subst l2 y2 z2
  obtain ⟨rfl, N2q, K2q, P2_0, P2_1, P2_2, P2_3, P2_4, P2_5⟩ := hQ2
  have N2 := Fr.app N0 N2q
  have K2 : Keep h0 T2.heap [r0] := (Keep.refl h0 [r0]).trans K2q (allS (Or.inl (List.mem_of_getElem? (i := 0) rfl)) all0)
  have O2 : Old Z n0 T2.heap := O0.keep K2q (allS g_r0 all0)
  refine OFin.tr st2 ?_
  show OFin p e below _ _ T2 (mkF m 87 #[.val (.ref r0), .val (.int (0 : Int32))] [])
  exact own_retV X2 hx Bd.returns Bd.notSynchronized (hb hby d13_87) (by show Qrm13t3 Z r0 ba pp en ff kA vs fv kv kW vW w_WIRE_TYPES h0 n0 _ T2.heap _; exact ⟨rfl, N2, K2, P2_0, P2_1, P2_2, P2_3, P2_4, P2_5⟩) (own_endN (by decide) (by decide))
theorem ef_rm12t3 (m : MethodId) (r0 : Addr) : entryFrame m #[(.ref r0)] 1 = mkF m 0 #[.val (.ref r0)] [] := by first | (simp [entryFrame, mkF, argsToLocals, Value.category]; done) | rfl
def Qrm12t3 (Z : State) (r0 : Addr) (ba : Addr) (pp : Int32) (en : Int32) (ff : Int32) (kA : ClassId) (vs : List Value) (fv : Nat → Int32) (kv : Nat) (kW : ClassId) (vW : List Value) (w_WIRE_TYPES : Addr) (h0 : Heap) (n0 : Nat) (v : Option Value) (h : Heap) (L : List Loc) : Prop := v = none ∧ Fr n0 L ∧ Keep h0 h [r0] ∧ Exa Z h r0 "com/example/fillwire/fillwire/codec/ProtoReader" ∧ Fld Z h r0 "com/example/fillwire/fillwire/codec/ProtoReader" "bytes" "[B" (.ref ba) ∧ Fld Z h r0 "com/example/fillwire/fillwire/codec/ProtoReader" "position" "I" (.int (vpo pp (kv + 1))) ∧ Fld Z h r0 "com/example/fillwire/fillwire/codec/ProtoReader" "end" "I" (.int en) ∧ Fld Z h r0 "com/example/fillwire/fillwire/codec/ProtoReader" "field" "I" (.int ((((vac fv (kv + 1)).toUInt64 >>> ((3 : Int32) &&& 0x3f).toInt64.toUInt64).toInt64).toInt32)) ∧ Fld Z h r0 "com/example/fillwire/fillwire/codec/ProtoReader" "wireType" "I" (.int (((vac fv (kv + 1)).toInt32) &&& (7 : Int32)))
set_option maxRecDepth 65536 in
set_option maxHeartbeats 40000000 in
theorem rm12t3 (l : Launch) (Z : State) (a0 : Array Value) (hw : ∀ d ∈ tables_1, d.before a0 Z = true) (ws : List Jvm.Cond) (r0 : Addr) (ba : Addr) (pp : Int32) (en : Int32) (ff : Int32) (kA : ClassId) (vs : List Value) (fv : Nat → Int32) (kv : Nat) (kW : ClassId) (vW : List Value) (w_WIRE_TYPES : Addr) (h0 : Heap) (n0 : Nat) (O0 : Old Z n0 h0) (E_r0 : Exa Z h0 r0 "com/example/fillwire/fillwire/codec/ProtoReader") (F_bytes_r0 : Fld Z h0 r0 "com/example/fillwire/fillwire/codec/ProtoReader" "bytes" "[B" (.ref ba)) (F_position_r0 : Fld Z h0 r0 "com/example/fillwire/fillwire/codec/ProtoReader" "position" "I" (.int pp)) (F_end_r0 : Fld Z h0 r0 "com/example/fillwire/fillwire/codec/ProtoReader" "end" "I" (.int en)) (F_field_r0 : Fld Z h0 r0 "com/example/fillwire/fillwire/codec/ProtoReader" "field" "I" (.int ff)) (F_wireType_r0 : Fld Z h0 r0 "com/example/fillwire/fillwire/codec/ProtoReader" "wireType" "I" (.int (3 : Int32))) (A_ba : Oar Z h0 ba kA .byte vs) (g_r0 : n0 ≤ r0) (N_ba_r0 : ba ≠ r0) (hk : kv ≤ 9) (hcn : ∀ i, i < kv → fv i < 0) (hln : ¬ fv kv < 0) (h9 : kv = 9 → ¬ (1 : Int32) < fv kv) (hp0 : 0 ≤ pp.toInt) (hp1 : pp.toInt < 2000000000) (hvs : ∀ i, i ≤ kv → vs[pp.toInt.toNat + i]? = some (Value.int (fv i))) (hne : ∀ i, i ≤ kv → ¬ vpo pp i = en) (hn0 : ¬ (((vac fv (kv + 1)).toUInt64 >>> ((3 : Int32) &&& 0x3f).toInt64.toUInt64).toInt64) = (0 : Int64)) (hnq : ¬ (536870911 : Int64) < (((vac fv (kv + 1)).toUInt64 >>> ((3 : Int32) &&& 0x3f).toInt64.toUInt64).toInt64)) (hwt : (((vac fv (kv + 1)).toInt32) &&& (7 : Int32)) < (6 : Int32)) (hW6 : vW.length = 6) (hw4 : (((vac fv (kv + 1)).toInt32) &&& (7 : Int32)) = (4 : Int32)) (hgf : ((((vac fv (kv + 1)).toUInt64 >>> ((3 : Int32) &&& 0x3f).toInt64.toUInt64).toInt64).toInt32) = ff) (A_w_WIRE_TYPES : Oar Z Z.heap w_WIRE_TYPES kW (.object "java/lang/String") vW) (S_WIRE_TYPES : Sta Z Z.heap "com/example/fillwire/fillwire/codec/ProtoReader" "WIRE_TYPES" "[Ljava/lang/String;" (.ref w_WIRE_TYPES)) :
    MetFree l (⟨"com/example/fillwire/fillwire/codec/ProtoReader", "skip", "()V"⟩ : MethodName) (head1 (Jvm.Cond.code (⟨"com/example/fillwire/fillwire/codec/ProtoReader", "skip", "()V"⟩ : MethodName) prog_34_method_11_code 1 none :: ws) ({ frames := 4, cells := 0, slots := 0, locals := 59 } : Room)) (fun a U => a = #[(.ref r0)] ∧ Z.Warmed39 U.vm ∧ U.heap = h0) (fun _ _ _ _ _ => True) (fun _ U o U' => ∃ v L, o = .returned v ∧ Qrm12t3 Z r0 ba pp en ff kA vs fv kv kW vW w_WIRE_TYPES h0 n0 v U'.heap L ∧ FrameEnd U o U' L ({ frames := 4, cells := 0, slots := 0, locals := 59 } : Room).cells ({ frames := 4, cells := 0, slots := 0, locals := 59 } : Room).slots) := by
  refine MetFree.of_bodySF (plainFor_of_name pn_com_example_fillwire_fillwire_codec_ProtoReader) hisR ?_
  intro p e s m args below meth c s₁ Bd hml0 hP hK
  obtain ⟨rfl, hZ, hh⟩ := hP
  have hx := Bd.exec
  have hby := Bd.bytes
  have hml : c.maxLocals = 1 := hml0
  have hown : s.vm.findClass "com/example/fillwire/fillwire/codec/ProtoReader" = some m.cls := findClass_of_methodNamed Bd.named
  have hnm := (name_of_methodNamed Bd.named Bd.method).1
  have X0 : Stand p l e ({ frames := 4, cells := 0, slots := 0, locals := 59 } : Room) s m #[(.ref r0)] below meth c s₁ [] 0 0 := Stand.of_body Bd
  have e0 : s₁.heap = h0 := by rw [← hh, Bd.state]; rfl
  have N0 := Fr.nil n0
  show OFin p e below (fun o t L => FrameEnd s o t L ({ frames := 4, cells := 0, slots := 0, locals := 59 } : Room).cells ({ frames := 4, cells := 0, slots := 0, locals := 59 } : Room).slots) (fun v h L => Qrm12t3 Z r0 ba pp en ff kA vs fv kv kW vW w_WIRE_TYPES h0 n0 v h L) s₁ (entryFrame m #[(.ref r0)] 1)
  refine OFin.cast (ef_rm12t3 m r0) ?_
  show OFin p e below _ _ s₁ (mkF m 0 #[.val (.ref r0)] [])
  refine OFin.st (fun t k => XS.aloadN X0.here hx rfl (hb hby d12_0) rfl rfl k) ?_
  show OFin p e below _ _ s₁ (mkF m 1 #[.val (.ref r0)] [(.ref r0)])
  refine OFin.st (fun t k => XS.iconst X0.here hx rfl (hb hby d12_1) k) ?_
  show OFin p e below _ _ s₁ (mkF m 2 #[.val (.ref r0)] [(.int (0 : Int32)), (.ref r0)])
  obtain ⟨cq1, q1, q1'⟩ := E_r0.cell
  obtain ⟨_, _, ⟨T1, L1, k1, n1⟩, -, X1, ⟨Lc1, hQ1, l1, y1, z1⟩, st1⟩ := X0.privateBack hx (y := (⟨"com/example/fillwire/fillwire/codec/ProtoReader", "skipValue", "(I)V"⟩ : MethodName)) hown (mvT hZ (hw _ (List.mem_of_getElem? (i := 77) rfl))) (mvT hZ (hw _ (List.mem_of_getElem? (i := 78) rfl))) (own_selP hZ (hw _ (List.mem_of_getElem? (i := 1) rfl)) (hw _ (List.mem_of_getElem? (i := 79) rfl)) (hw _ (List.mem_of_getElem? (i := 78) rfl)) (by decide)) (Cond.privateMethod_at (mvP hZ (hw _ (List.mem_of_getElem? (i := 79) rfl)) (args := #[]))) (mvT hZ (hw _ (List.mem_of_getElem? (i := 80) rfl))) (by decide) (backOf (W := 0) (rm13t3 l Z a0 hw [] r0 ba pp en ff kA vs fv kv kW vW w_WIRE_TYPES h0 n0 O0 E_r0 F_bytes_r0 F_position_r0 F_end_r0 F_field_r0 F_wireType_r0 A_ba g_r0 N_ba_r0 (hk : kv ≤ 9) (hcn : ∀ i, i < kv → fv i < 0) (hln : ¬ fv kv < 0) (h9 : kv = 9 → ¬ (1 : Int32) < fv kv) (hp0 : 0 ≤ pp.toInt) (hp1 : pp.toInt < 2000000000) (hvs : ∀ i, i ≤ kv → vs[pp.toInt.toNat + i]? = some (Value.int (fv i))) (hne : ∀ i, i ≤ kv → ¬ vpo pp i = en) (hn0 : ¬ (((vac fv (kv + 1)).toUInt64 >>> ((3 : Int32) &&& 0x3f).toInt64.toUInt64).toInt64) = (0 : Int64)) (hnq : ¬ (536870911 : Int64) < (((vac fv (kv + 1)).toUInt64 >>> ((3 : Int32) &&& 0x3f).toInt64.toUInt64).toInt64)) (hwt : (((vac fv (kv + 1)).toInt32) &&& (7 : Int32)) < (6 : Int32)) (hW6 : vW.length = 6) (hw4 : (((vac fv (kv + 1)).toInt32) &&& (7 : Int32)) = (4 : Int32)) (hgf : ((((vac fv (kv + 1)).toUInt64 >>> ((3 : Int32) &&& 0x3f).toInt64.toUInt64).toInt64).toInt32) = ff) A_w_WIRE_TYPES S_WIRE_TYPES) hZ (hw _ (List.mem_of_getElem? (i := 80) rfl)) (hw _ (List.mem_of_getElem? (i := 2) rfl)) (by decide) (by decide)) (g := (mkF m 2 #[.val (.ref r0)] [(.int (0 : Int32)), (.ref r0)])) rfl (by rw [hml]; rfl) (Steps.refl _) (a := r0) (by rw [e0]; exact q1) q1' (argsL := [(.int (0 : Int32))]) (rest := []) (lenOf pd_4 rfl) rfl (by show 2 * 0 + _ ≤ _; exact Nat.le_of_eq rfl) (hb hby d12_2) (fun _ _ => ⟨rfl, e0, (by decide : 0 + 0 ≤ _), (by decide : 0 + 0 ≤ _)⟩)
  dsimp only [Pt.U, Pt.locs, Pt.cells, Pt.slots] at X1 l1 y1 z1 st1 hQ1
  subst l1 y1 z1
  obtain ⟨rfl, N1q, K1q, P1_0, P1_1, P1_2, P1_3, P1_4, P1_5⟩ := hQ1
  have N1 := Fr.app N0 N1q
  have K1 : Keep h0 T1.heap [r0] := (Keep.refl h0 [r0]).trans K1q (allS (Or.inl (List.mem_of_getElem? (i := 0) rfl)) all0)
  have O1 : Old Z n0 T1.heap := O0.keep K1q (allS g_r0 all0)
  refine OFin.tr st1 ?_
  show OFin p e below _ _ T1 (mkF m 5 #[.val (.ref r0)] [])
  exact own_retV X1 hx Bd.returns Bd.notSynchronized (hb hby d12_5) (by show Qrm12t3 Z r0 ba pp en ff kA vs fv kv kW vW w_WIRE_TYPES h0 n0 _ T1.heap _; exact ⟨rfl, N1, K1, P1_0, P1_1, P1_2, P1_3, P1_4, P1_5⟩) (own_endN (by decide) (by decide))
theorem ef_rm13t5 (m : MethodId) (r0 : Addr) : entryFrame m #[(.ref r0), (.int (0 : Int32))] 2 = mkF m 0 #[.val (.ref r0), .val (.int (0 : Int32))] [] := by first | (simp [entryFrame, mkF, argsToLocals, Value.category]; done) | rfl
def Qrm13t5 (Z : State) (r0 : Addr) (ba : Addr) (pp : Int32) (en : Int32) (ff : Int32) (kA : ClassId) (vs : List Value) (h0 : Heap) (n0 : Nat) (v : Option Value) (h : Heap) (L : List Loc) : Prop := v = none ∧ Fr n0 L ∧ Keep h0 h [r0] ∧ Exa Z h r0 "com/example/fillwire/fillwire/codec/ProtoReader" ∧ Fld Z h r0 "com/example/fillwire/fillwire/codec/ProtoReader" "bytes" "[B" (.ref ba) ∧ Fld Z h r0 "com/example/fillwire/fillwire/codec/ProtoReader" "position" "I" (.int (pp + (4 : Int32))) ∧ Fld Z h r0 "com/example/fillwire/fillwire/codec/ProtoReader" "end" "I" (.int en) ∧ Fld Z h r0 "com/example/fillwire/fillwire/codec/ProtoReader" "field" "I" (.int ff) ∧ Fld Z h r0 "com/example/fillwire/fillwire/codec/ProtoReader" "wireType" "I" (.int (5 : Int32))
set_option maxRecDepth 65536 in
set_option maxHeartbeats 40000000 in
theorem rm13t5 (l : Launch) (Z : State) (a0 : Array Value) (hw : ∀ d ∈ tables_1, d.before a0 Z = true) (ws : List Jvm.Cond) (r0 : Addr) (ba : Addr) (pp : Int32) (en : Int32) (ff : Int32) (kA : ClassId) (vs : List Value) (h0 : Heap) (n0 : Nat) (O0 : Old Z n0 h0) (E_r0 : Exa Z h0 r0 "com/example/fillwire/fillwire/codec/ProtoReader") (F_bytes_r0 : Fld Z h0 r0 "com/example/fillwire/fillwire/codec/ProtoReader" "bytes" "[B" (.ref ba)) (F_position_r0 : Fld Z h0 r0 "com/example/fillwire/fillwire/codec/ProtoReader" "position" "I" (.int pp)) (F_end_r0 : Fld Z h0 r0 "com/example/fillwire/fillwire/codec/ProtoReader" "end" "I" (.int en)) (F_field_r0 : Fld Z h0 r0 "com/example/fillwire/fillwire/codec/ProtoReader" "field" "I" (.int ff)) (F_wireType_r0 : Fld Z h0 r0 "com/example/fillwire/fillwire/codec/ProtoReader" "wireType" "I" (.int (5 : Int32))) (A_ba : Oar Z h0 ba kA .byte vs) (g_r0 : n0 ≤ r0) (N_ba_r0 : ba ≠ r0) (hadv : ¬ (en - pp) < (4 : Int32)) :
    MetFree l (⟨"com/example/fillwire/fillwire/codec/ProtoReader", "skipValue", "(I)V"⟩ : MethodName) (head1 (Jvm.Cond.code (⟨"com/example/fillwire/fillwire/codec/ProtoReader", "skipValue", "(I)V"⟩ : MethodName) prog_34_method_12_code 2 none :: ws) ({ frames := 1, cells := 0, slots := 0, locals := 13 } : Room)) (fun a U => a = #[(.ref r0), (.int (0 : Int32))] ∧ Z.Warmed39 U.vm ∧ U.heap = h0) (fun _ _ _ _ _ => True) (fun _ U o U' => ∃ v L, o = .returned v ∧ Qrm13t5 Z r0 ba pp en ff kA vs h0 n0 v U'.heap L ∧ FrameEnd U o U' L ({ frames := 1, cells := 0, slots := 0, locals := 13 } : Room).cells ({ frames := 1, cells := 0, slots := 0, locals := 13 } : Room).slots) := by
  refine MetFree.of_bodySF (plainFor_of_name pn_com_example_fillwire_fillwire_codec_ProtoReader) hisR ?_
  intro p e s m args below meth c s₁ Bd hml0 hP hK
  obtain ⟨rfl, hZ, hh⟩ := hP
  have hx := Bd.exec
  have hby := Bd.bytes
  have hml : c.maxLocals = 2 := hml0
  have hown : s.vm.findClass "com/example/fillwire/fillwire/codec/ProtoReader" = some m.cls := findClass_of_methodNamed Bd.named
  have hnm := (name_of_methodNamed Bd.named Bd.method).1
  have X0 : Stand p l e ({ frames := 1, cells := 0, slots := 0, locals := 13 } : Room) s m #[(.ref r0), (.int (0 : Int32))] below meth c s₁ [] 0 0 := Stand.of_body Bd
  have e0 : s₁.heap = h0 := by rw [← hh, Bd.state]; rfl
  have N0 := Fr.nil n0
  show OFin p e below (fun o t L => FrameEnd s o t L ({ frames := 1, cells := 0, slots := 0, locals := 13 } : Room).cells ({ frames := 1, cells := 0, slots := 0, locals := 13 } : Room).slots) (fun v h L => Qrm13t5 Z r0 ba pp en ff kA vs h0 n0 v h L) s₁ (entryFrame m #[(.ref r0), (.int (0 : Int32))] 2)
  refine OFin.cast (ef_rm13t5 m r0) ?_
  show OFin p e below _ _ s₁ (mkF m 0 #[.val (.ref r0), .val (.int (0 : Int32))] [])
  refine OFin.st (fun t k => XS.aloadN X0.here hx rfl (hb hby d13_0) rfl rfl k) ?_
  show OFin p e below _ _ s₁ (mkF m 1 #[.val (.ref r0), .val (.int (0 : Int32))] [(.ref r0)])
  obtain ⟨T1, X1, e1, st1⟩ := getF X0 hx hZ hown (host := "") (Or.inl (hw _ (List.mem_of_getElem? (i := 63) rfl))) Via.refl e0 F_wireType_r0 (g := (mkF m 1 #[.val (.ref r0), .val (.int (0 : Int32))] [(.ref r0)])) rfl rfl (hb hby d13_1)
  refine OFin.st st1 ?_
  show OFin p e below _ _ T1 (mkF m 4 #[.val (.ref r0), .val (.int (0 : Int32))] [(.int (5 : Int32))])
  refine OFin.st (fun t k => XS.tswIn X1.here hx rfl (pc0 := 4) (pc' := 72) rfl (hb hby d13_4) rfl (by decide) (o := 68) rfl (by decide) (by decide) k) ?_
  show OFin p e below _ _ T1 (mkF m 72 #[.val (.ref r0), .val (.int (0 : Int32))] [])
  refine OFin.st (fun t k => XS.aloadN X1.here hx rfl (hb hby d13_72) rfl rfl k) ?_
  show OFin p e below _ _ T1 (mkF m 73 #[.val (.ref r0), .val (.int (0 : Int32))] [(.ref r0)])
  refine OFin.st (fun t k => XS.iconst X1.here hx rfl (hb hby d13_73) k) ?_
  show OFin p e below _ _ T1 (mkF m 74 #[.val (.ref r0), .val (.int (0 : Int32))] [(.int (4 : Int32)), (.ref r0)])
  obtain ⟨cq2, q2, q2'⟩ := E_r0.cell
  obtain ⟨_, _, ⟨T2, L2, k2, n2⟩, -, X2, ⟨Lc2, hQ2, l2, y2, z2⟩, st2⟩ := X1.privateBack hx (y := (⟨"com/example/fillwire/fillwire/codec/ProtoReader", "advance", "(I)V"⟩ : MethodName)) hown (mvT hZ (hw _ (List.mem_of_getElem? (i := 86) rfl))) (mvT hZ (hw _ (List.mem_of_getElem? (i := 87) rfl))) (own_selP hZ (hw _ (List.mem_of_getElem? (i := 1) rfl)) (hw _ (List.mem_of_getElem? (i := 88) rfl)) (hw _ (List.mem_of_getElem? (i := 87) rfl)) (by decide)) (Cond.privateMethod_at (mvP hZ (hw _ (List.mem_of_getElem? (i := 88) rfl)) (args := #[]))) (mvT hZ (hw _ (List.mem_of_getElem? (i := 89) rfl))) (by decide) (backOf (W := 0) (rm15 l Z a0 hw [] r0 (4 : Int32) ba pp en ff (5 : Int32) h0 n0 O0 E_r0 F_bytes_r0 F_position_r0 F_end_r0 F_field_r0 F_wireType_r0 g_r0 (hadv : ¬ (en - pp) < (4 : Int32))) hZ (hw _ (List.mem_of_getElem? (i := 89) rfl)) (hw _ (List.mem_of_getElem? (i := 2) rfl)) (by decide) (by decide)) (g := (mkF m 74 #[.val (.ref r0), .val (.int (0 : Int32))] [(.int (4 : Int32)), (.ref r0)])) rfl (by rw [hml]; rfl) (Steps.refl _) (a := r0) (by rw [e1]; exact q2) q2' (argsL := [(.int (4 : Int32))]) (rest := []) (lenOf pd_4 rfl) rfl (by show 2 * 0 + _ ≤ _; exact Nat.le_of_eq rfl) (hb hby d13_74) (fun _ _ => ⟨rfl, e1, (by decide : 0 + 0 ≤ _), (by decide : 0 + 0 ≤ _)⟩)
  dsimp only [Pt.U, Pt.locs, Pt.cells, Pt.slots] at X2 l2 y2 z2 st2 hQ2
  subst l2 y2 z2
  obtain ⟨rfl, N2q, K2q, P2_0, P2_1, P2_2, P2_3, P2_4, P2_5⟩ := hQ2
  have N2 := Fr.app N0 N2q
  have K2 : Keep h0 T2.heap [r0] := (Keep.refl h0 [r0]).trans K2q (allS (Or.inl (List.mem_of_getElem? (i := 0) rfl)) all0)
  have O2 : Old Z n0 T2.heap := O0.keep K2q (allS g_r0 all0)
  refine OFin.tr st2 ?_
  show OFin p e below _ _ T2 (mkF m 77 #[.val (.ref r0), .val (.int (0 : Int32))] [])
  refine OFin.st (fun t k => XS.goto X2.here hx rfl (pc0 := 77) (pc' := 87) rfl (hb hby d13_77) (by decide) (by decide) k) ?_
  show OFin p e below _ _ T2 (mkF m 87 #[.val (.ref r0), .val (.int (0 : Int32))] [])
  exact own_retV X2 hx Bd.returns Bd.notSynchronized (hb hby d13_87) (by show Qrm13t5 Z r0 ba pp en ff kA vs h0 n0 _ T2.heap _; exact ⟨rfl, N2, K2, P2_0, P2_1, P2_2, P2_3, P2_4, P2_5⟩) (own_endN (by decide) (by decide))
theorem ef_rm12t5 (m : MethodId) (r0 : Addr) : entryFrame m #[(.ref r0)] 1 = mkF m 0 #[.val (.ref r0)] [] := by first | (simp [entryFrame, mkF, argsToLocals, Value.category]; done) | rfl
def Qrm12t5 (Z : State) (r0 : Addr) (ba : Addr) (pp : Int32) (en : Int32) (ff : Int32) (kA : ClassId) (vs : List Value) (h0 : Heap) (n0 : Nat) (v : Option Value) (h : Heap) (L : List Loc) : Prop := v = none ∧ Fr n0 L ∧ Keep h0 h [r0] ∧ Exa Z h r0 "com/example/fillwire/fillwire/codec/ProtoReader" ∧ Fld Z h r0 "com/example/fillwire/fillwire/codec/ProtoReader" "bytes" "[B" (.ref ba) ∧ Fld Z h r0 "com/example/fillwire/fillwire/codec/ProtoReader" "position" "I" (.int (pp + (4 : Int32))) ∧ Fld Z h r0 "com/example/fillwire/fillwire/codec/ProtoReader" "end" "I" (.int en) ∧ Fld Z h r0 "com/example/fillwire/fillwire/codec/ProtoReader" "field" "I" (.int ff) ∧ Fld Z h r0 "com/example/fillwire/fillwire/codec/ProtoReader" "wireType" "I" (.int (5 : Int32))
set_option maxRecDepth 65536 in
set_option maxHeartbeats 40000000 in
theorem rm12t5 (l : Launch) (Z : State) (a0 : Array Value) (hw : ∀ d ∈ tables_1, d.before a0 Z = true) (ws : List Jvm.Cond) (r0 : Addr) (ba : Addr) (pp : Int32) (en : Int32) (ff : Int32) (kA : ClassId) (vs : List Value) (h0 : Heap) (n0 : Nat) (O0 : Old Z n0 h0) (E_r0 : Exa Z h0 r0 "com/example/fillwire/fillwire/codec/ProtoReader") (F_bytes_r0 : Fld Z h0 r0 "com/example/fillwire/fillwire/codec/ProtoReader" "bytes" "[B" (.ref ba)) (F_position_r0 : Fld Z h0 r0 "com/example/fillwire/fillwire/codec/ProtoReader" "position" "I" (.int pp)) (F_end_r0 : Fld Z h0 r0 "com/example/fillwire/fillwire/codec/ProtoReader" "end" "I" (.int en)) (F_field_r0 : Fld Z h0 r0 "com/example/fillwire/fillwire/codec/ProtoReader" "field" "I" (.int ff)) (F_wireType_r0 : Fld Z h0 r0 "com/example/fillwire/fillwire/codec/ProtoReader" "wireType" "I" (.int (5 : Int32))) (A_ba : Oar Z h0 ba kA .byte vs) (g_r0 : n0 ≤ r0) (N_ba_r0 : ba ≠ r0) (hadv : ¬ (en - pp) < (4 : Int32)) :
    MetFree l (⟨"com/example/fillwire/fillwire/codec/ProtoReader", "skip", "()V"⟩ : MethodName) (head1 (Jvm.Cond.code (⟨"com/example/fillwire/fillwire/codec/ProtoReader", "skip", "()V"⟩ : MethodName) prog_34_method_11_code 1 none :: ws) ({ frames := 2, cells := 0, slots := 0, locals := 26 } : Room)) (fun a U => a = #[(.ref r0)] ∧ Z.Warmed39 U.vm ∧ U.heap = h0) (fun _ _ _ _ _ => True) (fun _ U o U' => ∃ v L, o = .returned v ∧ Qrm12t5 Z r0 ba pp en ff kA vs h0 n0 v U'.heap L ∧ FrameEnd U o U' L ({ frames := 2, cells := 0, slots := 0, locals := 26 } : Room).cells ({ frames := 2, cells := 0, slots := 0, locals := 26 } : Room).slots) := by
  refine MetFree.of_bodySF (plainFor_of_name pn_com_example_fillwire_fillwire_codec_ProtoReader) hisR ?_
  intro p e s m args below meth c s₁ Bd hml0 hP hK
  obtain ⟨rfl, hZ, hh⟩ := hP
  have hx := Bd.exec
  have hby := Bd.bytes
  have hml : c.maxLocals = 1 := hml0
  have hown : s.vm.findClass "com/example/fillwire/fillwire/codec/ProtoReader" = some m.cls := findClass_of_methodNamed Bd.named
  have hnm := (name_of_methodNamed Bd.named Bd.method).1
  have X0 : Stand p l e ({ frames := 2, cells := 0, slots := 0, locals := 26 } : Room) s m #[(.ref r0)] below meth c s₁ [] 0 0 := Stand.of_body Bd
  have e0 : s₁.heap = h0 := by rw [← hh, Bd.state]; rfl
  have N0 := Fr.nil n0
  show OFin p e below (fun o t L => FrameEnd s o t L ({ frames := 2, cells := 0, slots := 0, locals := 26 } : Room).cells ({ frames := 2, cells := 0, slots := 0, locals := 26 } : Room).slots) (fun v h L => Qrm12t5 Z r0 ba pp en ff kA vs h0 n0 v h L) s₁ (entryFrame m #[(.ref r0)] 1)
  refine OFin.cast (ef_rm12t5 m r0) ?_
  show OFin p e below _ _ s₁ (mkF m 0 #[.val (.ref r0)] [])
  refine OFin.st (fun t k => XS.aloadN X0.here hx rfl (hb hby d12_0) rfl rfl k) ?_
  show OFin p e below _ _ s₁ (mkF m 1 #[.val (.ref r0)] [(.ref r0)])
  refine OFin.st (fun t k => XS.iconst X0.here hx rfl (hb hby d12_1) k) ?_
  show OFin p e below _ _ s₁ (mkF m 2 #[.val (.ref r0)] [(.int (0 : Int32)), (.ref r0)])
  obtain ⟨cq1, q1, q1'⟩ := E_r0.cell
  obtain ⟨_, _, ⟨T1, L1, k1, n1⟩, -, X1, ⟨Lc1, hQ1, l1, y1, z1⟩, st1⟩ := X0.privateBack hx (y := (⟨"com/example/fillwire/fillwire/codec/ProtoReader", "skipValue", "(I)V"⟩ : MethodName)) hown (mvT hZ (hw _ (List.mem_of_getElem? (i := 77) rfl))) (mvT hZ (hw _ (List.mem_of_getElem? (i := 78) rfl))) (own_selP hZ (hw _ (List.mem_of_getElem? (i := 1) rfl)) (hw _ (List.mem_of_getElem? (i := 79) rfl)) (hw _ (List.mem_of_getElem? (i := 78) rfl)) (by decide)) (Cond.privateMethod_at (mvP hZ (hw _ (List.mem_of_getElem? (i := 79) rfl)) (args := #[]))) (mvT hZ (hw _ (List.mem_of_getElem? (i := 80) rfl))) (by decide) (backOf (W := 0) (rm13t5 l Z a0 hw [] r0 ba pp en ff kA vs h0 n0 O0 E_r0 F_bytes_r0 F_position_r0 F_end_r0 F_field_r0 F_wireType_r0 A_ba g_r0 N_ba_r0 (hadv : ¬ (en - pp) < (4 : Int32))) hZ (hw _ (List.mem_of_getElem? (i := 80) rfl)) (hw _ (List.mem_of_getElem? (i := 2) rfl)) (by decide) (by decide)) (g := (mkF m 2 #[.val (.ref r0)] [(.int (0 : Int32)), (.ref r0)])) rfl (by rw [hml]; rfl) (Steps.refl _) (a := r0) (by rw [e0]; exact q1) q1' (argsL := [(.int (0 : Int32))]) (rest := []) (lenOf pd_4 rfl) rfl (by show 2 * 0 + _ ≤ _; exact Nat.le_of_eq rfl) (hb hby d12_2) (fun _ _ => ⟨rfl, e0, (by decide : 0 + 0 ≤ _), (by decide : 0 + 0 ≤ _)⟩)
  dsimp only [Pt.U, Pt.locs, Pt.cells, Pt.slots] at X1 l1 y1 z1 st1 hQ1
  subst l1 y1 z1
  obtain ⟨rfl, N1q, K1q, P1_0, P1_1, P1_2, P1_3, P1_4, P1_5⟩ := hQ1
  have N1 := Fr.app N0 N1q
  have K1 : Keep h0 T1.heap [r0] := (Keep.refl h0 [r0]).trans K1q (allS (Or.inl (List.mem_of_getElem? (i := 0) rfl)) all0)
  have O1 : Old Z n0 T1.heap := O0.keep K1q (allS g_r0 all0)
  refine OFin.tr st1 ?_
  show OFin p e below _ _ T1 (mkF m 5 #[.val (.ref r0)] [])
  exact own_retV X1 hx Bd.returns Bd.notSynchronized (hb hby d12_5) (by show Qrm12t5 Z r0 ba pp en ff kA vs h0 n0 _ T1.heap _; exact ⟨rfl, N1, K1, P1_0, P1_1, P1_2, P1_3, P1_4, P1_5⟩) (own_endN (by decide) (by decide))
theorem ef_rm4k (m : MethodId) (r0 : Addr) : entryFrame m #[(.ref r0)] 1 = mkF m 0 #[.val (.ref r0)] [] := by first | (simp [entryFrame, mkF, argsToLocals, Value.category]; done) | rfl
def Qrm4k (Z : State) (r0 : Addr) (ba : Addr) (pp : Int32) (en : Int32) (ff : Int32) (wt : Int32) (kA : ClassId) (vs : List Value) (fv : Nat → Int32) (kv : Nat) (kW : ClassId) (vW : List Value) (w_WIRE_TYPES : Addr) (h0 : Heap) (n0 : Nat) (v : Option Value) (h : Heap) (L : List Loc) : Prop := v = some (Value.int (1 : Int32)) ∧ Fr n0 L ∧ Keep h0 h [r0] ∧ Exa Z h r0 "com/example/fillwire/fillwire/codec/ProtoReader" ∧ Fld Z h r0 "com/example/fillwire/fillwire/codec/ProtoReader" "bytes" "[B" (.ref ba) ∧ Fld Z h r0 "com/example/fillwire/fillwire/codec/ProtoReader" "position" "I" (.int (vpo pp (kv + 1))) ∧ Fld Z h r0 "com/example/fillwire/fillwire/codec/ProtoReader" "end" "I" (.int en) ∧ Fld Z h r0 "com/example/fillwire/fillwire/codec/ProtoReader" "field" "I" (.int ((((vac fv (kv + 1)).toUInt64 >>> ((3 : Int32) &&& 0x3f).toInt64.toUInt64).toInt64).toInt32)) ∧ Fld Z h r0 "com/example/fillwire/fillwire/codec/ProtoReader" "wireType" "I" (.int (((vac fv (kv + 1)).toInt32) &&& (7 : Int32)))
set_option maxRecDepth 65536 in
set_option maxHeartbeats 40000000 in
theorem rm4k (l : Launch) (Z : State) (a0 : Array Value) (hw : ∀ d ∈ tables_1, d.before a0 Z = true) (ws : List Jvm.Cond) (r0 : Addr) (ba : Addr) (pp : Int32) (en : Int32) (ff : Int32) (wt : Int32) (kA : ClassId) (vs : List Value) (fv : Nat → Int32) (kv : Nat) (kW : ClassId) (vW : List Value) (w_WIRE_TYPES : Addr) (h0 : Heap) (n0 : Nat) (O0 : Old Z n0 h0) (E_r0 : Exa Z h0 r0 "com/example/fillwire/fillwire/codec/ProtoReader") (F_bytes_r0 : Fld Z h0 r0 "com/example/fillwire/fillwire/codec/ProtoReader" "bytes" "[B" (.ref ba)) (F_position_r0 : Fld Z h0 r0 "com/example/fillwire/fillwire/codec/ProtoReader" "position" "I" (.int pp)) (F_end_r0 : Fld Z h0 r0 "com/example/fillwire/fillwire/codec/ProtoReader" "end" "I" (.int en)) (F_field_r0 : Fld Z h0 r0 "com/example/fillwire/fillwire/codec/ProtoReader" "field" "I" (.int ff)) (F_wireType_r0 : Fld Z h0 r0 "com/example/fillwire/fillwire/codec/ProtoReader" "wireType" "I" (.int wt)) (A_ba : Oar Z h0 ba kA .byte vs) (g_r0 : n0 ≤ r0) (N_ba_r0 : ba ≠ r0) (hk : kv ≤ 9) (hcn : ∀ i, i < kv → fv i < 0) (hln : ¬ fv kv < 0) (h9 : kv = 9 → ¬ (1 : Int32) < fv kv) (hp0 : 0 ≤ pp.toInt) (hp1 : pp.toInt < 2000000000) (hvs : ∀ i, i ≤ kv → vs[pp.toInt.toNat + i]? = some (Value.int (fv i))) (hne : ∀ i, i ≤ kv → ¬ vpo pp i = en) (hn0 : ¬ (((vac fv (kv + 1)).toUInt64 >>> ((3 : Int32) &&& 0x3f).toInt64.toUInt64).toInt64) = (0 : Int64)) (hnq : ¬ (536870911 : Int64) < (((vac fv (kv + 1)).toUInt64 >>> ((3 : Int32) &&& 0x3f).toInt64.toUInt64).toInt64)) (hwt : (((vac fv (kv + 1)).toInt32) &&& (7 : Int32)) < (6 : Int32)) (hW6 : vW.length = 6) (hw4 : ¬ (((vac fv (kv + 1)).toInt32) &&& (7 : Int32)) = (4 : Int32)) (A_w_WIRE_TYPES : Oar Z Z.heap w_WIRE_TYPES kW (.object "java/lang/String") vW) (S_WIRE_TYPES : Sta Z Z.heap "com/example/fillwire/fillwire/codec/ProtoReader" "WIRE_TYPES" "[Ljava/lang/String;" (.ref w_WIRE_TYPES)) :
    MetFree l (⟨"com/example/fillwire/fillwire/codec/ProtoReader", "next", "()Z"⟩ : MethodName) (head1 (Jvm.Cond.code (⟨"com/example/fillwire/fillwire/codec/ProtoReader", "next", "()Z"⟩ : MethodName) prog_34_method_3_code 1 (some .boolean) :: ws) ({ frames := 2, cells := 0, slots := 0, locals := 32 } : Room)) (fun a U => a = #[(.ref r0)] ∧ Z.Warmed39 U.vm ∧ U.heap = h0) (fun _ _ _ _ _ => True) (fun _ U o U' => ∃ v L, o = .returned v ∧ Qrm4k Z r0 ba pp en ff wt kA vs fv kv kW vW w_WIRE_TYPES h0 n0 v U'.heap L ∧ FrameEnd U o U' L ({ frames := 2, cells := 0, slots := 0, locals := 32 } : Room).cells ({ frames := 2, cells := 0, slots := 0, locals := 32 } : Room).slots) := by
  refine MetFree.of_bodySF (plainFor_of_name pn_com_example_fillwire_fillwire_codec_ProtoReader) hisR ?_
  intro p e s m args below meth c s₁ Bd hml0 hP hK
  obtain ⟨rfl, hZ, hh⟩ := hP
  have hx := Bd.exec
  have hby := Bd.bytes
  have hml : c.maxLocals = 1 := hml0
  have hown : s.vm.findClass "com/example/fillwire/fillwire/codec/ProtoReader" = some m.cls := findClass_of_methodNamed Bd.named
  have hnm := (name_of_methodNamed Bd.named Bd.method).1
  have X0 : Stand p l e ({ frames := 2, cells := 0, slots := 0, locals := 32 } : Room) s m #[(.ref r0)] below meth c s₁ [] 0 0 := Stand.of_body Bd
  have e0 : s₁.heap = h0 := by rw [← hh, Bd.state]; rfl
  have N0 := Fr.nil n0
  show OFin p e below (fun o t L => FrameEnd s o t L ({ frames := 2, cells := 0, slots := 0, locals := 32 } : Room).cells ({ frames := 2, cells := 0, slots := 0, locals := 32 } : Room).slots) (fun v h L => Qrm4k Z r0 ba pp en ff wt kA vs fv kv kW vW w_WIRE_TYPES h0 n0 v h L) s₁ (entryFrame m #[(.ref r0)] 1)
  refine OFin.cast (ef_rm4k m r0) ?_
  show OFin p e below _ _ s₁ (mkF m 0 #[.val (.ref r0)] [])
  refine OFin.st (fun t k => XS.aloadN X0.here hx rfl (hb hby d4_0) rfl rfl k) ?_
  show OFin p e below _ _ s₁ (mkF m 1 #[.val (.ref r0)] [(.ref r0)])
  obtain ⟨T1, X1, e1, st1⟩ := getF X0 hx hZ hown (host := "") (Or.inl (hw _ (List.mem_of_getElem? (i := 22) rfl))) Via.refl e0 F_position_r0 (g := (mkF m 1 #[.val (.ref r0)] [(.ref r0)])) rfl rfl (hb hby d4_1)
  refine OFin.st st1 ?_
  show OFin p e below _ _ T1 (mkF m 4 #[.val (.ref r0)] [(.int pp)])
  refine OFin.st (fun t k => XS.aloadN X1.here hx rfl (hb hby d4_4) rfl rfl k) ?_
  show OFin p e below _ _ T1 (mkF m 5 #[.val (.ref r0)] [(.ref r0), (.int pp)])
  obtain ⟨T2, X2, e2, st2⟩ := getF X1 hx hZ hown (host := "") (Or.inl (hw _ (List.mem_of_getElem? (i := 24) rfl))) Via.refl e1 F_end_r0 (g := (mkF m 5 #[.val (.ref r0)] [(.ref r0), (.int pp)])) rfl rfl (hb hby d4_5)
  refine OFin.st st2 ?_
  show OFin p e below _ _ T2 (mkF m 8 #[.val (.ref r0)] [(.int en), (.int pp)])
  refine OFin.st (fun t k => XS.icmpYes X2.here hx rfl (pc0 := 8) (pc' := 13) rfl (hb hby d4_8) rfl (feq (hne 0 (Nat.zero_le _))).2 (by decide) (by decide) k) ?_
  show OFin p e below _ _ T2 (mkF m 13 #[.val (.ref r0)] [])
  refine OFin.st (fun t k => XS.aloadN X2.here hx rfl (hb hby d4_13) rfl rfl k) ?_
  show OFin p e below _ _ T2 (mkF m 14 #[.val (.ref r0)] [(.ref r0)])
  obtain ⟨cq3, q3, q3'⟩ := E_r0.cell
  obtain ⟨_, _, ⟨T3, L3, k3, n3⟩, -, X3, ⟨Lc3, hQ3, l3, y3, z3⟩, st3⟩ := X2.privateBack hx (y := (⟨"com/example/fillwire/fillwire/codec/ProtoReader", "readKey", "()V"⟩ : MethodName)) hown (mvT hZ (hw _ (List.mem_of_getElem? (i := 52) rfl))) (mvT hZ (hw _ (List.mem_of_getElem? (i := 53) rfl))) (own_selP hZ (hw _ (List.mem_of_getElem? (i := 1) rfl)) (hw _ (List.mem_of_getElem? (i := 54) rfl)) (hw _ (List.mem_of_getElem? (i := 53) rfl)) (by decide)) (Cond.privateMethod_at (mvP hZ (hw _ (List.mem_of_getElem? (i := 54) rfl)) (args := #[]))) (mvT hZ (hw _ (List.mem_of_getElem? (i := 55) rfl))) (by decide) (backOf (W := 0) (rm9 l Z a0 hw [] r0 ba pp en ff wt kA vs fv kv kW vW w_WIRE_TYPES h0 n0 O0 E_r0 F_bytes_r0 F_position_r0 F_end_r0 F_field_r0 F_wireType_r0 A_ba g_r0 N_ba_r0 (hk : kv ≤ 9) (hcn : ∀ i, i < kv → fv i < 0) (hln : ¬ fv kv < 0) (h9 : kv = 9 → ¬ (1 : Int32) < fv kv) (hp0 : 0 ≤ pp.toInt) (hp1 : pp.toInt < 2000000000) (hvs : ∀ i, i ≤ kv → vs[pp.toInt.toNat + i]? = some (Value.int (fv i))) (hne : ∀ i, i ≤ kv → ¬ vpo pp i = en) (hn0 : ¬ (((vac fv (kv + 1)).toUInt64 >>> ((3 : Int32) &&& 0x3f).toInt64.toUInt64).toInt64) = (0 : Int64)) (hnq : ¬ (536870911 : Int64) < (((vac fv (kv + 1)).toUInt64 >>> ((3 : Int32) &&& 0x3f).toInt64.toUInt64).toInt64)) (hwt : (((vac fv (kv + 1)).toInt32) &&& (7 : Int32)) < (6 : Int32)) (hW6 : vW.length = 6) A_w_WIRE_TYPES S_WIRE_TYPES) hZ (hw _ (List.mem_of_getElem? (i := 55) rfl)) (hw _ (List.mem_of_getElem? (i := 2) rfl)) (by decide) (by decide)) (g := (mkF m 14 #[.val (.ref r0)] [(.ref r0)])) rfl (by rw [hml]; rfl) (Steps.refl _) (a := r0) (by rw [e2]; exact q3) q3' (argsL := []) (rest := []) (lenOf pd_2 rfl) rfl (by show 2 * 0 + _ ≤ _; exact Nat.le_of_eq rfl) (hb hby d4_14) (fun _ _ => ⟨rfl, e2, (by decide : 0 + 0 ≤ _), (by decide : 0 + 0 ≤ _)⟩)
  dsimp only [Pt.U, Pt.locs, Pt.cells, Pt.slots] at X3 l3 y3 z3 st3 hQ3
  subst l3 y3 z3
  obtain ⟨rfl, N3q, K3q, P3_0, P3_1, P3_2, P3_3, P3_4, P3_5⟩ := hQ3
  have N3 := Fr.app N0 N3q
  have K3 : Keep h0 T3.heap [r0] := (Keep.refl h0 [r0]).trans K3q (allS (Or.inl (List.mem_of_getElem? (i := 0) rfl)) all0)
  have O3 : Old Z n0 T3.heap := O0.keep K3q (allS g_r0 all0)
  refine OFin.tr st3 ?_
  show OFin p e below _ _ T3 (mkF m 17 #[.val (.ref r0)] [])
  refine OFin.st (fun t k => XS.aloadN X3.here hx rfl (hb hby d4_17) rfl rfl k) ?_
  show OFin p e below _ _ T3 (mkF m 18 #[.val (.ref r0)] [(.ref r0)])
  obtain ⟨T4, X4, e4, st4⟩ := getF X3 hx hZ hown (host := "") (Or.inl (hw _ (List.mem_of_getElem? (i := 63) rfl))) Via.refl rfl P3_5 (g := (mkF m 18 #[.val (.ref r0)] [(.ref r0)])) rfl rfl (hb hby d4_18)
  refine OFin.st st4 ?_
  show OFin p e below _ _ T4 (mkF m 21 #[.val (.ref r0)] [(.int (((vac fv (kv + 1)).toInt32) &&& (7 : Int32)))])
  refine OFin.st (fun t k => XS.iconst X4.here hx rfl (hb hby d4_21) k) ?_
  show OFin p e below _ _ T4 (mkF m 22 #[.val (.ref r0)] [(.int (4 : Int32)), (.int (((vac fv (kv + 1)).toInt32) &&& (7 : Int32)))])
  refine OFin.st (fun t k => XS.icmpYes X4.here hx rfl (pc0 := 22) (pc' := 39) rfl (hb hby d4_22) rfl (feq hw4).2 (by decide) (by decide) k) ?_
  show OFin p e below _ _ T4 (mkF m 39 #[.val (.ref r0)] [])
  refine OFin.st (fun t k => XS.iconst X4.here hx rfl (hb hby d4_39) k) ?_
  show OFin p e below _ _ T4 (mkF m 40 #[.val (.ref r0)] [(.int (1 : Int32))])
  exact own_retN X4 hx Bd.returns Bd.notSynchronized (t := .boolean) (by simp) rfl (hb hby d4_40) (by show Qrm4k Z r0 ba pp en ff wt kA vs fv kv kW vW w_WIRE_TYPES h0 n0 _ T4.heap _; rw [e4]; exact ⟨rfl, N3, K3, P3_0, P3_1, P3_2, P3_3, P3_4, P3_5⟩) (own_endN (by decide) (by decide))
theorem ef_rm2 (m : MethodId) (r0 : Addr) (r1 : Addr) (p2 : Int32) (p3 : Int32) (r4 : Addr) : entryFrame m #[(.ref r0), (.ref r1), (.int p2), (.int p3), (.ref r4)] 5 = mkF m 0 #[.val (.ref r0), .val (.ref r1), .val (.int p2), .val (.int p3), .val (.ref r4)] [] := by first | (simp [entryFrame, mkF, argsToLocals, Value.category]; done) | rfl
def Qrm2 (Z : State) (r0 : Addr) (r1 : Addr) (p2 : Int32) (p3 : Int32) (r4 : Addr) (u1 : Value) (u2 : Value) (u3 : Value) (u4 : Value) (ff : Int32) (wt : Int32) (h0 : Heap) (n0 : Nat) (v : Option Value) (h : Heap) (L : List Loc) : Prop := v = none ∧ Fr n0 L ∧ Keep h0 h [r0] ∧ Exa Z h r0 "com/example/fillwire/fillwire/codec/ProtoReader" ∧ Fld Z h r0 "com/example/fillwire/fillwire/codec/ProtoReader" "bytes" "[B" (.ref r1) ∧ Fld Z h r0 "com/example/fillwire/fillwire/codec/ProtoReader" "position" "I" (.int p2) ∧ Fld Z h r0 "com/example/fillwire/fillwire/codec/ProtoReader" "end" "I" (.int p3) ∧ Fld Z h r0 "com/example/fillwire/fillwire/codec/ProtoReader" "field" "I" (.int ff) ∧ Fld Z h r0 "com/example/fillwire/fillwire/codec/ProtoReader" "wireType" "I" (.int wt)
set_option maxRecDepth 65536 in
set_option maxHeartbeats 40000000 in
theorem rm2 (l : Launch) (Z : State) (a0 : Array Value) (hw : ∀ d ∈ tables_1, d.before a0 Z = true) (ws : List Jvm.Cond) (r0 : Addr) (r1 : Addr) (p2 : Int32) (p3 : Int32) (r4 : Addr) (u1 : Value) (u2 : Value) (u3 : Value) (u4 : Value) (ff : Int32) (wt : Int32) (h0 : Heap) (n0 : Nat) (O0 : Old Z n0 h0) (E_r0 : Exa Z h0 r0 "com/example/fillwire/fillwire/codec/ProtoReader") (F_bytes_r0 : Fld Z h0 r0 "com/example/fillwire/fillwire/codec/ProtoReader" "bytes" "[B" u1) (F_position_r0 : Fld Z h0 r0 "com/example/fillwire/fillwire/codec/ProtoReader" "position" "I" u2) (F_end_r0 : Fld Z h0 r0 "com/example/fillwire/fillwire/codec/ProtoReader" "end" "I" u3) (F_name_r0 : Fld Z h0 r0 "com/example/fillwire/fillwire/codec/ProtoReader" "name" "Ljava/lang/String;" u4) (F_field_r0 : Fld Z h0 r0 "com/example/fillwire/fillwire/codec/ProtoReader" "field" "I" (.int ff)) (F_wireType_r0 : Fld Z h0 r0 "com/example/fillwire/fillwire/codec/ProtoReader" "wireType" "I" (.int wt)) (g_r0 : n0 ≤ r0) :
    MetFree l (⟨"com/example/fillwire/fillwire/codec/ProtoReader", "<init>", "([BIILjava/lang/String;)V"⟩ : MethodName) (head1 (Jvm.Cond.code (⟨"com/example/fillwire/fillwire/codec/ProtoReader", "<init>", "([BIILjava/lang/String;)V"⟩ : MethodName) prog_34_method_2_code 5 none :: ws) ({ frames := 1, cells := 0, slots := 0, locals := 12 } : Room)) (fun a U => a = #[(.ref r0), (.ref r1), (.int p2), (.int p3), (.ref r4)] ∧ Z.Warmed39 U.vm ∧ U.heap = h0) (fun _ _ _ _ _ => True) (fun _ U o U' => ∃ v L, o = .returned v ∧ Qrm2 Z r0 r1 p2 p3 r4 u1 u2 u3 u4 ff wt h0 n0 v U'.heap L ∧ FrameEnd U o U' L ({ frames := 1, cells := 0, slots := 0, locals := 12 } : Room).cells ({ frames := 1, cells := 0, slots := 0, locals := 12 } : Room).slots) := by
  refine MetFree.of_bodySF (plainFor_of_name pn_com_example_fillwire_fillwire_codec_ProtoReader) hisR ?_
  intro p e s m args below meth c s₁ Bd hml0 hP hK
  obtain ⟨rfl, hZ, hh⟩ := hP
  have hx := Bd.exec
  have hby := Bd.bytes
  have hml : c.maxLocals = 5 := hml0
  have hown : s.vm.findClass "com/example/fillwire/fillwire/codec/ProtoReader" = some m.cls := findClass_of_methodNamed Bd.named
  have hnm := (name_of_methodNamed Bd.named Bd.method).1
  have X0 : Stand p l e ({ frames := 1, cells := 0, slots := 0, locals := 12 } : Room) s m #[(.ref r0), (.ref r1), (.int p2), (.int p3), (.ref r4)] below meth c s₁ [] 0 0 := Stand.of_body Bd
  have e0 : s₁.heap = h0 := by rw [← hh, Bd.state]; rfl
  have N0 := Fr.nil n0
  show OFin p e below (fun o t L => FrameEnd s o t L ({ frames := 1, cells := 0, slots := 0, locals := 12 } : Room).cells ({ frames := 1, cells := 0, slots := 0, locals := 12 } : Room).slots) (fun v h L => Qrm2 Z r0 r1 p2 p3 r4 u1 u2 u3 u4 ff wt h0 n0 v h L) s₁ (entryFrame m #[(.ref r0), (.ref r1), (.int p2), (.int p3), (.ref r4)] 5)
  refine OFin.cast (ef_rm2 m r0 r1 p2 p3 r4) ?_
  show OFin p e below _ _ s₁ (mkF m 0 #[.val (.ref r0), .val (.ref r1), .val (.int p2), .val (.int p3), .val (.ref r4)] [])
  refine OFin.st (fun t k => XS.aloadN X0.here hx rfl (hb hby d2_0) rfl rfl k) ?_
  show OFin p e below _ _ s₁ (mkF m 1 #[.val (.ref r0), .val (.ref r1), .val (.int p2), .val (.int p3), .val (.ref r4)] [(.ref r0)])
  obtain ⟨T1, X1, e1, st1⟩ := initO X0 hx hZ hown (hw _ (List.mem_of_getElem? (i := 17) rfl)) (hw _ (List.mem_of_getElem? (i := 18) rfl)) (hw _ (List.mem_of_getElem? (i := 19) rfl)) e0 (g := (mkF m 1 #[.val (.ref r0), .val (.ref r1), .val (.int p2), .val (.int p3), .val (.ref r4)] [(.ref r0)])) rfl (by rw [hml]; rfl) rfl (hb hby d2_1) (by decide) (W := 0) (by show 2 * 0 + _ ≤ _; exact Nat.le_of_eq rfl) (by decide)
  refine OFin.st st1 ?_
  show OFin p e below _ _ T1 (mkF m 4 #[.val (.ref r0), .val (.ref r1), .val (.int p2), .val (.int p3), .val (.ref r4)] [])
  refine OFin.st (fun t k => XS.aloadN X1.here hx rfl (hb hby d2_4) rfl rfl k) ?_
  show OFin p e below _ _ T1 (mkF m 5 #[.val (.ref r0), .val (.ref r1), .val (.int p2), .val (.int p3), .val (.ref r4)] [(.ref r0)])
  refine OFin.st (fun t k => XS.aloadN X1.here hx rfl (hb hby d2_5) rfl rfl k) ?_
  show OFin p e below _ _ T1 (mkF m 6 #[.val (.ref r0), .val (.ref r1), .val (.int p2), .val (.int p3), .val (.ref r4)] [(.ref r1), (.ref r0)])
  obtain ⟨T2, h2, X2, e2, W2, st2⟩ := putF X1 hx hZ hown (host := "") (Or.inl (hw _ (List.mem_of_getElem? (i := 20) rfl))) Via.refl e1 F_bytes_r0 E_r0 (Or.inr ⟨(hw _ (List.mem_of_getElem? (i := 21) rfl)), rfl, hnm⟩) (hw _ (List.mem_of_getElem? (i := 1) rfl)) (ty := (.array .byte)) (by decide) rfl rfl (g := (mkF m 6 #[.val (.ref r0), .val (.ref r1), .val (.int p2), .val (.int p3), .val (.ref r4)] [(.ref r1), (.ref r0)])) rfl rfl (hb hby d2_6)
  refine OFin.st st2 ?_
  have Fw2 := F_bytes_r0.same W2
  have N2 := Fr.snoc X2 N0 g_r0
  have K2 : Keep h0 h2 [r0] := (Keep.refl h0 [r0]).wr W2 (Or.inl (List.mem_of_getElem? (i := 0) rfl))
  have O2 : Old Z n0 h2 := O0.wr W2 g_r0
  show OFin p e below _ _ T2 (mkF m 9 #[.val (.ref r0), .val (.ref r1), .val (.int p2), .val (.int p3), .val (.ref r4)] [])
  refine OFin.st (fun t k => XS.aloadN X2.here hx rfl (hb hby d2_9) rfl rfl k) ?_
  show OFin p e below _ _ T2 (mkF m 10 #[.val (.ref r0), .val (.ref r1), .val (.int p2), .val (.int p3), .val (.ref r4)] [(.ref r0)])
  refine OFin.st (fun t k => XS.iloadN X2.here hx rfl (hb hby d2_10) rfl k) ?_
  show OFin p e below _ _ T2 (mkF m 11 #[.val (.ref r0), .val (.ref r1), .val (.int p2), .val (.int p3), .val (.ref r4)] [(.int p2), (.ref r0)])
  have c3 := (F_position_r0.other W2 (Or.inr (slot_ne (Or.inl (hw _ (List.mem_of_getElem? (i := 23) rfl))) (Or.inr (hw _ (List.mem_of_getElem? (i := 21) rfl))) (by decide) (t := .int) (t' := (.array .byte)) (by decide) (by decide))))
  obtain ⟨T4, h4, X4, e4, W4, st4⟩ := putF X2 hx hZ hown (host := "") (Or.inl (hw _ (List.mem_of_getElem? (i := 22) rfl))) Via.refl e2 c3 (E_r0.wr W2) (Or.inl (hw _ (List.mem_of_getElem? (i := 23) rfl))) (hw _ (List.mem_of_getElem? (i := 1) rfl)) (ty := .int) (by decide) rfl rfl (g := (mkF m 11 #[.val (.ref r0), .val (.ref r1), .val (.int p2), .val (.int p3), .val (.ref r4)] [(.int p2), (.ref r0)])) rfl rfl (hb hby d2_11)
  refine OFin.st st4 ?_
  have Fw4 := c3.same W4
  have N4 := Fr.snoc X4 N2 g_r0
  have K4 : Keep h0 h4 [r0] := K2.wr W4 (Or.inl (List.mem_of_getElem? (i := 0) rfl))
  have O4 : Old Z n0 h4 := O2.wr W4 g_r0
  show OFin p e below _ _ T4 (mkF m 14 #[.val (.ref r0), .val (.ref r1), .val (.int p2), .val (.int p3), .val (.ref r4)] [])
  refine OFin.st (fun t k => XS.aloadN X4.here hx rfl (hb hby d2_14) rfl rfl k) ?_
  show OFin p e below _ _ T4 (mkF m 15 #[.val (.ref r0), .val (.ref r1), .val (.int p2), .val (.int p3), .val (.ref r4)] [(.ref r0)])
  refine OFin.st (fun t k => XS.iloadN X4.here hx rfl (hb hby d2_15) rfl k) ?_
  show OFin p e below _ _ T4 (mkF m 16 #[.val (.ref r0), .val (.ref r1), .val (.int p2), .val (.int p3), .val (.ref r4)] [(.int p3), (.ref r0)])
  have c5 := ((F_end_r0.other W2 (Or.inr (slot_ne (Or.inr (hw _ (List.mem_of_getElem? (i := 25) rfl))) (Or.inr (hw _ (List.mem_of_getElem? (i := 21) rfl))) (by decide) (t := .int) (t' := (.array .byte)) (by decide) (by decide)))).other W4 (Or.inr (slot_ne (Or.inr (hw _ (List.mem_of_getElem? (i := 25) rfl))) (Or.inl (hw _ (List.mem_of_getElem? (i := 23) rfl))) (by decide) (t := .int) (t' := .int) (by decide) (by decide))))
  obtain ⟨T6, h6, X6, e6, W6, st6⟩ := putF X4 hx hZ hown (host := "") (Or.inl (hw _ (List.mem_of_getElem? (i := 24) rfl))) Via.refl e4 c5 ((E_r0.wr W2).wr W4) (Or.inr ⟨(hw _ (List.mem_of_getElem? (i := 25) rfl)), rfl, hnm⟩) (hw _ (List.mem_of_getElem? (i := 1) rfl)) (ty := .int) (by decide) rfl rfl (g := (mkF m 16 #[.val (.ref r0), .val (.ref r1), .val (.int p2), .val (.int p3), .val (.ref r4)] [(.int p3), (.ref r0)])) rfl rfl (hb hby d2_16)
  refine OFin.st st6 ?_
  have Fw6 := c5.same W6
  have N6 := Fr.snoc X6 N4 g_r0
  have K6 : Keep h0 h6 [r0] := K4.wr W6 (Or.inl (List.mem_of_getElem? (i := 0) rfl))
  have O6 : Old Z n0 h6 := O4.wr W6 g_r0
  show OFin p e below _ _ T6 (mkF m 19 #[.val (.ref r0), .val (.ref r1), .val (.int p2), .val (.int p3), .val (.ref r4)] [])
  refine OFin.st (fun t k => XS.aloadN X6.here hx rfl (hb hby d2_19) rfl rfl k) ?_
  show OFin p e below _ _ T6 (mkF m 20 #[.val (.ref r0), .val (.ref r1), .val (.int p2), .val (.int p3), .val (.ref r4)] [(.ref r0)])
  refine OFin.st (fun t k => XS.aload X6.here hx rfl (hb hby d2_20) rfl rfl k) ?_
  show OFin p e below _ _ T6 (mkF m 22 #[.val (.ref r0), .val (.ref r1), .val (.int p2), .val (.int p3), .val (.ref r4)] [(.ref r4), (.ref r0)])
  have c7 := (((F_name_r0.other W2 (Or.inr (slot_ne (Or.inr (hw _ (List.mem_of_getElem? (i := 27) rfl))) (Or.inr (hw _ (List.mem_of_getElem? (i := 21) rfl))) (by decide) (t := (.object "java/lang/String")) (t' := (.array .byte)) (by decide) (by decide)))).other W4 (Or.inr (slot_ne (Or.inr (hw _ (List.mem_of_getElem? (i := 27) rfl))) (Or.inl (hw _ (List.mem_of_getElem? (i := 23) rfl))) (by decide) (t := (.object "java/lang/String")) (t' := .int) (by decide) (by decide)))).other W6 (Or.inr (slot_ne (Or.inr (hw _ (List.mem_of_getElem? (i := 27) rfl))) (Or.inr (hw _ (List.mem_of_getElem? (i := 25) rfl))) (by decide) (t := (.object "java/lang/String")) (t' := .int) (by decide) (by decide))))
  obtain ⟨T8, h8, X8, e8, W8, st8⟩ := putF X6 hx hZ hown (host := "") (Or.inl (hw _ (List.mem_of_getElem? (i := 26) rfl))) Via.refl e6 c7 (((E_r0.wr W2).wr W4).wr W6) (Or.inr ⟨(hw _ (List.mem_of_getElem? (i := 27) rfl)), rfl, hnm⟩) (hw _ (List.mem_of_getElem? (i := 1) rfl)) (ty := (.object "java/lang/String")) (by decide) rfl rfl (g := (mkF m 22 #[.val (.ref r0), .val (.ref r1), .val (.int p2), .val (.int p3), .val (.ref r4)] [(.ref r4), (.ref r0)])) rfl rfl (hb hby d2_22)
  refine OFin.st st8 ?_
  have Fw8 := c7.same W8
  have N8 := Fr.snoc X8 N6 g_r0
  have K8 : Keep h0 h8 [r0] := K6.wr W8 (Or.inl (List.mem_of_getElem? (i := 0) rfl))
  have O8 : Old Z n0 h8 := O6.wr W8 g_r0
  show OFin p e below _ _ T8 (mkF m 25 #[.val (.ref r0), .val (.ref r1), .val (.int p2), .val (.int p3), .val (.ref r4)] [])
  have c9 := (((Fw2.other W4 (Or.inr (slot_ne (Or.inr (hw _ (List.mem_of_getElem? (i := 21) rfl))) (Or.inl (hw _ (List.mem_of_getElem? (i := 23) rfl))) (by decide) (t := (.array .byte)) (t' := .int) (by decide) (by decide)))).other W6 (Or.inr (slot_ne (Or.inr (hw _ (List.mem_of_getElem? (i := 21) rfl))) (Or.inr (hw _ (List.mem_of_getElem? (i := 25) rfl))) (by decide) (t := (.array .byte)) (t' := .int) (by decide) (by decide)))).other W8 (Or.inr (slot_ne (Or.inr (hw _ (List.mem_of_getElem? (i := 21) rfl))) (Or.inr (hw _ (List.mem_of_getElem? (i := 27) rfl))) (by decide) (t := (.array .byte)) (t' := (.object "java/lang/String")) (by decide) (by decide))))
  have c10 := ((Fw4.other W6 (Or.inr (slot_ne (Or.inl (hw _ (List.mem_of_getElem? (i := 23) rfl))) (Or.inr (hw _ (List.mem_of_getElem? (i := 25) rfl))) (by decide) (t := .int) (t' := .int) (by decide) (by decide)))).other W8 (Or.inr (slot_ne (Or.inl (hw _ (List.mem_of_getElem? (i := 23) rfl))) (Or.inr (hw _ (List.mem_of_getElem? (i := 27) rfl))) (by decide) (t := .int) (t' := (.object "java/lang/String")) (by decide) (by decide))))
  have c11 := (Fw6.other W8 (Or.inr (slot_ne (Or.inr (hw _ (List.mem_of_getElem? (i := 25) rfl))) (Or.inr (hw _ (List.mem_of_getElem? (i := 27) rfl))) (by decide) (t := .int) (t' := (.object "java/lang/String")) (by decide) (by decide))))
  have c12 := ((((F_field_r0.other W2 (Or.inr (slot_ne (Or.inl (hw _ (List.mem_of_getElem? (i := 57) rfl))) (Or.inr (hw _ (List.mem_of_getElem? (i := 21) rfl))) (by decide) (t := .int) (t' := (.array .byte)) (by decide) (by decide)))).other W4 (Or.inr (slot_ne (Or.inl (hw _ (List.mem_of_getElem? (i := 57) rfl))) (Or.inl (hw _ (List.mem_of_getElem? (i := 23) rfl))) (by decide) (t := .int) (t' := .int) (by decide) (by decide)))).other W6 (Or.inr (slot_ne (Or.inl (hw _ (List.mem_of_getElem? (i := 57) rfl))) (Or.inr (hw _ (List.mem_of_getElem? (i := 25) rfl))) (by decide) (t := .int) (t' := .int) (by decide) (by decide)))).other W8 (Or.inr (slot_ne (Or.inl (hw _ (List.mem_of_getElem? (i := 57) rfl))) (Or.inr (hw _ (List.mem_of_getElem? (i := 27) rfl))) (by decide) (t := .int) (t' := (.object "java/lang/String")) (by decide) (by decide))))
  have c13 := ((((F_wireType_r0.other W2 (Or.inr (slot_ne (Or.inl (hw _ (List.mem_of_getElem? (i := 64) rfl))) (Or.inr (hw _ (List.mem_of_getElem? (i := 21) rfl))) (by decide) (t := .int) (t' := (.array .byte)) (by decide) (by decide)))).other W4 (Or.inr (slot_ne (Or.inl (hw _ (List.mem_of_getElem? (i := 64) rfl))) (Or.inl (hw _ (List.mem_of_getElem? (i := 23) rfl))) (by decide) (t := .int) (t' := .int) (by decide) (by decide)))).other W6 (Or.inr (slot_ne (Or.inl (hw _ (List.mem_of_getElem? (i := 64) rfl))) (Or.inr (hw _ (List.mem_of_getElem? (i := 25) rfl))) (by decide) (t := .int) (t' := .int) (by decide) (by decide)))).other W8 (Or.inr (slot_ne (Or.inl (hw _ (List.mem_of_getElem? (i := 64) rfl))) (Or.inr (hw _ (List.mem_of_getElem? (i := 27) rfl))) (by decide) (t := .int) (t' := (.object "java/lang/String")) (by decide) (by decide))))
  exact own_retV X8 hx Bd.returns Bd.notSynchronized (hb hby d2_25) (by show Qrm2 Z r0 r1 p2 p3 r4 u1 u2 u3 u4 ff wt h0 n0 _ T8.heap _; rw [e8]; exact ⟨rfl, N8, K8, ((((E_r0.wr W2).wr W4).wr W6).wr W8), c9, c10, c11, c12, c13⟩) (own_endN (by decide) (by decide))
theorem ef_rm1 (m : MethodId) (r0 : Addr) (r1 : Addr) (r2 : Addr) : entryFrame m #[(.ref r0), (.ref r1), (.ref r2)] 3 = mkF m 0 #[.val (.ref r0), .val (.ref r1), .val (.ref r2)] [] := by first | (simp [entryFrame, mkF, argsToLocals, Value.category]; done) | rfl
def Qrm1 (Z : State) (r0 : Addr) (r1 : Addr) (r2 : Addr) (u1 : Value) (u2 : Value) (u3 : Value) (u4 : Value) (ff : Int32) (wt : Int32) (kA : ClassId) (vs : List Value) (en : Int32) (h0 : Heap) (n0 : Nat) (v : Option Value) (h : Heap) (L : List Loc) : Prop := v = none ∧ Fr n0 L ∧ Keep h0 h [r0] ∧ Exa Z h r0 "com/example/fillwire/fillwire/codec/ProtoReader" ∧ Fld Z h r0 "com/example/fillwire/fillwire/codec/ProtoReader" "bytes" "[B" (.ref r1) ∧ Fld Z h r0 "com/example/fillwire/fillwire/codec/ProtoReader" "position" "I" (.int (0 : Int32)) ∧ Fld Z h r0 "com/example/fillwire/fillwire/codec/ProtoReader" "end" "I" (.int en) ∧ Fld Z h r0 "com/example/fillwire/fillwire/codec/ProtoReader" "field" "I" (.int ff) ∧ Fld Z h r0 "com/example/fillwire/fillwire/codec/ProtoReader" "wireType" "I" (.int wt)
set_option maxRecDepth 65536 in
set_option maxHeartbeats 40000000 in
theorem rm1 (l : Launch) (Z : State) (a0 : Array Value) (hw : ∀ d ∈ tables_1, d.before a0 Z = true) (ws : List Jvm.Cond) (r0 : Addr) (r1 : Addr) (r2 : Addr) (u1 : Value) (u2 : Value) (u3 : Value) (u4 : Value) (ff : Int32) (wt : Int32) (kA : ClassId) (vs : List Value) (en : Int32) (h0 : Heap) (n0 : Nat) (O0 : Old Z n0 h0) (E_r0 : Exa Z h0 r0 "com/example/fillwire/fillwire/codec/ProtoReader") (F_bytes_r0 : Fld Z h0 r0 "com/example/fillwire/fillwire/codec/ProtoReader" "bytes" "[B" u1) (F_position_r0 : Fld Z h0 r0 "com/example/fillwire/fillwire/codec/ProtoReader" "position" "I" u2) (F_end_r0 : Fld Z h0 r0 "com/example/fillwire/fillwire/codec/ProtoReader" "end" "I" u3) (F_name_r0 : Fld Z h0 r0 "com/example/fillwire/fillwire/codec/ProtoReader" "name" "Ljava/lang/String;" u4) (F_field_r0 : Fld Z h0 r0 "com/example/fillwire/fillwire/codec/ProtoReader" "field" "I" (.int ff)) (F_wireType_r0 : Fld Z h0 r0 "com/example/fillwire/fillwire/codec/ProtoReader" "wireType" "I" (.int wt)) (g_r0 : n0 ≤ r0) (A_r1 : Oar Z h0 r1 kA .byte vs) (hen : en.toInt = (vs.length : Int)) :
    MetFree l (⟨"com/example/fillwire/fillwire/codec/ProtoReader", "<init>", "([BLjava/lang/String;)V"⟩ : MethodName) (head1 (Jvm.Cond.code (⟨"com/example/fillwire/fillwire/codec/ProtoReader", "<init>", "([BLjava/lang/String;)V"⟩ : MethodName) prog_34_method_1_code 3 none :: ws) ({ frames := 2, cells := 0, slots := 0, locals := 28 } : Room)) (fun a U => a = #[(.ref r0), (.ref r1), (.ref r2)] ∧ Z.Warmed39 U.vm ∧ U.heap = h0) (fun _ _ _ _ _ => True) (fun _ U o U' => ∃ v L, o = .returned v ∧ Qrm1 Z r0 r1 r2 u1 u2 u3 u4 ff wt kA vs en h0 n0 v U'.heap L ∧ FrameEnd U o U' L ({ frames := 2, cells := 0, slots := 0, locals := 28 } : Room).cells ({ frames := 2, cells := 0, slots := 0, locals := 28 } : Room).slots) := by
  refine MetFree.of_bodySF (plainFor_of_name pn_com_example_fillwire_fillwire_codec_ProtoReader) hisR ?_
  intro p e s m args below meth c s₁ Bd hml0 hP hK
  obtain ⟨rfl, hZ, hh⟩ := hP
  have hx := Bd.exec
  have hby := Bd.bytes
  have hml : c.maxLocals = 3 := hml0
  have hown : s.vm.findClass "com/example/fillwire/fillwire/codec/ProtoReader" = some m.cls := findClass_of_methodNamed Bd.named
  have hnm := (name_of_methodNamed Bd.named Bd.method).1
  have X0 : Stand p l e ({ frames := 2, cells := 0, slots := 0, locals := 28 } : Room) s m #[(.ref r0), (.ref r1), (.ref r2)] below meth c s₁ [] 0 0 := Stand.of_body Bd
  have e0 : s₁.heap = h0 := by rw [← hh, Bd.state]; rfl
  have N0 := Fr.nil n0
  show OFin p e below (fun o t L => FrameEnd s o t L ({ frames := 2, cells := 0, slots := 0, locals := 28 } : Room).cells ({ frames := 2, cells := 0, slots := 0, locals := 28 } : Room).slots) (fun v h L => Qrm1 Z r0 r1 r2 u1 u2 u3 u4 ff wt kA vs en h0 n0 v h L) s₁ (entryFrame m #[(.ref r0), (.ref r1), (.ref r2)] 3)
  refine OFin.cast (ef_rm1 m r0 r1 r2) ?_
  show OFin p e below _ _ s₁ (mkF m 0 #[.val (.ref r0), .val (.ref r1), .val (.ref r2)] [])
  refine OFin.st (fun t k => XS.aloadN X0.here hx rfl (hb hby d1_0) rfl rfl k) ?_
  show OFin p e below _ _ s₁ (mkF m 1 #[.val (.ref r0), .val (.ref r1), .val (.ref r2)] [(.ref r0)])
  refine OFin.st (fun t k => XS.aloadN X0.here hx rfl (hb hby d1_1) rfl rfl k) ?_
  show OFin p e below _ _ s₁ (mkF m 2 #[.val (.ref r0), .val (.ref r1), .val (.ref r2)] [(.ref r1), (.ref r0)])
  refine OFin.st (fun t k => XS.iconst X0.here hx rfl (hb hby d1_2) k) ?_
  show OFin p e below _ _ s₁ (mkF m 3 #[.val (.ref r0), .val (.ref r1), .val (.ref r2)] [(.int (0 : Int32)), (.ref r1), (.ref r0)])
  refine OFin.st (fun t k => XS.aloadN X0.here hx rfl (hb hby d1_3) rfl rfl k) ?_
  show OFin p e below _ _ s₁ (mkF m 4 #[.val (.ref r0), .val (.ref r1), .val (.ref r2)] [(.ref r1), (.int (0 : Int32)), (.ref r1), (.ref r0)])
  refine own_alen X0 hx hZ e0 A_r1 (z := en) hen (hb hby d1_4) (pc' := 5) rfl ?_
  show OFin p e below _ _ s₁ (mkF m 5 #[.val (.ref r0), .val (.ref r1), .val (.ref r2)] [(.int en), (.int (0 : Int32)), (.ref r1), (.ref r0)])
  refine OFin.st (fun t k => XS.aloadN X0.here hx rfl (hb hby d1_5) rfl rfl k) ?_
  show OFin p e below _ _ s₁ (mkF m 6 #[.val (.ref r0), .val (.ref r1), .val (.ref r2)] [(.ref r2), (.int en), (.int (0 : Int32)), (.ref r1), (.ref r0)])
  obtain ⟨_, _, ⟨T1, L1, k1, n1⟩, -, X1, ⟨Lc1, hQ1, l1, y1, z1⟩, st1⟩ := X0.specialBack hx (y := (⟨"com/example/fillwire/fillwire/codec/ProtoReader", "<init>", "([BIILjava/lang/String;)V"⟩ : MethodName)) rfl hown (mvT hZ (hw _ (List.mem_of_getElem? (i := 14) rfl))) (mvT hZ (hw _ (List.mem_of_getElem? (i := 15) rfl))) (mvT hZ (hw _ (List.mem_of_getElem? (i := 16) rfl))) (by decide) (backOf (W := 0) (rm2 l Z a0 hw [] r0 r1 (0 : Int32) en r2 u1 u2 u3 u4 ff wt h0 n0 O0 E_r0 F_bytes_r0 F_position_r0 F_end_r0 F_name_r0 F_field_r0 F_wireType_r0 g_r0) hZ (hw _ (List.mem_of_getElem? (i := 16) rfl)) (hw _ (List.mem_of_getElem? (i := 2) rfl)) (by decide) (by decide)) (g := (mkF m 6 #[.val (.ref r0), .val (.ref r1), .val (.ref r2)] [(.ref r2), (.int en), (.int (0 : Int32)), (.ref r1), (.ref r0)])) rfl (by rw [hml]; rfl) (Steps.refl _) (a := r0) (argsL := [(.ref r1), (.int (0 : Int32)), (.int en), (.ref r2)]) (rest := []) (lenOf pd_8 rfl) rfl (by show 2 * 0 + _ ≤ _; exact Nat.le_of_eq rfl) (hb hby d1_6) (fun _ _ => ⟨rfl, e0, (by decide : 0 + 0 ≤ _), (by decide : 0 + 0 ≤ _)⟩)
  dsimp only [Pt.U, Pt.locs, Pt.cells, Pt.slots] at X1 l1 y1 z1 st1 hQ1
  subst l1 y1 z1
  obtain ⟨rfl, N1q, K1q, P1_0, P1_1, P1_2, P1_3, P1_4, P1_5⟩ := hQ1
  have N1 := Fr.app N0 N1q
  have K1 : Keep h0 T1.heap [r0] := (Keep.refl h0 [r0]).trans K1q (allS (Or.inl (List.mem_of_getElem? (i := 0) rfl)) all0)
  have O1 : Old Z n0 T1.heap := O0.keep K1q (allS g_r0 all0)
  refine OFin.tr st1 ?_
  show OFin p e below _ _ T1 (mkF m 9 #[.val (.ref r0), .val (.ref r1), .val (.ref r2)] [])
  exact own_retV X1 hx Bd.returns Bd.notSynchronized (hb hby d1_9) (by show Qrm1 Z r0 r1 r2 u1 u2 u3 u4 ff wt kA vs en h0 n0 _ T1.heap _; exact ⟨rfl, N1, K1, P1_0, P1_1, P1_2, P1_3, P1_4, P1_5⟩) (own_endN (by decide) (by decide))
theorem ef_rm4e (m : MethodId) (r0 : Addr) : entryFrame m #[(.ref r0)] 1 = mkF m 0 #[.val (.ref r0)] [] := by first | (simp [entryFrame, mkF, argsToLocals, Value.category]; done) | rfl
def F4e (r0 : Addr) (pp : Int32) : Int32 := (0 : Int32)
def Q4e (r0 : Addr) (pp : Int32) (h0 : Heap) (n0 : Nat) (v : Option Value) (h : Heap) (L : List Loc) : Prop := v = some (Value.int (F4e r0 pp)) ∧ Fr n0 L ∧ h = h0
set_option maxRecDepth 65536 in
set_option maxHeartbeats 40000000 in
theorem rm4e (l : Launch) (Z : State) (a0 : Array Value) (hw : ∀ d ∈ tables_1, d.before a0 Z = true) (ws : List Jvm.Cond) (r0 : Addr) (pp : Int32) (h0 : Heap) (n0 : Nat) (O0 : Old Z n0 h0) (E_r0 : Exa Z h0 r0 "com/example/fillwire/fillwire/codec/ProtoReader") (F_position_r0 : Fld Z h0 r0 "com/example/fillwire/fillwire/codec/ProtoReader" "position" "I" (.int pp)) (F_end_r0 : Fld Z h0 r0 "com/example/fillwire/fillwire/codec/ProtoReader" "end" "I" (.int pp)) :
    MetFree l (⟨"com/example/fillwire/fillwire/codec/ProtoReader", "next", "()Z"⟩ : MethodName) (head1 (Jvm.Cond.code (⟨"com/example/fillwire/fillwire/codec/ProtoReader", "next", "()Z"⟩ : MethodName) prog_34_method_3_code 1 (some .boolean) :: ws) ({ frames := 0, cells := 0, slots := 0, locals := 0 } : Room)) (fun a U => a = #[(.ref r0)] ∧ Z.Warmed39 U.vm ∧ U.heap = h0) (fun _ _ _ _ _ => True) (fun _ U o U' => ∃ v L, o = .returned v ∧ Q4e r0 pp h0 n0 v U'.heap L ∧ FrameEnd U o U' L ({ frames := 0, cells := 0, slots := 0, locals := 0 } : Room).cells ({ frames := 0, cells := 0, slots := 0, locals := 0 } : Room).slots) := by
  refine MetFree.of_bodySF (plainFor_of_name pn_com_example_fillwire_fillwire_codec_ProtoReader) hisR ?_
  intro p e s m args below meth c s₁ Bd hml0 hP hK
  obtain ⟨rfl, hZ, hh⟩ := hP
  have hx := Bd.exec
  have hby := Bd.bytes
  have hml : c.maxLocals = 1 := hml0
  have hown : s.vm.findClass "com/example/fillwire/fillwire/codec/ProtoReader" = some m.cls := findClass_of_methodNamed Bd.named
  have hnm := (name_of_methodNamed Bd.named Bd.method).1
  have X0 : Stand p l e ({ frames := 0, cells := 0, slots := 0, locals := 0 } : Room) s m #[(.ref r0)] below meth c s₁ [] 0 0 := Stand.of_body Bd
  have e0 : s₁.heap = h0 := by rw [← hh, Bd.state]; rfl
  have N0 := Fr.nil n0
  show OFin p e below (fun o t L => FrameEnd s o t L ({ frames := 0, cells := 0, slots := 0, locals := 0 } : Room).cells ({ frames := 0, cells := 0, slots := 0, locals := 0 } : Room).slots) (fun v h L => Q4e r0 pp h0 n0 v h L) s₁ (entryFrame m #[(.ref r0)] 1)
  refine OFin.cast (ef_rm4e m r0) ?_
  show OFin p e below _ _ s₁ (mkF m 0 #[.val (.ref r0)] [])
  refine OFin.st (fun t k => XS.aloadN X0.here hx rfl (hb hby d4_0) rfl rfl k) ?_
  show OFin p e below _ _ s₁ (mkF m 1 #[.val (.ref r0)] [(.ref r0)])
  obtain ⟨T1, X1, e1, st1⟩ := getF X0 hx hZ hown (host := "") (Or.inl (hw _ (List.mem_of_getElem? (i := 22) rfl))) Via.refl e0 F_position_r0 (g := (mkF m 1 #[.val (.ref r0)] [(.ref r0)])) rfl rfl (hb hby d4_1)
  refine OFin.st st1 ?_
  show OFin p e below _ _ T1 (mkF m 4 #[.val (.ref r0)] [(.int pp)])
  refine OFin.st (fun t k => XS.aloadN X1.here hx rfl (hb hby d4_4) rfl rfl k) ?_
  show OFin p e below _ _ T1 (mkF m 5 #[.val (.ref r0)] [(.ref r0), (.int pp)])
  obtain ⟨T2, X2, e2, st2⟩ := getF X1 hx hZ hown (host := "") (Or.inl (hw _ (List.mem_of_getElem? (i := 24) rfl))) Via.refl e1 F_end_r0 (g := (mkF m 5 #[.val (.ref r0)] [(.ref r0), (.int pp)])) rfl rfl (hb hby d4_5)
  refine OFin.st st2 ?_
  show OFin p e below _ _ T2 (mkF m 8 #[.val (.ref r0)] [(.int pp), (.int pp)])
  refine OFin.st (fun t k => XS.icmpNo X2.here hx rfl (hb hby d4_8) rfl (teq rfl).2 k) ?_
  show OFin p e below _ _ T2 (mkF m 11 #[.val (.ref r0)] [])
  refine OFin.st (fun t k => XS.iconst X2.here hx rfl (hb hby d4_11) k) ?_
  show OFin p e below _ _ T2 (mkF m 12 #[.val (.ref r0)] [(.int (0 : Int32))])
  exact own_retN X2 hx Bd.returns Bd.notSynchronized (t := .boolean) (by simp) rfl (hb hby d4_12) ⟨(by rw [F4e]; try rfl), N0, e2⟩ (own_endN (by decide) (by decide))
theorem ef_rm5 (m : MethodId) (q0 : Int64) : entryFrame m #[(.long q0)] 2 = mkF m 0 #[.val (.long q0), .second] [] := by first | (simp [entryFrame, mkF, argsToLocals, Value.category]; done) | rfl
def F5 (q0 : Int64) : Int32 := if q0 < (128 : Int64) then (1 : Int32) else (if q0 < (16384 : Int64) then (2 : Int32) else (if q0 < (2097152 : Int64) then (3 : Int32) else (if q0 < (268435456 : Int64) then (4 : Int32) else (5 : Int32))))
def Q5 (q0 : Int64) (h0 : Heap) (n0 : Nat) (v : Option Value) (h : Heap) (L : List Loc) : Prop := v = some (Value.int (F5 q0)) ∧ Fr n0 L ∧ h = h0
set_option maxRecDepth 65536 in
set_option maxHeartbeats 40000000 in
theorem rm5 (l : Launch) (Z : State) (a0 : Array Value) (hw : ∀ d ∈ tables_1, d.before a0 Z = true) (ws : List Jvm.Cond) (q0 : Int64) (h0 : Heap) (n0 : Nat) (O0 : Old Z n0 h0)  :
    MetFree l (⟨"com/example/fillwire/fillwire/codec/ProtoReaderNextPinLaw", "minLen", "(J)I"⟩ : MethodName) (head1 (Jvm.Cond.code (⟨"com/example/fillwire/fillwire/codec/ProtoReaderNextPinLaw", "minLen", "(J)I"⟩ : MethodName) method_3_code 2 (some .int) :: ws) ({ frames := 0, cells := 0, slots := 0, locals := 0 } : Room)) (fun a U => a = #[(.long q0)] ∧ Z.Warmed39 U.vm ∧ U.heap = h0) (fun _ _ _ _ _ => True) (fun _ U o U' => ∃ v L, o = .returned v ∧ Q5 q0 h0 n0 v U'.heap L ∧ FrameEnd U o U' L ({ frames := 0, cells := 0, slots := 0, locals := 0 } : Room).cells ({ frames := 0, cells := 0, slots := 0, locals := 0 } : Room).slots) := by
  refine MetFree.of_bodySF (plainFor_of_name pn_com_example_fillwire_fillwire_codec_ProtoReaderNextPinLaw) hisR ?_
  intro p e s m args below meth c s₁ Bd hml0 hP hK
  obtain ⟨rfl, hZ, hh⟩ := hP
  have hx := Bd.exec
  have hby := Bd.bytes
  have hml : c.maxLocals = 2 := hml0
  have hown : s.vm.findClass "com/example/fillwire/fillwire/codec/ProtoReaderNextPinLaw" = some m.cls := findClass_of_methodNamed Bd.named
  have hnm := (name_of_methodNamed Bd.named Bd.method).1
  have X0 : Stand p l e ({ frames := 0, cells := 0, slots := 0, locals := 0 } : Room) s m #[(.long q0)] below meth c s₁ [] 0 0 := Stand.of_body Bd
  have e0 : s₁.heap = h0 := by rw [← hh, Bd.state]; rfl
  have N0 := Fr.nil n0
  show OFin p e below (fun o t L => FrameEnd s o t L ({ frames := 0, cells := 0, slots := 0, locals := 0 } : Room).cells ({ frames := 0, cells := 0, slots := 0, locals := 0 } : Room).slots) (fun v h L => Q5 q0 h0 n0 v h L) s₁ (entryFrame m #[(.long q0)] 2)
  refine OFin.cast (ef_rm5 m q0) ?_
  show OFin p e below _ _ s₁ (mkF m 0 #[.val (.long q0), .second] [])
  refine OFin.st (fun t k => XS.lloadN X0.here hx rfl (hb hby d5_0) rfl k) ?_
  show OFin p e below _ _ s₁ (mkF m 1 #[.val (.long q0), .second] [(.long q0)])
  refine OFin.st (X0.ldc2Long hx hown (mvT hZ (hw _ (List.mem_of_getElem? (i := 39) rfl))) (g := (mkF m 1 #[.val (.long q0), .second] [(.long q0)])) rfl (hb hby d5_1)) ?_
  show OFin p e below _ _ s₁ (mkF m 4 #[.val (.long q0), .second] [(.long (128 : Int64)), (.long q0)])
  refine OFin.st (fun t k => XS.lcmp X0.here hx rfl (hb hby d5_4) rfl k) ?_
  show OFin p e below _ _ s₁ (mkF m 5 #[.val (.long q0), .second] [(.int (lcmpW q0 (128 : Int64)))])
  by_cases hc5 : q0 < (128 : Int64)
  · refine OFin.st (fun t k => XS.ifNo X0.here hx rfl (hb hby d5_5) rfl ((if0 _ _).trans (tlt ((lw_lt q0 (128 : Int64)).mpr hc5)).2.1) k) ?_
    show OFin p e below _ _ s₁ (mkF m 8 #[.val (.long q0), .second] [])
    refine OFin.st (fun t k => XS.iconst X0.here hx rfl (hb hby d5_8) k) ?_
    show OFin p e below _ _ s₁ (mkF m 9 #[.val (.long q0), .second] [(.int (1 : Int32))])
    exact own_retI X0 hx Bd.returns Bd.notSynchronized (hb hby d5_9) ⟨(by rw [F5, if_pos hc5]; try rfl), N0, e0⟩ (own_endN (by decide) (by decide))
  · refine OFin.st (fun t k => XS.ifYes X0.here hx rfl (pc0 := 5) (pc' := 10) rfl (hb hby d5_5) rfl ((if0 _ _).trans (flt (fun q => hc5 ((lw_lt q0 (128 : Int64)).mp q))).2.1) (by decide) (by decide) k) ?_
    show OFin p e below _ _ s₁ (mkF m 10 #[.val (.long q0), .second] [])
    refine OFin.st (fun t k => XS.lloadN X0.here hx rfl (hb hby d5_10) rfl k) ?_
    show OFin p e below _ _ s₁ (mkF m 11 #[.val (.long q0), .second] [(.long q0)])
    refine OFin.st (X0.ldc2Long hx hown (mvT hZ (hw _ (List.mem_of_getElem? (i := 85) rfl))) (g := (mkF m 11 #[.val (.long q0), .second] [(.long q0)])) rfl (hb hby d5_11)) ?_
    show OFin p e below _ _ s₁ (mkF m 14 #[.val (.long q0), .second] [(.long (16384 : Int64)), (.long q0)])
    refine OFin.st (fun t k => XS.lcmp X0.here hx rfl (hb hby d5_14) rfl k) ?_
    show OFin p e below _ _ s₁ (mkF m 15 #[.val (.long q0), .second] [(.int (lcmpW q0 (16384 : Int64)))])
    by_cases hc15 : q0 < (16384 : Int64)
    · refine OFin.st (fun t k => XS.ifNo X0.here hx rfl (hb hby d5_15) rfl ((if0 _ _).trans (tlt ((lw_lt q0 (16384 : Int64)).mpr hc15)).2.1) k) ?_
      show OFin p e below _ _ s₁ (mkF m 18 #[.val (.long q0), .second] [])
      refine OFin.st (fun t k => XS.iconst X0.here hx rfl (hb hby d5_18) k) ?_
      show OFin p e below _ _ s₁ (mkF m 19 #[.val (.long q0), .second] [(.int (2 : Int32))])
      exact own_retI X0 hx Bd.returns Bd.notSynchronized (hb hby d5_19) ⟨(by rw [F5, if_neg hc5, if_pos hc15]; try rfl), N0, e0⟩ (own_endN (by decide) (by decide))
    · refine OFin.st (fun t k => XS.ifYes X0.here hx rfl (pc0 := 15) (pc' := 20) rfl (hb hby d5_15) rfl ((if0 _ _).trans (flt (fun q => hc15 ((lw_lt q0 (16384 : Int64)).mp q))).2.1) (by decide) (by decide) k) ?_
      show OFin p e below _ _ s₁ (mkF m 20 #[.val (.long q0), .second] [])
      refine OFin.st (fun t k => XS.lloadN X0.here hx rfl (hb hby d5_20) rfl k) ?_
      show OFin p e below _ _ s₁ (mkF m 21 #[.val (.long q0), .second] [(.long q0)])
      refine OFin.st (X0.ldc2Long hx hown (mvT hZ (hw _ (List.mem_of_getElem? (i := 90) rfl))) (g := (mkF m 21 #[.val (.long q0), .second] [(.long q0)])) rfl (hb hby d5_21)) ?_
      show OFin p e below _ _ s₁ (mkF m 24 #[.val (.long q0), .second] [(.long (2097152 : Int64)), (.long q0)])
      refine OFin.st (fun t k => XS.lcmp X0.here hx rfl (hb hby d5_24) rfl k) ?_
      show OFin p e below _ _ s₁ (mkF m 25 #[.val (.long q0), .second] [(.int (lcmpW q0 (2097152 : Int64)))])
      by_cases hc25 : q0 < (2097152 : Int64)
      · refine OFin.st (fun t k => XS.ifNo X0.here hx rfl (hb hby d5_25) rfl ((if0 _ _).trans (tlt ((lw_lt q0 (2097152 : Int64)).mpr hc25)).2.1) k) ?_
        show OFin p e below _ _ s₁ (mkF m 28 #[.val (.long q0), .second] [])
        refine OFin.st (fun t k => XS.iconst X0.here hx rfl (hb hby d5_28) k) ?_
        show OFin p e below _ _ s₁ (mkF m 29 #[.val (.long q0), .second] [(.int (3 : Int32))])
        exact own_retI X0 hx Bd.returns Bd.notSynchronized (hb hby d5_29) ⟨(by rw [F5, if_neg hc5, if_neg hc15, if_pos hc25]; try rfl), N0, e0⟩ (own_endN (by decide) (by decide))
      · refine OFin.st (fun t k => XS.ifYes X0.here hx rfl (pc0 := 25) (pc' := 30) rfl (hb hby d5_25) rfl ((if0 _ _).trans (flt (fun q => hc25 ((lw_lt q0 (2097152 : Int64)).mp q))).2.1) (by decide) (by decide) k) ?_
        show OFin p e below _ _ s₁ (mkF m 30 #[.val (.long q0), .second] [])
        refine OFin.st (fun t k => XS.lloadN X0.here hx rfl (hb hby d5_30) rfl k) ?_
        show OFin p e below _ _ s₁ (mkF m 31 #[.val (.long q0), .second] [(.long q0)])
        refine OFin.st (X0.ldc2Long hx hown (mvT hZ (hw _ (List.mem_of_getElem? (i := 91) rfl))) (g := (mkF m 31 #[.val (.long q0), .second] [(.long q0)])) rfl (hb hby d5_31)) ?_
        show OFin p e below _ _ s₁ (mkF m 34 #[.val (.long q0), .second] [(.long (268435456 : Int64)), (.long q0)])
        refine OFin.st (fun t k => XS.lcmp X0.here hx rfl (hb hby d5_34) rfl k) ?_
        show OFin p e below _ _ s₁ (mkF m 35 #[.val (.long q0), .second] [(.int (lcmpW q0 (268435456 : Int64)))])
        by_cases hc35 : q0 < (268435456 : Int64)
        · refine OFin.st (fun t k => XS.ifNo X0.here hx rfl (hb hby d5_35) rfl ((if0 _ _).trans (tlt ((lw_lt q0 (268435456 : Int64)).mpr hc35)).2.1) k) ?_
          show OFin p e below _ _ s₁ (mkF m 38 #[.val (.long q0), .second] [])
          refine OFin.st (fun t k => XS.iconst X0.here hx rfl (hb hby d5_38) k) ?_
          show OFin p e below _ _ s₁ (mkF m 39 #[.val (.long q0), .second] [(.int (4 : Int32))])
          exact own_retI X0 hx Bd.returns Bd.notSynchronized (hb hby d5_39) ⟨(by rw [F5, if_neg hc5, if_neg hc15, if_neg hc25, if_pos hc35]; try rfl), N0, e0⟩ (own_endN (by decide) (by decide))
        · refine OFin.st (fun t k => XS.ifYes X0.here hx rfl (pc0 := 35) (pc' := 40) rfl (hb hby d5_35) rfl ((if0 _ _).trans (flt (fun q => hc35 ((lw_lt q0 (268435456 : Int64)).mp q))).2.1) (by decide) (by decide) k) ?_
          show OFin p e below _ _ s₁ (mkF m 40 #[.val (.long q0), .second] [])
          refine OFin.st (fun t k => XS.iconst X0.here hx rfl (hb hby d5_40) k) ?_
          show OFin p e below _ _ s₁ (mkF m 41 #[.val (.long q0), .second] [(.int (5 : Int32))])
          exact own_retI X0 hx Bd.returns Bd.notSynchronized (hb hby d5_41) ⟨(by rw [F5, if_neg hc5, if_neg hc15, if_neg hc25, if_neg hc35]; try rfl), N0, e0⟩ (own_endN (by decide) (by decide))
theorem ef_rm6 (m : MethodId) (p0 : Int32) (p1 : Int32) : entryFrame m #[(.int p0), (.int p1)] 2 = mkF m 0 #[.val (.int p0), .val (.int p1)] [] := by first | (simp [entryFrame, mkF, argsToLocals, Value.category]; done) | rfl
def F6 (p0 : Int32) (p1 : Int32) : Int32 := if p1 < p0 then p1 else p0
def Q6 (p0 : Int32) (p1 : Int32) (h0 : Heap) (n0 : Nat) (v : Option Value) (h : Heap) (L : List Loc) : Prop := v = some (Value.int (F6 p0 p1)) ∧ Fr n0 L ∧ h = h0
set_option maxRecDepth 65536 in
set_option maxHeartbeats 40000000 in
theorem rm6 (l : Launch) (Z : State) (a0 : Array Value) (hw : ∀ d ∈ tables_1, d.before a0 Z = true) (ws : List Jvm.Cond) (p0 : Int32) (p1 : Int32) (h0 : Heap) (n0 : Nat) (O0 : Old Z n0 h0)  :
    MetFree l (⟨"java/lang/Math", "min", "(II)I"⟩ : MethodName) (head1 (Jvm.Cond.code (⟨"java/lang/Math", "min", "(II)I"⟩ : MethodName) jdk_29_method_69_code 2 (some .int) :: ws) ({ frames := 0, cells := 0, slots := 0, locals := 0 } : Room)) (fun a U => a = #[(.int p0), (.int p1)] ∧ Z.Warmed39 U.vm ∧ U.heap = h0) (fun _ _ _ _ _ => True) (fun _ U o U' => ∃ v L, o = .returned v ∧ Q6 p0 p1 h0 n0 v U'.heap L ∧ FrameEnd U o U' L ({ frames := 0, cells := 0, slots := 0, locals := 0 } : Room).cells ({ frames := 0, cells := 0, slots := 0, locals := 0 } : Room).slots) := by
  refine MetFree.of_bodySF (Jvm.Free.JP.mathPlain rfl (by decide +kernel)) hisR ?_
  intro p e s m args below meth c s₁ Bd hml0 hP hK
  obtain ⟨rfl, hZ, hh⟩ := hP
  have hx := Bd.exec
  have hby := Bd.bytes
  have hml : c.maxLocals = 2 := hml0
  have hown : s.vm.findClass "java/lang/Math" = some m.cls := findClass_of_methodNamed Bd.named
  have hnm := (name_of_methodNamed Bd.named Bd.method).1
  have X0 : Stand p l e ({ frames := 0, cells := 0, slots := 0, locals := 0 } : Room) s m #[(.int p0), (.int p1)] below meth c s₁ [] 0 0 := Stand.of_body Bd
  have e0 : s₁.heap = h0 := by rw [← hh, Bd.state]; rfl
  have N0 := Fr.nil n0
  show OFin p e below (fun o t L => FrameEnd s o t L ({ frames := 0, cells := 0, slots := 0, locals := 0 } : Room).cells ({ frames := 0, cells := 0, slots := 0, locals := 0 } : Room).slots) (fun v h L => Q6 p0 p1 h0 n0 v h L) s₁ (entryFrame m #[(.int p0), (.int p1)] 2)
  refine OFin.cast (ef_rm6 m p0 p1) ?_
  show OFin p e below _ _ s₁ (mkF m 0 #[.val (.int p0), .val (.int p1)] [])
  refine OFin.st (fun t k => XS.iloadN X0.here hx rfl (hb hby d6_0) rfl k) ?_
  show OFin p e below _ _ s₁ (mkF m 1 #[.val (.int p0), .val (.int p1)] [(.int p0)])
  refine OFin.st (fun t k => XS.iloadN X0.here hx rfl (hb hby d6_1) rfl k) ?_
  show OFin p e below _ _ s₁ (mkF m 2 #[.val (.int p0), .val (.int p1)] [(.int p1), (.int p0)])
  by_cases hc2 : p1 < p0
  · refine OFin.st (fun t k => XS.icmpYes X0.here hx rfl (pc0 := 2) (pc' := 9) rfl (hb hby d6_2) rfl (tlt hc2).2.2.1 (by decide) (by decide) k) ?_
    show OFin p e below _ _ s₁ (mkF m 9 #[.val (.int p0), .val (.int p1)] [])
    refine OFin.st (fun t k => XS.iloadN X0.here hx rfl (hb hby d6_9) rfl k) ?_
    show OFin p e below _ _ s₁ (mkF m 10 #[.val (.int p0), .val (.int p1)] [(.int p1)])
    exact own_retI X0 hx Bd.returns Bd.notSynchronized (hb hby d6_10) ⟨(by rw [F6, if_pos hc2]; try rfl), N0, e0⟩ (own_endN (by decide) (by decide))
  · refine OFin.st (fun t k => XS.icmpNo X0.here hx rfl (hb hby d6_2) rfl (flt hc2).2.2.1 k) ?_
    show OFin p e below _ _ s₁ (mkF m 5 #[.val (.int p0), .val (.int p1)] [])
    refine OFin.st (fun t k => XS.iloadN X0.here hx rfl (hb hby d6_5) rfl k) ?_
    show OFin p e below _ _ s₁ (mkF m 6 #[.val (.int p0), .val (.int p1)] [(.int p0)])
    refine OFin.st (fun t k => XS.goto X0.here hx rfl (pc0 := 6) (pc' := 10) rfl (hb hby d6_6) (by decide) (by decide) k) ?_
    show OFin p e below _ _ s₁ (mkF m 10 #[.val (.int p0), .val (.int p1)] [(.int p0)])
    exact own_retI X0 hx Bd.returns Bd.notSynchronized (hb hby d6_10) ⟨(by rw [F6, if_neg hc2]; try rfl), N0, e0⟩ (own_endN (by decide) (by decide))
theorem ef_rm11 (m : MethodId) (r0 : Addr) : entryFrame m #[(.ref r0)] 1 = mkF m 0 #[.val (.ref r0)] [] := by first | (simp [entryFrame, mkF, argsToLocals, Value.category]; done) | rfl
def F11 (r0 : Addr) (f_field_r0 : Int32) : Int32 := f_field_r0
def Q11 (r0 : Addr) (f_field_r0 : Int32) (h0 : Heap) (n0 : Nat) (v : Option Value) (h : Heap) (L : List Loc) : Prop := v = some (Value.int (F11 r0 f_field_r0)) ∧ Fr n0 L ∧ h = h0
set_option maxRecDepth 65536 in
set_option maxHeartbeats 40000000 in
theorem rm11 (l : Launch) (Z : State) (a0 : Array Value) (hw : ∀ d ∈ tables_1, d.before a0 Z = true) (ws : List Jvm.Cond) (r0 : Addr) (f_field_r0 : Int32) (h0 : Heap) (n0 : Nat) (O0 : Old Z n0 h0) (F_field_r0 : Fld Z h0 r0 "com/example/fillwire/fillwire/codec/ProtoReader" "field" "I" (.int f_field_r0)) :
    MetFree l (⟨"com/example/fillwire/fillwire/codec/ProtoReader", "field", "()I"⟩ : MethodName) (head1 (Jvm.Cond.code (⟨"com/example/fillwire/fillwire/codec/ProtoReader", "field", "()I"⟩ : MethodName) prog_34_method_4_code 1 (some .int) :: ws) ({ frames := 0, cells := 0, slots := 0, locals := 0 } : Room)) (fun a U => a = #[(.ref r0)] ∧ Z.Warmed39 U.vm ∧ U.heap = h0) (fun _ _ _ _ _ => True) (fun _ U o U' => ∃ v L, o = .returned v ∧ Q11 r0 f_field_r0 h0 n0 v U'.heap L ∧ FrameEnd U o U' L ({ frames := 0, cells := 0, slots := 0, locals := 0 } : Room).cells ({ frames := 0, cells := 0, slots := 0, locals := 0 } : Room).slots) := by
  refine MetFree.of_bodySF (plainFor_of_name pn_com_example_fillwire_fillwire_codec_ProtoReader) hisR ?_
  intro p e s m args below meth c s₁ Bd hml0 hP hK
  obtain ⟨rfl, hZ, hh⟩ := hP
  have hx := Bd.exec
  have hby := Bd.bytes
  have hml : c.maxLocals = 1 := hml0
  have hown : s.vm.findClass "com/example/fillwire/fillwire/codec/ProtoReader" = some m.cls := findClass_of_methodNamed Bd.named
  have hnm := (name_of_methodNamed Bd.named Bd.method).1
  have X0 : Stand p l e ({ frames := 0, cells := 0, slots := 0, locals := 0 } : Room) s m #[(.ref r0)] below meth c s₁ [] 0 0 := Stand.of_body Bd
  have e0 : s₁.heap = h0 := by rw [← hh, Bd.state]; rfl
  have N0 := Fr.nil n0
  show OFin p e below (fun o t L => FrameEnd s o t L ({ frames := 0, cells := 0, slots := 0, locals := 0 } : Room).cells ({ frames := 0, cells := 0, slots := 0, locals := 0 } : Room).slots) (fun v h L => Q11 r0 f_field_r0 h0 n0 v h L) s₁ (entryFrame m #[(.ref r0)] 1)
  refine OFin.cast (ef_rm11 m r0) ?_
  show OFin p e below _ _ s₁ (mkF m 0 #[.val (.ref r0)] [])
  refine OFin.st (fun t k => XS.aloadN X0.here hx rfl (hb hby d11_0) rfl rfl k) ?_
  show OFin p e below _ _ s₁ (mkF m 1 #[.val (.ref r0)] [(.ref r0)])
  obtain ⟨T1, X1, e1, st1⟩ := getF X0 hx hZ hown (host := "") (Or.inl (hw _ (List.mem_of_getElem? (i := 56) rfl))) Via.refl e0 F_field_r0 (g := (mkF m 1 #[.val (.ref r0)] [(.ref r0)])) rfl rfl (hb hby d11_1)
  refine OFin.st st1 ?_
  show OFin p e below _ _ T1 (mkF m 4 #[.val (.ref r0)] [(.int f_field_r0)])
  exact own_retI X1 hx Bd.returns Bd.notSynchronized (hb hby d11_4) ⟨(by rw [F11]; try rfl), N0, e1⟩ (own_endN (by decide) (by decide))
theorem own_byte : ∀ k : Fin 128, ((((((Int64.ofInt (k.val : Int)) ||| (128 : Int64)).toInt32).toInt8.toInt32) &&& (127 : Int32)).toInt64 = Int64.ofInt (k.val : Int)) ∧ ((((Int64.ofInt (k.val : Int)).toInt32).toInt8.toInt32 &&& (127 : Int32)).toInt64 = Int64.ofInt (k.val : Int)) ∧ ((((Int64.ofInt (k.val : Int)) ||| (128 : Int64)).toInt32).toInt8.toInt32 < 0) ∧ ¬ (((Int64.ofInt (k.val : Int)).toInt32).toInt8.toInt32 < 0) := by decide +kernel
theorem own_b127 (y : Int64) : ∃ k : Fin 128, y &&& (127 : Int64) = Int64.ofInt (k.val : Int) := by
  have h : (y &&& (127 : Int64)).toInt = y.toInt % 128 := c_maskL y (127 : Int64) 7 (by decide) (by decide)
  refine ⟨⟨(y &&& (127 : Int64)).toInt.toNat, by omega⟩, ?_⟩
  show y &&& (127 : Int64) = Int64.ofInt (((y &&& (127 : Int64)).toInt.toNat : Nat) : Int)
  rw [Int.toNat_of_nonneg (by omega)]
  exact (Int64.ofInt_toInt _).symm
def partN (q0 : Int64) (i : Nat) : Int64 := ((q0.toUInt64 >>> (((7 : Int32) * (Int32.ofNat i)) &&& 0x3f).toInt64.toUInt64).toInt64) &&& (127 : Int64)
theorem own_Nm (N : Int32) (kv : Nat) (hN : N.toInt = (kv : Int) + 1) : (N - (1 : Int32)).toInt = (kv : Int) := by
  have c := c_isub N (1 : Int32)
  have r := rng32 (N - (1 : Int32))
  have r2 := rng32 N
  rw [(by decide : (1 : Int32).toInt = 1)] at c
  omega
theorem own_gflo (q0 : Int64) (i kv : Nat) (N : Int32) (hN : N.toInt = (kv : Int) + 1) (hk : kv ≤ 9) (h : i < kv) : gf q0 N i = ((partN q0 i ||| (128 : Int64)).toInt32).toInt8.toInt32 := by
  unfold gf F8
  rw [if_pos]
  · rfl
  · rw [Int32.lt_iff_toInt_lt, own_Nm N kv hN, Int32.toInt_ofNat_small (by omega)]; omega
theorem own_gfhi (q0 : Int64) (kv : Nat) (N : Int32) (hN : N.toInt = (kv : Int) + 1) (hk : kv ≤ 9) : gf q0 N kv = ((partN q0 kv).toInt32).toInt8.toInt32 := by
  have e : Int32.ofNat kv = N - (1 : Int32) := Int32.toInt_inj.mp (by rw [own_Nm N kv hN, Int32.toInt_ofNat_small (by omega)])
  unfold gf F8
  rw [if_neg]
  · rfl
  · rw [e, Int32.lt_iff_toInt_lt]; omega
theorem own_gcn (v : Int64) (kv : Nat) (N : Int32) (hN : N.toInt = (kv : Int) + 1) (hk : kv ≤ 9) : ∀ i, i < kv → gf v N i < 0 := fun i hi => by
  rw [own_gflo v i kv N hN hk hi, partN]
  obtain ⟨k, e⟩ := own_b127 ((v.toUInt64 >>> (((7 : Int32) * (Int32.ofNat i)) &&& 0x3f).toInt64.toUInt64).toInt64)
  rw [e]; exact (own_byte k).2.2.1
theorem own_gln (v : Int64) (kv : Nat) (N : Int32) (hN : N.toInt = (kv : Int) + 1) (hk : kv ≤ 9) : ¬ gf v N kv < 0 := by
  rw [own_gfhi v kv N hN hk, partN]
  obtain ⟨k, e⟩ := own_b127 ((v.toUInt64 >>> (((7 : Int32) * (Int32.ofNat kv)) &&& 0x3f).toInt64.toUInt64).toInt64)
  rw [e]; exact (own_byte k).2.2.2
theorem own_g9 (v : Int64) (kv : Nat) (N : Int32) (hN : N.toInt = (kv : Int) + 1) (hk : kv ≤ 9) : kv = 9 → ¬ (1 : Int32) < gf v N kv := fun h => by
  rw [own_gfhi v kv N hN hk, partN, h]
  have e : ((v.toUInt64 >>> (((7 : Int32) * (Int32.ofNat 9)) &&& 0x3f).toInt64.toUInt64).toInt64).toInt = (v.toInt % 18446744073709551616) / 9223372036854775808 := c_lushr v ((7 : Int32) * (Int32.ofNat 9)) 63 (by decide) (by decide)
  generalize ((v.toUInt64 >>> (((7 : Int32) * (Int32.ofNat 9)) &&& 0x3f).toInt64.toUInt64).toInt64) = y at e
  have h01 : y.toInt = 0 ∨ y.toInt = 1 := by omega
  rcases h01 with q | q
  · have : y = 0 := Int64.toInt_inj.mp (by rw [q]; decide)
    rw [this]; decide
  · have : y = 1 := Int64.toInt_inj.mp (by rw [q]; decide)
    rw [this]; decide
theorem own_partb (q0 : Int64) (i k : Nat) (hi : i ≤ 9) (hk : k < 64) : (partN q0 i).toBitVec.getLsbD k = (decide (k < 7) && q0.toBitVec.getLsbD (7 * i + k)) := by
  have e1 : (((7 : Int32) * (Int32.ofNat i)) &&& 0x3f).toInt64.toUInt64.toBitVec % (64 : BitVec 64) = BitVec.ofNat 64 (7 * i) := (by decide +kernel : ∀ j : Fin 10, (((7 : Int32) * (Int32.ofNat j.val)) &&& 0x3f).toInt64.toUInt64.toBitVec % (64 : BitVec 64) = BitVec.ofNat 64 (7 * j.val)) ⟨i, by omega⟩
  have e : (partN q0 i).toBitVec = (q0.toBitVec >>> (7 * i)) &&& 127#64 := by
    unfold partN
    rw [Int64.toBitVec_and]
    show ((q0.toUInt64 >>> (((7 : Int32) * (Int32.ofNat i)) &&& 0x3f).toInt64.toUInt64).toBitVec) &&& 127#64 = _
    rw [UInt64.toBitVec_shiftRight, e1]
    show (q0.toBitVec >>> (BitVec.ofNat 64 (7 * i))) &&& 127#64 = _
    rw [BitVec.ushiftRight_eq', BitVec.toNat_ofNat, Nat.mod_eq_of_lt (by omega)]
  rw [e, BitVec.getLsbD_and, BitVec.getLsbD_ushiftRight, (by decide +kernel : ∀ j : Fin 64, (127#64).getLsbD j.val = decide (j.val < 7)) ⟨k, hk⟩, Bool.and_comm]
theorem own_vacb (q0 : Int64) (f : Nat → Int32) (n : Nat) (hn : n ≤ 10) (hf : ∀ i, i < n → ((f i) &&& (127 : Int32)).toInt64 = partN q0 i) : ∀ i, i ≤ n → ∀ j, j < 64 → (vac f i).toBitVec.getLsbD j = (decide (j < 7 * i) && q0.toBitVec.getLsbD j)
  | 0, _, j, _ => by
    show (0#64).getLsbD j = _
    simp
  | i + 1, h, j, hj => by
    show ((vac f i) ||| ((((f i) &&& (127 : Int32)).toInt64) <<< ((vsh i) &&& 0x3f).toInt64)).toBitVec.getLsbD j = _
    have e2 : (((vsh i) &&& 0x3f).toInt64.toBitVec.smod 64#64) = BitVec.ofNat 64 (7 * i) := by
      have e := vsh_val i (by omega)
      have e' : vsh i = Int32.ofInt ((7 * i : Nat) : Int) := by
        rw [(by omega : ((7 * i : Nat) : Int) = 7 * (i : Int)), ← e]; exact (Int32.ofInt_toInt _).symm
      rw [e']
      exact (by decide +kernel : ∀ j : Fin 10, ((Int32.ofInt ((7 * j.val : Nat) : Int)) &&& 0x3f).toInt64.toBitVec.smod 64#64 = BitVec.ofNat 64 (7 * j.val)) ⟨i, by omega⟩
    have e3 : (partN q0 i <<< ((vsh i) &&& 0x3f).toInt64).toBitVec = (partN q0 i).toBitVec <<< (7 * i) := by
      rw [Int64.toBitVec_shiftLeft]
      show (partN q0 i).toBitVec <<< (((vsh i) &&& 0x3f).toInt64.toBitVec.smod 64#64) = _
      rw [e2, BitVec.shiftLeft_eq', BitVec.toNat_ofNat, Nat.mod_eq_of_lt (by omega)]
    rw [hf i (by omega), Int64.toBitVec_or, e3, BitVec.getLsbD_or, own_vacb q0 f n hn hf i (by omega) j hj, BitVec.getLsbD_shiftLeft]
    by_cases h1 : j < 7 * i
    · simp [h1, (by omega : j < 7 * (i + 1))]
    · rw [own_partb q0 i (j - 7 * i) (by omega) (by omega), (by omega : 7 * i + (j - 7 * i) = j)]
      rw [(decide_eq_decide.mpr (by omega) : decide (j - 7 * i < 7) = decide (j < 7 * (i + 1)))]
      simp [h1, hj]
theorem own_gb7 (v : Int64) (kv : Nat) (N : Int32) (hN : N.toInt = (kv : Int) + 1) (hk : kv ≤ 9) : ∀ i, i < kv + 1 → ((gf v N i) &&& (127 : Int32)).toInt64 = partN v i := fun i hi => by
  by_cases h : i < kv
  · rw [own_gflo v i kv N hN hk h, partN]
    obtain ⟨k, e⟩ := own_b127 ((v.toUInt64 >>> (((7 : Int32) * (Int32.ofNat i)) &&& 0x3f).toInt64.toUInt64).toInt64)
    rw [e]; exact (own_byte k).1
  · have : i = kv := by omega
    subst this
    rw [own_gfhi v i N hN hk, partN]
    obtain ⟨k, e⟩ := own_b127 ((v.toUInt64 >>> (((7 : Int32) * (Int32.ofNat i)) &&& 0x3f).toInt64.toUInt64).toInt64)
    rw [e]; exact (own_byte k).2.1
theorem own_toN (v : Int64) (h0 : 0 ≤ v.toInt) : v.toBitVec.toNat = v.toInt.toNat := by
  have e : v.toInt = v.toBitVec.toInt := rfl
  have l := v.toBitVec.isLt
  rw [BitVec.toInt_eq_toNat_cond] at e
  split at e <;> omega
theorem own_key (v : Int64) (kv : Nat) (N : Int32) (hN : N.toInt = (kv : Int) + 1) (hk : kv ≤ 9) (h0 : 0 ≤ v.toInt) (hb : v.toInt.toNat < 2 ^ (7 * (kv + 1))) : vac (gf v N) (kv + 1) = v := by
  have q := own_vacb v (gf v N) (kv + 1) (by omega) (own_gb7 v kv N hN hk) (kv + 1) (Nat.le_refl _)
  apply Int64.toBitVec_inj.mp
  apply BitVec.eq_of_getLsbD_eq
  intro j hj
  rw [q j hj]
  by_cases h : j < 7 * (kv + 1)
  · simp [h]
  · have e : v.toBitVec.getLsbD j = false := by
      rw [← BitVec.testBit_toNat, own_toN v h0]
      exact Nat.testBit_lt_two_pow (Nat.lt_of_lt_of_le hb (Nat.pow_le_pow_right (by decide) (by omega)))
    simp [h, e]
theorem own_n1 (x : Int32) (h : ¬ ((x.toInt64) &&& (536870911 : Int64)) = (0 : Int64)) : 1 ≤ ((x.toInt64) &&& (536870911 : Int64)).toInt ∧ ((x.toInt64) &&& (536870911 : Int64)).toInt ≤ 536870911 := by
  have c : ((x.toInt64) &&& (536870911 : Int64)).toInt = x.toInt64.toInt % 536870912 := c_maskL (x.toInt64) (536870911 : Int64) 29 (by decide) (by decide)
  have n0 : ¬ ((x.toInt64) &&& (536870911 : Int64)).toInt = 0 := fun q => h (Int64.toInt_inj.mp (by rw [q]; decide))
  omega
theorem own_t5 (x : Int32) (h : ¬ ((x &&& (2147483647 : Int32)) % (5 : Int32)) = (4 : Int32)) : ((x &&& (2147483647 : Int32)) % (5 : Int32)) = 0 ∨ ((x &&& (2147483647 : Int32)) % (5 : Int32)) = 1 ∨ ((x &&& (2147483647 : Int32)) % (5 : Int32)) = 2 ∨ ((x &&& (2147483647 : Int32)) % (5 : Int32)) = 3 ∨ ((x &&& (2147483647 : Int32)) % (5 : Int32)) = 5 := by
  have r := own_rem x 5 5 (by decide) (by decide)
  have n4 : ¬ ((x &&& (2147483647 : Int32)) % (5 : Int32)).toInt = 4 := fun q => h (Int32.toInt_inj.mp (by rw [q]; decide))
  simp only [← Int32.toInt_inj, (by decide : (0 : Int32).toInt = 0), (by decide : (1 : Int32).toInt = 1), (by decide : (2 : Int32).toInt = 2), (by decide : (3 : Int32).toInt = 3), (by decide : (5 : Int32).toInt = 5)]
  omega
theorem own_t7 (t : Int32) (h : t = 0 ∨ t = 1 ∨ t = 2 ∨ t = 3 ∨ t = 5) : 0 ≤ t.toInt ∧ t.toInt < 8 := by rcases h with rfl | rfl | rfl | rfl | rfl <;> decide
theorem own_kT (n y : Int64) (hn : 1 ≤ n.toInt ∧ n.toInt ≤ 536870911) (hy : 0 ≤ y.toInt ∧ y.toInt < 8) : ((n <<< ((3 : Int32) &&& 0x3f).toInt64) ||| y).toInt = 8 * n.toInt + y.toInt := by
  have c : ((n <<< ((3 : Int32) &&& 0x3f).toInt64).toInt - n.toInt * 8) % 18446744073709551616 = 0 := c_lshl n (3 : Int32) 3 (by decide)
  have r := rng64 (n <<< ((3 : Int32) &&& 0x3f).toInt64)
  generalize n <<< ((3 : Int32) &&& 0x3f).toInt64 = a at c r ⊢
  have e : a.toInt = 8 * n.toInt := by omega
  have o := c_orL a y 3 (by decide) 8 (by decide) (by omega) hy.1 hy.2
  have r2 := rng64 (a ||| y)
  omega
theorem own_len (v : Int64) (y : Int32) (hv : 0 ≤ v.toInt ∧ v.toInt < 34359738368) (hy : 0 ≤ y.toInt ∧ y.toInt ≤ 7) : (F6 (10 : Int32) ((F5 v) + y)).toInt = (((F6 (10 : Int32) ((F5 v) + y)).toInt.toNat - 1 : Nat) : Int) + 1 ∧ (F6 (10 : Int32) ((F5 v) + y)).toInt.toNat - 1 ≤ 9 ∧ v.toInt.toNat < 2 ^ (7 * ((F6 (10 : Int32) ((F5 v) + y)).toInt.toNat - 1 + 1)) := by
  have k : ∃ a : Nat, (F5 v).toInt = (a : Int) ∧ 1 ≤ a ∧ a ≤ 5 ∧ v.toInt.toNat < 2 ^ (7 * a) := by
    unfold F5
    simp only [Int64.lt_iff_toInt_lt, (by decide : (128 : Int64).toInt = 128), (by decide : (16384 : Int64).toInt = 16384), (by decide : (2097152 : Int64).toInt = 2097152), (by decide : (268435456 : Int64).toInt = 268435456)]
    split
    · exact ⟨1, by decide, by decide, by decide, by omega⟩
    · split
      · exact ⟨2, by decide, by decide, by decide, by omega⟩
      · split
        · exact ⟨3, by decide, by decide, by decide, by omega⟩
        · split
          · exact ⟨4, by decide, by decide, by decide, by omega⟩
          · exact ⟨5, by decide, by decide, by decide, by omega⟩
  obtain ⟨a, e, a1, a5, hb⟩ := k
  have c := c_iadd (F5 v) y
  have r := rng32 ((F5 v) + y)
  generalize (F5 v) + y = z at c r ⊢
  have hz : z.toInt = (a : Int) + y.toInt := by omega
  have m : (F6 (10 : Int32) z).toInt = (if z.toInt < 10 then z.toInt else 10) := by
    unfold F6
    simp only [Int32.lt_iff_toInt_lt, (by decide : (10 : Int32).toInt = 10)]
    split <;> rfl
  generalize F6 (10 : Int32) z = w at m ⊢
  split at m
  · refine ⟨by omega, by omega, Nat.lt_of_lt_of_le hb (Nat.pow_le_pow_right (by decide) (by omega))⟩
  · refine ⟨by omega, by omega, Nat.lt_of_lt_of_le hb (Nat.pow_le_pow_right (by decide) (by omega))⟩
theorem own_a7 (x : Int32) : 0 ≤ (x &&& (7 : Int32)).toInt ∧ (x &&& (7 : Int32)).toInt ≤ 7 := by
  have h := c_and x (7 : Int32) (by decide)
  rw [(by decide : (7 : Int32).toInt = 7)] at h; exact h
theorem own_a3 (x : Int32) : (x &&& (3 : Int32)) = 0 ∨ (x &&& (3 : Int32)) = 1 ∨ (x &&& (3 : Int32)) = 2 ∨ (x &&& (3 : Int32)) = 3 := by
  have h := c_and x (3 : Int32) (by decide)
  rw [(by decide : (3 : Int32).toInt = 3)] at h
  simp only [← Int32.toInt_inj, (by decide : (0 : Int32).toInt = 0), (by decide : (1 : Int32).toInt = 1), (by decide : (2 : Int32).toInt = 2), (by decide : (3 : Int32).toInt = 3)]
  omega
theorem own_lf (x : Int32) (h : x = 0 ∨ x = 1 ∨ x = 2 ∨ x = 3) : 0 ≤ x.toInt ∧ x.toInt ≤ 3 := by rcases h with rfl | rfl | rfl | rfl <;> decide
theorem own_ne (p en : Int32) (o n i : Nat) (hp : p.toInt = (o : Int)) (he : en.toInt = (n : Int)) (h : o + i < n) (hi : i ≤ 100) (hn : n < 1000) : ¬ vpo p i = en := fun q => by
  have v := vpo_val p i hi (by omega) (by omega)
  rw [q] at v; omega
theorem own_vp (o : Nat) (i : Nat) (p : Int32) (hp : p.toInt = (o : Int)) (hi : i ≤ 100) (ho : o ≤ 1000) : (vpo p i).toInt = ((o + i : Nat) : Int) := by
  have v := vpo_val p i hi (by omega) (by omega)
  omega
theorem own_e1 (kl x : Int32) (kv a : Nat) (h : kl.toInt = (kv : Int) + 1) (hk : kv ≤ 9) (hx : x.toInt = (a : Int)) (ha : a ≤ 100) : (kl + x).toInt = ((kv + 1 + a : Nat) : Int) := by
  have c := c_iadd kl x
  have r := rng32 (kl + x)
  omega
theorem own_1lf (x : Int32) (h : x = 0 ∨ x = 1 ∨ x = 2 ∨ x = 3) : ((1 : Int32) + x).toInt = ((1 + x.toInt.toNat : Nat) : Int) := by rcases h with rfl | rfl | rfl | rfl <;> decide
theorem own_num (key n : Int64) (a : Int) (h : key.toInt = 8 * n.toInt + a) (ha : 0 ≤ a ∧ a < 8) (hn : 1 ≤ n.toInt ∧ n.toInt ≤ 536870911) : ((key.toUInt64 >>> ((3 : Int32) &&& 0x3f).toInt64.toUInt64).toInt64) = n ∧ ((key.toInt32) &&& (7 : Int32)).toInt = a := by
  have c : ((key.toUInt64 >>> ((3 : Int32) &&& 0x3f).toInt64.toUInt64).toInt64).toInt = (key.toInt % 18446744073709551616) / 8 := c_lushr key (3 : Int32) 3 (by decide) (by decide)
  have d : ((key.toInt32) &&& (7 : Int32)).toInt = key.toInt32.toInt % 8 := c_mask (key.toInt32) (7 : Int32) 3 (by decide) (by decide)
  have l := c_l2i key
  refine ⟨Int64.toInt_inj.mp ?_, ?_⟩
  · rw [c]; omega
  · rw [d]; omega
theorem own_n0 (n : Int64) (hn : 1 ≤ n.toInt ∧ n.toInt ≤ 536870911) : ¬ n = (0 : Int64) ∧ ¬ (536870911 : Int64) < n ∧ ((n.toInt32).toInt64) = n := by
  refine ⟨fun q => ?_, fun q => ?_, Int64.toInt_inj.mp ?_⟩
  · rw [q, (by decide : (0 : Int64).toInt = 0)] at hn; omega
  · rw [Int64.lt_iff_toInt_lt, (by decide : (536870911 : Int64).toInt = 536870911)] at q; omega
  · rw [c_i2l]
    have l := c_l2i n
    have r := rng32 n.toInt32
    omega
theorem own_b7n (x : Int32) : ¬ ((x &&& (127 : Int32)).toInt8.toInt32) < 0 := fun q => by
  have h : (x &&& (127 : Int32)).toInt = x.toInt % 128 := c_mask x (127 : Int32) 7 (by decide) (by decide)
  have b := c_i2b (x &&& (127 : Int32))
  rw [Int32.lt_iff_toInt_lt, (by decide : (0 : Int32).toInt = 0)] at q
  omega
theorem own_v1 (x : Int32) (h : x = 0 ∨ x = 1 ∨ x = 2 ∨ x = 3) : vac (fun _ => x.toInt8.toInt32) (0 + 1) = x.toInt64 ∧ ¬ x.toInt8.toInt32 < 0 ∧ (x.toInt64).toInt32 = x := by rcases h with rfl | rfl | rfl | rfl <;> decide +kernel

theorem ef_rm0 (m : MethodId) (p0 : Int32) (p1 : Int32) (p2 : Int32) (p3 : Int32) : entryFrame m #[(.int p0), (.int p1), (.int p2), (.int p3)] maxLocals = mkF m 0 #[.val (.int p0), .val (.int p1), .val (.int p2), .val (.int p3), .unset, .unset, .unset, .unset, .unset, .unset, .unset, .unset, .unset, .unset, .unset, .unset, .unset, .unset, .unset, .unset, .unset, .unset] [] := by first | (simp [entryFrame, mkF, argsToLocals, Value.category, maxLocals]; done) | rfl
def Qrm0 (Z : State) (p0 : Int32) (p1 : Int32) (p2 : Int32) (p3 : Int32) (kW : ClassId) (vW : List Value) (w_WIRE_TYPES : Addr) (h0 : Heap) (n0 : Nat) (v : Option Value) (h : Heap) (L : List Loc) : Prop := v = some (Value.int (1 : Int32)) ∧ Fr n0 L ∧ Keep h0 h []
set_option maxRecDepth 65536 in
set_option maxHeartbeats 40000000 in
theorem rm0 (l : Launch) (Z : State) (a0 : Array Value) (hw : ∀ d ∈ tables_1, d.before a0 Z = true) (ws : List Jvm.Cond) (p0 : Int32) (p1 : Int32) (p2 : Int32) (p3 : Int32) (kW : ClassId) (vW : List Value) (w_WIRE_TYPES : Addr) (h0 : Heap) (n0 : Nat) (O0 : Old Z n0 h0) (hW6 : vW.length = 6) (A_w_WIRE_TYPES : Oar Z Z.heap w_WIRE_TYPES kW (.object "java/lang/String") vW) (S_WIRE_TYPES : Sta Z Z.heap "com/example/fillwire/fillwire/codec/ProtoReader" "WIRE_TYPES" "[Ljava/lang/String;" (.ref w_WIRE_TYPES)) :
    MetFree l x (head1 (Jvm.Cond.code x code maxLocals ret :: ws) room_1) (fun a U => a = #[(.int p0), (.int p1), (.int p2), (.int p3)] ∧ Z.Warmed39 U.vm ∧ U.heap = h0) (fun _ _ _ _ _ => True) (fun _ U o U' => ∃ v L, o = .returned v ∧ Qrm0 Z p0 p1 p2 p3 kW vW w_WIRE_TYPES h0 n0 v U'.heap L ∧ ReturnedEndW U o U' L room_1.cells room_1.slots) := by
  refine MetFree.of_bodySF (plainFor_of_name pn_com_example_fillwire_fillwire_codec_ProtoReaderNextPinLaw) hisR ?_
  intro p e s m args below meth c s₁ Bd hml0 hP hK
  obtain ⟨rfl, hZ, hh⟩ := hP
  have hx := Bd.exec
  have hby := Bd.bytes
  have hml : c.maxLocals = 22 := hml0
  have hown : s.vm.findClass "com/example/fillwire/fillwire/codec/ProtoReaderNextPinLaw" = some m.cls := findClass_of_methodNamed Bd.named
  have hnm := (name_of_methodNamed Bd.named Bd.method).1
  have X0 : Stand p l e room_1 (s.setVm s.vm) m #[(.int p0), (.int p1), (.int p2), (.int p3)] below meth c s₁ [] 0 0 := Stand.of_body Bd
  have e0 : s₁.heap = h0 := by rw [← hh, Bd.state]; rfl
  have N0 := Fr.nil n0
  have hS0 : s.Since s.vm 0 := (State.WarmedH.refl s).since 0
  have hk0 : 0 ≤ h0.size := Nat.zero_le _
  show OFin p e below (fun o t L => ReturnedEndW s o t L room_1.cells room_1.slots) (fun v h L => Qrm0 Z p0 p1 p2 p3 kW vW w_WIRE_TYPES h0 n0 v h L) s₁ (entryFrame m #[(.int p0), (.int p1), (.int p2), (.int p3)] maxLocals)
  refine OFin.cast (ef_rm0 m p0 p1 p2 p3) ?_
  show OFin p e below _ _ s₁ (mkF m 0 #[.val (.int p0), .val (.int p1), .val (.int p2), .val (.int p3), .unset, .unset, .unset, .unset, .unset, .unset, .unset, .unset, .unset, .unset, .unset, .unset, .unset, .unset, .unset, .unset, .unset, .unset] [])
  obtain ⟨T1, h1, X1, e1, E1, A1, D1, -, st1⟩ := newO X0 hx hZ hown (hw _ (List.mem_of_getElem? (i := 0) rfl)) (hw _ (List.mem_of_getElem? (i := 1) rfl)) (hw _ (List.mem_of_getElem? (i := 2) rfl)) e0 (g := (mkF m 0 #[.val (.int p0), .val (.int p1), .val (.int p2), .val (.int p3), .unset, .unset, .unset, .unset, .unset, .unset, .unset, .unset, .unset, .unset, .unset, .unset, .unset, .unset, .unset, .unset, .unset, .unset] [])) rfl (hb hby at_0) (by decide) (by decide)
  obtain ⟨b1, gz_b1⟩ : ∃ z, z = h0.size := ⟨_, rfl⟩
  rw [← gz_b1] at A1 D1 st1
  have g_b1 : n0 ≤ b1 := Nat.le_trans (Nat.le_trans (Nat.le_of_eq O0.1.symm) O0.2.1) (Nat.le_of_eq gz_b1.symm)
  have sz_b1 : h0.size ≤ b1 := Nat.le_trans (Keep.refl h0 []).1 (Nat.le_of_eq gz_b1.symm)
  have hk1 := Nat.le_trans hk0 E1.1
  have K1 : Keep h0 h1 [] := (Keep.refl h0 []).ext E1
  have O1 : Old Z n0 h1 := O0.ext E1
  have F_bytes_b1 : Fld Z h1 b1 "com/example/fillwire/fillwire/codec/ProtoReader" "bytes" "[B" .null := D1 (Or.inr (hw _ (List.mem_of_getElem? (i := 21) rfl))) (ty := (.array .byte)) (by decide)
  have F_position_b1 : Fld Z h1 b1 "com/example/fillwire/fillwire/codec/ProtoReader" "position" "I" (.int (0 : Int32)) := D1 (Or.inl (hw _ (List.mem_of_getElem? (i := 23) rfl))) (ty := .int) (by decide)
  have F_end_b1 : Fld Z h1 b1 "com/example/fillwire/fillwire/codec/ProtoReader" "end" "I" (.int (0 : Int32)) := D1 (Or.inr (hw _ (List.mem_of_getElem? (i := 25) rfl))) (ty := .int) (by decide)
  have F_name_b1 : Fld Z h1 b1 "com/example/fillwire/fillwire/codec/ProtoReader" "name" "Ljava/lang/String;" .null := D1 (Or.inr (hw _ (List.mem_of_getElem? (i := 27) rfl))) (ty := (.object "java/lang/String")) (by decide)
  have F_field_b1 : Fld Z h1 b1 "com/example/fillwire/fillwire/codec/ProtoReader" "field" "I" (.int (0 : Int32)) := D1 (Or.inl (hw _ (List.mem_of_getElem? (i := 57) rfl))) (ty := .int) (by decide)
  have F_wireType_b1 : Fld Z h1 b1 "com/example/fillwire/fillwire/codec/ProtoReader" "wireType" "I" (.int (0 : Int32)) := D1 (Or.inl (hw _ (List.mem_of_getElem? (i := 64) rfl))) (ty := .int) (by decide)
  refine OFin.st st1 ?_
  refine OFin.st (fun t k => XS.dup X1.here hx rfl (hb hby at_3) rfl rfl k) ?_
  refine OFin.st (fun t k => XS.iconst X1.here hx rfl (hb hby at_4) k) ?_
  obtain ⟨T2, h2, k2, X2, e2, E2, A2, st2⟩ := own_newP X1 hx hZ (hw _ (List.mem_of_getElem? (i := 3) rfl)) e1 (z := (0 : Int32)) (n := 0) (cap := 0) (by decide) (by decide) (by decide) (by decide) (by decide) (pc := 5) (Ls := #[.val (.int p0), .val (.int p1), .val (.int p2), .val (.int p3), .unset, .unset, .unset, .unset, .unset, .unset, .unset, .unset, .unset, .unset, .unset, .unset, .unset, .unset, .unset, .unset, .unset, .unset]) (rest := [(.ref b1), (.ref b1)]) (hb hby at_5)
  obtain ⟨b2, gz_b2⟩ : ∃ z, z = h1.size := ⟨_, rfl⟩
  rw [← gz_b2] at A2 st2
  have N_b1_b2 : b1 ≠ b2 := Nat.ne_of_lt (Nat.lt_of_lt_of_le A1.lt (Nat.le_of_eq gz_b2.symm))
  have g_b2 : n0 ≤ b2 := Nat.le_trans (Nat.le_trans (Nat.le_of_eq O1.1.symm) O1.2.1) (Nat.le_of_eq gz_b2.symm)
  have sz_b2 : h0.size ≤ b2 := Nat.le_trans K1.1 (Nat.le_of_eq gz_b2.symm)
  have hk2 := Nat.le_trans hk1 E2.1
  have K2 : Keep h0 h2 [] := K1.ext E2
  have O2 : Old Z n0 h2 := O1.ext E2
  have V2 : Oar Z h2 b2 k2 .byte [] := A2
  refine OFin.st st2 ?_
  show OFin p e below _ _ T2 (mkF m 7 #[.val (.int p0), .val (.int p1), .val (.int p2), .val (.int p3), .unset, .unset, .unset, .unset, .unset, .unset, .unset, .unset, .unset, .unset, .unset, .unset, .unset, .unset, .unset, .unset, .unset, .unset] [(.ref b2), (.ref b1), (.ref b1)])
  have wS3 : ∀ a ∈ Bundle.stringAtoms, a.before a0 Z = true := by
    intro a ha
    simp only [Bundle.stringAtoms, List.mem_cons, List.not_mem_nil, or_false] at ha
    rcases ha with rfl | rfl | rfl | rfl | rfl | rfl | rfl
    · exact (hw _ (List.mem_of_getElem? (i := 5) rfl))
    · exact (hw _ (List.mem_of_getElem? (i := 6) rfl))
    · exact (hw _ (List.mem_of_getElem? (i := 3) rfl))
    · exact (hw _ (List.mem_of_getElem? (i := 7) rfl))
    · exact (hw _ (List.mem_of_getElem? (i := 8) rfl))
    · exact (hw _ (List.mem_of_getElem? (i := 9) rfl))
    · exact (hw _ (List.mem_of_getElem? (i := 10) rfl))
  obtain ⟨a3, T3, h3, kz3, X3, e3, E3, hS3, hkq3, hZ, hown, st3⟩ := ldcS X2 hx hZ hown (hw _ (List.mem_of_getElem? (i := 4) rfl)) wS3 e2 hS0 hk2 (g := (mkF m 7 #[.val (.int p0), .val (.int p1), .val (.int p2), .val (.int p3), .unset, .unset, .unset, .unset, .unset, .unset, .unset, .unset, .unset, .unset, .unset, .unset, .unset, .unset, .unset, .unset, .unset, .unset] [(.ref b2), (.ref b1), (.ref b1)])) rfl (hb hby at_7) (n := 4) (by decide) (by decide) (by decide) (by decide)
  refine OFin.st st3 ?_
  have hk3 := Nat.le_trans hk2 E3.1
  have K3 : Keep h0 h3 [] := K2.ext E3
  have O3 : Old Z n0 h3 := O2.ext E3
  have hk3 := hkq3
  obtain ⟨_, _, ⟨T4, L4, k4, n4⟩, -, X4, ⟨Lc4, hQ4, l4, y4, z4⟩, st4⟩ := X3.specialBack hx (y := (⟨"com/example/fillwire/fillwire/codec/ProtoReader", "<init>", "([BLjava/lang/String;)V"⟩ : MethodName)) rfl hown (mvT hZ (hw _ (List.mem_of_getElem? (i := 11) rfl))) (mvT hZ (hw _ (List.mem_of_getElem? (i := 12) rfl))) (mvT hZ (hw _ (List.mem_of_getElem? (i := 13) rfl))) (by decide) (backOf (W := 1) (rm1 l Z a0 hw [] b1 b2 a3 .null (.int (0 : Int32)) (.int (0 : Int32)) .null (0 : Int32) (0 : Int32) k2 [] (0 : Int32) h3 n0 O3 ((A1.ext E2).ext E3) ((F_bytes_b1.ext E2).ext E3) ((F_position_b1.ext E2).ext E3) ((F_end_b1.ext E2).ext E3) ((F_name_b1.ext E2).ext E3) ((F_field_b1.ext E2).ext E3) ((F_wireType_b1.ext E2).ext E3) g_b1 (V2.ext E3) (by decide)) hZ (hw _ (List.mem_of_getElem? (i := 13) rfl)) (hw _ (List.mem_of_getElem? (i := 2) rfl)) (by decide) (by decide)) (g := (mkF m 9 #[.val (.int p0), .val (.int p1), .val (.int p2), .val (.int p3), .unset, .unset, .unset, .unset, .unset, .unset, .unset, .unset, .unset, .unset, .unset, .unset, .unset, .unset, .unset, .unset, .unset, .unset] [(.ref a3), (.ref b2), (.ref b1), (.ref b1)])) rfl (by rw [hml]; rfl) (Steps.refl _) (a := b1) (argsL := [(.ref b2), (.ref a3)]) (rest := [(.ref b1)]) (lenOf pd_10 rfl) rfl (by show 2 * 0 + _ ≤ _; exact Nat.le_of_eq rfl) (hb hby at_9) (fun _ _ => ⟨rfl, e3, (by decide : 4 + 0 ≤ _), (by decide : 14 + 0 ≤ _)⟩)
  dsimp only [Pt.U, Pt.locs, Pt.cells, Pt.slots] at X4 l4 y4 z4 st4 hQ4
  subst l4 y4 z4
  obtain ⟨rfl, N4q, K4q, P4_0, P4_1, P4_2, P4_3, P4_4, P4_5⟩ := hQ4
  have N4 := Fr.app N0 N4q
  have hk4 := Nat.le_trans hk3 K4q.1
  have K4 : Keep h0 T4.heap [] := K3.trans K4q (allS (Or.inr sz_b1) all0)
  have O4 : Old Z n0 T4.heap := O3.keep K4q (allS g_b1 all0)
  refine OFin.tr st4 ?_
  refine OFin.st (fun t k => XS.astore X4.here hx rfl (hb hby at_12) rfl rfl (l' := #[.val (.int p0), .val (.int p1), .val (.int p2), .val (.int p3), .val (.ref b1), .unset, .unset, .unset, .unset, .unset, .unset, .unset, .unset, .unset, .unset, .unset, .unset, .unset, .unset, .unset, .unset, .unset]) rfl k) ?_
  refine OFin.st (fun t k => XS.aload X4.here hx rfl (hb hby at_14) rfl rfl k) ?_
  show OFin p e below _ _ T4 (mkF m 16 #[.val (.int p0), .val (.int p1), .val (.int p2), .val (.int p3), .val (.ref b1), .unset, .unset, .unset, .unset, .unset, .unset, .unset, .unset, .unset, .unset, .unset, .unset, .unset, .unset, .unset, .unset, .unset] [(.ref b1)])
  obtain ⟨cq5, kq5, q5a, q5b, q5c⟩ := isOf hZ rfl P4_0
  obtain ⟨_, _, ⟨T5, L5, k5, n5⟩, -, X5, ⟨Lc5, hQ5, l5, y5, z5⟩, st5⟩ := X4.virtualBack hx (y := (⟨"com/example/fillwire/fillwire/codec/ProtoReader", "next", "()Z"⟩ : MethodName)) (z := (⟨"com/example/fillwire/fillwire/codec/ProtoReader", "next", "()Z"⟩ : MethodName)) hown (mvT hZ (hw _ (List.mem_of_getElem? (i := 28) rfl))) (mvT hZ (hw _ (List.mem_of_getElem? (i := 29) rfl))) (notFace_of_selects (args := #[]) (mvT hZ (hw _ (List.mem_of_getElem? (i := 31) rfl)))) (mvT hZ (hw _ (List.mem_of_getElem? (i := 31) rfl))) (mvT hZ (hw _ (List.mem_of_getElem? (i := 30) rfl))) (by decide) (backOf (W := 0) (rm4e l Z a0 hw [] b1 (0 : Int32) T4.heap n0 O4 P4_0 P4_2 P4_3) hZ (hw _ (List.mem_of_getElem? (i := 32) rfl)) (hw _ (List.mem_of_getElem? (i := 2) rfl)) (by decide) (by decide)) q5a q5c (g := (mkF m 16 #[.val (.int p0), .val (.int p1), .val (.int p2), .val (.int p3), .val (.ref b1), .unset, .unset, .unset, .unset, .unset, .unset, .unset, .unset, .unset, .unset, .unset, .unset, .unset, .unset, .unset, .unset, .unset] [(.ref b1)])) rfl (by rw [hml]; rfl) (Steps.refl _) (argsL := []) (rest := []) (lenOf pd_3 rfl) rfl (by show 2 * 0 + _ ≤ _; exact Nat.le_of_eq rfl) (hb hby at_16) (fun _ _ => ⟨rfl, rfl, (by decide : 4 + 0 ≤ _), (by decide : 14 + 0 ≤ _)⟩)
  dsimp only [Pt.U, Pt.locs, Pt.cells, Pt.slots] at X5 l5 y5 z5 st5 hQ5
  subst l5 y5 z5
  obtain ⟨rfl, N5q, e5⟩ := hQ5
  have N5 := Fr.app N4 N5q
  refine OFin.tr st5 ?_
  refine OFin.st (fun t k => XS.ifNo X5.here hx rfl (hb hby at_19) rfl ((if0 _ _).trans (teq rfl).2) k) ?_
  show OFin p e below _ _ T5 (mkF m 22 #[.val (.int p0), .val (.int p1), .val (.int p2), .val (.int p3), .val (.ref b1), .unset, .unset, .unset, .unset, .unset, .unset, .unset, .unset, .unset, .unset, .unset, .unset, .unset, .unset, .unset, .unset, .unset] [])
  refine OFin.st (fun t k => XS.iconst X5.here hx rfl (hb hby at_22) k) ?_
  refine OFin.st (fun t k => XS.goto X5.here hx rfl (pc0 := 23) (pc' := 27) rfl (hb hby at_23) (by decide) (by decide) k) ?_
  refine OFin.st (fun t k => XS.istore X5.here hx rfl (hb hby at_27) rfl (l' := #[.val (.int p0), .val (.int p1), .val (.int p2), .val (.int p3), .val (.ref b1), .val (.int (1 : Int32)), .unset, .unset, .unset, .unset, .unset, .unset, .unset, .unset, .unset, .unset, .unset, .unset, .unset, .unset, .unset, .unset]) rfl k) ?_
  show OFin p e below _ _ T5 (mkF m 29 #[.val (.int p0), .val (.int p1), .val (.int p2), .val (.int p3), .val (.ref b1), .val (.int (1 : Int32)), .unset, .unset, .unset, .unset, .unset, .unset, .unset, .unset, .unset, .unset, .unset, .unset, .unset, .unset, .unset, .unset] [])
  refine OFin.st (fun t k => XS.iloadN X5.here hx rfl (hb hby at_29) rfl k) ?_
  refine OFin.st (fun t k => XS.i2l X5.here hx rfl (hb hby at_30) rfl k) ?_
  refine OFin.st (X5.ldc2Long hx hown (mvT hZ (hw _ (List.mem_of_getElem? (i := 33) rfl))) (g := (mkF m 31 #[.val (.int p0), .val (.int p1), .val (.int p2), .val (.int p3), .val (.ref b1), .val (.int (1 : Int32)), .unset, .unset, .unset, .unset, .unset, .unset, .unset, .unset, .unset, .unset, .unset, .unset, .unset, .unset, .unset, .unset] [(.long (p0.toInt64))])) rfl (hb hby at_31)) ?_
  refine OFin.st (fun t k => XS.land X5.here hx rfl (hb hby at_34) rfl k) ?_
  show OFin p e below _ _ T5 (mkF m 35 #[.val (.int p0), .val (.int p1), .val (.int p2), .val (.int p3), .val (.ref b1), .val (.int (1 : Int32)), .unset, .unset, .unset, .unset, .unset, .unset, .unset, .unset, .unset, .unset, .unset, .unset, .unset, .unset, .unset, .unset] [(.long ((p0.toInt64) &&& (536870911 : Int64)))])
  refine OFin.st (fun t k => XS.lstore X5.here hx rfl (hb hby at_35) rfl (l' := #[.val (.int p0), .val (.int p1), .val (.int p2), .val (.int p3), .val (.ref b1), .val (.int (1 : Int32)), .val (.long ((p0.toInt64) &&& (536870911 : Int64))), .second, .unset, .unset, .unset, .unset, .unset, .unset, .unset, .unset, .unset, .unset, .unset, .unset, .unset, .unset]) rfl k) ?_
  refine OFin.st (fun t k => XS.lload X5.here hx rfl (hb hby at_37) rfl k) ?_
  refine OFin.st (fun t k => XS.lconst X5.here hx rfl (hb hby at_39) k) ?_
  refine OFin.st (fun t k => XS.lcmp X5.here hx rfl (hb hby at_40) rfl k) ?_
  show OFin p e below _ _ T5 (mkF m 41 #[.val (.int p0), .val (.int p1), .val (.int p2), .val (.int p3), .val (.ref b1), .val (.int (1 : Int32)), .val (.long ((p0.toInt64) &&& (536870911 : Int64))), .second, .unset, .unset, .unset, .unset, .unset, .unset, .unset, .unset, .unset, .unset, .unset, .unset, .unset, .unset] [(.int (lcmpW ((p0.toInt64) &&& (536870911 : Int64)) (0 : Int64)))])
  have join6 : ∀ (nn : Int64), (1 ≤ nn.toInt ∧ nn.toInt ≤ 536870911) → OFin p e below (fun o t L => ReturnedEndW s o t L room_1.cells room_1.slots) (fun v h L => Qrm0 Z p0 p1 p2 p3 kW vW w_WIRE_TYPES h0 n0 v h L) T5 (mkF m 47 #[.val (.int p0), .val (.int p1), .val (.int p2), .val (.int p3), .val (.ref b1), .val (.int (1 : Int32)), .val (.long nn), .second, .unset, .unset, .unset, .unset, .unset, .unset, .unset, .unset, .unset, .unset, .unset, .unset, .unset, .unset] []) := by
    intro nn hn
    refine OFin.st (fun t k => XS.iloadN X5.here hx rfl (hb hby at_47) rfl k) ?_
    refine OFin.st (X5.ldcInt hx hown (mvT hZ (hw _ (List.mem_of_getElem? (i := 34) rfl))) (g := (mkF m 48 #[.val (.int p0), .val (.int p1), .val (.int p2), .val (.int p3), .val (.ref b1), .val (.int (1 : Int32)), .val (.long nn), .second, .unset, .unset, .unset, .unset, .unset, .unset, .unset, .unset, .unset, .unset, .unset, .unset, .unset, .unset] [(.int p1)])) rfl (hb hby at_48)) ?_
    refine OFin.st (fun t k => XS.iand X5.here hx rfl (hb hby at_50) rfl k) ?_
    refine OFin.st (fun t k => XS.iconst X5.here hx rfl (hb hby at_51) k) ?_
    show OFin p e below _ _ T5 (mkF m 52 #[.val (.int p0), .val (.int p1), .val (.int p2), .val (.int p3), .val (.ref b1), .val (.int (1 : Int32)), .val (.long nn), .second, .unset, .unset, .unset, .unset, .unset, .unset, .unset, .unset, .unset, .unset, .unset, .unset, .unset, .unset] [(.int (5 : Int32)), (.int (p1 &&& (2147483647 : Int32)))])
    refine OFin.st (fun t k => iremM X5 hx rfl (hb hby at_52) rfl (by decide) k) ?_
    refine OFin.st (fun t k => XS.istore X5.here hx rfl (hb hby at_53) rfl (l' := #[.val (.int p0), .val (.int p1), .val (.int p2), .val (.int p3), .val (.ref b1), .val (.int (1 : Int32)), .val (.long nn), .second, .val (.int ((p1 &&& (2147483647 : Int32)) % (5 : Int32))), .unset, .unset, .unset, .unset, .unset, .unset, .unset, .unset, .unset, .unset, .unset, .unset, .unset]) rfl k) ?_
    refine OFin.st (fun t k => XS.iload X5.here hx rfl (hb hby at_55) rfl k) ?_
    refine OFin.st (fun t k => XS.iconst X5.here hx rfl (hb hby at_57) k) ?_
    show OFin p e below _ _ T5 (mkF m 58 #[.val (.int p0), .val (.int p1), .val (.int p2), .val (.int p3), .val (.ref b1), .val (.int (1 : Int32)), .val (.long nn), .second, .val (.int ((p1 &&& (2147483647 : Int32)) % (5 : Int32))), .unset, .unset, .unset, .unset, .unset, .unset, .unset, .unset, .unset, .unset, .unset, .unset, .unset] [(.int (4 : Int32)), (.int ((p1 &&& (2147483647 : Int32)) % (5 : Int32)))])
    have join7 : ∀ (tt : Int32), (tt = 0 ∨ tt = 1 ∨ tt = 2 ∨ tt = 3 ∨ tt = 5) → OFin p e below (fun o t L => ReturnedEndW s o t L room_1.cells room_1.slots) (fun v h L => Qrm0 Z p0 p1 p2 p3 kW vW w_WIRE_TYPES h0 n0 v h L) T5 (mkF m 64 #[.val (.int p0), .val (.int p1), .val (.int p2), .val (.int p3), .val (.ref b1), .val (.int (1 : Int32)), .val (.long nn), .second, .val (.int tt), .unset, .unset, .unset, .unset, .unset, .unset, .unset, .unset, .unset, .unset, .unset, .unset, .unset] []) := by
      intro tt ht
      refine OFin.st (fun t k => XS.lload X5.here hx rfl (hb hby at_64) rfl k) ?_
      refine OFin.st (fun t k => XS.iconst X5.here hx rfl (hb hby at_66) k) ?_
      refine OFin.st (fun t k => XS.lshl X5.here hx rfl (hb hby at_67) rfl k) ?_
      refine OFin.st (fun t k => XS.iload X5.here hx rfl (hb hby at_68) rfl k) ?_
      show OFin p e below _ _ T5 (mkF m 70 #[.val (.int p0), .val (.int p1), .val (.int p2), .val (.int p3), .val (.ref b1), .val (.int (1 : Int32)), .val (.long nn), .second, .val (.int tt), .unset, .unset, .unset, .unset, .unset, .unset, .unset, .unset, .unset, .unset, .unset, .unset, .unset] [(.int tt), (.long (nn <<< ((3 : Int32) &&& 0x3f).toInt64))])
      refine OFin.st (fun t k => XS.i2l X5.here hx rfl (hb hby at_70) rfl k) ?_
      refine OFin.st (fun t k => XS.lor X5.here hx rfl (hb hby at_71) rfl k) ?_
      refine OFin.st (fun t k => XS.lstore X5.here hx rfl (hb hby at_72) rfl (l' := #[.val (.int p0), .val (.int p1), .val (.int p2), .val (.int p3), .val (.ref b1), .val (.int (1 : Int32)), .val (.long nn), .second, .val (.int tt), .val (.long ((nn <<< ((3 : Int32) &&& 0x3f).toInt64) ||| (tt.toInt64))), .second, .unset, .unset, .unset, .unset, .unset, .unset, .unset, .unset, .unset, .unset, .unset]) rfl k) ?_
      refine OFin.st (fun t k => XS.bipush X5.here hx rfl (hb hby at_74) k) ?_
      show OFin p e below _ _ T5 (mkF m 76 #[.val (.int p0), .val (.int p1), .val (.int p2), .val (.int p3), .val (.ref b1), .val (.int (1 : Int32)), .val (.long nn), .second, .val (.int tt), .val (.long ((nn <<< ((3 : Int32) &&& 0x3f).toInt64) ||| (tt.toInt64))), .second, .unset, .unset, .unset, .unset, .unset, .unset, .unset, .unset, .unset, .unset, .unset] [(.int (10 : Int32))])
      refine OFin.st (fun t k => XS.lload X5.here hx rfl (hb hby at_76) rfl k) ?_
      obtain ⟨_, _, ⟨T8, L8, k8, n8⟩, -, X8, ⟨Lc8, hQ8, l8, y8, z8⟩, st8⟩ := Jvm.LawKit.callS X5 hx (y := (⟨"com/example/fillwire/fillwire/codec/ProtoReaderNextPinLaw", "minLen", "(J)I"⟩ : MethodName)) hown (mvT hZ (hw _ (List.mem_of_getElem? (i := 35) rfl))) (mvT hZ (hw _ (List.mem_of_getElem? (i := 36) rfl))) (mvT hZ (hw _ (List.mem_of_getElem? (i := 37) rfl))) (mvT hZ (hw _ (List.mem_of_getElem? (i := 38) rfl))) (by decide) (backOf (W := 1) (rm5 l Z a0 hw [] ((nn <<< ((3 : Int32) &&& 0x3f).toInt64) ||| (tt.toInt64)) T4.heap n0 O4 ) hZ (hw _ (List.mem_of_getElem? (i := 38) rfl)) (hw _ (List.mem_of_getElem? (i := 37) rfl)) (by decide) (by decide)) (g := (mkF m 78 #[.val (.int p0), .val (.int p1), .val (.int p2), .val (.int p3), .val (.ref b1), .val (.int (1 : Int32)), .val (.long nn), .second, .val (.int tt), .val (.long ((nn <<< ((3 : Int32) &&& 0x3f).toInt64) ||| (tt.toInt64))), .second, .unset, .unset, .unset, .unset, .unset, .unset, .unset, .unset, .unset, .unset, .unset] [(.long ((nn <<< ((3 : Int32) &&& 0x3f).toInt64) ||| (tt.toInt64))), (.int (10 : Int32))])) rfl (by rw [hml]; rfl) (argsL := [(.long ((nn <<< ((3 : Int32) &&& 0x3f).toInt64) ||| (tt.toInt64)))]) (rest := [(.int (10 : Int32))]) (lenOf pd_6 rfl) rfl (by show 2 * 0 + _ ≤ _; exact Nat.le_of_eq rfl) (hb hby at_78) (fun _ _ => ⟨rfl, e5, (by decide : 4 + 0 ≤ _), (by decide : 14 + 0 ≤ _)⟩)
      dsimp only [Pt.U, Pt.locs, Pt.cells, Pt.slots] at X8 l8 y8 z8 st8 hQ8
      subst l8 y8 z8
      obtain ⟨rfl, N8q, e8⟩ := hQ8
      have N8 := Fr.app N5 N8q
      refine OFin.st st8 ?_
      refine OFin.st (fun t k => XS.iloadN X8.here hx rfl (hb hby at_81) rfl k) ?_
      refine OFin.st (fun t k => XS.bipush X8.here hx rfl (hb hby at_82) k) ?_
      show OFin p e below _ _ T8 (mkF m 84 #[.val (.int p0), .val (.int p1), .val (.int p2), .val (.int p3), .val (.ref b1), .val (.int (1 : Int32)), .val (.long nn), .second, .val (.int tt), .val (.long ((nn <<< ((3 : Int32) &&& 0x3f).toInt64) ||| (tt.toInt64))), .second, .unset, .unset, .unset, .unset, .unset, .unset, .unset, .unset, .unset, .unset, .unset] [(.int (7 : Int32)), (.int p2), (.int (F5 ((nn <<< ((3 : Int32) &&& 0x3f).toInt64) ||| (tt.toInt64)))), (.int (10 : Int32))])
      refine OFin.st (fun t k => XS.iand X8.here hx rfl (hb hby at_84) rfl k) ?_
      refine OFin.st (fun t k => XS.iadd X8.here hx rfl (hb hby at_85) rfl k) ?_
      obtain ⟨_, _, ⟨T9, L9, k9, n9⟩, -, X9, ⟨Lc9, hQ9, l9, y9, z9⟩, st9⟩ := Jvm.LawKit.callS X8 hx (y := (⟨"java/lang/Math", "min", "(II)I"⟩ : MethodName)) hown (mvT hZ (hw _ (List.mem_of_getElem? (i := 40) rfl))) (mvT hZ (hw _ (List.mem_of_getElem? (i := 41) rfl))) (mvT hZ (hw _ (List.mem_of_getElem? (i := 42) rfl))) (mvT hZ (hw _ (List.mem_of_getElem? (i := 43) rfl))) (by decide) (backOf (W := 0) (rm6 l Z a0 hw [] (10 : Int32) ((F5 ((nn <<< ((3 : Int32) &&& 0x3f).toInt64) ||| (tt.toInt64))) + (p2 &&& (7 : Int32))) T4.heap n0 O4 ) hZ (hw _ (List.mem_of_getElem? (i := 43) rfl)) (hw _ (List.mem_of_getElem? (i := 42) rfl)) (by decide) (by decide)) (g := (mkF m 86 #[.val (.int p0), .val (.int p1), .val (.int p2), .val (.int p3), .val (.ref b1), .val (.int (1 : Int32)), .val (.long nn), .second, .val (.int tt), .val (.long ((nn <<< ((3 : Int32) &&& 0x3f).toInt64) ||| (tt.toInt64))), .second, .unset, .unset, .unset, .unset, .unset, .unset, .unset, .unset, .unset, .unset, .unset] [(.int ((F5 ((nn <<< ((3 : Int32) &&& 0x3f).toInt64) ||| (tt.toInt64))) + (p2 &&& (7 : Int32)))), (.int (10 : Int32))])) rfl (by rw [hml]; rfl) (argsL := [(.int (10 : Int32)), (.int ((F5 ((nn <<< ((3 : Int32) &&& 0x3f).toInt64) ||| (tt.toInt64))) + (p2 &&& (7 : Int32))))]) (rest := []) (lenOf pd_5 rfl) rfl (by show 2 * 0 + _ ≤ _; exact Nat.le_of_eq rfl) (hb hby at_86) (fun _ _ => ⟨rfl, e8, (by decide : 4 + 0 ≤ _), (by decide : 14 + 0 ≤ _)⟩)
      dsimp only [Pt.U, Pt.locs, Pt.cells, Pt.slots] at X9 l9 y9 z9 st9 hQ9
      subst l9 y9 z9
      obtain ⟨rfl, N9q, e9⟩ := hQ9
      have N9 := Fr.app N8 N9q
      refine OFin.st st9 ?_
      refine OFin.st (fun t k => XS.istore X9.here hx rfl (hb hby at_89) rfl (l' := #[.val (.int p0), .val (.int p1), .val (.int p2), .val (.int p3), .val (.ref b1), .val (.int (1 : Int32)), .val (.long nn), .second, .val (.int tt), .val (.long ((nn <<< ((3 : Int32) &&& 0x3f).toInt64) ||| (tt.toInt64))), .second, .val (.int (F6 (10 : Int32) ((F5 ((nn <<< ((3 : Int32) &&& 0x3f).toInt64) ||| (tt.toInt64))) + (p2 &&& (7 : Int32))))), .unset, .unset, .unset, .unset, .unset, .unset, .unset, .unset, .unset, .unset]) rfl k) ?_
      show OFin p e below _ _ T9 (mkF m 91 #[.val (.int p0), .val (.int p1), .val (.int p2), .val (.int p3), .val (.ref b1), .val (.int (1 : Int32)), .val (.long nn), .second, .val (.int tt), .val (.long ((nn <<< ((3 : Int32) &&& 0x3f).toInt64) ||| (tt.toInt64))), .second, .val (.int (F6 (10 : Int32) ((F5 ((nn <<< ((3 : Int32) &&& 0x3f).toInt64) ||| (tt.toInt64))) + (p2 &&& (7 : Int32))))), .unset, .unset, .unset, .unset, .unset, .unset, .unset, .unset, .unset, .unset] [])
      refine OFin.st (fun t k => XS.lload X9.here hx rfl (hb hby at_91) rfl k) ?_
      refine OFin.st (fun t k => XS.iconst X9.here hx rfl (hb hby at_93) k) ?_
      refine OFin.st (fun t k => XS.lshl X9.here hx rfl (hb hby at_94) rfl k) ?_
      refine OFin.st (X9.ldc2Long hx hown (mvT hZ (hw _ (List.mem_of_getElem? (i := 44) rfl))) (g := (mkF m 95 #[.val (.int p0), .val (.int p1), .val (.int p2), .val (.int p3), .val (.ref b1), .val (.int (1 : Int32)), .val (.long nn), .second, .val (.int tt), .val (.long ((nn <<< ((3 : Int32) &&& 0x3f).toInt64) ||| (tt.toInt64))), .second, .val (.int (F6 (10 : Int32) ((F5 ((nn <<< ((3 : Int32) &&& 0x3f).toInt64) ||| (tt.toInt64))) + (p2 &&& (7 : Int32))))), .unset, .unset, .unset, .unset, .unset, .unset, .unset, .unset, .unset, .unset] [(.long (nn <<< ((3 : Int32) &&& 0x3f).toInt64))])) rfl (hb hby at_95)) ?_
      show OFin p e below _ _ T9 (mkF m 98 #[.val (.int p0), .val (.int p1), .val (.int p2), .val (.int p3), .val (.ref b1), .val (.int (1 : Int32)), .val (.long nn), .second, .val (.int tt), .val (.long ((nn <<< ((3 : Int32) &&& 0x3f).toInt64) ||| (tt.toInt64))), .second, .val (.int (F6 (10 : Int32) ((F5 ((nn <<< ((3 : Int32) &&& 0x3f).toInt64) ||| (tt.toInt64))) + (p2 &&& (7 : Int32))))), .unset, .unset, .unset, .unset, .unset, .unset, .unset, .unset, .unset, .unset] [(.long (4 : Int64)), (.long (nn <<< ((3 : Int32) &&& 0x3f).toInt64))])
      refine OFin.st (fun t k => XS.lor X9.here hx rfl (hb hby at_98) rfl k) ?_
      refine OFin.st (fun t k => XS.lstore X9.here hx rfl (hb hby at_99) rfl (l' := #[.val (.int p0), .val (.int p1), .val (.int p2), .val (.int p3), .val (.ref b1), .val (.int (1 : Int32)), .val (.long nn), .second, .val (.int tt), .val (.long ((nn <<< ((3 : Int32) &&& 0x3f).toInt64) ||| (tt.toInt64))), .second, .val (.int (F6 (10 : Int32) ((F5 ((nn <<< ((3 : Int32) &&& 0x3f).toInt64) ||| (tt.toInt64))) + (p2 &&& (7 : Int32))))), .val (.long ((nn <<< ((3 : Int32) &&& 0x3f).toInt64) ||| (4 : Int64))), .second, .unset, .unset, .unset, .unset, .unset, .unset, .unset, .unset]) rfl k) ?_
      refine OFin.st (fun t k => XS.bipush X9.here hx rfl (hb hby at_101) k) ?_
      refine OFin.st (fun t k => XS.lload X9.here hx rfl (hb hby at_103) rfl k) ?_
      show OFin p e below _ _ T9 (mkF m 105 #[.val (.int p0), .val (.int p1), .val (.int p2), .val (.int p3), .val (.ref b1), .val (.int (1 : Int32)), .val (.long nn), .second, .val (.int tt), .val (.long ((nn <<< ((3 : Int32) &&& 0x3f).toInt64) ||| (tt.toInt64))), .second, .val (.int (F6 (10 : Int32) ((F5 ((nn <<< ((3 : Int32) &&& 0x3f).toInt64) ||| (tt.toInt64))) + (p2 &&& (7 : Int32))))), .val (.long ((nn <<< ((3 : Int32) &&& 0x3f).toInt64) ||| (4 : Int64))), .second, .unset, .unset, .unset, .unset, .unset, .unset, .unset, .unset] [(.long ((nn <<< ((3 : Int32) &&& 0x3f).toInt64) ||| (4 : Int64))), (.int (10 : Int32))])
      obtain ⟨_, _, ⟨T10, L10, k10, n10⟩, -, X10, ⟨Lc10, hQ10, l10, y10, z10⟩, st10⟩ := Jvm.LawKit.callS X9 hx (y := (⟨"com/example/fillwire/fillwire/codec/ProtoReaderNextPinLaw", "minLen", "(J)I"⟩ : MethodName)) hown (mvT hZ (hw _ (List.mem_of_getElem? (i := 35) rfl))) (mvT hZ (hw _ (List.mem_of_getElem? (i := 36) rfl))) (mvT hZ (hw _ (List.mem_of_getElem? (i := 37) rfl))) (mvT hZ (hw _ (List.mem_of_getElem? (i := 38) rfl))) (by decide) (backOf (W := 1) (rm5 l Z a0 hw [] ((nn <<< ((3 : Int32) &&& 0x3f).toInt64) ||| (4 : Int64)) T4.heap n0 O4 ) hZ (hw _ (List.mem_of_getElem? (i := 38) rfl)) (hw _ (List.mem_of_getElem? (i := 37) rfl)) (by decide) (by decide)) (g := (mkF m 105 #[.val (.int p0), .val (.int p1), .val (.int p2), .val (.int p3), .val (.ref b1), .val (.int (1 : Int32)), .val (.long nn), .second, .val (.int tt), .val (.long ((nn <<< ((3 : Int32) &&& 0x3f).toInt64) ||| (tt.toInt64))), .second, .val (.int (F6 (10 : Int32) ((F5 ((nn <<< ((3 : Int32) &&& 0x3f).toInt64) ||| (tt.toInt64))) + (p2 &&& (7 : Int32))))), .val (.long ((nn <<< ((3 : Int32) &&& 0x3f).toInt64) ||| (4 : Int64))), .second, .unset, .unset, .unset, .unset, .unset, .unset, .unset, .unset] [(.long ((nn <<< ((3 : Int32) &&& 0x3f).toInt64) ||| (4 : Int64))), (.int (10 : Int32))])) rfl (by rw [hml]; rfl) (argsL := [(.long ((nn <<< ((3 : Int32) &&& 0x3f).toInt64) ||| (4 : Int64)))]) (rest := [(.int (10 : Int32))]) (lenOf pd_6 rfl) rfl (by show 2 * 0 + _ ≤ _; exact Nat.le_of_eq rfl) (hb hby at_105) (fun _ _ => ⟨rfl, e9, (by decide : 4 + 0 ≤ _), (by decide : 14 + 0 ≤ _)⟩)
      dsimp only [Pt.U, Pt.locs, Pt.cells, Pt.slots] at X10 l10 y10 z10 st10 hQ10
      subst l10 y10 z10
      obtain ⟨rfl, N10q, e10⟩ := hQ10
      have N10 := Fr.app N9 N10q
      refine OFin.st st10 ?_
      refine OFin.st (fun t k => XS.iloadN X10.here hx rfl (hb hby at_108) rfl k) ?_
      refine OFin.st (fun t k => XS.iconst X10.here hx rfl (hb hby at_109) k) ?_
      refine OFin.st (fun t k => XS.iushr X10.here hx rfl (hb hby at_110) rfl k) ?_
      show OFin p e below _ _ T10 (mkF m 111 #[.val (.int p0), .val (.int p1), .val (.int p2), .val (.int p3), .val (.ref b1), .val (.int (1 : Int32)), .val (.long nn), .second, .val (.int tt), .val (.long ((nn <<< ((3 : Int32) &&& 0x3f).toInt64) ||| (tt.toInt64))), .second, .val (.int (F6 (10 : Int32) ((F5 ((nn <<< ((3 : Int32) &&& 0x3f).toInt64) ||| (tt.toInt64))) + (p2 &&& (7 : Int32))))), .val (.long ((nn <<< ((3 : Int32) &&& 0x3f).toInt64) ||| (4 : Int64))), .second, .unset, .unset, .unset, .unset, .unset, .unset, .unset, .unset] [(.int ((p2.toUInt32 >>> ((3 : Int32) &&& 31).toUInt32).toInt32)), (.int (F5 ((nn <<< ((3 : Int32) &&& 0x3f).toInt64) ||| (4 : Int64)))), (.int (10 : Int32))])
      refine OFin.st (fun t k => XS.bipush X10.here hx rfl (hb hby at_111) k) ?_
      refine OFin.st (fun t k => XS.iand X10.here hx rfl (hb hby at_113) rfl k) ?_
      refine OFin.st (fun t k => XS.iadd X10.here hx rfl (hb hby at_114) rfl k) ?_
      obtain ⟨_, _, ⟨T11, L11, k11, n11⟩, -, X11, ⟨Lc11, hQ11, l11, y11, z11⟩, st11⟩ := Jvm.LawKit.callS X10 hx (y := (⟨"java/lang/Math", "min", "(II)I"⟩ : MethodName)) hown (mvT hZ (hw _ (List.mem_of_getElem? (i := 40) rfl))) (mvT hZ (hw _ (List.mem_of_getElem? (i := 41) rfl))) (mvT hZ (hw _ (List.mem_of_getElem? (i := 42) rfl))) (mvT hZ (hw _ (List.mem_of_getElem? (i := 43) rfl))) (by decide) (backOf (W := 0) (rm6 l Z a0 hw [] (10 : Int32) ((F5 ((nn <<< ((3 : Int32) &&& 0x3f).toInt64) ||| (4 : Int64))) + (((p2.toUInt32 >>> ((3 : Int32) &&& 31).toUInt32).toInt32) &&& (7 : Int32))) T4.heap n0 O4 ) hZ (hw _ (List.mem_of_getElem? (i := 43) rfl)) (hw _ (List.mem_of_getElem? (i := 42) rfl)) (by decide) (by decide)) (g := (mkF m 115 #[.val (.int p0), .val (.int p1), .val (.int p2), .val (.int p3), .val (.ref b1), .val (.int (1 : Int32)), .val (.long nn), .second, .val (.int tt), .val (.long ((nn <<< ((3 : Int32) &&& 0x3f).toInt64) ||| (tt.toInt64))), .second, .val (.int (F6 (10 : Int32) ((F5 ((nn <<< ((3 : Int32) &&& 0x3f).toInt64) ||| (tt.toInt64))) + (p2 &&& (7 : Int32))))), .val (.long ((nn <<< ((3 : Int32) &&& 0x3f).toInt64) ||| (4 : Int64))), .second, .unset, .unset, .unset, .unset, .unset, .unset, .unset, .unset] [(.int ((F5 ((nn <<< ((3 : Int32) &&& 0x3f).toInt64) ||| (4 : Int64))) + (((p2.toUInt32 >>> ((3 : Int32) &&& 31).toUInt32).toInt32) &&& (7 : Int32)))), (.int (10 : Int32))])) rfl (by rw [hml]; rfl) (argsL := [(.int (10 : Int32)), (.int ((F5 ((nn <<< ((3 : Int32) &&& 0x3f).toInt64) ||| (4 : Int64))) + (((p2.toUInt32 >>> ((3 : Int32) &&& 31).toUInt32).toInt32) &&& (7 : Int32))))]) (rest := []) (lenOf pd_5 rfl) rfl (by show 2 * 0 + _ ≤ _; exact Nat.le_of_eq rfl) (hb hby at_115) (fun _ _ => ⟨rfl, e10, (by decide : 4 + 0 ≤ _), (by decide : 14 + 0 ≤ _)⟩)
      dsimp only [Pt.U, Pt.locs, Pt.cells, Pt.slots] at X11 l11 y11 z11 st11 hQ11
      subst l11 y11 z11
      obtain ⟨rfl, N11q, e11⟩ := hQ11
      have N11 := Fr.app N10 N11q
      refine OFin.st st11 ?_
      show OFin p e below _ _ T11 (mkF m 118 #[.val (.int p0), .val (.int p1), .val (.int p2), .val (.int p3), .val (.ref b1), .val (.int (1 : Int32)), .val (.long nn), .second, .val (.int tt), .val (.long ((nn <<< ((3 : Int32) &&& 0x3f).toInt64) ||| (tt.toInt64))), .second, .val (.int (F6 (10 : Int32) ((F5 ((nn <<< ((3 : Int32) &&& 0x3f).toInt64) ||| (tt.toInt64))) + (p2 &&& (7 : Int32))))), .val (.long ((nn <<< ((3 : Int32) &&& 0x3f).toInt64) ||| (4 : Int64))), .second, .unset, .unset, .unset, .unset, .unset, .unset, .unset, .unset] [(.int (F6 (10 : Int32) ((F5 ((nn <<< ((3 : Int32) &&& 0x3f).toInt64) ||| (4 : Int64))) + (((p2.toUInt32 >>> ((3 : Int32) &&& 31).toUInt32).toInt32) &&& (7 : Int32)))))])
      refine OFin.st (fun t k => XS.istore X11.here hx rfl (hb hby at_118) rfl (l' := #[.val (.int p0), .val (.int p1), .val (.int p2), .val (.int p3), .val (.ref b1), .val (.int (1 : Int32)), .val (.long nn), .second, .val (.int tt), .val (.long ((nn <<< ((3 : Int32) &&& 0x3f).toInt64) ||| (tt.toInt64))), .second, .val (.int (F6 (10 : Int32) ((F5 ((nn <<< ((3 : Int32) &&& 0x3f).toInt64) ||| (tt.toInt64))) + (p2 &&& (7 : Int32))))), .val (.long ((nn <<< ((3 : Int32) &&& 0x3f).toInt64) ||| (4 : Int64))), .second, .val (.int (F6 (10 : Int32) ((F5 ((nn <<< ((3 : Int32) &&& 0x3f).toInt64) ||| (4 : Int64))) + (((p2.toUInt32 >>> ((3 : Int32) &&& 31).toUInt32).toInt32) &&& (7 : Int32))))), .unset, .unset, .unset, .unset, .unset, .unset, .unset]) rfl k) ?_
      refine OFin.st (fun t k => XS.iloadN X11.here hx rfl (hb hby at_120) rfl k) ?_
      refine OFin.st (fun t k => XS.bipush X11.here hx rfl (hb hby at_121) k) ?_
      refine OFin.st (fun t k => XS.iushr X11.here hx rfl (hb hby at_123) rfl k) ?_
      show OFin p e below _ _ T11 (mkF m 124 #[.val (.int p0), .val (.int p1), .val (.int p2), .val (.int p3), .val (.ref b1), .val (.int (1 : Int32)), .val (.long nn), .second, .val (.int tt), .val (.long ((nn <<< ((3 : Int32) &&& 0x3f).toInt64) ||| (tt.toInt64))), .second, .val (.int (F6 (10 : Int32) ((F5 ((nn <<< ((3 : Int32) &&& 0x3f).toInt64) ||| (tt.toInt64))) + (p2 &&& (7 : Int32))))), .val (.long ((nn <<< ((3 : Int32) &&& 0x3f).toInt64) ||| (4 : Int64))), .second, .val (.int (F6 (10 : Int32) ((F5 ((nn <<< ((3 : Int32) &&& 0x3f).toInt64) ||| (4 : Int64))) + (((p2.toUInt32 >>> ((3 : Int32) &&& 31).toUInt32).toInt32) &&& (7 : Int32))))), .unset, .unset, .unset, .unset, .unset, .unset, .unset] [(.int ((p3.toUInt32 >>> ((8 : Int32) &&& 31).toUInt32).toInt32))])
      refine OFin.st (fun t k => XS.iconst X11.here hx rfl (hb hby at_124) k) ?_
      refine OFin.st (fun t k => XS.iand X11.here hx rfl (hb hby at_125) rfl k) ?_
      refine OFin.st (fun t k => XS.istore X11.here hx rfl (hb hby at_126) rfl (l' := #[.val (.int p0), .val (.int p1), .val (.int p2), .val (.int p3), .val (.ref b1), .val (.int (1 : Int32)), .val (.long nn), .second, .val (.int tt), .val (.long ((nn <<< ((3 : Int32) &&& 0x3f).toInt64) ||| (tt.toInt64))), .second, .val (.int (F6 (10 : Int32) ((F5 ((nn <<< ((3 : Int32) &&& 0x3f).toInt64) ||| (tt.toInt64))) + (p2 &&& (7 : Int32))))), .val (.long ((nn <<< ((3 : Int32) &&& 0x3f).toInt64) ||| (4 : Int64))), .second, .val (.int (F6 (10 : Int32) ((F5 ((nn <<< ((3 : Int32) &&& 0x3f).toInt64) ||| (4 : Int64))) + (((p2.toUInt32 >>> ((3 : Int32) &&& 31).toUInt32).toInt32) &&& (7 : Int32))))), .val (.int (((p3.toUInt32 >>> ((8 : Int32) &&& 31).toUInt32).toInt32) &&& (3 : Int32))), .unset, .unset, .unset, .unset, .unset, .unset]) rfl k) ?_
      show OFin p e below _ _ T11 (mkF m 128 #[.val (.int p0), .val (.int p1), .val (.int p2), .val (.int p3), .val (.ref b1), .val (.int (1 : Int32)), .val (.long nn), .second, .val (.int tt), .val (.long ((nn <<< ((3 : Int32) &&& 0x3f).toInt64) ||| (tt.toInt64))), .second, .val (.int (F6 (10 : Int32) ((F5 ((nn <<< ((3 : Int32) &&& 0x3f).toInt64) ||| (tt.toInt64))) + (p2 &&& (7 : Int32))))), .val (.long ((nn <<< ((3 : Int32) &&& 0x3f).toInt64) ||| (4 : Int64))), .second, .val (.int (F6 (10 : Int32) ((F5 ((nn <<< ((3 : Int32) &&& 0x3f).toInt64) ||| (4 : Int64))) + (((p2.toUInt32 >>> ((3 : Int32) &&& 31).toUInt32).toInt32) &&& (7 : Int32))))), .val (.int (((p3.toUInt32 >>> ((8 : Int32) &&& 31).toUInt32).toInt32) &&& (3 : Int32))), .unset, .unset, .unset, .unset, .unset, .unset] [])
      have cut12 : ∀ (key : Int64) (kl : Int32) (ek : Int64) (el : Int32) (lf : Int32) (kv : Nat) (ev : Nat), (key.toInt = 8 * nn.toInt + tt.toInt) → (ek.toInt = 8 * nn.toInt + 4) → (0 ≤ key.toInt) → (0 ≤ ek.toInt) → (kl.toInt = (kv : Int) + 1) → (kv ≤ 9) → (key.toInt.toNat < 2 ^ (7 * (kv + 1))) → (el.toInt = (ev : Int) + 1) → (ev ≤ 9) → (ek.toInt.toNat < 2 ^ (7 * (ev + 1))) → (lf = 0 ∨ lf = 1 ∨ lf = 2 ∨ lf = 3) → OFin p e below (fun o t L => ReturnedEndW s o t L room_1.cells room_1.slots) (fun v h L => Qrm0 Z p0 p1 p2 p3 kW vW w_WIRE_TYPES h0 n0 v h L) T11 (mkF m 128 #[.val (.int p0), .val (.int p1), .val (.int p2), .val (.int p3), .val (.ref b1), .val (.int (1 : Int32)), .val (.long nn), .second, .val (.int tt), .val (.long key), .second, .val (.int kl), .val (.long ek), .second, .val (.int el), .val (.int lf), .unset, .unset, .unset, .unset, .unset, .unset] []) := by
        intro key kl ek el lf kv ev hkey hek hk0 he0 hkl hk9 hkb hel he9 heb hlf
        rcases ht with rfl | rfl | rfl | rfl | rfl
        · show OFin p e below _ _ T11 (mkF m 128 #[.val (.int p0), .val (.int p1), .val (.int p2), .val (.int p3), .val (.ref b1), .val (.int (1 : Int32)), .val (.long nn), .second, .val (.int (0 : Int32)), .val (.long key), .second, .val (.int kl), .val (.long ek), .second, .val (.int el), .val (.int lf), .unset, .unset, .unset, .unset, .unset, .unset] [])
          refine OFin.st (fun t k => XS.iload X11.here hx rfl (hb hby at_128) rfl k) ?_
          show OFin p e below _ _ T11 (mkF m 130 #[.val (.int p0), .val (.int p1), .val (.int p2), .val (.int p3), .val (.ref b1), .val (.int (1 : Int32)), .val (.long nn), .second, .val (.int (0 : Int32)), .val (.long key), .second, .val (.int kl), .val (.long ek), .second, .val (.int el), .val (.int lf), .unset, .unset, .unset, .unset, .unset, .unset] [(.int (0 : Int32))])
          refine OFin.st (fun t k => XS.ifNo X11.here hx rfl (hb hby at_130) rfl ((if0 _ _).trans (teq (by decide : (0 : Int32) = (0 : Int32))).2) k) ?_
          show OFin p e below _ _ T11 (mkF m 133 #[.val (.int p0), .val (.int p1), .val (.int p2), .val (.int p3), .val (.ref b1), .val (.int (1 : Int32)), .val (.long nn), .second, .val (.int (0 : Int32)), .val (.long key), .second, .val (.int kl), .val (.long ek), .second, .val (.int el), .val (.int lf), .unset, .unset, .unset, .unset, .unset, .unset] [])
          refine OFin.st (fun t k => XS.iconst X11.here hx rfl (hb hby at_133) k) ?_
          refine OFin.st (fun t k => XS.istore X11.here hx rfl (hb hby at_134) rfl (l' := #[.val (.int p0), .val (.int p1), .val (.int p2), .val (.int p3), .val (.ref b1), .val (.int (1 : Int32)), .val (.long nn), .second, .val (.int (0 : Int32)), .val (.long key), .second, .val (.int kl), .val (.long ek), .second, .val (.int el), .val (.int lf), .val (.int (1 : Int32)), .unset, .unset, .unset, .unset, .unset]) rfl k) ?_
          refine OFin.st (fun t k => XS.goto X11.here hx rfl (pc0 := 136) (pc' := 183) rfl (hb hby at_136) (by decide) (by decide) k) ?_
          refine OFin.st (fun t k => XS.iload X11.here hx rfl (hb hby at_183) rfl k) ?_
          show OFin p e below _ _ T11 (mkF m 185 #[.val (.int p0), .val (.int p1), .val (.int p2), .val (.int p3), .val (.ref b1), .val (.int (1 : Int32)), .val (.long nn), .second, .val (.int (0 : Int32)), .val (.long key), .second, .val (.int kl), .val (.long ek), .second, .val (.int el), .val (.int lf), .val (.int (1 : Int32)), .unset, .unset, .unset, .unset, .unset] [(.int kl)])
          refine OFin.st (fun t k => XS.iload X11.here hx rfl (hb hby at_185) rfl k) ?_
          refine OFin.st (fun t k => XS.iadd X11.here hx rfl (hb hby at_187) rfl k) ?_
          obtain ⟨T13, h13, k13, X13, e13, E13, A13, st13⟩ := own_newP X11 hx hZ (hw _ (List.mem_of_getElem? (i := 3) rfl)) e11 (z := (kl + (1 : Int32))) (n := (kv + 1 + 1)) (cap := 20) (own_e1 kl (1 : Int32) kv 1 hkl hk9 (by decide) (by decide)) (by have := own_lf lf hlf; omega) (by decide) (by decide) (by decide) (pc := 188) (Ls := #[.val (.int p0), .val (.int p1), .val (.int p2), .val (.int p3), .val (.ref b1), .val (.int (1 : Int32)), .val (.long nn), .second, .val (.int (0 : Int32)), .val (.long key), .second, .val (.int kl), .val (.long ek), .second, .val (.int el), .val (.int lf), .val (.int (1 : Int32)), .unset, .unset, .unset, .unset, .unset]) (rest := []) (hb hby at_188)
          obtain ⟨b13, gz_b13⟩ : ∃ z, z = T4.heap.size := ⟨_, rfl⟩
          rw [← gz_b13] at A13 st13
          have N_b1_b13 : b1 ≠ b13 := Nat.ne_of_lt (Nat.lt_of_lt_of_le P4_0.lt (Nat.le_of_eq gz_b13.symm))
          have N_b2_b13 : b2 ≠ b13 := Nat.ne_of_lt (Nat.lt_of_lt_of_le ((V2.ext E3).keep K4q (ninS (Ne.symm N_b1_b2) nin0)).lt (Nat.le_of_eq gz_b13.symm))
          have g_b13 : n0 ≤ b13 := Nat.le_trans (Nat.le_trans (Nat.le_of_eq O4.1.symm) O4.2.1) (Nat.le_of_eq gz_b13.symm)
          have sz_b13 : h0.size ≤ b13 := Nat.le_trans K4.1 (Nat.le_of_eq gz_b13.symm)
          have hk13 := Nat.le_trans hk4 E13.1
          have K13 : Keep h0 h13 [] := K4.ext E13
          have O13 : Old Z n0 h13 := O4.ext E13
          have V13 : Oar Z h13 b13 k13 .byte (List.replicate (kv + 1 + 1) (.int (0 : Int32))) := A13
          refine OFin.st st13 ?_
          refine OFin.st (fun t k => XS.astore X13.here hx rfl (hb hby at_190) rfl rfl (l' := #[.val (.int p0), .val (.int p1), .val (.int p2), .val (.int p3), .val (.ref b1), .val (.int (1 : Int32)), .val (.long nn), .second, .val (.int (0 : Int32)), .val (.long key), .second, .val (.int kl), .val (.long ek), .second, .val (.int el), .val (.int lf), .val (.int (1 : Int32)), .val (.ref b13), .unset, .unset, .unset, .unset]) rfl k) ?_
          show OFin p e below _ _ T13 (mkF m 192 #[.val (.int p0), .val (.int p1), .val (.int p2), .val (.int p3), .val (.ref b1), .val (.int (1 : Int32)), .val (.long nn), .second, .val (.int (0 : Int32)), .val (.long key), .second, .val (.int kl), .val (.long ek), .second, .val (.int el), .val (.int lf), .val (.int (1 : Int32)), .val (.ref b13), .unset, .unset, .unset, .unset] [])
          refine OFin.st (fun t k => XS.aload X13.here hx rfl (hb hby at_192) rfl rfl k) ?_
          refine OFin.st (fun t k => XS.iconst X13.here hx rfl (hb hby at_194) k) ?_
          refine OFin.st (fun t k => XS.lload X13.here hx rfl (hb hby at_195) rfl k) ?_
          refine OFin.st (fun t k => XS.iload X13.here hx rfl (hb hby at_197) rfl k) ?_
          show OFin p e below _ _ T13 (mkF m 199 #[.val (.int p0), .val (.int p1), .val (.int p2), .val (.int p3), .val (.ref b1), .val (.int (1 : Int32)), .val (.long nn), .second, .val (.int (0 : Int32)), .val (.long key), .second, .val (.int kl), .val (.long ek), .second, .val (.int el), .val (.int lf), .val (.int (1 : Int32)), .val (.ref b13), .unset, .unset, .unset, .unset] [(.int kl), (.long key), (.int (0 : Int32)), (.ref b13)])
          obtain ⟨_, _, ⟨T14, L14, k14, n14⟩, -, X14, ⟨Lc14, hQ14, l14, y14, z14⟩, st14⟩ := Jvm.LawKit.callS X13 hx (y := (⟨"com/example/fillwire/fillwire/codec/ProtoReaderNextPinLaw", "put", "([BIJI)V"⟩ : MethodName)) hown (mvT hZ (hw _ (List.mem_of_getElem? (i := 45) rfl))) (mvT hZ (hw _ (List.mem_of_getElem? (i := 46) rfl))) (mvT hZ (hw _ (List.mem_of_getElem? (i := 37) rfl))) (mvT hZ (hw _ (List.mem_of_getElem? (i := 47) rfl))) (by decide) (backOf (W := 0) (rm7 l Z a0 hw [] b13 (0 : Int32) key kl k13 (List.replicate (kv + 1 + 1) (.int (0 : Int32))) 0 (kv + 1) h13 n0 O13 V13 g_b13 (by decide) (by omega) (by omega) (by omega) (by rw [List.length_replicate]; omega) (by rw [List.length_replicate]; have := own_lf lf hlf; omega)) hZ (hw _ (List.mem_of_getElem? (i := 47) rfl)) (hw _ (List.mem_of_getElem? (i := 37) rfl)) (by decide) (by decide)) (g := (mkF m 199 #[.val (.int p0), .val (.int p1), .val (.int p2), .val (.int p3), .val (.ref b1), .val (.int (1 : Int32)), .val (.long nn), .second, .val (.int (0 : Int32)), .val (.long key), .second, .val (.int kl), .val (.long ek), .second, .val (.int el), .val (.int lf), .val (.int (1 : Int32)), .val (.ref b13), .unset, .unset, .unset, .unset] [(.int kl), (.long key), (.int (0 : Int32)), (.ref b13)])) rfl (by rw [hml]; rfl) (argsL := [(.ref b13), (.int (0 : Int32)), (.long key), (.int kl)]) (rest := []) (lenOf pd_9 rfl) rfl (by show 2 * 0 + _ ≤ _; exact Nat.le_of_eq rfl) (hb hby at_199) (fun _ _ => ⟨rfl, e13, (by decide : 5 + 0 ≤ _), (by decide : 34 + 0 ≤ _)⟩)
          dsimp only [Pt.U, Pt.locs, Pt.cells, Pt.slots] at X14 l14 y14 z14 st14 hQ14
          subst l14 y14 z14
          obtain ⟨rfl, N14q, K14q, P14_0⟩ := hQ14
          have N14 := Fr.app N11 N14q
          have hk14 := Nat.le_trans hk13 K14q.1
          have K14 : Keep h0 T14.heap [] := K13.trans K14q (allS (Or.inr sz_b13) all0)
          have O14 : Old Z n0 T14.heap := O13.keep K14q (allS g_b13 all0)
          refine OFin.st st14 ?_
          refine OFin.st (fun t k => XS.iload X14.here hx rfl (hb hby at_202) rfl k) ?_
          refine OFin.st (fun t k => XS.ifNo X14.here hx rfl (hb hby at_204) rfl ((if0 _ _).trans (teq (by decide : (0 : Int32) = (0 : Int32))).2) k) ?_
          show OFin p e below _ _ T14 (mkF m 207 #[.val (.int p0), .val (.int p1), .val (.int p2), .val (.int p3), .val (.ref b1), .val (.int (1 : Int32)), .val (.long nn), .second, .val (.int (0 : Int32)), .val (.long key), .second, .val (.int kl), .val (.long ek), .second, .val (.int el), .val (.int lf), .val (.int (1 : Int32)), .val (.ref b13), .unset, .unset, .unset, .unset] [])
          refine OFin.st (fun t k => XS.aload X14.here hx rfl (hb hby at_207) rfl rfl k) ?_
          refine OFin.st (fun t k => XS.iload X14.here hx rfl (hb hby at_209) rfl k) ?_
          show OFin p e below _ _ T14 (mkF m 211 #[.val (.int p0), .val (.int p1), .val (.int p2), .val (.int p3), .val (.ref b1), .val (.int (1 : Int32)), .val (.long nn), .second, .val (.int (0 : Int32)), .val (.long key), .second, .val (.int kl), .val (.long ek), .second, .val (.int el), .val (.int lf), .val (.int (1 : Int32)), .val (.ref b13), .unset, .unset, .unset, .unset] [(.int kl), (.ref b13)])
          refine OFin.st (fun t k => XS.iloadN X14.here hx rfl (hb hby at_211) rfl k) ?_
          refine OFin.st (fun t k => XS.bipush X14.here hx rfl (hb hby at_212) k) ?_
          refine OFin.st (fun t k => XS.iand X14.here hx rfl (hb hby at_214) rfl k) ?_
          refine OFin.st (fun t k => XS.i2b X14.here hx rfl (hb hby at_215) rfl k) ?_
          show OFin p e below _ _ T14 (mkF m 216 #[.val (.int p0), .val (.int p1), .val (.int p2), .val (.int p3), .val (.ref b1), .val (.int (1 : Int32)), .val (.long nn), .second, .val (.int (0 : Int32)), .val (.long key), .second, .val (.int kl), .val (.long ek), .second, .val (.int el), .val (.int lf), .val (.int (1 : Int32)), .val (.ref b13), .unset, .unset, .unset, .unset] [(.int ((p3 &&& (127 : Int32)).toInt8.toInt32)), (.int kl), (.ref b13)])
          obtain ⟨T15, h15, X15, e15, W15, V15, st15⟩ := own_bastore X14 hx hZ rfl P14_0 (i := (kv + 1)) (j := kl) (by omega) (by simp only [pN_len, List.length_replicate]; omega) (x := ((p3 &&& (127 : Int32)).toInt8.toInt32)) (y := ((p3 &&& (127 : Int32)).toInt8.toInt32)) (own_nb _) (pc := 216) (Ls := #[.val (.int p0), .val (.int p1), .val (.int p2), .val (.int p3), .val (.ref b1), .val (.int (1 : Int32)), .val (.long nn), .second, .val (.int (0 : Int32)), .val (.long key), .second, .val (.int kl), .val (.long ek), .second, .val (.int el), .val (.int lf), .val (.int (1 : Int32)), .val (.ref b13), .unset, .unset, .unset, .unset]) (rest := []) (hb hby at_216)
          have N15 := Fr.snoc X15 N14 g_b13
          have hk15 := Nat.le_trans hk14 (Nat.le_of_eq W15.size.symm)
          have K15 : Keep h0 h15 [] := K14.wr W15 (Or.inr sz_b13)
          have O15 : Old Z n0 h15 := O14.wr W15 g_b13
          refine OFin.st st15 ?_
          refine OFin.st (fun t k => XS.iload X15.here hx rfl (hb hby at_217) rfl k) ?_
          refine OFin.st (fun t k => XS.iconst X15.here hx rfl (hb hby at_219) k) ?_
          refine OFin.st (fun t k => XS.icmpYes X15.here hx rfl (pc0 := 220) (pc' := 231) rfl (hb hby at_220) rfl (feq (by decide : ¬ ((0 : Int32) = (2 : Int32)))).2 (by decide) (by decide) k) ?_
          show OFin p e below _ _ T15 (mkF m 231 #[.val (.int p0), .val (.int p1), .val (.int p2), .val (.int p3), .val (.ref b1), .val (.int (1 : Int32)), .val (.long nn), .second, .val (.int (0 : Int32)), .val (.long key), .second, .val (.int kl), .val (.long ek), .second, .val (.int el), .val (.int lf), .val (.int (1 : Int32)), .val (.ref b13), .unset, .unset, .unset, .unset] [])
          refine OFin.st (fun t k => XS.iload X15.here hx rfl (hb hby at_231) rfl k) ?_
          show OFin p e below _ _ T15 (mkF m 233 #[.val (.int p0), .val (.int p1), .val (.int p2), .val (.int p3), .val (.ref b1), .val (.int (1 : Int32)), .val (.long nn), .second, .val (.int (0 : Int32)), .val (.long key), .second, .val (.int kl), .val (.long ek), .second, .val (.int el), .val (.int lf), .val (.int (1 : Int32)), .val (.ref b13), .unset, .unset, .unset, .unset] [(.int (0 : Int32))])
          refine OFin.st (fun t k => XS.iconst X15.here hx rfl (hb hby at_233) k) ?_
          refine OFin.st (fun t k => XS.icmpYes X15.here hx rfl (pc0 := 234) (pc' := 248) rfl (hb hby at_234) rfl (feq (by decide : ¬ ((0 : Int32) = (3 : Int32)))).2 (by decide) (by decide) k) ?_
          show OFin p e below _ _ T15 (mkF m 248 #[.val (.int p0), .val (.int p1), .val (.int p2), .val (.int p3), .val (.ref b1), .val (.int (1 : Int32)), .val (.long nn), .second, .val (.int (0 : Int32)), .val (.long key), .second, .val (.int kl), .val (.long ek), .second, .val (.int el), .val (.int lf), .val (.int (1 : Int32)), .val (.ref b13), .unset, .unset, .unset, .unset] [])
          obtain ⟨T16, h16, X16, e16, E16, A16, D16, -, st16⟩ := newO X15 hx hZ hown (hw _ (List.mem_of_getElem? (i := 0) rfl)) (hw _ (List.mem_of_getElem? (i := 1) rfl)) (hw _ (List.mem_of_getElem? (i := 2) rfl)) e15 (g := (mkF m 248 #[.val (.int p0), .val (.int p1), .val (.int p2), .val (.int p3), .val (.ref b1), .val (.int (1 : Int32)), .val (.long nn), .second, .val (.int (0 : Int32)), .val (.long key), .second, .val (.int kl), .val (.long ek), .second, .val (.int el), .val (.int lf), .val (.int (1 : Int32)), .val (.ref b13), .unset, .unset, .unset, .unset] [])) rfl (hb hby at_248) (by decide) (by decide)
          obtain ⟨b16, gz_b16⟩ : ∃ z, z = h15.size := ⟨_, rfl⟩
          rw [← gz_b16] at A16 D16 st16
          have N_b1_b16 : b1 ≠ b16 := Nat.ne_of_lt (Nat.lt_of_lt_of_le (((P4_0.ext E13).keep K14q).wr W15).lt (Nat.le_of_eq gz_b16.symm))
          have c17 := (((((V2.ext E3).keep K4q (ninS (Ne.symm N_b1_b2) nin0)).ext E13).keep K14q (ninS N_b2_b13 nin0)).other W15 N_b2_b13)
          have N_b2_b16 : b2 ≠ b16 := Nat.ne_of_lt (Nat.lt_of_lt_of_le c17.lt (Nat.le_of_eq gz_b16.symm))
          have N_b13_b16 : b13 ≠ b16 := Nat.ne_of_lt (Nat.lt_of_lt_of_le V15.lt (Nat.le_of_eq gz_b16.symm))
          have g_b16 : n0 ≤ b16 := Nat.le_trans (Nat.le_trans (Nat.le_of_eq O15.1.symm) O15.2.1) (Nat.le_of_eq gz_b16.symm)
          have sz_b16 : h0.size ≤ b16 := Nat.le_trans K15.1 (Nat.le_of_eq gz_b16.symm)
          have hk16 := Nat.le_trans hk15 E16.1
          have K16 : Keep h0 h16 [] := K15.ext E16
          have O16 : Old Z n0 h16 := O15.ext E16
          have F_bytes_b16 : Fld Z h16 b16 "com/example/fillwire/fillwire/codec/ProtoReader" "bytes" "[B" .null := D16 (Or.inr (hw _ (List.mem_of_getElem? (i := 21) rfl))) (ty := (.array .byte)) (by decide)
          have F_position_b16 : Fld Z h16 b16 "com/example/fillwire/fillwire/codec/ProtoReader" "position" "I" (.int (0 : Int32)) := D16 (Or.inl (hw _ (List.mem_of_getElem? (i := 23) rfl))) (ty := .int) (by decide)
          have F_end_b16 : Fld Z h16 b16 "com/example/fillwire/fillwire/codec/ProtoReader" "end" "I" (.int (0 : Int32)) := D16 (Or.inr (hw _ (List.mem_of_getElem? (i := 25) rfl))) (ty := .int) (by decide)
          have F_name_b16 : Fld Z h16 b16 "com/example/fillwire/fillwire/codec/ProtoReader" "name" "Ljava/lang/String;" .null := D16 (Or.inr (hw _ (List.mem_of_getElem? (i := 27) rfl))) (ty := (.object "java/lang/String")) (by decide)
          have F_field_b16 : Fld Z h16 b16 "com/example/fillwire/fillwire/codec/ProtoReader" "field" "I" (.int (0 : Int32)) := D16 (Or.inl (hw _ (List.mem_of_getElem? (i := 57) rfl))) (ty := .int) (by decide)
          have F_wireType_b16 : Fld Z h16 b16 "com/example/fillwire/fillwire/codec/ProtoReader" "wireType" "I" (.int (0 : Int32)) := D16 (Or.inl (hw _ (List.mem_of_getElem? (i := 64) rfl))) (ty := .int) (by decide)
          refine OFin.st st16 ?_
          refine OFin.st (fun t k => XS.dup X16.here hx rfl (hb hby at_251) rfl rfl k) ?_
          refine OFin.st (fun t k => XS.aload X16.here hx rfl (hb hby at_252) rfl rfl k) ?_
          show OFin p e below _ _ T16 (mkF m 254 #[.val (.int p0), .val (.int p1), .val (.int p2), .val (.int p3), .val (.ref b1), .val (.int (1 : Int32)), .val (.long nn), .second, .val (.int (0 : Int32)), .val (.long key), .second, .val (.int kl), .val (.long ek), .second, .val (.int el), .val (.int lf), .val (.int (1 : Int32)), .val (.ref b13), .unset, .unset, .unset, .unset] [(.ref b13), (.ref b16), (.ref b16)])
          have wS18 : ∀ a ∈ Bundle.stringAtoms, a.before a0 Z = true := by
            intro a ha
            simp only [Bundle.stringAtoms, List.mem_cons, List.not_mem_nil, or_false] at ha
            rcases ha with rfl | rfl | rfl | rfl | rfl | rfl | rfl
            · exact (hw _ (List.mem_of_getElem? (i := 5) rfl))
            · exact (hw _ (List.mem_of_getElem? (i := 6) rfl))
            · exact (hw _ (List.mem_of_getElem? (i := 3) rfl))
            · exact (hw _ (List.mem_of_getElem? (i := 7) rfl))
            · exact (hw _ (List.mem_of_getElem? (i := 8) rfl))
            · exact (hw _ (List.mem_of_getElem? (i := 9) rfl))
            · exact (hw _ (List.mem_of_getElem? (i := 10) rfl))
          obtain ⟨a18, T18, h18, kz18, X18, e18, E18, hS18, hkq18, hZ, hown, st18⟩ := ldcS X16 hx hZ hown (hw _ (List.mem_of_getElem? (i := 4) rfl)) wS18 e16 hS3 hk16 (g := (mkF m 254 #[.val (.int p0), .val (.int p1), .val (.int p2), .val (.int p3), .val (.ref b1), .val (.int (1 : Int32)), .val (.long nn), .second, .val (.int (0 : Int32)), .val (.long key), .second, .val (.int kl), .val (.long ek), .second, .val (.int el), .val (.int lf), .val (.int (1 : Int32)), .val (.ref b13), .unset, .unset, .unset, .unset] [(.ref b13), (.ref b16), (.ref b16)])) rfl (hb hby at_254) (n := 4) (by decide) (by decide) (by decide) (by decide)
          refine OFin.st st18 ?_
          have hk18 := Nat.le_trans hk16 E18.1
          have K18 : Keep h0 h18 [] := K16.ext E18
          have O18 : Old Z n0 h18 := O16.ext E18
          have hk18 := hkq18
          obtain ⟨_, _, ⟨T19, L19, k19, n19⟩, -, X19, ⟨Lc19, hQ19, l19, y19, z19⟩, st19⟩ := X18.specialBack hx (y := (⟨"com/example/fillwire/fillwire/codec/ProtoReader", "<init>", "([BLjava/lang/String;)V"⟩ : MethodName)) rfl hown (mvT hZ (hw _ (List.mem_of_getElem? (i := 11) rfl))) (mvT hZ (hw _ (List.mem_of_getElem? (i := 12) rfl))) (mvT hZ (hw _ (List.mem_of_getElem? (i := 13) rfl))) (by decide) (backOf (W := 1) (rm1 l Z a0 hw [] b16 b13 a18 .null (.int (0 : Int32)) (.int (0 : Int32)) .null (0 : Int32) (0 : Int32) k13 ((pN (List.replicate (kv + 1 + 1) (.int (0 : Int32))) 0 (gf key kl) (kv + 1)).set (kv + 1) (.int ((p3 &&& (127 : Int32)).toInt8.toInt32))) (kl + (1 : Int32)) h18 n0 O18 (A16.ext E18) (F_bytes_b16.ext E18) (F_position_b16.ext E18) (F_end_b16.ext E18) (F_name_b16.ext E18) (F_field_b16.ext E18) (F_wireType_b16.ext E18) g_b16 ((V15.ext E16).ext E18) (by simp only [pN_len, List.length_set, List.length_replicate]; exact (own_e1 kl (1 : Int32) kv 1 hkl hk9 (by decide) (by decide)))) hZ (hw _ (List.mem_of_getElem? (i := 13) rfl)) (hw _ (List.mem_of_getElem? (i := 2) rfl)) (by decide) (by decide)) (g := (mkF m 256 #[.val (.int p0), .val (.int p1), .val (.int p2), .val (.int p3), .val (.ref b1), .val (.int (1 : Int32)), .val (.long nn), .second, .val (.int (0 : Int32)), .val (.long key), .second, .val (.int kl), .val (.long ek), .second, .val (.int el), .val (.int lf), .val (.int (1 : Int32)), .val (.ref b13), .unset, .unset, .unset, .unset] [(.ref a18), (.ref b13), (.ref b16), (.ref b16)])) rfl (by rw [hml]; rfl) (Steps.refl _) (a := b16) (argsL := [(.ref b13), (.ref a18)]) (rest := [(.ref b16)]) (lenOf pd_10 rfl) rfl (by show 2 * 0 + _ ≤ _; exact Nat.le_of_eq rfl) (hb hby at_256) (fun _ _ => ⟨rfl, e18, (by decide : 8 + 0 ≤ _), (by decide : 48 + 0 ≤ _)⟩)
          dsimp only [Pt.U, Pt.locs, Pt.cells, Pt.slots] at X19 l19 y19 z19 st19 hQ19
          subst l19 y19 z19
          obtain ⟨rfl, N19q, K19q, P19_0, P19_1, P19_2, P19_3, P19_4, P19_5⟩ := hQ19
          have N19 := Fr.app N15 N19q
          have hk19 := Nat.le_trans hk18 K19q.1
          have K19 : Keep h0 T19.heap [] := K18.trans K19q (allS (Or.inr sz_b16) all0)
          have O19 : Old Z n0 T19.heap := O18.keep K19q (allS g_b16 all0)
          refine OFin.tr st19 ?_
          refine OFin.st (fun t k => XS.astore X19.here hx rfl (hb hby at_259) rfl rfl (l' := #[.val (.int p0), .val (.int p1), .val (.int p2), .val (.int p3), .val (.ref b1), .val (.int (1 : Int32)), .val (.long nn), .second, .val (.int (0 : Int32)), .val (.long key), .second, .val (.int kl), .val (.long ek), .second, .val (.int el), .val (.int lf), .val (.int (1 : Int32)), .val (.ref b13), .val (.ref b16), .unset, .unset, .unset]) rfl k) ?_
          refine OFin.st (fun t k => XS.aload X19.here hx rfl (hb hby at_261) rfl rfl k) ?_
          show OFin p e below _ _ T19 (mkF m 263 #[.val (.int p0), .val (.int p1), .val (.int p2), .val (.int p3), .val (.ref b1), .val (.int (1 : Int32)), .val (.long nn), .second, .val (.int (0 : Int32)), .val (.long key), .second, .val (.int kl), .val (.long ek), .second, .val (.int el), .val (.int lf), .val (.int (1 : Int32)), .val (.ref b13), .val (.ref b16), .unset, .unset, .unset] [(.ref b16)])
          obtain ⟨cq20, kq20, q20a, q20b, q20c⟩ := isOf hZ rfl P19_0
          obtain ⟨_, _, ⟨T20, L20, k20, n20⟩, -, X20, ⟨Lc20, hQ20, l20, y20, z20⟩, st20⟩ := X19.virtualBack hx (y := (⟨"com/example/fillwire/fillwire/codec/ProtoReader", "next", "()Z"⟩ : MethodName)) (z := (⟨"com/example/fillwire/fillwire/codec/ProtoReader", "next", "()Z"⟩ : MethodName)) hown (mvT hZ (hw _ (List.mem_of_getElem? (i := 28) rfl))) (mvT hZ (hw _ (List.mem_of_getElem? (i := 29) rfl))) (notFace_of_selects (args := #[]) (mvT hZ (hw _ (List.mem_of_getElem? (i := 31) rfl)))) (mvT hZ (hw _ (List.mem_of_getElem? (i := 31) rfl))) (mvT hZ (hw _ (List.mem_of_getElem? (i := 30) rfl))) (by decide) (backOf (W := 0) (rm4k l Z a0 hw [] b16 b13 (0 : Int32) (kl + (1 : Int32)) (0 : Int32) (0 : Int32) k13 ((pN (List.replicate (kv + 1 + 1) (.int (0 : Int32))) 0 (gf key kl) (kv + 1)).set (kv + 1) (.int ((p3 &&& (127 : Int32)).toInt8.toInt32))) (gf key kl) kv kW vW w_WIRE_TYPES T19.heap n0 O19 P19_0 P19_1 P19_2 P19_3 P19_4 P19_5 (((V15.ext E16).ext E18).keep K19q (ninS N_b13_b16 nin0)) g_b16 N_b13_b16 hk9 (own_gcn key kv kl hkl hk9) (own_gln key kv kl hkl hk9) (own_g9 key kv kl hkl hk9) (by decide) (by decide) (fun i hi => by rw [(by decide : (0 : Int32).toInt.toNat = 0)]; exact (by rw [List.getElem?_set_ne (by omega)]; exact pN_in _ 0 _ _ i (by omega) (by rw [List.length_replicate]; omega))) (fun i hi => own_ne _ _ 0 (kv + 1 + 1) i (by decide) (own_e1 kl (1 : Int32) kv 1 hkl hk9 (by decide) (by decide)) (by omega) (by omega) (by have := own_lf lf hlf; omega)) (by rw [own_key key kv kl hkl hk9 hk0 hkb, (own_num key nn 0 hkey (by decide) hn).1]; exact (own_n0 nn hn).1) (by rw [own_key key kv kl hkl hk9 hk0 hkb, (own_num key nn 0 hkey (by decide) hn).1]; exact (own_n0 nn hn).2.1) (by rw [own_key key kv kl hkl hk9 hk0 hkb, Int32.lt_iff_toInt_lt, (own_num key nn 0 hkey (by decide) hn).2]; decide) hW6 (by rw [own_key key kv kl hkl hk9 hk0 hkb]; intro q; have z := (own_num key nn 0 hkey (by decide) hn).2; rw [q] at z; exact absurd z (by decide)) A_w_WIRE_TYPES S_WIRE_TYPES) hZ (hw _ (List.mem_of_getElem? (i := 32) rfl)) (hw _ (List.mem_of_getElem? (i := 2) rfl)) (by decide) (by decide)) q20a q20c (g := (mkF m 263 #[.val (.int p0), .val (.int p1), .val (.int p2), .val (.int p3), .val (.ref b1), .val (.int (1 : Int32)), .val (.long nn), .second, .val (.int (0 : Int32)), .val (.long key), .second, .val (.int kl), .val (.long ek), .second, .val (.int el), .val (.int lf), .val (.int (1 : Int32)), .val (.ref b13), .val (.ref b16), .unset, .unset, .unset] [(.ref b16)])) rfl (by rw [hml]; rfl) (Steps.refl _) (argsL := []) (rest := []) (lenOf pd_3 rfl) rfl (by show 2 * 0 + _ ≤ _; exact Nat.le_of_eq rfl) (hb hby at_263) (fun _ _ => ⟨rfl, rfl, (by decide : 8 + 0 ≤ _), (by decide : 48 + 0 ≤ _)⟩)
          dsimp only [Pt.U, Pt.locs, Pt.cells, Pt.slots] at X20 l20 y20 z20 st20 hQ20
          subst l20 y20 z20
          obtain ⟨rfl, N20q, K20q, P20_0, P20_1, P20_2, P20_3, P20_4, P20_5⟩ := hQ20
          have N20 := Fr.app N19 N20q
          have hk20 := Nat.le_trans hk19 K20q.1
          have K20 : Keep h0 T20.heap [] := K19.trans K20q (allS (Or.inr sz_b16) all0)
          have O20 : Old Z n0 T20.heap := O19.keep K20q (allS g_b16 all0)
          refine OFin.tr st20 ?_
          have Rs21 : Fld Z T20.heap b16 "com/example/fillwire/fillwire/codec/ProtoReader" "field" "I" (.int (nn.toInt32)) := (by have q := P20_4; rw [own_key key kv kl hkl hk9 hk0 hkb, (own_num key nn 0 hkey (by decide) hn).1] at q; exact q)
          have Rs22 : Fld Z T20.heap b16 "com/example/fillwire/fillwire/codec/ProtoReader" "wireType" "I" (.int (0 : Int32)) := (by have q := P20_5; rw [own_key key kv kl hkl hk9 hk0 hkb, (Int32.toInt_inj.mp (by rw [(own_num key nn 0 hkey (by decide) hn).2]; decide) : ((key.toInt32) &&& (7 : Int32)) = (0 : Int32))] at q; exact q)
          refine OFin.st (fun t k => XS.istore X20.here hx rfl (hb hby at_266) rfl (l' := #[.val (.int p0), .val (.int p1), .val (.int p2), .val (.int p3), .val (.ref b1), .val (.int (1 : Int32)), .val (.long nn), .second, .val (.int (0 : Int32)), .val (.long key), .second, .val (.int kl), .val (.long ek), .second, .val (.int el), .val (.int lf), .val (.int (1 : Int32)), .val (.ref b13), .val (.ref b16), .val (.int (1 : Int32)), .unset, .unset]) rfl k) ?_
          refine OFin.st (fun t k => XS.aload X20.here hx rfl (hb hby at_268) rfl rfl k) ?_
          obtain ⟨cq23, kq23, q23a, q23b, q23c⟩ := isOf hZ rfl P20_0
          obtain ⟨_, _, ⟨T23, L23, k23, n23⟩, -, X23, ⟨Lc23, hQ23, l23, y23, z23⟩, st23⟩ := X20.virtualBack hx (y := (⟨"com/example/fillwire/fillwire/codec/ProtoReader", "field", "()I"⟩ : MethodName)) (z := (⟨"com/example/fillwire/fillwire/codec/ProtoReader", "field", "()I"⟩ : MethodName)) hown (mvT hZ (hw _ (List.mem_of_getElem? (i := 67) rfl))) (mvT hZ (hw _ (List.mem_of_getElem? (i := 68) rfl))) (notFace_of_selects (args := #[]) (mvT hZ (hw _ (List.mem_of_getElem? (i := 70) rfl)))) (mvT hZ (hw _ (List.mem_of_getElem? (i := 70) rfl))) (mvT hZ (hw _ (List.mem_of_getElem? (i := 69) rfl))) (by decide) (backOf (W := 0) (rm11 l Z a0 hw [] b16 (nn.toInt32) T20.heap n0 O20 Rs21) hZ (hw _ (List.mem_of_getElem? (i := 71) rfl)) (hw _ (List.mem_of_getElem? (i := 2) rfl)) (by decide) (by decide)) q23a q23c (g := (mkF m 270 #[.val (.int p0), .val (.int p1), .val (.int p2), .val (.int p3), .val (.ref b1), .val (.int (1 : Int32)), .val (.long nn), .second, .val (.int (0 : Int32)), .val (.long key), .second, .val (.int kl), .val (.long ek), .second, .val (.int el), .val (.int lf), .val (.int (1 : Int32)), .val (.ref b13), .val (.ref b16), .val (.int (1 : Int32)), .unset, .unset] [(.ref b16)])) rfl (by rw [hml]; rfl) (Steps.refl _) (argsL := []) (rest := []) (lenOf pd_0 rfl) rfl (by show 2 * 0 + _ ≤ _; exact Nat.le_of_eq rfl) (hb hby at_270) (fun _ _ => ⟨rfl, rfl, (by decide : 8 + 0 ≤ _), (by decide : 48 + 0 ≤ _)⟩)
          dsimp only [Pt.U, Pt.locs, Pt.cells, Pt.slots] at X23 l23 y23 z23 st23 hQ23
          subst l23 y23 z23
          obtain ⟨rfl, N23q, e23⟩ := hQ23
          have N23 := Fr.app N20 N23q
          refine OFin.tr st23 ?_
          show OFin p e below _ _ T23 (mkF m 273 #[.val (.int p0), .val (.int p1), .val (.int p2), .val (.int p3), .val (.ref b1), .val (.int (1 : Int32)), .val (.long nn), .second, .val (.int (0 : Int32)), .val (.long key), .second, .val (.int kl), .val (.long ek), .second, .val (.int el), .val (.int lf), .val (.int (1 : Int32)), .val (.ref b13), .val (.ref b16), .val (.int (1 : Int32)), .unset, .unset] [(.int (F11 b16 (nn.toInt32)))])
          refine OFin.st (fun t k => XS.istore X23.here hx rfl (hb hby at_273) rfl (l' := #[.val (.int p0), .val (.int p1), .val (.int p2), .val (.int p3), .val (.ref b1), .val (.int (1 : Int32)), .val (.long nn), .second, .val (.int (0 : Int32)), .val (.long key), .second, .val (.int kl), .val (.long ek), .second, .val (.int el), .val (.int lf), .val (.int (1 : Int32)), .val (.ref b13), .val (.ref b16), .val (.int (1 : Int32)), .val (.int (F11 b16 (nn.toInt32))), .unset]) rfl k) ?_
          refine OFin.st (fun t k => XS.aload X23.here hx rfl (hb hby at_275) rfl rfl k) ?_
          have c24 := ((((V15.ext E16).ext E18).keep K19q (ninS N_b13_b16 nin0)).keep K20q (ninS N_b13_b16 nin0))
          obtain ⟨cq25, kq25, q25a, q25b, q25c⟩ := isOf hZ e23 P20_0
          obtain ⟨_, _, ⟨T25, L25, k25, n25⟩, -, X25, ⟨Lc25, hQ25, l25, y25, z25⟩, st25⟩ := X23.virtualBack hx (y := (⟨"com/example/fillwire/fillwire/codec/ProtoReader", "skip", "()V"⟩ : MethodName)) (z := (⟨"com/example/fillwire/fillwire/codec/ProtoReader", "skip", "()V"⟩ : MethodName)) hown (mvT hZ (hw _ (List.mem_of_getElem? (i := 72) rfl))) (mvT hZ (hw _ (List.mem_of_getElem? (i := 73) rfl))) (notFace_of_selects (args := #[]) (mvT hZ (hw _ (List.mem_of_getElem? (i := 75) rfl)))) (mvT hZ (hw _ (List.mem_of_getElem? (i := 75) rfl))) (mvT hZ (hw _ (List.mem_of_getElem? (i := 74) rfl))) (by decide) (backOf (W := 0) (rm12t0 l Z a0 hw [] b16 b13 (vpo (0 : Int32) (kv + 1)) (kl + (1 : Int32)) (nn.toInt32) k13 ((pN (List.replicate (kv + 1 + 1) (.int (0 : Int32))) 0 (gf key kl) (kv + 1)).set (kv + 1) (.int ((p3 &&& (127 : Int32)).toInt8.toInt32))) (fun _ => ((p3 &&& (127 : Int32)).toInt8.toInt32)) 0 T20.heap n0 O20 P20_0 P20_1 P20_2 P20_3 Rs21 Rs22 c24 g_b16 N_b13_b16 (by decide) (fun i hi => absurd hi (Nat.not_lt_zero _)) (own_b7n p3) (fun h => absurd h (by decide)) (by have := (own_vp 0 (kv + 1) (0 : Int32) (by decide) (by omega) (by omega)); omega) (by have := (own_vp 0 (kv + 1) (0 : Int32) (by decide) (by omega) (by omega)); omega) (fun i hi => by cases Nat.le_zero.mp hi; rw [(own_vp 0 (kv + 1) (0 : Int32) (by decide) (by omega) (by omega)), (by omega : ((0 + (kv + 1) : Nat) : Int).toNat + 0 = kv + 1)]; exact List.getElem?_set_self (by simp only [pN_len, List.length_replicate]; omega)) (fun i hi => by cases Nat.le_zero.mp hi; exact own_ne _ _ (0 + (kv + 1)) (kv + 1 + 1) 0 (own_vp 0 (kv + 1) (0 : Int32) (by decide) (by omega) (by omega)) (own_e1 kl (1 : Int32) kv 1 hkl hk9 (by decide) (by decide)) (by omega) (by omega) (by have := own_lf lf hlf; omega))) hZ (hw _ (List.mem_of_getElem? (i := 76) rfl)) (hw _ (List.mem_of_getElem? (i := 2) rfl)) (by decide) (by decide)) q25a q25c (g := (mkF m 277 #[.val (.int p0), .val (.int p1), .val (.int p2), .val (.int p3), .val (.ref b1), .val (.int (1 : Int32)), .val (.long nn), .second, .val (.int (0 : Int32)), .val (.long key), .second, .val (.int kl), .val (.long ek), .second, .val (.int el), .val (.int lf), .val (.int (1 : Int32)), .val (.ref b13), .val (.ref b16), .val (.int (1 : Int32)), .val (.int (F11 b16 (nn.toInt32))), .unset] [(.ref b16)])) rfl (by rw [hml]; rfl) (Steps.refl _) (argsL := []) (rest := []) (lenOf pd_2 rfl) rfl (by show 2 * 0 + _ ≤ _; exact Nat.le_of_eq rfl) (hb hby at_277) (fun _ _ => ⟨rfl, e23, (by decide : 8 + 0 ≤ _), (by decide : 48 + 0 ≤ _)⟩)
          dsimp only [Pt.U, Pt.locs, Pt.cells, Pt.slots] at X25 l25 y25 z25 st25 hQ25
          subst l25 y25 z25
          obtain ⟨rfl, N25q, K25q, P25_0, P25_1, P25_2, P25_3, P25_4, P25_5⟩ := hQ25
          have N25 := Fr.app N23 N25q
          have hk25 := Nat.le_trans hk20 K25q.1
          have K25 : Keep h0 T25.heap [] := K20.trans K25q (allS (Or.inr sz_b16) all0)
          have O25 : Old Z n0 T25.heap := O20.keep K25q (allS g_b16 all0)
          refine OFin.tr st25 ?_
          have Rs26e : (vpo (vpo (0 : Int32) (kv + 1)) (0 + 1)) = (kl + (1 : Int32)) := Int32.toInt_inj.mp (by have y := (own_e1 kl (1 : Int32) kv 1 hkl hk9 (by decide) (by decide)); have d := (own_vp 0 (kv + 1) (0 : Int32) (by decide) (by omega) (by omega)); have f := own_vp (0 + (kv + 1)) (0 + 1) (vpo (0 : Int32) (kv + 1)) (own_vp 0 (kv + 1) (0 : Int32) (by decide) (by omega) (by omega)) (by omega) (by omega); omega)
          have Rs26 : Fld Z T25.heap b16 "com/example/fillwire/fillwire/codec/ProtoReader" "position" "I" (.int (kl + (1 : Int32))) := (by have q := P25_2; rw [Rs26e] at q; exact q)
          refine OFin.st (fun t k => XS.aload X25.here hx rfl (hb hby at_280) rfl rfl k) ?_
          show OFin p e below _ _ T25 (mkF m 282 #[.val (.int p0), .val (.int p1), .val (.int p2), .val (.int p3), .val (.ref b1), .val (.int (1 : Int32)), .val (.long nn), .second, .val (.int (0 : Int32)), .val (.long key), .second, .val (.int kl), .val (.long ek), .second, .val (.int el), .val (.int lf), .val (.int (1 : Int32)), .val (.ref b13), .val (.ref b16), .val (.int (1 : Int32)), .val (.int (F11 b16 (nn.toInt32))), .unset] [(.ref b16)])
          obtain ⟨cq27, kq27, q27a, q27b, q27c⟩ := isOf hZ rfl P25_0
          obtain ⟨_, _, ⟨T27, L27, k27, n27⟩, -, X27, ⟨Lc27, hQ27, l27, y27, z27⟩, st27⟩ := X25.virtualBack hx (y := (⟨"com/example/fillwire/fillwire/codec/ProtoReader", "next", "()Z"⟩ : MethodName)) (z := (⟨"com/example/fillwire/fillwire/codec/ProtoReader", "next", "()Z"⟩ : MethodName)) hown (mvT hZ (hw _ (List.mem_of_getElem? (i := 28) rfl))) (mvT hZ (hw _ (List.mem_of_getElem? (i := 29) rfl))) (notFace_of_selects (args := #[]) (mvT hZ (hw _ (List.mem_of_getElem? (i := 31) rfl)))) (mvT hZ (hw _ (List.mem_of_getElem? (i := 31) rfl))) (mvT hZ (hw _ (List.mem_of_getElem? (i := 30) rfl))) (by decide) (backOf (W := 0) (rm4e l Z a0 hw [] b16 (kl + (1 : Int32)) T25.heap n0 O25 P25_0 Rs26 P25_3) hZ (hw _ (List.mem_of_getElem? (i := 32) rfl)) (hw _ (List.mem_of_getElem? (i := 2) rfl)) (by decide) (by decide)) q27a q27c (g := (mkF m 282 #[.val (.int p0), .val (.int p1), .val (.int p2), .val (.int p3), .val (.ref b1), .val (.int (1 : Int32)), .val (.long nn), .second, .val (.int (0 : Int32)), .val (.long key), .second, .val (.int kl), .val (.long ek), .second, .val (.int el), .val (.int lf), .val (.int (1 : Int32)), .val (.ref b13), .val (.ref b16), .val (.int (1 : Int32)), .val (.int (F11 b16 (nn.toInt32))), .unset] [(.ref b16)])) rfl (by rw [hml]; rfl) (Steps.refl _) (argsL := []) (rest := []) (lenOf pd_3 rfl) rfl (by show 2 * 0 + _ ≤ _; exact Nat.le_of_eq rfl) (hb hby at_282) (fun _ _ => ⟨rfl, rfl, (by decide : 8 + 0 ≤ _), (by decide : 48 + 0 ≤ _)⟩)
          dsimp only [Pt.U, Pt.locs, Pt.cells, Pt.slots] at X27 l27 y27 z27 st27 hQ27
          subst l27 y27 z27
          obtain ⟨rfl, N27q, e27⟩ := hQ27
          have N27 := Fr.app N25 N27q
          refine OFin.tr st27 ?_
          refine OFin.st (fun t k => XS.istore X27.here hx rfl (hb hby at_285) rfl (l' := #[.val (.int p0), .val (.int p1), .val (.int p2), .val (.int p3), .val (.ref b1), .val (.int (1 : Int32)), .val (.long nn), .second, .val (.int (0 : Int32)), .val (.long key), .second, .val (.int kl), .val (.long ek), .second, .val (.int el), .val (.int lf), .val (.int (1 : Int32)), .val (.ref b13), .val (.ref b16), .val (.int (1 : Int32)), .val (.int (F11 b16 (nn.toInt32))), .val (.int (F4e b16 (kl + (1 : Int32))))]) rfl k) ?_
          refine OFin.st (fun t k => XS.iload X27.here hx rfl (hb hby at_287) rfl k) ?_
          refine OFin.st (fun t k => XS.ifNo X27.here hx rfl (hb hby at_289) rfl ((if0 _ _).trans (feq (by decide : ¬ ((1 : Int32) = (0 : Int32)))).1) k) ?_
          show OFin p e below _ _ T27 (mkF m 292 #[.val (.int p0), .val (.int p1), .val (.int p2), .val (.int p3), .val (.ref b1), .val (.int (1 : Int32)), .val (.long nn), .second, .val (.int (0 : Int32)), .val (.long key), .second, .val (.int kl), .val (.long ek), .second, .val (.int el), .val (.int lf), .val (.int (1 : Int32)), .val (.ref b13), .val (.ref b16), .val (.int (1 : Int32)), .val (.int (F11 b16 (nn.toInt32))), .val (.int (F4e b16 (kl + (1 : Int32))))] [])
          refine OFin.st (fun t k => XS.iload X27.here hx rfl (hb hby at_292) rfl k) ?_
          show OFin p e below _ _ T27 (mkF m 294 #[.val (.int p0), .val (.int p1), .val (.int p2), .val (.int p3), .val (.ref b1), .val (.int (1 : Int32)), .val (.long nn), .second, .val (.int (0 : Int32)), .val (.long key), .second, .val (.int kl), .val (.long ek), .second, .val (.int el), .val (.int lf), .val (.int (1 : Int32)), .val (.ref b13), .val (.ref b16), .val (.int (1 : Int32)), .val (.int (F11 b16 (nn.toInt32))), .val (.int (F4e b16 (kl + (1 : Int32))))] [(.int (1 : Int32))])
          refine OFin.st (fun t k => XS.ifNo X27.here hx rfl (hb hby at_294) rfl ((if0 _ _).trans (feq (by decide : ¬ ((1 : Int32) = (0 : Int32)))).1) k) ?_
          show OFin p e below _ _ T27 (mkF m 297 #[.val (.int p0), .val (.int p1), .val (.int p2), .val (.int p3), .val (.ref b1), .val (.int (1 : Int32)), .val (.long nn), .second, .val (.int (0 : Int32)), .val (.long key), .second, .val (.int kl), .val (.long ek), .second, .val (.int el), .val (.int lf), .val (.int (1 : Int32)), .val (.ref b13), .val (.ref b16), .val (.int (1 : Int32)), .val (.int (F11 b16 (nn.toInt32))), .val (.int (F4e b16 (kl + (1 : Int32))))] [])
          refine OFin.st (fun t k => XS.iload X27.here hx rfl (hb hby at_297) rfl k) ?_
          refine OFin.st (fun t k => XS.i2l X27.here hx rfl (hb hby at_299) rfl k) ?_
          refine OFin.st (fun t k => XS.lload X27.here hx rfl (hb hby at_300) rfl k) ?_
          refine OFin.st (fun t k => XS.lcmp X27.here hx rfl (hb hby at_302) rfl k) ?_
          show OFin p e below _ _ T27 (mkF m 303 #[.val (.int p0), .val (.int p1), .val (.int p2), .val (.int p3), .val (.ref b1), .val (.int (1 : Int32)), .val (.long nn), .second, .val (.int (0 : Int32)), .val (.long key), .second, .val (.int kl), .val (.long ek), .second, .val (.int el), .val (.int lf), .val (.int (1 : Int32)), .val (.ref b13), .val (.ref b16), .val (.int (1 : Int32)), .val (.int (F11 b16 (nn.toInt32))), .val (.int (F4e b16 (kl + (1 : Int32))))] [(.int (lcmpW ((F11 b16 (nn.toInt32)).toInt64) nn))])
          refine OFin.st (fun t k => XS.ifNo X27.here hx rfl (hb hby at_303) rfl ((if0 _ _).trans (teq ((lw_eq ((F11 b16 (nn.toInt32)).toInt64) nn).mpr (own_n0 nn hn).2.2)).2) k) ?_
          show OFin p e below _ _ T27 (mkF m 306 #[.val (.int p0), .val (.int p1), .val (.int p2), .val (.int p3), .val (.ref b1), .val (.int (1 : Int32)), .val (.long nn), .second, .val (.int (0 : Int32)), .val (.long key), .second, .val (.int kl), .val (.long ek), .second, .val (.int el), .val (.int lf), .val (.int (1 : Int32)), .val (.ref b13), .val (.ref b16), .val (.int (1 : Int32)), .val (.int (F11 b16 (nn.toInt32))), .val (.int (F4e b16 (kl + (1 : Int32))))] [])
          refine OFin.st (fun t k => XS.iload X27.here hx rfl (hb hby at_306) rfl k) ?_
          refine OFin.st (fun t k => XS.ifNo X27.here hx rfl (hb hby at_308) rfl ((if0 _ _).trans (teq rfl).2) k) ?_
          show OFin p e below _ _ T27 (mkF m 311 #[.val (.int p0), .val (.int p1), .val (.int p2), .val (.int p3), .val (.ref b1), .val (.int (1 : Int32)), .val (.long nn), .second, .val (.int (0 : Int32)), .val (.long key), .second, .val (.int kl), .val (.long ek), .second, .val (.int el), .val (.int lf), .val (.int (1 : Int32)), .val (.ref b13), .val (.ref b16), .val (.int (1 : Int32)), .val (.int (F11 b16 (nn.toInt32))), .val (.int (F4e b16 (kl + (1 : Int32))))] [])
          refine OFin.st (fun t k => XS.iconst X27.here hx rfl (hb hby at_311) k) ?_
          refine OFin.st (fun t k => XS.goto X27.here hx rfl (pc0 := 312) (pc' := 316) rfl (hb hby at_312) (by decide) (by decide) k) ?_
          exact own_retN X27 hx Bd.returns Bd.notSynchronized (t := .boolean) (by simp) rfl (hb hby at_316) (by show Qrm0 Z p0 p1 p2 p3 kW vW w_WIRE_TYPES h0 n0 _ T27.heap _; rw [e27]; exact ⟨rfl, N27, K25⟩) (own_endW hS18 (by rw [e27]; exact hk25) (by decide) (by decide))
        · show OFin p e below _ _ T11 (mkF m 128 #[.val (.int p0), .val (.int p1), .val (.int p2), .val (.int p3), .val (.ref b1), .val (.int (1 : Int32)), .val (.long nn), .second, .val (.int (1 : Int32)), .val (.long key), .second, .val (.int kl), .val (.long ek), .second, .val (.int el), .val (.int lf), .unset, .unset, .unset, .unset, .unset, .unset] [])
          refine OFin.st (fun t k => XS.iload X11.here hx rfl (hb hby at_128) rfl k) ?_
          show OFin p e below _ _ T11 (mkF m 130 #[.val (.int p0), .val (.int p1), .val (.int p2), .val (.int p3), .val (.ref b1), .val (.int (1 : Int32)), .val (.long nn), .second, .val (.int (1 : Int32)), .val (.long key), .second, .val (.int kl), .val (.long ek), .second, .val (.int el), .val (.int lf), .unset, .unset, .unset, .unset, .unset, .unset] [(.int (1 : Int32))])
          refine OFin.st (fun t k => XS.ifYes X11.here hx rfl (pc0 := 130) (pc' := 139) rfl (hb hby at_130) rfl ((if0 _ _).trans (feq (by decide : ¬ ((1 : Int32) = (0 : Int32)))).2) (by decide) (by decide) k) ?_
          show OFin p e below _ _ T11 (mkF m 139 #[.val (.int p0), .val (.int p1), .val (.int p2), .val (.int p3), .val (.ref b1), .val (.int (1 : Int32)), .val (.long nn), .second, .val (.int (1 : Int32)), .val (.long key), .second, .val (.int kl), .val (.long ek), .second, .val (.int el), .val (.int lf), .unset, .unset, .unset, .unset, .unset, .unset] [])
          refine OFin.st (fun t k => XS.iload X11.here hx rfl (hb hby at_139) rfl k) ?_
          refine OFin.st (fun t k => XS.iconst X11.here hx rfl (hb hby at_141) k) ?_
          refine OFin.st (fun t k => XS.icmpNo X11.here hx rfl (hb hby at_142) rfl (teq (by decide : (1 : Int32) = (1 : Int32))).2 k) ?_
          show OFin p e below _ _ T11 (mkF m 145 #[.val (.int p0), .val (.int p1), .val (.int p2), .val (.int p3), .val (.ref b1), .val (.int (1 : Int32)), .val (.long nn), .second, .val (.int (1 : Int32)), .val (.long key), .second, .val (.int kl), .val (.long ek), .second, .val (.int el), .val (.int lf), .unset, .unset, .unset, .unset, .unset, .unset] [])
          refine OFin.st (fun t k => XS.bipush X11.here hx rfl (hb hby at_145) k) ?_
          refine OFin.st (fun t k => XS.istore X11.here hx rfl (hb hby at_147) rfl (l' := #[.val (.int p0), .val (.int p1), .val (.int p2), .val (.int p3), .val (.ref b1), .val (.int (1 : Int32)), .val (.long nn), .second, .val (.int (1 : Int32)), .val (.long key), .second, .val (.int kl), .val (.long ek), .second, .val (.int el), .val (.int lf), .val (.int (8 : Int32)), .unset, .unset, .unset, .unset, .unset]) rfl k) ?_
          show OFin p e below _ _ T11 (mkF m 149 #[.val (.int p0), .val (.int p1), .val (.int p2), .val (.int p3), .val (.ref b1), .val (.int (1 : Int32)), .val (.long nn), .second, .val (.int (1 : Int32)), .val (.long key), .second, .val (.int kl), .val (.long ek), .second, .val (.int el), .val (.int lf), .val (.int (8 : Int32)), .unset, .unset, .unset, .unset, .unset] [])
          refine OFin.st (fun t k => XS.goto X11.here hx rfl (pc0 := 149) (pc' := 183) rfl (hb hby at_149) (by decide) (by decide) k) ?_
          refine OFin.st (fun t k => XS.iload X11.here hx rfl (hb hby at_183) rfl k) ?_
          refine OFin.st (fun t k => XS.iload X11.here hx rfl (hb hby at_185) rfl k) ?_
          refine OFin.st (fun t k => XS.iadd X11.here hx rfl (hb hby at_187) rfl k) ?_
          show OFin p e below _ _ T11 (mkF m 188 #[.val (.int p0), .val (.int p1), .val (.int p2), .val (.int p3), .val (.ref b1), .val (.int (1 : Int32)), .val (.long nn), .second, .val (.int (1 : Int32)), .val (.long key), .second, .val (.int kl), .val (.long ek), .second, .val (.int el), .val (.int lf), .val (.int (8 : Int32)), .unset, .unset, .unset, .unset, .unset] [(.int (kl + (8 : Int32)))])
          obtain ⟨T28, h28, k28, X28, e28, E28, A28, st28⟩ := own_newP X11 hx hZ (hw _ (List.mem_of_getElem? (i := 3) rfl)) e11 (z := (kl + (8 : Int32))) (n := (kv + 1 + 8)) (cap := 20) (own_e1 kl (8 : Int32) kv 8 hkl hk9 (by decide) (by decide)) (by have := own_lf lf hlf; omega) (by decide) (by decide) (by decide) (pc := 188) (Ls := #[.val (.int p0), .val (.int p1), .val (.int p2), .val (.int p3), .val (.ref b1), .val (.int (1 : Int32)), .val (.long nn), .second, .val (.int (1 : Int32)), .val (.long key), .second, .val (.int kl), .val (.long ek), .second, .val (.int el), .val (.int lf), .val (.int (8 : Int32)), .unset, .unset, .unset, .unset, .unset]) (rest := []) (hb hby at_188)
          obtain ⟨b28, gz_b28⟩ : ∃ z, z = T4.heap.size := ⟨_, rfl⟩
          rw [← gz_b28] at A28 st28
          have N_b1_b28 : b1 ≠ b28 := Nat.ne_of_lt (Nat.lt_of_lt_of_le P4_0.lt (Nat.le_of_eq gz_b28.symm))
          have N_b2_b28 : b2 ≠ b28 := Nat.ne_of_lt (Nat.lt_of_lt_of_le ((V2.ext E3).keep K4q (ninS (Ne.symm N_b1_b2) nin0)).lt (Nat.le_of_eq gz_b28.symm))
          have g_b28 : n0 ≤ b28 := Nat.le_trans (Nat.le_trans (Nat.le_of_eq O4.1.symm) O4.2.1) (Nat.le_of_eq gz_b28.symm)
          have sz_b28 : h0.size ≤ b28 := Nat.le_trans K4.1 (Nat.le_of_eq gz_b28.symm)
          have hk28 := Nat.le_trans hk4 E28.1
          have K28 : Keep h0 h28 [] := K4.ext E28
          have O28 : Old Z n0 h28 := O4.ext E28
          have V28 : Oar Z h28 b28 k28 .byte (List.replicate (kv + 1 + 8) (.int (0 : Int32))) := A28
          refine OFin.st st28 ?_
          refine OFin.st (fun t k => XS.astore X28.here hx rfl (hb hby at_190) rfl rfl (l' := #[.val (.int p0), .val (.int p1), .val (.int p2), .val (.int p3), .val (.ref b1), .val (.int (1 : Int32)), .val (.long nn), .second, .val (.int (1 : Int32)), .val (.long key), .second, .val (.int kl), .val (.long ek), .second, .val (.int el), .val (.int lf), .val (.int (8 : Int32)), .val (.ref b28), .unset, .unset, .unset, .unset]) rfl k) ?_
          refine OFin.st (fun t k => XS.aload X28.here hx rfl (hb hby at_192) rfl rfl k) ?_
          refine OFin.st (fun t k => XS.iconst X28.here hx rfl (hb hby at_194) k) ?_
          show OFin p e below _ _ T28 (mkF m 195 #[.val (.int p0), .val (.int p1), .val (.int p2), .val (.int p3), .val (.ref b1), .val (.int (1 : Int32)), .val (.long nn), .second, .val (.int (1 : Int32)), .val (.long key), .second, .val (.int kl), .val (.long ek), .second, .val (.int el), .val (.int lf), .val (.int (8 : Int32)), .val (.ref b28), .unset, .unset, .unset, .unset] [(.int (0 : Int32)), (.ref b28)])
          refine OFin.st (fun t k => XS.lload X28.here hx rfl (hb hby at_195) rfl k) ?_
          refine OFin.st (fun t k => XS.iload X28.here hx rfl (hb hby at_197) rfl k) ?_
          obtain ⟨_, _, ⟨T29, L29, k29, n29⟩, -, X29, ⟨Lc29, hQ29, l29, y29, z29⟩, st29⟩ := Jvm.LawKit.callS X28 hx (y := (⟨"com/example/fillwire/fillwire/codec/ProtoReaderNextPinLaw", "put", "([BIJI)V"⟩ : MethodName)) hown (mvT hZ (hw _ (List.mem_of_getElem? (i := 45) rfl))) (mvT hZ (hw _ (List.mem_of_getElem? (i := 46) rfl))) (mvT hZ (hw _ (List.mem_of_getElem? (i := 37) rfl))) (mvT hZ (hw _ (List.mem_of_getElem? (i := 47) rfl))) (by decide) (backOf (W := 0) (rm7 l Z a0 hw [] b28 (0 : Int32) key kl k28 (List.replicate (kv + 1 + 8) (.int (0 : Int32))) 0 (kv + 1) h28 n0 O28 V28 g_b28 (by decide) (by omega) (by omega) (by omega) (by rw [List.length_replicate]; omega) (by rw [List.length_replicate]; have := own_lf lf hlf; omega)) hZ (hw _ (List.mem_of_getElem? (i := 47) rfl)) (hw _ (List.mem_of_getElem? (i := 37) rfl)) (by decide) (by decide)) (g := (mkF m 199 #[.val (.int p0), .val (.int p1), .val (.int p2), .val (.int p3), .val (.ref b1), .val (.int (1 : Int32)), .val (.long nn), .second, .val (.int (1 : Int32)), .val (.long key), .second, .val (.int kl), .val (.long ek), .second, .val (.int el), .val (.int lf), .val (.int (8 : Int32)), .val (.ref b28), .unset, .unset, .unset, .unset] [(.int kl), (.long key), (.int (0 : Int32)), (.ref b28)])) rfl (by rw [hml]; rfl) (argsL := [(.ref b28), (.int (0 : Int32)), (.long key), (.int kl)]) (rest := []) (lenOf pd_9 rfl) rfl (by show 2 * 0 + _ ≤ _; exact Nat.le_of_eq rfl) (hb hby at_199) (fun _ _ => ⟨rfl, e28, (by decide : 5 + 0 ≤ _), (by decide : 34 + 0 ≤ _)⟩)
          dsimp only [Pt.U, Pt.locs, Pt.cells, Pt.slots] at X29 l29 y29 z29 st29 hQ29
          subst l29 y29 z29
          obtain ⟨rfl, N29q, K29q, P29_0⟩ := hQ29
          have N29 := Fr.app N11 N29q
          have hk29 := Nat.le_trans hk28 K29q.1
          have K29 : Keep h0 T29.heap [] := K28.trans K29q (allS (Or.inr sz_b28) all0)
          have O29 : Old Z n0 T29.heap := O28.keep K29q (allS g_b28 all0)
          refine OFin.st st29 ?_
          refine OFin.st (fun t k => XS.iload X29.here hx rfl (hb hby at_202) rfl k) ?_
          show OFin p e below _ _ T29 (mkF m 204 #[.val (.int p0), .val (.int p1), .val (.int p2), .val (.int p3), .val (.ref b1), .val (.int (1 : Int32)), .val (.long nn), .second, .val (.int (1 : Int32)), .val (.long key), .second, .val (.int kl), .val (.long ek), .second, .val (.int el), .val (.int lf), .val (.int (8 : Int32)), .val (.ref b28), .unset, .unset, .unset, .unset] [(.int (1 : Int32))])
          refine OFin.st (fun t k => XS.ifYes X29.here hx rfl (pc0 := 204) (pc' := 217) rfl (hb hby at_204) rfl ((if0 _ _).trans (feq (by decide : ¬ ((1 : Int32) = (0 : Int32)))).2) (by decide) (by decide) k) ?_
          show OFin p e below _ _ T29 (mkF m 217 #[.val (.int p0), .val (.int p1), .val (.int p2), .val (.int p3), .val (.ref b1), .val (.int (1 : Int32)), .val (.long nn), .second, .val (.int (1 : Int32)), .val (.long key), .second, .val (.int kl), .val (.long ek), .second, .val (.int el), .val (.int lf), .val (.int (8 : Int32)), .val (.ref b28), .unset, .unset, .unset, .unset] [])
          refine OFin.st (fun t k => XS.iload X29.here hx rfl (hb hby at_217) rfl k) ?_
          refine OFin.st (fun t k => XS.iconst X29.here hx rfl (hb hby at_219) k) ?_
          refine OFin.st (fun t k => XS.icmpYes X29.here hx rfl (pc0 := 220) (pc' := 231) rfl (hb hby at_220) rfl (feq (by decide : ¬ ((1 : Int32) = (2 : Int32)))).2 (by decide) (by decide) k) ?_
          show OFin p e below _ _ T29 (mkF m 231 #[.val (.int p0), .val (.int p1), .val (.int p2), .val (.int p3), .val (.ref b1), .val (.int (1 : Int32)), .val (.long nn), .second, .val (.int (1 : Int32)), .val (.long key), .second, .val (.int kl), .val (.long ek), .second, .val (.int el), .val (.int lf), .val (.int (8 : Int32)), .val (.ref b28), .unset, .unset, .unset, .unset] [])
          refine OFin.st (fun t k => XS.iload X29.here hx rfl (hb hby at_231) rfl k) ?_
          refine OFin.st (fun t k => XS.iconst X29.here hx rfl (hb hby at_233) k) ?_
          show OFin p e below _ _ T29 (mkF m 234 #[.val (.int p0), .val (.int p1), .val (.int p2), .val (.int p3), .val (.ref b1), .val (.int (1 : Int32)), .val (.long nn), .second, .val (.int (1 : Int32)), .val (.long key), .second, .val (.int kl), .val (.long ek), .second, .val (.int el), .val (.int lf), .val (.int (8 : Int32)), .val (.ref b28), .unset, .unset, .unset, .unset] [(.int (3 : Int32)), (.int (1 : Int32))])
          refine OFin.st (fun t k => XS.icmpYes X29.here hx rfl (pc0 := 234) (pc' := 248) rfl (hb hby at_234) rfl (feq (by decide : ¬ ((1 : Int32) = (3 : Int32)))).2 (by decide) (by decide) k) ?_
          show OFin p e below _ _ T29 (mkF m 248 #[.val (.int p0), .val (.int p1), .val (.int p2), .val (.int p3), .val (.ref b1), .val (.int (1 : Int32)), .val (.long nn), .second, .val (.int (1 : Int32)), .val (.long key), .second, .val (.int kl), .val (.long ek), .second, .val (.int el), .val (.int lf), .val (.int (8 : Int32)), .val (.ref b28), .unset, .unset, .unset, .unset] [])
          obtain ⟨T30, h30, X30, e30, E30, A30, D30, -, st30⟩ := newO X29 hx hZ hown (hw _ (List.mem_of_getElem? (i := 0) rfl)) (hw _ (List.mem_of_getElem? (i := 1) rfl)) (hw _ (List.mem_of_getElem? (i := 2) rfl)) rfl (g := (mkF m 248 #[.val (.int p0), .val (.int p1), .val (.int p2), .val (.int p3), .val (.ref b1), .val (.int (1 : Int32)), .val (.long nn), .second, .val (.int (1 : Int32)), .val (.long key), .second, .val (.int kl), .val (.long ek), .second, .val (.int el), .val (.int lf), .val (.int (8 : Int32)), .val (.ref b28), .unset, .unset, .unset, .unset] [])) rfl (hb hby at_248) (by decide) (by decide)
          obtain ⟨b30, gz_b30⟩ : ∃ z, z = T29.heap.size := ⟨_, rfl⟩
          rw [← gz_b30] at A30 D30 st30
          have N_b1_b30 : b1 ≠ b30 := Nat.ne_of_lt (Nat.lt_of_lt_of_le ((P4_0.ext E28).keep K29q).lt (Nat.le_of_eq gz_b30.symm))
          have c31 := ((((V2.ext E3).keep K4q (ninS (Ne.symm N_b1_b2) nin0)).ext E28).keep K29q (ninS N_b2_b28 nin0))
          have N_b2_b30 : b2 ≠ b30 := Nat.ne_of_lt (Nat.lt_of_lt_of_le c31.lt (Nat.le_of_eq gz_b30.symm))
          have N_b28_b30 : b28 ≠ b30 := Nat.ne_of_lt (Nat.lt_of_lt_of_le P29_0.lt (Nat.le_of_eq gz_b30.symm))
          have g_b30 : n0 ≤ b30 := Nat.le_trans (Nat.le_trans (Nat.le_of_eq O29.1.symm) O29.2.1) (Nat.le_of_eq gz_b30.symm)
          have sz_b30 : h0.size ≤ b30 := Nat.le_trans K29.1 (Nat.le_of_eq gz_b30.symm)
          have hk30 := Nat.le_trans hk29 E30.1
          have K30 : Keep h0 h30 [] := K29.ext E30
          have O30 : Old Z n0 h30 := O29.ext E30
          have F_bytes_b30 : Fld Z h30 b30 "com/example/fillwire/fillwire/codec/ProtoReader" "bytes" "[B" .null := D30 (Or.inr (hw _ (List.mem_of_getElem? (i := 21) rfl))) (ty := (.array .byte)) (by decide)
          have F_position_b30 : Fld Z h30 b30 "com/example/fillwire/fillwire/codec/ProtoReader" "position" "I" (.int (0 : Int32)) := D30 (Or.inl (hw _ (List.mem_of_getElem? (i := 23) rfl))) (ty := .int) (by decide)
          have F_end_b30 : Fld Z h30 b30 "com/example/fillwire/fillwire/codec/ProtoReader" "end" "I" (.int (0 : Int32)) := D30 (Or.inr (hw _ (List.mem_of_getElem? (i := 25) rfl))) (ty := .int) (by decide)
          have F_name_b30 : Fld Z h30 b30 "com/example/fillwire/fillwire/codec/ProtoReader" "name" "Ljava/lang/String;" .null := D30 (Or.inr (hw _ (List.mem_of_getElem? (i := 27) rfl))) (ty := (.object "java/lang/String")) (by decide)
          have F_field_b30 : Fld Z h30 b30 "com/example/fillwire/fillwire/codec/ProtoReader" "field" "I" (.int (0 : Int32)) := D30 (Or.inl (hw _ (List.mem_of_getElem? (i := 57) rfl))) (ty := .int) (by decide)
          have F_wireType_b30 : Fld Z h30 b30 "com/example/fillwire/fillwire/codec/ProtoReader" "wireType" "I" (.int (0 : Int32)) := D30 (Or.inl (hw _ (List.mem_of_getElem? (i := 64) rfl))) (ty := .int) (by decide)
          refine OFin.st st30 ?_
          refine OFin.st (fun t k => XS.dup X30.here hx rfl (hb hby at_251) rfl rfl k) ?_
          refine OFin.st (fun t k => XS.aload X30.here hx rfl (hb hby at_252) rfl rfl k) ?_
          have wS32 : ∀ a ∈ Bundle.stringAtoms, a.before a0 Z = true := by
            intro a ha
            simp only [Bundle.stringAtoms, List.mem_cons, List.not_mem_nil, or_false] at ha
            rcases ha with rfl | rfl | rfl | rfl | rfl | rfl | rfl
            · exact (hw _ (List.mem_of_getElem? (i := 5) rfl))
            · exact (hw _ (List.mem_of_getElem? (i := 6) rfl))
            · exact (hw _ (List.mem_of_getElem? (i := 3) rfl))
            · exact (hw _ (List.mem_of_getElem? (i := 7) rfl))
            · exact (hw _ (List.mem_of_getElem? (i := 8) rfl))
            · exact (hw _ (List.mem_of_getElem? (i := 9) rfl))
            · exact (hw _ (List.mem_of_getElem? (i := 10) rfl))
          obtain ⟨a32, T32, h32, kz32, X32, e32, E32, hS32, hkq32, hZ, hown, st32⟩ := ldcS X30 hx hZ hown (hw _ (List.mem_of_getElem? (i := 4) rfl)) wS32 e30 hS3 hk30 (g := (mkF m 254 #[.val (.int p0), .val (.int p1), .val (.int p2), .val (.int p3), .val (.ref b1), .val (.int (1 : Int32)), .val (.long nn), .second, .val (.int (1 : Int32)), .val (.long key), .second, .val (.int kl), .val (.long ek), .second, .val (.int el), .val (.int lf), .val (.int (8 : Int32)), .val (.ref b28), .unset, .unset, .unset, .unset] [(.ref b28), (.ref b30), (.ref b30)])) rfl (hb hby at_254) (n := 4) (by decide) (by decide) (by decide) (by decide)
          refine OFin.st st32 ?_
          have hk32 := Nat.le_trans hk30 E32.1
          have K32 : Keep h0 h32 [] := K30.ext E32
          have O32 : Old Z n0 h32 := O30.ext E32
          have hk32 := hkq32
          show OFin p e below _ _ T32 (mkF m 256 #[.val (.int p0), .val (.int p1), .val (.int p2), .val (.int p3), .val (.ref b1), .val (.int (1 : Int32)), .val (.long nn), .second, .val (.int (1 : Int32)), .val (.long key), .second, .val (.int kl), .val (.long ek), .second, .val (.int el), .val (.int lf), .val (.int (8 : Int32)), .val (.ref b28), .unset, .unset, .unset, .unset] [(.ref a32), (.ref b28), (.ref b30), (.ref b30)])
          obtain ⟨_, _, ⟨T33, L33, k33, n33⟩, -, X33, ⟨Lc33, hQ33, l33, y33, z33⟩, st33⟩ := X32.specialBack hx (y := (⟨"com/example/fillwire/fillwire/codec/ProtoReader", "<init>", "([BLjava/lang/String;)V"⟩ : MethodName)) rfl hown (mvT hZ (hw _ (List.mem_of_getElem? (i := 11) rfl))) (mvT hZ (hw _ (List.mem_of_getElem? (i := 12) rfl))) (mvT hZ (hw _ (List.mem_of_getElem? (i := 13) rfl))) (by decide) (backOf (W := 1) (rm1 l Z a0 hw [] b30 b28 a32 .null (.int (0 : Int32)) (.int (0 : Int32)) .null (0 : Int32) (0 : Int32) k28 (pN (List.replicate (kv + 1 + 8) (.int (0 : Int32))) 0 (gf key kl) (kv + 1)) (kl + (8 : Int32)) h32 n0 O32 (A30.ext E32) (F_bytes_b30.ext E32) (F_position_b30.ext E32) (F_end_b30.ext E32) (F_name_b30.ext E32) (F_field_b30.ext E32) (F_wireType_b30.ext E32) g_b30 ((P29_0.ext E30).ext E32) (by simp only [pN_len, List.length_set, List.length_replicate]; exact (own_e1 kl (8 : Int32) kv 8 hkl hk9 (by decide) (by decide)))) hZ (hw _ (List.mem_of_getElem? (i := 13) rfl)) (hw _ (List.mem_of_getElem? (i := 2) rfl)) (by decide) (by decide)) (g := (mkF m 256 #[.val (.int p0), .val (.int p1), .val (.int p2), .val (.int p3), .val (.ref b1), .val (.int (1 : Int32)), .val (.long nn), .second, .val (.int (1 : Int32)), .val (.long key), .second, .val (.int kl), .val (.long ek), .second, .val (.int el), .val (.int lf), .val (.int (8 : Int32)), .val (.ref b28), .unset, .unset, .unset, .unset] [(.ref a32), (.ref b28), (.ref b30), (.ref b30)])) rfl (by rw [hml]; rfl) (Steps.refl _) (a := b30) (argsL := [(.ref b28), (.ref a32)]) (rest := [(.ref b30)]) (lenOf pd_10 rfl) rfl (by show 2 * 0 + _ ≤ _; exact Nat.le_of_eq rfl) (hb hby at_256) (fun _ _ => ⟨rfl, e32, (by decide : 8 + 0 ≤ _), (by decide : 48 + 0 ≤ _)⟩)
          dsimp only [Pt.U, Pt.locs, Pt.cells, Pt.slots] at X33 l33 y33 z33 st33 hQ33
          subst l33 y33 z33
          obtain ⟨rfl, N33q, K33q, P33_0, P33_1, P33_2, P33_3, P33_4, P33_5⟩ := hQ33
          have N33 := Fr.app N29 N33q
          have hk33 := Nat.le_trans hk32 K33q.1
          have K33 : Keep h0 T33.heap [] := K32.trans K33q (allS (Or.inr sz_b30) all0)
          have O33 : Old Z n0 T33.heap := O32.keep K33q (allS g_b30 all0)
          refine OFin.tr st33 ?_
          refine OFin.st (fun t k => XS.astore X33.here hx rfl (hb hby at_259) rfl rfl (l' := #[.val (.int p0), .val (.int p1), .val (.int p2), .val (.int p3), .val (.ref b1), .val (.int (1 : Int32)), .val (.long nn), .second, .val (.int (1 : Int32)), .val (.long key), .second, .val (.int kl), .val (.long ek), .second, .val (.int el), .val (.int lf), .val (.int (8 : Int32)), .val (.ref b28), .val (.ref b30), .unset, .unset, .unset]) rfl k) ?_
          refine OFin.st (fun t k => XS.aload X33.here hx rfl (hb hby at_261) rfl rfl k) ?_
          obtain ⟨cq34, kq34, q34a, q34b, q34c⟩ := isOf hZ rfl P33_0
          obtain ⟨_, _, ⟨T34, L34, k34, n34⟩, -, X34, ⟨Lc34, hQ34, l34, y34, z34⟩, st34⟩ := X33.virtualBack hx (y := (⟨"com/example/fillwire/fillwire/codec/ProtoReader", "next", "()Z"⟩ : MethodName)) (z := (⟨"com/example/fillwire/fillwire/codec/ProtoReader", "next", "()Z"⟩ : MethodName)) hown (mvT hZ (hw _ (List.mem_of_getElem? (i := 28) rfl))) (mvT hZ (hw _ (List.mem_of_getElem? (i := 29) rfl))) (notFace_of_selects (args := #[]) (mvT hZ (hw _ (List.mem_of_getElem? (i := 31) rfl)))) (mvT hZ (hw _ (List.mem_of_getElem? (i := 31) rfl))) (mvT hZ (hw _ (List.mem_of_getElem? (i := 30) rfl))) (by decide) (backOf (W := 0) (rm4k l Z a0 hw [] b30 b28 (0 : Int32) (kl + (8 : Int32)) (0 : Int32) (0 : Int32) k28 (pN (List.replicate (kv + 1 + 8) (.int (0 : Int32))) 0 (gf key kl) (kv + 1)) (gf key kl) kv kW vW w_WIRE_TYPES T33.heap n0 O33 P33_0 P33_1 P33_2 P33_3 P33_4 P33_5 (((P29_0.ext E30).ext E32).keep K33q (ninS N_b28_b30 nin0)) g_b30 N_b28_b30 hk9 (own_gcn key kv kl hkl hk9) (own_gln key kv kl hkl hk9) (own_g9 key kv kl hkl hk9) (by decide) (by decide) (fun i hi => by rw [(by decide : (0 : Int32).toInt.toNat = 0)]; exact pN_in _ 0 _ _ i (by omega) (by rw [List.length_replicate]; omega)) (fun i hi => own_ne _ _ 0 (kv + 1 + 8) i (by decide) (own_e1 kl (8 : Int32) kv 8 hkl hk9 (by decide) (by decide)) (by omega) (by omega) (by have := own_lf lf hlf; omega)) (by rw [own_key key kv kl hkl hk9 hk0 hkb, (own_num key nn 1 hkey (by decide) hn).1]; exact (own_n0 nn hn).1) (by rw [own_key key kv kl hkl hk9 hk0 hkb, (own_num key nn 1 hkey (by decide) hn).1]; exact (own_n0 nn hn).2.1) (by rw [own_key key kv kl hkl hk9 hk0 hkb, Int32.lt_iff_toInt_lt, (own_num key nn 1 hkey (by decide) hn).2]; decide) hW6 (by rw [own_key key kv kl hkl hk9 hk0 hkb]; intro q; have z := (own_num key nn 1 hkey (by decide) hn).2; rw [q] at z; exact absurd z (by decide)) A_w_WIRE_TYPES S_WIRE_TYPES) hZ (hw _ (List.mem_of_getElem? (i := 32) rfl)) (hw _ (List.mem_of_getElem? (i := 2) rfl)) (by decide) (by decide)) q34a q34c (g := (mkF m 263 #[.val (.int p0), .val (.int p1), .val (.int p2), .val (.int p3), .val (.ref b1), .val (.int (1 : Int32)), .val (.long nn), .second, .val (.int (1 : Int32)), .val (.long key), .second, .val (.int kl), .val (.long ek), .second, .val (.int el), .val (.int lf), .val (.int (8 : Int32)), .val (.ref b28), .val (.ref b30), .unset, .unset, .unset] [(.ref b30)])) rfl (by rw [hml]; rfl) (Steps.refl _) (argsL := []) (rest := []) (lenOf pd_3 rfl) rfl (by show 2 * 0 + _ ≤ _; exact Nat.le_of_eq rfl) (hb hby at_263) (fun _ _ => ⟨rfl, rfl, (by decide : 8 + 0 ≤ _), (by decide : 48 + 0 ≤ _)⟩)
          dsimp only [Pt.U, Pt.locs, Pt.cells, Pt.slots] at X34 l34 y34 z34 st34 hQ34
          subst l34 y34 z34
          obtain ⟨rfl, N34q, K34q, P34_0, P34_1, P34_2, P34_3, P34_4, P34_5⟩ := hQ34
          have N34 := Fr.app N33 N34q
          have hk34 := Nat.le_trans hk33 K34q.1
          have K34 : Keep h0 T34.heap [] := K33.trans K34q (allS (Or.inr sz_b30) all0)
          have O34 : Old Z n0 T34.heap := O33.keep K34q (allS g_b30 all0)
          refine OFin.tr st34 ?_
          have Rs35 : Fld Z T34.heap b30 "com/example/fillwire/fillwire/codec/ProtoReader" "field" "I" (.int (nn.toInt32)) := (by have q := P34_4; rw [own_key key kv kl hkl hk9 hk0 hkb, (own_num key nn 1 hkey (by decide) hn).1] at q; exact q)
          have Rs36 : Fld Z T34.heap b30 "com/example/fillwire/fillwire/codec/ProtoReader" "wireType" "I" (.int (1 : Int32)) := (by have q := P34_5; rw [own_key key kv kl hkl hk9 hk0 hkb, (Int32.toInt_inj.mp (by rw [(own_num key nn 1 hkey (by decide) hn).2]; decide) : ((key.toInt32) &&& (7 : Int32)) = (1 : Int32))] at q; exact q)
          show OFin p e below _ _ T34 (mkF m 266 #[.val (.int p0), .val (.int p1), .val (.int p2), .val (.int p3), .val (.ref b1), .val (.int (1 : Int32)), .val (.long nn), .second, .val (.int (1 : Int32)), .val (.long key), .second, .val (.int kl), .val (.long ek), .second, .val (.int el), .val (.int lf), .val (.int (8 : Int32)), .val (.ref b28), .val (.ref b30), .unset, .unset, .unset] [(.int (1 : Int32))])
          refine OFin.st (fun t k => XS.istore X34.here hx rfl (hb hby at_266) rfl (l' := #[.val (.int p0), .val (.int p1), .val (.int p2), .val (.int p3), .val (.ref b1), .val (.int (1 : Int32)), .val (.long nn), .second, .val (.int (1 : Int32)), .val (.long key), .second, .val (.int kl), .val (.long ek), .second, .val (.int el), .val (.int lf), .val (.int (8 : Int32)), .val (.ref b28), .val (.ref b30), .val (.int (1 : Int32)), .unset, .unset]) rfl k) ?_
          refine OFin.st (fun t k => XS.aload X34.here hx rfl (hb hby at_268) rfl rfl k) ?_
          obtain ⟨cq37, kq37, q37a, q37b, q37c⟩ := isOf hZ rfl P34_0
          obtain ⟨_, _, ⟨T37, L37, k37, n37⟩, -, X37, ⟨Lc37, hQ37, l37, y37, z37⟩, st37⟩ := X34.virtualBack hx (y := (⟨"com/example/fillwire/fillwire/codec/ProtoReader", "field", "()I"⟩ : MethodName)) (z := (⟨"com/example/fillwire/fillwire/codec/ProtoReader", "field", "()I"⟩ : MethodName)) hown (mvT hZ (hw _ (List.mem_of_getElem? (i := 67) rfl))) (mvT hZ (hw _ (List.mem_of_getElem? (i := 68) rfl))) (notFace_of_selects (args := #[]) (mvT hZ (hw _ (List.mem_of_getElem? (i := 70) rfl)))) (mvT hZ (hw _ (List.mem_of_getElem? (i := 70) rfl))) (mvT hZ (hw _ (List.mem_of_getElem? (i := 69) rfl))) (by decide) (backOf (W := 0) (rm11 l Z a0 hw [] b30 (nn.toInt32) T34.heap n0 O34 Rs35) hZ (hw _ (List.mem_of_getElem? (i := 71) rfl)) (hw _ (List.mem_of_getElem? (i := 2) rfl)) (by decide) (by decide)) q37a q37c (g := (mkF m 270 #[.val (.int p0), .val (.int p1), .val (.int p2), .val (.int p3), .val (.ref b1), .val (.int (1 : Int32)), .val (.long nn), .second, .val (.int (1 : Int32)), .val (.long key), .second, .val (.int kl), .val (.long ek), .second, .val (.int el), .val (.int lf), .val (.int (8 : Int32)), .val (.ref b28), .val (.ref b30), .val (.int (1 : Int32)), .unset, .unset] [(.ref b30)])) rfl (by rw [hml]; rfl) (Steps.refl _) (argsL := []) (rest := []) (lenOf pd_0 rfl) rfl (by show 2 * 0 + _ ≤ _; exact Nat.le_of_eq rfl) (hb hby at_270) (fun _ _ => ⟨rfl, rfl, (by decide : 8 + 0 ≤ _), (by decide : 48 + 0 ≤ _)⟩)
          dsimp only [Pt.U, Pt.locs, Pt.cells, Pt.slots] at X37 l37 y37 z37 st37 hQ37
          subst l37 y37 z37
          obtain ⟨rfl, N37q, e37⟩ := hQ37
          have N37 := Fr.app N34 N37q
          refine OFin.tr st37 ?_
          refine OFin.st (fun t k => XS.istore X37.here hx rfl (hb hby at_273) rfl (l' := #[.val (.int p0), .val (.int p1), .val (.int p2), .val (.int p3), .val (.ref b1), .val (.int (1 : Int32)), .val (.long nn), .second, .val (.int (1 : Int32)), .val (.long key), .second, .val (.int kl), .val (.long ek), .second, .val (.int el), .val (.int lf), .val (.int (8 : Int32)), .val (.ref b28), .val (.ref b30), .val (.int (1 : Int32)), .val (.int (F11 b30 (nn.toInt32))), .unset]) rfl k) ?_
          show OFin p e below _ _ T37 (mkF m 275 #[.val (.int p0), .val (.int p1), .val (.int p2), .val (.int p3), .val (.ref b1), .val (.int (1 : Int32)), .val (.long nn), .second, .val (.int (1 : Int32)), .val (.long key), .second, .val (.int kl), .val (.long ek), .second, .val (.int el), .val (.int lf), .val (.int (8 : Int32)), .val (.ref b28), .val (.ref b30), .val (.int (1 : Int32)), .val (.int (F11 b30 (nn.toInt32))), .unset] [])
          refine OFin.st (fun t k => XS.aload X37.here hx rfl (hb hby at_275) rfl rfl k) ?_
          have c38 := ((((P29_0.ext E30).ext E32).keep K33q (ninS N_b28_b30 nin0)).keep K34q (ninS N_b28_b30 nin0))
          obtain ⟨cq39, kq39, q39a, q39b, q39c⟩ := isOf hZ e37 P34_0
          obtain ⟨_, _, ⟨T39, L39, k39, n39⟩, -, X39, ⟨Lc39, hQ39, l39, y39, z39⟩, st39⟩ := X37.virtualBack hx (y := (⟨"com/example/fillwire/fillwire/codec/ProtoReader", "skip", "()V"⟩ : MethodName)) (z := (⟨"com/example/fillwire/fillwire/codec/ProtoReader", "skip", "()V"⟩ : MethodName)) hown (mvT hZ (hw _ (List.mem_of_getElem? (i := 72) rfl))) (mvT hZ (hw _ (List.mem_of_getElem? (i := 73) rfl))) (notFace_of_selects (args := #[]) (mvT hZ (hw _ (List.mem_of_getElem? (i := 75) rfl)))) (mvT hZ (hw _ (List.mem_of_getElem? (i := 75) rfl))) (mvT hZ (hw _ (List.mem_of_getElem? (i := 74) rfl))) (by decide) (backOf (W := 0) (rm12t1 l Z a0 hw [] b30 b28 (vpo (0 : Int32) (kv + 1)) (kl + (8 : Int32)) (nn.toInt32) k28 (pN (List.replicate (kv + 1 + 8) (.int (0 : Int32))) 0 (gf key kl) (kv + 1)) T34.heap n0 O34 P34_0 P34_1 P34_2 P34_3 Rs35 Rs36 c38 g_b30 N_b28_b30 (fun q => by have z := Int32.lt_iff_toInt_lt.mp q; have a := c_isub (kl + (8 : Int32)) (vpo (0 : Int32) (kv + 1)); have b := rng32 ((kl + (8 : Int32)) - (vpo (0 : Int32) (kv + 1))); have d := (own_vp 0 (kv + 1) (0 : Int32) (by decide) (by omega) (by omega)); have f := (own_e1 kl (8 : Int32) kv 8 hkl hk9 (by decide) (by decide)); rw [(by decide : (8 : Int32).toInt = 8)] at z; omega)) hZ (hw _ (List.mem_of_getElem? (i := 76) rfl)) (hw _ (List.mem_of_getElem? (i := 2) rfl)) (by decide) (by decide)) q39a q39c (g := (mkF m 277 #[.val (.int p0), .val (.int p1), .val (.int p2), .val (.int p3), .val (.ref b1), .val (.int (1 : Int32)), .val (.long nn), .second, .val (.int (1 : Int32)), .val (.long key), .second, .val (.int kl), .val (.long ek), .second, .val (.int el), .val (.int lf), .val (.int (8 : Int32)), .val (.ref b28), .val (.ref b30), .val (.int (1 : Int32)), .val (.int (F11 b30 (nn.toInt32))), .unset] [(.ref b30)])) rfl (by rw [hml]; rfl) (Steps.refl _) (argsL := []) (rest := []) (lenOf pd_2 rfl) rfl (by show 2 * 0 + _ ≤ _; exact Nat.le_of_eq rfl) (hb hby at_277) (fun _ _ => ⟨rfl, e37, (by decide : 8 + 0 ≤ _), (by decide : 48 + 0 ≤ _)⟩)
          dsimp only [Pt.U, Pt.locs, Pt.cells, Pt.slots] at X39 l39 y39 z39 st39 hQ39
          subst l39 y39 z39
          obtain ⟨rfl, N39q, K39q, P39_0, P39_1, P39_2, P39_3, P39_4, P39_5⟩ := hQ39
          have N39 := Fr.app N37 N39q
          have hk39 := Nat.le_trans hk34 K39q.1
          have K39 : Keep h0 T39.heap [] := K34.trans K39q (allS (Or.inr sz_b30) all0)
          have O39 : Old Z n0 T39.heap := O34.keep K39q (allS g_b30 all0)
          refine OFin.tr st39 ?_
          have Rs40e : ((vpo (0 : Int32) (kv + 1)) + (8 : Int32)) = (kl + (8 : Int32)) := Int32.toInt_inj.mp (by have y := (own_e1 kl (8 : Int32) kv 8 hkl hk9 (by decide) (by decide)); have d := (own_vp 0 (kv + 1) (0 : Int32) (by decide) (by omega) (by omega)); have f := c_iadd (vpo (0 : Int32) (kv + 1)) (8 : Int32); have g := rng32 ((vpo (0 : Int32) (kv + 1)) + (8 : Int32)); rw [(by decide : (8 : Int32).toInt = 8)] at f; omega)
          have Rs40 : Fld Z T39.heap b30 "com/example/fillwire/fillwire/codec/ProtoReader" "position" "I" (.int (kl + (8 : Int32))) := (by have q := P39_2; rw [Rs40e] at q; exact q)
          refine OFin.st (fun t k => XS.aload X39.here hx rfl (hb hby at_280) rfl rfl k) ?_
          obtain ⟨cq41, kq41, q41a, q41b, q41c⟩ := isOf hZ rfl P39_0
          obtain ⟨_, _, ⟨T41, L41, k41, n41⟩, -, X41, ⟨Lc41, hQ41, l41, y41, z41⟩, st41⟩ := X39.virtualBack hx (y := (⟨"com/example/fillwire/fillwire/codec/ProtoReader", "next", "()Z"⟩ : MethodName)) (z := (⟨"com/example/fillwire/fillwire/codec/ProtoReader", "next", "()Z"⟩ : MethodName)) hown (mvT hZ (hw _ (List.mem_of_getElem? (i := 28) rfl))) (mvT hZ (hw _ (List.mem_of_getElem? (i := 29) rfl))) (notFace_of_selects (args := #[]) (mvT hZ (hw _ (List.mem_of_getElem? (i := 31) rfl)))) (mvT hZ (hw _ (List.mem_of_getElem? (i := 31) rfl))) (mvT hZ (hw _ (List.mem_of_getElem? (i := 30) rfl))) (by decide) (backOf (W := 0) (rm4e l Z a0 hw [] b30 (kl + (8 : Int32)) T39.heap n0 O39 P39_0 Rs40 P39_3) hZ (hw _ (List.mem_of_getElem? (i := 32) rfl)) (hw _ (List.mem_of_getElem? (i := 2) rfl)) (by decide) (by decide)) q41a q41c (g := (mkF m 282 #[.val (.int p0), .val (.int p1), .val (.int p2), .val (.int p3), .val (.ref b1), .val (.int (1 : Int32)), .val (.long nn), .second, .val (.int (1 : Int32)), .val (.long key), .second, .val (.int kl), .val (.long ek), .second, .val (.int el), .val (.int lf), .val (.int (8 : Int32)), .val (.ref b28), .val (.ref b30), .val (.int (1 : Int32)), .val (.int (F11 b30 (nn.toInt32))), .unset] [(.ref b30)])) rfl (by rw [hml]; rfl) (Steps.refl _) (argsL := []) (rest := []) (lenOf pd_3 rfl) rfl (by show 2 * 0 + _ ≤ _; exact Nat.le_of_eq rfl) (hb hby at_282) (fun _ _ => ⟨rfl, rfl, (by decide : 8 + 0 ≤ _), (by decide : 48 + 0 ≤ _)⟩)
          dsimp only [Pt.U, Pt.locs, Pt.cells, Pt.slots] at X41 l41 y41 z41 st41 hQ41
          subst l41 y41 z41
          obtain ⟨rfl, N41q, e41⟩ := hQ41
          have N41 := Fr.app N39 N41q
          refine OFin.tr st41 ?_
          show OFin p e below _ _ T41 (mkF m 285 #[.val (.int p0), .val (.int p1), .val (.int p2), .val (.int p3), .val (.ref b1), .val (.int (1 : Int32)), .val (.long nn), .second, .val (.int (1 : Int32)), .val (.long key), .second, .val (.int kl), .val (.long ek), .second, .val (.int el), .val (.int lf), .val (.int (8 : Int32)), .val (.ref b28), .val (.ref b30), .val (.int (1 : Int32)), .val (.int (F11 b30 (nn.toInt32))), .unset] [(.int (F4e b30 (kl + (8 : Int32))))])
          refine OFin.st (fun t k => XS.istore X41.here hx rfl (hb hby at_285) rfl (l' := #[.val (.int p0), .val (.int p1), .val (.int p2), .val (.int p3), .val (.ref b1), .val (.int (1 : Int32)), .val (.long nn), .second, .val (.int (1 : Int32)), .val (.long key), .second, .val (.int kl), .val (.long ek), .second, .val (.int el), .val (.int lf), .val (.int (8 : Int32)), .val (.ref b28), .val (.ref b30), .val (.int (1 : Int32)), .val (.int (F11 b30 (nn.toInt32))), .val (.int (F4e b30 (kl + (8 : Int32))))]) rfl k) ?_
          refine OFin.st (fun t k => XS.iload X41.here hx rfl (hb hby at_287) rfl k) ?_
          refine OFin.st (fun t k => XS.ifNo X41.here hx rfl (hb hby at_289) rfl ((if0 _ _).trans (feq (by decide : ¬ ((1 : Int32) = (0 : Int32)))).1) k) ?_
          show OFin p e below _ _ T41 (mkF m 292 #[.val (.int p0), .val (.int p1), .val (.int p2), .val (.int p3), .val (.ref b1), .val (.int (1 : Int32)), .val (.long nn), .second, .val (.int (1 : Int32)), .val (.long key), .second, .val (.int kl), .val (.long ek), .second, .val (.int el), .val (.int lf), .val (.int (8 : Int32)), .val (.ref b28), .val (.ref b30), .val (.int (1 : Int32)), .val (.int (F11 b30 (nn.toInt32))), .val (.int (F4e b30 (kl + (8 : Int32))))] [])
          refine OFin.st (fun t k => XS.iload X41.here hx rfl (hb hby at_292) rfl k) ?_
          refine OFin.st (fun t k => XS.ifNo X41.here hx rfl (hb hby at_294) rfl ((if0 _ _).trans (feq (by decide : ¬ ((1 : Int32) = (0 : Int32)))).1) k) ?_
          show OFin p e below _ _ T41 (mkF m 297 #[.val (.int p0), .val (.int p1), .val (.int p2), .val (.int p3), .val (.ref b1), .val (.int (1 : Int32)), .val (.long nn), .second, .val (.int (1 : Int32)), .val (.long key), .second, .val (.int kl), .val (.long ek), .second, .val (.int el), .val (.int lf), .val (.int (8 : Int32)), .val (.ref b28), .val (.ref b30), .val (.int (1 : Int32)), .val (.int (F11 b30 (nn.toInt32))), .val (.int (F4e b30 (kl + (8 : Int32))))] [])
          refine OFin.st (fun t k => XS.iload X41.here hx rfl (hb hby at_297) rfl k) ?_
          show OFin p e below _ _ T41 (mkF m 299 #[.val (.int p0), .val (.int p1), .val (.int p2), .val (.int p3), .val (.ref b1), .val (.int (1 : Int32)), .val (.long nn), .second, .val (.int (1 : Int32)), .val (.long key), .second, .val (.int kl), .val (.long ek), .second, .val (.int el), .val (.int lf), .val (.int (8 : Int32)), .val (.ref b28), .val (.ref b30), .val (.int (1 : Int32)), .val (.int (F11 b30 (nn.toInt32))), .val (.int (F4e b30 (kl + (8 : Int32))))] [(.int (F11 b30 (nn.toInt32)))])
          refine OFin.st (fun t k => XS.i2l X41.here hx rfl (hb hby at_299) rfl k) ?_
          refine OFin.st (fun t k => XS.lload X41.here hx rfl (hb hby at_300) rfl k) ?_
          refine OFin.st (fun t k => XS.lcmp X41.here hx rfl (hb hby at_302) rfl k) ?_
          refine OFin.st (fun t k => XS.ifNo X41.here hx rfl (hb hby at_303) rfl ((if0 _ _).trans (teq ((lw_eq ((F11 b30 (nn.toInt32)).toInt64) nn).mpr (own_n0 nn hn).2.2)).2) k) ?_
          show OFin p e below _ _ T41 (mkF m 306 #[.val (.int p0), .val (.int p1), .val (.int p2), .val (.int p3), .val (.ref b1), .val (.int (1 : Int32)), .val (.long nn), .second, .val (.int (1 : Int32)), .val (.long key), .second, .val (.int kl), .val (.long ek), .second, .val (.int el), .val (.int lf), .val (.int (8 : Int32)), .val (.ref b28), .val (.ref b30), .val (.int (1 : Int32)), .val (.int (F11 b30 (nn.toInt32))), .val (.int (F4e b30 (kl + (8 : Int32))))] [])
          refine OFin.st (fun t k => XS.iload X41.here hx rfl (hb hby at_306) rfl k) ?_
          show OFin p e below _ _ T41 (mkF m 308 #[.val (.int p0), .val (.int p1), .val (.int p2), .val (.int p3), .val (.ref b1), .val (.int (1 : Int32)), .val (.long nn), .second, .val (.int (1 : Int32)), .val (.long key), .second, .val (.int kl), .val (.long ek), .second, .val (.int el), .val (.int lf), .val (.int (8 : Int32)), .val (.ref b28), .val (.ref b30), .val (.int (1 : Int32)), .val (.int (F11 b30 (nn.toInt32))), .val (.int (F4e b30 (kl + (8 : Int32))))] [(.int (F4e b30 (kl + (8 : Int32))))])
          refine OFin.st (fun t k => XS.ifNo X41.here hx rfl (hb hby at_308) rfl ((if0 _ _).trans (teq rfl).2) k) ?_
          show OFin p e below _ _ T41 (mkF m 311 #[.val (.int p0), .val (.int p1), .val (.int p2), .val (.int p3), .val (.ref b1), .val (.int (1 : Int32)), .val (.long nn), .second, .val (.int (1 : Int32)), .val (.long key), .second, .val (.int kl), .val (.long ek), .second, .val (.int el), .val (.int lf), .val (.int (8 : Int32)), .val (.ref b28), .val (.ref b30), .val (.int (1 : Int32)), .val (.int (F11 b30 (nn.toInt32))), .val (.int (F4e b30 (kl + (8 : Int32))))] [])
          refine OFin.st (fun t k => XS.iconst X41.here hx rfl (hb hby at_311) k) ?_
          refine OFin.st (fun t k => XS.goto X41.here hx rfl (pc0 := 312) (pc' := 316) rfl (hb hby at_312) (by decide) (by decide) k) ?_
          exact own_retN X41 hx Bd.returns Bd.notSynchronized (t := .boolean) (by simp) rfl (hb hby at_316) (by show Qrm0 Z p0 p1 p2 p3 kW vW w_WIRE_TYPES h0 n0 _ T41.heap _; rw [e41]; exact ⟨rfl, N41, K39⟩) (own_endW hS32 (by rw [e41]; exact hk39) (by decide) (by decide))
        · show OFin p e below _ _ T11 (mkF m 128 #[.val (.int p0), .val (.int p1), .val (.int p2), .val (.int p3), .val (.ref b1), .val (.int (1 : Int32)), .val (.long nn), .second, .val (.int (2 : Int32)), .val (.long key), .second, .val (.int kl), .val (.long ek), .second, .val (.int el), .val (.int lf), .unset, .unset, .unset, .unset, .unset, .unset] [])
          refine OFin.st (fun t k => XS.iload X11.here hx rfl (hb hby at_128) rfl k) ?_
          refine OFin.st (fun t k => XS.ifYes X11.here hx rfl (pc0 := 130) (pc' := 139) rfl (hb hby at_130) rfl ((if0 _ _).trans (feq (by decide : ¬ ((2 : Int32) = (0 : Int32)))).2) (by decide) (by decide) k) ?_
          show OFin p e below _ _ T11 (mkF m 139 #[.val (.int p0), .val (.int p1), .val (.int p2), .val (.int p3), .val (.ref b1), .val (.int (1 : Int32)), .val (.long nn), .second, .val (.int (2 : Int32)), .val (.long key), .second, .val (.int kl), .val (.long ek), .second, .val (.int el), .val (.int lf), .unset, .unset, .unset, .unset, .unset, .unset] [])
          refine OFin.st (fun t k => XS.iload X11.here hx rfl (hb hby at_139) rfl k) ?_
          show OFin p e below _ _ T11 (mkF m 141 #[.val (.int p0), .val (.int p1), .val (.int p2), .val (.int p3), .val (.ref b1), .val (.int (1 : Int32)), .val (.long nn), .second, .val (.int (2 : Int32)), .val (.long key), .second, .val (.int kl), .val (.long ek), .second, .val (.int el), .val (.int lf), .unset, .unset, .unset, .unset, .unset, .unset] [(.int (2 : Int32))])
          refine OFin.st (fun t k => XS.iconst X11.here hx rfl (hb hby at_141) k) ?_
          refine OFin.st (fun t k => XS.icmpYes X11.here hx rfl (pc0 := 142) (pc' := 152) rfl (hb hby at_142) rfl (feq (by decide : ¬ ((2 : Int32) = (1 : Int32)))).2 (by decide) (by decide) k) ?_
          show OFin p e below _ _ T11 (mkF m 152 #[.val (.int p0), .val (.int p1), .val (.int p2), .val (.int p3), .val (.ref b1), .val (.int (1 : Int32)), .val (.long nn), .second, .val (.int (2 : Int32)), .val (.long key), .second, .val (.int kl), .val (.long ek), .second, .val (.int el), .val (.int lf), .unset, .unset, .unset, .unset, .unset, .unset] [])
          refine OFin.st (fun t k => XS.iload X11.here hx rfl (hb hby at_152) rfl k) ?_
          refine OFin.st (fun t k => XS.iconst X11.here hx rfl (hb hby at_154) k) ?_
          refine OFin.st (fun t k => XS.icmpNo X11.here hx rfl (hb hby at_155) rfl (teq (by decide : (2 : Int32) = (2 : Int32))).2 k) ?_
          show OFin p e below _ _ T11 (mkF m 158 #[.val (.int p0), .val (.int p1), .val (.int p2), .val (.int p3), .val (.ref b1), .val (.int (1 : Int32)), .val (.long nn), .second, .val (.int (2 : Int32)), .val (.long key), .second, .val (.int kl), .val (.long ek), .second, .val (.int el), .val (.int lf), .unset, .unset, .unset, .unset, .unset, .unset] [])
          refine OFin.st (fun t k => XS.iconst X11.here hx rfl (hb hby at_158) k) ?_
          show OFin p e below _ _ T11 (mkF m 159 #[.val (.int p0), .val (.int p1), .val (.int p2), .val (.int p3), .val (.ref b1), .val (.int (1 : Int32)), .val (.long nn), .second, .val (.int (2 : Int32)), .val (.long key), .second, .val (.int kl), .val (.long ek), .second, .val (.int el), .val (.int lf), .unset, .unset, .unset, .unset, .unset, .unset] [(.int (1 : Int32))])
          refine OFin.st (fun t k => XS.iload X11.here hx rfl (hb hby at_159) rfl k) ?_
          refine OFin.st (fun t k => XS.iadd X11.here hx rfl (hb hby at_161) rfl k) ?_
          refine OFin.st (fun t k => XS.istore X11.here hx rfl (hb hby at_162) rfl (l' := #[.val (.int p0), .val (.int p1), .val (.int p2), .val (.int p3), .val (.ref b1), .val (.int (1 : Int32)), .val (.long nn), .second, .val (.int (2 : Int32)), .val (.long key), .second, .val (.int kl), .val (.long ek), .second, .val (.int el), .val (.int lf), .val (.int ((1 : Int32) + lf)), .unset, .unset, .unset, .unset, .unset]) rfl k) ?_
          refine OFin.st (fun t k => XS.goto X11.here hx rfl (pc0 := 164) (pc' := 183) rfl (hb hby at_164) (by decide) (by decide) k) ?_
          show OFin p e below _ _ T11 (mkF m 183 #[.val (.int p0), .val (.int p1), .val (.int p2), .val (.int p3), .val (.ref b1), .val (.int (1 : Int32)), .val (.long nn), .second, .val (.int (2 : Int32)), .val (.long key), .second, .val (.int kl), .val (.long ek), .second, .val (.int el), .val (.int lf), .val (.int ((1 : Int32) + lf)), .unset, .unset, .unset, .unset, .unset] [])
          refine OFin.st (fun t k => XS.iload X11.here hx rfl (hb hby at_183) rfl k) ?_
          refine OFin.st (fun t k => XS.iload X11.here hx rfl (hb hby at_185) rfl k) ?_
          refine OFin.st (fun t k => XS.iadd X11.here hx rfl (hb hby at_187) rfl k) ?_
          obtain ⟨T42, h42, k42, X42, e42, E42, A42, st42⟩ := own_newP X11 hx hZ (hw _ (List.mem_of_getElem? (i := 3) rfl)) e11 (z := (kl + ((1 : Int32) + lf))) (n := (kv + 1 + (1 + lf.toInt.toNat))) (cap := 20) (own_e1 kl ((1 : Int32) + lf) kv (1 + lf.toInt.toNat) hkl hk9 (own_1lf lf hlf) (by have := own_lf lf hlf; omega)) (by have := own_lf lf hlf; omega) (by decide) (by decide) (by decide) (pc := 188) (Ls := #[.val (.int p0), .val (.int p1), .val (.int p2), .val (.int p3), .val (.ref b1), .val (.int (1 : Int32)), .val (.long nn), .second, .val (.int (2 : Int32)), .val (.long key), .second, .val (.int kl), .val (.long ek), .second, .val (.int el), .val (.int lf), .val (.int ((1 : Int32) + lf)), .unset, .unset, .unset, .unset, .unset]) (rest := []) (hb hby at_188)
          obtain ⟨b42, gz_b42⟩ : ∃ z, z = T4.heap.size := ⟨_, rfl⟩
          rw [← gz_b42] at A42 st42
          have N_b1_b42 : b1 ≠ b42 := Nat.ne_of_lt (Nat.lt_of_lt_of_le P4_0.lt (Nat.le_of_eq gz_b42.symm))
          have N_b2_b42 : b2 ≠ b42 := Nat.ne_of_lt (Nat.lt_of_lt_of_le ((V2.ext E3).keep K4q (ninS (Ne.symm N_b1_b2) nin0)).lt (Nat.le_of_eq gz_b42.symm))
          have g_b42 : n0 ≤ b42 := Nat.le_trans (Nat.le_trans (Nat.le_of_eq O4.1.symm) O4.2.1) (Nat.le_of_eq gz_b42.symm)
          have sz_b42 : h0.size ≤ b42 := Nat.le_trans K4.1 (Nat.le_of_eq gz_b42.symm)
          have hk42 := Nat.le_trans hk4 E42.1
          have K42 : Keep h0 h42 [] := K4.ext E42
          have O42 : Old Z n0 h42 := O4.ext E42
          have V42 : Oar Z h42 b42 k42 .byte (List.replicate (kv + 1 + (1 + lf.toInt.toNat)) (.int (0 : Int32))) := A42
          refine OFin.st st42 ?_
          show OFin p e below _ _ T42 (mkF m 190 #[.val (.int p0), .val (.int p1), .val (.int p2), .val (.int p3), .val (.ref b1), .val (.int (1 : Int32)), .val (.long nn), .second, .val (.int (2 : Int32)), .val (.long key), .second, .val (.int kl), .val (.long ek), .second, .val (.int el), .val (.int lf), .val (.int ((1 : Int32) + lf)), .unset, .unset, .unset, .unset, .unset] [(.ref b42)])
          refine OFin.st (fun t k => XS.astore X42.here hx rfl (hb hby at_190) rfl rfl (l' := #[.val (.int p0), .val (.int p1), .val (.int p2), .val (.int p3), .val (.ref b1), .val (.int (1 : Int32)), .val (.long nn), .second, .val (.int (2 : Int32)), .val (.long key), .second, .val (.int kl), .val (.long ek), .second, .val (.int el), .val (.int lf), .val (.int ((1 : Int32) + lf)), .val (.ref b42), .unset, .unset, .unset, .unset]) rfl k) ?_
          refine OFin.st (fun t k => XS.aload X42.here hx rfl (hb hby at_192) rfl rfl k) ?_
          refine OFin.st (fun t k => XS.iconst X42.here hx rfl (hb hby at_194) k) ?_
          refine OFin.st (fun t k => XS.lload X42.here hx rfl (hb hby at_195) rfl k) ?_
          show OFin p e below _ _ T42 (mkF m 197 #[.val (.int p0), .val (.int p1), .val (.int p2), .val (.int p3), .val (.ref b1), .val (.int (1 : Int32)), .val (.long nn), .second, .val (.int (2 : Int32)), .val (.long key), .second, .val (.int kl), .val (.long ek), .second, .val (.int el), .val (.int lf), .val (.int ((1 : Int32) + lf)), .val (.ref b42), .unset, .unset, .unset, .unset] [(.long key), (.int (0 : Int32)), (.ref b42)])
          refine OFin.st (fun t k => XS.iload X42.here hx rfl (hb hby at_197) rfl k) ?_
          obtain ⟨_, _, ⟨T43, L43, k43, n43⟩, -, X43, ⟨Lc43, hQ43, l43, y43, z43⟩, st43⟩ := Jvm.LawKit.callS X42 hx (y := (⟨"com/example/fillwire/fillwire/codec/ProtoReaderNextPinLaw", "put", "([BIJI)V"⟩ : MethodName)) hown (mvT hZ (hw _ (List.mem_of_getElem? (i := 45) rfl))) (mvT hZ (hw _ (List.mem_of_getElem? (i := 46) rfl))) (mvT hZ (hw _ (List.mem_of_getElem? (i := 37) rfl))) (mvT hZ (hw _ (List.mem_of_getElem? (i := 47) rfl))) (by decide) (backOf (W := 0) (rm7 l Z a0 hw [] b42 (0 : Int32) key kl k42 (List.replicate (kv + 1 + (1 + lf.toInt.toNat)) (.int (0 : Int32))) 0 (kv + 1) h42 n0 O42 V42 g_b42 (by decide) (by omega) (by omega) (by omega) (by rw [List.length_replicate]; omega) (by rw [List.length_replicate]; have := own_lf lf hlf; omega)) hZ (hw _ (List.mem_of_getElem? (i := 47) rfl)) (hw _ (List.mem_of_getElem? (i := 37) rfl)) (by decide) (by decide)) (g := (mkF m 199 #[.val (.int p0), .val (.int p1), .val (.int p2), .val (.int p3), .val (.ref b1), .val (.int (1 : Int32)), .val (.long nn), .second, .val (.int (2 : Int32)), .val (.long key), .second, .val (.int kl), .val (.long ek), .second, .val (.int el), .val (.int lf), .val (.int ((1 : Int32) + lf)), .val (.ref b42), .unset, .unset, .unset, .unset] [(.int kl), (.long key), (.int (0 : Int32)), (.ref b42)])) rfl (by rw [hml]; rfl) (argsL := [(.ref b42), (.int (0 : Int32)), (.long key), (.int kl)]) (rest := []) (lenOf pd_9 rfl) rfl (by show 2 * 0 + _ ≤ _; exact Nat.le_of_eq rfl) (hb hby at_199) (fun _ _ => ⟨rfl, e42, (by decide : 5 + 0 ≤ _), (by decide : 34 + 0 ≤ _)⟩)
          dsimp only [Pt.U, Pt.locs, Pt.cells, Pt.slots] at X43 l43 y43 z43 st43 hQ43
          subst l43 y43 z43
          obtain ⟨rfl, N43q, K43q, P43_0⟩ := hQ43
          have N43 := Fr.app N11 N43q
          have hk43 := Nat.le_trans hk42 K43q.1
          have K43 : Keep h0 T43.heap [] := K42.trans K43q (allS (Or.inr sz_b42) all0)
          have O43 : Old Z n0 T43.heap := O42.keep K43q (allS g_b42 all0)
          refine OFin.st st43 ?_
          refine OFin.st (fun t k => XS.iload X43.here hx rfl (hb hby at_202) rfl k) ?_
          refine OFin.st (fun t k => XS.ifYes X43.here hx rfl (pc0 := 204) (pc' := 217) rfl (hb hby at_204) rfl ((if0 _ _).trans (feq (by decide : ¬ ((2 : Int32) = (0 : Int32)))).2) (by decide) (by decide) k) ?_
          show OFin p e below _ _ T43 (mkF m 217 #[.val (.int p0), .val (.int p1), .val (.int p2), .val (.int p3), .val (.ref b1), .val (.int (1 : Int32)), .val (.long nn), .second, .val (.int (2 : Int32)), .val (.long key), .second, .val (.int kl), .val (.long ek), .second, .val (.int el), .val (.int lf), .val (.int ((1 : Int32) + lf)), .val (.ref b42), .unset, .unset, .unset, .unset] [])
          refine OFin.st (fun t k => XS.iload X43.here hx rfl (hb hby at_217) rfl k) ?_
          show OFin p e below _ _ T43 (mkF m 219 #[.val (.int p0), .val (.int p1), .val (.int p2), .val (.int p3), .val (.ref b1), .val (.int (1 : Int32)), .val (.long nn), .second, .val (.int (2 : Int32)), .val (.long key), .second, .val (.int kl), .val (.long ek), .second, .val (.int el), .val (.int lf), .val (.int ((1 : Int32) + lf)), .val (.ref b42), .unset, .unset, .unset, .unset] [(.int (2 : Int32))])
          refine OFin.st (fun t k => XS.iconst X43.here hx rfl (hb hby at_219) k) ?_
          refine OFin.st (fun t k => XS.icmpNo X43.here hx rfl (hb hby at_220) rfl (teq (by decide : (2 : Int32) = (2 : Int32))).2 k) ?_
          show OFin p e below _ _ T43 (mkF m 223 #[.val (.int p0), .val (.int p1), .val (.int p2), .val (.int p3), .val (.ref b1), .val (.int (1 : Int32)), .val (.long nn), .second, .val (.int (2 : Int32)), .val (.long key), .second, .val (.int kl), .val (.long ek), .second, .val (.int el), .val (.int lf), .val (.int ((1 : Int32) + lf)), .val (.ref b42), .unset, .unset, .unset, .unset] [])
          refine OFin.st (fun t k => XS.aload X43.here hx rfl (hb hby at_223) rfl rfl k) ?_
          refine OFin.st (fun t k => XS.iload X43.here hx rfl (hb hby at_225) rfl k) ?_
          refine OFin.st (fun t k => XS.iload X43.here hx rfl (hb hby at_227) rfl k) ?_
          show OFin p e below _ _ T43 (mkF m 229 #[.val (.int p0), .val (.int p1), .val (.int p2), .val (.int p3), .val (.ref b1), .val (.int (1 : Int32)), .val (.long nn), .second, .val (.int (2 : Int32)), .val (.long key), .second, .val (.int kl), .val (.long ek), .second, .val (.int el), .val (.int lf), .val (.int ((1 : Int32) + lf)), .val (.ref b42), .unset, .unset, .unset, .unset] [(.int lf), (.int kl), (.ref b42)])
          refine OFin.st (fun t k => XS.i2b X43.here hx rfl (hb hby at_229) rfl k) ?_
          obtain ⟨T44, h44, X44, e44, W44, V44, st44⟩ := own_bastore X43 hx hZ rfl P43_0 (i := (kv + 1)) (j := kl) (by omega) (by simp only [pN_len, List.length_replicate]; omega) (x := (lf.toInt8.toInt32)) (y := (lf.toInt8.toInt32)) (own_nb _) (pc := 230) (Ls := #[.val (.int p0), .val (.int p1), .val (.int p2), .val (.int p3), .val (.ref b1), .val (.int (1 : Int32)), .val (.long nn), .second, .val (.int (2 : Int32)), .val (.long key), .second, .val (.int kl), .val (.long ek), .second, .val (.int el), .val (.int lf), .val (.int ((1 : Int32) + lf)), .val (.ref b42), .unset, .unset, .unset, .unset]) (rest := []) (hb hby at_230)
          have N44 := Fr.snoc X44 N43 g_b42
          have hk44 := Nat.le_trans hk43 (Nat.le_of_eq W44.size.symm)
          have K44 : Keep h0 h44 [] := K43.wr W44 (Or.inr sz_b42)
          have O44 : Old Z n0 h44 := O43.wr W44 g_b42
          refine OFin.st st44 ?_
          refine OFin.st (fun t k => XS.iload X44.here hx rfl (hb hby at_231) rfl k) ?_
          refine OFin.st (fun t k => XS.iconst X44.here hx rfl (hb hby at_233) k) ?_
          show OFin p e below _ _ T44 (mkF m 234 #[.val (.int p0), .val (.int p1), .val (.int p2), .val (.int p3), .val (.ref b1), .val (.int (1 : Int32)), .val (.long nn), .second, .val (.int (2 : Int32)), .val (.long key), .second, .val (.int kl), .val (.long ek), .second, .val (.int el), .val (.int lf), .val (.int ((1 : Int32) + lf)), .val (.ref b42), .unset, .unset, .unset, .unset] [(.int (3 : Int32)), (.int (2 : Int32))])
          refine OFin.st (fun t k => XS.icmpYes X44.here hx rfl (pc0 := 234) (pc' := 248) rfl (hb hby at_234) rfl (feq (by decide : ¬ ((2 : Int32) = (3 : Int32)))).2 (by decide) (by decide) k) ?_
          show OFin p e below _ _ T44 (mkF m 248 #[.val (.int p0), .val (.int p1), .val (.int p2), .val (.int p3), .val (.ref b1), .val (.int (1 : Int32)), .val (.long nn), .second, .val (.int (2 : Int32)), .val (.long key), .second, .val (.int kl), .val (.long ek), .second, .val (.int el), .val (.int lf), .val (.int ((1 : Int32) + lf)), .val (.ref b42), .unset, .unset, .unset, .unset] [])
          obtain ⟨T45, h45, X45, e45, E45, A45, D45, -, st45⟩ := newO X44 hx hZ hown (hw _ (List.mem_of_getElem? (i := 0) rfl)) (hw _ (List.mem_of_getElem? (i := 1) rfl)) (hw _ (List.mem_of_getElem? (i := 2) rfl)) e44 (g := (mkF m 248 #[.val (.int p0), .val (.int p1), .val (.int p2), .val (.int p3), .val (.ref b1), .val (.int (1 : Int32)), .val (.long nn), .second, .val (.int (2 : Int32)), .val (.long key), .second, .val (.int kl), .val (.long ek), .second, .val (.int el), .val (.int lf), .val (.int ((1 : Int32) + lf)), .val (.ref b42), .unset, .unset, .unset, .unset] [])) rfl (hb hby at_248) (by decide) (by decide)
          obtain ⟨b45, gz_b45⟩ : ∃ z, z = h44.size := ⟨_, rfl⟩
          rw [← gz_b45] at A45 D45 st45
          have N_b1_b45 : b1 ≠ b45 := Nat.ne_of_lt (Nat.lt_of_lt_of_le (((P4_0.ext E42).keep K43q).wr W44).lt (Nat.le_of_eq gz_b45.symm))
          have c46 := (((((V2.ext E3).keep K4q (ninS (Ne.symm N_b1_b2) nin0)).ext E42).keep K43q (ninS N_b2_b42 nin0)).other W44 N_b2_b42)
          have N_b2_b45 : b2 ≠ b45 := Nat.ne_of_lt (Nat.lt_of_lt_of_le c46.lt (Nat.le_of_eq gz_b45.symm))
          have N_b42_b45 : b42 ≠ b45 := Nat.ne_of_lt (Nat.lt_of_lt_of_le V44.lt (Nat.le_of_eq gz_b45.symm))
          have g_b45 : n0 ≤ b45 := Nat.le_trans (Nat.le_trans (Nat.le_of_eq O44.1.symm) O44.2.1) (Nat.le_of_eq gz_b45.symm)
          have sz_b45 : h0.size ≤ b45 := Nat.le_trans K44.1 (Nat.le_of_eq gz_b45.symm)
          have hk45 := Nat.le_trans hk44 E45.1
          have K45 : Keep h0 h45 [] := K44.ext E45
          have O45 : Old Z n0 h45 := O44.ext E45
          have F_bytes_b45 : Fld Z h45 b45 "com/example/fillwire/fillwire/codec/ProtoReader" "bytes" "[B" .null := D45 (Or.inr (hw _ (List.mem_of_getElem? (i := 21) rfl))) (ty := (.array .byte)) (by decide)
          have F_position_b45 : Fld Z h45 b45 "com/example/fillwire/fillwire/codec/ProtoReader" "position" "I" (.int (0 : Int32)) := D45 (Or.inl (hw _ (List.mem_of_getElem? (i := 23) rfl))) (ty := .int) (by decide)
          have F_end_b45 : Fld Z h45 b45 "com/example/fillwire/fillwire/codec/ProtoReader" "end" "I" (.int (0 : Int32)) := D45 (Or.inr (hw _ (List.mem_of_getElem? (i := 25) rfl))) (ty := .int) (by decide)
          have F_name_b45 : Fld Z h45 b45 "com/example/fillwire/fillwire/codec/ProtoReader" "name" "Ljava/lang/String;" .null := D45 (Or.inr (hw _ (List.mem_of_getElem? (i := 27) rfl))) (ty := (.object "java/lang/String")) (by decide)
          have F_field_b45 : Fld Z h45 b45 "com/example/fillwire/fillwire/codec/ProtoReader" "field" "I" (.int (0 : Int32)) := D45 (Or.inl (hw _ (List.mem_of_getElem? (i := 57) rfl))) (ty := .int) (by decide)
          have F_wireType_b45 : Fld Z h45 b45 "com/example/fillwire/fillwire/codec/ProtoReader" "wireType" "I" (.int (0 : Int32)) := D45 (Or.inl (hw _ (List.mem_of_getElem? (i := 64) rfl))) (ty := .int) (by decide)
          refine OFin.st st45 ?_
          refine OFin.st (fun t k => XS.dup X45.here hx rfl (hb hby at_251) rfl rfl k) ?_
          refine OFin.st (fun t k => XS.aload X45.here hx rfl (hb hby at_252) rfl rfl k) ?_
          have wS47 : ∀ a ∈ Bundle.stringAtoms, a.before a0 Z = true := by
            intro a ha
            simp only [Bundle.stringAtoms, List.mem_cons, List.not_mem_nil, or_false] at ha
            rcases ha with rfl | rfl | rfl | rfl | rfl | rfl | rfl
            · exact (hw _ (List.mem_of_getElem? (i := 5) rfl))
            · exact (hw _ (List.mem_of_getElem? (i := 6) rfl))
            · exact (hw _ (List.mem_of_getElem? (i := 3) rfl))
            · exact (hw _ (List.mem_of_getElem? (i := 7) rfl))
            · exact (hw _ (List.mem_of_getElem? (i := 8) rfl))
            · exact (hw _ (List.mem_of_getElem? (i := 9) rfl))
            · exact (hw _ (List.mem_of_getElem? (i := 10) rfl))
          obtain ⟨a47, T47, h47, kz47, X47, e47, E47, hS47, hkq47, hZ, hown, st47⟩ := ldcS X45 hx hZ hown (hw _ (List.mem_of_getElem? (i := 4) rfl)) wS47 e45 hS3 hk45 (g := (mkF m 254 #[.val (.int p0), .val (.int p1), .val (.int p2), .val (.int p3), .val (.ref b1), .val (.int (1 : Int32)), .val (.long nn), .second, .val (.int (2 : Int32)), .val (.long key), .second, .val (.int kl), .val (.long ek), .second, .val (.int el), .val (.int lf), .val (.int ((1 : Int32) + lf)), .val (.ref b42), .unset, .unset, .unset, .unset] [(.ref b42), (.ref b45), (.ref b45)])) rfl (hb hby at_254) (n := 4) (by decide) (by decide) (by decide) (by decide)
          refine OFin.st st47 ?_
          have hk47 := Nat.le_trans hk45 E47.1
          have K47 : Keep h0 h47 [] := K45.ext E47
          have O47 : Old Z n0 h47 := O45.ext E47
          have hk47 := hkq47
          show OFin p e below _ _ T47 (mkF m 256 #[.val (.int p0), .val (.int p1), .val (.int p2), .val (.int p3), .val (.ref b1), .val (.int (1 : Int32)), .val (.long nn), .second, .val (.int (2 : Int32)), .val (.long key), .second, .val (.int kl), .val (.long ek), .second, .val (.int el), .val (.int lf), .val (.int ((1 : Int32) + lf)), .val (.ref b42), .unset, .unset, .unset, .unset] [(.ref a47), (.ref b42), (.ref b45), (.ref b45)])
          obtain ⟨_, _, ⟨T48, L48, k48, n48⟩, -, X48, ⟨Lc48, hQ48, l48, y48, z48⟩, st48⟩ := X47.specialBack hx (y := (⟨"com/example/fillwire/fillwire/codec/ProtoReader", "<init>", "([BLjava/lang/String;)V"⟩ : MethodName)) rfl hown (mvT hZ (hw _ (List.mem_of_getElem? (i := 11) rfl))) (mvT hZ (hw _ (List.mem_of_getElem? (i := 12) rfl))) (mvT hZ (hw _ (List.mem_of_getElem? (i := 13) rfl))) (by decide) (backOf (W := 1) (rm1 l Z a0 hw [] b45 b42 a47 .null (.int (0 : Int32)) (.int (0 : Int32)) .null (0 : Int32) (0 : Int32) k42 ((pN (List.replicate (kv + 1 + (1 + lf.toInt.toNat)) (.int (0 : Int32))) 0 (gf key kl) (kv + 1)).set (kv + 1) (.int (lf.toInt8.toInt32))) (kl + ((1 : Int32) + lf)) h47 n0 O47 (A45.ext E47) (F_bytes_b45.ext E47) (F_position_b45.ext E47) (F_end_b45.ext E47) (F_name_b45.ext E47) (F_field_b45.ext E47) (F_wireType_b45.ext E47) g_b45 ((V44.ext E45).ext E47) (by simp only [pN_len, List.length_set, List.length_replicate]; exact (own_e1 kl ((1 : Int32) + lf) kv (1 + lf.toInt.toNat) hkl hk9 (own_1lf lf hlf) (by have := own_lf lf hlf; omega)))) hZ (hw _ (List.mem_of_getElem? (i := 13) rfl)) (hw _ (List.mem_of_getElem? (i := 2) rfl)) (by decide) (by decide)) (g := (mkF m 256 #[.val (.int p0), .val (.int p1), .val (.int p2), .val (.int p3), .val (.ref b1), .val (.int (1 : Int32)), .val (.long nn), .second, .val (.int (2 : Int32)), .val (.long key), .second, .val (.int kl), .val (.long ek), .second, .val (.int el), .val (.int lf), .val (.int ((1 : Int32) + lf)), .val (.ref b42), .unset, .unset, .unset, .unset] [(.ref a47), (.ref b42), (.ref b45), (.ref b45)])) rfl (by rw [hml]; rfl) (Steps.refl _) (a := b45) (argsL := [(.ref b42), (.ref a47)]) (rest := [(.ref b45)]) (lenOf pd_10 rfl) rfl (by show 2 * 0 + _ ≤ _; exact Nat.le_of_eq rfl) (hb hby at_256) (fun _ _ => ⟨rfl, e47, (by decide : 8 + 0 ≤ _), (by decide : 48 + 0 ≤ _)⟩)
          dsimp only [Pt.U, Pt.locs, Pt.cells, Pt.slots] at X48 l48 y48 z48 st48 hQ48
          subst l48 y48 z48
          obtain ⟨rfl, N48q, K48q, P48_0, P48_1, P48_2, P48_3, P48_4, P48_5⟩ := hQ48
          have N48 := Fr.app N44 N48q
          have hk48 := Nat.le_trans hk47 K48q.1
          have K48 : Keep h0 T48.heap [] := K47.trans K48q (allS (Or.inr sz_b45) all0)
          have O48 : Old Z n0 T48.heap := O47.keep K48q (allS g_b45 all0)
          refine OFin.tr st48 ?_
          refine OFin.st (fun t k => XS.astore X48.here hx rfl (hb hby at_259) rfl rfl (l' := #[.val (.int p0), .val (.int p1), .val (.int p2), .val (.int p3), .val (.ref b1), .val (.int (1 : Int32)), .val (.long nn), .second, .val (.int (2 : Int32)), .val (.long key), .second, .val (.int kl), .val (.long ek), .second, .val (.int el), .val (.int lf), .val (.int ((1 : Int32) + lf)), .val (.ref b42), .val (.ref b45), .unset, .unset, .unset]) rfl k) ?_
          refine OFin.st (fun t k => XS.aload X48.here hx rfl (hb hby at_261) rfl rfl k) ?_
          obtain ⟨cq49, kq49, q49a, q49b, q49c⟩ := isOf hZ rfl P48_0
          obtain ⟨_, _, ⟨T49, L49, k49, n49⟩, -, X49, ⟨Lc49, hQ49, l49, y49, z49⟩, st49⟩ := X48.virtualBack hx (y := (⟨"com/example/fillwire/fillwire/codec/ProtoReader", "next", "()Z"⟩ : MethodName)) (z := (⟨"com/example/fillwire/fillwire/codec/ProtoReader", "next", "()Z"⟩ : MethodName)) hown (mvT hZ (hw _ (List.mem_of_getElem? (i := 28) rfl))) (mvT hZ (hw _ (List.mem_of_getElem? (i := 29) rfl))) (notFace_of_selects (args := #[]) (mvT hZ (hw _ (List.mem_of_getElem? (i := 31) rfl)))) (mvT hZ (hw _ (List.mem_of_getElem? (i := 31) rfl))) (mvT hZ (hw _ (List.mem_of_getElem? (i := 30) rfl))) (by decide) (backOf (W := 0) (rm4k l Z a0 hw [] b45 b42 (0 : Int32) (kl + ((1 : Int32) + lf)) (0 : Int32) (0 : Int32) k42 ((pN (List.replicate (kv + 1 + (1 + lf.toInt.toNat)) (.int (0 : Int32))) 0 (gf key kl) (kv + 1)).set (kv + 1) (.int (lf.toInt8.toInt32))) (gf key kl) kv kW vW w_WIRE_TYPES T48.heap n0 O48 P48_0 P48_1 P48_2 P48_3 P48_4 P48_5 (((V44.ext E45).ext E47).keep K48q (ninS N_b42_b45 nin0)) g_b45 N_b42_b45 hk9 (own_gcn key kv kl hkl hk9) (own_gln key kv kl hkl hk9) (own_g9 key kv kl hkl hk9) (by decide) (by decide) (fun i hi => by rw [(by decide : (0 : Int32).toInt.toNat = 0)]; exact (by rw [List.getElem?_set_ne (by omega)]; exact pN_in _ 0 _ _ i (by omega) (by rw [List.length_replicate]; omega))) (fun i hi => own_ne _ _ 0 (kv + 1 + (1 + lf.toInt.toNat)) i (by decide) (own_e1 kl ((1 : Int32) + lf) kv (1 + lf.toInt.toNat) hkl hk9 (own_1lf lf hlf) (by have := own_lf lf hlf; omega)) (by omega) (by omega) (by have := own_lf lf hlf; omega)) (by rw [own_key key kv kl hkl hk9 hk0 hkb, (own_num key nn 2 hkey (by decide) hn).1]; exact (own_n0 nn hn).1) (by rw [own_key key kv kl hkl hk9 hk0 hkb, (own_num key nn 2 hkey (by decide) hn).1]; exact (own_n0 nn hn).2.1) (by rw [own_key key kv kl hkl hk9 hk0 hkb, Int32.lt_iff_toInt_lt, (own_num key nn 2 hkey (by decide) hn).2]; decide) hW6 (by rw [own_key key kv kl hkl hk9 hk0 hkb]; intro q; have z := (own_num key nn 2 hkey (by decide) hn).2; rw [q] at z; exact absurd z (by decide)) A_w_WIRE_TYPES S_WIRE_TYPES) hZ (hw _ (List.mem_of_getElem? (i := 32) rfl)) (hw _ (List.mem_of_getElem? (i := 2) rfl)) (by decide) (by decide)) q49a q49c (g := (mkF m 263 #[.val (.int p0), .val (.int p1), .val (.int p2), .val (.int p3), .val (.ref b1), .val (.int (1 : Int32)), .val (.long nn), .second, .val (.int (2 : Int32)), .val (.long key), .second, .val (.int kl), .val (.long ek), .second, .val (.int el), .val (.int lf), .val (.int ((1 : Int32) + lf)), .val (.ref b42), .val (.ref b45), .unset, .unset, .unset] [(.ref b45)])) rfl (by rw [hml]; rfl) (Steps.refl _) (argsL := []) (rest := []) (lenOf pd_3 rfl) rfl (by show 2 * 0 + _ ≤ _; exact Nat.le_of_eq rfl) (hb hby at_263) (fun _ _ => ⟨rfl, rfl, (by decide : 8 + 0 ≤ _), (by decide : 48 + 0 ≤ _)⟩)
          dsimp only [Pt.U, Pt.locs, Pt.cells, Pt.slots] at X49 l49 y49 z49 st49 hQ49
          subst l49 y49 z49
          obtain ⟨rfl, N49q, K49q, P49_0, P49_1, P49_2, P49_3, P49_4, P49_5⟩ := hQ49
          have N49 := Fr.app N48 N49q
          have hk49 := Nat.le_trans hk48 K49q.1
          have K49 : Keep h0 T49.heap [] := K48.trans K49q (allS (Or.inr sz_b45) all0)
          have O49 : Old Z n0 T49.heap := O48.keep K49q (allS g_b45 all0)
          refine OFin.tr st49 ?_
          have Rs50 : Fld Z T49.heap b45 "com/example/fillwire/fillwire/codec/ProtoReader" "field" "I" (.int (nn.toInt32)) := (by have q := P49_4; rw [own_key key kv kl hkl hk9 hk0 hkb, (own_num key nn 2 hkey (by decide) hn).1] at q; exact q)
          have Rs51 : Fld Z T49.heap b45 "com/example/fillwire/fillwire/codec/ProtoReader" "wireType" "I" (.int (2 : Int32)) := (by have q := P49_5; rw [own_key key kv kl hkl hk9 hk0 hkb, (Int32.toInt_inj.mp (by rw [(own_num key nn 2 hkey (by decide) hn).2]; decide) : ((key.toInt32) &&& (7 : Int32)) = (2 : Int32))] at q; exact q)
          show OFin p e below _ _ T49 (mkF m 266 #[.val (.int p0), .val (.int p1), .val (.int p2), .val (.int p3), .val (.ref b1), .val (.int (1 : Int32)), .val (.long nn), .second, .val (.int (2 : Int32)), .val (.long key), .second, .val (.int kl), .val (.long ek), .second, .val (.int el), .val (.int lf), .val (.int ((1 : Int32) + lf)), .val (.ref b42), .val (.ref b45), .unset, .unset, .unset] [(.int (1 : Int32))])
          refine OFin.st (fun t k => XS.istore X49.here hx rfl (hb hby at_266) rfl (l' := #[.val (.int p0), .val (.int p1), .val (.int p2), .val (.int p3), .val (.ref b1), .val (.int (1 : Int32)), .val (.long nn), .second, .val (.int (2 : Int32)), .val (.long key), .second, .val (.int kl), .val (.long ek), .second, .val (.int el), .val (.int lf), .val (.int ((1 : Int32) + lf)), .val (.ref b42), .val (.ref b45), .val (.int (1 : Int32)), .unset, .unset]) rfl k) ?_
          refine OFin.st (fun t k => XS.aload X49.here hx rfl (hb hby at_268) rfl rfl k) ?_
          obtain ⟨cq52, kq52, q52a, q52b, q52c⟩ := isOf hZ rfl P49_0
          obtain ⟨_, _, ⟨T52, L52, k52, n52⟩, -, X52, ⟨Lc52, hQ52, l52, y52, z52⟩, st52⟩ := X49.virtualBack hx (y := (⟨"com/example/fillwire/fillwire/codec/ProtoReader", "field", "()I"⟩ : MethodName)) (z := (⟨"com/example/fillwire/fillwire/codec/ProtoReader", "field", "()I"⟩ : MethodName)) hown (mvT hZ (hw _ (List.mem_of_getElem? (i := 67) rfl))) (mvT hZ (hw _ (List.mem_of_getElem? (i := 68) rfl))) (notFace_of_selects (args := #[]) (mvT hZ (hw _ (List.mem_of_getElem? (i := 70) rfl)))) (mvT hZ (hw _ (List.mem_of_getElem? (i := 70) rfl))) (mvT hZ (hw _ (List.mem_of_getElem? (i := 69) rfl))) (by decide) (backOf (W := 0) (rm11 l Z a0 hw [] b45 (nn.toInt32) T49.heap n0 O49 Rs50) hZ (hw _ (List.mem_of_getElem? (i := 71) rfl)) (hw _ (List.mem_of_getElem? (i := 2) rfl)) (by decide) (by decide)) q52a q52c (g := (mkF m 270 #[.val (.int p0), .val (.int p1), .val (.int p2), .val (.int p3), .val (.ref b1), .val (.int (1 : Int32)), .val (.long nn), .second, .val (.int (2 : Int32)), .val (.long key), .second, .val (.int kl), .val (.long ek), .second, .val (.int el), .val (.int lf), .val (.int ((1 : Int32) + lf)), .val (.ref b42), .val (.ref b45), .val (.int (1 : Int32)), .unset, .unset] [(.ref b45)])) rfl (by rw [hml]; rfl) (Steps.refl _) (argsL := []) (rest := []) (lenOf pd_0 rfl) rfl (by show 2 * 0 + _ ≤ _; exact Nat.le_of_eq rfl) (hb hby at_270) (fun _ _ => ⟨rfl, rfl, (by decide : 8 + 0 ≤ _), (by decide : 48 + 0 ≤ _)⟩)
          dsimp only [Pt.U, Pt.locs, Pt.cells, Pt.slots] at X52 l52 y52 z52 st52 hQ52
          subst l52 y52 z52
          obtain ⟨rfl, N52q, e52⟩ := hQ52
          have N52 := Fr.app N49 N52q
          refine OFin.tr st52 ?_
          refine OFin.st (fun t k => XS.istore X52.here hx rfl (hb hby at_273) rfl (l' := #[.val (.int p0), .val (.int p1), .val (.int p2), .val (.int p3), .val (.ref b1), .val (.int (1 : Int32)), .val (.long nn), .second, .val (.int (2 : Int32)), .val (.long key), .second, .val (.int kl), .val (.long ek), .second, .val (.int el), .val (.int lf), .val (.int ((1 : Int32) + lf)), .val (.ref b42), .val (.ref b45), .val (.int (1 : Int32)), .val (.int (F11 b45 (nn.toInt32))), .unset]) rfl k) ?_
          show OFin p e below _ _ T52 (mkF m 275 #[.val (.int p0), .val (.int p1), .val (.int p2), .val (.int p3), .val (.ref b1), .val (.int (1 : Int32)), .val (.long nn), .second, .val (.int (2 : Int32)), .val (.long key), .second, .val (.int kl), .val (.long ek), .second, .val (.int el), .val (.int lf), .val (.int ((1 : Int32) + lf)), .val (.ref b42), .val (.ref b45), .val (.int (1 : Int32)), .val (.int (F11 b45 (nn.toInt32))), .unset] [])
          refine OFin.st (fun t k => XS.aload X52.here hx rfl (hb hby at_275) rfl rfl k) ?_
          have c53 := ((((V44.ext E45).ext E47).keep K48q (ninS N_b42_b45 nin0)).keep K49q (ninS N_b42_b45 nin0))
          obtain ⟨cq54, kq54, q54a, q54b, q54c⟩ := isOf hZ e52 P49_0
          obtain ⟨_, _, ⟨T54, L54, k54, n54⟩, -, X54, ⟨Lc54, hQ54, l54, y54, z54⟩, st54⟩ := X52.virtualBack hx (y := (⟨"com/example/fillwire/fillwire/codec/ProtoReader", "skip", "()V"⟩ : MethodName)) (z := (⟨"com/example/fillwire/fillwire/codec/ProtoReader", "skip", "()V"⟩ : MethodName)) hown (mvT hZ (hw _ (List.mem_of_getElem? (i := 72) rfl))) (mvT hZ (hw _ (List.mem_of_getElem? (i := 73) rfl))) (notFace_of_selects (args := #[]) (mvT hZ (hw _ (List.mem_of_getElem? (i := 75) rfl)))) (mvT hZ (hw _ (List.mem_of_getElem? (i := 75) rfl))) (mvT hZ (hw _ (List.mem_of_getElem? (i := 74) rfl))) (by decide) (backOf (W := 0) (rm12t2 l Z a0 hw [] b45 b42 (vpo (0 : Int32) (kv + 1)) (kl + ((1 : Int32) + lf)) (nn.toInt32) k42 ((pN (List.replicate (kv + 1 + (1 + lf.toInt.toNat)) (.int (0 : Int32))) 0 (gf key kl) (kv + 1)).set (kv + 1) (.int (lf.toInt8.toInt32))) (fun _ => (lf.toInt8.toInt32)) 0 T49.heap n0 O49 P49_0 P49_1 P49_2 P49_3 Rs50 Rs51 c53 g_b45 N_b42_b45 (by decide) (fun i hi => absurd hi (Nat.not_lt_zero _)) (own_v1 lf hlf).2.1 (fun h => absurd h (by decide)) (by have := (own_vp 0 (kv + 1) (0 : Int32) (by decide) (by omega) (by omega)); omega) (by have := (own_vp 0 (kv + 1) (0 : Int32) (by decide) (by omega) (by omega)); omega) (fun i hi => by cases Nat.le_zero.mp hi; rw [(own_vp 0 (kv + 1) (0 : Int32) (by decide) (by omega) (by omega)), (by omega : ((0 + (kv + 1) : Nat) : Int).toNat + 0 = kv + 1)]; exact List.getElem?_set_self (by simp only [pN_len, List.length_replicate]; omega)) (fun i hi => by cases Nat.le_zero.mp hi; exact own_ne _ _ (0 + (kv + 1)) (kv + 1 + (1 + lf.toInt.toNat)) 0 (own_vp 0 (kv + 1) (0 : Int32) (by decide) (by omega) (by omega)) (own_e1 kl ((1 : Int32) + lf) kv (1 + lf.toInt.toNat) hkl hk9 (own_1lf lf hlf) (by have := own_lf lf hlf; omega)) (by omega) (by omega) (by have := own_lf lf hlf; omega)) (by rw [(own_v1 lf hlf).1]; intro q; have z := Int64.lt_iff_toInt_lt.mp q; rw [c_i2l, (by decide : (0 : Int64).toInt = 0)] at z; have g := own_lf lf hlf; omega) (by rw [(own_v1 lf hlf).1]; intro q; have z := Int64.lt_iff_toInt_lt.mp q; rw [c_i2l, c_i2l] at z; have a := c_isub (kl + ((1 : Int32) + lf)) (vpo (vpo (0 : Int32) (kv + 1)) (0 + 1)); have b := rng32 ((kl + ((1 : Int32) + lf)) - (vpo (vpo (0 : Int32) (kv + 1)) (0 + 1))); have d := own_vp (0 + (kv + 1)) (0 + 1) (vpo (0 : Int32) (kv + 1)) (own_vp 0 (kv + 1) (0 : Int32) (by decide) (by omega) (by omega)) (by omega) (by omega); have f := (own_e1 kl ((1 : Int32) + lf) kv (1 + lf.toInt.toNat) hkl hk9 (own_1lf lf hlf) (by have := own_lf lf hlf; omega)); have g := own_lf lf hlf; omega) (by rw [(own_v1 lf hlf).1, (own_v1 lf hlf).2.2]; intro q; have z := Int32.lt_iff_toInt_lt.mp q; have a := c_isub (kl + ((1 : Int32) + lf)) (vpo (vpo (0 : Int32) (kv + 1)) (0 + 1)); have b := rng32 ((kl + ((1 : Int32) + lf)) - (vpo (vpo (0 : Int32) (kv + 1)) (0 + 1))); have d := own_vp (0 + (kv + 1)) (0 + 1) (vpo (0 : Int32) (kv + 1)) (own_vp 0 (kv + 1) (0 : Int32) (by decide) (by omega) (by omega)) (by omega) (by omega); have f := (own_e1 kl ((1 : Int32) + lf) kv (1 + lf.toInt.toNat) hkl hk9 (own_1lf lf hlf) (by have := own_lf lf hlf; omega)); have g := own_lf lf hlf; omega)) hZ (hw _ (List.mem_of_getElem? (i := 76) rfl)) (hw _ (List.mem_of_getElem? (i := 2) rfl)) (by decide) (by decide)) q54a q54c (g := (mkF m 277 #[.val (.int p0), .val (.int p1), .val (.int p2), .val (.int p3), .val (.ref b1), .val (.int (1 : Int32)), .val (.long nn), .second, .val (.int (2 : Int32)), .val (.long key), .second, .val (.int kl), .val (.long ek), .second, .val (.int el), .val (.int lf), .val (.int ((1 : Int32) + lf)), .val (.ref b42), .val (.ref b45), .val (.int (1 : Int32)), .val (.int (F11 b45 (nn.toInt32))), .unset] [(.ref b45)])) rfl (by rw [hml]; rfl) (Steps.refl _) (argsL := []) (rest := []) (lenOf pd_2 rfl) rfl (by show 2 * 0 + _ ≤ _; exact Nat.le_of_eq rfl) (hb hby at_277) (fun _ _ => ⟨rfl, e52, (by decide : 8 + 0 ≤ _), (by decide : 48 + 0 ≤ _)⟩)
          dsimp only [Pt.U, Pt.locs, Pt.cells, Pt.slots] at X54 l54 y54 z54 st54 hQ54
          subst l54 y54 z54
          obtain ⟨rfl, N54q, K54q, P54_0, P54_1, P54_2, P54_3, P54_4, P54_5⟩ := hQ54
          have N54 := Fr.app N52 N54q
          have hk54 := Nat.le_trans hk49 K54q.1
          have K54 : Keep h0 T54.heap [] := K49.trans K54q (allS (Or.inr sz_b45) all0)
          have O54 : Old Z n0 T54.heap := O49.keep K54q (allS g_b45 all0)
          refine OFin.tr st54 ?_
          have Rs55e : ((vpo (vpo (0 : Int32) (kv + 1)) (0 + 1)) + ((vac (fun _ => (lf.toInt8.toInt32)) (0 + 1)).toInt32)) = (kl + ((1 : Int32) + lf)) := Int32.toInt_inj.mp (by have y := (own_e1 kl ((1 : Int32) + lf) kv (1 + lf.toInt.toNat) hkl hk9 (own_1lf lf hlf) (by have := own_lf lf hlf; omega)); have d := (own_vp 0 (kv + 1) (0 : Int32) (by decide) (by omega) (by omega)); have d2 := own_vp (0 + (kv + 1)) (0 + 1) (vpo (0 : Int32) (kv + 1)) (own_vp 0 (kv + 1) (0 : Int32) (by decide) (by omega) (by omega)) (by omega) (by omega); rw [(own_v1 lf hlf).1, (own_v1 lf hlf).2.2]; have f := c_iadd (vpo (vpo (0 : Int32) (kv + 1)) (0 + 1)) lf; have g := rng32 (vpo (vpo (0 : Int32) (kv + 1)) (0 + 1) + lf); have i := own_lf lf hlf; omega)
          have Rs55 : Fld Z T54.heap b45 "com/example/fillwire/fillwire/codec/ProtoReader" "position" "I" (.int (kl + ((1 : Int32) + lf))) := (by have q := P54_2; rw [Rs55e] at q; exact q)
          refine OFin.st (fun t k => XS.aload X54.here hx rfl (hb hby at_280) rfl rfl k) ?_
          obtain ⟨cq56, kq56, q56a, q56b, q56c⟩ := isOf hZ rfl P54_0
          obtain ⟨_, _, ⟨T56, L56, k56, n56⟩, -, X56, ⟨Lc56, hQ56, l56, y56, z56⟩, st56⟩ := X54.virtualBack hx (y := (⟨"com/example/fillwire/fillwire/codec/ProtoReader", "next", "()Z"⟩ : MethodName)) (z := (⟨"com/example/fillwire/fillwire/codec/ProtoReader", "next", "()Z"⟩ : MethodName)) hown (mvT hZ (hw _ (List.mem_of_getElem? (i := 28) rfl))) (mvT hZ (hw _ (List.mem_of_getElem? (i := 29) rfl))) (notFace_of_selects (args := #[]) (mvT hZ (hw _ (List.mem_of_getElem? (i := 31) rfl)))) (mvT hZ (hw _ (List.mem_of_getElem? (i := 31) rfl))) (mvT hZ (hw _ (List.mem_of_getElem? (i := 30) rfl))) (by decide) (backOf (W := 0) (rm4e l Z a0 hw [] b45 (kl + ((1 : Int32) + lf)) T54.heap n0 O54 P54_0 Rs55 P54_3) hZ (hw _ (List.mem_of_getElem? (i := 32) rfl)) (hw _ (List.mem_of_getElem? (i := 2) rfl)) (by decide) (by decide)) q56a q56c (g := (mkF m 282 #[.val (.int p0), .val (.int p1), .val (.int p2), .val (.int p3), .val (.ref b1), .val (.int (1 : Int32)), .val (.long nn), .second, .val (.int (2 : Int32)), .val (.long key), .second, .val (.int kl), .val (.long ek), .second, .val (.int el), .val (.int lf), .val (.int ((1 : Int32) + lf)), .val (.ref b42), .val (.ref b45), .val (.int (1 : Int32)), .val (.int (F11 b45 (nn.toInt32))), .unset] [(.ref b45)])) rfl (by rw [hml]; rfl) (Steps.refl _) (argsL := []) (rest := []) (lenOf pd_3 rfl) rfl (by show 2 * 0 + _ ≤ _; exact Nat.le_of_eq rfl) (hb hby at_282) (fun _ _ => ⟨rfl, rfl, (by decide : 8 + 0 ≤ _), (by decide : 48 + 0 ≤ _)⟩)
          dsimp only [Pt.U, Pt.locs, Pt.cells, Pt.slots] at X56 l56 y56 z56 st56 hQ56
          subst l56 y56 z56
          obtain ⟨rfl, N56q, e56⟩ := hQ56
          have N56 := Fr.app N54 N56q
          refine OFin.tr st56 ?_
          show OFin p e below _ _ T56 (mkF m 285 #[.val (.int p0), .val (.int p1), .val (.int p2), .val (.int p3), .val (.ref b1), .val (.int (1 : Int32)), .val (.long nn), .second, .val (.int (2 : Int32)), .val (.long key), .second, .val (.int kl), .val (.long ek), .second, .val (.int el), .val (.int lf), .val (.int ((1 : Int32) + lf)), .val (.ref b42), .val (.ref b45), .val (.int (1 : Int32)), .val (.int (F11 b45 (nn.toInt32))), .unset] [(.int (F4e b45 (kl + ((1 : Int32) + lf))))])
          refine OFin.st (fun t k => XS.istore X56.here hx rfl (hb hby at_285) rfl (l' := #[.val (.int p0), .val (.int p1), .val (.int p2), .val (.int p3), .val (.ref b1), .val (.int (1 : Int32)), .val (.long nn), .second, .val (.int (2 : Int32)), .val (.long key), .second, .val (.int kl), .val (.long ek), .second, .val (.int el), .val (.int lf), .val (.int ((1 : Int32) + lf)), .val (.ref b42), .val (.ref b45), .val (.int (1 : Int32)), .val (.int (F11 b45 (nn.toInt32))), .val (.int (F4e b45 (kl + ((1 : Int32) + lf))))]) rfl k) ?_
          refine OFin.st (fun t k => XS.iload X56.here hx rfl (hb hby at_287) rfl k) ?_
          refine OFin.st (fun t k => XS.ifNo X56.here hx rfl (hb hby at_289) rfl ((if0 _ _).trans (feq (by decide : ¬ ((1 : Int32) = (0 : Int32)))).1) k) ?_
          show OFin p e below _ _ T56 (mkF m 292 #[.val (.int p0), .val (.int p1), .val (.int p2), .val (.int p3), .val (.ref b1), .val (.int (1 : Int32)), .val (.long nn), .second, .val (.int (2 : Int32)), .val (.long key), .second, .val (.int kl), .val (.long ek), .second, .val (.int el), .val (.int lf), .val (.int ((1 : Int32) + lf)), .val (.ref b42), .val (.ref b45), .val (.int (1 : Int32)), .val (.int (F11 b45 (nn.toInt32))), .val (.int (F4e b45 (kl + ((1 : Int32) + lf))))] [])
          refine OFin.st (fun t k => XS.iload X56.here hx rfl (hb hby at_292) rfl k) ?_
          refine OFin.st (fun t k => XS.ifNo X56.here hx rfl (hb hby at_294) rfl ((if0 _ _).trans (feq (by decide : ¬ ((1 : Int32) = (0 : Int32)))).1) k) ?_
          show OFin p e below _ _ T56 (mkF m 297 #[.val (.int p0), .val (.int p1), .val (.int p2), .val (.int p3), .val (.ref b1), .val (.int (1 : Int32)), .val (.long nn), .second, .val (.int (2 : Int32)), .val (.long key), .second, .val (.int kl), .val (.long ek), .second, .val (.int el), .val (.int lf), .val (.int ((1 : Int32) + lf)), .val (.ref b42), .val (.ref b45), .val (.int (1 : Int32)), .val (.int (F11 b45 (nn.toInt32))), .val (.int (F4e b45 (kl + ((1 : Int32) + lf))))] [])
          refine OFin.st (fun t k => XS.iload X56.here hx rfl (hb hby at_297) rfl k) ?_
          show OFin p e below _ _ T56 (mkF m 299 #[.val (.int p0), .val (.int p1), .val (.int p2), .val (.int p3), .val (.ref b1), .val (.int (1 : Int32)), .val (.long nn), .second, .val (.int (2 : Int32)), .val (.long key), .second, .val (.int kl), .val (.long ek), .second, .val (.int el), .val (.int lf), .val (.int ((1 : Int32) + lf)), .val (.ref b42), .val (.ref b45), .val (.int (1 : Int32)), .val (.int (F11 b45 (nn.toInt32))), .val (.int (F4e b45 (kl + ((1 : Int32) + lf))))] [(.int (F11 b45 (nn.toInt32)))])
          refine OFin.st (fun t k => XS.i2l X56.here hx rfl (hb hby at_299) rfl k) ?_
          refine OFin.st (fun t k => XS.lload X56.here hx rfl (hb hby at_300) rfl k) ?_
          refine OFin.st (fun t k => XS.lcmp X56.here hx rfl (hb hby at_302) rfl k) ?_
          refine OFin.st (fun t k => XS.ifNo X56.here hx rfl (hb hby at_303) rfl ((if0 _ _).trans (teq ((lw_eq ((F11 b45 (nn.toInt32)).toInt64) nn).mpr (own_n0 nn hn).2.2)).2) k) ?_
          show OFin p e below _ _ T56 (mkF m 306 #[.val (.int p0), .val (.int p1), .val (.int p2), .val (.int p3), .val (.ref b1), .val (.int (1 : Int32)), .val (.long nn), .second, .val (.int (2 : Int32)), .val (.long key), .second, .val (.int kl), .val (.long ek), .second, .val (.int el), .val (.int lf), .val (.int ((1 : Int32) + lf)), .val (.ref b42), .val (.ref b45), .val (.int (1 : Int32)), .val (.int (F11 b45 (nn.toInt32))), .val (.int (F4e b45 (kl + ((1 : Int32) + lf))))] [])
          refine OFin.st (fun t k => XS.iload X56.here hx rfl (hb hby at_306) rfl k) ?_
          show OFin p e below _ _ T56 (mkF m 308 #[.val (.int p0), .val (.int p1), .val (.int p2), .val (.int p3), .val (.ref b1), .val (.int (1 : Int32)), .val (.long nn), .second, .val (.int (2 : Int32)), .val (.long key), .second, .val (.int kl), .val (.long ek), .second, .val (.int el), .val (.int lf), .val (.int ((1 : Int32) + lf)), .val (.ref b42), .val (.ref b45), .val (.int (1 : Int32)), .val (.int (F11 b45 (nn.toInt32))), .val (.int (F4e b45 (kl + ((1 : Int32) + lf))))] [(.int (F4e b45 (kl + ((1 : Int32) + lf))))])
          refine OFin.st (fun t k => XS.ifNo X56.here hx rfl (hb hby at_308) rfl ((if0 _ _).trans (teq rfl).2) k) ?_
          show OFin p e below _ _ T56 (mkF m 311 #[.val (.int p0), .val (.int p1), .val (.int p2), .val (.int p3), .val (.ref b1), .val (.int (1 : Int32)), .val (.long nn), .second, .val (.int (2 : Int32)), .val (.long key), .second, .val (.int kl), .val (.long ek), .second, .val (.int el), .val (.int lf), .val (.int ((1 : Int32) + lf)), .val (.ref b42), .val (.ref b45), .val (.int (1 : Int32)), .val (.int (F11 b45 (nn.toInt32))), .val (.int (F4e b45 (kl + ((1 : Int32) + lf))))] [])
          refine OFin.st (fun t k => XS.iconst X56.here hx rfl (hb hby at_311) k) ?_
          refine OFin.st (fun t k => XS.goto X56.here hx rfl (pc0 := 312) (pc' := 316) rfl (hb hby at_312) (by decide) (by decide) k) ?_
          exact own_retN X56 hx Bd.returns Bd.notSynchronized (t := .boolean) (by simp) rfl (hb hby at_316) (by show Qrm0 Z p0 p1 p2 p3 kW vW w_WIRE_TYPES h0 n0 _ T56.heap _; rw [e56]; exact ⟨rfl, N56, K54⟩) (own_endW hS47 (by rw [e56]; exact hk54) (by decide) (by decide))
        · show OFin p e below _ _ T11 (mkF m 128 #[.val (.int p0), .val (.int p1), .val (.int p2), .val (.int p3), .val (.ref b1), .val (.int (1 : Int32)), .val (.long nn), .second, .val (.int (3 : Int32)), .val (.long key), .second, .val (.int kl), .val (.long ek), .second, .val (.int el), .val (.int lf), .unset, .unset, .unset, .unset, .unset, .unset] [])
          refine OFin.st (fun t k => XS.iload X11.here hx rfl (hb hby at_128) rfl k) ?_
          refine OFin.st (fun t k => XS.ifYes X11.here hx rfl (pc0 := 130) (pc' := 139) rfl (hb hby at_130) rfl ((if0 _ _).trans (feq (by decide : ¬ ((3 : Int32) = (0 : Int32)))).2) (by decide) (by decide) k) ?_
          show OFin p e below _ _ T11 (mkF m 139 #[.val (.int p0), .val (.int p1), .val (.int p2), .val (.int p3), .val (.ref b1), .val (.int (1 : Int32)), .val (.long nn), .second, .val (.int (3 : Int32)), .val (.long key), .second, .val (.int kl), .val (.long ek), .second, .val (.int el), .val (.int lf), .unset, .unset, .unset, .unset, .unset, .unset] [])
          refine OFin.st (fun t k => XS.iload X11.here hx rfl (hb hby at_139) rfl k) ?_
          show OFin p e below _ _ T11 (mkF m 141 #[.val (.int p0), .val (.int p1), .val (.int p2), .val (.int p3), .val (.ref b1), .val (.int (1 : Int32)), .val (.long nn), .second, .val (.int (3 : Int32)), .val (.long key), .second, .val (.int kl), .val (.long ek), .second, .val (.int el), .val (.int lf), .unset, .unset, .unset, .unset, .unset, .unset] [(.int (3 : Int32))])
          refine OFin.st (fun t k => XS.iconst X11.here hx rfl (hb hby at_141) k) ?_
          refine OFin.st (fun t k => XS.icmpYes X11.here hx rfl (pc0 := 142) (pc' := 152) rfl (hb hby at_142) rfl (feq (by decide : ¬ ((3 : Int32) = (1 : Int32)))).2 (by decide) (by decide) k) ?_
          show OFin p e below _ _ T11 (mkF m 152 #[.val (.int p0), .val (.int p1), .val (.int p2), .val (.int p3), .val (.ref b1), .val (.int (1 : Int32)), .val (.long nn), .second, .val (.int (3 : Int32)), .val (.long key), .second, .val (.int kl), .val (.long ek), .second, .val (.int el), .val (.int lf), .unset, .unset, .unset, .unset, .unset, .unset] [])
          refine OFin.st (fun t k => XS.iload X11.here hx rfl (hb hby at_152) rfl k) ?_
          refine OFin.st (fun t k => XS.iconst X11.here hx rfl (hb hby at_154) k) ?_
          refine OFin.st (fun t k => XS.icmpYes X11.here hx rfl (pc0 := 155) (pc' := 167) rfl (hb hby at_155) rfl (feq (by decide : ¬ ((3 : Int32) = (2 : Int32)))).2 (by decide) (by decide) k) ?_
          show OFin p e below _ _ T11 (mkF m 167 #[.val (.int p0), .val (.int p1), .val (.int p2), .val (.int p3), .val (.ref b1), .val (.int (1 : Int32)), .val (.long nn), .second, .val (.int (3 : Int32)), .val (.long key), .second, .val (.int kl), .val (.long ek), .second, .val (.int el), .val (.int lf), .unset, .unset, .unset, .unset, .unset, .unset] [])
          refine OFin.st (fun t k => XS.iload X11.here hx rfl (hb hby at_167) rfl k) ?_
          show OFin p e below _ _ T11 (mkF m 169 #[.val (.int p0), .val (.int p1), .val (.int p2), .val (.int p3), .val (.ref b1), .val (.int (1 : Int32)), .val (.long nn), .second, .val (.int (3 : Int32)), .val (.long key), .second, .val (.int kl), .val (.long ek), .second, .val (.int el), .val (.int lf), .unset, .unset, .unset, .unset, .unset, .unset] [(.int (3 : Int32))])
          refine OFin.st (fun t k => XS.iconst X11.here hx rfl (hb hby at_169) k) ?_
          refine OFin.st (fun t k => XS.icmpNo X11.here hx rfl (hb hby at_170) rfl (teq (by decide : (3 : Int32) = (3 : Int32))).2 k) ?_
          show OFin p e below _ _ T11 (mkF m 173 #[.val (.int p0), .val (.int p1), .val (.int p2), .val (.int p3), .val (.ref b1), .val (.int (1 : Int32)), .val (.long nn), .second, .val (.int (3 : Int32)), .val (.long key), .second, .val (.int kl), .val (.long ek), .second, .val (.int el), .val (.int lf), .unset, .unset, .unset, .unset, .unset, .unset] [])
          refine OFin.st (fun t k => XS.iload X11.here hx rfl (hb hby at_173) rfl k) ?_
          refine OFin.st (fun t k => XS.istore X11.here hx rfl (hb hby at_175) rfl (l' := #[.val (.int p0), .val (.int p1), .val (.int p2), .val (.int p3), .val (.ref b1), .val (.int (1 : Int32)), .val (.long nn), .second, .val (.int (3 : Int32)), .val (.long key), .second, .val (.int kl), .val (.long ek), .second, .val (.int el), .val (.int lf), .val (.int el), .unset, .unset, .unset, .unset, .unset]) rfl k) ?_
          refine OFin.st (fun t k => XS.goto X11.here hx rfl (pc0 := 177) (pc' := 183) rfl (hb hby at_177) (by decide) (by decide) k) ?_
          show OFin p e below _ _ T11 (mkF m 183 #[.val (.int p0), .val (.int p1), .val (.int p2), .val (.int p3), .val (.ref b1), .val (.int (1 : Int32)), .val (.long nn), .second, .val (.int (3 : Int32)), .val (.long key), .second, .val (.int kl), .val (.long ek), .second, .val (.int el), .val (.int lf), .val (.int el), .unset, .unset, .unset, .unset, .unset] [])
          refine OFin.st (fun t k => XS.iload X11.here hx rfl (hb hby at_183) rfl k) ?_
          refine OFin.st (fun t k => XS.iload X11.here hx rfl (hb hby at_185) rfl k) ?_
          refine OFin.st (fun t k => XS.iadd X11.here hx rfl (hb hby at_187) rfl k) ?_
          obtain ⟨T57, h57, k57, X57, e57, E57, A57, st57⟩ := own_newP X11 hx hZ (hw _ (List.mem_of_getElem? (i := 3) rfl)) e11 (z := (kl + el)) (n := (kv + 1 + (ev + 1))) (cap := 20) (own_e1 kl el kv (ev + 1) hkl hk9 (by omega) (by omega)) (by have := own_lf lf hlf; omega) (by decide) (by decide) (by decide) (pc := 188) (Ls := #[.val (.int p0), .val (.int p1), .val (.int p2), .val (.int p3), .val (.ref b1), .val (.int (1 : Int32)), .val (.long nn), .second, .val (.int (3 : Int32)), .val (.long key), .second, .val (.int kl), .val (.long ek), .second, .val (.int el), .val (.int lf), .val (.int el), .unset, .unset, .unset, .unset, .unset]) (rest := []) (hb hby at_188)
          obtain ⟨b57, gz_b57⟩ : ∃ z, z = T4.heap.size := ⟨_, rfl⟩
          rw [← gz_b57] at A57 st57
          have N_b1_b57 : b1 ≠ b57 := Nat.ne_of_lt (Nat.lt_of_lt_of_le P4_0.lt (Nat.le_of_eq gz_b57.symm))
          have N_b2_b57 : b2 ≠ b57 := Nat.ne_of_lt (Nat.lt_of_lt_of_le ((V2.ext E3).keep K4q (ninS (Ne.symm N_b1_b2) nin0)).lt (Nat.le_of_eq gz_b57.symm))
          have g_b57 : n0 ≤ b57 := Nat.le_trans (Nat.le_trans (Nat.le_of_eq O4.1.symm) O4.2.1) (Nat.le_of_eq gz_b57.symm)
          have sz_b57 : h0.size ≤ b57 := Nat.le_trans K4.1 (Nat.le_of_eq gz_b57.symm)
          have hk57 := Nat.le_trans hk4 E57.1
          have K57 : Keep h0 h57 [] := K4.ext E57
          have O57 : Old Z n0 h57 := O4.ext E57
          have V57 : Oar Z h57 b57 k57 .byte (List.replicate (kv + 1 + (ev + 1)) (.int (0 : Int32))) := A57
          refine OFin.st st57 ?_
          show OFin p e below _ _ T57 (mkF m 190 #[.val (.int p0), .val (.int p1), .val (.int p2), .val (.int p3), .val (.ref b1), .val (.int (1 : Int32)), .val (.long nn), .second, .val (.int (3 : Int32)), .val (.long key), .second, .val (.int kl), .val (.long ek), .second, .val (.int el), .val (.int lf), .val (.int el), .unset, .unset, .unset, .unset, .unset] [(.ref b57)])
          refine OFin.st (fun t k => XS.astore X57.here hx rfl (hb hby at_190) rfl rfl (l' := #[.val (.int p0), .val (.int p1), .val (.int p2), .val (.int p3), .val (.ref b1), .val (.int (1 : Int32)), .val (.long nn), .second, .val (.int (3 : Int32)), .val (.long key), .second, .val (.int kl), .val (.long ek), .second, .val (.int el), .val (.int lf), .val (.int el), .val (.ref b57), .unset, .unset, .unset, .unset]) rfl k) ?_
          refine OFin.st (fun t k => XS.aload X57.here hx rfl (hb hby at_192) rfl rfl k) ?_
          refine OFin.st (fun t k => XS.iconst X57.here hx rfl (hb hby at_194) k) ?_
          refine OFin.st (fun t k => XS.lload X57.here hx rfl (hb hby at_195) rfl k) ?_
          show OFin p e below _ _ T57 (mkF m 197 #[.val (.int p0), .val (.int p1), .val (.int p2), .val (.int p3), .val (.ref b1), .val (.int (1 : Int32)), .val (.long nn), .second, .val (.int (3 : Int32)), .val (.long key), .second, .val (.int kl), .val (.long ek), .second, .val (.int el), .val (.int lf), .val (.int el), .val (.ref b57), .unset, .unset, .unset, .unset] [(.long key), (.int (0 : Int32)), (.ref b57)])
          refine OFin.st (fun t k => XS.iload X57.here hx rfl (hb hby at_197) rfl k) ?_
          obtain ⟨_, _, ⟨T58, L58, k58, n58⟩, -, X58, ⟨Lc58, hQ58, l58, y58, z58⟩, st58⟩ := Jvm.LawKit.callS X57 hx (y := (⟨"com/example/fillwire/fillwire/codec/ProtoReaderNextPinLaw", "put", "([BIJI)V"⟩ : MethodName)) hown (mvT hZ (hw _ (List.mem_of_getElem? (i := 45) rfl))) (mvT hZ (hw _ (List.mem_of_getElem? (i := 46) rfl))) (mvT hZ (hw _ (List.mem_of_getElem? (i := 37) rfl))) (mvT hZ (hw _ (List.mem_of_getElem? (i := 47) rfl))) (by decide) (backOf (W := 0) (rm7 l Z a0 hw [] b57 (0 : Int32) key kl k57 (List.replicate (kv + 1 + (ev + 1)) (.int (0 : Int32))) 0 (kv + 1) h57 n0 O57 V57 g_b57 (by decide) (by omega) (by omega) (by omega) (by rw [List.length_replicate]; omega) (by rw [List.length_replicate]; have := own_lf lf hlf; omega)) hZ (hw _ (List.mem_of_getElem? (i := 47) rfl)) (hw _ (List.mem_of_getElem? (i := 37) rfl)) (by decide) (by decide)) (g := (mkF m 199 #[.val (.int p0), .val (.int p1), .val (.int p2), .val (.int p3), .val (.ref b1), .val (.int (1 : Int32)), .val (.long nn), .second, .val (.int (3 : Int32)), .val (.long key), .second, .val (.int kl), .val (.long ek), .second, .val (.int el), .val (.int lf), .val (.int el), .val (.ref b57), .unset, .unset, .unset, .unset] [(.int kl), (.long key), (.int (0 : Int32)), (.ref b57)])) rfl (by rw [hml]; rfl) (argsL := [(.ref b57), (.int (0 : Int32)), (.long key), (.int kl)]) (rest := []) (lenOf pd_9 rfl) rfl (by show 2 * 0 + _ ≤ _; exact Nat.le_of_eq rfl) (hb hby at_199) (fun _ _ => ⟨rfl, e57, (by decide : 5 + 0 ≤ _), (by decide : 34 + 0 ≤ _)⟩)
          dsimp only [Pt.U, Pt.locs, Pt.cells, Pt.slots] at X58 l58 y58 z58 st58 hQ58
          subst l58 y58 z58
          obtain ⟨rfl, N58q, K58q, P58_0⟩ := hQ58
          have N58 := Fr.app N11 N58q
          have hk58 := Nat.le_trans hk57 K58q.1
          have K58 : Keep h0 T58.heap [] := K57.trans K58q (allS (Or.inr sz_b57) all0)
          have O58 : Old Z n0 T58.heap := O57.keep K58q (allS g_b57 all0)
          refine OFin.st st58 ?_
          refine OFin.st (fun t k => XS.iload X58.here hx rfl (hb hby at_202) rfl k) ?_
          refine OFin.st (fun t k => XS.ifYes X58.here hx rfl (pc0 := 204) (pc' := 217) rfl (hb hby at_204) rfl ((if0 _ _).trans (feq (by decide : ¬ ((3 : Int32) = (0 : Int32)))).2) (by decide) (by decide) k) ?_
          show OFin p e below _ _ T58 (mkF m 217 #[.val (.int p0), .val (.int p1), .val (.int p2), .val (.int p3), .val (.ref b1), .val (.int (1 : Int32)), .val (.long nn), .second, .val (.int (3 : Int32)), .val (.long key), .second, .val (.int kl), .val (.long ek), .second, .val (.int el), .val (.int lf), .val (.int el), .val (.ref b57), .unset, .unset, .unset, .unset] [])
          refine OFin.st (fun t k => XS.iload X58.here hx rfl (hb hby at_217) rfl k) ?_
          show OFin p e below _ _ T58 (mkF m 219 #[.val (.int p0), .val (.int p1), .val (.int p2), .val (.int p3), .val (.ref b1), .val (.int (1 : Int32)), .val (.long nn), .second, .val (.int (3 : Int32)), .val (.long key), .second, .val (.int kl), .val (.long ek), .second, .val (.int el), .val (.int lf), .val (.int el), .val (.ref b57), .unset, .unset, .unset, .unset] [(.int (3 : Int32))])
          refine OFin.st (fun t k => XS.iconst X58.here hx rfl (hb hby at_219) k) ?_
          refine OFin.st (fun t k => XS.icmpYes X58.here hx rfl (pc0 := 220) (pc' := 231) rfl (hb hby at_220) rfl (feq (by decide : ¬ ((3 : Int32) = (2 : Int32)))).2 (by decide) (by decide) k) ?_
          show OFin p e below _ _ T58 (mkF m 231 #[.val (.int p0), .val (.int p1), .val (.int p2), .val (.int p3), .val (.ref b1), .val (.int (1 : Int32)), .val (.long nn), .second, .val (.int (3 : Int32)), .val (.long key), .second, .val (.int kl), .val (.long ek), .second, .val (.int el), .val (.int lf), .val (.int el), .val (.ref b57), .unset, .unset, .unset, .unset] [])
          refine OFin.st (fun t k => XS.iload X58.here hx rfl (hb hby at_231) rfl k) ?_
          refine OFin.st (fun t k => XS.iconst X58.here hx rfl (hb hby at_233) k) ?_
          refine OFin.st (fun t k => XS.icmpNo X58.here hx rfl (hb hby at_234) rfl (teq (by decide : (3 : Int32) = (3 : Int32))).2 k) ?_
          show OFin p e below _ _ T58 (mkF m 237 #[.val (.int p0), .val (.int p1), .val (.int p2), .val (.int p3), .val (.ref b1), .val (.int (1 : Int32)), .val (.long nn), .second, .val (.int (3 : Int32)), .val (.long key), .second, .val (.int kl), .val (.long ek), .second, .val (.int el), .val (.int lf), .val (.int el), .val (.ref b57), .unset, .unset, .unset, .unset] [])
          refine OFin.st (fun t k => XS.aload X58.here hx rfl (hb hby at_237) rfl rfl k) ?_
          show OFin p e below _ _ T58 (mkF m 239 #[.val (.int p0), .val (.int p1), .val (.int p2), .val (.int p3), .val (.ref b1), .val (.int (1 : Int32)), .val (.long nn), .second, .val (.int (3 : Int32)), .val (.long key), .second, .val (.int kl), .val (.long ek), .second, .val (.int el), .val (.int lf), .val (.int el), .val (.ref b57), .unset, .unset, .unset, .unset] [(.ref b57)])
          refine OFin.st (fun t k => XS.iload X58.here hx rfl (hb hby at_239) rfl k) ?_
          refine OFin.st (fun t k => XS.lload X58.here hx rfl (hb hby at_241) rfl k) ?_
          refine OFin.st (fun t k => XS.iload X58.here hx rfl (hb hby at_243) rfl k) ?_
          obtain ⟨_, _, ⟨T59, L59, k59, n59⟩, -, X59, ⟨Lc59, hQ59, l59, y59, z59⟩, st59⟩ := Jvm.LawKit.callS X58 hx (y := (⟨"com/example/fillwire/fillwire/codec/ProtoReaderNextPinLaw", "put", "([BIJI)V"⟩ : MethodName)) hown (mvT hZ (hw _ (List.mem_of_getElem? (i := 45) rfl))) (mvT hZ (hw _ (List.mem_of_getElem? (i := 46) rfl))) (mvT hZ (hw _ (List.mem_of_getElem? (i := 37) rfl))) (mvT hZ (hw _ (List.mem_of_getElem? (i := 47) rfl))) (by decide) (backOf (W := 0) (rm7 l Z a0 hw [] b57 kl ek el k57 (pN (List.replicate (kv + 1 + (ev + 1)) (.int (0 : Int32))) 0 (gf key kl) (kv + 1)) (kv + 1) (ev + 1) T58.heap n0 O58 P58_0 g_b57 (by omega) (by omega) (by omega) (by omega) (by simp only [pN_len, List.length_replicate]; omega) (by simp only [pN_len, List.length_replicate]; omega)) hZ (hw _ (List.mem_of_getElem? (i := 47) rfl)) (hw _ (List.mem_of_getElem? (i := 37) rfl)) (by decide) (by decide)) (g := (mkF m 245 #[.val (.int p0), .val (.int p1), .val (.int p2), .val (.int p3), .val (.ref b1), .val (.int (1 : Int32)), .val (.long nn), .second, .val (.int (3 : Int32)), .val (.long key), .second, .val (.int kl), .val (.long ek), .second, .val (.int el), .val (.int lf), .val (.int el), .val (.ref b57), .unset, .unset, .unset, .unset] [(.int el), (.long ek), (.int kl), (.ref b57)])) rfl (by rw [hml]; rfl) (argsL := [(.ref b57), (.int kl), (.long ek), (.int el)]) (rest := []) (lenOf pd_9 rfl) rfl (by show 2 * 0 + _ ≤ _; exact Nat.le_of_eq rfl) (hb hby at_245) (fun _ _ => ⟨rfl, rfl, (by decide : 5 + 0 ≤ _), (by decide : 34 + 0 ≤ _)⟩)
          dsimp only [Pt.U, Pt.locs, Pt.cells, Pt.slots] at X59 l59 y59 z59 st59 hQ59
          subst l59 y59 z59
          obtain ⟨rfl, N59q, K59q, P59_0⟩ := hQ59
          have N59 := Fr.app N58 N59q
          have hk59 := Nat.le_trans hk58 K59q.1
          have K59 : Keep h0 T59.heap [] := K58.trans K59q (allS (Or.inr sz_b57) all0)
          have O59 : Old Z n0 T59.heap := O58.keep K59q (allS g_b57 all0)
          refine OFin.st st59 ?_
          show OFin p e below _ _ T59 (mkF m 248 #[.val (.int p0), .val (.int p1), .val (.int p2), .val (.int p3), .val (.ref b1), .val (.int (1 : Int32)), .val (.long nn), .second, .val (.int (3 : Int32)), .val (.long key), .second, .val (.int kl), .val (.long ek), .second, .val (.int el), .val (.int lf), .val (.int el), .val (.ref b57), .unset, .unset, .unset, .unset] [])
          obtain ⟨T60, h60, X60, e60, E60, A60, D60, -, st60⟩ := newO X59 hx hZ hown (hw _ (List.mem_of_getElem? (i := 0) rfl)) (hw _ (List.mem_of_getElem? (i := 1) rfl)) (hw _ (List.mem_of_getElem? (i := 2) rfl)) rfl (g := (mkF m 248 #[.val (.int p0), .val (.int p1), .val (.int p2), .val (.int p3), .val (.ref b1), .val (.int (1 : Int32)), .val (.long nn), .second, .val (.int (3 : Int32)), .val (.long key), .second, .val (.int kl), .val (.long ek), .second, .val (.int el), .val (.int lf), .val (.int el), .val (.ref b57), .unset, .unset, .unset, .unset] [])) rfl (hb hby at_248) (by decide) (by decide)
          obtain ⟨b60, gz_b60⟩ : ∃ z, z = T59.heap.size := ⟨_, rfl⟩
          rw [← gz_b60] at A60 D60 st60
          have N_b1_b60 : b1 ≠ b60 := Nat.ne_of_lt (Nat.lt_of_lt_of_le (((P4_0.ext E57).keep K58q).keep K59q).lt (Nat.le_of_eq gz_b60.symm))
          have c61 := (((((V2.ext E3).keep K4q (ninS (Ne.symm N_b1_b2) nin0)).ext E57).keep K58q (ninS N_b2_b57 nin0)).keep K59q (ninS N_b2_b57 nin0))
          have N_b2_b60 : b2 ≠ b60 := Nat.ne_of_lt (Nat.lt_of_lt_of_le c61.lt (Nat.le_of_eq gz_b60.symm))
          have N_b57_b60 : b57 ≠ b60 := Nat.ne_of_lt (Nat.lt_of_lt_of_le P59_0.lt (Nat.le_of_eq gz_b60.symm))
          have g_b60 : n0 ≤ b60 := Nat.le_trans (Nat.le_trans (Nat.le_of_eq O59.1.symm) O59.2.1) (Nat.le_of_eq gz_b60.symm)
          have sz_b60 : h0.size ≤ b60 := Nat.le_trans K59.1 (Nat.le_of_eq gz_b60.symm)
          have hk60 := Nat.le_trans hk59 E60.1
          have K60 : Keep h0 h60 [] := K59.ext E60
          have O60 : Old Z n0 h60 := O59.ext E60
          have F_bytes_b60 : Fld Z h60 b60 "com/example/fillwire/fillwire/codec/ProtoReader" "bytes" "[B" .null := D60 (Or.inr (hw _ (List.mem_of_getElem? (i := 21) rfl))) (ty := (.array .byte)) (by decide)
          have F_position_b60 : Fld Z h60 b60 "com/example/fillwire/fillwire/codec/ProtoReader" "position" "I" (.int (0 : Int32)) := D60 (Or.inl (hw _ (List.mem_of_getElem? (i := 23) rfl))) (ty := .int) (by decide)
          have F_end_b60 : Fld Z h60 b60 "com/example/fillwire/fillwire/codec/ProtoReader" "end" "I" (.int (0 : Int32)) := D60 (Or.inr (hw _ (List.mem_of_getElem? (i := 25) rfl))) (ty := .int) (by decide)
          have F_name_b60 : Fld Z h60 b60 "com/example/fillwire/fillwire/codec/ProtoReader" "name" "Ljava/lang/String;" .null := D60 (Or.inr (hw _ (List.mem_of_getElem? (i := 27) rfl))) (ty := (.object "java/lang/String")) (by decide)
          have F_field_b60 : Fld Z h60 b60 "com/example/fillwire/fillwire/codec/ProtoReader" "field" "I" (.int (0 : Int32)) := D60 (Or.inl (hw _ (List.mem_of_getElem? (i := 57) rfl))) (ty := .int) (by decide)
          have F_wireType_b60 : Fld Z h60 b60 "com/example/fillwire/fillwire/codec/ProtoReader" "wireType" "I" (.int (0 : Int32)) := D60 (Or.inl (hw _ (List.mem_of_getElem? (i := 64) rfl))) (ty := .int) (by decide)
          refine OFin.st st60 ?_
          refine OFin.st (fun t k => XS.dup X60.here hx rfl (hb hby at_251) rfl rfl k) ?_
          refine OFin.st (fun t k => XS.aload X60.here hx rfl (hb hby at_252) rfl rfl k) ?_
          have wS62 : ∀ a ∈ Bundle.stringAtoms, a.before a0 Z = true := by
            intro a ha
            simp only [Bundle.stringAtoms, List.mem_cons, List.not_mem_nil, or_false] at ha
            rcases ha with rfl | rfl | rfl | rfl | rfl | rfl | rfl
            · exact (hw _ (List.mem_of_getElem? (i := 5) rfl))
            · exact (hw _ (List.mem_of_getElem? (i := 6) rfl))
            · exact (hw _ (List.mem_of_getElem? (i := 3) rfl))
            · exact (hw _ (List.mem_of_getElem? (i := 7) rfl))
            · exact (hw _ (List.mem_of_getElem? (i := 8) rfl))
            · exact (hw _ (List.mem_of_getElem? (i := 9) rfl))
            · exact (hw _ (List.mem_of_getElem? (i := 10) rfl))
          obtain ⟨a62, T62, h62, kz62, X62, e62, E62, hS62, hkq62, hZ, hown, st62⟩ := ldcS X60 hx hZ hown (hw _ (List.mem_of_getElem? (i := 4) rfl)) wS62 e60 hS3 hk60 (g := (mkF m 254 #[.val (.int p0), .val (.int p1), .val (.int p2), .val (.int p3), .val (.ref b1), .val (.int (1 : Int32)), .val (.long nn), .second, .val (.int (3 : Int32)), .val (.long key), .second, .val (.int kl), .val (.long ek), .second, .val (.int el), .val (.int lf), .val (.int el), .val (.ref b57), .unset, .unset, .unset, .unset] [(.ref b57), (.ref b60), (.ref b60)])) rfl (hb hby at_254) (n := 4) (by decide) (by decide) (by decide) (by decide)
          refine OFin.st st62 ?_
          have hk62 := Nat.le_trans hk60 E62.1
          have K62 : Keep h0 h62 [] := K60.ext E62
          have O62 : Old Z n0 h62 := O60.ext E62
          have hk62 := hkq62
          show OFin p e below _ _ T62 (mkF m 256 #[.val (.int p0), .val (.int p1), .val (.int p2), .val (.int p3), .val (.ref b1), .val (.int (1 : Int32)), .val (.long nn), .second, .val (.int (3 : Int32)), .val (.long key), .second, .val (.int kl), .val (.long ek), .second, .val (.int el), .val (.int lf), .val (.int el), .val (.ref b57), .unset, .unset, .unset, .unset] [(.ref a62), (.ref b57), (.ref b60), (.ref b60)])
          obtain ⟨_, _, ⟨T63, L63, k63, n63⟩, -, X63, ⟨Lc63, hQ63, l63, y63, z63⟩, st63⟩ := X62.specialBack hx (y := (⟨"com/example/fillwire/fillwire/codec/ProtoReader", "<init>", "([BLjava/lang/String;)V"⟩ : MethodName)) rfl hown (mvT hZ (hw _ (List.mem_of_getElem? (i := 11) rfl))) (mvT hZ (hw _ (List.mem_of_getElem? (i := 12) rfl))) (mvT hZ (hw _ (List.mem_of_getElem? (i := 13) rfl))) (by decide) (backOf (W := 1) (rm1 l Z a0 hw [] b60 b57 a62 .null (.int (0 : Int32)) (.int (0 : Int32)) .null (0 : Int32) (0 : Int32) k57 (pN (pN (List.replicate (kv + 1 + (ev + 1)) (.int (0 : Int32))) 0 (gf key kl) (kv + 1)) (kv + 1) (gf ek el) (ev + 1)) (kl + el) h62 n0 O62 (A60.ext E62) (F_bytes_b60.ext E62) (F_position_b60.ext E62) (F_end_b60.ext E62) (F_name_b60.ext E62) (F_field_b60.ext E62) (F_wireType_b60.ext E62) g_b60 ((P59_0.ext E60).ext E62) (by simp only [pN_len, List.length_set, List.length_replicate]; exact (own_e1 kl el kv (ev + 1) hkl hk9 (by omega) (by omega)))) hZ (hw _ (List.mem_of_getElem? (i := 13) rfl)) (hw _ (List.mem_of_getElem? (i := 2) rfl)) (by decide) (by decide)) (g := (mkF m 256 #[.val (.int p0), .val (.int p1), .val (.int p2), .val (.int p3), .val (.ref b1), .val (.int (1 : Int32)), .val (.long nn), .second, .val (.int (3 : Int32)), .val (.long key), .second, .val (.int kl), .val (.long ek), .second, .val (.int el), .val (.int lf), .val (.int el), .val (.ref b57), .unset, .unset, .unset, .unset] [(.ref a62), (.ref b57), (.ref b60), (.ref b60)])) rfl (by rw [hml]; rfl) (Steps.refl _) (a := b60) (argsL := [(.ref b57), (.ref a62)]) (rest := [(.ref b60)]) (lenOf pd_10 rfl) rfl (by show 2 * 0 + _ ≤ _; exact Nat.le_of_eq rfl) (hb hby at_256) (fun _ _ => ⟨rfl, e62, (by decide : 8 + 0 ≤ _), (by decide : 48 + 0 ≤ _)⟩)
          dsimp only [Pt.U, Pt.locs, Pt.cells, Pt.slots] at X63 l63 y63 z63 st63 hQ63
          subst l63 y63 z63
          obtain ⟨rfl, N63q, K63q, P63_0, P63_1, P63_2, P63_3, P63_4, P63_5⟩ := hQ63
          have N63 := Fr.app N59 N63q
          have hk63 := Nat.le_trans hk62 K63q.1
          have K63 : Keep h0 T63.heap [] := K62.trans K63q (allS (Or.inr sz_b60) all0)
          have O63 : Old Z n0 T63.heap := O62.keep K63q (allS g_b60 all0)
          refine OFin.tr st63 ?_
          refine OFin.st (fun t k => XS.astore X63.here hx rfl (hb hby at_259) rfl rfl (l' := #[.val (.int p0), .val (.int p1), .val (.int p2), .val (.int p3), .val (.ref b1), .val (.int (1 : Int32)), .val (.long nn), .second, .val (.int (3 : Int32)), .val (.long key), .second, .val (.int kl), .val (.long ek), .second, .val (.int el), .val (.int lf), .val (.int el), .val (.ref b57), .val (.ref b60), .unset, .unset, .unset]) rfl k) ?_
          refine OFin.st (fun t k => XS.aload X63.here hx rfl (hb hby at_261) rfl rfl k) ?_
          obtain ⟨cq64, kq64, q64a, q64b, q64c⟩ := isOf hZ rfl P63_0
          obtain ⟨_, _, ⟨T64, L64, k64, n64⟩, -, X64, ⟨Lc64, hQ64, l64, y64, z64⟩, st64⟩ := X63.virtualBack hx (y := (⟨"com/example/fillwire/fillwire/codec/ProtoReader", "next", "()Z"⟩ : MethodName)) (z := (⟨"com/example/fillwire/fillwire/codec/ProtoReader", "next", "()Z"⟩ : MethodName)) hown (mvT hZ (hw _ (List.mem_of_getElem? (i := 28) rfl))) (mvT hZ (hw _ (List.mem_of_getElem? (i := 29) rfl))) (notFace_of_selects (args := #[]) (mvT hZ (hw _ (List.mem_of_getElem? (i := 31) rfl)))) (mvT hZ (hw _ (List.mem_of_getElem? (i := 31) rfl))) (mvT hZ (hw _ (List.mem_of_getElem? (i := 30) rfl))) (by decide) (backOf (W := 0) (rm4k l Z a0 hw [] b60 b57 (0 : Int32) (kl + el) (0 : Int32) (0 : Int32) k57 (pN (pN (List.replicate (kv + 1 + (ev + 1)) (.int (0 : Int32))) 0 (gf key kl) (kv + 1)) (kv + 1) (gf ek el) (ev + 1)) (gf key kl) kv kW vW w_WIRE_TYPES T63.heap n0 O63 P63_0 P63_1 P63_2 P63_3 P63_4 P63_5 (((P59_0.ext E60).ext E62).keep K63q (ninS N_b57_b60 nin0)) g_b60 N_b57_b60 hk9 (own_gcn key kv kl hkl hk9) (own_gln key kv kl hkl hk9) (own_g9 key kv kl hkl hk9) (by decide) (by decide) (fun i hi => by rw [(by decide : (0 : Int32).toInt.toNat = 0)]; exact (by rw [pN_out _ _ _ _ _ (Or.inl (by omega))]; exact pN_in _ 0 _ _ i (by omega) (by rw [List.length_replicate]; omega))) (fun i hi => own_ne _ _ 0 (kv + 1 + (ev + 1)) i (by decide) (own_e1 kl el kv (ev + 1) hkl hk9 (by omega) (by omega)) (by omega) (by omega) (by have := own_lf lf hlf; omega)) (by rw [own_key key kv kl hkl hk9 hk0 hkb, (own_num key nn 3 hkey (by decide) hn).1]; exact (own_n0 nn hn).1) (by rw [own_key key kv kl hkl hk9 hk0 hkb, (own_num key nn 3 hkey (by decide) hn).1]; exact (own_n0 nn hn).2.1) (by rw [own_key key kv kl hkl hk9 hk0 hkb, Int32.lt_iff_toInt_lt, (own_num key nn 3 hkey (by decide) hn).2]; decide) hW6 (by rw [own_key key kv kl hkl hk9 hk0 hkb]; intro q; have z := (own_num key nn 3 hkey (by decide) hn).2; rw [q] at z; exact absurd z (by decide)) A_w_WIRE_TYPES S_WIRE_TYPES) hZ (hw _ (List.mem_of_getElem? (i := 32) rfl)) (hw _ (List.mem_of_getElem? (i := 2) rfl)) (by decide) (by decide)) q64a q64c (g := (mkF m 263 #[.val (.int p0), .val (.int p1), .val (.int p2), .val (.int p3), .val (.ref b1), .val (.int (1 : Int32)), .val (.long nn), .second, .val (.int (3 : Int32)), .val (.long key), .second, .val (.int kl), .val (.long ek), .second, .val (.int el), .val (.int lf), .val (.int el), .val (.ref b57), .val (.ref b60), .unset, .unset, .unset] [(.ref b60)])) rfl (by rw [hml]; rfl) (Steps.refl _) (argsL := []) (rest := []) (lenOf pd_3 rfl) rfl (by show 2 * 0 + _ ≤ _; exact Nat.le_of_eq rfl) (hb hby at_263) (fun _ _ => ⟨rfl, rfl, (by decide : 8 + 0 ≤ _), (by decide : 48 + 0 ≤ _)⟩)
          dsimp only [Pt.U, Pt.locs, Pt.cells, Pt.slots] at X64 l64 y64 z64 st64 hQ64
          subst l64 y64 z64
          obtain ⟨rfl, N64q, K64q, P64_0, P64_1, P64_2, P64_3, P64_4, P64_5⟩ := hQ64
          have N64 := Fr.app N63 N64q
          have hk64 := Nat.le_trans hk63 K64q.1
          have K64 : Keep h0 T64.heap [] := K63.trans K64q (allS (Or.inr sz_b60) all0)
          have O64 : Old Z n0 T64.heap := O63.keep K64q (allS g_b60 all0)
          refine OFin.tr st64 ?_
          have Rs65 : Fld Z T64.heap b60 "com/example/fillwire/fillwire/codec/ProtoReader" "field" "I" (.int (nn.toInt32)) := (by have q := P64_4; rw [own_key key kv kl hkl hk9 hk0 hkb, (own_num key nn 3 hkey (by decide) hn).1] at q; exact q)
          have Rs66 : Fld Z T64.heap b60 "com/example/fillwire/fillwire/codec/ProtoReader" "wireType" "I" (.int (3 : Int32)) := (by have q := P64_5; rw [own_key key kv kl hkl hk9 hk0 hkb, (Int32.toInt_inj.mp (by rw [(own_num key nn 3 hkey (by decide) hn).2]; decide) : ((key.toInt32) &&& (7 : Int32)) = (3 : Int32))] at q; exact q)
          show OFin p e below _ _ T64 (mkF m 266 #[.val (.int p0), .val (.int p1), .val (.int p2), .val (.int p3), .val (.ref b1), .val (.int (1 : Int32)), .val (.long nn), .second, .val (.int (3 : Int32)), .val (.long key), .second, .val (.int kl), .val (.long ek), .second, .val (.int el), .val (.int lf), .val (.int el), .val (.ref b57), .val (.ref b60), .unset, .unset, .unset] [(.int (1 : Int32))])
          refine OFin.st (fun t k => XS.istore X64.here hx rfl (hb hby at_266) rfl (l' := #[.val (.int p0), .val (.int p1), .val (.int p2), .val (.int p3), .val (.ref b1), .val (.int (1 : Int32)), .val (.long nn), .second, .val (.int (3 : Int32)), .val (.long key), .second, .val (.int kl), .val (.long ek), .second, .val (.int el), .val (.int lf), .val (.int el), .val (.ref b57), .val (.ref b60), .val (.int (1 : Int32)), .unset, .unset]) rfl k) ?_
          refine OFin.st (fun t k => XS.aload X64.here hx rfl (hb hby at_268) rfl rfl k) ?_
          obtain ⟨cq67, kq67, q67a, q67b, q67c⟩ := isOf hZ rfl P64_0
          obtain ⟨_, _, ⟨T67, L67, k67, n67⟩, -, X67, ⟨Lc67, hQ67, l67, y67, z67⟩, st67⟩ := X64.virtualBack hx (y := (⟨"com/example/fillwire/fillwire/codec/ProtoReader", "field", "()I"⟩ : MethodName)) (z := (⟨"com/example/fillwire/fillwire/codec/ProtoReader", "field", "()I"⟩ : MethodName)) hown (mvT hZ (hw _ (List.mem_of_getElem? (i := 67) rfl))) (mvT hZ (hw _ (List.mem_of_getElem? (i := 68) rfl))) (notFace_of_selects (args := #[]) (mvT hZ (hw _ (List.mem_of_getElem? (i := 70) rfl)))) (mvT hZ (hw _ (List.mem_of_getElem? (i := 70) rfl))) (mvT hZ (hw _ (List.mem_of_getElem? (i := 69) rfl))) (by decide) (backOf (W := 0) (rm11 l Z a0 hw [] b60 (nn.toInt32) T64.heap n0 O64 Rs65) hZ (hw _ (List.mem_of_getElem? (i := 71) rfl)) (hw _ (List.mem_of_getElem? (i := 2) rfl)) (by decide) (by decide)) q67a q67c (g := (mkF m 270 #[.val (.int p0), .val (.int p1), .val (.int p2), .val (.int p3), .val (.ref b1), .val (.int (1 : Int32)), .val (.long nn), .second, .val (.int (3 : Int32)), .val (.long key), .second, .val (.int kl), .val (.long ek), .second, .val (.int el), .val (.int lf), .val (.int el), .val (.ref b57), .val (.ref b60), .val (.int (1 : Int32)), .unset, .unset] [(.ref b60)])) rfl (by rw [hml]; rfl) (Steps.refl _) (argsL := []) (rest := []) (lenOf pd_0 rfl) rfl (by show 2 * 0 + _ ≤ _; exact Nat.le_of_eq rfl) (hb hby at_270) (fun _ _ => ⟨rfl, rfl, (by decide : 8 + 0 ≤ _), (by decide : 48 + 0 ≤ _)⟩)
          dsimp only [Pt.U, Pt.locs, Pt.cells, Pt.slots] at X67 l67 y67 z67 st67 hQ67
          subst l67 y67 z67
          obtain ⟨rfl, N67q, e67⟩ := hQ67
          have N67 := Fr.app N64 N67q
          refine OFin.tr st67 ?_
          refine OFin.st (fun t k => XS.istore X67.here hx rfl (hb hby at_273) rfl (l' := #[.val (.int p0), .val (.int p1), .val (.int p2), .val (.int p3), .val (.ref b1), .val (.int (1 : Int32)), .val (.long nn), .second, .val (.int (3 : Int32)), .val (.long key), .second, .val (.int kl), .val (.long ek), .second, .val (.int el), .val (.int lf), .val (.int el), .val (.ref b57), .val (.ref b60), .val (.int (1 : Int32)), .val (.int (F11 b60 (nn.toInt32))), .unset]) rfl k) ?_
          show OFin p e below _ _ T67 (mkF m 275 #[.val (.int p0), .val (.int p1), .val (.int p2), .val (.int p3), .val (.ref b1), .val (.int (1 : Int32)), .val (.long nn), .second, .val (.int (3 : Int32)), .val (.long key), .second, .val (.int kl), .val (.long ek), .second, .val (.int el), .val (.int lf), .val (.int el), .val (.ref b57), .val (.ref b60), .val (.int (1 : Int32)), .val (.int (F11 b60 (nn.toInt32))), .unset] [])
          refine OFin.st (fun t k => XS.aload X67.here hx rfl (hb hby at_275) rfl rfl k) ?_
          have c68 := ((((P59_0.ext E60).ext E62).keep K63q (ninS N_b57_b60 nin0)).keep K64q (ninS N_b57_b60 nin0))
          obtain ⟨cq69, kq69, q69a, q69b, q69c⟩ := isOf hZ e67 P64_0
          obtain ⟨_, _, ⟨T69, L69, k69, n69⟩, -, X69, ⟨Lc69, hQ69, l69, y69, z69⟩, st69⟩ := X67.virtualBack hx (y := (⟨"com/example/fillwire/fillwire/codec/ProtoReader", "skip", "()V"⟩ : MethodName)) (z := (⟨"com/example/fillwire/fillwire/codec/ProtoReader", "skip", "()V"⟩ : MethodName)) hown (mvT hZ (hw _ (List.mem_of_getElem? (i := 72) rfl))) (mvT hZ (hw _ (List.mem_of_getElem? (i := 73) rfl))) (notFace_of_selects (args := #[]) (mvT hZ (hw _ (List.mem_of_getElem? (i := 75) rfl)))) (mvT hZ (hw _ (List.mem_of_getElem? (i := 75) rfl))) (mvT hZ (hw _ (List.mem_of_getElem? (i := 74) rfl))) (by decide) (backOf (W := 0) (rm12t3 l Z a0 hw [] b60 b57 (vpo (0 : Int32) (kv + 1)) (kl + el) (nn.toInt32) k57 (pN (pN (List.replicate (kv + 1 + (ev + 1)) (.int (0 : Int32))) 0 (gf key kl) (kv + 1)) (kv + 1) (gf ek el) (ev + 1)) (gf ek el) ev kW vW w_WIRE_TYPES T64.heap n0 O64 P64_0 P64_1 P64_2 P64_3 Rs65 Rs66 c68 g_b60 N_b57_b60 he9 (own_gcn ek ev el hel he9) (own_gln ek ev el hel he9) (own_g9 ek ev el hel he9) (by have := (own_vp 0 (kv + 1) (0 : Int32) (by decide) (by omega) (by omega)); omega) (by have := (own_vp 0 (kv + 1) (0 : Int32) (by decide) (by omega) (by omega)); omega) (fun i hi => by rw [(own_vp 0 (kv + 1) (0 : Int32) (by decide) (by omega) (by omega)), (by omega : ((0 + (kv + 1) : Nat) : Int).toNat + i = (kv + 1) + i)]; exact pN_in _ _ _ _ i (by omega) (by simp only [pN_len, List.length_replicate]; omega)) (fun i hi => own_ne _ _ (0 + (kv + 1)) (kv + 1 + (ev + 1)) i (own_vp 0 (kv + 1) (0 : Int32) (by decide) (by omega) (by omega)) (own_e1 kl el kv (ev + 1) hkl hk9 (by omega) (by omega)) (by omega) (by omega) (by have := own_lf lf hlf; omega)) (by rw [own_key ek ev el hel he9 he0 heb, (own_num ek nn 4 hek (by decide) hn).1]; exact (own_n0 nn hn).1) (by rw [own_key ek ev el hel he9 he0 heb, (own_num ek nn 4 hek (by decide) hn).1]; exact (own_n0 nn hn).2.1) (by rw [own_key ek ev el hel he9 he0 heb, Int32.lt_iff_toInt_lt, (own_num ek nn 4 hek (by decide) hn).2]; decide) hW6 (by rw [own_key ek ev el hel he9 he0 heb]; exact Int32.toInt_inj.mp (by rw [(own_num ek nn 4 hek (by decide) hn).2]; decide)) (by rw [own_key ek ev el hel he9 he0 heb, (own_num ek nn 4 hek (by decide) hn).1]) A_w_WIRE_TYPES S_WIRE_TYPES) hZ (hw _ (List.mem_of_getElem? (i := 76) rfl)) (hw _ (List.mem_of_getElem? (i := 2) rfl)) (by decide) (by decide)) q69a q69c (g := (mkF m 277 #[.val (.int p0), .val (.int p1), .val (.int p2), .val (.int p3), .val (.ref b1), .val (.int (1 : Int32)), .val (.long nn), .second, .val (.int (3 : Int32)), .val (.long key), .second, .val (.int kl), .val (.long ek), .second, .val (.int el), .val (.int lf), .val (.int el), .val (.ref b57), .val (.ref b60), .val (.int (1 : Int32)), .val (.int (F11 b60 (nn.toInt32))), .unset] [(.ref b60)])) rfl (by rw [hml]; rfl) (Steps.refl _) (argsL := []) (rest := []) (lenOf pd_2 rfl) rfl (by show 2 * 0 + _ ≤ _; exact Nat.le_of_eq rfl) (hb hby at_277) (fun _ _ => ⟨rfl, e67, (by decide : 8 + 0 ≤ _), (by decide : 48 + 0 ≤ _)⟩)
          dsimp only [Pt.U, Pt.locs, Pt.cells, Pt.slots] at X69 l69 y69 z69 st69 hQ69
          subst l69 y69 z69
          obtain ⟨rfl, N69q, K69q, P69_0, P69_1, P69_2, P69_3, P69_4, P69_5⟩ := hQ69
          have N69 := Fr.app N67 N69q
          have hk69 := Nat.le_trans hk64 K69q.1
          have K69 : Keep h0 T69.heap [] := K64.trans K69q (allS (Or.inr sz_b60) all0)
          have O69 : Old Z n0 T69.heap := O64.keep K69q (allS g_b60 all0)
          refine OFin.tr st69 ?_
          have Rs70e : (vpo (vpo (0 : Int32) (kv + 1)) (ev + 1)) = (kl + el) := Int32.toInt_inj.mp (by have y := (own_e1 kl el kv (ev + 1) hkl hk9 (by omega) (by omega)); have d := (own_vp 0 (kv + 1) (0 : Int32) (by decide) (by omega) (by omega)); have f := own_vp (0 + (kv + 1)) (ev + 1) (vpo (0 : Int32) (kv + 1)) (own_vp 0 (kv + 1) (0 : Int32) (by decide) (by omega) (by omega)) (by omega) (by omega); omega)
          have Rs70 : Fld Z T69.heap b60 "com/example/fillwire/fillwire/codec/ProtoReader" "position" "I" (.int (kl + el)) := (by have q := P69_2; rw [Rs70e] at q; exact q)
          refine OFin.st (fun t k => XS.aload X69.here hx rfl (hb hby at_280) rfl rfl k) ?_
          obtain ⟨cq71, kq71, q71a, q71b, q71c⟩ := isOf hZ rfl P69_0
          obtain ⟨_, _, ⟨T71, L71, k71, n71⟩, -, X71, ⟨Lc71, hQ71, l71, y71, z71⟩, st71⟩ := X69.virtualBack hx (y := (⟨"com/example/fillwire/fillwire/codec/ProtoReader", "next", "()Z"⟩ : MethodName)) (z := (⟨"com/example/fillwire/fillwire/codec/ProtoReader", "next", "()Z"⟩ : MethodName)) hown (mvT hZ (hw _ (List.mem_of_getElem? (i := 28) rfl))) (mvT hZ (hw _ (List.mem_of_getElem? (i := 29) rfl))) (notFace_of_selects (args := #[]) (mvT hZ (hw _ (List.mem_of_getElem? (i := 31) rfl)))) (mvT hZ (hw _ (List.mem_of_getElem? (i := 31) rfl))) (mvT hZ (hw _ (List.mem_of_getElem? (i := 30) rfl))) (by decide) (backOf (W := 0) (rm4e l Z a0 hw [] b60 (kl + el) T69.heap n0 O69 P69_0 Rs70 P69_3) hZ (hw _ (List.mem_of_getElem? (i := 32) rfl)) (hw _ (List.mem_of_getElem? (i := 2) rfl)) (by decide) (by decide)) q71a q71c (g := (mkF m 282 #[.val (.int p0), .val (.int p1), .val (.int p2), .val (.int p3), .val (.ref b1), .val (.int (1 : Int32)), .val (.long nn), .second, .val (.int (3 : Int32)), .val (.long key), .second, .val (.int kl), .val (.long ek), .second, .val (.int el), .val (.int lf), .val (.int el), .val (.ref b57), .val (.ref b60), .val (.int (1 : Int32)), .val (.int (F11 b60 (nn.toInt32))), .unset] [(.ref b60)])) rfl (by rw [hml]; rfl) (Steps.refl _) (argsL := []) (rest := []) (lenOf pd_3 rfl) rfl (by show 2 * 0 + _ ≤ _; exact Nat.le_of_eq rfl) (hb hby at_282) (fun _ _ => ⟨rfl, rfl, (by decide : 8 + 0 ≤ _), (by decide : 48 + 0 ≤ _)⟩)
          dsimp only [Pt.U, Pt.locs, Pt.cells, Pt.slots] at X71 l71 y71 z71 st71 hQ71
          subst l71 y71 z71
          obtain ⟨rfl, N71q, e71⟩ := hQ71
          have N71 := Fr.app N69 N71q
          refine OFin.tr st71 ?_
          show OFin p e below _ _ T71 (mkF m 285 #[.val (.int p0), .val (.int p1), .val (.int p2), .val (.int p3), .val (.ref b1), .val (.int (1 : Int32)), .val (.long nn), .second, .val (.int (3 : Int32)), .val (.long key), .second, .val (.int kl), .val (.long ek), .second, .val (.int el), .val (.int lf), .val (.int el), .val (.ref b57), .val (.ref b60), .val (.int (1 : Int32)), .val (.int (F11 b60 (nn.toInt32))), .unset] [(.int (F4e b60 (kl + el)))])
          refine OFin.st (fun t k => XS.istore X71.here hx rfl (hb hby at_285) rfl (l' := #[.val (.int p0), .val (.int p1), .val (.int p2), .val (.int p3), .val (.ref b1), .val (.int (1 : Int32)), .val (.long nn), .second, .val (.int (3 : Int32)), .val (.long key), .second, .val (.int kl), .val (.long ek), .second, .val (.int el), .val (.int lf), .val (.int el), .val (.ref b57), .val (.ref b60), .val (.int (1 : Int32)), .val (.int (F11 b60 (nn.toInt32))), .val (.int (F4e b60 (kl + el)))]) rfl k) ?_
          refine OFin.st (fun t k => XS.iload X71.here hx rfl (hb hby at_287) rfl k) ?_
          refine OFin.st (fun t k => XS.ifNo X71.here hx rfl (hb hby at_289) rfl ((if0 _ _).trans (feq (by decide : ¬ ((1 : Int32) = (0 : Int32)))).1) k) ?_
          show OFin p e below _ _ T71 (mkF m 292 #[.val (.int p0), .val (.int p1), .val (.int p2), .val (.int p3), .val (.ref b1), .val (.int (1 : Int32)), .val (.long nn), .second, .val (.int (3 : Int32)), .val (.long key), .second, .val (.int kl), .val (.long ek), .second, .val (.int el), .val (.int lf), .val (.int el), .val (.ref b57), .val (.ref b60), .val (.int (1 : Int32)), .val (.int (F11 b60 (nn.toInt32))), .val (.int (F4e b60 (kl + el)))] [])
          refine OFin.st (fun t k => XS.iload X71.here hx rfl (hb hby at_292) rfl k) ?_
          refine OFin.st (fun t k => XS.ifNo X71.here hx rfl (hb hby at_294) rfl ((if0 _ _).trans (feq (by decide : ¬ ((1 : Int32) = (0 : Int32)))).1) k) ?_
          show OFin p e below _ _ T71 (mkF m 297 #[.val (.int p0), .val (.int p1), .val (.int p2), .val (.int p3), .val (.ref b1), .val (.int (1 : Int32)), .val (.long nn), .second, .val (.int (3 : Int32)), .val (.long key), .second, .val (.int kl), .val (.long ek), .second, .val (.int el), .val (.int lf), .val (.int el), .val (.ref b57), .val (.ref b60), .val (.int (1 : Int32)), .val (.int (F11 b60 (nn.toInt32))), .val (.int (F4e b60 (kl + el)))] [])
          refine OFin.st (fun t k => XS.iload X71.here hx rfl (hb hby at_297) rfl k) ?_
          show OFin p e below _ _ T71 (mkF m 299 #[.val (.int p0), .val (.int p1), .val (.int p2), .val (.int p3), .val (.ref b1), .val (.int (1 : Int32)), .val (.long nn), .second, .val (.int (3 : Int32)), .val (.long key), .second, .val (.int kl), .val (.long ek), .second, .val (.int el), .val (.int lf), .val (.int el), .val (.ref b57), .val (.ref b60), .val (.int (1 : Int32)), .val (.int (F11 b60 (nn.toInt32))), .val (.int (F4e b60 (kl + el)))] [(.int (F11 b60 (nn.toInt32)))])
          refine OFin.st (fun t k => XS.i2l X71.here hx rfl (hb hby at_299) rfl k) ?_
          refine OFin.st (fun t k => XS.lload X71.here hx rfl (hb hby at_300) rfl k) ?_
          refine OFin.st (fun t k => XS.lcmp X71.here hx rfl (hb hby at_302) rfl k) ?_
          refine OFin.st (fun t k => XS.ifNo X71.here hx rfl (hb hby at_303) rfl ((if0 _ _).trans (teq ((lw_eq ((F11 b60 (nn.toInt32)).toInt64) nn).mpr (own_n0 nn hn).2.2)).2) k) ?_
          show OFin p e below _ _ T71 (mkF m 306 #[.val (.int p0), .val (.int p1), .val (.int p2), .val (.int p3), .val (.ref b1), .val (.int (1 : Int32)), .val (.long nn), .second, .val (.int (3 : Int32)), .val (.long key), .second, .val (.int kl), .val (.long ek), .second, .val (.int el), .val (.int lf), .val (.int el), .val (.ref b57), .val (.ref b60), .val (.int (1 : Int32)), .val (.int (F11 b60 (nn.toInt32))), .val (.int (F4e b60 (kl + el)))] [])
          refine OFin.st (fun t k => XS.iload X71.here hx rfl (hb hby at_306) rfl k) ?_
          show OFin p e below _ _ T71 (mkF m 308 #[.val (.int p0), .val (.int p1), .val (.int p2), .val (.int p3), .val (.ref b1), .val (.int (1 : Int32)), .val (.long nn), .second, .val (.int (3 : Int32)), .val (.long key), .second, .val (.int kl), .val (.long ek), .second, .val (.int el), .val (.int lf), .val (.int el), .val (.ref b57), .val (.ref b60), .val (.int (1 : Int32)), .val (.int (F11 b60 (nn.toInt32))), .val (.int (F4e b60 (kl + el)))] [(.int (F4e b60 (kl + el)))])
          refine OFin.st (fun t k => XS.ifNo X71.here hx rfl (hb hby at_308) rfl ((if0 _ _).trans (teq rfl).2) k) ?_
          show OFin p e below _ _ T71 (mkF m 311 #[.val (.int p0), .val (.int p1), .val (.int p2), .val (.int p3), .val (.ref b1), .val (.int (1 : Int32)), .val (.long nn), .second, .val (.int (3 : Int32)), .val (.long key), .second, .val (.int kl), .val (.long ek), .second, .val (.int el), .val (.int lf), .val (.int el), .val (.ref b57), .val (.ref b60), .val (.int (1 : Int32)), .val (.int (F11 b60 (nn.toInt32))), .val (.int (F4e b60 (kl + el)))] [])
          refine OFin.st (fun t k => XS.iconst X71.here hx rfl (hb hby at_311) k) ?_
          refine OFin.st (fun t k => XS.goto X71.here hx rfl (pc0 := 312) (pc' := 316) rfl (hb hby at_312) (by decide) (by decide) k) ?_
          exact own_retN X71 hx Bd.returns Bd.notSynchronized (t := .boolean) (by simp) rfl (hb hby at_316) (by show Qrm0 Z p0 p1 p2 p3 kW vW w_WIRE_TYPES h0 n0 _ T71.heap _; rw [e71]; exact ⟨rfl, N71, K69⟩) (own_endW hS62 (by rw [e71]; exact hk69) (by decide) (by decide))
        · show OFin p e below _ _ T11 (mkF m 128 #[.val (.int p0), .val (.int p1), .val (.int p2), .val (.int p3), .val (.ref b1), .val (.int (1 : Int32)), .val (.long nn), .second, .val (.int (5 : Int32)), .val (.long key), .second, .val (.int kl), .val (.long ek), .second, .val (.int el), .val (.int lf), .unset, .unset, .unset, .unset, .unset, .unset] [])
          refine OFin.st (fun t k => XS.iload X11.here hx rfl (hb hby at_128) rfl k) ?_
          refine OFin.st (fun t k => XS.ifYes X11.here hx rfl (pc0 := 130) (pc' := 139) rfl (hb hby at_130) rfl ((if0 _ _).trans (feq (by decide : ¬ ((5 : Int32) = (0 : Int32)))).2) (by decide) (by decide) k) ?_
          show OFin p e below _ _ T11 (mkF m 139 #[.val (.int p0), .val (.int p1), .val (.int p2), .val (.int p3), .val (.ref b1), .val (.int (1 : Int32)), .val (.long nn), .second, .val (.int (5 : Int32)), .val (.long key), .second, .val (.int kl), .val (.long ek), .second, .val (.int el), .val (.int lf), .unset, .unset, .unset, .unset, .unset, .unset] [])
          refine OFin.st (fun t k => XS.iload X11.here hx rfl (hb hby at_139) rfl k) ?_
          show OFin p e below _ _ T11 (mkF m 141 #[.val (.int p0), .val (.int p1), .val (.int p2), .val (.int p3), .val (.ref b1), .val (.int (1 : Int32)), .val (.long nn), .second, .val (.int (5 : Int32)), .val (.long key), .second, .val (.int kl), .val (.long ek), .second, .val (.int el), .val (.int lf), .unset, .unset, .unset, .unset, .unset, .unset] [(.int (5 : Int32))])
          refine OFin.st (fun t k => XS.iconst X11.here hx rfl (hb hby at_141) k) ?_
          refine OFin.st (fun t k => XS.icmpYes X11.here hx rfl (pc0 := 142) (pc' := 152) rfl (hb hby at_142) rfl (feq (by decide : ¬ ((5 : Int32) = (1 : Int32)))).2 (by decide) (by decide) k) ?_
          show OFin p e below _ _ T11 (mkF m 152 #[.val (.int p0), .val (.int p1), .val (.int p2), .val (.int p3), .val (.ref b1), .val (.int (1 : Int32)), .val (.long nn), .second, .val (.int (5 : Int32)), .val (.long key), .second, .val (.int kl), .val (.long ek), .second, .val (.int el), .val (.int lf), .unset, .unset, .unset, .unset, .unset, .unset] [])
          refine OFin.st (fun t k => XS.iload X11.here hx rfl (hb hby at_152) rfl k) ?_
          refine OFin.st (fun t k => XS.iconst X11.here hx rfl (hb hby at_154) k) ?_
          refine OFin.st (fun t k => XS.icmpYes X11.here hx rfl (pc0 := 155) (pc' := 167) rfl (hb hby at_155) rfl (feq (by decide : ¬ ((5 : Int32) = (2 : Int32)))).2 (by decide) (by decide) k) ?_
          show OFin p e below _ _ T11 (mkF m 167 #[.val (.int p0), .val (.int p1), .val (.int p2), .val (.int p3), .val (.ref b1), .val (.int (1 : Int32)), .val (.long nn), .second, .val (.int (5 : Int32)), .val (.long key), .second, .val (.int kl), .val (.long ek), .second, .val (.int el), .val (.int lf), .unset, .unset, .unset, .unset, .unset, .unset] [])
          refine OFin.st (fun t k => XS.iload X11.here hx rfl (hb hby at_167) rfl k) ?_
          show OFin p e below _ _ T11 (mkF m 169 #[.val (.int p0), .val (.int p1), .val (.int p2), .val (.int p3), .val (.ref b1), .val (.int (1 : Int32)), .val (.long nn), .second, .val (.int (5 : Int32)), .val (.long key), .second, .val (.int kl), .val (.long ek), .second, .val (.int el), .val (.int lf), .unset, .unset, .unset, .unset, .unset, .unset] [(.int (5 : Int32))])
          refine OFin.st (fun t k => XS.iconst X11.here hx rfl (hb hby at_169) k) ?_
          refine OFin.st (fun t k => XS.icmpYes X11.here hx rfl (pc0 := 170) (pc' := 180) rfl (hb hby at_170) rfl (feq (by decide : ¬ ((5 : Int32) = (3 : Int32)))).2 (by decide) (by decide) k) ?_
          show OFin p e below _ _ T11 (mkF m 180 #[.val (.int p0), .val (.int p1), .val (.int p2), .val (.int p3), .val (.ref b1), .val (.int (1 : Int32)), .val (.long nn), .second, .val (.int (5 : Int32)), .val (.long key), .second, .val (.int kl), .val (.long ek), .second, .val (.int el), .val (.int lf), .unset, .unset, .unset, .unset, .unset, .unset] [])
          refine OFin.st (fun t k => XS.iconst X11.here hx rfl (hb hby at_180) k) ?_
          refine OFin.st (fun t k => XS.istore X11.here hx rfl (hb hby at_181) rfl (l' := #[.val (.int p0), .val (.int p1), .val (.int p2), .val (.int p3), .val (.ref b1), .val (.int (1 : Int32)), .val (.long nn), .second, .val (.int (5 : Int32)), .val (.long key), .second, .val (.int kl), .val (.long ek), .second, .val (.int el), .val (.int lf), .val (.int (4 : Int32)), .unset, .unset, .unset, .unset, .unset]) rfl k) ?_
          refine OFin.st (fun t k => XS.iload X11.here hx rfl (hb hby at_183) rfl k) ?_
          show OFin p e below _ _ T11 (mkF m 185 #[.val (.int p0), .val (.int p1), .val (.int p2), .val (.int p3), .val (.ref b1), .val (.int (1 : Int32)), .val (.long nn), .second, .val (.int (5 : Int32)), .val (.long key), .second, .val (.int kl), .val (.long ek), .second, .val (.int el), .val (.int lf), .val (.int (4 : Int32)), .unset, .unset, .unset, .unset, .unset] [(.int kl)])
          refine OFin.st (fun t k => XS.iload X11.here hx rfl (hb hby at_185) rfl k) ?_
          refine OFin.st (fun t k => XS.iadd X11.here hx rfl (hb hby at_187) rfl k) ?_
          obtain ⟨T72, h72, k72, X72, e72, E72, A72, st72⟩ := own_newP X11 hx hZ (hw _ (List.mem_of_getElem? (i := 3) rfl)) e11 (z := (kl + (4 : Int32))) (n := (kv + 1 + 4)) (cap := 20) (own_e1 kl (4 : Int32) kv 4 hkl hk9 (by decide) (by decide)) (by have := own_lf lf hlf; omega) (by decide) (by decide) (by decide) (pc := 188) (Ls := #[.val (.int p0), .val (.int p1), .val (.int p2), .val (.int p3), .val (.ref b1), .val (.int (1 : Int32)), .val (.long nn), .second, .val (.int (5 : Int32)), .val (.long key), .second, .val (.int kl), .val (.long ek), .second, .val (.int el), .val (.int lf), .val (.int (4 : Int32)), .unset, .unset, .unset, .unset, .unset]) (rest := []) (hb hby at_188)
          obtain ⟨b72, gz_b72⟩ : ∃ z, z = T4.heap.size := ⟨_, rfl⟩
          rw [← gz_b72] at A72 st72
          have N_b1_b72 : b1 ≠ b72 := Nat.ne_of_lt (Nat.lt_of_lt_of_le P4_0.lt (Nat.le_of_eq gz_b72.symm))
          have N_b2_b72 : b2 ≠ b72 := Nat.ne_of_lt (Nat.lt_of_lt_of_le ((V2.ext E3).keep K4q (ninS (Ne.symm N_b1_b2) nin0)).lt (Nat.le_of_eq gz_b72.symm))
          have g_b72 : n0 ≤ b72 := Nat.le_trans (Nat.le_trans (Nat.le_of_eq O4.1.symm) O4.2.1) (Nat.le_of_eq gz_b72.symm)
          have sz_b72 : h0.size ≤ b72 := Nat.le_trans K4.1 (Nat.le_of_eq gz_b72.symm)
          have hk72 := Nat.le_trans hk4 E72.1
          have K72 : Keep h0 h72 [] := K4.ext E72
          have O72 : Old Z n0 h72 := O4.ext E72
          have V72 : Oar Z h72 b72 k72 .byte (List.replicate (kv + 1 + 4) (.int (0 : Int32))) := A72
          refine OFin.st st72 ?_
          refine OFin.st (fun t k => XS.astore X72.here hx rfl (hb hby at_190) rfl rfl (l' := #[.val (.int p0), .val (.int p1), .val (.int p2), .val (.int p3), .val (.ref b1), .val (.int (1 : Int32)), .val (.long nn), .second, .val (.int (5 : Int32)), .val (.long key), .second, .val (.int kl), .val (.long ek), .second, .val (.int el), .val (.int lf), .val (.int (4 : Int32)), .val (.ref b72), .unset, .unset, .unset, .unset]) rfl k) ?_
          show OFin p e below _ _ T72 (mkF m 192 #[.val (.int p0), .val (.int p1), .val (.int p2), .val (.int p3), .val (.ref b1), .val (.int (1 : Int32)), .val (.long nn), .second, .val (.int (5 : Int32)), .val (.long key), .second, .val (.int kl), .val (.long ek), .second, .val (.int el), .val (.int lf), .val (.int (4 : Int32)), .val (.ref b72), .unset, .unset, .unset, .unset] [])
          refine OFin.st (fun t k => XS.aload X72.here hx rfl (hb hby at_192) rfl rfl k) ?_
          refine OFin.st (fun t k => XS.iconst X72.here hx rfl (hb hby at_194) k) ?_
          refine OFin.st (fun t k => XS.lload X72.here hx rfl (hb hby at_195) rfl k) ?_
          refine OFin.st (fun t k => XS.iload X72.here hx rfl (hb hby at_197) rfl k) ?_
          show OFin p e below _ _ T72 (mkF m 199 #[.val (.int p0), .val (.int p1), .val (.int p2), .val (.int p3), .val (.ref b1), .val (.int (1 : Int32)), .val (.long nn), .second, .val (.int (5 : Int32)), .val (.long key), .second, .val (.int kl), .val (.long ek), .second, .val (.int el), .val (.int lf), .val (.int (4 : Int32)), .val (.ref b72), .unset, .unset, .unset, .unset] [(.int kl), (.long key), (.int (0 : Int32)), (.ref b72)])
          obtain ⟨_, _, ⟨T73, L73, k73, n73⟩, -, X73, ⟨Lc73, hQ73, l73, y73, z73⟩, st73⟩ := Jvm.LawKit.callS X72 hx (y := (⟨"com/example/fillwire/fillwire/codec/ProtoReaderNextPinLaw", "put", "([BIJI)V"⟩ : MethodName)) hown (mvT hZ (hw _ (List.mem_of_getElem? (i := 45) rfl))) (mvT hZ (hw _ (List.mem_of_getElem? (i := 46) rfl))) (mvT hZ (hw _ (List.mem_of_getElem? (i := 37) rfl))) (mvT hZ (hw _ (List.mem_of_getElem? (i := 47) rfl))) (by decide) (backOf (W := 0) (rm7 l Z a0 hw [] b72 (0 : Int32) key kl k72 (List.replicate (kv + 1 + 4) (.int (0 : Int32))) 0 (kv + 1) h72 n0 O72 V72 g_b72 (by decide) (by omega) (by omega) (by omega) (by rw [List.length_replicate]; omega) (by rw [List.length_replicate]; have := own_lf lf hlf; omega)) hZ (hw _ (List.mem_of_getElem? (i := 47) rfl)) (hw _ (List.mem_of_getElem? (i := 37) rfl)) (by decide) (by decide)) (g := (mkF m 199 #[.val (.int p0), .val (.int p1), .val (.int p2), .val (.int p3), .val (.ref b1), .val (.int (1 : Int32)), .val (.long nn), .second, .val (.int (5 : Int32)), .val (.long key), .second, .val (.int kl), .val (.long ek), .second, .val (.int el), .val (.int lf), .val (.int (4 : Int32)), .val (.ref b72), .unset, .unset, .unset, .unset] [(.int kl), (.long key), (.int (0 : Int32)), (.ref b72)])) rfl (by rw [hml]; rfl) (argsL := [(.ref b72), (.int (0 : Int32)), (.long key), (.int kl)]) (rest := []) (lenOf pd_9 rfl) rfl (by show 2 * 0 + _ ≤ _; exact Nat.le_of_eq rfl) (hb hby at_199) (fun _ _ => ⟨rfl, e72, (by decide : 5 + 0 ≤ _), (by decide : 34 + 0 ≤ _)⟩)
          dsimp only [Pt.U, Pt.locs, Pt.cells, Pt.slots] at X73 l73 y73 z73 st73 hQ73
          subst l73 y73 z73
          obtain ⟨rfl, N73q, K73q, P73_0⟩ := hQ73
          have N73 := Fr.app N11 N73q
          have hk73 := Nat.le_trans hk72 K73q.1
          have K73 : Keep h0 T73.heap [] := K72.trans K73q (allS (Or.inr sz_b72) all0)
          have O73 : Old Z n0 T73.heap := O72.keep K73q (allS g_b72 all0)
          refine OFin.st st73 ?_
          refine OFin.st (fun t k => XS.iload X73.here hx rfl (hb hby at_202) rfl k) ?_
          refine OFin.st (fun t k => XS.ifYes X73.here hx rfl (pc0 := 204) (pc' := 217) rfl (hb hby at_204) rfl ((if0 _ _).trans (feq (by decide : ¬ ((5 : Int32) = (0 : Int32)))).2) (by decide) (by decide) k) ?_
          show OFin p e below _ _ T73 (mkF m 217 #[.val (.int p0), .val (.int p1), .val (.int p2), .val (.int p3), .val (.ref b1), .val (.int (1 : Int32)), .val (.long nn), .second, .val (.int (5 : Int32)), .val (.long key), .second, .val (.int kl), .val (.long ek), .second, .val (.int el), .val (.int lf), .val (.int (4 : Int32)), .val (.ref b72), .unset, .unset, .unset, .unset] [])
          refine OFin.st (fun t k => XS.iload X73.here hx rfl (hb hby at_217) rfl k) ?_
          refine OFin.st (fun t k => XS.iconst X73.here hx rfl (hb hby at_219) k) ?_
          show OFin p e below _ _ T73 (mkF m 220 #[.val (.int p0), .val (.int p1), .val (.int p2), .val (.int p3), .val (.ref b1), .val (.int (1 : Int32)), .val (.long nn), .second, .val (.int (5 : Int32)), .val (.long key), .second, .val (.int kl), .val (.long ek), .second, .val (.int el), .val (.int lf), .val (.int (4 : Int32)), .val (.ref b72), .unset, .unset, .unset, .unset] [(.int (2 : Int32)), (.int (5 : Int32))])
          refine OFin.st (fun t k => XS.icmpYes X73.here hx rfl (pc0 := 220) (pc' := 231) rfl (hb hby at_220) rfl (feq (by decide : ¬ ((5 : Int32) = (2 : Int32)))).2 (by decide) (by decide) k) ?_
          show OFin p e below _ _ T73 (mkF m 231 #[.val (.int p0), .val (.int p1), .val (.int p2), .val (.int p3), .val (.ref b1), .val (.int (1 : Int32)), .val (.long nn), .second, .val (.int (5 : Int32)), .val (.long key), .second, .val (.int kl), .val (.long ek), .second, .val (.int el), .val (.int lf), .val (.int (4 : Int32)), .val (.ref b72), .unset, .unset, .unset, .unset] [])
          refine OFin.st (fun t k => XS.iload X73.here hx rfl (hb hby at_231) rfl k) ?_
          refine OFin.st (fun t k => XS.iconst X73.here hx rfl (hb hby at_233) k) ?_
          refine OFin.st (fun t k => XS.icmpYes X73.here hx rfl (pc0 := 234) (pc' := 248) rfl (hb hby at_234) rfl (feq (by decide : ¬ ((5 : Int32) = (3 : Int32)))).2 (by decide) (by decide) k) ?_
          show OFin p e below _ _ T73 (mkF m 248 #[.val (.int p0), .val (.int p1), .val (.int p2), .val (.int p3), .val (.ref b1), .val (.int (1 : Int32)), .val (.long nn), .second, .val (.int (5 : Int32)), .val (.long key), .second, .val (.int kl), .val (.long ek), .second, .val (.int el), .val (.int lf), .val (.int (4 : Int32)), .val (.ref b72), .unset, .unset, .unset, .unset] [])
          obtain ⟨T74, h74, X74, e74, E74, A74, D74, -, st74⟩ := newO X73 hx hZ hown (hw _ (List.mem_of_getElem? (i := 0) rfl)) (hw _ (List.mem_of_getElem? (i := 1) rfl)) (hw _ (List.mem_of_getElem? (i := 2) rfl)) rfl (g := (mkF m 248 #[.val (.int p0), .val (.int p1), .val (.int p2), .val (.int p3), .val (.ref b1), .val (.int (1 : Int32)), .val (.long nn), .second, .val (.int (5 : Int32)), .val (.long key), .second, .val (.int kl), .val (.long ek), .second, .val (.int el), .val (.int lf), .val (.int (4 : Int32)), .val (.ref b72), .unset, .unset, .unset, .unset] [])) rfl (hb hby at_248) (by decide) (by decide)
          obtain ⟨b74, gz_b74⟩ : ∃ z, z = T73.heap.size := ⟨_, rfl⟩
          rw [← gz_b74] at A74 D74 st74
          have N_b1_b74 : b1 ≠ b74 := Nat.ne_of_lt (Nat.lt_of_lt_of_le ((P4_0.ext E72).keep K73q).lt (Nat.le_of_eq gz_b74.symm))
          have c75 := ((((V2.ext E3).keep K4q (ninS (Ne.symm N_b1_b2) nin0)).ext E72).keep K73q (ninS N_b2_b72 nin0))
          have N_b2_b74 : b2 ≠ b74 := Nat.ne_of_lt (Nat.lt_of_lt_of_le c75.lt (Nat.le_of_eq gz_b74.symm))
          have N_b72_b74 : b72 ≠ b74 := Nat.ne_of_lt (Nat.lt_of_lt_of_le P73_0.lt (Nat.le_of_eq gz_b74.symm))
          have g_b74 : n0 ≤ b74 := Nat.le_trans (Nat.le_trans (Nat.le_of_eq O73.1.symm) O73.2.1) (Nat.le_of_eq gz_b74.symm)
          have sz_b74 : h0.size ≤ b74 := Nat.le_trans K73.1 (Nat.le_of_eq gz_b74.symm)
          have hk74 := Nat.le_trans hk73 E74.1
          have K74 : Keep h0 h74 [] := K73.ext E74
          have O74 : Old Z n0 h74 := O73.ext E74
          have F_bytes_b74 : Fld Z h74 b74 "com/example/fillwire/fillwire/codec/ProtoReader" "bytes" "[B" .null := D74 (Or.inr (hw _ (List.mem_of_getElem? (i := 21) rfl))) (ty := (.array .byte)) (by decide)
          have F_position_b74 : Fld Z h74 b74 "com/example/fillwire/fillwire/codec/ProtoReader" "position" "I" (.int (0 : Int32)) := D74 (Or.inl (hw _ (List.mem_of_getElem? (i := 23) rfl))) (ty := .int) (by decide)
          have F_end_b74 : Fld Z h74 b74 "com/example/fillwire/fillwire/codec/ProtoReader" "end" "I" (.int (0 : Int32)) := D74 (Or.inr (hw _ (List.mem_of_getElem? (i := 25) rfl))) (ty := .int) (by decide)
          have F_name_b74 : Fld Z h74 b74 "com/example/fillwire/fillwire/codec/ProtoReader" "name" "Ljava/lang/String;" .null := D74 (Or.inr (hw _ (List.mem_of_getElem? (i := 27) rfl))) (ty := (.object "java/lang/String")) (by decide)
          have F_field_b74 : Fld Z h74 b74 "com/example/fillwire/fillwire/codec/ProtoReader" "field" "I" (.int (0 : Int32)) := D74 (Or.inl (hw _ (List.mem_of_getElem? (i := 57) rfl))) (ty := .int) (by decide)
          have F_wireType_b74 : Fld Z h74 b74 "com/example/fillwire/fillwire/codec/ProtoReader" "wireType" "I" (.int (0 : Int32)) := D74 (Or.inl (hw _ (List.mem_of_getElem? (i := 64) rfl))) (ty := .int) (by decide)
          refine OFin.st st74 ?_
          refine OFin.st (fun t k => XS.dup X74.here hx rfl (hb hby at_251) rfl rfl k) ?_
          show OFin p e below _ _ T74 (mkF m 252 #[.val (.int p0), .val (.int p1), .val (.int p2), .val (.int p3), .val (.ref b1), .val (.int (1 : Int32)), .val (.long nn), .second, .val (.int (5 : Int32)), .val (.long key), .second, .val (.int kl), .val (.long ek), .second, .val (.int el), .val (.int lf), .val (.int (4 : Int32)), .val (.ref b72), .unset, .unset, .unset, .unset] [(.ref b74), (.ref b74)])
          refine OFin.st (fun t k => XS.aload X74.here hx rfl (hb hby at_252) rfl rfl k) ?_
          have wS76 : ∀ a ∈ Bundle.stringAtoms, a.before a0 Z = true := by
            intro a ha
            simp only [Bundle.stringAtoms, List.mem_cons, List.not_mem_nil, or_false] at ha
            rcases ha with rfl | rfl | rfl | rfl | rfl | rfl | rfl
            · exact (hw _ (List.mem_of_getElem? (i := 5) rfl))
            · exact (hw _ (List.mem_of_getElem? (i := 6) rfl))
            · exact (hw _ (List.mem_of_getElem? (i := 3) rfl))
            · exact (hw _ (List.mem_of_getElem? (i := 7) rfl))
            · exact (hw _ (List.mem_of_getElem? (i := 8) rfl))
            · exact (hw _ (List.mem_of_getElem? (i := 9) rfl))
            · exact (hw _ (List.mem_of_getElem? (i := 10) rfl))
          obtain ⟨a76, T76, h76, kz76, X76, e76, E76, hS76, hkq76, hZ, hown, st76⟩ := ldcS X74 hx hZ hown (hw _ (List.mem_of_getElem? (i := 4) rfl)) wS76 e74 hS3 hk74 (g := (mkF m 254 #[.val (.int p0), .val (.int p1), .val (.int p2), .val (.int p3), .val (.ref b1), .val (.int (1 : Int32)), .val (.long nn), .second, .val (.int (5 : Int32)), .val (.long key), .second, .val (.int kl), .val (.long ek), .second, .val (.int el), .val (.int lf), .val (.int (4 : Int32)), .val (.ref b72), .unset, .unset, .unset, .unset] [(.ref b72), (.ref b74), (.ref b74)])) rfl (hb hby at_254) (n := 4) (by decide) (by decide) (by decide) (by decide)
          refine OFin.st st76 ?_
          have hk76 := Nat.le_trans hk74 E76.1
          have K76 : Keep h0 h76 [] := K74.ext E76
          have O76 : Old Z n0 h76 := O74.ext E76
          have hk76 := hkq76
          obtain ⟨_, _, ⟨T77, L77, k77, n77⟩, -, X77, ⟨Lc77, hQ77, l77, y77, z77⟩, st77⟩ := X76.specialBack hx (y := (⟨"com/example/fillwire/fillwire/codec/ProtoReader", "<init>", "([BLjava/lang/String;)V"⟩ : MethodName)) rfl hown (mvT hZ (hw _ (List.mem_of_getElem? (i := 11) rfl))) (mvT hZ (hw _ (List.mem_of_getElem? (i := 12) rfl))) (mvT hZ (hw _ (List.mem_of_getElem? (i := 13) rfl))) (by decide) (backOf (W := 1) (rm1 l Z a0 hw [] b74 b72 a76 .null (.int (0 : Int32)) (.int (0 : Int32)) .null (0 : Int32) (0 : Int32) k72 (pN (List.replicate (kv + 1 + 4) (.int (0 : Int32))) 0 (gf key kl) (kv + 1)) (kl + (4 : Int32)) h76 n0 O76 (A74.ext E76) (F_bytes_b74.ext E76) (F_position_b74.ext E76) (F_end_b74.ext E76) (F_name_b74.ext E76) (F_field_b74.ext E76) (F_wireType_b74.ext E76) g_b74 ((P73_0.ext E74).ext E76) (by simp only [pN_len, List.length_set, List.length_replicate]; exact (own_e1 kl (4 : Int32) kv 4 hkl hk9 (by decide) (by decide)))) hZ (hw _ (List.mem_of_getElem? (i := 13) rfl)) (hw _ (List.mem_of_getElem? (i := 2) rfl)) (by decide) (by decide)) (g := (mkF m 256 #[.val (.int p0), .val (.int p1), .val (.int p2), .val (.int p3), .val (.ref b1), .val (.int (1 : Int32)), .val (.long nn), .second, .val (.int (5 : Int32)), .val (.long key), .second, .val (.int kl), .val (.long ek), .second, .val (.int el), .val (.int lf), .val (.int (4 : Int32)), .val (.ref b72), .unset, .unset, .unset, .unset] [(.ref a76), (.ref b72), (.ref b74), (.ref b74)])) rfl (by rw [hml]; rfl) (Steps.refl _) (a := b74) (argsL := [(.ref b72), (.ref a76)]) (rest := [(.ref b74)]) (lenOf pd_10 rfl) rfl (by show 2 * 0 + _ ≤ _; exact Nat.le_of_eq rfl) (hb hby at_256) (fun _ _ => ⟨rfl, e76, (by decide : 8 + 0 ≤ _), (by decide : 48 + 0 ≤ _)⟩)
          dsimp only [Pt.U, Pt.locs, Pt.cells, Pt.slots] at X77 l77 y77 z77 st77 hQ77
          subst l77 y77 z77
          obtain ⟨rfl, N77q, K77q, P77_0, P77_1, P77_2, P77_3, P77_4, P77_5⟩ := hQ77
          have N77 := Fr.app N73 N77q
          have hk77 := Nat.le_trans hk76 K77q.1
          have K77 : Keep h0 T77.heap [] := K76.trans K77q (allS (Or.inr sz_b74) all0)
          have O77 : Old Z n0 T77.heap := O76.keep K77q (allS g_b74 all0)
          refine OFin.tr st77 ?_
          refine OFin.st (fun t k => XS.astore X77.here hx rfl (hb hby at_259) rfl rfl (l' := #[.val (.int p0), .val (.int p1), .val (.int p2), .val (.int p3), .val (.ref b1), .val (.int (1 : Int32)), .val (.long nn), .second, .val (.int (5 : Int32)), .val (.long key), .second, .val (.int kl), .val (.long ek), .second, .val (.int el), .val (.int lf), .val (.int (4 : Int32)), .val (.ref b72), .val (.ref b74), .unset, .unset, .unset]) rfl k) ?_
          show OFin p e below _ _ T77 (mkF m 261 #[.val (.int p0), .val (.int p1), .val (.int p2), .val (.int p3), .val (.ref b1), .val (.int (1 : Int32)), .val (.long nn), .second, .val (.int (5 : Int32)), .val (.long key), .second, .val (.int kl), .val (.long ek), .second, .val (.int el), .val (.int lf), .val (.int (4 : Int32)), .val (.ref b72), .val (.ref b74), .unset, .unset, .unset] [])
          refine OFin.st (fun t k => XS.aload X77.here hx rfl (hb hby at_261) rfl rfl k) ?_
          obtain ⟨cq78, kq78, q78a, q78b, q78c⟩ := isOf hZ rfl P77_0
          obtain ⟨_, _, ⟨T78, L78, k78, n78⟩, -, X78, ⟨Lc78, hQ78, l78, y78, z78⟩, st78⟩ := X77.virtualBack hx (y := (⟨"com/example/fillwire/fillwire/codec/ProtoReader", "next", "()Z"⟩ : MethodName)) (z := (⟨"com/example/fillwire/fillwire/codec/ProtoReader", "next", "()Z"⟩ : MethodName)) hown (mvT hZ (hw _ (List.mem_of_getElem? (i := 28) rfl))) (mvT hZ (hw _ (List.mem_of_getElem? (i := 29) rfl))) (notFace_of_selects (args := #[]) (mvT hZ (hw _ (List.mem_of_getElem? (i := 31) rfl)))) (mvT hZ (hw _ (List.mem_of_getElem? (i := 31) rfl))) (mvT hZ (hw _ (List.mem_of_getElem? (i := 30) rfl))) (by decide) (backOf (W := 0) (rm4k l Z a0 hw [] b74 b72 (0 : Int32) (kl + (4 : Int32)) (0 : Int32) (0 : Int32) k72 (pN (List.replicate (kv + 1 + 4) (.int (0 : Int32))) 0 (gf key kl) (kv + 1)) (gf key kl) kv kW vW w_WIRE_TYPES T77.heap n0 O77 P77_0 P77_1 P77_2 P77_3 P77_4 P77_5 (((P73_0.ext E74).ext E76).keep K77q (ninS N_b72_b74 nin0)) g_b74 N_b72_b74 hk9 (own_gcn key kv kl hkl hk9) (own_gln key kv kl hkl hk9) (own_g9 key kv kl hkl hk9) (by decide) (by decide) (fun i hi => by rw [(by decide : (0 : Int32).toInt.toNat = 0)]; exact pN_in _ 0 _ _ i (by omega) (by rw [List.length_replicate]; omega)) (fun i hi => own_ne _ _ 0 (kv + 1 + 4) i (by decide) (own_e1 kl (4 : Int32) kv 4 hkl hk9 (by decide) (by decide)) (by omega) (by omega) (by have := own_lf lf hlf; omega)) (by rw [own_key key kv kl hkl hk9 hk0 hkb, (own_num key nn 5 hkey (by decide) hn).1]; exact (own_n0 nn hn).1) (by rw [own_key key kv kl hkl hk9 hk0 hkb, (own_num key nn 5 hkey (by decide) hn).1]; exact (own_n0 nn hn).2.1) (by rw [own_key key kv kl hkl hk9 hk0 hkb, Int32.lt_iff_toInt_lt, (own_num key nn 5 hkey (by decide) hn).2]; decide) hW6 (by rw [own_key key kv kl hkl hk9 hk0 hkb]; intro q; have z := (own_num key nn 5 hkey (by decide) hn).2; rw [q] at z; exact absurd z (by decide)) A_w_WIRE_TYPES S_WIRE_TYPES) hZ (hw _ (List.mem_of_getElem? (i := 32) rfl)) (hw _ (List.mem_of_getElem? (i := 2) rfl)) (by decide) (by decide)) q78a q78c (g := (mkF m 263 #[.val (.int p0), .val (.int p1), .val (.int p2), .val (.int p3), .val (.ref b1), .val (.int (1 : Int32)), .val (.long nn), .second, .val (.int (5 : Int32)), .val (.long key), .second, .val (.int kl), .val (.long ek), .second, .val (.int el), .val (.int lf), .val (.int (4 : Int32)), .val (.ref b72), .val (.ref b74), .unset, .unset, .unset] [(.ref b74)])) rfl (by rw [hml]; rfl) (Steps.refl _) (argsL := []) (rest := []) (lenOf pd_3 rfl) rfl (by show 2 * 0 + _ ≤ _; exact Nat.le_of_eq rfl) (hb hby at_263) (fun _ _ => ⟨rfl, rfl, (by decide : 8 + 0 ≤ _), (by decide : 48 + 0 ≤ _)⟩)
          dsimp only [Pt.U, Pt.locs, Pt.cells, Pt.slots] at X78 l78 y78 z78 st78 hQ78
          subst l78 y78 z78
          obtain ⟨rfl, N78q, K78q, P78_0, P78_1, P78_2, P78_3, P78_4, P78_5⟩ := hQ78
          have N78 := Fr.app N77 N78q
          have hk78 := Nat.le_trans hk77 K78q.1
          have K78 : Keep h0 T78.heap [] := K77.trans K78q (allS (Or.inr sz_b74) all0)
          have O78 : Old Z n0 T78.heap := O77.keep K78q (allS g_b74 all0)
          refine OFin.tr st78 ?_
          have Rs79 : Fld Z T78.heap b74 "com/example/fillwire/fillwire/codec/ProtoReader" "field" "I" (.int (nn.toInt32)) := (by have q := P78_4; rw [own_key key kv kl hkl hk9 hk0 hkb, (own_num key nn 5 hkey (by decide) hn).1] at q; exact q)
          have Rs80 : Fld Z T78.heap b74 "com/example/fillwire/fillwire/codec/ProtoReader" "wireType" "I" (.int (5 : Int32)) := (by have q := P78_5; rw [own_key key kv kl hkl hk9 hk0 hkb, (Int32.toInt_inj.mp (by rw [(own_num key nn 5 hkey (by decide) hn).2]; decide) : ((key.toInt32) &&& (7 : Int32)) = (5 : Int32))] at q; exact q)
          refine OFin.st (fun t k => XS.istore X78.here hx rfl (hb hby at_266) rfl (l' := #[.val (.int p0), .val (.int p1), .val (.int p2), .val (.int p3), .val (.ref b1), .val (.int (1 : Int32)), .val (.long nn), .second, .val (.int (5 : Int32)), .val (.long key), .second, .val (.int kl), .val (.long ek), .second, .val (.int el), .val (.int lf), .val (.int (4 : Int32)), .val (.ref b72), .val (.ref b74), .val (.int (1 : Int32)), .unset, .unset]) rfl k) ?_
          refine OFin.st (fun t k => XS.aload X78.here hx rfl (hb hby at_268) rfl rfl k) ?_
          show OFin p e below _ _ T78 (mkF m 270 #[.val (.int p0), .val (.int p1), .val (.int p2), .val (.int p3), .val (.ref b1), .val (.int (1 : Int32)), .val (.long nn), .second, .val (.int (5 : Int32)), .val (.long key), .second, .val (.int kl), .val (.long ek), .second, .val (.int el), .val (.int lf), .val (.int (4 : Int32)), .val (.ref b72), .val (.ref b74), .val (.int (1 : Int32)), .unset, .unset] [(.ref b74)])
          obtain ⟨cq81, kq81, q81a, q81b, q81c⟩ := isOf hZ rfl P78_0
          obtain ⟨_, _, ⟨T81, L81, k81, n81⟩, -, X81, ⟨Lc81, hQ81, l81, y81, z81⟩, st81⟩ := X78.virtualBack hx (y := (⟨"com/example/fillwire/fillwire/codec/ProtoReader", "field", "()I"⟩ : MethodName)) (z := (⟨"com/example/fillwire/fillwire/codec/ProtoReader", "field", "()I"⟩ : MethodName)) hown (mvT hZ (hw _ (List.mem_of_getElem? (i := 67) rfl))) (mvT hZ (hw _ (List.mem_of_getElem? (i := 68) rfl))) (notFace_of_selects (args := #[]) (mvT hZ (hw _ (List.mem_of_getElem? (i := 70) rfl)))) (mvT hZ (hw _ (List.mem_of_getElem? (i := 70) rfl))) (mvT hZ (hw _ (List.mem_of_getElem? (i := 69) rfl))) (by decide) (backOf (W := 0) (rm11 l Z a0 hw [] b74 (nn.toInt32) T78.heap n0 O78 Rs79) hZ (hw _ (List.mem_of_getElem? (i := 71) rfl)) (hw _ (List.mem_of_getElem? (i := 2) rfl)) (by decide) (by decide)) q81a q81c (g := (mkF m 270 #[.val (.int p0), .val (.int p1), .val (.int p2), .val (.int p3), .val (.ref b1), .val (.int (1 : Int32)), .val (.long nn), .second, .val (.int (5 : Int32)), .val (.long key), .second, .val (.int kl), .val (.long ek), .second, .val (.int el), .val (.int lf), .val (.int (4 : Int32)), .val (.ref b72), .val (.ref b74), .val (.int (1 : Int32)), .unset, .unset] [(.ref b74)])) rfl (by rw [hml]; rfl) (Steps.refl _) (argsL := []) (rest := []) (lenOf pd_0 rfl) rfl (by show 2 * 0 + _ ≤ _; exact Nat.le_of_eq rfl) (hb hby at_270) (fun _ _ => ⟨rfl, rfl, (by decide : 8 + 0 ≤ _), (by decide : 48 + 0 ≤ _)⟩)
          dsimp only [Pt.U, Pt.locs, Pt.cells, Pt.slots] at X81 l81 y81 z81 st81 hQ81
          subst l81 y81 z81
          obtain ⟨rfl, N81q, e81⟩ := hQ81
          have N81 := Fr.app N78 N81q
          refine OFin.tr st81 ?_
          refine OFin.st (fun t k => XS.istore X81.here hx rfl (hb hby at_273) rfl (l' := #[.val (.int p0), .val (.int p1), .val (.int p2), .val (.int p3), .val (.ref b1), .val (.int (1 : Int32)), .val (.long nn), .second, .val (.int (5 : Int32)), .val (.long key), .second, .val (.int kl), .val (.long ek), .second, .val (.int el), .val (.int lf), .val (.int (4 : Int32)), .val (.ref b72), .val (.ref b74), .val (.int (1 : Int32)), .val (.int (F11 b74 (nn.toInt32))), .unset]) rfl k) ?_
          refine OFin.st (fun t k => XS.aload X81.here hx rfl (hb hby at_275) rfl rfl k) ?_
          have c82 := ((((P73_0.ext E74).ext E76).keep K77q (ninS N_b72_b74 nin0)).keep K78q (ninS N_b72_b74 nin0))
          obtain ⟨cq83, kq83, q83a, q83b, q83c⟩ := isOf hZ e81 P78_0
          obtain ⟨_, _, ⟨T83, L83, k83, n83⟩, -, X83, ⟨Lc83, hQ83, l83, y83, z83⟩, st83⟩ := X81.virtualBack hx (y := (⟨"com/example/fillwire/fillwire/codec/ProtoReader", "skip", "()V"⟩ : MethodName)) (z := (⟨"com/example/fillwire/fillwire/codec/ProtoReader", "skip", "()V"⟩ : MethodName)) hown (mvT hZ (hw _ (List.mem_of_getElem? (i := 72) rfl))) (mvT hZ (hw _ (List.mem_of_getElem? (i := 73) rfl))) (notFace_of_selects (args := #[]) (mvT hZ (hw _ (List.mem_of_getElem? (i := 75) rfl)))) (mvT hZ (hw _ (List.mem_of_getElem? (i := 75) rfl))) (mvT hZ (hw _ (List.mem_of_getElem? (i := 74) rfl))) (by decide) (backOf (W := 0) (rm12t5 l Z a0 hw [] b74 b72 (vpo (0 : Int32) (kv + 1)) (kl + (4 : Int32)) (nn.toInt32) k72 (pN (List.replicate (kv + 1 + 4) (.int (0 : Int32))) 0 (gf key kl) (kv + 1)) T78.heap n0 O78 P78_0 P78_1 P78_2 P78_3 Rs79 Rs80 c82 g_b74 N_b72_b74 (fun q => by have z := Int32.lt_iff_toInt_lt.mp q; have a := c_isub (kl + (4 : Int32)) (vpo (0 : Int32) (kv + 1)); have b := rng32 ((kl + (4 : Int32)) - (vpo (0 : Int32) (kv + 1))); have d := (own_vp 0 (kv + 1) (0 : Int32) (by decide) (by omega) (by omega)); have f := (own_e1 kl (4 : Int32) kv 4 hkl hk9 (by decide) (by decide)); rw [(by decide : (4 : Int32).toInt = 4)] at z; omega)) hZ (hw _ (List.mem_of_getElem? (i := 76) rfl)) (hw _ (List.mem_of_getElem? (i := 2) rfl)) (by decide) (by decide)) q83a q83c (g := (mkF m 277 #[.val (.int p0), .val (.int p1), .val (.int p2), .val (.int p3), .val (.ref b1), .val (.int (1 : Int32)), .val (.long nn), .second, .val (.int (5 : Int32)), .val (.long key), .second, .val (.int kl), .val (.long ek), .second, .val (.int el), .val (.int lf), .val (.int (4 : Int32)), .val (.ref b72), .val (.ref b74), .val (.int (1 : Int32)), .val (.int (F11 b74 (nn.toInt32))), .unset] [(.ref b74)])) rfl (by rw [hml]; rfl) (Steps.refl _) (argsL := []) (rest := []) (lenOf pd_2 rfl) rfl (by show 2 * 0 + _ ≤ _; exact Nat.le_of_eq rfl) (hb hby at_277) (fun _ _ => ⟨rfl, e81, (by decide : 8 + 0 ≤ _), (by decide : 48 + 0 ≤ _)⟩)
          dsimp only [Pt.U, Pt.locs, Pt.cells, Pt.slots] at X83 l83 y83 z83 st83 hQ83
          subst l83 y83 z83
          obtain ⟨rfl, N83q, K83q, P83_0, P83_1, P83_2, P83_3, P83_4, P83_5⟩ := hQ83
          have N83 := Fr.app N81 N83q
          have hk83 := Nat.le_trans hk78 K83q.1
          have K83 : Keep h0 T83.heap [] := K78.trans K83q (allS (Or.inr sz_b74) all0)
          have O83 : Old Z n0 T83.heap := O78.keep K83q (allS g_b74 all0)
          refine OFin.tr st83 ?_
          have Rs84e : ((vpo (0 : Int32) (kv + 1)) + (4 : Int32)) = (kl + (4 : Int32)) := Int32.toInt_inj.mp (by have y := (own_e1 kl (4 : Int32) kv 4 hkl hk9 (by decide) (by decide)); have d := (own_vp 0 (kv + 1) (0 : Int32) (by decide) (by omega) (by omega)); have f := c_iadd (vpo (0 : Int32) (kv + 1)) (4 : Int32); have g := rng32 ((vpo (0 : Int32) (kv + 1)) + (4 : Int32)); rw [(by decide : (4 : Int32).toInt = 4)] at f; omega)
          have Rs84 : Fld Z T83.heap b74 "com/example/fillwire/fillwire/codec/ProtoReader" "position" "I" (.int (kl + (4 : Int32))) := (by have q := P83_2; rw [Rs84e] at q; exact q)
          show OFin p e below _ _ T83 (mkF m 280 #[.val (.int p0), .val (.int p1), .val (.int p2), .val (.int p3), .val (.ref b1), .val (.int (1 : Int32)), .val (.long nn), .second, .val (.int (5 : Int32)), .val (.long key), .second, .val (.int kl), .val (.long ek), .second, .val (.int el), .val (.int lf), .val (.int (4 : Int32)), .val (.ref b72), .val (.ref b74), .val (.int (1 : Int32)), .val (.int (F11 b74 (nn.toInt32))), .unset] [])
          refine OFin.st (fun t k => XS.aload X83.here hx rfl (hb hby at_280) rfl rfl k) ?_
          obtain ⟨cq85, kq85, q85a, q85b, q85c⟩ := isOf hZ rfl P83_0
          obtain ⟨_, _, ⟨T85, L85, k85, n85⟩, -, X85, ⟨Lc85, hQ85, l85, y85, z85⟩, st85⟩ := X83.virtualBack hx (y := (⟨"com/example/fillwire/fillwire/codec/ProtoReader", "next", "()Z"⟩ : MethodName)) (z := (⟨"com/example/fillwire/fillwire/codec/ProtoReader", "next", "()Z"⟩ : MethodName)) hown (mvT hZ (hw _ (List.mem_of_getElem? (i := 28) rfl))) (mvT hZ (hw _ (List.mem_of_getElem? (i := 29) rfl))) (notFace_of_selects (args := #[]) (mvT hZ (hw _ (List.mem_of_getElem? (i := 31) rfl)))) (mvT hZ (hw _ (List.mem_of_getElem? (i := 31) rfl))) (mvT hZ (hw _ (List.mem_of_getElem? (i := 30) rfl))) (by decide) (backOf (W := 0) (rm4e l Z a0 hw [] b74 (kl + (4 : Int32)) T83.heap n0 O83 P83_0 Rs84 P83_3) hZ (hw _ (List.mem_of_getElem? (i := 32) rfl)) (hw _ (List.mem_of_getElem? (i := 2) rfl)) (by decide) (by decide)) q85a q85c (g := (mkF m 282 #[.val (.int p0), .val (.int p1), .val (.int p2), .val (.int p3), .val (.ref b1), .val (.int (1 : Int32)), .val (.long nn), .second, .val (.int (5 : Int32)), .val (.long key), .second, .val (.int kl), .val (.long ek), .second, .val (.int el), .val (.int lf), .val (.int (4 : Int32)), .val (.ref b72), .val (.ref b74), .val (.int (1 : Int32)), .val (.int (F11 b74 (nn.toInt32))), .unset] [(.ref b74)])) rfl (by rw [hml]; rfl) (Steps.refl _) (argsL := []) (rest := []) (lenOf pd_3 rfl) rfl (by show 2 * 0 + _ ≤ _; exact Nat.le_of_eq rfl) (hb hby at_282) (fun _ _ => ⟨rfl, rfl, (by decide : 8 + 0 ≤ _), (by decide : 48 + 0 ≤ _)⟩)
          dsimp only [Pt.U, Pt.locs, Pt.cells, Pt.slots] at X85 l85 y85 z85 st85 hQ85
          subst l85 y85 z85
          obtain ⟨rfl, N85q, e85⟩ := hQ85
          have N85 := Fr.app N83 N85q
          refine OFin.tr st85 ?_
          refine OFin.st (fun t k => XS.istore X85.here hx rfl (hb hby at_285) rfl (l' := #[.val (.int p0), .val (.int p1), .val (.int p2), .val (.int p3), .val (.ref b1), .val (.int (1 : Int32)), .val (.long nn), .second, .val (.int (5 : Int32)), .val (.long key), .second, .val (.int kl), .val (.long ek), .second, .val (.int el), .val (.int lf), .val (.int (4 : Int32)), .val (.ref b72), .val (.ref b74), .val (.int (1 : Int32)), .val (.int (F11 b74 (nn.toInt32))), .val (.int (F4e b74 (kl + (4 : Int32))))]) rfl k) ?_
          refine OFin.st (fun t k => XS.iload X85.here hx rfl (hb hby at_287) rfl k) ?_
          show OFin p e below _ _ T85 (mkF m 289 #[.val (.int p0), .val (.int p1), .val (.int p2), .val (.int p3), .val (.ref b1), .val (.int (1 : Int32)), .val (.long nn), .second, .val (.int (5 : Int32)), .val (.long key), .second, .val (.int kl), .val (.long ek), .second, .val (.int el), .val (.int lf), .val (.int (4 : Int32)), .val (.ref b72), .val (.ref b74), .val (.int (1 : Int32)), .val (.int (F11 b74 (nn.toInt32))), .val (.int (F4e b74 (kl + (4 : Int32))))] [(.int (1 : Int32))])
          refine OFin.st (fun t k => XS.ifNo X85.here hx rfl (hb hby at_289) rfl ((if0 _ _).trans (feq (by decide : ¬ ((1 : Int32) = (0 : Int32)))).1) k) ?_
          show OFin p e below _ _ T85 (mkF m 292 #[.val (.int p0), .val (.int p1), .val (.int p2), .val (.int p3), .val (.ref b1), .val (.int (1 : Int32)), .val (.long nn), .second, .val (.int (5 : Int32)), .val (.long key), .second, .val (.int kl), .val (.long ek), .second, .val (.int el), .val (.int lf), .val (.int (4 : Int32)), .val (.ref b72), .val (.ref b74), .val (.int (1 : Int32)), .val (.int (F11 b74 (nn.toInt32))), .val (.int (F4e b74 (kl + (4 : Int32))))] [])
          refine OFin.st (fun t k => XS.iload X85.here hx rfl (hb hby at_292) rfl k) ?_
          refine OFin.st (fun t k => XS.ifNo X85.here hx rfl (hb hby at_294) rfl ((if0 _ _).trans (feq (by decide : ¬ ((1 : Int32) = (0 : Int32)))).1) k) ?_
          show OFin p e below _ _ T85 (mkF m 297 #[.val (.int p0), .val (.int p1), .val (.int p2), .val (.int p3), .val (.ref b1), .val (.int (1 : Int32)), .val (.long nn), .second, .val (.int (5 : Int32)), .val (.long key), .second, .val (.int kl), .val (.long ek), .second, .val (.int el), .val (.int lf), .val (.int (4 : Int32)), .val (.ref b72), .val (.ref b74), .val (.int (1 : Int32)), .val (.int (F11 b74 (nn.toInt32))), .val (.int (F4e b74 (kl + (4 : Int32))))] [])
          refine OFin.st (fun t k => XS.iload X85.here hx rfl (hb hby at_297) rfl k) ?_
          refine OFin.st (fun t k => XS.i2l X85.here hx rfl (hb hby at_299) rfl k) ?_
          refine OFin.st (fun t k => XS.lload X85.here hx rfl (hb hby at_300) rfl k) ?_
          show OFin p e below _ _ T85 (mkF m 302 #[.val (.int p0), .val (.int p1), .val (.int p2), .val (.int p3), .val (.ref b1), .val (.int (1 : Int32)), .val (.long nn), .second, .val (.int (5 : Int32)), .val (.long key), .second, .val (.int kl), .val (.long ek), .second, .val (.int el), .val (.int lf), .val (.int (4 : Int32)), .val (.ref b72), .val (.ref b74), .val (.int (1 : Int32)), .val (.int (F11 b74 (nn.toInt32))), .val (.int (F4e b74 (kl + (4 : Int32))))] [(.long nn), (.long ((F11 b74 (nn.toInt32)).toInt64))])
          refine OFin.st (fun t k => XS.lcmp X85.here hx rfl (hb hby at_302) rfl k) ?_
          refine OFin.st (fun t k => XS.ifNo X85.here hx rfl (hb hby at_303) rfl ((if0 _ _).trans (teq ((lw_eq ((F11 b74 (nn.toInt32)).toInt64) nn).mpr (own_n0 nn hn).2.2)).2) k) ?_
          show OFin p e below _ _ T85 (mkF m 306 #[.val (.int p0), .val (.int p1), .val (.int p2), .val (.int p3), .val (.ref b1), .val (.int (1 : Int32)), .val (.long nn), .second, .val (.int (5 : Int32)), .val (.long key), .second, .val (.int kl), .val (.long ek), .second, .val (.int el), .val (.int lf), .val (.int (4 : Int32)), .val (.ref b72), .val (.ref b74), .val (.int (1 : Int32)), .val (.int (F11 b74 (nn.toInt32))), .val (.int (F4e b74 (kl + (4 : Int32))))] [])
          refine OFin.st (fun t k => XS.iload X85.here hx rfl (hb hby at_306) rfl k) ?_
          refine OFin.st (fun t k => XS.ifNo X85.here hx rfl (hb hby at_308) rfl ((if0 _ _).trans (teq rfl).2) k) ?_
          show OFin p e below _ _ T85 (mkF m 311 #[.val (.int p0), .val (.int p1), .val (.int p2), .val (.int p3), .val (.ref b1), .val (.int (1 : Int32)), .val (.long nn), .second, .val (.int (5 : Int32)), .val (.long key), .second, .val (.int kl), .val (.long ek), .second, .val (.int el), .val (.int lf), .val (.int (4 : Int32)), .val (.ref b72), .val (.ref b74), .val (.int (1 : Int32)), .val (.int (F11 b74 (nn.toInt32))), .val (.int (F4e b74 (kl + (4 : Int32))))] [])
          refine OFin.st (fun t k => XS.iconst X85.here hx rfl (hb hby at_311) k) ?_
          refine OFin.st (fun t k => XS.goto X85.here hx rfl (pc0 := 312) (pc' := 316) rfl (hb hby at_312) (by decide) (by decide) k) ?_
          show OFin p e below _ _ T85 (mkF m 316 #[.val (.int p0), .val (.int p1), .val (.int p2), .val (.int p3), .val (.ref b1), .val (.int (1 : Int32)), .val (.long nn), .second, .val (.int (5 : Int32)), .val (.long key), .second, .val (.int kl), .val (.long ek), .second, .val (.int el), .val (.int lf), .val (.int (4 : Int32)), .val (.ref b72), .val (.ref b74), .val (.int (1 : Int32)), .val (.int (F11 b74 (nn.toInt32))), .val (.int (F4e b74 (kl + (4 : Int32))))] [(.int (1 : Int32))])
          exact own_retN X85 hx Bd.returns Bd.notSynchronized (t := .boolean) (by simp) rfl (hb hby at_316) (by show Qrm0 Z p0 p1 p2 p3 kW vW w_WIRE_TYPES h0 n0 _ T85.heap _; rw [e85]; exact ⟨rfl, N85, K83⟩) (own_endW hS76 (by rw [e85]; exact hk83) (by decide) (by decide))
      exact cut12 (((nn <<< ((3 : Int32) &&& 0x3f).toInt64) ||| (tt.toInt64))) ((F6 (10 : Int32) ((F5 ((nn <<< ((3 : Int32) &&& 0x3f).toInt64) ||| (tt.toInt64))) + (p2 &&& (7 : Int32))))) (((nn <<< ((3 : Int32) &&& 0x3f).toInt64) ||| (4 : Int64))) ((F6 (10 : Int32) ((F5 ((nn <<< ((3 : Int32) &&& 0x3f).toInt64) ||| (4 : Int64))) + (((p2.toUInt32 >>> ((3 : Int32) &&& 31).toUInt32).toInt32) &&& (7 : Int32))))) ((((p3.toUInt32 >>> ((8 : Int32) &&& 31).toUInt32).toInt32) &&& (3 : Int32))) (((F6 (10 : Int32) ((F5 ((nn <<< ((3 : Int32) &&& 0x3f).toInt64) ||| (tt.toInt64))) + (p2 &&& (7 : Int32))))).toInt.toNat - 1) (((F6 (10 : Int32) ((F5 ((nn <<< ((3 : Int32) &&& 0x3f).toInt64) ||| (4 : Int64))) + (((p2.toUInt32 >>> ((3 : Int32) &&& 31).toUInt32).toInt32) &&& (7 : Int32))))).toInt.toNat - 1) (by have q := (own_kT nn (tt.toInt64) hn (by rw [c_i2l]; exact own_t7 tt ht)); rw [c_i2l] at q; exact q) (own_kT nn (4 : Int64) hn (by decide)) (by have q := (own_kT nn (tt.toInt64) hn (by rw [c_i2l]; exact own_t7 tt ht)); have q2 := own_t7 tt ht; rw [c_i2l] at q; omega) (by have q := (own_kT nn (4 : Int64) hn (by decide)); rw [(by decide : (4 : Int64).toInt = 4)] at q; omega) (own_len _ _ (by have q := (own_kT nn (tt.toInt64) hn (by rw [c_i2l]; exact own_t7 tt ht)); have q2 := own_t7 tt ht; rw [c_i2l] at q; omega) (own_a7 _)).1 (own_len _ _ (by have q := (own_kT nn (tt.toInt64) hn (by rw [c_i2l]; exact own_t7 tt ht)); have q2 := own_t7 tt ht; rw [c_i2l] at q; omega) (own_a7 _)).2.1 (own_len _ _ (by have q := (own_kT nn (tt.toInt64) hn (by rw [c_i2l]; exact own_t7 tt ht)); have q2 := own_t7 tt ht; rw [c_i2l] at q; omega) (own_a7 _)).2.2 (own_len _ _ (by have q := (own_kT nn (4 : Int64) hn (by decide)); rw [(by decide : (4 : Int64).toInt = 4)] at q; omega) (own_a7 _)).1 (own_len _ _ (by have q := (own_kT nn (4 : Int64) hn (by decide)); rw [(by decide : (4 : Int64).toInt = 4)] at q; omega) (own_a7 _)).2.1 (own_len _ _ (by have q := (own_kT nn (4 : Int64) hn (by decide)); rw [(by decide : (4 : Int64).toInt = 4)] at q; omega) (own_a7 _)).2.2 (own_a3 _)
    by_cases hc58 : ((p1 &&& (2147483647 : Int32)) % (5 : Int32)) = (4 : Int32)
    · refine OFin.st (fun t k => XS.icmpNo X5.here hx rfl (hb hby at_58) rfl (teq hc58).2 k) ?_
      show OFin p e below _ _ T5 (mkF m 61 #[.val (.int p0), .val (.int p1), .val (.int p2), .val (.int p3), .val (.ref b1), .val (.int (1 : Int32)), .val (.long nn), .second, .val (.int ((p1 &&& (2147483647 : Int32)) % (5 : Int32))), .unset, .unset, .unset, .unset, .unset, .unset, .unset, .unset, .unset, .unset, .unset, .unset, .unset] [])
      refine OFin.st (fun t k => XS.iconst X5.here hx rfl (hb hby at_61) k) ?_
      refine OFin.st (fun t k => XS.istore X5.here hx rfl (hb hby at_62) rfl (l' := #[.val (.int p0), .val (.int p1), .val (.int p2), .val (.int p3), .val (.ref b1), .val (.int (1 : Int32)), .val (.long nn), .second, .val (.int (5 : Int32)), .unset, .unset, .unset, .unset, .unset, .unset, .unset, .unset, .unset, .unset, .unset, .unset, .unset]) rfl k) ?_
      exact join7 ((5 : Int32)) (by decide)
    · refine OFin.st (fun t k => XS.icmpYes X5.here hx rfl (pc0 := 58) (pc' := 64) rfl (hb hby at_58) rfl (feq hc58).2 (by decide) (by decide) k) ?_
      show OFin p e below _ _ T5 (mkF m 64 #[.val (.int p0), .val (.int p1), .val (.int p2), .val (.int p3), .val (.ref b1), .val (.int (1 : Int32)), .val (.long nn), .second, .val (.int ((p1 &&& (2147483647 : Int32)) % (5 : Int32))), .unset, .unset, .unset, .unset, .unset, .unset, .unset, .unset, .unset, .unset, .unset, .unset, .unset] [])
      exact join7 (((p1 &&& (2147483647 : Int32)) % (5 : Int32))) (own_t5 p1 hc58)
  by_cases hc41 : ((p0.toInt64) &&& (536870911 : Int64)) = (0 : Int64)
  · refine OFin.st (fun t k => XS.ifNo X5.here hx rfl (hb hby at_41) rfl ((if0 _ _).trans (teq ((lw_eq ((p0.toInt64) &&& (536870911 : Int64)) (0 : Int64)).mpr hc41)).2) k) ?_
    show OFin p e below _ _ T5 (mkF m 44 #[.val (.int p0), .val (.int p1), .val (.int p2), .val (.int p3), .val (.ref b1), .val (.int (1 : Int32)), .val (.long ((p0.toInt64) &&& (536870911 : Int64))), .second, .unset, .unset, .unset, .unset, .unset, .unset, .unset, .unset, .unset, .unset, .unset, .unset, .unset, .unset] [])
    refine OFin.st (fun t k => XS.lconst X5.here hx rfl (hb hby at_44) k) ?_
    refine OFin.st (fun t k => XS.lstore X5.here hx rfl (hb hby at_45) rfl (l' := #[.val (.int p0), .val (.int p1), .val (.int p2), .val (.int p3), .val (.ref b1), .val (.int (1 : Int32)), .val (.long (1 : Int64)), .second, .unset, .unset, .unset, .unset, .unset, .unset, .unset, .unset, .unset, .unset, .unset, .unset, .unset, .unset]) rfl k) ?_
    show OFin p e below _ _ T5 (mkF m 47 #[.val (.int p0), .val (.int p1), .val (.int p2), .val (.int p3), .val (.ref b1), .val (.int (1 : Int32)), .val (.long (1 : Int64)), .second, .unset, .unset, .unset, .unset, .unset, .unset, .unset, .unset, .unset, .unset, .unset, .unset, .unset, .unset] [])
    exact join6 ((1 : Int64)) (by decide)
  · refine OFin.st (fun t k => XS.ifYes X5.here hx rfl (pc0 := 41) (pc' := 47) rfl (hb hby at_41) rfl ((if0 _ _).trans (feq (fun q => hc41 ((lw_eq ((p0.toInt64) &&& (536870911 : Int64)) (0 : Int64)).mp q))).2) (by decide) (by decide) k) ?_
    show OFin p e below _ _ T5 (mkF m 47 #[.val (.int p0), .val (.int p1), .val (.int p2), .val (.int p3), .val (.ref b1), .val (.int (1 : Int32)), .val (.long ((p0.toInt64) &&& (536870911 : Int64))), .second, .unset, .unset, .unset, .unset, .unset, .unset, .unset, .unset, .unset, .unset, .unset, .unset, .unset, .unset] [])
    exact join6 (((p0.toInt64) &&& (536870911 : Int64))) (own_n1 p0 hc41)
set_option maxRecDepth 65536 in
set_option maxHeartbeats 40000000 in
theorem comes_1 {Post : Tables → Env → Array Value → State → Outcome → State → Prop} (hpost : ∀ tb e args s v u, (limb_1_1.after args s (.returned v) u = true ∧ limb_1_2.after args s (.returned v) u = true ∧ True) → ReturnedEndW s (.returned v) u (Jvm.fieldLocs frame_1_writes args s ++ Jvm.arrayLocs frame_1_arrays args s ++ Jvm.staticLocs frame_1_statics s) 24 1216 → Post tb e args s (.returned v) u) :
    ArmFor flags0 classFile x code maxLocals ret World_1 tables_1 room_1 Calls_1 rest_1 Pre_1 Post := by
  intro l hfl _ _ p e ha hc hk s m args below hf hA hF happ hP
  obtain ⟨hcalls, hrest, hpre⟩ := hP
  obtain ⟨-, -, -, hnamed, -, -, -, hat⟩ := (Spec.applies_iff hf).mp happ
  obtain ⟨hg, hn⟩ := and_e (Cond.before_iff.mp (show (Jvm.Cond.and given_1 narrow_1).before args s = true from hpre))
  obtain ⟨g1a, g1b⟩ := and_e hg
  obtain ⟨g2a, g2b⟩ := and_e g1b
  obtain ⟨g3a, g3b⟩ := and_e g2b
  obtain ⟨g4a, g4b⟩ := and_e g3b
  obtain ⟨c1a, c1b⟩ := and_e hn
  obtain ⟨w0, w1, w2, w3, rfl⟩ : ∃ w0 w1 w2 w3 : Value, args = #[w0, w1, w2, w3] := by
    have hs : args.size = 4 := by simpa [Cond.value, given_1] using g1a
    obtain ⟨L⟩ := args
    match L, hs with
    | [w0, w1, w2, w3], _ => exact ⟨w0, w1, w2, w3, rfl⟩
  have hw := fun d (hd : d ∈ tables_1) => atoms_spec (ws := Jvm.Cond.code x code maxLocals ret :: tables_1) hat d (List.mem_cons_of_mem _ hd)
  have hfit : Fit s := fun {y c} hc i hi => by
    obtain ⟨ha, rfl⟩ := Array.getElem?_eq_some_iff.mp hc
    have q := List.all_eq_true.mp ((Array.all_eq_true_iff_forall_mem.mp hF) _ (Array.getElem_mem ha)) i (List.mem_range.mpr hi)
    simpa [Array.getElem?_eq_getElem hi] using q
  obtain ⟨i0, ei0⟩ := is_v g2a
  obtain rfl : w0 = (.int i0) := Option.some.inj ei0
  obtain ⟨i1, ei1⟩ := is_v g3a
  obtain rfl : w1 = (.int i1) := Option.some.inj ei1
  obtain ⟨i2, ei2⟩ := is_v g4a
  obtain rfl : w2 = (.int i2) := Option.some.inj ei2
  obtain ⟨i3, ei3⟩ := is_v g4b
  obtain rfl : w3 = (.int i3) := Option.some.inj ei3
  obtain ⟨w_WIRE_TYPES, ev_WT⟩ := arr_v c1a
  have S_WIRE_TYPES := Sta.start ev_WT (Or.inr ⟨(hw _ (List.mem_of_getElem? (i := 2) rfl)), (hw _ (List.mem_of_getElem? (i := 66) rfl))⟩)
  obtain ⟨kW, vW, A_w_WIRE_TYPES, hW6⟩ := own_arrN ev_WT c1a c1b (k := 6) (by decide)
  obtain ⟨n, o, h1, h2, h3, _, L, rfl, ⟨rfl, N, -⟩, hq⟩ := rm0 l s _ hw tables_1 i0 i1 i2 i3 kW vW w_WIRE_TYPES s.heap s.heap.size (Old.start s) hW6 A_w_WIRE_TYPES S_WIRE_TYPES p e ha hc hk s m _ below hf ((Spec.applies_iff_loose hf).mp happ).1 ⟨rfl, State.Warmed39.refl s, rfl⟩ trivial
  refine ⟨n, _, h1, h2, h3, hpost _ _ _ _ _ _ ⟨Cond.after_iff.mpr rfl, Cond.after_iff.mpr (eq_i res_at (Term.int_eval (1)) rfl), trivial⟩ ⟨hq.1, hq.2.1, hq.2.2.1, (hq.2.2.2.sift fun y hy => Or.inr (N y hy)).mono (by decide) (by decide)⟩⟩
theorem main_1_1 : Claimed_1_1 := comes_1 fun _ _ _ _ _ _ h hF => ⟨h.1, hF⟩
theorem main_1_2 : Claimed_1_2 := comes_1 fun _ _ _ _ _ _ h hF => ⟨h.2.1, hF⟩
end Jvm.Pilot.@@N@@
namespace Jvm.Pilot.@@N@@
open Jvm Jvm.ClassFile Sem Op Lib Jvm.Free Jvm.Stand Jvm.Pilot.@@N@@.Jvm.D
/-! MADE BY PROGRAM (witnessworld.py) out of the Statement's table words and the real class files: 16 classes; the members and pool entries that the words name. The judged class is class 1, her method 1. -/
namespace start1
open Jvm.ClassFile
def u (s : String) : CpInfo := .utf8 (stringToUtf16 s)
/-- a pool by its gaps: so many unusable entries, then the entry; so many at the end -/
def gap : Nat → List CpInfo → List CpInfo
  | 0, r => r
  | n + 1, r => .unusable :: gap n r
def poolList (es : List (Nat × CpInfo)) (last : Nat) : List CpInfo := es.foldr (fun e r => gap e.1 (e.2 :: r)) (gap last [])
def pool (es : List (Nat × CpInfo)) (last : Nat) : Array CpInfo := ⟨poolList es last⟩
def fileOf (pool : Array CpInfo) (this : Nat) (attrs : Array Attribute := #[]) (ms : Array MethodInfo := #[]) (fl : Nat := 33) (sup : Nat := 0) (ifs : Array Nat := #[]) (fds : Array FieldInfo := #[]) : ClassFile where
  minorVersion := 0
  majorVersion := 65
  constantPool := pool
  accessFlags := fl
  thisClass := this
  superClass := sup
  interfaces := ifs
  fields := fds
  methods := ms
  attributes := attrs
def plain (name : String) (sup : Option ClassId) : Class where
  name := name
  kind := .ordinary
  loader := none
  accessFlags := 33
  super := sup
  interfaces := #[]
  cf := none
  fields := #[]
  methods := #[]
  instanceTypes := #[]
  staticTypes := #[]
  resolved := #[]
  callSites := []
  init := .initialized
  statics := none
  mirror := none

def pool0 : Array CpInfo := pool [(5, u "<init>"), (0, u "()V"), (1, .class_ 10), (1, u "java/lang/Object")] 113

def k0c0 : Code := { maxStack := 0, maxLocals := 1, code := object_method_1_code, exceptionTable := #[], attributes := #[] }
def k0m0 : Method := { name := "<init>", desc := "()V", sig := { parameters := [], returnType := none }, accessFlags := 1, code := some k0c0 }
/-- java/lang/Object -/
def k0 : Class := { plain "java/lang/Object" none with
  accessFlags := 33
  interfaces := #[]
  cf := some (fileOf pool0 8 #[] #[{ accessFlags := 1, nameIndex := 5, descriptorIndex := 6, attributes := #[] }] 33 0 #[] #[])
  fields := #[]
  methods := #[k0m0]
  instanceTypes := #[]
  staticTypes := #[]
  resolved := Array.replicate 124 none
  statics := none }

def pool1 : Array CpInfo := pool [(2, .class_ 4), (1, u "java/lang/Object"), (0, u "<init>"), (0, u "()V"), (0, .class_ 8), (0, u "com/example/fillwire/fillwire/codec/ProtoReader"), (0, .string 10), (0, u "m"), (0, .methodref 7 12), (0, .nameAndType 5 13), (0, u "([BLjava/lang/String;)V"), (0, .methodref 7 15), (0, .nameAndType 16 17), (0, u "next"), (0, u "()Z"), (0, .long 536870911), (1, .integer 2147483647), (0, .methodref 22 23), (0, .class_ 24), (0, .nameAndType 25 26), (0, u "com/example/fillwire/fillwire/codec/ProtoReaderNextPinLaw"), (0, u "minLen"), (0, u "(J)I"), (0, .methodref 28 29), (0, .class_ 30), (0, .nameAndType 31 32), (0, u "java/lang/Math"), (0, u "min"), (0, u "(II)I"), (0, .long 4), (1, .methodref 22 36), (0, .nameAndType 37 38), (0, u "put"), (0, u "([BIJI)V"), (0, .methodref 7 40), (0, .nameAndType 41 42), (0, u "field"), (0, u "()I"), (0, .methodref 7 44), (0, .nameAndType 45 6), (0, u "skip"), (0, .long 128), (1, .long 16384), (1, .long 2097152), (1, .long 268435456), (1, .long 127), (1, .methodref 22 57), (0, .nameAndType 58 59), (0, u "g"), (0, u "(JII)B"), (2, u "law"), (0, u "(IIII)Z")] 8

def k1m0 : Method := { name := "<init>", desc := "()V", sig := { parameters := [], returnType := none }, accessFlags := 1, code := none }
def k1c1 : Code := { maxStack := 5, maxLocals := 22, code := code, exceptionTable := #[], attributes := #[] }
def k1m1 : Method := { name := "law", desc := "(IIII)Z", sig := { parameters := [.int, .int, .int, .int], returnType := some .boolean }, accessFlags := 9, code := some k1c1 }
def k1c2 : Code := { maxStack := 4, maxLocals := 2, code := method_3_code, exceptionTable := #[], attributes := #[] }
def k1m2 : Method := { name := "minLen", desc := "(J)I", sig := { parameters := [.long], returnType := some .int }, accessFlags := 10, code := some k1c2 }
def k1c3 : Code := { maxStack := 4, maxLocals := 6, code := method_4_code, exceptionTable := #[], attributes := #[] }
def k1m3 : Method := { name := "g", desc := "(JII)B", sig := { parameters := [.long, .int, .int], returnType := some .byte }, accessFlags := 10, code := some k1c3 }
def k1c4 : Code := { maxStack := 6, maxLocals := 5, code := method_5_code, exceptionTable := #[], attributes := #[] }
def k1m4 : Method := { name := "put", desc := "([BIJI)V", sig := { parameters := [(.array .byte), .int, .long, .int], returnType := none }, accessFlags := 10, code := some k1c4 }
/-- com/example/fillwire/fillwire/codec/ProtoReaderNextPinLaw -/
def k1 : Class := { plain "com/example/fillwire/fillwire/codec/ProtoReaderNextPinLaw" (some 0) with
  accessFlags := 49
  interfaces := #[]
  cf := some (fileOf pool1 22 #[] #[{ accessFlags := 1, nameIndex := 5, descriptorIndex := 6, attributes := #[] }, { accessFlags := 9, nameIndex := 62, descriptorIndex := 63, attributes := #[] }, { accessFlags := 10, nameIndex := 25, descriptorIndex := 26, attributes := #[] }, { accessFlags := 10, nameIndex := 58, descriptorIndex := 59, attributes := #[] }, { accessFlags := 10, nameIndex := 37, descriptorIndex := 38, attributes := #[] }] 49 2 #[] #[])
  fields := #[]
  methods := #[k1m0, k1m1, k1m2, k1m3, k1m4]
  instanceTypes := #[]
  staticTypes := #[]
  resolved := Array.replicate 72 none
  statics := none }

def pool2 : Array CpInfo := pool [(1, .methodref 2 3), (0, .class_ 4), (0, .nameAndType 5 6), (0, u "com/example/fillwire/fillwire/codec/ProtoReader"), (0, u "<init>"), (0, u "([BIILjava/lang/String;)V"), (0, .methodref 8 9), (0, .class_ 10), (0, .nameAndType 5 11), (0, u "java/lang/Object"), (0, u "()V"), (0, .fieldref 2 13), (0, .nameAndType 14 15), (0, u "bytes"), (0, u "[B"), (0, .fieldref 2 17), (0, .nameAndType 18 19), (0, u "position"), (0, u "I"), (0, .fieldref 2 21), (0, .nameAndType 22 19), (0, u "end"), (0, .fieldref 2 24), (0, .nameAndType 25 26), (0, u "name"), (0, u "Ljava/lang/String;"), (0, .methodref 2 28), (0, .nameAndType 29 11), (0, u "readKey"), (0, .fieldref 2 31), (0, .nameAndType 32 19), (0, u "wireType"), (0, .fieldref 2 34), (0, .nameAndType 35 19), (0, u "field"), (11, u "(I)V"), (0, .methodref 2 49), (0, .nameAndType 50 51), (0, u "readVarint"), (0, u "()J"), (5, .methodref 2 58), (0, .nameAndType 59 60), (0, u "readLength"), (0, u "()I"), (16, .methodref 2 78), (0, .nameAndType 79 47), (0, u "skipValue"), (0, .methodref 2 81), (0, .nameAndType 82 47), (0, u "advance"), (0, .methodref 2 84), (0, .nameAndType 85 47), (0, u "skipGroup"), (7, .long 536870911), (10, .fieldref 2 105), (0, .nameAndType 106 107), (0, u "WIRE_TYPES"), (0, u "[Ljava/lang/String;"), (41, u "VARINT"), (2, u "I64"), (1, u "LEN"), (1, u "END_GROUP"), (1, u "I32"), (1, u "MAX_FIELD_NUMBER"), (0, u "J"), (0, u "([BLjava/lang/String;)V"), (2, u "next"), (0, u "()Z"), (8, u "skip")] 44

def k2c0 : Code := { maxStack := 5, maxLocals := 3, code := prog_34_method_1_code, exceptionTable := #[], attributes := #[] }
def k2m0 : Method := { name := "<init>", desc := "([BLjava/lang/String;)V", sig := { parameters := [(.array .byte), (.object "java/lang/String")], returnType := none }, accessFlags := 0, code := some k2c0 }
def k2c1 : Code := { maxStack := 2, maxLocals := 5, code := prog_34_method_2_code, exceptionTable := #[], attributes := #[] }
def k2m1 : Method := { name := "<init>", desc := "([BIILjava/lang/String;)V", sig := { parameters := [(.array .byte), .int, .int, (.object "java/lang/String")], returnType := none }, accessFlags := 2, code := some k2c1 }
def k2c2 : Code := { maxStack := 2, maxLocals := 1, code := prog_34_method_3_code, exceptionTable := #[], attributes := #[] }
def k2m2 : Method := { name := "next", desc := "()Z", sig := { parameters := [], returnType := some .boolean }, accessFlags := 0, code := some k2c2 }
def k2c3 : Code := { maxStack := 1, maxLocals := 1, code := prog_34_method_4_code, exceptionTable := #[], attributes := #[] }
def k2m3 : Method := { name := "field", desc := "()I", sig := { parameters := [], returnType := some .int }, accessFlags := 0, code := some k2c3 }
def k2c4 : Code := { maxStack := 2, maxLocals := 1, code := prog_34_method_11_code, exceptionTable := #[], attributes := #[] }
def k2m4 : Method := { name := "skip", desc := "()V", sig := { parameters := [], returnType := none }, accessFlags := 0, code := some k2c4 }
def k2c5 : Code := { maxStack := 3, maxLocals := 2, code := prog_34_method_12_code, exceptionTable := #[], attributes := #[] }
def k2m5 : Method := { name := "skipValue", desc := "(I)V", sig := { parameters := [.int], returnType := none }, accessFlags := 2, code := some k2c5 }
def k2c6 : Code := { maxStack := 3, maxLocals := 3, code := prog_34_method_13_code, exceptionTable := #[], attributes := #[] }
def k2m6 : Method := { name := "skipGroup", desc := "(I)V", sig := { parameters := [.int], returnType := none }, accessFlags := 2, code := some k2c6 }
def k2c7 : Code := { maxStack := 4, maxLocals := 5, code := prog_34_method_14_code, exceptionTable := #[], attributes := #[] }
def k2m7 : Method := { name := "readKey", desc := "()V", sig := { parameters := [], returnType := none }, accessFlags := 2, code := some k2c7 }
def k2c8 : Code := { maxStack := 5, maxLocals := 5, code := prog_34_method_16_code, exceptionTable := #[], attributes := #[] }
def k2m8 : Method := { name := "readVarint", desc := "()J", sig := { parameters := [], returnType := some .long }, accessFlags := 2, code := some k2c8 }
def k2c9 : Code := { maxStack := 4, maxLocals := 4, code := prog_34_method_17_code, exceptionTable := #[], attributes := #[] }
def k2m9 : Method := { name := "readLength", desc := "()I", sig := { parameters := [], returnType := some .int }, accessFlags := 2, code := some k2c9 }
def k2c10 : Code := { maxStack := 3, maxLocals := 2, code := prog_34_method_18_code, exceptionTable := #[], attributes := #[] }
def k2m10 : Method := { name := "advance", desc := "(I)V", sig := { parameters := [.int], returnType := none }, accessFlags := 2, code := some k2c10 }
/-- com/example/fillwire/fillwire/codec/ProtoReader -/
def k2 : Class := { plain "com/example/fillwire/fillwire/codec/ProtoReader" (some 0) with
  accessFlags := 48
  interfaces := #[]
  cf := some (fileOf pool2 2 #[] #[{ accessFlags := 0, nameIndex := 5, descriptorIndex := 162, attributes := #[] }, { accessFlags := 2, nameIndex := 5, descriptorIndex := 6, attributes := #[] }, { accessFlags := 0, nameIndex := 165, descriptorIndex := 166, attributes := #[] }, { accessFlags := 0, nameIndex := 35, descriptorIndex := 60, attributes := #[] }, { accessFlags := 0, nameIndex := 175, descriptorIndex := 11, attributes := #[] }, { accessFlags := 2, nameIndex := 79, descriptorIndex := 47, attributes := #[] }, { accessFlags := 2, nameIndex := 85, descriptorIndex := 47, attributes := #[] }, { accessFlags := 2, nameIndex := 29, descriptorIndex := 11, attributes := #[] }, { accessFlags := 2, nameIndex := 50, descriptorIndex := 51, attributes := #[] }, { accessFlags := 2, nameIndex := 59, descriptorIndex := 60, attributes := #[] }, { accessFlags := 2, nameIndex := 82, descriptorIndex := 47, attributes := #[] }] 48 8 #[] #[{ accessFlags := 26, nameIndex := 149, descriptorIndex := 19, attributes := #[] }, { accessFlags := 26, nameIndex := 152, descriptorIndex := 19, attributes := #[] }, { accessFlags := 26, nameIndex := 154, descriptorIndex := 19, attributes := #[] }, { accessFlags := 26, nameIndex := 156, descriptorIndex := 19, attributes := #[] }, { accessFlags := 26, nameIndex := 158, descriptorIndex := 19, attributes := #[] }, { accessFlags := 26, nameIndex := 106, descriptorIndex := 107, attributes := #[] }, { accessFlags := 26, nameIndex := 160, descriptorIndex := 161, attributes := #[] }, { accessFlags := 18, nameIndex := 14, descriptorIndex := 15, attributes := #[] }, { accessFlags := 18, nameIndex := 22, descriptorIndex := 19, attributes := #[] }, { accessFlags := 18, nameIndex := 25, descriptorIndex := 26, attributes := #[] }, { accessFlags := 2, nameIndex := 18, descriptorIndex := 19, attributes := #[] }, { accessFlags := 2, nameIndex := 35, descriptorIndex := 19, attributes := #[] }, { accessFlags := 2, nameIndex := 32, descriptorIndex := 19, attributes := #[] }])
  fields := #[{ name := "VARINT", type := .int, accessFlags := 26, slot := 0, constantValue := 0 }, { name := "I64", type := .int, accessFlags := 26, slot := 1, constantValue := 0 }, { name := "LEN", type := .int, accessFlags := 26, slot := 2, constantValue := 0 }, { name := "END_GROUP", type := .int, accessFlags := 26, slot := 3, constantValue := 0 }, { name := "I32", type := .int, accessFlags := 26, slot := 4, constantValue := 0 }, { name := "WIRE_TYPES", type := (.array (.object "java/lang/String")), accessFlags := 26, slot := 5, constantValue := 0 }, { name := "MAX_FIELD_NUMBER", type := .long, accessFlags := 26, slot := 6, constantValue := 0 }, { name := "bytes", type := (.array .byte), accessFlags := 18, slot := 0, constantValue := 0 }, { name := "end", type := .int, accessFlags := 18, slot := 1, constantValue := 0 }, { name := "name", type := (.object "java/lang/String"), accessFlags := 18, slot := 2, constantValue := 0 }, { name := "position", type := .int, accessFlags := 2, slot := 3, constantValue := 0 }, { name := "field", type := .int, accessFlags := 2, slot := 4, constantValue := 0 }, { name := "wireType", type := .int, accessFlags := 2, slot := 5, constantValue := 0 }]
  methods := #[k2m0, k2m1, k2m2, k2m3, k2m4, k2m5, k2m6, k2m7, k2m8, k2m9, k2m10]
  instanceTypes := #[(.array .byte), .int, (.object "java/lang/String"), .int, .int, .int]
  staticTypes := #[.int, .int, .int, .int, .int, (.array (.object "java/lang/String")), .long]
  resolved := Array.replicate 220 none
  statics := some 0 }

def pool3 : Array CpInfo := pool [(1, .class_ 2), (0, u "java/io/Serializable"), (0, .class_ 4), (0, u "java/lang/Object")] 2

/-- java/io/Serializable -/
def k3 : Class := { plain "java/io/Serializable" (some 0) with
  accessFlags := 1537
  interfaces := #[]
  cf := some (fileOf pool3 1 #[] #[] 1537 3 #[] #[])
  fields := #[]
  methods := #[]
  instanceTypes := #[]
  staticTypes := #[]
  resolved := Array.replicate 7 none
  statics := none }

def pool4 : Array CpInfo := pool [(1, .class_ 2), (0, u "java/lang/Comparable"), (0, .class_ 4), (0, u "java/lang/Object")] 7

/-- java/lang/Comparable -/
def k4 : Class := { plain "java/lang/Comparable" (some 0) with
  accessFlags := 1537
  interfaces := #[]
  cf := some (fileOf pool4 1 #[] #[] 1537 3 #[] #[])
  fields := #[]
  methods := #[]
  instanceTypes := #[]
  staticTypes := #[]
  resolved := Array.replicate 12 none
  statics := none }

def pool5 : Array CpInfo := pool [(2, .class_ 4), (1, u "java/lang/CharSequence"), (42, .class_ 48), (0, u "java/lang/CharSequence$1CodePointIterator"), (10, .class_ 60), (0, u "java/lang/CharSequence$1CharIterator"), (5, .class_ 67), (0, u "java/lang/Object")] 63

/-- java/lang/CharSequence -/
def k5 : Class := { plain "java/lang/CharSequence" (some 0) with
  accessFlags := 1537
  interfaces := #[]
  cf := some (fileOf pool5 2 #[.nestMembers #[47, 59]] #[] 1537 66 #[] #[])
  fields := #[]
  methods := #[]
  instanceTypes := #[]
  staticTypes := #[]
  resolved := Array.replicate 131 none
  statics := none }

def pool6 : Array CpInfo := pool [(1, .class_ 2), (0, u "java/lang/constant/Constable"), (0, .class_ 4), (0, u "java/lang/Object")] 6

/-- java/lang/constant/Constable -/
def k6 : Class := { plain "java/lang/constant/Constable" (some 0) with
  accessFlags := 1537
  interfaces := #[]
  cf := some (fileOf pool6 1 #[] #[] 1537 3 #[] #[])
  fields := #[]
  methods := #[]
  instanceTypes := #[]
  staticTypes := #[]
  resolved := Array.replicate 11 none
  statics := none }

def pool7 : Array CpInfo := pool [(1, .class_ 2), (0, u "java/lang/constant/ConstantDesc"), (0, .class_ 4), (0, u "java/lang/Object")] 32

/-- java/lang/constant/ConstantDesc -/
def k7 : Class := { plain "java/lang/constant/ConstantDesc" (some 0) with
  accessFlags := 1537
  interfaces := #[]
  cf := some (fileOf pool7 1 #[] #[] 1537 3 #[] #[])
  fields := #[]
  methods := #[]
  instanceTypes := #[]
  staticTypes := #[]
  resolved := Array.replicate 37 none
  statics := none }

def pool8 : Array CpInfo := pool [(2, .class_ 4), (1, u "java/lang/Object"), (0, u "<init>"), (0, u "()V"), (3, .class_ 12), (1, u "java/lang/String"), (0, u "value"), (0, u "[B"), (2, u "coder"), (0, u "B"), (2, u "hash"), (0, u "I"), (2, u "hashIsZero"), (0, u "Z"), (13, u "COMPACT_STRINGS"), (534, .class_ 576), (0, u "java/lang/CharSequence"), (22, u "CASE_INSENSITIVE_ORDER"), (0, u "Ljava/util/Comparator;"), (500, u "serialPersistentFields"), (0, u "[Ljava/io/ObjectStreamField;"), (0, .class_ 1104), (0, u "java/lang/String$CaseInsensitiveComparator"), (1, .class_ 1107), (0, u "java/io/Serializable"), (0, .class_ 1109), (0, u "java/lang/Comparable"), (0, .class_ 1111), (0, u "java/lang/constant/Constable"), (0, .class_ 1113), (0, u "java/lang/constant/ConstantDesc"), (2, u "serialVersionUID"), (0, u "J"), (3, u "REPL"), (0, u "C"), (2, u "LATIN1"), (1, u "UTF16")] 323

def k8m0 : Method := { name := "<init>", desc := "()V", sig := { parameters := [], returnType := none }, accessFlags := 1, code := none }
/-- java/lang/String -/
def k8 : Class := { plain "java/lang/String" (some 0) with
  accessFlags := 49
  interfaces := #[3, 4, 5, 6, 7]
  cf := some (fileOf pool8 10 #[.nestMembers #[1103]] #[{ accessFlags := 1, nameIndex := 5, descriptorIndex := 6, attributes := #[] }] 49 2 #[1106, 1108, 575, 1110, 1112] #[{ accessFlags := 18, nameIndex := 13, descriptorIndex := 14, attributes := #[] }, { accessFlags := 18, nameIndex := 17, descriptorIndex := 18, attributes := #[] }, { accessFlags := 2, nameIndex := 21, descriptorIndex := 22, attributes := #[] }, { accessFlags := 2, nameIndex := 25, descriptorIndex := 26, attributes := #[] }, { accessFlags := 26, nameIndex := 1116, descriptorIndex := 1117, attributes := #[] }, { accessFlags := 24, nameIndex := 40, descriptorIndex := 26, attributes := #[] }, { accessFlags := 26, nameIndex := 1101, descriptorIndex := 1102, attributes := #[] }, { accessFlags := 26, nameIndex := 1121, descriptorIndex := 1122, attributes := #[] }, { accessFlags := 25, nameIndex := 599, descriptorIndex := 600, attributes := #[] }, { accessFlags := 24, nameIndex := 1125, descriptorIndex := 18, attributes := #[] }, { accessFlags := 24, nameIndex := 1127, descriptorIndex := 18, attributes := #[] }])
  fields := #[{ name := "value", type := (.array .byte), accessFlags := 18, slot := 0, constantValue := 0 }, { name := "coder", type := .byte, accessFlags := 18, slot := 1, constantValue := 0 }, { name := "hash", type := .int, accessFlags := 2, slot := 2, constantValue := 0 }, { name := "hashIsZero", type := .boolean, accessFlags := 2, slot := 3, constantValue := 0 }, { name := "serialVersionUID", type := .long, accessFlags := 26, slot := 0, constantValue := 0 }, { name := "COMPACT_STRINGS", type := .boolean, accessFlags := 24, slot := 1, constantValue := 0 }, { name := "serialPersistentFields", type := (.array (.object "java/io/ObjectStreamField")), accessFlags := 26, slot := 2, constantValue := 0 }, { name := "REPL", type := .char, accessFlags := 26, slot := 3, constantValue := 0 }, { name := "CASE_INSENSITIVE_ORDER", type := (.object "java/util/Comparator"), accessFlags := 25, slot := 4, constantValue := 0 }, { name := "LATIN1", type := .byte, accessFlags := 24, slot := 5, constantValue := 0 }, { name := "UTF16", type := .byte, accessFlags := 24, slot := 6, constantValue := 0 }]
  methods := #[k8m0]
  instanceTypes := #[(.array .byte), .byte, .int, .boolean]
  staticTypes := #[.long, .boolean, (.array (.object "java/io/ObjectStreamField")), .char, (.object "java/util/Comparator"), .byte, .byte]
  resolved := Array.replicate 1451 none
  statics := none }

def pool9 : Array CpInfo := pool [(1, .class_ 2), (0, u "java/lang/Math"), (1, .class_ 6), (1, u "java/lang/Object"), (0, u "<init>"), (0, u "()V"), (89, .class_ 100), (1, u "java/lang/Math$RandomNumberGeneratorHolder"), (71, u "negativeZeroFloatBits"), (0, u "J"), (2, u "negativeZeroDoubleBits"), (24, u "min"), (43, u "$assertionsDisabled"), (0, u "Z"), (88, u "(II)I"), (2, u "twoToTheDoubleScaleDown"), (0, u "D"), (4, u "twoToTheDoubleScaleUp"), (9, u "E"), (3, u "PI"), (2, u "TAU"), (2, u "DEGREES_TO_RADIANS"), (0, u "RADIANS_TO_DEGREES")] 94

def k9m0 : Method := { name := "<init>", desc := "()V", sig := { parameters := [], returnType := none }, accessFlags := 2, code := none }
def k9c1 : Code := { maxStack := 2, maxLocals := 2, code := jdk_29_method_69_code, exceptionTable := #[], attributes := #[] }
def k9m1 : Method := { name := "min", desc := "(II)I", sig := { parameters := [.int, .int], returnType := some .int }, accessFlags := 9, code := some k9c1 }
/-- java/lang/Math -/
def k9 : Class := { plain "java/lang/Math" (some 0) with
  accessFlags := 49
  interfaces := #[]
  cf := some (fileOf pool9 1 #[.nestMembers #[98]] #[{ accessFlags := 2, nameIndex := 7, descriptorIndex := 8, attributes := #[] }, { accessFlags := 9, nameIndex := 201, descriptorIndex := 335, attributes := #[] }] 49 4 #[] #[{ accessFlags := 25, nameIndex := 354, descriptorIndex := 339, attributes := #[] }, { accessFlags := 25, nameIndex := 358, descriptorIndex := 339, attributes := #[] }, { accessFlags := 25, nameIndex := 361, descriptorIndex := 339, attributes := #[] }, { accessFlags := 26, nameIndex := 364, descriptorIndex := 339, attributes := #[] }, { accessFlags := 26, nameIndex := 365, descriptorIndex := 339, attributes := #[] }, { accessFlags := 26, nameIndex := 172, descriptorIndex := 173, attributes := #[] }, { accessFlags := 26, nameIndex := 176, descriptorIndex := 173, attributes := #[] }, { accessFlags := 8, nameIndex := 344, descriptorIndex := 339, attributes := #[] }, { accessFlags := 8, nameIndex := 338, descriptorIndex := 339, attributes := #[] }, { accessFlags := 4120, nameIndex := 245, descriptorIndex := 246, attributes := #[] }])
  fields := #[{ name := "E", type := .double, accessFlags := 25, slot := 0, constantValue := 0 }, { name := "PI", type := .double, accessFlags := 25, slot := 1, constantValue := 0 }, { name := "TAU", type := .double, accessFlags := 25, slot := 2, constantValue := 0 }, { name := "DEGREES_TO_RADIANS", type := .double, accessFlags := 26, slot := 3, constantValue := 0 }, { name := "RADIANS_TO_DEGREES", type := .double, accessFlags := 26, slot := 4, constantValue := 0 }, { name := "negativeZeroFloatBits", type := .long, accessFlags := 26, slot := 5, constantValue := 0 }, { name := "negativeZeroDoubleBits", type := .long, accessFlags := 26, slot := 6, constantValue := 0 }, { name := "twoToTheDoubleScaleUp", type := .double, accessFlags := 8, slot := 7, constantValue := 0 }, { name := "twoToTheDoubleScaleDown", type := .double, accessFlags := 8, slot := 8, constantValue := 0 }, { name := "$assertionsDisabled", type := .boolean, accessFlags := 4120, slot := 9, constantValue := 0 }]
  methods := #[k9m0, k9m1]
  instanceTypes := #[]
  staticTypes := #[.double, .double, .double, .double, .double, .long, .long, .double, .double, .boolean]
  resolved := Array.replicate 460 none
  statics := none }

def pool10 : Array CpInfo := pool [(1, u "java/lang/Cloneable"), (0, .class_ 1), (0, u "java/lang/Object"), (0, .class_ 3)] 3

/-- java/lang/Cloneable -/
def k10 : Class := { plain "java/lang/Cloneable" (some 0) with
  accessFlags := 1537
  interfaces := #[]
  cf := some (fileOf pool10 2 #[] #[] 1537 4 #[] #[])
  fields := #[]
  methods := #[]
  instanceTypes := #[]
  staticTypes := #[]
  resolved := Array.replicate 8 none
  statics := none }

/-- the primitive byte -/
def k11 : Class := { plain "byte" none with kind := .primitive 'B', accessFlags := 0x411 }
/-- [B -/
def k12 : Class := { plain "[B" (some 0) with kind := .array 11 .byte, interfaces := #[10, 3], accessFlags := 1041 }

/-- the primitive int -/
def k13 : Class := { plain "int" none with kind := .primitive 'I', accessFlags := 0x411 }
/-- [I -/
def k14 : Class := { plain "[I" (some 0) with kind := .array 13 .int, interfaces := #[10, 3], accessFlags := 1041 }

/-- [Ljava/lang/String; -/
def k15 : Class := { plain "[Ljava/lang/String;" (some 0) with kind := .array 8 (.object "java/lang/String"), interfaces := #[10, 3], accessFlags := 1041 }

def heap : Heap := #[{ cls := 2, slots := #[.int 0, .int 0, .int 0, .int 0, .int 0, .ref 1, .long 0], vm := .statics 2 },
  { cls := 15, slots := #[.null, .null, .null, .null, .null, .null], vm := .none }]
def classes : Array Class := #[k0, k1, k2, k3, k4, k5, k6, k7, k8, k9, k10, k11, k12, k13, k14, k15]
def interned : List (Array UInt16 × Addr) := []
def slotsUsed : Nat := 13
def theMethod : MethodId := ⟨1, 1⟩
def args0 : Array Value := #[.int 5, .int 7, .int 9, .int 11]
def aboutOver (below : List Frame) : State where
  vm := { classes := classes, interned := interned.toArray }
  heap := heap
  slotsUsed := slotsUsed
  threads := #[{ frames := .invoking theMethod args0 :: below }]
def below0 : List Frame := [.native { method := ⟨0, 0⟩, args := #[] }]
def about1 : State := aboutOver below0
def p0 : Program := .bare "" "" ""
def e0 : Env := launch0.env 0 0 0
theorem w_frames : about1.frames = Frame.invoking theMethod args0 :: below0 := rfl
set_option maxRecDepth 65536 in
theorem w_args : argsFit about1.vm theMethod args0 = true := by decide +kernel
set_option maxRecDepth 65536 in
theorem w_heap : heapFits about1 = true := by decide +kernel
set_option maxRecDepth 65536 in
theorem w_runnable : about1.curStatus? = some .runnable := by decide +kernel
set_option maxRecDepth 65536 in
theorem w_alone : about1.alone = true := by decide +kernel
set_option maxRecDepth 65536 in
theorem w_named : about1.methodNamed? x = some theMethod := by decide +kernel
set_option maxRecDepth 65536 in
theorem w_hears : about1.hears theMethod below0 = true := by decide +kernel
set_option maxRecDepth 65536 in
theorem w_ripe : about1.ripe theMethod args0 below0 = true := by decide +kernel
theorem w_running : about1.status = .running := rfl
set_option maxRecDepth 65536 in
theorem w_room : about1.hasRoom e0.platform room_1 = true :=
  launch0.hasRoom_least _ room_1 (by decide +kernel) (by decide +kernel) (by decide +kernel) (by decide +kernel) (by decide +kernel) (by decide +kernel)
theorem allAtoms_all (ts : List Jvm.Cond) (a : Array Jvm.Value) (st : Jvm.State) : (allAtoms ts).before a st = ts.all (fun c => c.before a st) := by
  induction ts with
  | nil => rfl
  | cons c t ih =>
    show (Jvm.Cond.and c (allAtoms t)).before a st = _
    rw [Jvm.Cond.before_and, ih, List.all_cons]
def words1 : List Jvm.Cond := Jvm.Cond.code x code maxLocals ret :: tables_1
/-- a 'code' word, met by the world's own term for the bytes: nothing is compared byte by byte -/
theorem code_word {y : MethodName} {bytes : ByteArray} {mx : Nat} {rt : Option FieldType} {a : Array Value} {s : State} {m : MethodId} {meth : Method} {c : Code} (h1 : s.methodNamed? y = some m) (h2 : s.vm.method? m = some meth) (h3 : meth.code = some c) (h4 : c.code = bytes)
    (h5 : (c.maxLocals == mx && c.exceptionTable.isEmpty && decide (c.maxStack ≤ mostOperands) && decide (meth.sig.returnType = rt) && !meth.locks && decide (parseMethodDescriptor y.desc = some meth.sig)) = true) : (Jvm.Cond.code y bytes mx rt).before a s = true := by
  simp only [Bool.and_eq_true, beq_iff_eq, Bool.not_eq_true', decide_eq_true_eq] at h5
  obtain ⟨⟨⟨⟨⟨g1, g2⟩, g3⟩, g4⟩, g5⟩, g6⟩ := h5
  simp [Cond.before, Cond.holds, Cond.value, h1, h2, h3, h4, g1, g2, g3, g4, g5, g6]
def isCode : Jvm.Cond → Bool
  | .code _ _ _ _ => true
  | _ => false
theorem all_split {L : List Jvm.Cond} {P : Jvm.Cond → Bool} (h1 : L.all (fun c => isCode c || P c) = true) (h2 : ∀ c ∈ L.filter isCode, P c = true) : L.all P = true := by
  refine List.all_eq_true.mpr fun c hc => ?_
  have h := List.all_eq_true.mp h1 c hc
  rcases Bool.eq_false_or_eq_true (isCode c) with hi | hi
  · exact h2 c (List.mem_filter.mpr ⟨hc, hi⟩)
  · simpa [hi] using h
set_option maxRecDepth 65536 in
theorem w_c0 : (Jvm.Cond.code x code maxLocals ret).before args0 about1 = true := code_word (m := ⟨1, 1⟩) (meth := k1m1) (c := k1c1) (by decide +kernel) rfl rfl rfl (by decide +kernel)
set_option maxRecDepth 65536 in
theorem w_c1 : (Jvm.Cond.code ({ cls := "com/example/fillwire/fillwire/codec/ProtoReader", name := "<init>", desc := "([BLjava/lang/String;)V" } : Jvm.MethodName) prog_34_method_1_code (3 : Nat) (Option.none : Option Jvm.ClassFile.FieldType)).before args0 about1 = true := code_word (m := ⟨2, 0⟩) (meth := k2m0) (c := k2c0) (by decide +kernel) rfl rfl rfl (by decide +kernel)
set_option maxRecDepth 65536 in
theorem w_c2 : (Jvm.Cond.code ({ cls := "com/example/fillwire/fillwire/codec/ProtoReader", name := "<init>", desc := "([BIILjava/lang/String;)V" } : Jvm.MethodName) prog_34_method_2_code (5 : Nat) (Option.none : Option Jvm.ClassFile.FieldType)).before args0 about1 = true := code_word (m := ⟨2, 1⟩) (meth := k2m1) (c := k2c1) (by decide +kernel) rfl rfl rfl (by decide +kernel)
set_option maxRecDepth 65536 in
theorem w_c3 : (Jvm.Cond.code ({ cls := "java/lang/Object", name := "<init>", desc := "()V" } : Jvm.MethodName) object_method_1_code (1 : Nat) (Option.none : Option Jvm.ClassFile.FieldType)).before args0 about1 = true := code_word (m := ⟨0, 0⟩) (meth := k0m0) (c := k0c0) (by decide +kernel) rfl rfl rfl (by decide +kernel)
set_option maxRecDepth 65536 in
theorem w_c4 : (Jvm.Cond.code ({ cls := "com/example/fillwire/fillwire/codec/ProtoReader", name := "next", desc := "()Z" } : Jvm.MethodName) prog_34_method_3_code (1 : Nat) (Option.some Jvm.ClassFile.FieldType.boolean)).before args0 about1 = true := code_word (m := ⟨2, 2⟩) (meth := k2m2) (c := k2c2) (by decide +kernel) rfl rfl rfl (by decide +kernel)
set_option maxRecDepth 65536 in
theorem w_c5 : (Jvm.Cond.code ({ cls := "com/example/fillwire/fillwire/codec/ProtoReaderNextPinLaw", name := "minLen", desc := "(J)I" } : Jvm.MethodName) method_3_code (2 : Nat) (Option.some Jvm.ClassFile.FieldType.int)).before args0 about1 = true := code_word (m := ⟨1, 2⟩) (meth := k1m2) (c := k1c2) (by decide +kernel) rfl rfl rfl (by decide +kernel)
set_option maxRecDepth 65536 in
theorem w_c6 : (Jvm.Cond.code ({ cls := "java/lang/Math", name := "min", desc := "(II)I" } : Jvm.MethodName) jdk_29_method_69_code (2 : Nat) (Option.some Jvm.ClassFile.FieldType.int)).before args0 about1 = true := code_word (m := ⟨9, 1⟩) (meth := k9m1) (c := k9c1) (by decide +kernel) rfl rfl rfl (by decide +kernel)
set_option maxRecDepth 65536 in
theorem w_c7 : (Jvm.Cond.code ({ cls := "com/example/fillwire/fillwire/codec/ProtoReaderNextPinLaw", name := "put", desc := "([BIJI)V" } : Jvm.MethodName) method_5_code (5 : Nat) (Option.none : Option Jvm.ClassFile.FieldType)).before args0 about1 = true := code_word (m := ⟨1, 4⟩) (meth := k1m4) (c := k1c4) (by decide +kernel) rfl rfl rfl (by decide +kernel)
set_option maxRecDepth 65536 in
theorem w_c8 : (Jvm.Cond.code ({ cls := "com/example/fillwire/fillwire/codec/ProtoReaderNextPinLaw", name := "g", desc := "(JII)B" } : Jvm.MethodName) method_4_code (6 : Nat) (Option.some Jvm.ClassFile.FieldType.byte)).before args0 about1 = true := code_word (m := ⟨1, 3⟩) (meth := k1m3) (c := k1c3) (by decide +kernel) rfl rfl rfl (by decide +kernel)
set_option maxRecDepth 65536 in
theorem w_c9 : (Jvm.Cond.code ({ cls := "com/example/fillwire/fillwire/codec/ProtoReader", name := "readKey", desc := "()V" } : Jvm.MethodName) prog_34_method_14_code (5 : Nat) (Option.none : Option Jvm.ClassFile.FieldType)).before args0 about1 = true := code_word (m := ⟨2, 7⟩) (meth := k2m7) (c := k2c7) (by decide +kernel) rfl rfl rfl (by decide +kernel)
set_option maxRecDepth 65536 in
theorem w_c10 : (Jvm.Cond.code ({ cls := "com/example/fillwire/fillwire/codec/ProtoReader", name := "readVarint", desc := "()J" } : Jvm.MethodName) prog_34_method_16_code (5 : Nat) (Option.some Jvm.ClassFile.FieldType.long)).before args0 about1 = true := code_word (m := ⟨2, 8⟩) (meth := k2m8) (c := k2c8) (by decide +kernel) rfl rfl rfl (by decide +kernel)
set_option maxRecDepth 65536 in
theorem w_c11 : (Jvm.Cond.code ({ cls := "com/example/fillwire/fillwire/codec/ProtoReader", name := "field", desc := "()I" } : Jvm.MethodName) prog_34_method_4_code (1 : Nat) (Option.some Jvm.ClassFile.FieldType.int)).before args0 about1 = true := code_word (m := ⟨2, 3⟩) (meth := k2m3) (c := k2c3) (by decide +kernel) rfl rfl rfl (by decide +kernel)
set_option maxRecDepth 65536 in
theorem w_c12 : (Jvm.Cond.code ({ cls := "com/example/fillwire/fillwire/codec/ProtoReader", name := "skip", desc := "()V" } : Jvm.MethodName) prog_34_method_11_code (1 : Nat) (Option.none : Option Jvm.ClassFile.FieldType)).before args0 about1 = true := code_word (m := ⟨2, 4⟩) (meth := k2m4) (c := k2c4) (by decide +kernel) rfl rfl rfl (by decide +kernel)
set_option maxRecDepth 65536 in
theorem w_c13 : (Jvm.Cond.code ({ cls := "com/example/fillwire/fillwire/codec/ProtoReader", name := "skipValue", desc := "(I)V" } : Jvm.MethodName) prog_34_method_12_code (2 : Nat) (Option.none : Option Jvm.ClassFile.FieldType)).before args0 about1 = true := code_word (m := ⟨2, 5⟩) (meth := k2m5) (c := k2c5) (by decide +kernel) rfl rfl rfl (by decide +kernel)
set_option maxRecDepth 65536 in
theorem w_c14 : (Jvm.Cond.code ({ cls := "com/example/fillwire/fillwire/codec/ProtoReader", name := "skipGroup", desc := "(I)V" } : Jvm.MethodName) prog_34_method_13_code (3 : Nat) (Option.none : Option Jvm.ClassFile.FieldType)).before args0 about1 = true := code_word (m := ⟨2, 6⟩) (meth := k2m6) (c := k2c6) (by decide +kernel) rfl rfl rfl (by decide +kernel)
set_option maxRecDepth 65536 in
theorem w_c15 : (Jvm.Cond.code ({ cls := "com/example/fillwire/fillwire/codec/ProtoReader", name := "advance", desc := "(I)V" } : Jvm.MethodName) prog_34_method_18_code (2 : Nat) (Option.none : Option Jvm.ClassFile.FieldType)).before args0 about1 = true := code_word (m := ⟨2, 10⟩) (meth := k2m10) (c := k2c10) (by decide +kernel) rfl rfl rfl (by decide +kernel)
set_option maxRecDepth 65536 in
theorem w_c16 : (Jvm.Cond.code ({ cls := "com/example/fillwire/fillwire/codec/ProtoReader", name := "readLength", desc := "()I" } : Jvm.MethodName) prog_34_method_17_code (4 : Nat) (Option.some Jvm.ClassFile.FieldType.int)).before args0 about1 = true := code_word (m := ⟨2, 9⟩) (meth := k2m9) (c := k2c9) (by decide +kernel) rfl rfl rfl (by decide +kernel)
def codes1 : List Jvm.Cond := [Jvm.Cond.code x code maxLocals ret, Jvm.Cond.code ({ cls := "com/example/fillwire/fillwire/codec/ProtoReader", name := "<init>", desc := "([BLjava/lang/String;)V" } : Jvm.MethodName) prog_34_method_1_code (3 : Nat) (Option.none : Option Jvm.ClassFile.FieldType), Jvm.Cond.code ({ cls := "com/example/fillwire/fillwire/codec/ProtoReader", name := "<init>", desc := "([BIILjava/lang/String;)V" } : Jvm.MethodName) prog_34_method_2_code (5 : Nat) (Option.none : Option Jvm.ClassFile.FieldType), Jvm.Cond.code ({ cls := "java/lang/Object", name := "<init>", desc := "()V" } : Jvm.MethodName) object_method_1_code (1 : Nat) (Option.none : Option Jvm.ClassFile.FieldType), Jvm.Cond.code ({ cls := "com/example/fillwire/fillwire/codec/ProtoReader", name := "next", desc := "()Z" } : Jvm.MethodName) prog_34_method_3_code (1 : Nat) (Option.some Jvm.ClassFile.FieldType.boolean), Jvm.Cond.code ({ cls := "com/example/fillwire/fillwire/codec/ProtoReaderNextPinLaw", name := "minLen", desc := "(J)I" } : Jvm.MethodName) method_3_code (2 : Nat) (Option.some Jvm.ClassFile.FieldType.int), Jvm.Cond.code ({ cls := "java/lang/Math", name := "min", desc := "(II)I" } : Jvm.MethodName) jdk_29_method_69_code (2 : Nat) (Option.some Jvm.ClassFile.FieldType.int), Jvm.Cond.code ({ cls := "com/example/fillwire/fillwire/codec/ProtoReaderNextPinLaw", name := "put", desc := "([BIJI)V" } : Jvm.MethodName) method_5_code (5 : Nat) (Option.none : Option Jvm.ClassFile.FieldType), Jvm.Cond.code ({ cls := "com/example/fillwire/fillwire/codec/ProtoReaderNextPinLaw", name := "g", desc := "(JII)B" } : Jvm.MethodName) method_4_code (6 : Nat) (Option.some Jvm.ClassFile.FieldType.byte), Jvm.Cond.code ({ cls := "com/example/fillwire/fillwire/codec/ProtoReader", name := "readKey", desc := "()V" } : Jvm.MethodName) prog_34_method_14_code (5 : Nat) (Option.none : Option Jvm.ClassFile.FieldType), Jvm.Cond.code ({ cls := "com/example/fillwire/fillwire/codec/ProtoReader", name := "readVarint", desc := "()J" } : Jvm.MethodName) prog_34_method_16_code (5 : Nat) (Option.some Jvm.ClassFile.FieldType.long), Jvm.Cond.code ({ cls := "com/example/fillwire/fillwire/codec/ProtoReader", name := "field", desc := "()I" } : Jvm.MethodName) prog_34_method_4_code (1 : Nat) (Option.some Jvm.ClassFile.FieldType.int), Jvm.Cond.code ({ cls := "com/example/fillwire/fillwire/codec/ProtoReader", name := "skip", desc := "()V" } : Jvm.MethodName) prog_34_method_11_code (1 : Nat) (Option.none : Option Jvm.ClassFile.FieldType), Jvm.Cond.code ({ cls := "com/example/fillwire/fillwire/codec/ProtoReader", name := "skipValue", desc := "(I)V" } : Jvm.MethodName) prog_34_method_12_code (2 : Nat) (Option.none : Option Jvm.ClassFile.FieldType), Jvm.Cond.code ({ cls := "com/example/fillwire/fillwire/codec/ProtoReader", name := "skipGroup", desc := "(I)V" } : Jvm.MethodName) prog_34_method_13_code (3 : Nat) (Option.none : Option Jvm.ClassFile.FieldType), Jvm.Cond.code ({ cls := "com/example/fillwire/fillwire/codec/ProtoReader", name := "advance", desc := "(I)V" } : Jvm.MethodName) prog_34_method_18_code (2 : Nat) (Option.none : Option Jvm.ClassFile.FieldType), Jvm.Cond.code ({ cls := "com/example/fillwire/fillwire/codec/ProtoReader", name := "readLength", desc := "()I" } : Jvm.MethodName) prog_34_method_17_code (4 : Nat) (Option.some Jvm.ClassFile.FieldType.int)]
set_option maxRecDepth 65536 in
theorem codes_eq : words1.filter isCode = codes1 := rfl
theorem w_codes : ∀ c ∈ words1.filter isCode, c.before args0 about1 = true := by
  rw [codes_eq]
  intro c hc
  simp only [codes1, List.mem_cons, List.not_mem_nil, or_false] at hc
  rcases hc with rfl | rfl | rfl | rfl | rfl | rfl | rfl | rfl | rfl | rfl | rfl | rfl | rfl | rfl | rfl | rfl | rfl
  · exact w_c0
  · exact w_c1
  · exact w_c2
  · exact w_c3
  · exact w_c4
  · exact w_c5
  · exact w_c6
  · exact w_c7
  · exact w_c8
  · exact w_c9
  · exact w_c10
  · exact w_c11
  · exact w_c12
  · exact w_c13
  · exact w_c14
  · exact w_c15
  · exact w_c16
set_option maxRecDepth 65536 in
theorem w_t1 : (words1.take 24).all (fun c => isCode c || c.before args0 about1) = true := by decide +kernel
set_option maxRecDepth 65536 in
theorem w_t2 : ((words1.drop 24).take 24).all (fun c => isCode c || c.before args0 about1) = true := by decide +kernel
set_option maxRecDepth 65536 in
theorem w_t3 : (((words1.drop 24).drop 24).take 24).all (fun c => isCode c || c.before args0 about1) = true := by decide +kernel
set_option maxRecDepth 65536 in
theorem w_t4 : ((((words1.drop 24).drop 24).drop 24).take 24).all (fun c => isCode c || c.before args0 about1) = true := by decide +kernel
set_option maxRecDepth 65536 in
theorem w_t5 : ((((words1.drop 24).drop 24).drop 24).drop 24).all (fun c => isCode c || c.before args0 about1) = true := by decide +kernel
theorem w_tables : (allAtoms (Jvm.Cond.code x code maxLocals ret :: tables_1)).before args0 about1 = true := by
  rw [allAtoms_all]
  show words1.all (fun c => c.before args0 about1) = true
  refine all_split ?_ w_codes
  rw [← List.take_append_drop 24 words1, List.all_append, w_t1, ← List.take_append_drop 24 (words1.drop 24), List.all_append, w_t2, ← List.take_append_drop 24 ((words1.drop 24).drop 24), List.all_append, w_t3, ← List.take_append_drop 24 (((words1.drop 24).drop 24).drop 24), List.all_append, w_t4, w_t5]
  rfl
set_option maxRecDepth 65536 in
theorem w_case : (Jvm.Cond.and given_1 narrow_1).before args0 about1 = true := by decide +kernel
theorem w_applies : (headSpec (Jvm.Cond.code x code maxLocals ret :: tables_1) room_1).applies x e0.platform about1 = true :=
  (Spec.applies_iff w_frames).mpr ⟨w_running, w_runnable, w_alone, w_named, w_hears, w_ripe, w_room, w_tables⟩
theorem atStart : AtStart classFile x code maxLocals ret World_1 tables_1 room_1 Calls_1 rest_1 Pre_1 launch0 p0 e0 about1 theMethod args0 below0 :=
  ⟨lists_1, trivial, launch0.admits_env _ _ _, launch0.least_env, fairChoices_fair.cas, fairChoices_fair.clock, w_frames, w_args, w_heap, w_applies, trivial, trivial, w_case⟩
end start1
theorem witness_1 : WitnessClaimed_1 := ⟨start1.p0, start1.e0, start1.about1, start1.theMethod, start1.args0, start1.below0, start1.atStart⟩
end Jvm.Pilot.@@N@@
