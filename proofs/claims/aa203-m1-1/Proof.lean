import JvmDerived
import JvmDerived.Pilot.@@N@@Statement
import JvmDerived.Pilot.@@N@@Code
set_option linter.unusedVariables false
set_option linter.unusedSimpArgs false
namespace Jvm.RoadKit
open Sem ClassFile Op Lib Jvm.Stand Jvm.Free Jvm.LawKit
section Own
variable {p : Program} {l : Launch} {e : Env} {R : Room} {s : State} {m : MethodId} {args : Array Value} {below : List Frame} {meth : Method} {c : Code} {T T' : State} {locs : List Loc} {cells slots kc ks : Nat} {Q : Option Value → Heap → List Loc → Prop} {g g' : JFrame} {FE : Outcome → State → List Loc → Prop}
/-- from T with the frame g on top the body comes to its end: what it returns, the heap and the places written are as Q says; FE: the frame's own word of that end -/
def OFin (p : Program) (e : Env) (below : List Frame) (FE : Outcome → State → List Loc → Prop) (Q : Option Value → Heap → List Loc → Prop) (T : State) (g : JFrame) : Prop :=
  ∃ s₂ o, Steps p.tables e below (T.setTop g) s₂ ∧ s₂.status = .running ∧ Ended s₂ below o ∧ ∃ v L, o = .returned v ∧ Q v s₂.heap L ∧ FE o s₂ L
theorem OFin.st (st : ∀ target, Steps p.tables e below (T'.setTop g') target → Steps p.tables e below (T.setTop g) target) (h : OFin p e below FE Q T' g') : OFin p e below FE Q T g := by
  obtain ⟨s₂, o, h1, r⟩ := h; exact ⟨s₂, o, st _ h1, r⟩
theorem OFin.tr (st : Steps p.tables e below (T.setTop g) (T'.setTop g')) (h : OFin p e below FE Q T' g') : OFin p e below FE Q T g := h.st fun _ k => st.trans k
theorem OFin.cast (q : g = g') (h : OFin p e below FE Q T g') : OFin p e below FE Q T g := q ▸ h
/-- the end's frame: narrow (nothing interned), and wide (over the tables at hand) -/
theorem own_endN {v : Option Value} (hc : cells ≤ kc) (hs : slots ≤ ks) : ∀ fs : List Frame, s.WarmedH (T.setFrames fs).vm → s.sameButNew ({ T.setFrames fs with vm := s.vm } : State) locs cells slots → FrameEnd s (.returned v) (T.setFrames fs) locs kc ks :=
  fun fs hW h => ⟨⟨v, rfl⟩, hW, h.mono hc hs⟩
theorem own_endW {vm₁ : Vm} {n : Nat} {v : Option Value} (hS : s.Since vm₁ n) (hn : n ≤ T.heap.size) (hc : cells ≤ kc) (hs : slots ≤ ks) : ∀ fs : List Frame, (s.setVm vm₁).WarmedH (T.setFrames fs).vm → (s.setVm vm₁).sameButNew ({ T.setFrames fs with vm := vm₁ } : State) locs cells slots → ReturnedEndW s (.returned v) (T.setFrames fs) locs kc ks :=
  fun fs hW h => by
    obtain ⟨a, b, c'⟩ := hS.ended (U := T.setFrames fs) hW hn h
    exact ⟨⟨v, rfl⟩, a, b, c'.mono hc hs⟩
theorem own_retV (X : Stand p l e R s m args below meth c T locs cells slots) (hx : p.tables.exec = Jvm.exec) {pc : Nat} {Ls : Array Slot} (hret : meth.sig.returnType = none) (hlk : meth.locks = false) (hd : decode c.code pc = .ok (.return_, 1)) (hQ : Q none T.heap locs) (hE : ∀ fs : List Frame, s.WarmedH (T.setFrames fs).vm → s.sameButNew ({ T.setFrames fs with vm := s.vm } : State) locs cells slots → FE (.returned none) (T.setFrames fs) locs) : OFin p e below FE Q T (mkF m pc Ls []) := by
  obtain ⟨fs, hr, hrun, hended, hW, hsame⟩ := X.leave (v := none) (fun _ => rfl) hlk
  exact ⟨_, _, X.returnOut hx hret hd hr, hrun, hended, _, _, rfl, hQ, hE fs hW hsame⟩
theorem own_retI (X : Stand p l e R s m args below meth c T locs cells slots) (hx : p.tables.exec = Jvm.exec) {pc : Nat} {Ls : Array Slot} {z : Int32} {rest : List Value} (hret : meth.sig.returnType = some .int) (hlk : meth.locks = false) (hd : decode c.code pc = .ok (.ireturn, 1)) (hQ : Q (some (.int z)) T.heap locs) (hE : ∀ fs : List Frame, s.WarmedH (T.setFrames fs).vm → s.sameButNew ({ T.setFrames fs with vm := s.vm } : State) locs cells slots → FE (.returned (some (.int z))) (T.setFrames fs) locs) : OFin p e below FE Q T (mkF m pc Ls (.int z :: rest)) := by
  obtain ⟨fs, hr, hrun, hended, hW, hsame⟩ := X.leave (v := some (.int z)) (fun h => by rw [hret] at h; cases h) hlk
  exact ⟨_, _, retOut X hx hret rfl (Or.inl ⟨rfl, Or.inl rfl, z, rfl⟩) hd hr, hrun, hended, _, _, rfl, hQ, hE fs hW hsame⟩
theorem own_retN (X : Stand p l e R s m args below meth c T locs cells slots) (hx : p.tables.exec = Jvm.exec) {pc : Nat} {Ls : Array Slot} {z z' : Int32} {rest : List Value} {t : FieldType} (hret : meth.sig.returnType = some t) (hlk : meth.locks = false) (ht : t = .boolean ∨ t = .byte ∨ t = .char ∨ t = .short) (hz : nar t z = z') (hd : decode c.code pc = .ok (.ireturn, 1)) (hQ : Q (some (.int z')) T.heap locs) (hE : ∀ fs : List Frame, s.WarmedH (T.setFrames fs).vm → s.sameButNew ({ T.setFrames fs with vm := s.vm } : State) locs cells slots → FE (.returned (some (.int z'))) (T.setFrames fs) locs) : OFin p e below FE Q T (mkF m pc Ls (.int z :: rest)) := by
  subst hz
  obtain ⟨fs, hr, hrun, hended, hW, hsame⟩ := X.leave (v := some (.int (nar t z))) (fun h => by rw [hret] at h; cases h) hlk
  exact ⟨_, _, retN X hx hret ht hd hr, hrun, hended, _, _, rfl, hQ, hE fs hW hsame⟩
theorem own_retJ (X : Stand p l e R s m args below meth c T locs cells slots) (hx : p.tables.exec = Jvm.exec) {pc : Nat} {Ls : Array Slot} {z : Int64} {rest : List Value} (hret : meth.sig.returnType = some .long) (hlk : meth.locks = false) (hd : decode c.code pc = .ok (.lreturn, 1)) (hQ : Q (some (.long z)) T.heap locs) (hE : ∀ fs : List Frame, s.WarmedH (T.setFrames fs).vm → s.sameButNew ({ T.setFrames fs with vm := s.vm } : State) locs cells slots → FE (.returned (some (.long z))) (T.setFrames fs) locs) : OFin p e below FE Q T (mkF m pc Ls (.long z :: rest)) := by
  obtain ⟨fs, hr, hrun, hended, hW, hsame⟩ := X.leave (v := some (.long z)) (fun h => by rw [hret] at h; cases h) hlk
  exact ⟨_, _, retOut X hx hret rfl (Or.inr (Or.inl ⟨rfl, rfl, z, rfl⟩)) hd hr, hrun, hended, _, _, rfl, hQ, hE fs hW hsame⟩
theorem own_retR (X : Stand p l e R s m args below meth c T locs cells slots) (hx : p.tables.exec = Jvm.exec) {pc : Nat} {Ls : Array Slot} {w : Value} {t : FieldType} {rest : List Value} (hret : meth.sig.returnType = some t) (hlk : meth.locks = false) (ht : t.isReference = true) (hn : narrow t w = w) (hw : w.isRef = true) (hd : decode c.code pc = .ok (.areturn, 1)) (hQ : Q (some w) T.heap locs) (hE : ∀ fs : List Frame, s.WarmedH (T.setFrames fs).vm → s.sameButNew ({ T.setFrames fs with vm := s.vm } : State) locs cells slots → FE (.returned (some w)) (T.setFrames fs) locs) : OFin p e below FE Q T (mkF m pc Ls (w :: rest)) := by
  obtain ⟨fs, hr, hrun, hended, hW, hsame⟩ := X.leave (v := some w) (fun h => by rw [hret] at h; cases h) hlk
  exact ⟨_, _, retOut X hx hret hn (Or.inr (Or.inr (Or.inr (Or.inr ⟨rfl, ht, hw⟩)))) hd hr, hrun, hended, _, _, rfl, hQ, hE fs hW hsame⟩
end Own
end Jvm.RoadKit
namespace Jvm.RoadKit
open Sem ClassFile Op Lib Jvm.Stand Jvm.Free Jvm.LawKit
theorem own_fldI {args : Array Value} {s : State} {t : Term} {C n d : String} {a : Addr} {x : Int32} (ev : t.eval args s none [] s = some (.ref a)) (h : (Jvm.Cond.eq (Term.field t C n d) (Term.int x)).value args s none s [] = some true) : Fld s s.heap a C n d (.int x) := by
  obtain ⟨u, y, e1, e2, -, k2⟩ := cmp_v (Or.inl h)
  cases (Option.some.inj (e2.symm.trans (Term.int_eval x)) : y = .int x)
  obtain ⟨z, rfl⟩ := k2
  have q : z = x := by simpa [Jvm.Cond.value, e1, e2] using h
  subst q
  exact Fld.start ((fld_at ev).symm.trans e1)
theorem own_fldJ {args : Array Value} {s : State} {t : Term} {C n d : String} {a : Addr} {x : Int64} (ev : t.eval args s none [] s = some (.ref a)) (h : (Jvm.Cond.eq (Term.field t C n d) (Term.long x)).value args s none s [] = some true) : Fld s s.heap a C n d (.long x) := by
  obtain ⟨u, y, e1, e2, -, k2⟩ := cmp_v (Or.inl h)
  cases (Option.some.inj (e2.symm.trans (long_at x)) : y = .long x)
  obtain ⟨z, rfl⟩ := k2
  have q : z = x := by simpa [Jvm.Cond.value, e1, e2] using h
  subst q
  exact Fld.start ((fld_at ev).symm.trans e1)
end Jvm.RoadKit
namespace Jvm.RoadKit
theorem own_ite {α : Sort _} {P : α → Prop} {c : Prop} [Decidable c] {a b : α} (ha : P a) (hb : P b) : P (if c then a else b) := by split <;> assumption
theorem own_ite2 {α β : Sort _} {P : α → β → Prop} {c : Prop} [Decidable c] {a b : α} {a' b' : β} (ha : P a a') (hb : P b b') : P (if c then a else b) (if c then a' else b') := by split <;> assumption
/-- (x &&& 0x7fffffff) % d lies between 0 and d -/
theorem own_rem (x d : Int32) (n : Int) (hn : d.toInt = n) (h0 : 0 < n) : 0 ≤ ((x &&& (2147483647 : Int32)) % d).toInt ∧ ((x &&& (2147483647 : Int32)) % d).toInt < n := by
  have h1 := c_mask x (2147483647 : Int32) 31 (by decide) (by decide)
  have h2 := (c_irem (x &&& (2147483647 : Int32)) d n hn).1 (by rw [h1]; omega)
  rw [h2, h1]
  exact ⟨Int.emod_nonneg _ (by omega), Int.emod_lt_of_pos _ h0⟩
end Jvm.RoadKit
namespace Jvm.RoadKit
open Sem ClassFile Op Lib Jvm.Stand Jvm.Free Jvm.LawKit
theorem own_lremM {p : Program} {l : Launch} {e : Env} {R : Room} {s : State} {m : MethodId} {args : Array Value} {below : List Frame} {meth : Method} {c : Code} {T : State} {locs : List Loc} {cells slots : Nat} {g : JFrame} {target : State} (X : Stand p l e R s m args below meth c T locs cells slots) (hx : p.tables.exec = Jvm.exec) (hg : g.method = m) {x y : Int64} {rest : List Value} (hd : decode c.code g.pc = .ok (.lrem, 1)) (hs : g.stack = .long y :: .long x :: rest) (hy : y ≠ 0)
    (hr : Steps p.tables e below (T.setTop { g with pc := g.pc + 1, stack := .long (x % y) :: rest }) target) : Steps p.tables e below (T.setTop g) target :=
  XS.lrem X.here hx hg hd hs hy (by rw [lrem_mod]; exact hr)
end Jvm.RoadKit
namespace Jvm.RoadKit
open Sem ClassFile Op Lib Jvm.Stand Jvm.Free Jvm.LawKit
theorem own_pop2L {p : Program} {l : Launch} {e : Env} {R : Room} {s : State} {m : MethodId} {args : Array Value} {below : List Frame} {meth : Method} {c : Code} {T : State} {locs : List Loc} {cells slots : Nat} {g : JFrame} {target : State} (X : Stand p l e R s m args below meth c T locs cells slots) (hx : p.tables.exec = Jvm.exec) (hg : g.method = m) {x : Int64} {rest : List Value} (hd : decode c.code g.pc = .ok (.pop2, 1)) (hs : g.stack = .long x :: rest)
    (hr : Steps p.tables e below (T.setTop { g with pc := g.pc + 1, stack := rest }) target) : Steps p.tables e below (T.setTop g) target := by
  subst hg
  jvm_step X.here [X.here.top, hx, hd, hs, Value.category]
  exact hr
end Jvm.RoadKit
namespace Jvm.RoadKit
open Sem ClassFile Op Lib Jvm.Stand Jvm.Free Jvm.LawKit
section OwnArr
variable {p : Program} {l : Launch} {e : Env} {R : Room} {s : State} {m : MethodId} {args : Array Value} {below : List Frame} {meth : Method} {c : Code} {T T' : State} {locs : List Loc} {cells slots kc ks : Nat} {Q : Option Value → Heap → List Loc → Prop} {FE : Outcome → State → List Loc → Prop} {Z : State} {h h' : Heap} {a b : Addr} {k : ClassId} {ty : FieldType} {vs : List Value} {ws : List Addr} {i sl : Nat} {j : Int32} {v : Value}
/-- the array at a holds just vs -/
def Oar (Z : State) (h : Heap) (a : Addr) (k : ClassId) (ty : FieldType) (vs : List Value) : Prop := ∃ c : Cell, Arr Z h a c ty ∧ c.cls = k ∧ c.slots = vs.toArray ∧ vs.length < 2 ^ 31
theorem Oar.lt (F : Oar Z h a k ty vs) : a < h.size := by obtain ⟨c, A, -⟩ := F; exact A.lt
theorem Oar.len (F : Oar Z h a k ty vs) : vs.length < 2 ^ 31 := by obtain ⟨c, -, -, -, q⟩ := F; exact q
theorem Oar.ext (E : Ext h h') (F : Oar Z h a k ty vs) : Oar Z h' a k ty vs := by obtain ⟨c, A, r⟩ := F; exact ⟨c, A.ext E, r⟩
theorem Oar.other (W : Wr h h' b sl v) (F : Oar Z h a k ty vs) (q : a ≠ b) : Oar Z h' a k ty vs := by obtain ⟨c, A, r⟩ := F; exact ⟨c, A.other W q, r⟩
theorem Oar.keep (F : Oar Z h a k ty vs) (K : Keep h h' ws) (q : a ∉ ws) : Oar Z h' a k ty vs := by obtain ⟨c, A, r⟩ := F; exact ⟨c, ⟨K.2.1 a c A.1 q, A.2⟩, r⟩
theorem own_idx (hj : j.toInt = (i : Int)) : ¬ j < 0 ∧ j.toNatClampNeg = i := by
  constructor
  · rw [Int32.lt_iff_toInt_lt, hj]; simp
  · rw [Int32.toNatClampNeg, hj]; simp
theorem own_inb {c : Cell} (hs : c.slots = vs.toArray) (hj : j.toInt = (i : Int)) (hi : i < vs.length) : ¬ (j < 0 ∨ c.slots.size ≤ j.toNatClampNeg) := by
  obtain ⟨q1, q2⟩ := own_idx hj
  rw [q2, hs]; simp only [List.size_toArray]; intro q; rcases q with q | q
  · exact q1 q
  · omega
theorem own_cat1 {v : Value} (h : v.isRef = true) : v.category = 1 := by cases v <;> first | rfl | cases h
theorem own_lt_of {x : Value} (hv : vs[i]? = some x) : i < vs.length := (List.getElem?_eq_some_iff.mp hv).1
theorem Oar.set (F : Oar Z h a k ty vs) (W : Wr h h' a sl v) : Oar Z h' a k ty (vs.set sl v) := by
  obtain ⟨c, A, q1, q2, q3⟩ := F
  exact ⟨_, A.same W, q1, by simp [Cell.setSlot, q2], by simpa using q3⟩
theorem Oar.new {z : Int32} {n : Nat} (A : Arr Z h a (newA k ty z) ty) (hz : z.toInt = (n : Int)) : Oar Z h a k ty (List.replicate n (defaultValue ty)) := by
  obtain ⟨q1, q2⟩ := own_idx hz
  refine ⟨_, A, rfl, by simp [newA, q2], ?_⟩
  have := z.toInt_lt
  simp; omega
theorem own_iaload (X : Stand p l e R s m args below meth c T locs cells slots) (hx : p.tables.exec = Jvm.exec) (hZ : Z.Warmed39 s.vm) (eT : T.heap = h) (F : Oar Z h a k .int vs) (hj : j.toInt = (i : Int)) (hv : vs[i]? = some v) {pc pc' : Nat} {Ls : Array Slot} {rest : List Value} (hd : decode c.code pc = .ok (.iaload, 1)) (hp : pc + 1 = pc')
    (hr : OFin p e below FE Q T (mkF m pc' Ls (v :: rest))) : OFin p e below FE Q T (mkF m pc Ls (.int j :: .ref a :: rest)) := by
  subst hp; obtain ⟨cl, A, -, q2, -⟩ := F
  exact hr.st (X.iaload hx (j := j) (v := v) (by rw [eT]; exact A.1) (State.isArrayOf_alike hZ.alike A.2.1) A.2.2 (own_inb q2 hj (own_lt_of hv)) (by rw [(own_idx hj).2, q2]; simpa using hv) (g := mkF m pc Ls (.int j :: .ref a :: rest)) rfl rfl hd)
theorem own_laload (X : Stand p l e R s m args below meth c T locs cells slots) (hx : p.tables.exec = Jvm.exec) (hZ : Z.Warmed39 s.vm) (eT : T.heap = h) (F : Oar Z h a k .long vs) (hj : j.toInt = (i : Int)) (hv : vs[i]? = some v) {pc pc' : Nat} {Ls : Array Slot} {rest : List Value} (hd : decode c.code pc = .ok (.laload, 1)) (hp : pc + 1 = pc')
    (hr : OFin p e below FE Q T (mkF m pc' Ls (v :: rest))) : OFin p e below FE Q T (mkF m pc Ls (.int j :: .ref a :: rest)) := by
  subst hp; obtain ⟨cl, A, -, q2, -⟩ := F
  exact hr.st (X.laload hx (j := j) (v := v) (by rw [eT]; exact A.1) (State.isArrayOf_alike hZ.alike A.2.1) A.2.2 (own_inb q2 hj (own_lt_of hv)) (by rw [(own_idx hj).2, q2]; simpa using hv) (g := mkF m pc Ls (.int j :: .ref a :: rest)) rfl rfl hd)
theorem own_baload (X : Stand p l e R s m args below meth c T locs cells slots) (hx : p.tables.exec = Jvm.exec) (hZ : Z.Warmed39 s.vm) (eT : T.heap = h) (F : Oar Z h a k .byte vs) (hj : j.toInt = (i : Int)) (hv : vs[i]? = some v) {pc pc' : Nat} {Ls : Array Slot} {rest : List Value} (hd : decode c.code pc = .ok (.baload, 1)) (hp : pc + 1 = pc')
    (hr : OFin p e below FE Q T (mkF m pc' Ls (v :: rest))) : OFin p e below FE Q T (mkF m pc Ls (.int j :: .ref a :: rest)) := by
  subst hp; obtain ⟨cl, A, -, q2, -⟩ := F
  exact hr.st (X.baloadBytes hx (j := j) (v := v) (by rw [eT]; exact A.1) (State.isArrayOf_alike hZ.alike A.2.1) A.2.2 (own_inb q2 hj (own_lt_of hv)) (by rw [(own_idx hj).2, q2]; simpa using hv) (g := mkF m pc Ls (.int j :: .ref a :: rest)) rfl rfl hd)
theorem own_zaload (X : Stand p l e R s m args below meth c T locs cells slots) (hx : p.tables.exec = Jvm.exec) (hZ : Z.Warmed39 s.vm) (eT : T.heap = h) (F : Oar Z h a k .boolean vs) (hj : j.toInt = (i : Int)) (hv : vs[i]? = some v) {pc pc' : Nat} {Ls : Array Slot} {rest : List Value} (hd : decode c.code pc = .ok (.baload, 1)) (hp : pc + 1 = pc')
    (hr : OFin p e below FE Q T (mkF m pc' Ls (v :: rest))) : OFin p e below FE Q T (mkF m pc Ls (.int j :: .ref a :: rest)) := by
  subst hp; obtain ⟨cl, A, -, q2, -⟩ := F
  exact hr.st (X.baloadBooleans hx (j := j) (v := v) (by rw [eT]; exact A.1) (State.isArrayOf_alike hZ.alike A.2.1) A.2.2 (own_inb q2 hj (own_lt_of hv)) (by rw [(own_idx hj).2, q2]; simpa using hv) (g := mkF m pc Ls (.int j :: .ref a :: rest)) rfl rfl hd)
theorem own_aaload (X : Stand p l e R s m args below meth c T locs cells slots) (hx : p.tables.exec = Jvm.exec) (hZ : Z.Warmed39 s.vm) (eT : T.heap = h) (F : Oar Z h a k ty vs) (hty : ty.isReference = true) (hj : j.toInt = (i : Int)) (hv : vs[i]? = some v) {pc pc' : Nat} {Ls : Array Slot} {rest : List Value} (hd : decode c.code pc = .ok (.aaload, 1)) (hp : pc + 1 = pc')
    (hr : OFin p e below FE Q T (mkF m pc' Ls (v :: rest))) : OFin p e below FE Q T (mkF m pc Ls (.int j :: .ref a :: rest)) := by
  subst hp; obtain ⟨cl, A, -, q2, -⟩ := F
  exact hr.st (X.aaload hx (j := j) (v := v) (by rw [eT]; exact A.1) (State.isArrayOf_alike hZ.alike A.2.1) hty A.2.2 (own_inb q2 hj (own_lt_of hv)) (by rw [(own_idx hj).2, q2]; simpa using hv) (g := mkF m pc Ls (.int j :: .ref a :: rest)) rfl rfl hd)
theorem own_alen (X : Stand p l e R s m args below meth c T locs cells slots) (hx : p.tables.exec = Jvm.exec) (hZ : Z.Warmed39 s.vm) (eT : T.heap = h) (F : Oar Z h a k ty vs) {z : Int32} (hz : z.toInt = (vs.length : Int)) {pc pc' : Nat} {Ls : Array Slot} {rest : List Value} (hd : decode c.code pc = .ok (.arraylength, 1)) (hp : pc + 1 = pc')
    (hr : OFin p e below FE Q T (mkF m pc' Ls (.int z :: rest))) : OFin p e below FE Q T (mkF m pc Ls (.ref a :: rest)) := by
  subst hp; obtain ⟨cl, A, -, q2, q3⟩ := F
  have q : cl.slots.size.toInt32 = z := by
    rw [q2, List.size_toArray, ← Int32.toInt_inj, hz]; exact Int32.toInt_ofNat_small q3
  subst q
  exact hr.st (X.arraylength hx (by rw [eT]; exact A.1) (State.isArrayOf_alike hZ.alike A.2.1) (g := mkF m pc Ls (.ref a :: rest)) rfl rfl hd)
/-- a store: what each law of a store gives, over Oar -/
theorem own_lastore (X : Stand p l e R s m args below meth c T locs cells slots) (hx : p.tables.exec = Jvm.exec) (hZ : Z.Warmed39 s.vm) (eT : T.heap = h) (F : Oar Z h a k .long vs) (hj : j.toInt = (i : Int)) (hi : i < vs.length) {x : Int64} {pc : Nat} {Ls : Array Slot} {rest : List Value} (hd : decode c.code pc = .ok (.lastore, 1)) :
    ∃ T' h', Stand p l e R s m args below meth c T' (locs ++ [⟨a, i⟩]) cells slots ∧ T'.heap = h' ∧ Wr h h' a i (.long x) ∧ Oar Z h' a k .long (vs.set i (.long x)) ∧ ∀ target, Steps p.tables e below (T'.setTop (mkF m (pc + 1) Ls rest)) target → Steps p.tables e below (T.setTop (mkF m pc Ls (.long x :: .int j :: .ref a :: rest))) target := by
  have F' := F
  obtain ⟨cl, A, -, q2, -⟩ := F
  obtain ⟨T', h', X', e', W, st⟩ := stJ X hx hZ eT A (j := j) (x := x) (own_inb q2 hj hi) (g := mkF m pc Ls (.long x :: .int j :: .ref a :: rest)) rfl rfl hd
  rw [(own_idx hj).2] at X' W
  exact ⟨T', h', X', e', W, F'.set W, st⟩
theorem own_iastore (X : Stand p l e R s m args below meth c T locs cells slots) (hx : p.tables.exec = Jvm.exec) (hZ : Z.Warmed39 s.vm) (eT : T.heap = h) (F : Oar Z h a k .int vs) (hj : j.toInt = (i : Int)) (hi : i < vs.length) {x : Int32} {pc : Nat} {Ls : Array Slot} {rest : List Value} (hd : decode c.code pc = .ok (.iastore, 1)) :
    ∃ T' h', Stand p l e R s m args below meth c T' (locs ++ [⟨a, i⟩]) cells slots ∧ T'.heap = h' ∧ Wr h h' a i (.int x) ∧ Oar Z h' a k .int (vs.set i (.int x)) ∧ ∀ target, Steps p.tables e below (T'.setTop (mkF m (pc + 1) Ls rest)) target → Steps p.tables e below (T.setTop (mkF m pc Ls (.int x :: .int j :: .ref a :: rest))) target := by
  have F' := F
  obtain ⟨cl, A, -, q2, -⟩ := F
  obtain ⟨T', h', X', e', W, st⟩ := stI X hx hZ eT A (j := j) (x := x) (own_inb q2 hj hi) (g := mkF m pc Ls (.int x :: .int j :: .ref a :: rest)) rfl rfl hd
  rw [(own_idx hj).2] at X' W
  exact ⟨T', h', X', e', W, F'.set W, st⟩
theorem own_bastore (X : Stand p l e R s m args below meth c T locs cells slots) (hx : p.tables.exec = Jvm.exec) (hZ : Z.Warmed39 s.vm) (eT : T.heap = h) (F : Oar Z h a k .byte vs) (hj : j.toInt = (i : Int)) (hi : i < vs.length) {x y : Int32} (hy : x.toInt8.toInt32 = y) {pc : Nat} {Ls : Array Slot} {rest : List Value} (hd : decode c.code pc = .ok (.bastore, 1)) :
    ∃ T' h', Stand p l e R s m args below meth c T' (locs ++ [⟨a, i⟩]) cells slots ∧ T'.heap = h' ∧ Wr h h' a i (.int y) ∧ Oar Z h' a k .byte (vs.set i (.int y)) ∧ ∀ target, Steps p.tables e below (T'.setTop (mkF m (pc + 1) Ls rest)) target → Steps p.tables e below (T.setTop (mkF m pc Ls (.int x :: .int j :: .ref a :: rest))) target := by
  have F' := F
  obtain ⟨cl, A, -, q2, -⟩ := F
  obtain ⟨T', h', X', e', W, st⟩ := stB X hx hZ eT A (j := j) (x := x) (own_inb q2 hj hi) (g := mkF m pc Ls (.int x :: .int j :: .ref a :: rest)) rfl rfl hd
  subst hy
  rw [(own_idx hj).2] at X' W
  exact ⟨T', h', X', e', W, F'.set W, st⟩
theorem own_zastore (X : Stand p l e R s m args below meth c T locs cells slots) (hx : p.tables.exec = Jvm.exec) (hZ : Z.Warmed39 s.vm) (eT : T.heap = h) (F : Oar Z h a k .boolean vs) (hj : j.toInt = (i : Int)) (hi : i < vs.length) {x y : Int32} (hy : x &&& 1 = y) {pc : Nat} {Ls : Array Slot} {rest : List Value} (hd : decode c.code pc = .ok (.bastore, 1)) :
    ∃ T' h', Stand p l e R s m args below meth c T' (locs ++ [⟨a, i⟩]) cells slots ∧ T'.heap = h' ∧ Wr h h' a i (.int y) ∧ Oar Z h' a k .boolean (vs.set i (.int y)) ∧ ∀ target, Steps p.tables e below (T'.setTop (mkF m (pc + 1) Ls rest)) target → Steps p.tables e below (T.setTop (mkF m pc Ls (.int x :: .int j :: .ref a :: rest))) target := by
  have F' := F
  obtain ⟨cl, A, -, q2, -⟩ := F
  obtain ⟨T', h', X', e', W, st⟩ := stZ X hx hZ eT A (j := j) (x := x) (own_inb q2 hj hi) (g := mkF m pc Ls (.int x :: .int j :: .ref a :: rest)) rfl rfl hd
  subst hy
  rw [(own_idx hj).2] at X' W
  exact ⟨T', h', X', e', W, F'.set W, st⟩
theorem own_aastore (X : Stand p l e R s m args below meth c T locs cells slots) (hx : p.tables.exec = Jvm.exec) (hZ : Z.Warmed39 s.vm) (eT : T.heap = h) (F : Oar Z h a k ty vs) (hty : ty.isReference = true) (hj : j.toInt = (i : Int)) (hi : i < vs.length) (O : Sto Z h a v) {pc : Nat} {Ls : Array Slot} {rest : List Value} (hd : decode c.code pc = .ok (.aastore, 1)) :
    ∃ T' h', Stand p l e R s m args below meth c T' (locs ++ [⟨a, i⟩]) cells slots ∧ T'.heap = h' ∧ Wr h h' a i v ∧ Oar Z h' a k ty (vs.set i v) ∧ ∀ target, Steps p.tables e below (T'.setTop (mkF m (pc + 1) Ls rest)) target → Steps p.tables e below (T.setTop (mkF m pc Ls (v :: .int j :: .ref a :: rest))) target := by
  have F' := F
  obtain ⟨cl, A, -, q2, -⟩ := F
  obtain ⟨T', h', X', e', W, st⟩ := stR X hx hZ eT A (j := j) (v := v) (own_inb q2 hj hi) hty O (g := mkF m pc Ls (v :: .int j :: .ref a :: rest)) rfl rfl hd
  rw [(own_idx hj).2] at X' W
  exact ⟨T', h', X', e', W, F'.set W, st⟩
theorem own_newP (X : Stand p l e R s m args below meth c T locs cells slots) (hx : p.tables.exec = Jvm.exec) (hZ : Z.Warmed39 s.vm) {a0 : Array Value} {aty : ArrayType} (w : (Jvm.Cond.arrayClass (newarray.typeOf aty)).before a0 Z = true) (eT : T.heap = h) {z : Int32} {n cap : Nat} (hz : z.toInt = (n : Int)) (hcap : n ≤ cap) (hb : cap * 8 ≤ 536870912) (hc : cells + 1 ≤ R.cells) (hl : slots + cap ≤ R.slots) {pc : Nat} {Ls : Array Slot} {rest : List Value} (hd : decode c.code pc = .ok (.newarray aty, 2)) :
    ∃ T' h' cA, Stand p l e R s m args below meth c T' locs (cells + 1) (slots + cap) ∧ T'.heap = h' ∧ Ext h h' ∧ Oar Z h' h.size cA (newarray.typeOf aty) (List.replicate n (defaultValue (newarray.typeOf aty))) ∧ ∀ target, Steps p.tables e below (T'.setTop (mkF m (pc + 2) Ls (.ref h.size :: rest))) target → Steps p.tables e below (T.setTop (mkF m pc Ls (.int z :: rest))) target := by
  obtain ⟨q1, q2⟩ := own_idx hz
  obtain ⟨T', h', cA, X', e', E, A, st⟩ := newP X hx hZ w eT (g := mkF m pc Ls (.int z :: rest)) rfl hd rfl q1 (cap := cap) (by rw [q2]; exact hcap) hb hc hl
  exact ⟨T', h', cA, X', e', E, Oar.new A hz, st⟩
theorem own_newR (X : Stand p l e R s m args below meth c T locs cells slots) (hx : p.tables.exec = Jvm.exec) (hZ : Z.Warmed39 s.vm) {a0 : Array Value} {own C : String} {index : Nat} (hown : s.vm.findClass own = some m.cls) (w1 : (Jvm.Cond.classLink own index C).before a0 Z = true) (w2 : (Jvm.Cond.arrayOver (.object C)).before a0 Z = true) (eT : T.heap = h) {z : Int32} {n cap : Nat} (hz : z.toInt = (n : Int)) (hcap : n ≤ cap) (hb : cap * 8 ≤ 536870912) (hc : cells + 1 ≤ R.cells) (hl : slots + cap ≤ R.slots) {ad : String} (had : "[" ++ (FieldType.object C).toString = ad) {pc : Nat} {Ls : Array Slot} {rest : List Value} (hd : decode c.code pc = .ok (.anewarray index, 3)) :
    ∃ T' h' cA, Stand p l e R s m args below meth c T' locs (cells + 1) (slots + cap) ∧ T'.heap = h' ∧ Ext h h' ∧ Oar Z h' h.size cA (.object C) (List.replicate n .null) ∧ Exa Z h' h.size ad ∧ Ovr Z cA C ∧ ∀ target, Steps p.tables e below (T'.setTop (mkF m (pc + 3) Ls (.ref h.size :: rest))) target → Steps p.tables e below (T.setTop (mkF m pc Ls (.int z :: rest))) target := by
  obtain ⟨q1, q2⟩ := own_idx hz
  obtain ⟨T', h', cA, X', e', E, A, EE, O, st⟩ := newRE X hx hZ hown w1 w2 eT (g := mkF m pc Ls (.int z :: rest)) rfl hd rfl q1 (cap := cap) (by rw [q2]; exact hcap) hb hc hl had
  exact ⟨T', h', cA, X', e', E, Oar.new A hz, EE, O, st⟩
theorem own_newRA (X : Stand p l e R s m args below meth c T locs cells slots) (hx : p.tables.exec = Jvm.exec) (hZ : Z.Warmed39 s.vm) {a0 : Array Value} {own C : String} {t : FieldType} {index : Nat} (hown : s.vm.findClass own = some m.cls) (hC : (FieldType.array t).toString = C) (w1 : (Jvm.Cond.classLink own index C).before a0 Z = true) (w2 : (Jvm.Cond.arrayOver (.array t)).before a0 Z = true) (eT : T.heap = h) {z : Int32} {n cap : Nat} (hz : z.toInt = (n : Int)) (hcap : n ≤ cap) (hb : cap * 8 ≤ 536870912) (hc : cells + 1 ≤ R.cells) (hl : slots + cap ≤ R.slots) {ad : String} (had : "[" ++ C = ad) {pc : Nat} {Ls : Array Slot} {rest : List Value} (hd : decode c.code pc = .ok (.anewarray index, 3)) :
    ∃ T' h' cA, Stand p l e R s m args below meth c T' locs (cells + 1) (slots + cap) ∧ T'.heap = h' ∧ Ext h h' ∧ Oar Z h' h.size cA (.array t) (List.replicate n .null) ∧ Exa Z h' h.size ad ∧ OvrA Z cA t C ∧ ∀ target, Steps p.tables e below (T'.setTop (mkF m (pc + 3) Ls (.ref h.size :: rest))) target → Steps p.tables e below (T.setTop (mkF m pc Ls (.int z :: rest))) target := by
  obtain ⟨q1, q2⟩ := own_idx hz
  obtain ⟨T', h', cA, X', e', E, A, EE, O, st⟩ := newRA X hx hZ hown hC w1 w2 eT (g := mkF m pc Ls (.int z :: rest)) rfl hd rfl q1 (cap := cap) (by rw [q2]; exact hcap) hb hc hl had
  exact ⟨T', h', cA, X', e', E, Oar.new A hz, EE, O, st⟩
theorem own_sto {y : Addr} {C : String} (F : Oar Z h a k ty vs) (O : Ovr Z k C) (I : Ins Z h y C true) : Sto Z h a (.ref y) := by
  obtain ⟨cl, A, q, -, -⟩ := F; exact Sto.ofV A q O I
theorem own_clone (X : Stand p l e R s m args below meth c T locs cells slots) (hx : p.tables.exec = Jvm.exec) (hZ : Z.Warmed39 s.vm) {a0 : Array Value} {own ad : String} {index : Nat} (hown : s.vm.findClass own = some m.cls)
    (w1 : (Jvm.Cond.methodLink own index ⟨ad, "clone", "()Ljava/lang/Object;"⟩).before a0 Z = true) (w2 : (Jvm.Cond.sameMethod ad "java/lang/Object" "clone" "()Ljava/lang/Object;").before a0 Z = true) (w3 : (Jvm.Cond.native ⟨"java/lang/Object", "clone", "()Ljava/lang/Object;"⟩).before a0 Z = true)
    (w4 : (Jvm.Cond.instanceMethod ⟨"java/lang/Object", "clone", "()Ljava/lang/Object;"⟩).before a0 Z = true) (w5 : (Jvm.Cond.selects ad ⟨ad, "clone", "()Ljava/lang/Object;"⟩ ⟨"java/lang/Object", "clone", "()Ljava/lang/Object;"⟩).before a0 Z = true) (w6 : (Jvm.Cond.castable ad "java/lang/Cloneable").before a0 Z = true)
    (eT : T.heap = h) (F : Oar Z h a k ty vs) (hv : ∀ v ∈ vs, fits ty v = true) (E : Exa Z h a ad) {g : JFrame} (hg : g.method = m) (hsize : g.locals.size = c.maxLocals) {rest : List Value} (hs : g.stack = .ref a :: rest) (hd : decode c.code g.pc = .ok (.invokevirtual index, 3))
    (hf : 1 ≤ R.frames) {W cap : Nat} (hW : 2 * g.monitorRoom + (rest.map fun v => v.category).sum ≤ W) (hl : W + 14 ≤ R.locals) (hcap : vs.length ≤ cap) (hc : cells + 1 ≤ R.cells) (hsl : slots + cap ≤ R.slots) :
    ∃ T' h', Stand p l e R s m args below meth c T' locs (cells + 1) (slots + cap) ∧ T'.heap = h' ∧ Ext h h' ∧ Oar Z h' h.size k ty vs ∧ Exa Z h' h.size ad ∧
      ∀ target, Steps p.tables e below (T'.setTop { g with pc := g.pc + 3, stack := .ref h.size :: rest }) target → Steps p.tables e below (T.setTop g) target := by
  obtain ⟨cl, A, q1, q2, q3⟩ := F
  have FC : FitC Z cl := fitC_of A fun i hi v hv' => hv v (by
    rw [q2] at hv'
    exact List.mem_of_getElem? (i := i) (by simpa using hv'))
  obtain ⟨T', h', X', e', ex, A', E', st⟩ := cloneA X hx hZ hown w1 w2 w3 w4 w5 w6 eT A E FC hg hsize hs hd hf hW hl (cap := cap) (by rw [q2]; simpa using hcap) hc hsl
  exact ⟨T', h', X', e', ex, ⟨cloneOf cl, A', q1, q2, q3⟩, E', st⟩
end OwnArr
theorem own_iteH {α : Sort _} {P : α → Prop} {c : Prop} [Decidable c] {a b : α} (ha : c → P a) (hb : ¬ c → P b) : P (if c then a else b) := by
  split
  · rename_i q; exact ha q
  · rename_i q; exact hb q
theorem own_narR {t : FieldType} {v : Value} (h : v.isRef = true) : narrow t v = v := by
  rcases ref_cases h with rfl | ⟨y, rfl⟩ <;> cases t <;> rfl
/-- a private method is selected by its own class, where the sheet bears no such word -/
theorem own_selP {Z s : State} {a0 args : Array Value} {y : MethodName} {n : Nat} (hZ : Z.Warmed39 s.vm) (wi : (Jvm.Cond.instantiable y.cls n).before a0 Z = true) (wp : (Jvm.Cond.privateMethod y).before a0 Z = true) (wm : (Jvm.Cond.instanceMethod y).before a0 Z = true) (hy : y.cls ≠ "java/lang/invoke/MethodHandle" ∧ y.cls ≠ "java/lang/invoke/VarHandle") : (Jvm.Cond.selects y.cls y y).before args s = true := by
  obtain ⟨c, k, h1, h2, -, h4, -⟩ := Cond.instantiable_spec (mv (args := args) hZ wi)
  exact Stand.selects_self_of_private h1 h2 (by cases hk : k.isInterface <;> simp_all) (Cond.privateMethod_at (mvP hZ wp (args := args))) (mv hZ wm) hy
end Jvm.RoadKit
namespace Jvm.RoadKit
open Sem ClassFile Op Lib Jvm.Stand Jvm.Free Jvm.LawKit
/-- an element that is a named object -/
theorem own_elemR {args : Array Value} {s : State} {t u : Term} {j : Int32} {a : Addr} (h : (Jvm.Cond.eq (Term.elem t (Term.int j)) u).value args s none s [] = some true) (ev : u.eval args s none [] s = some (.ref a)) : (Term.elem t (Term.int j)).eval args s none [] s = some (.ref a) := by
  obtain ⟨x, y, e1, e2, k1, k2⟩ := cmp_v (Or.inl h)
  cases e2.symm.trans ev
  have hx : x.isRef = true := by cases x <;> simp_all [Kin]
  rcases ref_cases hx with rfl | ⟨b, rfl⟩
  · simp [Jvm.Cond.value, e1, e2] at h
  · have q : b = a := by simpa [Jvm.Cond.value, e1, e2] using h
    rw [e1, q]
/-- an array of the start, element by element -/
theorem own_arr {args : Array Value} {s : State} {t : Term} {a : Addr} {ty : FieldType} {vs : List Value} {n : Int32} (hfit : Fit s) (ev : t.eval args s none [] s = some (.ref a)) (h1 : (Jvm.Cond.arrayOf t ty).value args s none s [] = some true) (h2 : (Jvm.Cond.eq (Term.length t) (Term.int n)).value args s none s [] = some true)
    (hn : n.toInt = (vs.length : Int)) (hel : ∀ (j : Nat) (hj : j < vs.length), (Term.elem t (Term.int (Int32.ofNat j))).eval args s none [] s = some vs[j]) : ∃ k, Oar s s.heap a k ty vs := by
  obtain ⟨c, A⟩ := Arr.start ev h1
  obtain ⟨x, y, e1, e2, -, k2⟩ := cmp_v (Or.inl h2)
  cases (Option.some.inj (e2.symm.trans (Term.int_eval n)) : y = .int n)
  obtain ⟨z, rfl⟩ := k2
  have q : z = n := by simpa [Jvm.Cond.value, e1, e2] using h2
  subst q
  have hlt : vs.length < 2 ^ 31 := by have := z.toInt_lt; omega
  have hat := A.fin (Vm.Alike.refl _)
  have hsz : c.slots.size = vs.length := by
    by_cases hb : c.slots.size < 2 ^ 31
    · have e3 := len_f ev hat hb
      rw [e1] at e3
      have e4 : z = c.slots.size.toInt32 := by injection e3 with e3; injection e3
      have e5 := len_toInt hb
      rw [← e4, hn] at e5
      omega
    · simp [Term.eval, ev, hat, hb] at e1
  refine ⟨c.cls, c, A, rfl, ?_, hlt⟩
  apply Array.ext
  · simp [hsz]
  · intro i h3 h4
    have hi : i < vs.length := by simpa using h4
    have e6 := hel i hi
    have hj : (Int32.ofNat i).toInt = (i : Int) := Int32.toInt_ofNat_small (by omega)
    have e7 := elem_in e6 ev (Term.int_eval _) A.1
    rw [(own_idx hj).2] at e7
    have e8 := e7.2
    rw [Array.getElem?_eq_getElem h3] at e8
    injection e8 with e8
    try simpa using e8
end Jvm.RoadKit
namespace Jvm.RoadKit
open Sem ClassFile Op Lib Jvm.Stand Jvm.Free Jvm.LawKit
/-- an array of the start of which the length alone is known -/
theorem own_arrN {args : Array Value} {s : State} {t : Term} {a : Addr} {ty : FieldType} {n : Int32} {k : Nat} (ev : t.eval args s none [] s = some (.ref a)) (h1 : (Jvm.Cond.arrayOf t ty).value args s none s [] = some true) (h2 : (Jvm.Cond.eq (Term.length t) (Term.int n)).value args s none s [] = some true) (hn : n.toInt = (k : Int)) : ∃ kk vs, Oar s s.heap a kk ty vs ∧ vs.length = k := by
  obtain ⟨c, A⟩ := Arr.start ev h1
  obtain ⟨x, y, e1, e2, -, k2⟩ := cmp_v (Or.inl h2)
  cases (Option.some.inj (e2.symm.trans (Term.int_eval n)) : y = .int n)
  obtain ⟨z, rfl⟩ := k2
  have q : z = n := by simpa [Jvm.Cond.value, e1, e2] using h2
  subst q
  have hlt : k < 2 ^ 31 := by have := z.toInt_lt; omega
  have hat := A.fin (Vm.Alike.refl _)
  have hsz : c.slots.size = k := by
    by_cases hb : c.slots.size < 2 ^ 31
    · have e3 := len_f ev hat hb
      rw [e1] at e3
      have e4 : z = c.slots.size.toInt32 := by injection e3 with e3; injection e3
      have e5 := len_toInt hb
      rw [← e4, hn] at e5
      omega
    · simp [Term.eval, ev, hat, hb] at e1
  exact ⟨c.cls, c.slots.toList, ⟨c, A, rfl, by simp, by simp [hsz, hlt]⟩, by simp [hsz]⟩
end Jvm.RoadKit
namespace Jvm.Pilot.@@N@@
open Jvm Jvm.ClassFile Sem Op Lib Jvm.Free Jvm.Stand Jvm.LawKit Jvm.RoadKit Bundle Jvm.Pilot.@@N@@.Jvm.D
theorem d3_0 : decode jdk_22_method_1_code 0 = .ok (.aload_n 0, 1) := by decide +kernel
theorem d3_1 : decode jdk_22_method_1_code 1 = .ok (.invokespecial 1, 3) := by decide +kernel
theorem d3_4 : decode jdk_22_method_1_code 4 = .ok (.return_, 1) := by decide +kernel
theorem pn_java_util_AbstractCollection : plainName "java/util/AbstractCollection" = true := by first | (simp [plainName, overriddenIn]; done) | decide +kernel
theorem d2_0 : decode jdk_39_method_1_code 0 = .ok (.aload_n 0, 1) := by decide +kernel
theorem d2_1 : decode jdk_39_method_1_code 1 = .ok (.invokespecial 1, 3) := by decide +kernel
theorem pd_4 : parseMethodDescriptor "()V" = some ⟨[], none⟩ := by decide +kernel
theorem d2_4 : decode jdk_39_method_1_code 4 = .ok (.aload_n 0, 1) := by decide +kernel
theorem d2_5 : decode jdk_39_method_1_code 5 = .ok (.iconst 0, 1) := by decide +kernel
theorem d2_6 : decode jdk_39_method_1_code 6 = .ok (.putfield 7, 3) := by decide +kernel
theorem d2_9 : decode jdk_39_method_1_code 9 = .ok (.return_, 1) := by decide +kernel
theorem pn_java_util_AbstractList : plainName "java/util/AbstractList" = true := by first | (simp [plainName, overriddenIn]; done) | decide +kernel
theorem d1_0 : decode jdk_38_method_2_code 0 = .ok (.aload_n 0, 1) := by decide +kernel
theorem d1_1 : decode jdk_38_method_2_code 1 = .ok (.invokespecial 1, 3) := by decide +kernel
theorem d1_4 : decode jdk_38_method_2_code 4 = .ok (.aload_n 0, 1) := by decide +kernel
theorem d1_5 : decode jdk_38_method_2_code 5 = .ok (.getstatic 39, 3) := by decide +kernel
theorem d1_8 : decode jdk_38_method_2_code 8 = .ok (.putfield 9, 3) := by decide +kernel
theorem d1_11 : decode jdk_38_method_2_code 11 = .ok (.return_, 1) := by decide +kernel
theorem pn_java_util_ArrayList : plainName "java/util/ArrayList" = true := by first | (simp [plainName, overriddenIn]; done) | decide +kernel
theorem d11_0 : decode jdk_29_method_65_code 0 = .ok (.iload_n 0, 1) := by decide +kernel
theorem d11_1 : decode jdk_29_method_65_code 1 = .ok (.iload_n 1, 1) := by decide +kernel
theorem d11_2 : decode jdk_29_method_65_code 2 = .ok (.if_icmp .lt 7, 3) := by decide +kernel
theorem d11_9 : decode jdk_29_method_65_code 9 = .ok (.iload_n 1, 1) := by decide +kernel
theorem d11_10 : decode jdk_29_method_65_code 10 = .ok (.ireturn, 1) := by decide +kernel
theorem d11_5 : decode jdk_29_method_65_code 5 = .ok (.iload_n 0, 1) := by decide +kernel
theorem d11_6 : decode jdk_29_method_65_code 6 = .ok (.goto 4, 3) := by decide +kernel
theorem d10_0 : decode jdk_38_method_6_code 0 = .ok (.aload_n 0, 1) := by decide +kernel
theorem d10_1 : decode jdk_38_method_6_code 1 = .ok (.getfield 9, 3) := by decide +kernel
theorem d10_4 : decode jdk_38_method_6_code 4 = .ok (.arraylength, 1) := by decide +kernel
theorem d10_5 : decode jdk_38_method_6_code 5 = .ok (.istore_n 2, 1) := by decide +kernel
theorem d10_6 : decode jdk_38_method_6_code 6 = .ok (.iload_n 2, 1) := by decide +kernel
theorem d10_7 : decode jdk_38_method_6_code 7 = .ok (.ifCond .gt 13, 3) := by decide +kernel
theorem d10_10 : decode jdk_38_method_6_code 10 = .ok (.aload_n 0, 1) := by decide +kernel
theorem d10_11 : decode jdk_38_method_6_code 11 = .ok (.getfield 9, 3) := by decide +kernel
theorem d10_14 : decode jdk_38_method_6_code 14 = .ok (.getstatic 39, 3) := by decide +kernel
theorem d10_17 : decode jdk_38_method_6_code 17 = .ok (.if_acmp .eq 28, 3) := by decide +kernel
theorem d10_45 : decode jdk_38_method_6_code 45 = .ok (.aload_n 0, 1) := by decide +kernel
theorem d10_46 : decode jdk_38_method_6_code 46 = .ok (.bipush 10, 2) := by decide +kernel
theorem d10_48 : decode jdk_38_method_6_code 48 = .ok (.iload_n 1, 1) := by decide +kernel
theorem d10_49 : decode jdk_38_method_6_code 49 = .ok (.invokestatic 79, 3) := by decide +kernel
theorem pd_9 : parseMethodDescriptor "(II)I" = some ⟨[.int, .int], some .int⟩ := by decide +kernel
theorem d10_52 : decode jdk_38_method_6_code 52 = .ok (.anewarray 7, 3) := by decide +kernel
theorem d10_55 : decode jdk_38_method_6_code 55 = .ok (.dup_x1, 1) := by decide +kernel
theorem d10_56 : decode jdk_38_method_6_code 56 = .ok (.putfield 9, 3) := by decide +kernel
theorem d10_59 : decode jdk_38_method_6_code 59 = .ok (.areturn, 1) := by decide +kernel
theorem d9_0 : decode jdk_38_method_7_code 0 = .ok (.aload_n 0, 1) := by decide +kernel
theorem d9_1 : decode jdk_38_method_7_code 1 = .ok (.aload_n 0, 1) := by decide +kernel
theorem d9_2 : decode jdk_38_method_7_code 2 = .ok (.getfield 48, 3) := by decide +kernel
theorem d9_5 : decode jdk_38_method_7_code 5 = .ok (.iconst 1, 1) := by decide +kernel
theorem d9_6 : decode jdk_38_method_7_code 6 = .ok (.iadd, 1) := by decide +kernel
theorem d9_7 : decode jdk_38_method_7_code 7 = .ok (.invokevirtual 69, 3) := by decide +kernel
theorem pd_8 : parseMethodDescriptor "(I)[Ljava/lang/Object;" = some ⟨[.int], some (.array (.object "java/lang/Object"))⟩ := by decide +kernel
theorem d9_10 : decode jdk_38_method_7_code 10 = .ok (.areturn, 1) := by decide +kernel
theorem d8_0 : decode jdk_38_method_24_code 0 = .ok (.iload_n 3, 1) := by decide +kernel
theorem d8_1 : decode jdk_38_method_24_code 1 = .ok (.aload_n 2, 1) := by decide +kernel
theorem d8_2 : decode jdk_38_method_24_code 2 = .ok (.arraylength, 1) := by decide +kernel
theorem d8_3 : decode jdk_38_method_24_code 3 = .ok (.if_icmp .ne 8, 3) := by decide +kernel
theorem d8_6 : decode jdk_38_method_24_code 6 = .ok (.aload_n 0, 1) := by decide +kernel
theorem d8_7 : decode jdk_38_method_24_code 7 = .ok (.invokevirtual 129, 3) := by decide +kernel
theorem pd_6 : parseMethodDescriptor "()[Ljava/lang/Object;" = some ⟨[], some (.array (.object "java/lang/Object"))⟩ := by decide +kernel
theorem d8_10 : decode jdk_38_method_24_code 10 = .ok (.astore_n 2, 1) := by decide +kernel
theorem d8_11 : decode jdk_38_method_24_code 11 = .ok (.aload_n 2, 1) := by decide +kernel
theorem d8_12 : decode jdk_38_method_24_code 12 = .ok (.iload_n 3, 1) := by decide +kernel
theorem d8_13 : decode jdk_38_method_24_code 13 = .ok (.aload_n 1, 1) := by decide +kernel
theorem d8_14 : decode jdk_38_method_24_code 14 = .ok (.aastore, 1) := by decide +kernel
theorem d8_15 : decode jdk_38_method_24_code 15 = .ok (.aload_n 0, 1) := by decide +kernel
theorem d8_16 : decode jdk_38_method_24_code 16 = .ok (.iload_n 3, 1) := by decide +kernel
theorem d8_17 : decode jdk_38_method_24_code 17 = .ok (.iconst 1, 1) := by decide +kernel
theorem d8_18 : decode jdk_38_method_24_code 18 = .ok (.iadd, 1) := by decide +kernel
theorem d8_19 : decode jdk_38_method_24_code 19 = .ok (.putfield 48, 3) := by decide +kernel
theorem d8_22 : decode jdk_38_method_24_code 22 = .ok (.return_, 1) := by decide +kernel
theorem d7_0 : decode jdk_38_method_25_code 0 = .ok (.aload_n 0, 1) := by decide +kernel
theorem d7_1 : decode jdk_38_method_25_code 1 = .ok (.dup, 1) := by decide +kernel
theorem d7_2 : decode jdk_38_method_25_code 2 = .ok (.getfield 63, 3) := by decide +kernel
theorem d7_5 : decode jdk_38_method_25_code 5 = .ok (.iconst 1, 1) := by decide +kernel
theorem d7_6 : decode jdk_38_method_25_code 6 = .ok (.iadd, 1) := by decide +kernel
theorem d7_7 : decode jdk_38_method_25_code 7 = .ok (.putfield 63, 3) := by decide +kernel
theorem d7_10 : decode jdk_38_method_25_code 10 = .ok (.aload_n 0, 1) := by decide +kernel
theorem d7_11 : decode jdk_38_method_25_code 11 = .ok (.aload_n 1, 1) := by decide +kernel
theorem d7_12 : decode jdk_38_method_25_code 12 = .ok (.aload_n 0, 1) := by decide +kernel
theorem d7_13 : decode jdk_38_method_25_code 13 = .ok (.getfield 9, 3) := by decide +kernel
theorem d7_16 : decode jdk_38_method_25_code 16 = .ok (.aload_n 0, 1) := by decide +kernel
theorem d7_17 : decode jdk_38_method_25_code 17 = .ok (.getfield 48, 3) := by decide +kernel
theorem d7_20 : decode jdk_38_method_25_code 20 = .ok (.invokevirtual 131, 3) := by decide +kernel
theorem pd_17 : parseMethodDescriptor "(Ljava/lang/Object;[Ljava/lang/Object;I)V" = some ⟨[(.object "java/lang/Object"), (.array (.object "java/lang/Object")), .int], none⟩ := by decide +kernel
theorem d7_23 : decode jdk_38_method_25_code 23 = .ok (.iconst 1, 1) := by decide +kernel
theorem d7_24 : decode jdk_38_method_25_code 24 = .ok (.ireturn, 1) := by decide +kernel
theorem d6_0 : decode jdk_30_method_1_code 0 = .ok (.aload_n 0, 1) := by decide +kernel
theorem d6_1 : decode jdk_30_method_1_code 1 = .ok (.invokespecial 1, 3) := by decide +kernel
theorem d6_4 : decode jdk_30_method_1_code 4 = .ok (.return_, 1) := by decide +kernel
theorem pn_java_lang_Record : plainName "java/lang/Record" = true := by first | (simp [plainName, overriddenIn]; done) | decide +kernel
theorem d5_0 : decode prog_108_method_1_code 0 = .ok (.aload_n 0, 1) := by decide +kernel
theorem d5_1 : decode prog_108_method_1_code 1 = .ok (.invokespecial 1, 3) := by decide +kernel
theorem d5_4 : decode prog_108_method_1_code 4 = .ok (.aload_n 0, 1) := by decide +kernel
theorem d5_5 : decode prog_108_method_1_code 5 = .ok (.aload_n 1, 1) := by decide +kernel
theorem d5_6 : decode prog_108_method_1_code 6 = .ok (.putfield 7, 3) := by decide +kernel
theorem d5_9 : decode prog_108_method_1_code 9 = .ok (.aload_n 0, 1) := by decide +kernel
theorem d5_10 : decode prog_108_method_1_code 10 = .ok (.aload_n 2, 1) := by decide +kernel
theorem d5_11 : decode prog_108_method_1_code 11 = .ok (.putfield 13, 3) := by decide +kernel
theorem d5_14 : decode prog_108_method_1_code 14 = .ok (.aload_n 0, 1) := by decide +kernel
theorem d5_15 : decode prog_108_method_1_code 15 = .ok (.aload_n 3, 1) := by decide +kernel
theorem d5_16 : decode prog_108_method_1_code 16 = .ok (.putfield 17, 3) := by decide +kernel
theorem d5_19 : decode prog_108_method_1_code 19 = .ok (.aload_n 0, 1) := by decide +kernel
theorem d5_20 : decode prog_108_method_1_code 20 = .ok (.lload 4, 2) := by decide +kernel
theorem d5_22 : decode prog_108_method_1_code 22 = .ok (.putfield 21, 3) := by decide +kernel
theorem d5_25 : decode prog_108_method_1_code 25 = .ok (.aload_n 0, 1) := by decide +kernel
theorem d5_26 : decode prog_108_method_1_code 26 = .ok (.iload 6, 2) := by decide +kernel
theorem d5_28 : decode prog_108_method_1_code 28 = .ok (.putfield 25, 3) := by decide +kernel
theorem d5_31 : decode prog_108_method_1_code 31 = .ok (.return_, 1) := by decide +kernel
theorem pn_com_example_verdikt_verdikt_model_Variable : plainName "com/example/verdikt/verdikt/model/Variable" = true := by first | (simp [plainName, overriddenIn]; done) | decide +kernel
theorem d18_0 : decode prog_108_method_7_code 0 = .ok (.aload_n 0, 1) := by decide +kernel
theorem d18_1 : decode prog_108_method_7_code 1 = .ok (.getfield 17, 3) := by decide +kernel
theorem d18_4 : decode prog_108_method_7_code 4 = .ok (.areturn, 1) := by decide +kernel
theorem d19_0 : decode prog_108_method_9_code 0 = .ok (.aload_n 0, 1) := by decide +kernel
theorem d19_1 : decode prog_108_method_9_code 1 = .ok (.getfield 25, 3) := by decide +kernel
theorem d19_4 : decode prog_108_method_9_code 4 = .ok (.ireturn, 1) := by decide +kernel
theorem d14_0 : decode jdk_49_method_1_code 0 = .ok (.aload_n 0, 1) := by decide +kernel
theorem d14_1 : decode jdk_49_method_1_code 1 = .ok (.aload_n 1, 1) := by decide +kernel
theorem d14_2 : decode jdk_49_method_1_code 2 = .ok (.putfield 1, 3) := by decide +kernel
theorem d14_5 : decode jdk_49_method_1_code 5 = .ok (.aload_n 0, 1) := by decide +kernel
theorem d14_6 : decode jdk_49_method_1_code 6 = .ok (.invokespecial 7, 3) := by decide +kernel
theorem d14_9 : decode jdk_49_method_1_code 9 = .ok (.aload_n 0, 1) := by decide +kernel
theorem d14_10 : decode jdk_49_method_1_code 10 = .ok (.iconst (-1), 1) := by decide +kernel
theorem d14_11 : decode jdk_49_method_1_code 11 = .ok (.putfield 13, 3) := by decide +kernel
theorem d14_14 : decode jdk_49_method_1_code 14 = .ok (.aload_n 0, 1) := by decide +kernel
theorem d14_15 : decode jdk_49_method_1_code 15 = .ok (.aload_n 0, 1) := by decide +kernel
theorem d14_16 : decode jdk_49_method_1_code 16 = .ok (.getfield 1, 3) := by decide +kernel
theorem d14_19 : decode jdk_49_method_1_code 19 = .ok (.getfield 17, 3) := by decide +kernel
theorem d14_22 : decode jdk_49_method_1_code 22 = .ok (.putfield 22, 3) := by decide +kernel
theorem d14_25 : decode jdk_49_method_1_code 25 = .ok (.return_, 1) := by decide +kernel
theorem pn_java_util_ArrayList_Itr : plainName "java/util/ArrayList$Itr" = true := by first | (simp [plainName, overriddenIn]; done) | decide +kernel
theorem d13_0 : decode jdk_38_method_55_code 0 = .ok (.new 267, 3) := by decide +kernel
theorem d13_3 : decode jdk_38_method_55_code 3 = .ok (.dup, 1) := by decide +kernel
theorem d13_4 : decode jdk_38_method_55_code 4 = .ok (.aload_n 0, 1) := by decide +kernel
theorem d13_5 : decode jdk_38_method_55_code 5 = .ok (.invokespecial 269, 3) := by decide +kernel
theorem pd_19 : parseMethodDescriptor "(Ljava/util/ArrayList;)V" = some ⟨[(.object "java/util/ArrayList")], none⟩ := by decide +kernel
theorem d13_8 : decode jdk_38_method_55_code 8 = .ok (.areturn, 1) := by decide +kernel
theorem d15_0 : decode jdk_49_method_2_code 0 = .ok (.aload_n 0, 1) := by decide +kernel
theorem d15_1 : decode jdk_49_method_2_code 1 = .ok (.getfield 25, 3) := by decide +kernel
theorem d15_4 : decode jdk_49_method_2_code 4 = .ok (.aload_n 0, 1) := by decide +kernel
theorem d15_5 : decode jdk_49_method_2_code 5 = .ok (.getfield 1, 3) := by decide +kernel
theorem d15_8 : decode jdk_49_method_2_code 8 = .ok (.getfield 28, 3) := by decide +kernel
theorem d15_11 : decode jdk_49_method_2_code 11 = .ok (.if_icmp .eq 7, 3) := by decide +kernel
theorem d15_18 : decode jdk_49_method_2_code 18 = .ok (.iconst 0, 1) := by decide +kernel
theorem d15_19 : decode jdk_49_method_2_code 19 = .ok (.ireturn, 1) := by decide +kernel
theorem d15_14 : decode jdk_49_method_2_code 14 = .ok (.iconst 1, 1) := by decide +kernel
theorem d15_15 : decode jdk_49_method_2_code 15 = .ok (.goto 4, 3) := by decide +kernel
theorem d17_0 : decode jdk_49_method_6_code 0 = .ok (.aload_n 0, 1) := by decide +kernel
theorem d17_1 : decode jdk_49_method_6_code 1 = .ok (.getfield 1, 3) := by decide +kernel
theorem d17_4 : decode jdk_49_method_6_code 4 = .ok (.getfield 17, 3) := by decide +kernel
theorem d17_7 : decode jdk_49_method_6_code 7 = .ok (.aload_n 0, 1) := by decide +kernel
theorem d17_8 : decode jdk_49_method_6_code 8 = .ok (.getfield 22, 3) := by decide +kernel
theorem d17_11 : decode jdk_49_method_6_code 11 = .ok (.if_icmp .eq 11, 3) := by decide +kernel
theorem d17_22 : decode jdk_49_method_6_code 22 = .ok (.return_, 1) := by decide +kernel
theorem d16_0 : decode jdk_49_method_3_code 0 = .ok (.aload_n 0, 1) := by decide +kernel
theorem d16_1 : decode jdk_49_method_3_code 1 = .ok (.invokevirtual 31, 3) := by decide +kernel
theorem d16_4 : decode jdk_49_method_3_code 4 = .ok (.aload_n 0, 1) := by decide +kernel
theorem d16_5 : decode jdk_49_method_3_code 5 = .ok (.getfield 25, 3) := by decide +kernel
theorem d16_8 : decode jdk_49_method_3_code 8 = .ok (.istore_n 1, 1) := by decide +kernel
theorem d16_9 : decode jdk_49_method_3_code 9 = .ok (.iload_n 1, 1) := by decide +kernel
theorem d16_10 : decode jdk_49_method_3_code 10 = .ok (.aload_n 0, 1) := by decide +kernel
theorem d16_11 : decode jdk_49_method_3_code 11 = .ok (.getfield 1, 3) := by decide +kernel
theorem d16_14 : decode jdk_49_method_3_code 14 = .ok (.getfield 28, 3) := by decide +kernel
theorem d16_17 : decode jdk_49_method_3_code 17 = .ok (.if_icmp .lt 11, 3) := by decide +kernel
theorem d16_28 : decode jdk_49_method_3_code 28 = .ok (.aload_n 0, 1) := by decide +kernel
theorem d16_29 : decode jdk_49_method_3_code 29 = .ok (.getfield 1, 3) := by decide +kernel
theorem d16_32 : decode jdk_49_method_3_code 32 = .ok (.getfield 37, 3) := by decide +kernel
theorem d16_35 : decode jdk_49_method_3_code 35 = .ok (.astore_n 2, 1) := by decide +kernel
theorem d16_36 : decode jdk_49_method_3_code 36 = .ok (.iload_n 1, 1) := by decide +kernel
theorem d16_37 : decode jdk_49_method_3_code 37 = .ok (.aload_n 2, 1) := by decide +kernel
theorem d16_38 : decode jdk_49_method_3_code 38 = .ok (.arraylength, 1) := by decide +kernel
theorem d16_39 : decode jdk_49_method_3_code 39 = .ok (.if_icmp .lt 11, 3) := by decide +kernel
theorem d16_50 : decode jdk_49_method_3_code 50 = .ok (.aload_n 0, 1) := by decide +kernel
theorem d16_51 : decode jdk_49_method_3_code 51 = .ok (.iload_n 1, 1) := by decide +kernel
theorem d16_52 : decode jdk_49_method_3_code 52 = .ok (.iconst 1, 1) := by decide +kernel
theorem d16_53 : decode jdk_49_method_3_code 53 = .ok (.iadd, 1) := by decide +kernel
theorem d16_54 : decode jdk_49_method_3_code 54 = .ok (.putfield 25, 3) := by decide +kernel
theorem d16_57 : decode jdk_49_method_3_code 57 = .ok (.aload_n 2, 1) := by decide +kernel
theorem d16_58 : decode jdk_49_method_3_code 58 = .ok (.aload_n 0, 1) := by decide +kernel
theorem d16_59 : decode jdk_49_method_3_code 59 = .ok (.iload_n 1, 1) := by decide +kernel
theorem d16_60 : decode jdk_49_method_3_code 60 = .ok (.dup_x1, 1) := by decide +kernel
theorem d16_61 : decode jdk_49_method_3_code 61 = .ok (.putfield 13, 3) := by decide +kernel
theorem d16_64 : decode jdk_49_method_3_code 64 = .ok (.aaload, 1) := by decide +kernel
theorem d16_65 : decode jdk_49_method_3_code 65 = .ok (.areturn, 1) := by decide +kernel
theorem d12_0 : decode prog_90_method_1_code 0 = .ok (.aload_n 0, 1) := by decide +kernel
theorem d12_1 : decode prog_90_method_1_code 1 = .ok (.invokespecial 3, 3) := by decide +kernel
theorem d12_4 : decode prog_90_method_1_code 4 = .ok (.aload_n 0, 1) := by decide +kernel
theorem d12_5 : decode prog_90_method_1_code 5 = .ok (.iconst 0, 1) := by decide +kernel
theorem d12_6 : decode prog_90_method_1_code 6 = .ok (.anewarray 9, 3) := by decide +kernel
theorem d12_9 : decode prog_90_method_1_code 9 = .ok (.putfield 11, 3) := by decide +kernel
theorem d12_12 : decode prog_90_method_1_code 12 = .ok (.iload_n 3, 1) := by decide +kernel
theorem d12_13 : decode prog_90_method_1_code 13 = .ok (.iconst 1, 1) := by decide +kernel
theorem d12_14 : decode prog_90_method_1_code 14 = .ok (.if_icmp .lt 9, 3) := by decide +kernel
theorem d12_17 : decode prog_90_method_1_code 17 = .ok (.iload_n 3, 1) := by decide +kernel
theorem d12_18 : decode prog_90_method_1_code 18 = .ok (.bipush 64, 2) := by decide +kernel
theorem d12_20 : decode prog_90_method_1_code 20 = .ok (.if_icmp .le 17, 3) := by decide +kernel
theorem d12_37 : decode prog_90_method_1_code 37 = .ok (.aload_n 0, 1) := by decide +kernel
theorem d12_38 : decode prog_90_method_1_code 38 = .ok (.iload_n 3, 1) := by decide +kernel
theorem d12_39 : decode prog_90_method_1_code 39 = .ok (.putfield 26, 3) := by decide +kernel
theorem d12_42 : decode prog_90_method_1_code 42 = .ok (.aload_n 0, 1) := by decide +kernel
theorem d12_43 : decode prog_90_method_1_code 43 = .ok (.iload_n 3, 1) := by decide +kernel
theorem d12_44 : decode prog_90_method_1_code 44 = .ok (.bipush 64, 2) := by decide +kernel
theorem d12_60 : decode prog_90_method_1_code 60 = .ok (.putfield 32, 3) := by decide +kernel
theorem d12_63 : decode prog_90_method_1_code 63 = .ok (.aload_n 0, 1) := by decide +kernel
theorem d12_64 : decode prog_90_method_1_code 64 = .ok (.iload_n 1, 1) := by decide +kernel
theorem d12_65 : decode prog_90_method_1_code 65 = .ok (.newarray .int, 2) := by decide +kernel
theorem d12_67 : decode prog_90_method_1_code 67 = .ok (.putfield 36, 3) := by decide +kernel
theorem d12_70 : decode prog_90_method_1_code 70 = .ok (.aload_n 2, 1) := by decide +kernel
theorem d12_71 : decode prog_90_method_1_code 71 = .ok (.invokeinterface 40 1, 5) := by decide +kernel
theorem pd_3 : parseMethodDescriptor "()Ljava/util/Iterator;" = some ⟨[], some (.object "java/util/Iterator")⟩ := by decide +kernel
theorem d12_76 : decode prog_90_method_1_code 76 = .ok (.astore 4, 2) := by decide +kernel
theorem d12_78 : decode prog_90_method_1_code 78 = .ok (.aload 4, 2) := by decide +kernel
theorem d12_80 : decode prog_90_method_1_code 80 = .ok (.invokeinterface 46 1, 5) := by decide +kernel
theorem pd_5 : parseMethodDescriptor "()Z" = some ⟨[], some .boolean⟩ := by decide +kernel
theorem d12_85 : decode prog_90_method_1_code 85 = .ok (.ifCond .eq 40, 3) := by decide +kernel
theorem d12_88 : decode prog_90_method_1_code 88 = .ok (.aload 4, 2) := by decide +kernel
theorem d12_90 : decode prog_90_method_1_code 90 = .ok (.invokeinterface 52 1, 5) := by decide +kernel
theorem pd_2 : parseMethodDescriptor "()Ljava/lang/Object;" = some ⟨[], some (.object "java/lang/Object")⟩ := by decide +kernel
theorem d12_95 : decode prog_90_method_1_code 95 = .ok (.checkcast 56, 3) := by decide +kernel
theorem d12_98 : decode prog_90_method_1_code 98 = .ok (.astore 5, 2) := by decide +kernel
theorem d12_100 : decode prog_90_method_1_code 100 = .ok (.aload 5, 2) := by decide +kernel
theorem d12_102 : decode prog_90_method_1_code 102 = .ok (.invokevirtual 58, 3) := by decide +kernel
theorem pd_1 : parseMethodDescriptor "()Lcom/example/verdikt/verdikt/model/ElementaryType;" = some ⟨[], some (.object "com/example/verdikt/verdikt/model/ElementaryType")⟩ := by decide +kernel
theorem d12_105 : decode prog_90_method_1_code 105 = .ok (.getstatic 62, 3) := by decide +kernel
theorem d12_108 : decode prog_90_method_1_code 108 = .ok (.if_acmp .ne 14, 3) := by decide +kernel
theorem d12_111 : decode prog_90_method_1_code 111 = .ok (.aload_n 0, 1) := by decide +kernel
theorem d12_112 : decode prog_90_method_1_code 112 = .ok (.getfield 36, 3) := by decide +kernel
theorem d12_115 : decode prog_90_method_1_code 115 = .ok (.aload 5, 2) := by decide +kernel
theorem d12_117 : decode prog_90_method_1_code 117 = .ok (.invokevirtual 68, 3) := by decide +kernel
theorem pd_0 : parseMethodDescriptor "()I" = some ⟨[], some .int⟩ := by decide +kernel
theorem d12_120 : decode prog_90_method_1_code 120 = .ok (.iconst (-1), 1) := by decide +kernel
theorem d12_121 : decode prog_90_method_1_code 121 = .ok (.iastore, 1) := by decide +kernel
theorem d12_122 : decode prog_90_method_1_code 122 = .ok (.goto (-44), 3) := by decide +kernel
theorem d12_125 : decode prog_90_method_1_code 125 = .ok (.iconst 0, 1) := by decide +kernel
theorem d12_126 : decode prog_90_method_1_code 126 = .ok (.istore 4, 2) := by decide +kernel
theorem d12_128 : decode prog_90_method_1_code 128 = .ok (.iconst 0, 1) := by decide +kernel
theorem d12_129 : decode prog_90_method_1_code 129 = .ok (.istore 5, 2) := by decide +kernel
theorem d12_131 : decode prog_90_method_1_code 131 = .ok (.iload 5, 2) := by decide +kernel
theorem d12_133 : decode prog_90_method_1_code 133 = .ok (.iload_n 1, 1) := by decide +kernel
theorem d12_134 : decode prog_90_method_1_code 134 = .ok (.if_icmp .ge 35, 3) := by decide +kernel
theorem d12_137 : decode prog_90_method_1_code 137 = .ok (.aload_n 0, 1) := by decide +kernel
theorem d12_138 : decode prog_90_method_1_code 138 = .ok (.getfield 36, 3) := by decide +kernel
theorem d12_141 : decode prog_90_method_1_code 141 = .ok (.iload 5, 2) := by decide +kernel
theorem d12_143 : decode prog_90_method_1_code 143 = .ok (.iaload, 1) := by decide +kernel
theorem d12_144 : decode prog_90_method_1_code 144 = .ok (.iconst (-1), 1) := by decide +kernel
theorem d12_145 : decode prog_90_method_1_code 145 = .ok (.if_icmp .eq 18, 3) := by decide +kernel
theorem d12_163 : decode prog_90_method_1_code 163 = .ok (.iinc 5 1, 3) := by decide +kernel
theorem d12_166 : decode prog_90_method_1_code 166 = .ok (.goto (-35), 3) := by decide +kernel
theorem d12_148 : decode prog_90_method_1_code 148 = .ok (.aload_n 0, 1) := by decide +kernel
theorem d12_149 : decode prog_90_method_1_code 149 = .ok (.getfield 36, 3) := by decide +kernel
theorem d12_152 : decode prog_90_method_1_code 152 = .ok (.iload 5, 2) := by decide +kernel
theorem d12_154 : decode prog_90_method_1_code 154 = .ok (.iload 4, 2) := by decide +kernel
theorem d12_156 : decode prog_90_method_1_code 156 = .ok (.iastore, 1) := by decide +kernel
theorem d12_157 : decode prog_90_method_1_code 157 = .ok (.iload 4, 2) := by decide +kernel
theorem d12_159 : decode prog_90_method_1_code 159 = .ok (.iload_n 3, 1) := by decide +kernel
theorem d12_160 : decode prog_90_method_1_code 160 = .ok (.iadd, 1) := by decide +kernel
theorem d12_161 : decode prog_90_method_1_code 161 = .ok (.istore 4, 2) := by decide +kernel
theorem d12_169 : decode prog_90_method_1_code 169 = .ok (.aload_n 0, 1) := by decide +kernel
theorem d12_170 : decode prog_90_method_1_code 170 = .ok (.iload_n 1, 1) := by decide +kernel
theorem d12_171 : decode prog_90_method_1_code 171 = .ok (.newarray .long, 2) := by decide +kernel
theorem d12_173 : decode prog_90_method_1_code 173 = .ok (.putfield 72, 3) := by decide +kernel
theorem d12_176 : decode prog_90_method_1_code 176 = .ok (.aload_n 0, 1) := by decide +kernel
theorem d12_177 : decode prog_90_method_1_code 177 = .ok (.iload 4, 2) := by decide +kernel
theorem d12_179 : decode prog_90_method_1_code 179 = .ok (.newarray .long, 2) := by decide +kernel
theorem d12_181 : decode prog_90_method_1_code 181 = .ok (.putfield 75, 3) := by decide +kernel
theorem d12_184 : decode prog_90_method_1_code 184 = .ok (.return_, 1) := by decide +kernel
theorem d12_46 : decode prog_90_method_1_code 46 = .ok (.if_icmp .ne 9, 3) := by decide +kernel
theorem d12_49 : decode prog_90_method_1_code 49 = .ok (.ldc2_w 30, 3) := by decide +kernel
theorem d12_52 : decode prog_90_method_1_code 52 = .ok (.goto 8, 3) := by decide +kernel
theorem d12_55 : decode prog_90_method_1_code 55 = .ok (.lconst 1, 1) := by decide +kernel
theorem d12_56 : decode prog_90_method_1_code 56 = .ok (.iload_n 3, 1) := by decide +kernel
theorem d12_57 : decode prog_90_method_1_code 57 = .ok (.lshl, 1) := by decide +kernel
theorem d12_58 : decode prog_90_method_1_code 58 = .ok (.lconst 1, 1) := by decide +kernel
theorem d12_59 : decode prog_90_method_1_code 59 = .ok (.lsub, 1) := by decide +kernel
theorem pn_com_example_verdikt_verdikt_model_Lanes : plainName "com/example/verdikt/verdikt/model/Lanes" = true := by first | (simp [plainName, overriddenIn]; done) | decide +kernel
theorem d22_0 : decode jdk_65_method_30_code 0 = .ok (.iload_n 1, 1) := by decide +kernel
theorem d22_1 : decode jdk_65_method_30_code 1 = .ok (.iload_n 2, 1) := by decide +kernel
theorem d22_2 : decode jdk_65_method_30_code 2 = .ok (.if_icmp .le 44, 3) := by decide +kernel
theorem d22_46 : decode jdk_65_method_30_code 46 = .ok (.iload_n 1, 1) := by decide +kernel
theorem d22_47 : decode jdk_65_method_30_code 47 = .ok (.ifCond .ge 12, 3) := by decide +kernel
theorem d22_59 : decode jdk_65_method_30_code 59 = .ok (.iload_n 2, 1) := by decide +kernel
theorem d22_60 : decode jdk_65_method_30_code 60 = .ok (.iload_n 0, 1) := by decide +kernel
theorem d22_61 : decode jdk_65_method_30_code 61 = .ok (.if_icmp .le 12, 3) := by decide +kernel
theorem d22_73 : decode jdk_65_method_30_code 73 = .ok (.return_, 1) := by decide +kernel
theorem pn_java_util_Arrays : plainName "java/util/Arrays" = true := by first | (simp [plainName, overriddenIn]; done) | decide +kernel
theorem d21_0 : decode jdk_65_method_102_code 0 = .ok (.aload_n 0, 1) := by decide +kernel
theorem d21_1 : decode jdk_65_method_102_code 1 = .ok (.arraylength, 1) := by decide +kernel
theorem d21_2 : decode jdk_65_method_102_code 2 = .ok (.iload_n 1, 1) := by decide +kernel
theorem d21_3 : decode jdk_65_method_102_code 3 = .ok (.iload_n 2, 1) := by decide +kernel
theorem d21_4 : decode jdk_65_method_102_code 4 = .ok (.invokestatic 13, 3) := by decide +kernel
theorem pd_11 : parseMethodDescriptor "(III)V" = some ⟨[.int, .int, .int], none⟩ := by decide +kernel
theorem d21_7 : decode jdk_65_method_102_code 7 = .ok (.iload_n 1, 1) := by decide +kernel
theorem d21_8 : decode jdk_65_method_102_code 8 = .ok (.istore 5, 2) := by decide +kernel
theorem d21_10 : decode jdk_65_method_102_code 10 = .ok (.iload 5, 2) := by decide +kernel
theorem d21_12 : decode jdk_65_method_102_code 12 = .ok (.iload_n 2, 1) := by decide +kernel
theorem d21_13 : decode jdk_65_method_102_code 13 = .ok (.if_icmp .ge 14, 3) := by decide +kernel
theorem d21_16 : decode jdk_65_method_102_code 16 = .ok (.aload_n 0, 1) := by decide +kernel
theorem d21_17 : decode jdk_65_method_102_code 17 = .ok (.iload 5, 2) := by decide +kernel
theorem d21_19 : decode jdk_65_method_102_code 19 = .ok (.lload_n 3, 1) := by decide +kernel
theorem d21_20 : decode jdk_65_method_102_code 20 = .ok (.lastore, 1) := by decide +kernel
theorem d21_21 : decode jdk_65_method_102_code 21 = .ok (.iinc 5 1, 3) := by decide +kernel
theorem d21_24 : decode jdk_65_method_102_code 24 = .ok (.goto (-14), 3) := by decide +kernel
theorem d21_27 : decode jdk_65_method_102_code 27 = .ok (.return_, 1) := by decide +kernel
theorem d20_0 : decode prog_90_method_10_code 0 = .ok (.iconst 0, 1) := by decide +kernel
theorem d20_1 : decode prog_90_method_10_code 1 = .ok (.istore_n 2, 1) := by decide +kernel
theorem d20_2 : decode prog_90_method_10_code 2 = .ok (.iload_n 2, 1) := by decide +kernel
theorem d20_3 : decode prog_90_method_10_code 3 = .ok (.aload_n 0, 1) := by decide +kernel
theorem d20_4 : decode prog_90_method_10_code 4 = .ok (.getfield 36, 3) := by decide +kernel
theorem d20_7 : decode prog_90_method_10_code 7 = .ok (.arraylength, 1) := by decide +kernel
theorem d20_8 : decode prog_90_method_10_code 8 = .ok (.if_icmp .ge 70, 3) := by decide +kernel
theorem d20_11 : decode prog_90_method_10_code 11 = .ok (.aload_n 0, 1) := by decide +kernel
theorem d20_12 : decode prog_90_method_10_code 12 = .ok (.getfield 36, 3) := by decide +kernel
theorem d20_15 : decode prog_90_method_10_code 15 = .ok (.iload_n 2, 1) := by decide +kernel
theorem d20_16 : decode prog_90_method_10_code 16 = .ok (.iaload, 1) := by decide +kernel
theorem d20_17 : decode prog_90_method_10_code 17 = .ok (.iconst (-1), 1) := by decide +kernel
theorem d20_18 : decode prog_90_method_10_code 18 = .ok (.if_icmp .ne 27, 3) := by decide +kernel
theorem d20_21 : decode prog_90_method_10_code 21 = .ok (.aload_n 0, 1) := by decide +kernel
theorem d20_22 : decode prog_90_method_10_code 22 = .ok (.getfield 72, 3) := by decide +kernel
theorem d20_25 : decode prog_90_method_10_code 25 = .ok (.iload_n 2, 1) := by decide +kernel
theorem d20_26 : decode prog_90_method_10_code 26 = .ok (.aload_n 1, 1) := by decide +kernel
theorem d20_27 : decode prog_90_method_10_code 27 = .ok (.iload_n 2, 1) := by decide +kernel
theorem d20_28 : decode prog_90_method_10_code 28 = .ok (.laload, 1) := by decide +kernel
theorem d20_29 : decode prog_90_method_10_code 29 = .ok (.lconst 0, 1) := by decide +kernel
theorem d20_30 : decode prog_90_method_10_code 30 = .ok (.lcmp, 1) := by decide +kernel
theorem d20_41 : decode prog_90_method_10_code 41 = .ok (.lastore, 1) := by decide +kernel
theorem d20_42 : decode prog_90_method_10_code 42 = .ok (.goto 30, 3) := by decide +kernel
theorem d20_72 : decode prog_90_method_10_code 72 = .ok (.iinc 2 1, 3) := by decide +kernel
theorem d20_75 : decode prog_90_method_10_code 75 = .ok (.goto (-73), 3) := by decide +kernel
theorem d20_45 : decode prog_90_method_10_code 45 = .ok (.aload_n 0, 1) := by decide +kernel
theorem d20_46 : decode prog_90_method_10_code 46 = .ok (.getfield 75, 3) := by decide +kernel
theorem d20_49 : decode prog_90_method_10_code 49 = .ok (.aload_n 0, 1) := by decide +kernel
theorem d20_50 : decode prog_90_method_10_code 50 = .ok (.getfield 36, 3) := by decide +kernel
theorem d20_53 : decode prog_90_method_10_code 53 = .ok (.iload_n 2, 1) := by decide +kernel
theorem d20_54 : decode prog_90_method_10_code 54 = .ok (.iaload, 1) := by decide +kernel
theorem d20_55 : decode prog_90_method_10_code 55 = .ok (.aload_n 0, 1) := by decide +kernel
theorem d20_56 : decode prog_90_method_10_code 56 = .ok (.getfield 36, 3) := by decide +kernel
theorem d20_59 : decode prog_90_method_10_code 59 = .ok (.iload_n 2, 1) := by decide +kernel
theorem d20_60 : decode prog_90_method_10_code 60 = .ok (.iaload, 1) := by decide +kernel
theorem d20_61 : decode prog_90_method_10_code 61 = .ok (.aload_n 0, 1) := by decide +kernel
theorem d20_62 : decode prog_90_method_10_code 62 = .ok (.getfield 26, 3) := by decide +kernel
theorem d20_65 : decode prog_90_method_10_code 65 = .ok (.iadd, 1) := by decide +kernel
theorem d20_66 : decode prog_90_method_10_code 66 = .ok (.aload_n 1, 1) := by decide +kernel
theorem d20_67 : decode prog_90_method_10_code 67 = .ok (.iload_n 2, 1) := by decide +kernel
theorem d20_68 : decode prog_90_method_10_code 68 = .ok (.laload, 1) := by decide +kernel
theorem d20_69 : decode prog_90_method_10_code 69 = .ok (.invokestatic 93, 3) := by decide +kernel
theorem pd_21 : parseMethodDescriptor "([JIIJ)V" = some ⟨[(.array .long), .int, .int, .long], none⟩ := by decide +kernel
theorem d20_78 : decode prog_90_method_10_code 78 = .ok (.return_, 1) := by decide +kernel
theorem d20_31 : decode prog_90_method_10_code 31 = .ok (.ifCond .eq 9, 3) := by decide +kernel
theorem d20_40 : decode prog_90_method_10_code 40 = .ok (.lconst 0, 1) := by decide +kernel
theorem d20_34 : decode prog_90_method_10_code 34 = .ok (.ldc2_w 30, 3) := by decide +kernel
theorem d20_37 : decode prog_90_method_10_code 37 = .ok (.goto 4, 3) := by decide +kernel
theorem d23_0 : decode prog_90_method_14_code 0 = .ok (.aload_n 0, 1) := by decide +kernel
theorem d23_1 : decode prog_90_method_14_code 1 = .ok (.getfield 72, 3) := by decide +kernel
theorem d23_4 : decode prog_90_method_14_code 4 = .ok (.iload_n 1, 1) := by decide +kernel
theorem d23_5 : decode prog_90_method_14_code 5 = .ok (.aload_n 0, 1) := by decide +kernel
theorem d23_6 : decode prog_90_method_14_code 6 = .ok (.getfield 72, 3) := by decide +kernel
theorem d23_9 : decode prog_90_method_14_code 9 = .ok (.iload_n 1, 1) := by decide +kernel
theorem d23_10 : decode prog_90_method_14_code 10 = .ok (.laload, 1) := by decide +kernel
theorem d23_11 : decode prog_90_method_14_code 11 = .ok (.lload 4, 2) := by decide +kernel
theorem d23_13 : decode prog_90_method_14_code 13 = .ok (.ldc2_w 30, 3) := by decide +kernel
theorem d23_16 : decode prog_90_method_14_code 16 = .ok (.lxor, 1) := by decide +kernel
theorem d23_17 : decode prog_90_method_14_code 17 = .ok (.land, 1) := by decide +kernel
theorem d23_18 : decode prog_90_method_14_code 18 = .ok (.lload_n 2, 1) := by decide +kernel
theorem d23_19 : decode prog_90_method_14_code 19 = .ok (.lload 4, 2) := by decide +kernel
theorem d23_21 : decode prog_90_method_14_code 21 = .ok (.land, 1) := by decide +kernel
theorem d23_22 : decode prog_90_method_14_code 22 = .ok (.lor, 1) := by decide +kernel
theorem d23_23 : decode prog_90_method_14_code 23 = .ok (.lastore, 1) := by decide +kernel
theorem d23_24 : decode prog_90_method_14_code 24 = .ok (.return_, 1) := by decide +kernel
theorem d24_0 : decode prog_90_method_8_code 0 = .ok (.aload_n 0, 1) := by decide +kernel
theorem d24_1 : decode prog_90_method_8_code 1 = .ok (.getfield 36, 3) := by decide +kernel
theorem d24_4 : decode prog_90_method_8_code 4 = .ok (.iload_n 1, 1) := by decide +kernel
theorem d24_5 : decode prog_90_method_8_code 5 = .ok (.iaload, 1) := by decide +kernel
theorem d24_6 : decode prog_90_method_8_code 6 = .ok (.iconst (-1), 1) := by decide +kernel
theorem d24_7 : decode prog_90_method_8_code 7 = .ok (.if_icmp .ne 48, 3) := by decide +kernel
theorem d24_10 : decode prog_90_method_8_code 10 = .ok (.lconst 1, 1) := by decide +kernel
theorem d24_11 : decode prog_90_method_8_code 11 = .ok (.iload_n 2, 1) := by decide +kernel
theorem d24_12 : decode prog_90_method_8_code 12 = .ok (.lshl, 1) := by decide +kernel
theorem d24_13 : decode prog_90_method_8_code 13 = .ok (.lstore 5, 2) := by decide +kernel
theorem d24_15 : decode prog_90_method_8_code 15 = .ok (.aload_n 0, 1) := by decide +kernel
theorem d24_16 : decode prog_90_method_8_code 16 = .ok (.getfield 72, 3) := by decide +kernel
theorem d24_19 : decode prog_90_method_8_code 19 = .ok (.iload_n 1, 1) := by decide +kernel
theorem d24_20 : decode prog_90_method_8_code 20 = .ok (.lload_n 3, 1) := by decide +kernel
theorem d24_21 : decode prog_90_method_8_code 21 = .ok (.lconst 0, 1) := by decide +kernel
theorem d24_22 : decode prog_90_method_8_code 22 = .ok (.lcmp, 1) := by decide +kernel
theorem d24_23 : decode prog_90_method_8_code 23 = .ok (.ifCond .eq 15, 3) := by decide +kernel
theorem d24_38 : decode prog_90_method_8_code 38 = .ok (.aload_n 0, 1) := by decide +kernel
theorem d24_39 : decode prog_90_method_8_code 39 = .ok (.getfield 72, 3) := by decide +kernel
theorem d24_42 : decode prog_90_method_8_code 42 = .ok (.iload_n 1, 1) := by decide +kernel
theorem d24_43 : decode prog_90_method_8_code 43 = .ok (.laload, 1) := by decide +kernel
theorem d24_44 : decode prog_90_method_8_code 44 = .ok (.lload 5, 2) := by decide +kernel
theorem d24_46 : decode prog_90_method_8_code 46 = .ok (.ldc2_w 30, 3) := by decide +kernel
theorem d24_49 : decode prog_90_method_8_code 49 = .ok (.lxor, 1) := by decide +kernel
theorem d24_50 : decode prog_90_method_8_code 50 = .ok (.land, 1) := by decide +kernel
theorem d24_51 : decode prog_90_method_8_code 51 = .ok (.lastore, 1) := by decide +kernel
theorem d24_52 : decode prog_90_method_8_code 52 = .ok (.goto 17, 3) := by decide +kernel
theorem d24_69 : decode prog_90_method_8_code 69 = .ok (.return_, 1) := by decide +kernel
theorem d24_26 : decode prog_90_method_8_code 26 = .ok (.aload_n 0, 1) := by decide +kernel
theorem d24_27 : decode prog_90_method_8_code 27 = .ok (.getfield 72, 3) := by decide +kernel
theorem d24_30 : decode prog_90_method_8_code 30 = .ok (.iload_n 1, 1) := by decide +kernel
theorem d24_31 : decode prog_90_method_8_code 31 = .ok (.laload, 1) := by decide +kernel
theorem d24_32 : decode prog_90_method_8_code 32 = .ok (.lload 5, 2) := by decide +kernel
theorem d24_34 : decode prog_90_method_8_code 34 = .ok (.lor, 1) := by decide +kernel
theorem d24_35 : decode prog_90_method_8_code 35 = .ok (.goto 16, 3) := by decide +kernel
theorem d24_55 : decode prog_90_method_8_code 55 = .ok (.aload_n 0, 1) := by decide +kernel
theorem d24_56 : decode prog_90_method_8_code 56 = .ok (.getfield 75, 3) := by decide +kernel
theorem d24_59 : decode prog_90_method_8_code 59 = .ok (.aload_n 0, 1) := by decide +kernel
theorem d24_60 : decode prog_90_method_8_code 60 = .ok (.getfield 36, 3) := by decide +kernel
theorem d24_63 : decode prog_90_method_8_code 63 = .ok (.iload_n 1, 1) := by decide +kernel
theorem d24_64 : decode prog_90_method_8_code 64 = .ok (.iaload, 1) := by decide +kernel
theorem d24_65 : decode prog_90_method_8_code 65 = .ok (.iload_n 2, 1) := by decide +kernel
theorem d24_66 : decode prog_90_method_8_code 66 = .ok (.iadd, 1) := by decide +kernel
theorem d24_67 : decode prog_90_method_8_code 67 = .ok (.lload_n 3, 1) := by decide +kernel
theorem d24_68 : decode prog_90_method_8_code 68 = .ok (.lastore, 1) := by decide +kernel
theorem d25_0 : decode prog_90_method_7_code 0 = .ok (.aload_n 0, 1) := by decide +kernel
theorem d25_1 : decode prog_90_method_7_code 1 = .ok (.getfield 36, 3) := by decide +kernel
theorem d25_4 : decode prog_90_method_7_code 4 = .ok (.iload_n 1, 1) := by decide +kernel
theorem d25_5 : decode prog_90_method_7_code 5 = .ok (.iaload, 1) := by decide +kernel
theorem d25_6 : decode prog_90_method_7_code 6 = .ok (.iconst (-1), 1) := by decide +kernel
theorem d25_7 : decode prog_90_method_7_code 7 = .ok (.if_icmp .ne 17, 3) := by decide +kernel
theorem d25_10 : decode prog_90_method_7_code 10 = .ok (.aload_n 0, 1) := by decide +kernel
theorem d25_11 : decode prog_90_method_7_code 11 = .ok (.getfield 72, 3) := by decide +kernel
theorem d25_14 : decode prog_90_method_7_code 14 = .ok (.iload_n 1, 1) := by decide +kernel
theorem d25_15 : decode prog_90_method_7_code 15 = .ok (.laload, 1) := by decide +kernel
theorem d25_16 : decode prog_90_method_7_code 16 = .ok (.iload_n 2, 1) := by decide +kernel
theorem d25_17 : decode prog_90_method_7_code 17 = .ok (.lushr, 1) := by decide +kernel
theorem d25_18 : decode prog_90_method_7_code 18 = .ok (.lconst 1, 1) := by decide +kernel
theorem d25_19 : decode prog_90_method_7_code 19 = .ok (.land, 1) := by decide +kernel
theorem d25_20 : decode prog_90_method_7_code 20 = .ok (.lstore_n 3, 1) := by decide +kernel
theorem d25_21 : decode prog_90_method_7_code 21 = .ok (.goto 17, 3) := by decide +kernel
theorem d25_38 : decode prog_90_method_7_code 38 = .ok (.lload_n 3, 1) := by decide +kernel
theorem d25_39 : decode prog_90_method_7_code 39 = .ok (.lreturn, 1) := by decide +kernel
theorem d25_24 : decode prog_90_method_7_code 24 = .ok (.aload_n 0, 1) := by decide +kernel
theorem d25_25 : decode prog_90_method_7_code 25 = .ok (.getfield 75, 3) := by decide +kernel
theorem d25_28 : decode prog_90_method_7_code 28 = .ok (.aload_n 0, 1) := by decide +kernel
theorem d25_29 : decode prog_90_method_7_code 29 = .ok (.getfield 36, 3) := by decide +kernel
theorem d25_32 : decode prog_90_method_7_code 32 = .ok (.iload_n 1, 1) := by decide +kernel
theorem d25_33 : decode prog_90_method_7_code 33 = .ok (.iaload, 1) := by decide +kernel
theorem d25_34 : decode prog_90_method_7_code 34 = .ok (.iload_n 2, 1) := by decide +kernel
theorem d25_35 : decode prog_90_method_7_code 35 = .ok (.iadd, 1) := by decide +kernel
theorem d25_36 : decode prog_90_method_7_code 36 = .ok (.laload, 1) := by decide +kernel
theorem d25_37 : decode prog_90_method_7_code 37 = .ok (.lstore_n 3, 1) := by decide +kernel
theorem d26_0 : decode prog_90_method_13_code 0 = .ok (.aload_n 0, 1) := by decide +kernel
theorem d26_1 : decode prog_90_method_13_code 1 = .ok (.getfield 72, 3) := by decide +kernel
theorem d26_4 : decode prog_90_method_13_code 4 = .ok (.iload_n 1, 1) := by decide +kernel
theorem d26_5 : decode prog_90_method_13_code 5 = .ok (.laload, 1) := by decide +kernel
theorem d26_6 : decode prog_90_method_13_code 6 = .ok (.lreturn, 1) := by decide +kernel
theorem d27_0 : decode method_3_code 0 = .ok (.iload_n 0, 1) := by decide +kernel
theorem d27_1 : decode method_3_code 1 = .ok (.iload_n 2, 1) := by decide +kernel
theorem d27_2 : decode method_3_code 2 = .ok (.if_icmp .ne 11, 3) := by decide +kernel
theorem d27_5 : decode method_3_code 5 = .ok (.lload_n 3, 1) := by decide +kernel
theorem d27_6 : decode method_3_code 6 = .ok (.iload_n 1, 1) := by decide +kernel
theorem d27_7 : decode method_3_code 7 = .ok (.lushr, 1) := by decide +kernel
theorem d27_8 : decode method_3_code 8 = .ok (.lconst 1, 1) := by decide +kernel
theorem d27_9 : decode method_3_code 9 = .ok (.land, 1) := by decide +kernel
theorem d27_10 : decode method_3_code 10 = .ok (.goto 8, 3) := by decide +kernel
theorem d27_18 : decode method_3_code 18 = .ok (.lreturn, 1) := by decide +kernel
theorem d27_13 : decode method_3_code 13 = .ok (.lload 5, 2) := by decide +kernel
theorem d27_15 : decode method_3_code 15 = .ok (.iload_n 0, 1) := by decide +kernel
theorem d27_16 : decode method_3_code 16 = .ok (.i2l, 1) := by decide +kernel
theorem d27_17 : decode method_3_code 17 = .ok (.ladd, 1) := by decide +kernel
theorem pn_com_example_verdikt_verdikt_model_LanesSetCellPinLaw : plainName "com/example/verdikt/verdikt/model/LanesSetCellPinLaw" = true := by first | (simp [plainName, overriddenIn]; done) | decide +kernel
theorem pd_18 : parseMethodDescriptor "(Ljava/lang/String;Lcom/example/verdikt/verdikt/model/Variable$Section;Lcom/example/verdikt/verdikt/model/ElementaryType;JI)V" = some ⟨[(.object "java/lang/String"), (.object "com/example/verdikt/verdikt/model/Variable$Section"), (.object "com/example/verdikt/verdikt/model/ElementaryType"), .long, .int], none⟩ := by decide +kernel
theorem pd_16 : parseMethodDescriptor "(Ljava/lang/Object;)Z" = some ⟨[(.object "java/lang/Object")], some .boolean⟩ := by decide +kernel
theorem pd_15 : parseMethodDescriptor "(ILjava/util/List;I)V" = some ⟨[.int, (.object "java/util/List"), .int], none⟩ := by decide +kernel
theorem pd_20 : parseMethodDescriptor "([J)V" = some ⟨[(.array .long)], none⟩ := by decide +kernel
theorem pd_14 : parseMethodDescriptor "(IJJ)V" = some ⟨[.int, .long, .long], none⟩ := by decide +kernel
theorem pd_13 : parseMethodDescriptor "(IIJ)V" = some ⟨[.int, .int, .long], none⟩ := by decide +kernel
theorem pd_10 : parseMethodDescriptor "(II)J" = some ⟨[.int, .int], some .long⟩ := by decide +kernel
theorem pd_7 : parseMethodDescriptor "(I)J" = some ⟨[.int], some .long⟩ := by decide +kernel
theorem pd_12 : parseMethodDescriptor "(IIIJJ)J" = some ⟨[.int, .int, .int, .long, .long], some .long⟩ := by decide +kernel
def offs (b w : Int32) : List Value := if b = 0 then [.int (-1 : Int32), .int (0 : Int32), .int ((0 : Int32) + w)] else (if b = 1 then [.int (0 : Int32), .int (-1 : Int32), .int ((0 : Int32) + w)] else [.int (0 : Int32), .int ((0 : Int32) + w), .int (-1 : Int32)])
def wds (b : Int32) (x : Int64) : List Value := if b = 0 then [.long x, .long (0 : Int64), .long (0 : Int64)] else (if b = 1 then [.long (0 : Int64), .long x, .long (0 : Int64)] else [.long (0 : Int64), .long (0 : Int64), .long x])
def vpo (p : Int32) : Nat → Int32
  | 0 => p
  | i + 1 => (vpo p i) + (1 : Int32)
def fillN (vs : List Value) (fn : Nat) (v : Int64) : Nat → List Value
  | 0 => vs
  | d + 1 => (fillN vs fn v d).set (fn + d) (.long v)
def sbit (x v b : Int64) : Int64 := if v = (0 : Int64) then (x &&& (b ^^^ (-1 : Int64))) else (x ||| b)
theorem vpo_val (p : Int32) : ∀ i : Nat, i ≤ 1000 → 0 ≤ p.toInt → p.toInt < 2000000000 → (vpo p i).toInt = p.toInt + (i : Int)
  | 0, _, _, _ => by show p.toInt = _; omega
  | i + 1, h, h1, h2 => by
    have q := vpo_val p i (by omega) h1 h2
    have e : (vpo p (i + 1)).toInt = ((vpo p i) + (1 : Int32)).toInt := rfl
    have c := c_iadd (vpo p i) (1 : Int32)
    have r := rng32 ((vpo p i) + (1 : Int32))
    have s1 : (1 : Int32).toInt = 1 := by decide
    rw [e]; rw [q, s1] at c; omega
theorem own_lt32 {x y : Int32} (h : x.toInt < y.toInt) : x < y := Int32.lt_iff_toInt_lt.mpr h
theorem own_nlt32 {x y : Int32} (h : y.toInt ≤ x.toInt) : ¬ x < y := fun q => by have := Int32.lt_iff_toInt_lt.mp q; omega
theorem fillN_len (vs : List Value) (fn : Nat) (v : Int64) : ∀ d, (fillN vs fn v d).length = vs.length
  | 0 => rfl
  | d + 1 => by show ((fillN vs fn v d).set (fn + d) (.long v)).length = _; rw [List.length_set]; exact fillN_len vs fn v d
theorem fillN_in (vs : List Value) (fn : Nat) (v : Int64) : ∀ d i, fn ≤ i → i < fn + d → i < vs.length → (fillN vs fn v d)[i]? = some (.long v)
  | 0, i, h1, h2, _ => by omega
  | d + 1, i, h1, h2, h3 => by
    show ((fillN vs fn v d).set (fn + d) (.long v))[i]? = _
    rw [List.getElem?_set]
    split
    · rename_i q; rw [if_pos (by rw [fillN_len]; omega)]
    · exact fillN_in vs fn v d i h1 (by omega) h3
theorem fillN_out (vs : List Value) (fn : Nat) (v : Int64) : ∀ d i, i < fn ∨ fn + d ≤ i → (fillN vs fn v d)[i]? = vs[i]?
  | 0, i, _ => rfl
  | d + 1, i, h => by
    show ((fillN vs fn v d).set (fn + d) (.long v))[i]? = _
    rw [List.getElem?_set, if_neg (by omega)]
    exact fillN_out vs fn v d i (by omega)
theorem own_b3 (b : Int32) (hb : b = 0 ∨ b = 1 ∨ b = 2) : b.toInt = ((b.toInt.toNat : Nat) : Int) := by rcases hb with rfl | rfl | rfl <;> decide
theorem own_wget (b : Int32) (x : Int64) (hb : b = 0 ∨ b = 1 ∨ b = 2) : (wds b x)[b.toInt.toNat]? = some (.long x) := by rcases hb with rfl | rfl | rfl <;> rfl
theorem own_wset (b : Int32) (x y : Int64) (hb : b = 0 ∨ b = 1 ∨ b = 2) : (wds b x).set b.toInt.toNat (.long y) = wds b y := by rcases hb with rfl | rfl | rfl <;> rfl
theorem own_wlt (b : Int32) (x : Int64) (hb : b = 0 ∨ b = 1 ∨ b = 2) : b.toInt.toNat < (wds b x).length := own_lt_of (own_wget b x hb)
theorem own_oget (b w : Int32) (hb : b = 0 ∨ b = 1 ∨ b = 2) : (offs b w)[b.toInt.toNat]? = some (.int (-1 : Int32)) := by rcases hb with rfl | rfl | rfl <;> rfl
def fstA (b : Int32) (x0 x1 : Int64) : Int64 := if b = 0 then x1 else x0
def sndB (b : Int32) (x1 x2 : Int64) : Int64 := if b = 2 then x1 else x2
def vfin (wn : Nat) (x y : Int64) : List Value := (fillN (fillN (List.replicate (2 * wn) (.long (0 : Int64))) 0 x (wn - 0)) wn y (2 * wn - wn))
def oLow (b c : Int32) : Prop := c = 0 ∨ (b = 0 ∧ c = 1)
instance (b c : Int32) : Decidable (oLow b c) := by unfold oLow; infer_instance
def oV (b w c : Int32) : Int32 := if oLow b c then (0 : Int32) else ((0 : Int32) + w)
def oN (b c : Int32) (wn : Nat) : Nat := if oLow b c then 0 else wn
def xc (f : Int64) (c : Int32) : Int64 := if c = 0 then f else (if c = 1 then (f + (1 : Int64)) else (f + (2 : Int64)))
def oX (b w c : Int32) : Int32 := if c = b then (-1 : Int32) else oV b w c
def wX (b : Int32) (x : Int64) (c : Int32) : Int64 := if c = b then x else (0 : Int64)
def bitL (l : Int32) : Int64 := ((1 : Int64) <<< (l &&& 0x3f).toInt64)
def wfin (b c l : Int32) (i v : Int64) : Int64 := if c = b then sbit i v (bitL l) else i
def vlc (b : Int32) (wn : Nat) (f : Int64) : List Value := vfin wn (fstA b f (f + (1 : Int64))) (sndB b (f + (1 : Int64)) (f + (2 : Int64)))
def vls (b c l : Int32) (wn : Nat) (f v : Int64) : List Value := if c = b then vlc b wn f else (vlc b wn f).set (oN b c wn + l.toInt.toNat) (.long v)
theorem own_2w (w : Int32) (h1 : ¬ w < (1 : Int32)) (h2 : ¬ (64 : Int32) < w) : (((0 : Int32) + w) + w).toInt = ((2 * w.toInt.toNat : Nat) : Int) ∧ 2 * w.toInt.toNat ≤ 128 := by
  rw [Int32.lt_iff_toInt_lt, (by decide : (1 : Int32).toInt = 1)] at h1
  rw [Int32.lt_iff_toInt_lt, (by decide : (64 : Int32).toInt = 64)] at h2
  have c1 := c_iadd (0 : Int32) w
  have c2 := c_iadd ((0 : Int32) + w) w
  have r1 := rng32 ((0 : Int32) + w)
  have r2 := rng32 (((0 : Int32) + w) + w)
  rw [(by decide : (0 : Int32).toInt = 0)] at c1
  omega
theorem own_w1 (w : Int32) (wn : Nat) (h : w.toInt = (wn : Int) ∧ 1 ≤ wn ∧ wn ≤ 64) : ((0 : Int32) + w).toInt = (wn : Int) := by
  have c1 := c_iadd (0 : Int32) w
  have r1 := rng32 ((0 : Int32) + w)
  rw [(by decide : (0 : Int32).toInt = 0)] at c1
  omega
theorem own_wm (w : Int32) (wn : Nat) (h : w.toInt = (wn : Int) ∧ 1 ≤ wn ∧ wn ≤ 64) : ¬ ((0 : Int32) + w) = (-1 : Int32) := fun q => by
  have e := own_w1 w wn h
  rw [q, (by decide : (-1 : Int32).toInt = -1)] at e
  omega
theorem own_w2 (w : Int32) (wn : Nat) (h : w.toInt = (wn : Int) ∧ 1 ≤ wn ∧ wn ≤ 64) : (((0 : Int32) + w) + w).toInt = ((2 * wn : Nat) : Int) := by
  have e := own_w1 w wn h
  have c2 := c_iadd ((0 : Int32) + w) w
  have r2 := rng32 (((0 : Int32) + w) + w)
  omega
theorem own_og (b w c : Int32) (hb : b = 0 ∨ b = 1 ∨ b = 2) (hc : c = 0 ∨ c = 1 ∨ c = 2) (hne : ¬ c = b) : (offs b w)[c.toInt.toNat]? = some (.int (oV b w c)) := by
  rcases hb with rfl | rfl | rfl <;> rcases hc with rfl | rfl | rfl <;> first | rfl | exact absurd rfl hne
theorem own_om (b w c : Int32) (wn : Nat) (hw : w.toInt = (wn : Int) ∧ 1 ≤ wn ∧ wn ≤ 64) : ¬ oV b w c = (-1 : Int32) := by
  unfold oV; split
  · decide
  · intro q
    have e := own_w1 w wn hw
    rw [q, (by decide : (-1 : Int32).toInt = -1)] at e
    omega
theorem own_ovi (b w c l : Int32) (wn ln : Nat) (hw : w.toInt = (wn : Int) ∧ 1 ≤ wn ∧ wn ≤ 64) (hl : l.toInt = (ln : Int) ∧ ln < wn) : (oV b w c + l).toInt = ((oN b c wn + ln : Nat) : Int) := by
  unfold oV oN
  have e := own_w1 w wn hw
  split
  · have c1 := c_iadd (0 : Int32) l
    have r1 := rng32 ((0 : Int32) + l)
    rw [(by decide : (0 : Int32).toInt = 0)] at c1
    omega
  · have c1 := c_iadd ((0 : Int32) + w) l
    have r1 := rng32 ((0 : Int32) + w + l)
    omega
theorem vfin_len (wn : Nat) (x y : Int64) : (vfin wn x y).length = 2 * wn := by unfold vfin; rw [fillN_len, fillN_len, List.length_replicate]
theorem vfin_lo (wn : Nat) (x y : Int64) (j : Nat) (h : j < wn) : (vfin wn x y)[j]? = some (.long x) := by
  unfold vfin
  rw [fillN_out _ _ _ _ _ (Or.inl h)]
  exact fillN_in _ _ _ _ _ (Nat.zero_le _) (by omega) (by rw [List.length_replicate]; omega)
theorem vfin_hi (wn : Nat) (x y : Int64) (j : Nat) (h : j < wn) : (vfin wn x y)[wn + j]? = some (.long y) := by
  unfold vfin
  exact fillN_in _ _ _ _ _ (by omega) (by omega) (by rw [fillN_len, List.length_replicate]; omega)
theorem own_vg (b c : Int32) (wn j : Nat) (f : Int64) (hb : b = 0 ∨ b = 1 ∨ b = 2) (hc : c = 0 ∨ c = 1 ∨ c = 2) (hne : ¬ c = b) (h : j < wn) : (vfin wn (fstA b f (f + (1 : Int64))) (sndB b (f + (1 : Int64)) (f + (2 : Int64))))[oN b c wn + j]? = some (.long (xc f c)) := by
  have lo := fun x y => vfin_lo wn x y j h
  have hi := fun x y => vfin_hi wn x y j h
  rcases hb with rfl | rfl | rfl <;> rcases hc with rfl | rfl | rfl <;> first | (exact absurd rfl hne) | (simp [oN, oLow, xc, fstA, sndB, lo, hi])
theorem own_nl (b c : Int32) (wn j : Nat) (h : j < wn) : oN b c wn + j < 2 * wn := by unfold oN; split <;> omega
theorem own_xb (f : Int64) (c : Int32) (hc : c = 0 ∨ c = 1 ∨ c = 2) : xc f c = f + c.toInt64 := by
  rcases hc with rfl | rfl | rfl
  · show f = f + (0 : Int32).toInt64; rw [(by decide : (0 : Int32).toInt64 = 0)]; simp
  · rfl
  · rfl
theorem own_oNe (b c d : Int32) (wn i j : Nat) (hb : b = 0 ∨ b = 1 ∨ b = 2) (hc : c = 0 ∨ c = 1 ∨ c = 2) (hd : d = 0 ∨ d = 1 ∨ d = 2) (h1 : ¬ c = b) (h2 : ¬ d = b) (h3 : ¬ d = c) (hi : i < wn) (hj : j < wn) : oN b c wn + i ≠ oN b d wn + j := by
  rcases hb with rfl | rfl | rfl <;> rcases hc with rfl | rfl | rfl <;> rcases hd with rfl | rfl | rfl <;> first | (exact absurd rfl h1) | (exact absurd rfl h2) | (exact absurd rfl h3) | (simp [oN, oLow]; omega)
theorem own_init (x i : Int64) : (x &&& ((-1 : Int64) ^^^ (-1 : Int64))) ||| (i &&& (-1 : Int64)) = i := by
  rw [(by decide : (-1 : Int64) ^^^ (-1 : Int64) = 0), (by simp : x &&& (0 : Int64) = 0), (by simp : i &&& (-1 : Int64) = i)]; simp
theorem own_w64 (p0 : Int32) : ((1 : Int32) + (p0 &&& (63 : Int32))).toInt = ((((1 : Int32) + (p0 &&& (63 : Int32))).toInt.toNat : Nat) : Int) ∧ 1 ≤ ((1 : Int32) + (p0 &&& (63 : Int32))).toInt.toNat ∧ ((1 : Int32) + (p0 &&& (63 : Int32))).toInt.toNat ≤ 64 := by
  have h := c_and p0 (63 : Int32) (by decide)
  have c := c_iadd (1 : Int32) (p0 &&& (63 : Int32))
  have r := rng32 ((1 : Int32) + (p0 &&& (63 : Int32)))
  rw [(by decide : (63 : Int32).toInt = 63)] at h
  rw [(by decide : (1 : Int32).toInt = 1)] at c
  omega
theorem own_wnz (w : Int32) (wn : Nat) (hw : w.toInt = (wn : Int) ∧ 1 ≤ wn ∧ wn ≤ 64) : w ≠ 0 := fun q => by rw [q, (by decide : (0 : Int32).toInt = 0)] at hw; omega
theorem own_mod3 (x : Int32) (h : 0 ≤ x.toInt) : x % (3 : Int32) = 0 ∨ x % (3 : Int32) = 1 ∨ x % (3 : Int32) = 2 := by
  have q := (c_irem x (3 : Int32) 3 (by decide)).1 h
  simp only [← Int32.toInt_inj, q]
  have e : (0 : Int32).toInt = 0 ∧ (1 : Int32).toInt = 1 ∧ (2 : Int32).toInt = 2 := by decide
  omega
theorem own_lane (x w : Int32) (wn : Nat) (hw : w.toInt = (wn : Int) ∧ 1 ≤ wn ∧ wn ≤ 64) : ((x &&& (2147483647 : Int32)) % w).toInt = ((((x &&& (2147483647 : Int32)) % w).toInt.toNat : Nat) : Int) ∧ ((x &&& (2147483647 : Int32)) % w).toInt.toNat < wn := by
  have h1 := c_mask x (2147483647 : Int32) 31 (by decide) (by decide)
  have h2 := (c_iremV (x &&& (2147483647 : Int32)) w).1 (by rw [h1]; omega) (by omega)
  omega
theorem own_dd (c y : Int32) (hc : c = 0 ∨ c = 1 ∨ c = 2) (hy : y = 0 ∨ y = 1) : (((c + (1 : Int32)) + y) % (3 : Int32) = 0 ∨ ((c + (1 : Int32)) + y) % (3 : Int32) = 1 ∨ ((c + (1 : Int32)) + y) % (3 : Int32) = 2) ∧ ¬ ((c + (1 : Int32)) + y) % (3 : Int32) = c := by
  rcases hc with rfl | rfl | rfl <;> rcases hy with rfl | rfl <;> decide
theorem own_x184 (b c l m : Int32) (wn : Nat) (f q : Int64) (hb : b = 0 ∨ b = 1 ∨ b = 2) (hc : c = 0 ∨ c = 1 ∨ c = 2) (hne : ¬ c = b) (hl : l.toInt = ((l.toInt.toNat : Nat) : Int) ∧ l.toInt.toNat < wn) (hm : m.toInt = ((m.toInt.toNat : Nat) : Int) ∧ m.toInt.toNat < wn) :
    ((vfin wn (fstA b f (f + (1 : Int64))) (sndB b (f + (1 : Int64)) (f + (2 : Int64)))).set (oN b c wn + l.toInt.toNat) (.long q))[oN b c wn + m.toInt.toNat]? = some (Value.long (if m = l then q else xc f c)) := by
  rw [List.getElem?_set]
  by_cases e : m = l
  · subst e; rw [if_pos rfl, if_pos rfl, if_pos (by rw [vfin_len]; exact own_nl b c _ _ hl.2)]
  · have n : l.toInt.toNat ≠ m.toInt.toNat := fun q => e (Int32.toInt_inj.mp (by omega))
    rw [if_neg (by omega), if_neg e]
    exact own_vg b c _ _ f hb hc hne hm.2
theorem own_oX (b w c : Int32) (hb : b = 0 ∨ b = 1 ∨ b = 2) (hc : c = 0 ∨ c = 1 ∨ c = 2) : (offs b w)[c.toInt.toNat]? = some (.int (oX b w c)) := by
  unfold oX; split
  · rename_i q; rw [q]; exact own_oget b w hb
  · rename_i q; exact own_og b w c hb hc q
theorem own_wX (b c : Int32) (x : Int64) (hb : b = 0 ∨ b = 1 ∨ b = 2) (hc : c = 0 ∨ c = 1 ∨ c = 2) : (wds b x)[c.toInt.toNat]? = some (.long (wX b x c)) := by
  rcases hb with rfl | rfl | rfl <;> rcases hc with rfl | rfl | rfl <;> rfl
theorem own_oXn {b w c : Int32} (q : ¬ oX b w c = (-1 : Int32)) : ¬ c = b ∧ oX b w c = oV b w c := by
  unfold oX at q ⊢
  split at q
  · exact absurd rfl q
  · rename_i h; exact ⟨h, if_neg h⟩
theorem own_oXy {b w c : Int32} (wn : Nat) (hw : w.toInt = (wn : Int) ∧ 1 ≤ wn ∧ wn ≤ 64) : oX b w c = (-1 : Int32) ↔ c = b := by
  constructor
  · intro q; unfold oX at q; split at q
    · assumption
    · exact absurd q (own_om b w c wn hw)
  · intro q; unfold oX; rw [if_pos q]
theorem own_wa2 (b w c l : Int32) (wn : Nat) (i v : Int64) (hb : b = 0 ∨ b = 1 ∨ b = 2) (hc : c = 0 ∨ c = 1 ∨ c = 2) (hw : w.toInt = (wn : Int) ∧ 1 ≤ wn ∧ wn ≤ 64) : (if oX b w c = (-1 : Int32) then (wds b i).set c.toInt.toNat (.long (sbit (wX b i c) v ((1 : Int64) <<< (l &&& 0x3f).toInt64))) else wds b i) = wds b (wfin b c l i v) := by
  unfold wfin
  by_cases q : c = b
  · rw [if_pos ((own_oXy wn hw).mpr q), if_pos q, wX, if_pos q, q]; exact own_wset b i _ hb
  · rw [if_neg (fun z => q ((own_oXy wn hw).mp z)), if_neg q]
theorem own_va2 (b w c l : Int32) (wn : Nat) (f v : Int64) (hw : w.toInt = (wn : Int) ∧ 1 ≤ wn ∧ wn ≤ 64) : (if oX b w c = (-1 : Int32) then vlc b wn f else (vlc b wn f).set (oN b c wn + l.toInt.toNat) (.long v)) = vls b c l wn f v := by
  unfold vls
  by_cases q : c = b
  · rw [if_pos ((own_oXy wn hw).mpr q), if_pos q]
  · rw [if_neg (fun z => q ((own_oXy wn hw).mp z)), if_neg q]
theorem own_hvi (b w c l : Int32) (wn : Nat) (f : Int64) (hw : w.toInt = (wn : Int) ∧ 1 ≤ wn ∧ wn ≤ 64) (hl : l.toInt = ((l.toInt.toNat : Nat) : Int) ∧ l.toInt.toNat < wn) : ¬ oX b w c = (-1 : Int32) → (oX b w c + l).toInt = ((oN b c wn + l.toInt.toNat : Nat) : Int) ∧ oN b c wn + l.toInt.toNat < (vlc b wn f).length := fun q => by
  rw [(own_oXn q).2]
  exact ⟨own_ovi b w c l wn _ hw hl, by rw [vlc, vfin_len]; exact own_nl b c _ _ hl.2⟩
theorem own_hx1 (b w c l : Int32) (wn : Nat) (f v : Int64) (hw : w.toInt = (wn : Int) ∧ 1 ≤ wn ∧ wn ≤ 64) (hl : l.toInt = ((l.toInt.toNat : Nat) : Int) ∧ l.toInt.toNat < wn) : ¬ oX b w c = (-1 : Int32) → (oX b w c + l).toInt = ((oN b c wn + l.toInt.toNat : Nat) : Int) ∧ (vls b c l wn f v)[oN b c wn + l.toInt.toNat]? = some (Value.long v) := fun q => by
  obtain ⟨q1, q2⟩ := own_oXn q
  rw [q2, vls, if_neg q1]
  exact ⟨own_ovi b w c l wn _ hw hl, by rw [List.getElem?_set, if_pos rfl, if_pos (by rw [vlc, vfin_len]; exact own_nl b c _ _ hl.2)]⟩
theorem own_hx2 (b w c l m : Int32) (wn : Nat) (f v : Int64) (hb : b = 0 ∨ b = 1 ∨ b = 2) (hc : c = 0 ∨ c = 1 ∨ c = 2) (hw : w.toInt = (wn : Int) ∧ 1 ≤ wn ∧ wn ≤ 64) (hl : l.toInt = ((l.toInt.toNat : Nat) : Int) ∧ l.toInt.toNat < wn) (hm : m.toInt = ((m.toInt.toNat : Nat) : Int) ∧ m.toInt.toNat < wn) : ¬ oX b w c = (-1 : Int32) → (oX b w c + m).toInt = ((oN b c wn + m.toInt.toNat : Nat) : Int) ∧ (vls b c l wn f v)[oN b c wn + m.toInt.toNat]? = some (Value.long (if m = l then v else xc f c)) := fun q => by
  obtain ⟨q1, q2⟩ := own_oXn q
  rw [q2, vls, if_neg q1]
  exact ⟨own_ovi b w c m wn _ hw hm, own_x184 b c l m wn f v hb hc q1 hl hm⟩
theorem own_hx3 (b w c d l : Int32) (wn : Nat) (f v : Int64) (hb : b = 0 ∨ b = 1 ∨ b = 2) (hc : c = 0 ∨ c = 1 ∨ c = 2) (hd : d = 0 ∨ d = 1 ∨ d = 2) (hdc : ¬ d = c) (hw : w.toInt = (wn : Int) ∧ 1 ≤ wn ∧ wn ≤ 64) (hl : l.toInt = ((l.toInt.toNat : Nat) : Int) ∧ l.toInt.toNat < wn) : ¬ oX b w d = (-1 : Int32) → (oX b w d + l).toInt = ((oN b d wn + l.toInt.toNat : Nat) : Int) ∧ (vls b c l wn f v)[oN b d wn + l.toInt.toNat]? = some (Value.long (xc f d)) := fun q => by
  obtain ⟨q1, q2⟩ := own_oXn q
  rw [q2]
  refine ⟨own_ovi b w d l wn _ hw hl, ?_⟩
  unfold vls; split
  · exact own_vg b d _ _ f hb hd q1 hl.2
  · rename_i h
    rw [List.getElem?_set, if_neg (own_oNe b c d _ _ _ hb hc hd h q1 hdc hl.2 hl.2)]
    exact own_vg b d _ _ f hb hd q1 hl.2
theorem own_shU (l : Int32) (n : Nat) (h : l.toInt = (n : Int)) (hn : n < 64) : (l &&& 0x3f).toInt64.toUInt64.toBitVec % (64 : BitVec 64) = BitVec.ofNat 64 n ∧ ((1 : Int64) <<< (l &&& 0x3f).toInt64).toBitVec = BitVec.twoPow 64 n := by
  have e : l = Int32.ofInt (n : Int) := by rw [← h]; exact (Int32.ofInt_toInt l).symm
  rw [e]
  exact (by decide +kernel : ∀ k : Fin 64, ((Int32.ofInt (k.val : Int)) &&& 0x3f).toInt64.toUInt64.toBitVec % (64 : BitVec 64) = BitVec.ofNat 64 k.val ∧ ((1 : Int64) <<< ((Int32.ofInt (k.val : Int)) &&& 0x3f).toInt64).toBitVec = BitVec.twoPow 64 k.val) ⟨n, hn⟩
def rd (x : Int64) (l : Int32) : Int64 := ((x.toUInt64 >>> (l &&& 0x3f).toInt64.toUInt64).toInt64) &&& (1 : Int64)
theorem own_rd (x : Int64) (l : Int32) (n : Nat) (h : l.toInt = (n : Int)) (hn : n < 64) : rd x l = if x.toBitVec.getLsbD n then (1 : Int64) else (0 : Int64) := by
  have e1 := (own_shU l n h hn).1
  have e : (rd x l).toBitVec = (x.toBitVec >>> n) &&& 1#64 := by
    unfold rd
    rw [Int64.toBitVec_and]
    show ((x.toUInt64 >>> (l &&& 0x3f).toInt64.toUInt64).toBitVec) &&& 1#64 = _
    rw [UInt64.toBitVec_shiftRight, e1]
    show (x.toBitVec >>> (BitVec.ofNat 64 n)) &&& 1#64 = _
    rw [BitVec.ushiftRight_eq', BitVec.toNat_ofNat, Nat.mod_eq_of_lt (by omega)]
  apply Int64.toBitVec_inj.mp
  rw [e]
  apply BitVec.eq_of_getLsbD_eq
  intro i hi
  rw [BitVec.getLsbD_and, BitVec.getLsbD_ushiftRight]
  by_cases hx : x.toBitVec.getLsbD n = true
  · rw [if_pos hx]
    show (x.toBitVec.getLsbD (n + i) && (1#64).getLsbD i) = (1#64).getLsbD i
    by_cases h0 : i = 0
    · subst h0; rw [Nat.add_zero, hx, Bool.true_and]
    · have : (1#64).getLsbD i = false := by rw [BitVec.getLsbD_one]; simp [h0]
      rw [this, Bool.and_false]
  · rw [if_neg hx]
    show (x.toBitVec.getLsbD (n + i) && (1#64).getLsbD i) = (0#64).getLsbD i
    rw [BitVec.getLsbD_zero]
    by_cases h0 : i = 0
    · subst h0; rw [Nat.add_zero]; simp [hx]
    · have : (1#64).getLsbD i = false := by rw [BitVec.getLsbD_one]; simp [h0]
      rw [this, Bool.and_false]
theorem own_sbit (x v : Int64) (l : Int32) (n k : Nat) (h : l.toInt = (n : Int)) (hn : n < 64) (hk : k < 64) : (sbit x v (bitL l)).toBitVec.getLsbD k = if k = n then (if v = 0 then false else true) else x.toBitVec.getLsbD k := by
  have e2 : (bitL l).toBitVec = BitVec.twoPow 64 n := (own_shU l n h hn).2
  unfold sbit
  by_cases hv : v = 0
  · rw [if_pos hv, Int64.toBitVec_and, Int64.toBitVec_xor, e2, (by decide : (-1 : Int64).toBitVec = BitVec.allOnes 64), BitVec.getLsbD_and, BitVec.getLsbD_xor, BitVec.getLsbD_twoPow, BitVec.getLsbD_allOnes]
    by_cases hkn : k = n
    · subst hkn; simp [hn, hv]
    · have : ¬ n = k := fun q => hkn q.symm
      simp [hkn, hk, this]
  · rw [if_neg hv, Int64.toBitVec_or, e2, BitVec.getLsbD_or, BitVec.getLsbD_twoPow]
    by_cases hkn : k = n
    · subst hkn; simp [hn, hv]
    · have : ¬ n = k := fun q => hkn q.symm
      simp [hkn, this]
theorem own_c1 (b w c l : Int32) (wn : Nat) (i v q : Int64) (hq : q = (if c = b then (if v = (0 : Int64) then (0 : Int64) else (1 : Int64)) else v)) (hw : w.toInt = (wn : Int) ∧ 1 ≤ wn ∧ wn ≤ 64) (hl : l.toInt = ((l.toInt.toNat : Nat) : Int) ∧ l.toInt.toNat < wn) : (if oX b w c = (-1 : Int32) then rd (wX b (wfin b c l i v) c) l else v) = q := by
  subst hq
  by_cases e : c = b
  · rw [if_pos ((own_oXy wn hw).mpr e), if_pos e, wX, if_pos e, wfin, if_pos e, own_rd _ _ _ hl.1 (by omega), own_sbit _ _ _ _ _ hl.1 (by omega) (by omega), if_pos rfl]
    by_cases hv : v = 0 <;> simp [hv]
  · rw [if_neg (fun z => e ((own_oXy wn hw).mp z)), if_neg e]
theorem own_c2 (b w c l m : Int32) (wn : Nat) (i v f q r : Int64) (hq : q = (if c = b then (if v = (0 : Int64) then (0 : Int64) else (1 : Int64)) else v)) (hr : r = if m = l then q else (if c = b then rd i m else (f + c.toInt64))) (hc : c = 0 ∨ c = 1 ∨ c = 2) (hw : w.toInt = (wn : Int) ∧ 1 ≤ wn ∧ wn ≤ 64) (hl : l.toInt = ((l.toInt.toNat : Nat) : Int) ∧ l.toInt.toNat < wn) (hm : m.toInt = ((m.toInt.toNat : Nat) : Int) ∧ m.toInt.toNat < wn) : (if oX b w c = (-1 : Int32) then rd (wX b (wfin b c l i v) c) m else (if m = l then v else xc f c)) = r := by
  by_cases hml : m = l
  · subst hml
    rw [if_pos rfl] at hr ⊢
    rw [hr]
    exact own_c1 b w c m wn i v q hq hw hm
  · rw [if_neg hml] at hr ⊢
    have hn : ¬ m.toInt.toNat = l.toInt.toNat := fun z => hml (Int32.toInt_inj.mp (by omega))
    subst hr
    by_cases e : c = b
    · rw [if_pos ((own_oXy wn hw).mpr e), if_pos e, wX, if_pos e, wfin, if_pos e, own_rd _ _ _ hm.1 (by omega), own_rd _ _ _ hm.1 (by omega), own_sbit _ _ _ _ _ hl.1 (by omega) (by omega), if_neg hn]
    · rw [if_neg (fun z => e ((own_oXy wn hw).mp z)), if_neg e]; exact own_xb f c hc
theorem own_c3 (b w c d l : Int32) (wn : Nat) (i v f : Int64) (hd : d = 0 ∨ d = 1 ∨ d = 2) (hdc : ¬ d = c) (hw : w.toInt = (wn : Int) ∧ 1 ≤ wn ∧ wn ≤ 64) : (if oX b w d = (-1 : Int32) then rd (wX b (wfin b c l i v) d) l else xc f d) = (if d = b then rd i l else (f + d.toInt64)) := by
  by_cases e : d = b
  · rw [if_pos ((own_oXy wn hw).mpr e), if_pos e, wX, if_pos e, wfin, if_neg (fun z => hdc (e.trans z.symm))]
  · rw [if_neg (fun z => e ((own_oXy wn hw).mp z)), if_neg e]; exact own_xb f d hd
theorem own_c4 (b c l : Int32) (i v q : Int64) (hq : q = (if c = b then (if v = (0 : Int64) then (i &&& (bitL l ^^^ (-1 : Int64))) else (i ||| bitL l)) else i)) : wfin b c l i v = q := by
  subst hq; unfold wfin sbit; rfl

theorem ef_rm3 (m : MethodId) (r0 : Addr) : entryFrame m #[(.ref r0)] 1 = mkF m 0 #[.val (.ref r0)] [] := by first | (simp [entryFrame, mkF, argsToLocals, Value.category]; done) | rfl
def Q3 (r0 : Addr) (h0 : Heap) (n0 : Nat) (v : Option Value) (h : Heap) (L : List Loc) : Prop := v = none ∧ Fr n0 L ∧ h = h0
set_option maxRecDepth 65536 in
set_option maxHeartbeats 40000000 in
theorem rm3 (l : Launch) (Z : State) (a0 : Array Value) (hw : ∀ d ∈ tables_1, d.before a0 Z = true) (ws : List Jvm.Cond) (r0 : Addr) (h0 : Heap) (n0 : Nat) (O0 : Old Z n0 h0)  :
    MetFree l (⟨"java/util/AbstractCollection", "<init>", "()V"⟩ : MethodName) (head1 (Jvm.Cond.code (⟨"java/util/AbstractCollection", "<init>", "()V"⟩ : MethodName) jdk_22_method_1_code 1 none :: ws) ({ frames := 1, cells := 0, slots := 0, locals := 12 } : Room)) (fun a U => a = #[(.ref r0)] ∧ Z.Warmed39 U.vm ∧ U.heap = h0) (fun _ _ _ _ _ => True) (fun _ U o U' => ∃ v L, o = .returned v ∧ Q3 r0 h0 n0 v U'.heap L ∧ FrameEnd U o U' L ({ frames := 1, cells := 0, slots := 0, locals := 12 } : Room).cells ({ frames := 1, cells := 0, slots := 0, locals := 12 } : Room).slots) := by
  refine MetFree.of_bodySF (plainFor_of_name pn_java_util_AbstractCollection) hisR ?_
  intro p e s m args below meth c s₁ Bd hml0 hP hK
  obtain ⟨rfl, hZ, hh⟩ := hP
  have hx := Bd.exec
  have hby := Bd.bytes
  have hml : c.maxLocals = 1 := hml0
  have hown : s.vm.findClass "java/util/AbstractCollection" = some m.cls := findClass_of_methodNamed Bd.named
  have hnm := (name_of_methodNamed Bd.named Bd.method).1
  have X0 : Stand p l e ({ frames := 1, cells := 0, slots := 0, locals := 12 } : Room) s m #[(.ref r0)] below meth c s₁ [] 0 0 := Stand.of_body Bd
  have e0 : s₁.heap = h0 := by rw [← hh, Bd.state]; rfl
  have N0 := Fr.nil n0
  show OFin p e below (fun o t L => FrameEnd s o t L ({ frames := 1, cells := 0, slots := 0, locals := 12 } : Room).cells ({ frames := 1, cells := 0, slots := 0, locals := 12 } : Room).slots) (fun v h L => Q3 r0 h0 n0 v h L) s₁ (entryFrame m #[(.ref r0)] 1)
  refine OFin.cast (ef_rm3 m r0) ?_
  show OFin p e below _ _ s₁ (mkF m 0 #[.val (.ref r0)] [])
  refine OFin.st (fun t k => XS.aloadN X0.here hx rfl (hb hby d3_0) rfl rfl k) ?_
  show OFin p e below _ _ s₁ (mkF m 1 #[.val (.ref r0)] [(.ref r0)])
  obtain ⟨T1, X1, e1, st1⟩ := initO X0 hx hZ hown (hw _ (List.mem_of_getElem? (i := 20) rfl)) (hw _ (List.mem_of_getElem? (i := 21) rfl)) (hw _ (List.mem_of_getElem? (i := 22) rfl)) e0 (g := (mkF m 1 #[.val (.ref r0)] [(.ref r0)])) rfl (by rw [hml]; rfl) rfl (hb hby d3_1) (by decide) (W := 0) (by show 2 * 0 + _ ≤ _; exact Nat.le_of_eq rfl) (by decide)
  refine OFin.st st1 ?_
  show OFin p e below _ _ T1 (mkF m 4 #[.val (.ref r0)] [])
  exact own_retV X1 hx Bd.returns Bd.notSynchronized (hb hby d3_4) ⟨rfl, N0, e1⟩ (own_endN (by decide) (by decide))
theorem ef_rm2 (m : MethodId) (r0 : Addr) : entryFrame m #[(.ref r0)] 1 = mkF m 0 #[.val (.ref r0)] [] := by first | (simp [entryFrame, mkF, argsToLocals, Value.category]; done) | rfl
def Qrm2 (Z : State) (r0 : Addr) (u1 : Value) (u2 : Value) (u3 : Value) (h0 : Heap) (n0 : Nat) (v : Option Value) (h : Heap) (L : List Loc) : Prop := v = none ∧ Fr n0 L ∧ Keep h0 h [r0] ∧ Exa Z h r0 "java/util/ArrayList" ∧ Fld Z h r0 "java/util/ArrayList" "elementData" "[Ljava/lang/Object;" u1 ∧ Fld Z h r0 "java/util/ArrayList" "size" "I" u2 ∧ Fld Z h r0 "java/util/AbstractList" "modCount" "I" (.int (0 : Int32))
set_option maxRecDepth 65536 in
set_option maxHeartbeats 40000000 in
theorem rm2 (l : Launch) (Z : State) (a0 : Array Value) (hw : ∀ d ∈ tables_1, d.before a0 Z = true) (ws : List Jvm.Cond) (r0 : Addr) (u1 : Value) (u2 : Value) (u3 : Value) (h0 : Heap) (n0 : Nat) (O0 : Old Z n0 h0) (E_r0 : Exa Z h0 r0 "java/util/ArrayList") (F_elementData_r0 : Fld Z h0 r0 "java/util/ArrayList" "elementData" "[Ljava/lang/Object;" u1) (F_size_r0 : Fld Z h0 r0 "java/util/ArrayList" "size" "I" u2) (F_modCount_r0 : Fld Z h0 r0 "java/util/AbstractList" "modCount" "I" u3) (g_r0 : n0 ≤ r0) :
    MetFree l (⟨"java/util/AbstractList", "<init>", "()V"⟩ : MethodName) (head1 (Jvm.Cond.code (⟨"java/util/AbstractList", "<init>", "()V"⟩ : MethodName) jdk_39_method_1_code 1 none :: ws) ({ frames := 2, cells := 0, slots := 0, locals := 24 } : Room)) (fun a U => a = #[(.ref r0)] ∧ Z.Warmed39 U.vm ∧ U.heap = h0) (fun _ _ _ _ _ => True) (fun _ U o U' => ∃ v L, o = .returned v ∧ Qrm2 Z r0 u1 u2 u3 h0 n0 v U'.heap L ∧ FrameEnd U o U' L ({ frames := 2, cells := 0, slots := 0, locals := 24 } : Room).cells ({ frames := 2, cells := 0, slots := 0, locals := 24 } : Room).slots) := by
  refine MetFree.of_bodySF (plainFor_of_name pn_java_util_AbstractList) hisR ?_
  intro p e s m args below meth c s₁ Bd hml0 hP hK
  obtain ⟨rfl, hZ, hh⟩ := hP
  have hx := Bd.exec
  have hby := Bd.bytes
  have hml : c.maxLocals = 1 := hml0
  have hown : s.vm.findClass "java/util/AbstractList" = some m.cls := findClass_of_methodNamed Bd.named
  have hnm := (name_of_methodNamed Bd.named Bd.method).1
  have X0 : Stand p l e ({ frames := 2, cells := 0, slots := 0, locals := 24 } : Room) s m #[(.ref r0)] below meth c s₁ [] 0 0 := Stand.of_body Bd
  have e0 : s₁.heap = h0 := by rw [← hh, Bd.state]; rfl
  have N0 := Fr.nil n0
  show OFin p e below (fun o t L => FrameEnd s o t L ({ frames := 2, cells := 0, slots := 0, locals := 24 } : Room).cells ({ frames := 2, cells := 0, slots := 0, locals := 24 } : Room).slots) (fun v h L => Qrm2 Z r0 u1 u2 u3 h0 n0 v h L) s₁ (entryFrame m #[(.ref r0)] 1)
  refine OFin.cast (ef_rm2 m r0) ?_
  show OFin p e below _ _ s₁ (mkF m 0 #[.val (.ref r0)] [])
  refine OFin.st (fun t k => XS.aloadN X0.here hx rfl (hb hby d2_0) rfl rfl k) ?_
  show OFin p e below _ _ s₁ (mkF m 1 #[.val (.ref r0)] [(.ref r0)])
  obtain ⟨_, _, ⟨T1, L1, k1, n1⟩, -, X1, ⟨Lc1, hQ1, l1, y1, z1⟩, st1⟩ := X0.specialBack hx (y := (⟨"java/util/AbstractCollection", "<init>", "()V"⟩ : MethodName)) rfl hown (mvT hZ (hw _ (List.mem_of_getElem? (i := 14) rfl))) (mvT hZ (hw _ (List.mem_of_getElem? (i := 15) rfl))) (mvT hZ (hw _ (List.mem_of_getElem? (i := 19) rfl))) (by decide) (backOf (W := 0) (rm3 l Z a0 hw [] r0 h0 n0 O0 ) hZ (hw _ (List.mem_of_getElem? (i := 19) rfl)) (hw _ (List.mem_of_getElem? (i := 18) rfl)) (by decide) (by decide)) (g := (mkF m 1 #[.val (.ref r0)] [(.ref r0)])) rfl (by rw [hml]; rfl) (Steps.refl _) (a := r0) (argsL := []) (rest := []) (lenOf pd_4 rfl) rfl (by show 2 * 0 + _ ≤ _; exact Nat.le_of_eq rfl) (hb hby d2_1) (fun _ _ => ⟨rfl, e0, (by decide : 0 + 0 ≤ _), (by decide : 0 + 0 ≤ _)⟩)
  dsimp only [Pt.U, Pt.locs, Pt.cells, Pt.slots] at X1 l1 y1 z1 st1 hQ1
  subst l1 y1 z1
  have X1 : Stand p l e ({ frames := 2, cells := 0, slots := 0, locals := 24 } : Room) s m #[(.ref r0)] below meth c T1 _ 0 0 := X1
  obtain ⟨rfl, N1q, e1⟩ := hQ1
  have N1 := Fr.app N0 N1q
  refine OFin.tr st1 ?_
  show OFin p e below _ _ T1 (mkF m 4 #[.val (.ref r0)] [])
  refine OFin.st (fun t k => XS.aloadN X1.here hx rfl (hb hby d2_4) rfl rfl k) ?_
  show OFin p e below _ _ T1 (mkF m 5 #[.val (.ref r0)] [(.ref r0)])
  refine OFin.st (fun t k => XS.iconst X1.here hx rfl (hb hby d2_5) k) ?_
  show OFin p e below _ _ T1 (mkF m 6 #[.val (.ref r0)] [(.int (0 : Int32)), (.ref r0)])
  obtain ⟨T2, h2, X2, e2, W2, st2⟩ := putF X1 hx hZ hown (host := "") (Or.inl (hw _ (List.mem_of_getElem? (i := 23) rfl))) Via.refl e1 F_modCount_r0 E_r0 (Or.inl (hw _ (List.mem_of_getElem? (i := 24) rfl))) (hw _ (List.mem_of_getElem? (i := 3) rfl)) (ty := .int) (by decide) rfl rfl (g := (mkF m 6 #[.val (.ref r0)] [(.int (0 : Int32)), (.ref r0)])) rfl rfl (hb hby d2_6)
  refine OFin.st st2 ?_
  have Fw2 := F_modCount_r0.same W2
  have N2 := Fr.snoc X2 N1 g_r0
  have K2 : Keep h0 h2 [r0] := (Keep.refl h0 [r0]).wr W2 (Or.inl (List.mem_of_getElem? (i := 0) rfl))
  have O2 : Old Z n0 h2 := O0.wr W2 g_r0
  show OFin p e below _ _ T2 (mkF m 9 #[.val (.ref r0)] [])
  have c3 := (F_elementData_r0.other W2 (Or.inr (slot_ne (Or.inl (hw _ (List.mem_of_getElem? (i := 27) rfl))) (Or.inl (hw _ (List.mem_of_getElem? (i := 24) rfl))) (by decide) (t := (.array (.object "java/lang/Object"))) (t' := .int) (by decide) (by decide))))
  have c4 := (F_size_r0.other W2 (Or.inr (slot_ne (Or.inl (hw _ (List.mem_of_getElem? (i := 69) rfl))) (Or.inl (hw _ (List.mem_of_getElem? (i := 24) rfl))) (by decide) (t := .int) (t' := .int) (by decide) (by decide))))
  exact own_retV X2 hx Bd.returns Bd.notSynchronized (hb hby d2_9) (by show Qrm2 Z r0 u1 u2 u3 h0 n0 _ T2.heap _; rw [e2]; exact ⟨rfl, N2, K2, (E_r0.wr W2), c3, c4, Fw2⟩) (own_endN (by decide) (by decide))
theorem ef_rm1 (m : MethodId) (r0 : Addr) : entryFrame m #[(.ref r0)] 1 = mkF m 0 #[.val (.ref r0)] [] := by first | (simp [entryFrame, mkF, argsToLocals, Value.category]; done) | rfl
def Qrm1 (Z : State) (r0 : Addr) (u1 : Value) (u2 : Value) (u3 : Value) (w_DEFAULTCAPACITY_EMPTY_ELEMENTDATA : Addr) (h0 : Heap) (n0 : Nat) (v : Option Value) (h : Heap) (L : List Loc) : Prop := v = none ∧ Fr n0 L ∧ Keep h0 h [r0] ∧ Exa Z h r0 "java/util/ArrayList" ∧ Fld Z h r0 "java/util/ArrayList" "elementData" "[Ljava/lang/Object;" (.ref w_DEFAULTCAPACITY_EMPTY_ELEMENTDATA) ∧ Fld Z h r0 "java/util/ArrayList" "size" "I" u2 ∧ Fld Z h r0 "java/util/AbstractList" "modCount" "I" (.int (0 : Int32))
set_option maxRecDepth 65536 in
set_option maxHeartbeats 40000000 in
theorem rm1 (l : Launch) (Z : State) (a0 : Array Value) (hw : ∀ d ∈ tables_1, d.before a0 Z = true) (ws : List Jvm.Cond) (r0 : Addr) (u1 : Value) (u2 : Value) (u3 : Value) (w_DEFAULTCAPACITY_EMPTY_ELEMENTDATA : Addr) (h0 : Heap) (n0 : Nat) (O0 : Old Z n0 h0) (E_r0 : Exa Z h0 r0 "java/util/ArrayList") (F_elementData_r0 : Fld Z h0 r0 "java/util/ArrayList" "elementData" "[Ljava/lang/Object;" u1) (F_size_r0 : Fld Z h0 r0 "java/util/ArrayList" "size" "I" u2) (F_modCount_r0 : Fld Z h0 r0 "java/util/AbstractList" "modCount" "I" u3) (g_r0 : n0 ≤ r0) (S_DEFAULTCAPACITY_EMPTY_ELEMENTDATA : Sta Z Z.heap "java/util/ArrayList" "DEFAULTCAPACITY_EMPTY_ELEMENTDATA" "[Ljava/lang/Object;" (.ref w_DEFAULTCAPACITY_EMPTY_ELEMENTDATA)) :
    MetFree l (⟨"java/util/ArrayList", "<init>", "()V"⟩ : MethodName) (head1 (Jvm.Cond.code (⟨"java/util/ArrayList", "<init>", "()V"⟩ : MethodName) jdk_38_method_2_code 1 none :: ws) ({ frames := 3, cells := 0, slots := 0, locals := 36 } : Room)) (fun a U => a = #[(.ref r0)] ∧ Z.Warmed39 U.vm ∧ U.heap = h0) (fun _ _ _ _ _ => True) (fun _ U o U' => ∃ v L, o = .returned v ∧ Qrm1 Z r0 u1 u2 u3 w_DEFAULTCAPACITY_EMPTY_ELEMENTDATA h0 n0 v U'.heap L ∧ FrameEnd U o U' L ({ frames := 3, cells := 0, slots := 0, locals := 36 } : Room).cells ({ frames := 3, cells := 0, slots := 0, locals := 36 } : Room).slots) := by
  refine MetFree.of_bodySF (plainFor_of_name pn_java_util_ArrayList) hisR ?_
  intro p e s m args below meth c s₁ Bd hml0 hP hK
  obtain ⟨rfl, hZ, hh⟩ := hP
  have hx := Bd.exec
  have hby := Bd.bytes
  have hml : c.maxLocals = 1 := hml0
  have hown : s.vm.findClass "java/util/ArrayList" = some m.cls := findClass_of_methodNamed Bd.named
  have hnm := (name_of_methodNamed Bd.named Bd.method).1
  have X0 : Stand p l e ({ frames := 3, cells := 0, slots := 0, locals := 36 } : Room) s m #[(.ref r0)] below meth c s₁ [] 0 0 := Stand.of_body Bd
  have e0 : s₁.heap = h0 := by rw [← hh, Bd.state]; rfl
  have N0 := Fr.nil n0
  show OFin p e below (fun o t L => FrameEnd s o t L ({ frames := 3, cells := 0, slots := 0, locals := 36 } : Room).cells ({ frames := 3, cells := 0, slots := 0, locals := 36 } : Room).slots) (fun v h L => Qrm1 Z r0 u1 u2 u3 w_DEFAULTCAPACITY_EMPTY_ELEMENTDATA h0 n0 v h L) s₁ (entryFrame m #[(.ref r0)] 1)
  refine OFin.cast (ef_rm1 m r0) ?_
  show OFin p e below _ _ s₁ (mkF m 0 #[.val (.ref r0)] [])
  refine OFin.st (fun t k => XS.aloadN X0.here hx rfl (hb hby d1_0) rfl rfl k) ?_
  show OFin p e below _ _ s₁ (mkF m 1 #[.val (.ref r0)] [(.ref r0)])
  obtain ⟨_, _, ⟨T1, L1, k1, n1⟩, -, X1, ⟨Lc1, hQ1, l1, y1, z1⟩, st1⟩ := X0.specialBack hx (y := (⟨"java/util/AbstractList", "<init>", "()V"⟩ : MethodName)) rfl hown (mvT hZ (hw _ (List.mem_of_getElem? (i := 8) rfl))) (mvT hZ (hw _ (List.mem_of_getElem? (i := 9) rfl))) (mvT hZ (hw _ (List.mem_of_getElem? (i := 13) rfl))) (by decide) (backOf (W := 0) (rm2 l Z a0 hw [] r0 u1 u2 u3 h0 n0 O0 E_r0 F_elementData_r0 F_size_r0 F_modCount_r0 g_r0) hZ (hw _ (List.mem_of_getElem? (i := 13) rfl)) (hw _ (List.mem_of_getElem? (i := 12) rfl)) (by decide) (by decide)) (g := (mkF m 1 #[.val (.ref r0)] [(.ref r0)])) rfl (by rw [hml]; rfl) (Steps.refl _) (a := r0) (argsL := []) (rest := []) (lenOf pd_4 rfl) rfl (by show 2 * 0 + _ ≤ _; exact Nat.le_of_eq rfl) (hb hby d1_1) (fun _ _ => ⟨rfl, e0, (by decide : 0 + 0 ≤ _), (by decide : 0 + 0 ≤ _)⟩)
  dsimp only [Pt.U, Pt.locs, Pt.cells, Pt.slots] at X1 l1 y1 z1 st1 hQ1
  subst l1 y1 z1
  have X1 : Stand p l e ({ frames := 3, cells := 0, slots := 0, locals := 36 } : Room) s m #[(.ref r0)] below meth c T1 _ 0 0 := X1
  obtain ⟨rfl, N1q, K1q, P1_0, P1_1, P1_2, P1_3⟩ := hQ1
  have N1 := Fr.app N0 N1q
  have K1 : Keep h0 T1.heap [r0] := (Keep.refl h0 [r0]).trans K1q (allS (Or.inl (List.mem_of_getElem? (i := 0) rfl)) all0)
  have O1 : Old Z n0 T1.heap := O0.keep K1q (allS g_r0 all0)
  refine OFin.tr st1 ?_
  show OFin p e below _ _ T1 (mkF m 4 #[.val (.ref r0)] [])
  refine OFin.st (fun t k => XS.aloadN X1.here hx rfl (hb hby d1_4) rfl rfl k) ?_
  show OFin p e below _ _ T1 (mkF m 5 #[.val (.ref r0)] [(.ref r0)])
  obtain ⟨T2, X2, e2, st2⟩ := getS2 X1 hx hZ hown (host := "") (Or.inl (hw _ (List.mem_of_getElem? (i := 25) rfl))) Via.refl rfl (S_DEFAULTCAPACITY_EMPTY_ELEMENTDATA.ext O1.2) (g := (mkF m 5 #[.val (.ref r0)] [(.ref r0)])) rfl (hb hby d1_5)
  refine OFin.st st2 ?_
  show OFin p e below _ _ T2 (mkF m 8 #[.val (.ref r0)] [(.ref w_DEFAULTCAPACITY_EMPTY_ELEMENTDATA), (.ref r0)])
  obtain ⟨T3, h3, X3, e3, W3, st3⟩ := putF X2 hx hZ hown (host := "") (Or.inl (hw _ (List.mem_of_getElem? (i := 26) rfl))) Via.refl e2 P1_1 P1_0 (Or.inl (hw _ (List.mem_of_getElem? (i := 27) rfl))) (hw _ (List.mem_of_getElem? (i := 3) rfl)) (ty := (.array (.object "java/lang/Object"))) (by decide) rfl rfl (g := (mkF m 8 #[.val (.ref r0)] [(.ref w_DEFAULTCAPACITY_EMPTY_ELEMENTDATA), (.ref r0)])) rfl rfl (hb hby d1_8)
  refine OFin.st st3 ?_
  have Fw3 := P1_1.same W3
  have N3 := Fr.snoc X3 N1 g_r0
  have K3 : Keep h0 h3 [r0] := K1.wr W3 (Or.inl (List.mem_of_getElem? (i := 0) rfl))
  have O3 : Old Z n0 h3 := O1.wr W3 g_r0
  show OFin p e below _ _ T3 (mkF m 11 #[.val (.ref r0)] [])
  have c4 := (P1_2.other W3 (Or.inr (slot_ne (Or.inl (hw _ (List.mem_of_getElem? (i := 69) rfl))) (Or.inl (hw _ (List.mem_of_getElem? (i := 27) rfl))) (by decide) (t := .int) (t' := (.array (.object "java/lang/Object"))) (by decide) (by decide))))
  have c5 := (P1_3.other W3 (Or.inr (slot_ne (Or.inl (hw _ (List.mem_of_getElem? (i := 24) rfl))) (Or.inl (hw _ (List.mem_of_getElem? (i := 27) rfl))) (by decide) (t := .int) (t' := (.array (.object "java/lang/Object"))) (by decide) (by decide))))
  exact own_retV X3 hx Bd.returns Bd.notSynchronized (hb hby d1_11) (by show Qrm1 Z r0 u1 u2 u3 w_DEFAULTCAPACITY_EMPTY_ELEMENTDATA h0 n0 _ T3.heap _; rw [e3]; exact ⟨rfl, N3, K3, (P1_0.wr W3), Fw3, c4, c5⟩) (own_endN (by decide) (by decide))
theorem ef_rm11 (m : MethodId) (p0 : Int32) (p1 : Int32) : entryFrame m #[(.int p0), (.int p1)] 2 = mkF m 0 #[.val (.int p0), .val (.int p1)] [] := by first | (simp [entryFrame, mkF, argsToLocals, Value.category]; done) | rfl
def F11 (p0 : Int32) (p1 : Int32) : Int32 := if p0 < p1 then p1 else p0
def Q11 (p0 : Int32) (p1 : Int32) (h0 : Heap) (n0 : Nat) (v : Option Value) (h : Heap) (L : List Loc) : Prop := v = some (Value.int (F11 p0 p1)) ∧ Fr n0 L ∧ h = h0
set_option maxRecDepth 65536 in
set_option maxHeartbeats 40000000 in
theorem rm11 (l : Launch) (Z : State) (a0 : Array Value) (hw : ∀ d ∈ tables_1, d.before a0 Z = true) (ws : List Jvm.Cond) (p0 : Int32) (p1 : Int32) (h0 : Heap) (n0 : Nat) (O0 : Old Z n0 h0)  :
    MetFree l (⟨"java/lang/Math", "max", "(II)I"⟩ : MethodName) (head1 (Jvm.Cond.code (⟨"java/lang/Math", "max", "(II)I"⟩ : MethodName) jdk_29_method_65_code 2 (some .int) :: ws) ({ frames := 0, cells := 0, slots := 0, locals := 0 } : Room)) (fun a U => a = #[(.int p0), (.int p1)] ∧ Z.Warmed39 U.vm ∧ U.heap = h0) (fun _ _ _ _ _ => True) (fun _ U o U' => ∃ v L, o = .returned v ∧ Q11 p0 p1 h0 n0 v U'.heap L ∧ FrameEnd U o U' L ({ frames := 0, cells := 0, slots := 0, locals := 0 } : Room).cells ({ frames := 0, cells := 0, slots := 0, locals := 0 } : Room).slots) := by
  refine MetFree.of_bodySF (Jvm.Free.JP.mathPlain rfl (by decide +kernel)) hisR ?_
  intro p e s m args below meth c s₁ Bd hml0 hP hK
  obtain ⟨rfl, hZ, hh⟩ := hP
  have hx := Bd.exec
  have hby := Bd.bytes
  have hml : c.maxLocals = 2 := hml0
  have hown : s.vm.findClass "java/lang/Math" = some m.cls := findClass_of_methodNamed Bd.named
  have hnm := (name_of_methodNamed Bd.named Bd.method).1
  have X0 : Stand p l e ({ frames := 0, cells := 0, slots := 0, locals := 0 } : Room) s m #[(.int p0), (.int p1)] below meth c s₁ [] 0 0 := Stand.of_body Bd
  have e0 : s₁.heap = h0 := by rw [← hh, Bd.state]; rfl
  have N0 := Fr.nil n0
  show OFin p e below (fun o t L => FrameEnd s o t L ({ frames := 0, cells := 0, slots := 0, locals := 0 } : Room).cells ({ frames := 0, cells := 0, slots := 0, locals := 0 } : Room).slots) (fun v h L => Q11 p0 p1 h0 n0 v h L) s₁ (entryFrame m #[(.int p0), (.int p1)] 2)
  refine OFin.cast (ef_rm11 m p0 p1) ?_
  show OFin p e below _ _ s₁ (mkF m 0 #[.val (.int p0), .val (.int p1)] [])
  refine OFin.st (fun t k => XS.iloadN X0.here hx rfl (hb hby d11_0) rfl k) ?_
  show OFin p e below _ _ s₁ (mkF m 1 #[.val (.int p0), .val (.int p1)] [(.int p0)])
  refine OFin.st (fun t k => XS.iloadN X0.here hx rfl (hb hby d11_1) rfl k) ?_
  show OFin p e below _ _ s₁ (mkF m 2 #[.val (.int p0), .val (.int p1)] [(.int p1), (.int p0)])
  by_cases hc2 : p0 < p1
  · refine OFin.st (fun t k => XS.icmpYes X0.here hx rfl (pc0 := 2) (pc' := 9) rfl (hb hby d11_2) rfl (tlt hc2).1 (by decide) (by decide) k) ?_
    show OFin p e below _ _ s₁ (mkF m 9 #[.val (.int p0), .val (.int p1)] [])
    refine OFin.st (fun t k => XS.iloadN X0.here hx rfl (hb hby d11_9) rfl k) ?_
    show OFin p e below _ _ s₁ (mkF m 10 #[.val (.int p0), .val (.int p1)] [(.int p1)])
    exact own_retI X0 hx Bd.returns Bd.notSynchronized (hb hby d11_10) ⟨(by rw [F11, if_pos hc2]; try rfl), N0, e0⟩ (own_endN (by decide) (by decide))
  · refine OFin.st (fun t k => XS.icmpNo X0.here hx rfl (hb hby d11_2) rfl (flt hc2).1 k) ?_
    show OFin p e below _ _ s₁ (mkF m 5 #[.val (.int p0), .val (.int p1)] [])
    refine OFin.st (fun t k => XS.iloadN X0.here hx rfl (hb hby d11_5) rfl k) ?_
    show OFin p e below _ _ s₁ (mkF m 6 #[.val (.int p0), .val (.int p1)] [(.int p0)])
    refine OFin.st (fun t k => XS.goto X0.here hx rfl (pc0 := 6) (pc' := 10) rfl (hb hby d11_6) (by decide) (by decide) k) ?_
    show OFin p e below _ _ s₁ (mkF m 10 #[.val (.int p0), .val (.int p1)] [(.int p0)])
    exact own_retI X0 hx Bd.returns Bd.notSynchronized (hb hby d11_10) ⟨(by rw [F11, if_neg hc2]; try rfl), N0, e0⟩ (own_endN (by decide) (by decide))
theorem ef_rm10 (m : MethodId) (r0 : Addr) (p1 : Int32) : entryFrame m #[(.ref r0), (.int p1)] 4 = mkF m 0 #[.val (.ref r0), .val (.int p1), .unset, .unset] [] := by first | (simp [entryFrame, mkF, argsToLocals, Value.category]; done) | rfl
def Qrm10 (Z : State) (r0 : Addr) (p1 : Int32) (sz : Int32) (mc : Int32) (kD : ClassId) (w_DEFAULTCAPACITY_EMPTY_ELEMENTDATA : Addr) (h0 : Heap) (n0 : Nat) (v : Option Value) (h : Heap) (L : List Loc) : Prop := ∃ (b : Addr) (kb : ClassId), v = some (Value.ref b) ∧ Fr n0 L ∧ Keep h0 h [r0] ∧ Exa Z h r0 "java/util/ArrayList" ∧ Fld Z h r0 "java/util/ArrayList" "elementData" "[Ljava/lang/Object;" (.ref b) ∧ Fld Z h r0 "java/util/ArrayList" "size" "I" (.int sz) ∧ Fld Z h r0 "java/util/AbstractList" "modCount" "I" (.int mc) ∧ Oar Z h b kb (.object "java/lang/Object") [.null, .null, .null, .null, .null, .null, .null, .null, .null, .null] ∧ Ovr Z kb "java/lang/Object" ∧ h0.size ≤ b
set_option maxRecDepth 65536 in
set_option maxHeartbeats 40000000 in
theorem rm10 (l : Launch) (Z : State) (a0 : Array Value) (hw : ∀ d ∈ tables_1, d.before a0 Z = true) (ws : List Jvm.Cond) (r0 : Addr) (p1 : Int32) (sz : Int32) (mc : Int32) (kD : ClassId) (w_DEFAULTCAPACITY_EMPTY_ELEMENTDATA : Addr) (h0 : Heap) (n0 : Nat) (O0 : Old Z n0 h0) (E_r0 : Exa Z h0 r0 "java/util/ArrayList") (F_elementData_r0 : Fld Z h0 r0 "java/util/ArrayList" "elementData" "[Ljava/lang/Object;" (.ref w_DEFAULTCAPACITY_EMPTY_ELEMENTDATA)) (F_size_r0 : Fld Z h0 r0 "java/util/ArrayList" "size" "I" (.int sz)) (F_modCount_r0 : Fld Z h0 r0 "java/util/AbstractList" "modCount" "I" (.int mc)) (g_r0 : n0 ≤ r0) (A_w_DEFAULTCAPACITY_EMPTY_ELEMENTDATA : Oar Z Z.heap w_DEFAULTCAPACITY_EMPTY_ELEMENTDATA kD (.object "java/lang/Object") []) (hp1 : p1 = (1 : Int32)) (S_DEFAULTCAPACITY_EMPTY_ELEMENTDATA : Sta Z Z.heap "java/util/ArrayList" "DEFAULTCAPACITY_EMPTY_ELEMENTDATA" "[Ljava/lang/Object;" (.ref w_DEFAULTCAPACITY_EMPTY_ELEMENTDATA)) :
    MetFree l (⟨"java/util/ArrayList", "grow", "(I)[Ljava/lang/Object;"⟩ : MethodName) (head1 (Jvm.Cond.code (⟨"java/util/ArrayList", "grow", "(I)[Ljava/lang/Object;"⟩ : MethodName) jdk_38_method_6_code 4 (some (.array (.object "java/lang/Object"))) :: ws) ({ frames := 1, cells := 1, slots := 10, locals := 14 } : Room)) (fun a U => a = #[(.ref r0), (.int p1)] ∧ Z.Warmed39 U.vm ∧ U.heap = h0) (fun _ _ _ _ _ => True) (fun _ U o U' => ∃ v L, o = .returned v ∧ Qrm10 Z r0 p1 sz mc kD w_DEFAULTCAPACITY_EMPTY_ELEMENTDATA h0 n0 v U'.heap L ∧ FrameEnd U o U' L ({ frames := 1, cells := 1, slots := 10, locals := 14 } : Room).cells ({ frames := 1, cells := 1, slots := 10, locals := 14 } : Room).slots) := by
  refine MetFree.of_bodySF (plainFor_of_name pn_java_util_ArrayList) hisR ?_
  intro p e s m args below meth c s₁ Bd hml0 hP hK
  obtain ⟨rfl, hZ, hh⟩ := hP
  have hx := Bd.exec
  have hby := Bd.bytes
  have hml : c.maxLocals = 4 := hml0
  have hown : s.vm.findClass "java/util/ArrayList" = some m.cls := findClass_of_methodNamed Bd.named
  have hnm := (name_of_methodNamed Bd.named Bd.method).1
  have X0 : Stand p l e ({ frames := 1, cells := 1, slots := 10, locals := 14 } : Room) s m #[(.ref r0), (.int p1)] below meth c s₁ [] 0 0 := Stand.of_body Bd
  have e0 : s₁.heap = h0 := by rw [← hh, Bd.state]; rfl
  have N0 := Fr.nil n0
  show OFin p e below (fun o t L => FrameEnd s o t L ({ frames := 1, cells := 1, slots := 10, locals := 14 } : Room).cells ({ frames := 1, cells := 1, slots := 10, locals := 14 } : Room).slots) (fun v h L => Qrm10 Z r0 p1 sz mc kD w_DEFAULTCAPACITY_EMPTY_ELEMENTDATA h0 n0 v h L) s₁ (entryFrame m #[(.ref r0), (.int p1)] 4)
  refine OFin.cast (ef_rm10 m r0 p1) ?_
  show OFin p e below _ _ s₁ (mkF m 0 #[.val (.ref r0), .val (.int p1), .unset, .unset] [])
  refine OFin.st (fun t k => XS.aloadN X0.here hx rfl (hb hby d10_0) rfl rfl k) ?_
  show OFin p e below _ _ s₁ (mkF m 1 #[.val (.ref r0), .val (.int p1), .unset, .unset] [(.ref r0)])
  obtain ⟨T1, X1, e1, st1⟩ := getF X0 hx hZ hown (host := "") (Or.inl (hw _ (List.mem_of_getElem? (i := 26) rfl))) Via.refl e0 F_elementData_r0 (g := (mkF m 1 #[.val (.ref r0), .val (.int p1), .unset, .unset] [(.ref r0)])) rfl rfl (hb hby d10_1)
  refine OFin.st st1 ?_
  show OFin p e below _ _ T1 (mkF m 4 #[.val (.ref r0), .val (.int p1), .unset, .unset] [(.ref w_DEFAULTCAPACITY_EMPTY_ELEMENTDATA)])
  refine own_alen X1 hx hZ e1 (A_w_DEFAULTCAPACITY_EMPTY_ELEMENTDATA.ext O0.2) (z := (0 : Int32)) (by simp only [List.length_cons, List.length_nil]; decide) (hb hby d10_4) (pc' := 5) rfl ?_
  show OFin p e below _ _ T1 (mkF m 5 #[.val (.ref r0), .val (.int p1), .unset, .unset] [(.int (0 : Int32))])
  refine OFin.st (fun t k => XS.istoreN X1.here hx rfl (hb hby d10_5) rfl (l' := #[.val (.ref r0), .val (.int p1), .val (.int (0 : Int32)), .unset]) rfl k) ?_
  show OFin p e below _ _ T1 (mkF m 6 #[.val (.ref r0), .val (.int p1), .val (.int (0 : Int32)), .unset] [])
  refine OFin.st (fun t k => XS.iloadN X1.here hx rfl (hb hby d10_6) rfl k) ?_
  show OFin p e below _ _ T1 (mkF m 7 #[.val (.ref r0), .val (.int p1), .val (.int (0 : Int32)), .unset] [(.int (0 : Int32))])
  refine OFin.st (fun t k => XS.ifNo X1.here hx rfl (hb hby d10_7) rfl ((if0 _ _).trans (flt (by decide : ¬ ((0 : Int32) < (0 : Int32)))).2.2.1) k) ?_
  show OFin p e below _ _ T1 (mkF m 10 #[.val (.ref r0), .val (.int p1), .val (.int (0 : Int32)), .unset] [])
  refine OFin.st (fun t k => XS.aloadN X1.here hx rfl (hb hby d10_10) rfl rfl k) ?_
  show OFin p e below _ _ T1 (mkF m 11 #[.val (.ref r0), .val (.int p1), .val (.int (0 : Int32)), .unset] [(.ref r0)])
  obtain ⟨T2, X2, e2, st2⟩ := getF X1 hx hZ hown (host := "") (Or.inl (hw _ (List.mem_of_getElem? (i := 26) rfl))) Via.refl e1 F_elementData_r0 (g := (mkF m 11 #[.val (.ref r0), .val (.int p1), .val (.int (0 : Int32)), .unset] [(.ref r0)])) rfl rfl (hb hby d10_11)
  refine OFin.st st2 ?_
  show OFin p e below _ _ T2 (mkF m 14 #[.val (.ref r0), .val (.int p1), .val (.int (0 : Int32)), .unset] [(.ref w_DEFAULTCAPACITY_EMPTY_ELEMENTDATA)])
  obtain ⟨T3, X3, e3, st3⟩ := getS2 X2 hx hZ hown (host := "") (Or.inl (hw _ (List.mem_of_getElem? (i := 25) rfl))) Via.refl e2 (S_DEFAULTCAPACITY_EMPTY_ELEMENTDATA.ext O0.2) (g := (mkF m 14 #[.val (.ref r0), .val (.int p1), .val (.int (0 : Int32)), .unset] [(.ref w_DEFAULTCAPACITY_EMPTY_ELEMENTDATA)])) rfl (hb hby d10_14)
  refine OFin.st st3 ?_
  show OFin p e below _ _ T3 (mkF m 17 #[.val (.ref r0), .val (.int p1), .val (.int (0 : Int32)), .unset] [(.ref w_DEFAULTCAPACITY_EMPTY_ELEMENTDATA), (.ref w_DEFAULTCAPACITY_EMPTY_ELEMENTDATA)])
  refine OFin.st (fun t k => Jvm.RoadKit.acmp (g := (mkF m 17 #[.val (.ref r0), .val (.int p1), .val (.int (0 : Int32)), .unset] [(.ref w_DEFAULTCAPACITY_EMPTY_ELEMENTDATA), (.ref w_DEFAULTCAPACITY_EMPTY_ELEMENTDATA)])) X3 hx rfl rfl rfl (pc0 := 17) (pc' := 45) (same := true) rfl (hb hby d10_17) rfl (decide_eq_true (congrArg Value.ref rfl)) (by decide) (by decide) k) ?_
  show OFin p e below _ _ T3 (mkF m 45 #[.val (.ref r0), .val (.int p1), .val (.int (0 : Int32)), .unset] [])
  refine OFin.st (fun t k => XS.aloadN X3.here hx rfl (hb hby d10_45) rfl rfl k) ?_
  show OFin p e below _ _ T3 (mkF m 46 #[.val (.ref r0), .val (.int p1), .val (.int (0 : Int32)), .unset] [(.ref r0)])
  refine OFin.st (fun t k => XS.bipush X3.here hx rfl (hb hby d10_46) k) ?_
  show OFin p e below _ _ T3 (mkF m 48 #[.val (.ref r0), .val (.int p1), .val (.int (0 : Int32)), .unset] [(.int (10 : Int32)), (.ref r0)])
  refine OFin.st (fun t k => XS.iloadN X3.here hx rfl (hb hby d10_48) rfl k) ?_
  show OFin p e below _ _ T3 (mkF m 49 #[.val (.ref r0), .val (.int p1), .val (.int (0 : Int32)), .unset] [(.int p1), (.int (10 : Int32)), (.ref r0)])
  obtain ⟨_, _, ⟨T4, L4, k4, n4⟩, -, X4, ⟨Lc4, hQ4, l4, y4, z4⟩, st4⟩ := Jvm.LawKit.callS X3 hx (y := (⟨"java/lang/Math", "max", "(II)I"⟩ : MethodName)) hown (mvT hZ (hw _ (List.mem_of_getElem? (i := 85) rfl))) (mvT hZ (hw _ (List.mem_of_getElem? (i := 86) rfl))) (mvT hZ (hw _ (List.mem_of_getElem? (i := 87) rfl))) (mvT hZ (hw _ (List.mem_of_getElem? (i := 88) rfl))) (by decide) (backOf (W := 1) (rm11 l Z a0 hw [] (10 : Int32) p1 h0 n0 O0 ) hZ (hw _ (List.mem_of_getElem? (i := 88) rfl)) (hw _ (List.mem_of_getElem? (i := 87) rfl)) (by decide) (by decide)) (g := (mkF m 49 #[.val (.ref r0), .val (.int p1), .val (.int (0 : Int32)), .unset] [(.int p1), (.int (10 : Int32)), (.ref r0)])) rfl (by rw [hml]; rfl) (argsL := [(.int (10 : Int32)), (.int p1)]) (rest := [(.ref r0)]) (lenOf pd_9 rfl) rfl (by show 2 * 0 + _ ≤ _; exact Nat.le_of_eq rfl) (hb hby d10_49) (fun _ _ => ⟨rfl, e3, (by decide : 0 + 0 ≤ _), (by decide : 0 + 0 ≤ _)⟩)
  dsimp only [Pt.U, Pt.locs, Pt.cells, Pt.slots] at X4 l4 y4 z4 st4 hQ4
  subst l4 y4 z4
  have X4 : Stand p l e ({ frames := 1, cells := 1, slots := 10, locals := 14 } : Room) s m #[(.ref r0), (.int p1)] below meth c T4 _ 0 0 := X4
  obtain ⟨rfl, N4q, e4⟩ := hQ4
  have N4 := Fr.app N0 N4q
  refine OFin.st st4 ?_
  show OFin p e below _ _ T4 (mkF m 52 #[.val (.ref r0), .val (.int p1), .val (.int (0 : Int32)), .unset] [(.int (F11 (10 : Int32) p1)), (.ref r0)])
  obtain ⟨T5, h5, k5, X5, e5, E5, A5, EA5, Ov5, st5⟩ := own_newR X4 hx hZ hown (hw _ (List.mem_of_getElem? (i := 89) rfl)) (hw _ (List.mem_of_getElem? (i := 90) rfl)) e4 (z := (F11 (10 : Int32) p1)) (n := 10) (cap := 10) (by rw [hp1]; decide) (by decide) (by decide) (by decide) (by decide) (ad := "[Ljava/lang/Object;") (by decide +kernel) (pc := 52) (Ls := #[.val (.ref r0), .val (.int p1), .val (.int (0 : Int32)), .unset]) (rest := [(.ref r0)]) (hb hby d10_52)
  obtain ⟨b5, gz_b5⟩ : ∃ z, z = h0.size := ⟨_, rfl⟩
  rw [← gz_b5] at A5 EA5 st5
  have N_r0_b5 : r0 ≠ b5 := Nat.ne_of_lt (Nat.lt_of_lt_of_le E_r0.lt (Nat.le_of_eq gz_b5.symm))
  have g_b5 : n0 ≤ b5 := Nat.le_trans (Nat.le_trans (Nat.le_of_eq O0.1.symm) O0.2.1) (Nat.le_of_eq gz_b5.symm)
  have sz_b5 : h0.size ≤ b5 := Nat.le_trans (Keep.refl h0 [r0]).1 (Nat.le_of_eq gz_b5.symm)
  have K5 : Keep h0 h5 [r0] := (Keep.refl h0 [r0]).ext E5
  have O5 : Old Z n0 h5 := O0.ext E5
  have V5 : Oar Z h5 b5 k5 (.object "java/lang/Object") [.null, .null, .null, .null, .null, .null, .null, .null, .null, .null] := A5
  refine OFin.st st5 ?_
  show OFin p e below _ _ T5 (mkF m 55 #[.val (.ref r0), .val (.int p1), .val (.int (0 : Int32)), .unset] [(.ref b5), (.ref r0)])
  refine OFin.st (fun t k => XS.dupX1 X5.here hx rfl (hb hby d10_55) rfl rfl rfl k) ?_
  show OFin p e below _ _ T5 (mkF m 56 #[.val (.ref r0), .val (.int p1), .val (.int (0 : Int32)), .unset] [(.ref b5), (.ref r0), (.ref b5)])
  obtain ⟨T6, h6, X6, e6, W6, st6⟩ := putF X5 hx hZ hown (host := "") (Or.inl (hw _ (List.mem_of_getElem? (i := 26) rfl))) Via.refl e5 (F_elementData_r0.ext E5) (E_r0.ext E5) (Or.inl (hw _ (List.mem_of_getElem? (i := 27) rfl))) (hw _ (List.mem_of_getElem? (i := 3) rfl)) (ty := (.array (.object "java/lang/Object"))) (by decide) rfl rfl (g := (mkF m 56 #[.val (.ref r0), .val (.int p1), .val (.int (0 : Int32)), .unset] [(.ref b5), (.ref r0), (.ref b5)])) rfl rfl (hb hby d10_56)
  refine OFin.st st6 ?_
  have Fw6 := (F_elementData_r0.ext E5).same W6
  have N6 := Fr.snoc X6 N4 g_r0
  have K6 : Keep h0 h6 [r0] := K5.wr W6 (Or.inl (List.mem_of_getElem? (i := 0) rfl))
  have O6 : Old Z n0 h6 := O5.wr W6 g_r0
  show OFin p e below _ _ T6 (mkF m 59 #[.val (.ref r0), .val (.int p1), .val (.int (0 : Int32)), .unset] [(.ref b5)])
  have c7 := ((F_size_r0.ext E5).other W6 (Or.inr (slot_ne (Or.inl (hw _ (List.mem_of_getElem? (i := 69) rfl))) (Or.inl (hw _ (List.mem_of_getElem? (i := 27) rfl))) (by decide) (t := .int) (t' := (.array (.object "java/lang/Object"))) (by decide) (by decide))))
  have c8 := ((F_modCount_r0.ext E5).other W6 (Or.inr (slot_ne (Or.inl (hw _ (List.mem_of_getElem? (i := 24) rfl))) (Or.inl (hw _ (List.mem_of_getElem? (i := 27) rfl))) (by decide) (t := .int) (t' := (.array (.object "java/lang/Object"))) (by decide) (by decide))))
  exact own_retR X6 hx Bd.returns Bd.notSynchronized rfl rfl rfl (hb hby d10_59) (by show Qrm10 Z r0 p1 sz mc kD w_DEFAULTCAPACITY_EMPTY_ELEMENTDATA h0 n0 _ T6.heap _; rw [e6]; exact ⟨b5, k5, rfl, N6, K6, ((E_r0.ext E5).wr W6), Fw6, c7, c8, (V5.other W6 (Ne.symm N_r0_b5)), Ov5, sz_b5⟩) (own_endN (by decide) (by decide))
theorem ef_rm9 (m : MethodId) (r0 : Addr) : entryFrame m #[(.ref r0)] 1 = mkF m 0 #[.val (.ref r0)] [] := by first | (simp [entryFrame, mkF, argsToLocals, Value.category]; done) | rfl
def Qrm9 (Z : State) (r0 : Addr) (sz : Int32) (mc : Int32) (kD : ClassId) (w_DEFAULTCAPACITY_EMPTY_ELEMENTDATA : Addr) (h0 : Heap) (n0 : Nat) (v : Option Value) (h : Heap) (L : List Loc) : Prop := ∃ (b : Addr) (kb : ClassId), v = some (Value.ref b) ∧ Fr n0 L ∧ Keep h0 h [r0] ∧ Exa Z h r0 "java/util/ArrayList" ∧ Fld Z h r0 "java/util/ArrayList" "elementData" "[Ljava/lang/Object;" (.ref b) ∧ Fld Z h r0 "java/util/ArrayList" "size" "I" (.int sz) ∧ Fld Z h r0 "java/util/AbstractList" "modCount" "I" (.int mc) ∧ Oar Z h b kb (.object "java/lang/Object") [.null, .null, .null, .null, .null, .null, .null, .null, .null, .null] ∧ Ovr Z kb "java/lang/Object" ∧ h0.size ≤ b
set_option maxRecDepth 65536 in
set_option maxHeartbeats 40000000 in
theorem rm9 (l : Launch) (Z : State) (a0 : Array Value) (hw : ∀ d ∈ tables_1, d.before a0 Z = true) (ws : List Jvm.Cond) (r0 : Addr) (sz : Int32) (mc : Int32) (kD : ClassId) (w_DEFAULTCAPACITY_EMPTY_ELEMENTDATA : Addr) (h0 : Heap) (n0 : Nat) (O0 : Old Z n0 h0) (E_r0 : Exa Z h0 r0 "java/util/ArrayList") (F_elementData_r0 : Fld Z h0 r0 "java/util/ArrayList" "elementData" "[Ljava/lang/Object;" (.ref w_DEFAULTCAPACITY_EMPTY_ELEMENTDATA)) (F_size_r0 : Fld Z h0 r0 "java/util/ArrayList" "size" "I" (.int sz)) (F_modCount_r0 : Fld Z h0 r0 "java/util/AbstractList" "modCount" "I" (.int mc)) (g_r0 : n0 ≤ r0) (A_w_DEFAULTCAPACITY_EMPTY_ELEMENTDATA : Oar Z Z.heap w_DEFAULTCAPACITY_EMPTY_ELEMENTDATA kD (.object "java/lang/Object") []) (hz0 : sz = (0 : Int32)) (S_DEFAULTCAPACITY_EMPTY_ELEMENTDATA : Sta Z Z.heap "java/util/ArrayList" "DEFAULTCAPACITY_EMPTY_ELEMENTDATA" "[Ljava/lang/Object;" (.ref w_DEFAULTCAPACITY_EMPTY_ELEMENTDATA)) :
    MetFree l (⟨"java/util/ArrayList", "grow", "()[Ljava/lang/Object;"⟩ : MethodName) (head1 (Jvm.Cond.code (⟨"java/util/ArrayList", "grow", "()[Ljava/lang/Object;"⟩ : MethodName) jdk_38_method_7_code 1 (some (.array (.object "java/lang/Object"))) :: ws) ({ frames := 2, cells := 1, slots := 10, locals := 29 } : Room)) (fun a U => a = #[(.ref r0)] ∧ Z.Warmed39 U.vm ∧ U.heap = h0) (fun _ _ _ _ _ => True) (fun _ U o U' => ∃ v L, o = .returned v ∧ Qrm9 Z r0 sz mc kD w_DEFAULTCAPACITY_EMPTY_ELEMENTDATA h0 n0 v U'.heap L ∧ FrameEnd U o U' L ({ frames := 2, cells := 1, slots := 10, locals := 29 } : Room).cells ({ frames := 2, cells := 1, slots := 10, locals := 29 } : Room).slots) := by
  refine MetFree.of_bodySF (plainFor_of_name pn_java_util_ArrayList) hisR ?_
  intro p e s m args below meth c s₁ Bd hml0 hP hK
  obtain ⟨rfl, hZ, hh⟩ := hP
  have hx := Bd.exec
  have hby := Bd.bytes
  have hml : c.maxLocals = 1 := hml0
  have hown : s.vm.findClass "java/util/ArrayList" = some m.cls := findClass_of_methodNamed Bd.named
  have hnm := (name_of_methodNamed Bd.named Bd.method).1
  have X0 : Stand p l e ({ frames := 2, cells := 1, slots := 10, locals := 29 } : Room) s m #[(.ref r0)] below meth c s₁ [] 0 0 := Stand.of_body Bd
  have e0 : s₁.heap = h0 := by rw [← hh, Bd.state]; rfl
  have N0 := Fr.nil n0
  show OFin p e below (fun o t L => FrameEnd s o t L ({ frames := 2, cells := 1, slots := 10, locals := 29 } : Room).cells ({ frames := 2, cells := 1, slots := 10, locals := 29 } : Room).slots) (fun v h L => Qrm9 Z r0 sz mc kD w_DEFAULTCAPACITY_EMPTY_ELEMENTDATA h0 n0 v h L) s₁ (entryFrame m #[(.ref r0)] 1)
  refine OFin.cast (ef_rm9 m r0) ?_
  show OFin p e below _ _ s₁ (mkF m 0 #[.val (.ref r0)] [])
  refine OFin.st (fun t k => XS.aloadN X0.here hx rfl (hb hby d9_0) rfl rfl k) ?_
  show OFin p e below _ _ s₁ (mkF m 1 #[.val (.ref r0)] [(.ref r0)])
  refine OFin.st (fun t k => XS.aloadN X0.here hx rfl (hb hby d9_1) rfl rfl k) ?_
  show OFin p e below _ _ s₁ (mkF m 2 #[.val (.ref r0)] [(.ref r0), (.ref r0)])
  obtain ⟨T1, X1, e1, st1⟩ := getF X0 hx hZ hown (host := "") (Or.inl (hw _ (List.mem_of_getElem? (i := 68) rfl))) Via.refl e0 F_size_r0 (g := (mkF m 2 #[.val (.ref r0)] [(.ref r0), (.ref r0)])) rfl rfl (hb hby d9_2)
  refine OFin.st st1 ?_
  show OFin p e below _ _ T1 (mkF m 5 #[.val (.ref r0)] [(.int sz), (.ref r0)])
  refine OFin.st (fun t k => XS.iconst X1.here hx rfl (hb hby d9_5) k) ?_
  show OFin p e below _ _ T1 (mkF m 6 #[.val (.ref r0)] [(.int (1 : Int32)), (.int sz), (.ref r0)])
  refine OFin.st (fun t k => XS.iadd X1.here hx rfl (hb hby d9_6) rfl k) ?_
  show OFin p e below _ _ T1 (mkF m 7 #[.val (.ref r0)] [(.int (sz + (1 : Int32))), (.ref r0)])
  obtain ⟨cq2, q2, q2'⟩ := E_r0.cell
  obtain ⟨_, _, ⟨T2, L2, k2, n2⟩, -, X2, ⟨Lc2, hQ2, l2, y2, z2⟩, st2⟩ := X1.privateBack hx (y := (⟨"java/util/ArrayList", "grow", "(I)[Ljava/lang/Object;"⟩ : MethodName)) hown (mvT hZ (hw _ (List.mem_of_getElem? (i := 80) rfl))) (mvT hZ (hw _ (List.mem_of_getElem? (i := 81) rfl))) (mvT hZ (hw _ (List.mem_of_getElem? (i := 83) rfl))) (Cond.privateMethod_at (mvP hZ (hw _ (List.mem_of_getElem? (i := 82) rfl)) (args := #[]))) (mvT hZ (hw _ (List.mem_of_getElem? (i := 84) rfl))) (by decide) (backOf (W := 0) (rm10 l Z a0 hw [] r0 (sz + (1 : Int32)) sz mc kD w_DEFAULTCAPACITY_EMPTY_ELEMENTDATA h0 n0 O0 E_r0 F_elementData_r0 F_size_r0 F_modCount_r0 g_r0 A_w_DEFAULTCAPACITY_EMPTY_ELEMENTDATA (by rw [hz0]; decide) S_DEFAULTCAPACITY_EMPTY_ELEMENTDATA) hZ (hw _ (List.mem_of_getElem? (i := 84) rfl)) (hw _ (List.mem_of_getElem? (i := 4) rfl)) (by decide) (by decide)) (g := (mkF m 7 #[.val (.ref r0)] [(.int (sz + (1 : Int32))), (.ref r0)])) rfl (by rw [hml]; rfl) (Steps.refl _) (a := r0) (by rw [e1]; exact q2) q2' (argsL := [(.int (sz + (1 : Int32)))]) (rest := []) (lenOf pd_8 rfl) rfl (by show 2 * 0 + _ ≤ _; exact Nat.le_of_eq rfl) (hb hby d9_7) (fun _ _ => ⟨rfl, e1, (by decide : 0 + 1 ≤ _), (by decide : 0 + 10 ≤ _)⟩)
  dsimp only [Pt.U, Pt.locs, Pt.cells, Pt.slots] at X2 l2 y2 z2 st2 hQ2
  subst l2 y2 z2
  have X2 : Stand p l e ({ frames := 2, cells := 1, slots := 10, locals := 29 } : Room) s m #[(.ref r0)] below meth c T2 _ 1 10 := X2
  obtain ⟨b2, kb2, rfl, N2q, K2q, P2_0, P2_1, P2_2, P2_3, P2_4, P2_5, P2_6⟩ := hQ2
  have N2 := Fr.app N0 N2q
  have K2 : Keep h0 T2.heap [r0] := (Keep.refl h0 [r0]).trans K2q (allS (Or.inl (List.mem_of_getElem? (i := 0) rfl)) all0)
  have O2 : Old Z n0 T2.heap := O0.keep K2q (allS g_r0 all0)
  have N_r0_b2 : r0 ≠ b2 := Nat.ne_of_lt (Nat.lt_of_lt_of_le E_r0.lt P2_6)
  have g_b2 : n0 ≤ b2 := Nat.le_trans (Nat.le_trans (Nat.le_of_eq O0.1.symm) O0.2.1) P2_6
  have sz_b2 : h0.size ≤ b2 := Nat.le_trans (Keep.refl h0 [r0]).1 P2_6
  refine OFin.tr st2 ?_
  show OFin p e below _ _ T2 (mkF m 10 #[.val (.ref r0)] [(.ref b2)])
  exact own_retR X2 hx Bd.returns Bd.notSynchronized rfl rfl rfl (hb hby d9_10) (by show Qrm9 Z r0 sz mc kD w_DEFAULTCAPACITY_EMPTY_ELEMENTDATA h0 n0 _ T2.heap _; exact ⟨b2, kb2, rfl, N2, K2, P2_0, P2_1, P2_2, P2_3, P2_4, P2_5, sz_b2⟩) (own_endN (by decide) (by decide))
theorem ef_rm8 (m : MethodId) (r0 : Addr) (r1 : Addr) (w_DEFAULTCAPACITY_EMPTY_ELEMENTDATA : Addr) : entryFrame m #[(.ref r0), (.ref r1), (.ref w_DEFAULTCAPACITY_EMPTY_ELEMENTDATA), (.int (0 : Int32))] 4 = mkF m 0 #[.val (.ref r0), .val (.ref r1), .val (.ref w_DEFAULTCAPACITY_EMPTY_ELEMENTDATA), .val (.int (0 : Int32))] [] := by first | (simp [entryFrame, mkF, argsToLocals, Value.category]; done) | rfl
def Qrm8 (Z : State) (r0 : Addr) (r1 : Addr) (w_DEFAULTCAPACITY_EMPTY_ELEMENTDATA : Addr) (mc : Int32) (kD : ClassId) (h0 : Heap) (n0 : Nat) (v : Option Value) (h : Heap) (L : List Loc) : Prop := ∃ (b : Addr) (kb : ClassId), v = none ∧ Fr n0 L ∧ Keep h0 h [r0] ∧ Exa Z h r0 "java/util/ArrayList" ∧ Fld Z h r0 "java/util/ArrayList" "elementData" "[Ljava/lang/Object;" (.ref b) ∧ Fld Z h r0 "java/util/ArrayList" "size" "I" (.int ((0 : Int32) + (1 : Int32))) ∧ Fld Z h r0 "java/util/AbstractList" "modCount" "I" (.int mc) ∧ Oar Z h b kb (.object "java/lang/Object") [(.ref r1), .null, .null, .null, .null, .null, .null, .null, .null, .null] ∧ Ovr Z kb "java/lang/Object" ∧ h0.size ≤ b ∧ Exa Z h r1 "com/example/verdikt/verdikt/model/Variable"
set_option maxRecDepth 65536 in
set_option maxHeartbeats 40000000 in
theorem rm8 (l : Launch) (Z : State) (a0 : Array Value) (hw : ∀ d ∈ tables_1, d.before a0 Z = true) (ws : List Jvm.Cond) (r0 : Addr) (r1 : Addr) (w_DEFAULTCAPACITY_EMPTY_ELEMENTDATA : Addr) (mc : Int32) (kD : ClassId) (h0 : Heap) (n0 : Nat) (O0 : Old Z n0 h0) (E_r0 : Exa Z h0 r0 "java/util/ArrayList") (F_elementData_r0 : Fld Z h0 r0 "java/util/ArrayList" "elementData" "[Ljava/lang/Object;" (.ref w_DEFAULTCAPACITY_EMPTY_ELEMENTDATA)) (F_size_r0 : Fld Z h0 r0 "java/util/ArrayList" "size" "I" (.int (0 : Int32))) (F_modCount_r0 : Fld Z h0 r0 "java/util/AbstractList" "modCount" "I" (.int mc)) (g_r0 : n0 ≤ r0) (E_r1 : Exa Z h0 r1 "com/example/verdikt/verdikt/model/Variable") (N_r1_r0 : r1 ≠ r0) (A_w_DEFAULTCAPACITY_EMPTY_ELEMENTDATA : Oar Z Z.heap w_DEFAULTCAPACITY_EMPTY_ELEMENTDATA kD (.object "java/lang/Object") []) (S_DEFAULTCAPACITY_EMPTY_ELEMENTDATA : Sta Z Z.heap "java/util/ArrayList" "DEFAULTCAPACITY_EMPTY_ELEMENTDATA" "[Ljava/lang/Object;" (.ref w_DEFAULTCAPACITY_EMPTY_ELEMENTDATA)) :
    MetFree l (⟨"java/util/ArrayList", "add", "(Ljava/lang/Object;[Ljava/lang/Object;I)V"⟩ : MethodName) (head1 (Jvm.Cond.code (⟨"java/util/ArrayList", "add", "(Ljava/lang/Object;[Ljava/lang/Object;I)V"⟩ : MethodName) jdk_38_method_24_code 4 none :: ws) ({ frames := 3, cells := 1, slots := 10, locals := 41 } : Room)) (fun a U => a = #[(.ref r0), (.ref r1), (.ref w_DEFAULTCAPACITY_EMPTY_ELEMENTDATA), (.int (0 : Int32))] ∧ Z.Warmed39 U.vm ∧ U.heap = h0) (fun _ _ _ _ _ => True) (fun _ U o U' => ∃ v L, o = .returned v ∧ Qrm8 Z r0 r1 w_DEFAULTCAPACITY_EMPTY_ELEMENTDATA mc kD h0 n0 v U'.heap L ∧ FrameEnd U o U' L ({ frames := 3, cells := 1, slots := 10, locals := 41 } : Room).cells ({ frames := 3, cells := 1, slots := 10, locals := 41 } : Room).slots) := by
  refine MetFree.of_bodySF (plainFor_of_name pn_java_util_ArrayList) hisR ?_
  intro p e s m args below meth c s₁ Bd hml0 hP hK
  obtain ⟨rfl, hZ, hh⟩ := hP
  have hx := Bd.exec
  have hby := Bd.bytes
  have hml : c.maxLocals = 4 := hml0
  have hown : s.vm.findClass "java/util/ArrayList" = some m.cls := findClass_of_methodNamed Bd.named
  have hnm := (name_of_methodNamed Bd.named Bd.method).1
  have X0 : Stand p l e ({ frames := 3, cells := 1, slots := 10, locals := 41 } : Room) s m #[(.ref r0), (.ref r1), (.ref w_DEFAULTCAPACITY_EMPTY_ELEMENTDATA), (.int (0 : Int32))] below meth c s₁ [] 0 0 := Stand.of_body Bd
  have e0 : s₁.heap = h0 := by rw [← hh, Bd.state]; rfl
  have N0 := Fr.nil n0
  show OFin p e below (fun o t L => FrameEnd s o t L ({ frames := 3, cells := 1, slots := 10, locals := 41 } : Room).cells ({ frames := 3, cells := 1, slots := 10, locals := 41 } : Room).slots) (fun v h L => Qrm8 Z r0 r1 w_DEFAULTCAPACITY_EMPTY_ELEMENTDATA mc kD h0 n0 v h L) s₁ (entryFrame m #[(.ref r0), (.ref r1), (.ref w_DEFAULTCAPACITY_EMPTY_ELEMENTDATA), (.int (0 : Int32))] 4)
  refine OFin.cast (ef_rm8 m r0 r1 w_DEFAULTCAPACITY_EMPTY_ELEMENTDATA) ?_
  show OFin p e below _ _ s₁ (mkF m 0 #[.val (.ref r0), .val (.ref r1), .val (.ref w_DEFAULTCAPACITY_EMPTY_ELEMENTDATA), .val (.int (0 : Int32))] [])
  refine OFin.st (fun t k => XS.iloadN X0.here hx rfl (hb hby d8_0) rfl k) ?_
  show OFin p e below _ _ s₁ (mkF m 1 #[.val (.ref r0), .val (.ref r1), .val (.ref w_DEFAULTCAPACITY_EMPTY_ELEMENTDATA), .val (.int (0 : Int32))] [(.int (0 : Int32))])
  refine OFin.st (fun t k => XS.aloadN X0.here hx rfl (hb hby d8_1) rfl rfl k) ?_
  show OFin p e below _ _ s₁ (mkF m 2 #[.val (.ref r0), .val (.ref r1), .val (.ref w_DEFAULTCAPACITY_EMPTY_ELEMENTDATA), .val (.int (0 : Int32))] [(.ref w_DEFAULTCAPACITY_EMPTY_ELEMENTDATA), (.int (0 : Int32))])
  refine own_alen X0 hx hZ e0 (A_w_DEFAULTCAPACITY_EMPTY_ELEMENTDATA.ext O0.2) (z := (0 : Int32)) (by simp only [List.length_cons, List.length_nil]; decide) (hb hby d8_2) (pc' := 3) rfl ?_
  show OFin p e below _ _ s₁ (mkF m 3 #[.val (.ref r0), .val (.ref r1), .val (.ref w_DEFAULTCAPACITY_EMPTY_ELEMENTDATA), .val (.int (0 : Int32))] [(.int (0 : Int32)), (.int (0 : Int32))])
  refine OFin.st (fun t k => XS.icmpNo X0.here hx rfl (hb hby d8_3) rfl (teq (by decide : (0 : Int32) = (0 : Int32))).2 k) ?_
  show OFin p e below _ _ s₁ (mkF m 6 #[.val (.ref r0), .val (.ref r1), .val (.ref w_DEFAULTCAPACITY_EMPTY_ELEMENTDATA), .val (.int (0 : Int32))] [])
  refine OFin.st (fun t k => XS.aloadN X0.here hx rfl (hb hby d8_6) rfl rfl k) ?_
  show OFin p e below _ _ s₁ (mkF m 7 #[.val (.ref r0), .val (.ref r1), .val (.ref w_DEFAULTCAPACITY_EMPTY_ELEMENTDATA), .val (.int (0 : Int32))] [(.ref r0)])
  obtain ⟨cq1, q1, q1'⟩ := E_r0.cell
  obtain ⟨_, _, ⟨T1, L1, k1, n1⟩, -, X1, ⟨Lc1, hQ1, l1, y1, z1⟩, st1⟩ := X0.privateBack hx (y := (⟨"java/util/ArrayList", "grow", "()[Ljava/lang/Object;"⟩ : MethodName)) hown (mvT hZ (hw _ (List.mem_of_getElem? (i := 75) rfl))) (mvT hZ (hw _ (List.mem_of_getElem? (i := 76) rfl))) (mvT hZ (hw _ (List.mem_of_getElem? (i := 78) rfl))) (Cond.privateMethod_at (mvP hZ (hw _ (List.mem_of_getElem? (i := 77) rfl)) (args := #[]))) (mvT hZ (hw _ (List.mem_of_getElem? (i := 79) rfl))) (by decide) (backOf (W := 0) (rm9 l Z a0 hw [] r0 (0 : Int32) mc kD w_DEFAULTCAPACITY_EMPTY_ELEMENTDATA h0 n0 O0 E_r0 F_elementData_r0 F_size_r0 F_modCount_r0 g_r0 A_w_DEFAULTCAPACITY_EMPTY_ELEMENTDATA (by first | assumption | decide | omega) S_DEFAULTCAPACITY_EMPTY_ELEMENTDATA) hZ (hw _ (List.mem_of_getElem? (i := 79) rfl)) (hw _ (List.mem_of_getElem? (i := 4) rfl)) (by decide) (by decide)) (g := (mkF m 7 #[.val (.ref r0), .val (.ref r1), .val (.ref w_DEFAULTCAPACITY_EMPTY_ELEMENTDATA), .val (.int (0 : Int32))] [(.ref r0)])) rfl (by rw [hml]; rfl) (Steps.refl _) (a := r0) (by rw [e0]; exact q1) q1' (argsL := []) (rest := []) (lenOf pd_6 rfl) rfl (by show 2 * 0 + _ ≤ _; exact Nat.le_of_eq rfl) (hb hby d8_7) (fun _ _ => ⟨rfl, e0, (by decide : 0 + 1 ≤ _), (by decide : 0 + 10 ≤ _)⟩)
  dsimp only [Pt.U, Pt.locs, Pt.cells, Pt.slots] at X1 l1 y1 z1 st1 hQ1
  subst l1 y1 z1
  have X1 : Stand p l e ({ frames := 3, cells := 1, slots := 10, locals := 41 } : Room) s m #[(.ref r0), (.ref r1), (.ref w_DEFAULTCAPACITY_EMPTY_ELEMENTDATA), (.int (0 : Int32))] below meth c T1 _ 1 10 := X1
  obtain ⟨b1, kb1, rfl, N1q, K1q, P1_0, P1_1, P1_2, P1_3, P1_4, P1_5, P1_6⟩ := hQ1
  have N1 := Fr.app N0 N1q
  have K1 : Keep h0 T1.heap [r0] := (Keep.refl h0 [r0]).trans K1q (allS (Or.inl (List.mem_of_getElem? (i := 0) rfl)) all0)
  have O1 : Old Z n0 T1.heap := O0.keep K1q (allS g_r0 all0)
  have N_r0_b1 : r0 ≠ b1 := Nat.ne_of_lt (Nat.lt_of_lt_of_le E_r0.lt P1_6)
  have N_r1_b1 : r1 ≠ b1 := Nat.ne_of_lt (Nat.lt_of_lt_of_le E_r1.lt P1_6)
  have g_b1 : n0 ≤ b1 := Nat.le_trans (Nat.le_trans (Nat.le_of_eq O0.1.symm) O0.2.1) P1_6
  have sz_b1 : h0.size ≤ b1 := Nat.le_trans (Keep.refl h0 [r0]).1 P1_6
  refine OFin.tr st1 ?_
  show OFin p e below _ _ T1 (mkF m 10 #[.val (.ref r0), .val (.ref r1), .val (.ref w_DEFAULTCAPACITY_EMPTY_ELEMENTDATA), .val (.int (0 : Int32))] [(.ref b1)])
  refine OFin.st (fun t k => XS.astoreN X1.here hx rfl (hb hby d8_10) rfl rfl (l' := #[.val (.ref r0), .val (.ref r1), .val (.ref b1), .val (.int (0 : Int32))]) rfl k) ?_
  show OFin p e below _ _ T1 (mkF m 11 #[.val (.ref r0), .val (.ref r1), .val (.ref b1), .val (.int (0 : Int32))] [])
  refine OFin.st (fun t k => XS.aloadN X1.here hx rfl (hb hby d8_11) rfl rfl k) ?_
  show OFin p e below _ _ T1 (mkF m 12 #[.val (.ref r0), .val (.ref r1), .val (.ref b1), .val (.int (0 : Int32))] [(.ref b1)])
  refine OFin.st (fun t k => XS.iloadN X1.here hx rfl (hb hby d8_12) rfl k) ?_
  show OFin p e below _ _ T1 (mkF m 13 #[.val (.ref r0), .val (.ref r1), .val (.ref b1), .val (.int (0 : Int32))] [(.int (0 : Int32)), (.ref b1)])
  refine OFin.st (fun t k => XS.aloadN X1.here hx rfl (hb hby d8_13) rfl rfl k) ?_
  show OFin p e below _ _ T1 (mkF m 14 #[.val (.ref r0), .val (.ref r1), .val (.ref b1), .val (.int (0 : Int32))] [(.ref r1), (.int (0 : Int32)), (.ref b1)])
  obtain ⟨T2, h2, X2, e2, W2, V2, st2⟩ := own_aastore X1 hx hZ rfl P1_4 rfl (i := 0) (j := (0 : Int32)) (by decide) (by show 0 < 10; decide) (own_sto P1_4 P1_5 (Ins.of_exa (E_r1.keep K1q) (hw _ (List.mem_of_getElem? (i := 91) rfl)))) (pc := 14) (Ls := #[.val (.ref r0), .val (.ref r1), .val (.ref b1), .val (.int (0 : Int32))]) (rest := []) (hb hby d8_14)
  have N2 := Fr.snoc X2 N1 g_b1
  have K2 : Keep h0 h2 [r0] := K1.wr W2 (Or.inr sz_b1)
  have O2 : Old Z n0 h2 := O1.wr W2 g_b1
  have Vw2 : Oar Z h2 b1 kb1 (.object "java/lang/Object") [(.ref r1), .null, .null, .null, .null, .null, .null, .null, .null, .null] := V2
  refine OFin.st st2 ?_
  show OFin p e below _ _ T2 (mkF m 15 #[.val (.ref r0), .val (.ref r1), .val (.ref b1), .val (.int (0 : Int32))] [])
  refine OFin.st (fun t k => XS.aloadN X2.here hx rfl (hb hby d8_15) rfl rfl k) ?_
  show OFin p e below _ _ T2 (mkF m 16 #[.val (.ref r0), .val (.ref r1), .val (.ref b1), .val (.int (0 : Int32))] [(.ref r0)])
  refine OFin.st (fun t k => XS.iloadN X2.here hx rfl (hb hby d8_16) rfl k) ?_
  show OFin p e below _ _ T2 (mkF m 17 #[.val (.ref r0), .val (.ref r1), .val (.ref b1), .val (.int (0 : Int32))] [(.int (0 : Int32)), (.ref r0)])
  refine OFin.st (fun t k => XS.iconst X2.here hx rfl (hb hby d8_17) k) ?_
  show OFin p e below _ _ T2 (mkF m 18 #[.val (.ref r0), .val (.ref r1), .val (.ref b1), .val (.int (0 : Int32))] [(.int (1 : Int32)), (.int (0 : Int32)), (.ref r0)])
  refine OFin.st (fun t k => XS.iadd X2.here hx rfl (hb hby d8_18) rfl k) ?_
  show OFin p e below _ _ T2 (mkF m 19 #[.val (.ref r0), .val (.ref r1), .val (.ref b1), .val (.int (0 : Int32))] [(.int ((0 : Int32) + (1 : Int32))), (.ref r0)])
  obtain ⟨T3, h3, X3, e3, W3, st3⟩ := putF X2 hx hZ hown (host := "") (Or.inl (hw _ (List.mem_of_getElem? (i := 68) rfl))) Via.refl e2 (P1_2.other W2 (Or.inl N_r0_b1)) (P1_0.wr W2) (Or.inl (hw _ (List.mem_of_getElem? (i := 69) rfl))) (hw _ (List.mem_of_getElem? (i := 3) rfl)) (ty := .int) (by decide) rfl rfl (g := (mkF m 19 #[.val (.ref r0), .val (.ref r1), .val (.ref b1), .val (.int (0 : Int32))] [(.int ((0 : Int32) + (1 : Int32))), (.ref r0)])) rfl rfl (hb hby d8_19)
  refine OFin.st st3 ?_
  have Fw3 := (P1_2.other W2 (Or.inl N_r0_b1)).same W3
  have N3 := Fr.snoc X3 N2 g_r0
  have K3 : Keep h0 h3 [r0] := K2.wr W3 (Or.inl (List.mem_of_getElem? (i := 0) rfl))
  have O3 : Old Z n0 h3 := O2.wr W3 g_r0
  show OFin p e below _ _ T3 (mkF m 22 #[.val (.ref r0), .val (.ref r1), .val (.ref b1), .val (.int (0 : Int32))] [])
  have c4 := ((P1_1.other W2 (Or.inl N_r0_b1)).other W3 (Or.inr (slot_ne (Or.inl (hw _ (List.mem_of_getElem? (i := 27) rfl))) (Or.inl (hw _ (List.mem_of_getElem? (i := 69) rfl))) (by decide) (t := (.array (.object "java/lang/Object"))) (t' := .int) (by decide) (by decide))))
  have c5 := ((P1_3.other W2 (Or.inl N_r0_b1)).other W3 (Or.inr (slot_ne (Or.inl (hw _ (List.mem_of_getElem? (i := 24) rfl))) (Or.inl (hw _ (List.mem_of_getElem? (i := 69) rfl))) (by decide) (t := .int) (t' := .int) (by decide) (by decide))))
  exact own_retV X3 hx Bd.returns Bd.notSynchronized (hb hby d8_22) (by show Qrm8 Z r0 r1 w_DEFAULTCAPACITY_EMPTY_ELEMENTDATA mc kD h0 n0 _ T3.heap _; rw [e3]; exact ⟨b1, kb1, rfl, N3, K3, ((P1_0.wr W2).wr W3), c4, Fw3, c5, (Vw2.other W3 (Ne.symm N_r0_b1)), P1_5, sz_b1, (((E_r1.keep K1q).wr W2).wr W3)⟩) (own_endN (by decide) (by decide))
theorem ef_rm7 (m : MethodId) (r0 : Addr) (r1 : Addr) : entryFrame m #[(.ref r0), (.ref r1)] 2 = mkF m 0 #[.val (.ref r0), .val (.ref r1)] [] := by first | (simp [entryFrame, mkF, argsToLocals, Value.category]; done) | rfl
def Qrm7 (Z : State) (r0 : Addr) (r1 : Addr) (mc : Int32) (kD : ClassId) (w_DEFAULTCAPACITY_EMPTY_ELEMENTDATA : Addr) (h0 : Heap) (n0 : Nat) (v : Option Value) (h : Heap) (L : List Loc) : Prop := ∃ (b : Addr) (kb : ClassId), v = some (Value.int (1 : Int32)) ∧ Fr n0 L ∧ Keep h0 h [r0] ∧ Exa Z h r0 "java/util/ArrayList" ∧ Fld Z h r0 "java/util/ArrayList" "elementData" "[Ljava/lang/Object;" (.ref b) ∧ Fld Z h r0 "java/util/ArrayList" "size" "I" (.int ((0 : Int32) + (1 : Int32))) ∧ Fld Z h r0 "java/util/AbstractList" "modCount" "I" (.int (mc + (1 : Int32))) ∧ Oar Z h b kb (.object "java/lang/Object") [(.ref r1), .null, .null, .null, .null, .null, .null, .null, .null, .null] ∧ Ovr Z kb "java/lang/Object" ∧ h0.size ≤ b ∧ Exa Z h r1 "com/example/verdikt/verdikt/model/Variable"
set_option maxRecDepth 65536 in
set_option maxHeartbeats 40000000 in
theorem rm7 (l : Launch) (Z : State) (a0 : Array Value) (hw : ∀ d ∈ tables_1, d.before a0 Z = true) (ws : List Jvm.Cond) (r0 : Addr) (r1 : Addr) (mc : Int32) (kD : ClassId) (w_DEFAULTCAPACITY_EMPTY_ELEMENTDATA : Addr) (h0 : Heap) (n0 : Nat) (O0 : Old Z n0 h0) (E_r0 : Exa Z h0 r0 "java/util/ArrayList") (F_elementData_r0 : Fld Z h0 r0 "java/util/ArrayList" "elementData" "[Ljava/lang/Object;" (.ref w_DEFAULTCAPACITY_EMPTY_ELEMENTDATA)) (F_size_r0 : Fld Z h0 r0 "java/util/ArrayList" "size" "I" (.int (0 : Int32))) (F_modCount_r0 : Fld Z h0 r0 "java/util/AbstractList" "modCount" "I" (.int mc)) (g_r0 : n0 ≤ r0) (E_r1 : Exa Z h0 r1 "com/example/verdikt/verdikt/model/Variable") (N_r1_r0 : r1 ≠ r0) (A_w_DEFAULTCAPACITY_EMPTY_ELEMENTDATA : Oar Z Z.heap w_DEFAULTCAPACITY_EMPTY_ELEMENTDATA kD (.object "java/lang/Object") []) (S_DEFAULTCAPACITY_EMPTY_ELEMENTDATA : Sta Z Z.heap "java/util/ArrayList" "DEFAULTCAPACITY_EMPTY_ELEMENTDATA" "[Ljava/lang/Object;" (.ref w_DEFAULTCAPACITY_EMPTY_ELEMENTDATA)) :
    MetFree l (⟨"java/util/ArrayList", "add", "(Ljava/lang/Object;)Z"⟩ : MethodName) (head1 (Jvm.Cond.code (⟨"java/util/ArrayList", "add", "(Ljava/lang/Object;)Z"⟩ : MethodName) jdk_38_method_25_code 2 (some .boolean) :: ws) ({ frames := 4, cells := 1, slots := 10, locals := 56 } : Room)) (fun a U => a = #[(.ref r0), (.ref r1)] ∧ Z.Warmed39 U.vm ∧ U.heap = h0) (fun _ _ _ _ _ => True) (fun _ U o U' => ∃ v L, o = .returned v ∧ Qrm7 Z r0 r1 mc kD w_DEFAULTCAPACITY_EMPTY_ELEMENTDATA h0 n0 v U'.heap L ∧ FrameEnd U o U' L ({ frames := 4, cells := 1, slots := 10, locals := 56 } : Room).cells ({ frames := 4, cells := 1, slots := 10, locals := 56 } : Room).slots) := by
  refine MetFree.of_bodySF (plainFor_of_name pn_java_util_ArrayList) hisR ?_
  intro p e s m args below meth c s₁ Bd hml0 hP hK
  obtain ⟨rfl, hZ, hh⟩ := hP
  have hx := Bd.exec
  have hby := Bd.bytes
  have hml : c.maxLocals = 2 := hml0
  have hown : s.vm.findClass "java/util/ArrayList" = some m.cls := findClass_of_methodNamed Bd.named
  have hnm := (name_of_methodNamed Bd.named Bd.method).1
  have X0 : Stand p l e ({ frames := 4, cells := 1, slots := 10, locals := 56 } : Room) s m #[(.ref r0), (.ref r1)] below meth c s₁ [] 0 0 := Stand.of_body Bd
  have e0 : s₁.heap = h0 := by rw [← hh, Bd.state]; rfl
  have N0 := Fr.nil n0
  show OFin p e below (fun o t L => FrameEnd s o t L ({ frames := 4, cells := 1, slots := 10, locals := 56 } : Room).cells ({ frames := 4, cells := 1, slots := 10, locals := 56 } : Room).slots) (fun v h L => Qrm7 Z r0 r1 mc kD w_DEFAULTCAPACITY_EMPTY_ELEMENTDATA h0 n0 v h L) s₁ (entryFrame m #[(.ref r0), (.ref r1)] 2)
  refine OFin.cast (ef_rm7 m r0 r1) ?_
  show OFin p e below _ _ s₁ (mkF m 0 #[.val (.ref r0), .val (.ref r1)] [])
  refine OFin.st (fun t k => XS.aloadN X0.here hx rfl (hb hby d7_0) rfl rfl k) ?_
  show OFin p e below _ _ s₁ (mkF m 1 #[.val (.ref r0), .val (.ref r1)] [(.ref r0)])
  refine OFin.st (fun t k => XS.dup X0.here hx rfl (hb hby d7_1) rfl rfl k) ?_
  show OFin p e below _ _ s₁ (mkF m 2 #[.val (.ref r0), .val (.ref r1)] [(.ref r0), (.ref r0)])
  obtain ⟨T1, X1, e1, st1⟩ := getF X0 hx hZ hown (host := "") (Or.inl (hw _ (List.mem_of_getElem? (i := 66) rfl))) (Via.of (hw _ (List.mem_of_getElem? (i := 67) rfl))) e0 F_modCount_r0 (g := (mkF m 2 #[.val (.ref r0), .val (.ref r1)] [(.ref r0), (.ref r0)])) rfl rfl (hb hby d7_2)
  refine OFin.st st1 ?_
  show OFin p e below _ _ T1 (mkF m 5 #[.val (.ref r0), .val (.ref r1)] [(.int mc), (.ref r0)])
  refine OFin.st (fun t k => XS.iconst X1.here hx rfl (hb hby d7_5) k) ?_
  show OFin p e below _ _ T1 (mkF m 6 #[.val (.ref r0), .val (.ref r1)] [(.int (1 : Int32)), (.int mc), (.ref r0)])
  refine OFin.st (fun t k => XS.iadd X1.here hx rfl (hb hby d7_6) rfl k) ?_
  show OFin p e below _ _ T1 (mkF m 7 #[.val (.ref r0), .val (.ref r1)] [(.int (mc + (1 : Int32))), (.ref r0)])
  obtain ⟨T2, h2, X2, e2, W2, st2⟩ := putF X1 hx hZ hown (host := "") (Or.inl (hw _ (List.mem_of_getElem? (i := 66) rfl))) (Via.of (hw _ (List.mem_of_getElem? (i := 67) rfl))) e1 F_modCount_r0 E_r0 (Or.inl (hw _ (List.mem_of_getElem? (i := 24) rfl))) (hw _ (List.mem_of_getElem? (i := 3) rfl)) (ty := .int) (by decide) rfl rfl (g := (mkF m 7 #[.val (.ref r0), .val (.ref r1)] [(.int (mc + (1 : Int32))), (.ref r0)])) rfl rfl (hb hby d7_7)
  refine OFin.st st2 ?_
  have Fw2 := F_modCount_r0.same W2
  have N2 := Fr.snoc X2 N0 g_r0
  have K2 : Keep h0 h2 [r0] := (Keep.refl h0 [r0]).wr W2 (Or.inl (List.mem_of_getElem? (i := 0) rfl))
  have O2 : Old Z n0 h2 := O0.wr W2 g_r0
  show OFin p e below _ _ T2 (mkF m 10 #[.val (.ref r0), .val (.ref r1)] [])
  refine OFin.st (fun t k => XS.aloadN X2.here hx rfl (hb hby d7_10) rfl rfl k) ?_
  show OFin p e below _ _ T2 (mkF m 11 #[.val (.ref r0), .val (.ref r1)] [(.ref r0)])
  refine OFin.st (fun t k => XS.aloadN X2.here hx rfl (hb hby d7_11) rfl rfl k) ?_
  show OFin p e below _ _ T2 (mkF m 12 #[.val (.ref r0), .val (.ref r1)] [(.ref r1), (.ref r0)])
  refine OFin.st (fun t k => XS.aloadN X2.here hx rfl (hb hby d7_12) rfl rfl k) ?_
  show OFin p e below _ _ T2 (mkF m 13 #[.val (.ref r0), .val (.ref r1)] [(.ref r0), (.ref r1), (.ref r0)])
  have c3 := (F_elementData_r0.other W2 (Or.inr (slot_ne (Or.inl (hw _ (List.mem_of_getElem? (i := 27) rfl))) (Or.inl (hw _ (List.mem_of_getElem? (i := 24) rfl))) (by decide) (t := (.array (.object "java/lang/Object"))) (t' := .int) (by decide) (by decide))))
  obtain ⟨T4, X4, e4, st4⟩ := getF X2 hx hZ hown (host := "") (Or.inl (hw _ (List.mem_of_getElem? (i := 26) rfl))) Via.refl e2 c3 (g := (mkF m 13 #[.val (.ref r0), .val (.ref r1)] [(.ref r0), (.ref r1), (.ref r0)])) rfl rfl (hb hby d7_13)
  refine OFin.st st4 ?_
  show OFin p e below _ _ T4 (mkF m 16 #[.val (.ref r0), .val (.ref r1)] [(.ref w_DEFAULTCAPACITY_EMPTY_ELEMENTDATA), (.ref r1), (.ref r0)])
  refine OFin.st (fun t k => XS.aloadN X4.here hx rfl (hb hby d7_16) rfl rfl k) ?_
  show OFin p e below _ _ T4 (mkF m 17 #[.val (.ref r0), .val (.ref r1)] [(.ref r0), (.ref w_DEFAULTCAPACITY_EMPTY_ELEMENTDATA), (.ref r1), (.ref r0)])
  have c5 := (F_size_r0.other W2 (Or.inr (slot_ne (Or.inl (hw _ (List.mem_of_getElem? (i := 69) rfl))) (Or.inl (hw _ (List.mem_of_getElem? (i := 24) rfl))) (by decide) (t := .int) (t' := .int) (by decide) (by decide))))
  obtain ⟨T6, X6, e6, st6⟩ := getF X4 hx hZ hown (host := "") (Or.inl (hw _ (List.mem_of_getElem? (i := 68) rfl))) Via.refl e4 c5 (g := (mkF m 17 #[.val (.ref r0), .val (.ref r1)] [(.ref r0), (.ref w_DEFAULTCAPACITY_EMPTY_ELEMENTDATA), (.ref r1), (.ref r0)])) rfl rfl (hb hby d7_17)
  refine OFin.st st6 ?_
  show OFin p e below _ _ T6 (mkF m 20 #[.val (.ref r0), .val (.ref r1)] [(.int (0 : Int32)), (.ref w_DEFAULTCAPACITY_EMPTY_ELEMENTDATA), (.ref r1), (.ref r0)])
  obtain ⟨cq7, q7, q7'⟩ := (E_r0.wr W2).cell
  obtain ⟨_, _, ⟨T7, L7, k7, n7⟩, -, X7, ⟨Lc7, hQ7, l7, y7, z7⟩, st7⟩ := X6.privateBack hx (y := (⟨"java/util/ArrayList", "add", "(Ljava/lang/Object;[Ljava/lang/Object;I)V"⟩ : MethodName)) hown (mvT hZ (hw _ (List.mem_of_getElem? (i := 70) rfl))) (mvT hZ (hw _ (List.mem_of_getElem? (i := 71) rfl))) (mvT hZ (hw _ (List.mem_of_getElem? (i := 73) rfl))) (Cond.privateMethod_at (mvP hZ (hw _ (List.mem_of_getElem? (i := 72) rfl)) (args := #[]))) (mvT hZ (hw _ (List.mem_of_getElem? (i := 74) rfl))) (by decide) (backOf (W := 0) (rm8 l Z a0 hw [] r0 r1 w_DEFAULTCAPACITY_EMPTY_ELEMENTDATA (mc + (1 : Int32)) kD h2 n0 O2 (E_r0.wr W2) c3 c5 Fw2 g_r0 (E_r1.wr W2) N_r1_r0 A_w_DEFAULTCAPACITY_EMPTY_ELEMENTDATA S_DEFAULTCAPACITY_EMPTY_ELEMENTDATA) hZ (hw _ (List.mem_of_getElem? (i := 74) rfl)) (hw _ (List.mem_of_getElem? (i := 4) rfl)) (by decide) (by decide)) (g := (mkF m 20 #[.val (.ref r0), .val (.ref r1)] [(.int (0 : Int32)), (.ref w_DEFAULTCAPACITY_EMPTY_ELEMENTDATA), (.ref r1), (.ref r0)])) rfl (by rw [hml]; rfl) (Steps.refl _) (a := r0) (by rw [e6]; exact q7) q7' (argsL := [(.ref r1), (.ref w_DEFAULTCAPACITY_EMPTY_ELEMENTDATA), (.int (0 : Int32))]) (rest := []) (lenOf pd_17 rfl) rfl (by show 2 * 0 + _ ≤ _; exact Nat.le_of_eq rfl) (hb hby d7_20) (fun _ _ => ⟨rfl, e6, (by decide : 0 + 1 ≤ _), (by decide : 0 + 10 ≤ _)⟩)
  dsimp only [Pt.U, Pt.locs, Pt.cells, Pt.slots] at X7 l7 y7 z7 st7 hQ7
  subst l7 y7 z7
  have X7 : Stand p l e ({ frames := 4, cells := 1, slots := 10, locals := 56 } : Room) s m #[(.ref r0), (.ref r1)] below meth c T7 _ 1 10 := X7
  obtain ⟨b7, kb7, rfl, N7q, K7q, P7_0, P7_1, P7_2, P7_3, P7_4, P7_5, P7_6, P7_7⟩ := hQ7
  have N7 := Fr.app N2 N7q
  have K7 : Keep h0 T7.heap [r0] := K2.trans K7q (allS (Or.inl (List.mem_of_getElem? (i := 0) rfl)) all0)
  have O7 : Old Z n0 T7.heap := O2.keep K7q (allS g_r0 all0)
  have N_r0_b7 : r0 ≠ b7 := Nat.ne_of_lt (Nat.lt_of_lt_of_le (E_r0.wr W2).lt P7_6)
  have N_r1_b7 : r1 ≠ b7 := Nat.ne_of_lt (Nat.lt_of_lt_of_le (E_r1.wr W2).lt P7_6)
  have g_b7 : n0 ≤ b7 := Nat.le_trans (Nat.le_trans (Nat.le_of_eq O2.1.symm) O2.2.1) P7_6
  have sz_b7 : h0.size ≤ b7 := Nat.le_trans K2.1 P7_6
  refine OFin.tr st7 ?_
  show OFin p e below _ _ T7 (mkF m 23 #[.val (.ref r0), .val (.ref r1)] [])
  refine OFin.st (fun t k => XS.iconst X7.here hx rfl (hb hby d7_23) k) ?_
  show OFin p e below _ _ T7 (mkF m 24 #[.val (.ref r0), .val (.ref r1)] [(.int (1 : Int32))])
  exact own_retN X7 hx Bd.returns Bd.notSynchronized (t := .boolean) (by simp) rfl (hb hby d7_24) (by show Qrm7 Z r0 r1 mc kD w_DEFAULTCAPACITY_EMPTY_ELEMENTDATA h0 n0 _ T7.heap _; exact ⟨b7, kb7, rfl, N7, K7, P7_0, P7_1, P7_2, P7_3, P7_4, P7_5, sz_b7, P7_7⟩) (own_endN (by decide) (by decide))
theorem ef_rm6 (m : MethodId) (r0 : Addr) : entryFrame m #[(.ref r0)] 1 = mkF m 0 #[.val (.ref r0)] [] := by first | (simp [entryFrame, mkF, argsToLocals, Value.category]; done) | rfl
def Q6 (r0 : Addr) (h0 : Heap) (n0 : Nat) (v : Option Value) (h : Heap) (L : List Loc) : Prop := v = none ∧ Fr n0 L ∧ h = h0
set_option maxRecDepth 65536 in
set_option maxHeartbeats 40000000 in
theorem rm6 (l : Launch) (Z : State) (a0 : Array Value) (hw : ∀ d ∈ tables_1, d.before a0 Z = true) (ws : List Jvm.Cond) (r0 : Addr) (h0 : Heap) (n0 : Nat) (O0 : Old Z n0 h0)  :
    MetFree l (⟨"java/lang/Record", "<init>", "()V"⟩ : MethodName) (head1 (Jvm.Cond.code (⟨"java/lang/Record", "<init>", "()V"⟩ : MethodName) jdk_30_method_1_code 1 none :: ws) ({ frames := 1, cells := 0, slots := 0, locals := 12 } : Room)) (fun a U => a = #[(.ref r0)] ∧ Z.Warmed39 U.vm ∧ U.heap = h0) (fun _ _ _ _ _ => True) (fun _ U o U' => ∃ v L, o = .returned v ∧ Q6 r0 h0 n0 v U'.heap L ∧ FrameEnd U o U' L ({ frames := 1, cells := 0, slots := 0, locals := 12 } : Room).cells ({ frames := 1, cells := 0, slots := 0, locals := 12 } : Room).slots) := by
  refine MetFree.of_bodySF (plainFor_of_name pn_java_lang_Record) hisR ?_
  intro p e s m args below meth c s₁ Bd hml0 hP hK
  obtain ⟨rfl, hZ, hh⟩ := hP
  have hx := Bd.exec
  have hby := Bd.bytes
  have hml : c.maxLocals = 1 := hml0
  have hown : s.vm.findClass "java/lang/Record" = some m.cls := findClass_of_methodNamed Bd.named
  have hnm := (name_of_methodNamed Bd.named Bd.method).1
  have X0 : Stand p l e ({ frames := 1, cells := 0, slots := 0, locals := 12 } : Room) s m #[(.ref r0)] below meth c s₁ [] 0 0 := Stand.of_body Bd
  have e0 : s₁.heap = h0 := by rw [← hh, Bd.state]; rfl
  have N0 := Fr.nil n0
  show OFin p e below (fun o t L => FrameEnd s o t L ({ frames := 1, cells := 0, slots := 0, locals := 12 } : Room).cells ({ frames := 1, cells := 0, slots := 0, locals := 12 } : Room).slots) (fun v h L => Q6 r0 h0 n0 v h L) s₁ (entryFrame m #[(.ref r0)] 1)
  refine OFin.cast (ef_rm6 m r0) ?_
  show OFin p e below _ _ s₁ (mkF m 0 #[.val (.ref r0)] [])
  refine OFin.st (fun t k => XS.aloadN X0.here hx rfl (hb hby d6_0) rfl rfl k) ?_
  show OFin p e below _ _ s₁ (mkF m 1 #[.val (.ref r0)] [(.ref r0)])
  obtain ⟨T1, X1, e1, st1⟩ := initO X0 hx hZ hown (hw _ (List.mem_of_getElem? (i := 50) rfl)) (hw _ (List.mem_of_getElem? (i := 21) rfl)) (hw _ (List.mem_of_getElem? (i := 22) rfl)) e0 (g := (mkF m 1 #[.val (.ref r0)] [(.ref r0)])) rfl (by rw [hml]; rfl) rfl (hb hby d6_1) (by decide) (W := 0) (by show 2 * 0 + _ ≤ _; exact Nat.le_of_eq rfl) (by decide)
  refine OFin.st st1 ?_
  show OFin p e below _ _ T1 (mkF m 4 #[.val (.ref r0)] [])
  exact own_retV X1 hx Bd.returns Bd.notSynchronized (hb hby d6_4) ⟨rfl, N0, e1⟩ (own_endN (by decide) (by decide))
theorem ef_rm5 (m : MethodId) (r0 : Addr) (r1 : Addr) (r3 : Addr) (q4 : Int64) (p5 : Int32) : entryFrame m #[(.ref r0), (.ref r1), .null, (.ref r3), (.long q4), (.int p5)] 7 = mkF m 0 #[.val (.ref r0), .val (.ref r1), .val .null, .val (.ref r3), .val (.long q4), .second, .val (.int p5)] [] := by first | (simp [entryFrame, mkF, argsToLocals, Value.category]; done) | rfl
def Qrm5 (Z : State) (r0 : Addr) (r1 : Addr) (r3 : Addr) (q4 : Int64) (p5 : Int32) (u1 : Value) (u2 : Value) (u3 : Value) (u4 : Value) (u5 : Value) (h0 : Heap) (n0 : Nat) (v : Option Value) (h : Heap) (L : List Loc) : Prop := v = none ∧ Fr n0 L ∧ Keep h0 h [r0] ∧ Exa Z h r0 "com/example/verdikt/verdikt/model/Variable" ∧ Fld Z h r0 "com/example/verdikt/verdikt/model/Variable" "type" "Lcom/example/verdikt/verdikt/model/ElementaryType;" (.ref r3) ∧ Fld Z h r0 "com/example/verdikt/verdikt/model/Variable" "index" "I" (.int p5)
set_option maxRecDepth 65536 in
set_option maxHeartbeats 40000000 in
theorem rm5 (l : Launch) (Z : State) (a0 : Array Value) (hw : ∀ d ∈ tables_1, d.before a0 Z = true) (ws : List Jvm.Cond) (r0 : Addr) (r1 : Addr) (r3 : Addr) (q4 : Int64) (p5 : Int32) (u1 : Value) (u2 : Value) (u3 : Value) (u4 : Value) (u5 : Value) (h0 : Heap) (n0 : Nat) (O0 : Old Z n0 h0) (E_r0 : Exa Z h0 r0 "com/example/verdikt/verdikt/model/Variable") (F_type_r0 : Fld Z h0 r0 "com/example/verdikt/verdikt/model/Variable" "type" "Lcom/example/verdikt/verdikt/model/ElementaryType;" u1) (F_index_r0 : Fld Z h0 r0 "com/example/verdikt/verdikt/model/Variable" "index" "I" u2) (F_name_r0 : Fld Z h0 r0 "com/example/verdikt/verdikt/model/Variable" "name" "Ljava/lang/String;" u3) (F_section_r0 : Fld Z h0 r0 "com/example/verdikt/verdikt/model/Variable" "section" "Lcom/example/verdikt/verdikt/model/Variable$Section;" u4) (F_initialValue_r0 : Fld Z h0 r0 "com/example/verdikt/verdikt/model/Variable" "initialValue" "J" u5) (g_r0 : n0 ≤ r0) :
    MetFree l (⟨"com/example/verdikt/verdikt/model/Variable", "<init>", "(Ljava/lang/String;Lcom/example/verdikt/verdikt/model/Variable$Section;Lcom/example/verdikt/verdikt/model/ElementaryType;JI)V"⟩ : MethodName) (head1 (Jvm.Cond.code (⟨"com/example/verdikt/verdikt/model/Variable", "<init>", "(Ljava/lang/String;Lcom/example/verdikt/verdikt/model/Variable$Section;Lcom/example/verdikt/verdikt/model/ElementaryType;JI)V"⟩ : MethodName) prog_108_method_1_code 7 none :: ws) ({ frames := 2, cells := 0, slots := 0, locals := 24 } : Room)) (fun a U => a = #[(.ref r0), (.ref r1), .null, (.ref r3), (.long q4), (.int p5)] ∧ Z.Warmed39 U.vm ∧ U.heap = h0) (fun _ _ _ _ _ => True) (fun _ U o U' => ∃ v L, o = .returned v ∧ Qrm5 Z r0 r1 r3 q4 p5 u1 u2 u3 u4 u5 h0 n0 v U'.heap L ∧ FrameEnd U o U' L ({ frames := 2, cells := 0, slots := 0, locals := 24 } : Room).cells ({ frames := 2, cells := 0, slots := 0, locals := 24 } : Room).slots) := by
  refine MetFree.of_bodySF (plainFor_of_name pn_com_example_verdikt_verdikt_model_Variable) hisR ?_
  intro p e s m args below meth c s₁ Bd hml0 hP hK
  obtain ⟨rfl, hZ, hh⟩ := hP
  have hx := Bd.exec
  have hby := Bd.bytes
  have hml : c.maxLocals = 7 := hml0
  have hown : s.vm.findClass "com/example/verdikt/verdikt/model/Variable" = some m.cls := findClass_of_methodNamed Bd.named
  have hnm := (name_of_methodNamed Bd.named Bd.method).1
  have X0 : Stand p l e ({ frames := 2, cells := 0, slots := 0, locals := 24 } : Room) s m #[(.ref r0), (.ref r1), .null, (.ref r3), (.long q4), (.int p5)] below meth c s₁ [] 0 0 := Stand.of_body Bd
  have e0 : s₁.heap = h0 := by rw [← hh, Bd.state]; rfl
  have N0 := Fr.nil n0
  show OFin p e below (fun o t L => FrameEnd s o t L ({ frames := 2, cells := 0, slots := 0, locals := 24 } : Room).cells ({ frames := 2, cells := 0, slots := 0, locals := 24 } : Room).slots) (fun v h L => Qrm5 Z r0 r1 r3 q4 p5 u1 u2 u3 u4 u5 h0 n0 v h L) s₁ (entryFrame m #[(.ref r0), (.ref r1), .null, (.ref r3), (.long q4), (.int p5)] 7)
  refine OFin.cast (ef_rm5 m r0 r1 r3 q4 p5) ?_
  show OFin p e below _ _ s₁ (mkF m 0 #[.val (.ref r0), .val (.ref r1), .val .null, .val (.ref r3), .val (.long q4), .second, .val (.int p5)] [])
  refine OFin.st (fun t k => XS.aloadN X0.here hx rfl (hb hby d5_0) rfl rfl k) ?_
  show OFin p e below _ _ s₁ (mkF m 1 #[.val (.ref r0), .val (.ref r1), .val .null, .val (.ref r3), .val (.long q4), .second, .val (.int p5)] [(.ref r0)])
  obtain ⟨_, _, ⟨T1, L1, k1, n1⟩, -, X1, ⟨Lc1, hQ1, l1, y1, z1⟩, st1⟩ := X0.specialBack hx (y := (⟨"java/lang/Record", "<init>", "()V"⟩ : MethodName)) rfl hown (mvT hZ (hw _ (List.mem_of_getElem? (i := 45) rfl))) (mvT hZ (hw _ (List.mem_of_getElem? (i := 46) rfl))) (mvT hZ (hw _ (List.mem_of_getElem? (i := 49) rfl))) (by decide) (backOf (W := 0) (rm6 l Z a0 hw [] r0 h0 n0 O0 ) hZ (hw _ (List.mem_of_getElem? (i := 49) rfl)) (hw _ (List.mem_of_getElem? (i := 48) rfl)) (by decide) (by decide)) (g := (mkF m 1 #[.val (.ref r0), .val (.ref r1), .val .null, .val (.ref r3), .val (.long q4), .second, .val (.int p5)] [(.ref r0)])) rfl (by rw [hml]; rfl) (Steps.refl _) (a := r0) (argsL := []) (rest := []) (lenOf pd_4 rfl) rfl (by show 2 * 0 + _ ≤ _; exact Nat.le_of_eq rfl) (hb hby d5_1) (fun _ _ => ⟨rfl, e0, (by decide : 0 + 0 ≤ _), (by decide : 0 + 0 ≤ _)⟩)
  dsimp only [Pt.U, Pt.locs, Pt.cells, Pt.slots] at X1 l1 y1 z1 st1 hQ1
  subst l1 y1 z1
  have X1 : Stand p l e ({ frames := 2, cells := 0, slots := 0, locals := 24 } : Room) s m #[(.ref r0), (.ref r1), .null, (.ref r3), (.long q4), (.int p5)] below meth c T1 _ 0 0 := X1
  obtain ⟨rfl, N1q, e1⟩ := hQ1
  have N1 := Fr.app N0 N1q
  refine OFin.tr st1 ?_
  show OFin p e below _ _ T1 (mkF m 4 #[.val (.ref r0), .val (.ref r1), .val .null, .val (.ref r3), .val (.long q4), .second, .val (.int p5)] [])
  refine OFin.st (fun t k => XS.aloadN X1.here hx rfl (hb hby d5_4) rfl rfl k) ?_
  show OFin p e below _ _ T1 (mkF m 5 #[.val (.ref r0), .val (.ref r1), .val .null, .val (.ref r3), .val (.long q4), .second, .val (.int p5)] [(.ref r0)])
  refine OFin.st (fun t k => XS.aloadN X1.here hx rfl (hb hby d5_5) rfl rfl k) ?_
  show OFin p e below _ _ T1 (mkF m 6 #[.val (.ref r0), .val (.ref r1), .val .null, .val (.ref r3), .val (.long q4), .second, .val (.int p5)] [(.ref r1), (.ref r0)])
  obtain ⟨T2, h2, X2, e2, W2, st2⟩ := putF X1 hx hZ hown (host := "") (Or.inl (hw _ (List.mem_of_getElem? (i := 51) rfl))) Via.refl e1 F_name_r0 E_r0 (Or.inr ⟨(hw _ (List.mem_of_getElem? (i := 52) rfl)), rfl, hnm⟩) (hw _ (List.mem_of_getElem? (i := 29) rfl)) (ty := (.object "java/lang/String")) (by decide) rfl rfl (g := (mkF m 6 #[.val (.ref r0), .val (.ref r1), .val .null, .val (.ref r3), .val (.long q4), .second, .val (.int p5)] [(.ref r1), (.ref r0)])) rfl rfl (hb hby d5_6)
  refine OFin.st st2 ?_
  have Fw2 := F_name_r0.same W2
  have N2 := Fr.snoc X2 N1 g_r0
  have K2 : Keep h0 h2 [r0] := (Keep.refl h0 [r0]).wr W2 (Or.inl (List.mem_of_getElem? (i := 0) rfl))
  have O2 : Old Z n0 h2 := O0.wr W2 g_r0
  show OFin p e below _ _ T2 (mkF m 9 #[.val (.ref r0), .val (.ref r1), .val .null, .val (.ref r3), .val (.long q4), .second, .val (.int p5)] [])
  refine OFin.st (fun t k => XS.aloadN X2.here hx rfl (hb hby d5_9) rfl rfl k) ?_
  show OFin p e below _ _ T2 (mkF m 10 #[.val (.ref r0), .val (.ref r1), .val .null, .val (.ref r3), .val (.long q4), .second, .val (.int p5)] [(.ref r0)])
  refine OFin.st (fun t k => XS.aloadN X2.here hx rfl (hb hby d5_10) rfl rfl k) ?_
  show OFin p e below _ _ T2 (mkF m 11 #[.val (.ref r0), .val (.ref r1), .val .null, .val (.ref r3), .val (.long q4), .second, .val (.int p5)] [.null, (.ref r0)])
  have c3 := (F_section_r0.other W2 (Or.inr (slot_ne (Or.inr (hw _ (List.mem_of_getElem? (i := 54) rfl))) (Or.inr (hw _ (List.mem_of_getElem? (i := 52) rfl))) (by decide) (t := (.object "com/example/verdikt/verdikt/model/Variable$Section")) (t' := (.object "java/lang/String")) (by decide) (by decide))))
  obtain ⟨T4, h4, X4, e4, W4, st4⟩ := putF X2 hx hZ hown (host := "") (Or.inl (hw _ (List.mem_of_getElem? (i := 53) rfl))) Via.refl e2 c3 (E_r0.wr W2) (Or.inr ⟨(hw _ (List.mem_of_getElem? (i := 54) rfl)), rfl, hnm⟩) (hw _ (List.mem_of_getElem? (i := 29) rfl)) (ty := (.object "com/example/verdikt/verdikt/model/Variable$Section")) (by decide) rfl rfl (g := (mkF m 11 #[.val (.ref r0), .val (.ref r1), .val .null, .val (.ref r3), .val (.long q4), .second, .val (.int p5)] [.null, (.ref r0)])) rfl rfl (hb hby d5_11)
  refine OFin.st st4 ?_
  have Fw4 := c3.same W4
  have N4 := Fr.snoc X4 N2 g_r0
  have K4 : Keep h0 h4 [r0] := K2.wr W4 (Or.inl (List.mem_of_getElem? (i := 0) rfl))
  have O4 : Old Z n0 h4 := O2.wr W4 g_r0
  show OFin p e below _ _ T4 (mkF m 14 #[.val (.ref r0), .val (.ref r1), .val .null, .val (.ref r3), .val (.long q4), .second, .val (.int p5)] [])
  refine OFin.st (fun t k => XS.aloadN X4.here hx rfl (hb hby d5_14) rfl rfl k) ?_
  show OFin p e below _ _ T4 (mkF m 15 #[.val (.ref r0), .val (.ref r1), .val .null, .val (.ref r3), .val (.long q4), .second, .val (.int p5)] [(.ref r0)])
  refine OFin.st (fun t k => XS.aloadN X4.here hx rfl (hb hby d5_15) rfl rfl k) ?_
  show OFin p e below _ _ T4 (mkF m 16 #[.val (.ref r0), .val (.ref r1), .val .null, .val (.ref r3), .val (.long q4), .second, .val (.int p5)] [(.ref r3), (.ref r0)])
  have c5 := ((F_type_r0.other W2 (Or.inr (slot_ne (Or.inr (hw _ (List.mem_of_getElem? (i := 56) rfl))) (Or.inr (hw _ (List.mem_of_getElem? (i := 52) rfl))) (by decide) (t := (.object "com/example/verdikt/verdikt/model/ElementaryType")) (t' := (.object "java/lang/String")) (by decide) (by decide)))).other W4 (Or.inr (slot_ne (Or.inr (hw _ (List.mem_of_getElem? (i := 56) rfl))) (Or.inr (hw _ (List.mem_of_getElem? (i := 54) rfl))) (by decide) (t := (.object "com/example/verdikt/verdikt/model/ElementaryType")) (t' := (.object "com/example/verdikt/verdikt/model/Variable$Section")) (by decide) (by decide))))
  obtain ⟨T6, h6, X6, e6, W6, st6⟩ := putF X4 hx hZ hown (host := "") (Or.inl (hw _ (List.mem_of_getElem? (i := 55) rfl))) Via.refl e4 c5 ((E_r0.wr W2).wr W4) (Or.inr ⟨(hw _ (List.mem_of_getElem? (i := 56) rfl)), rfl, hnm⟩) (hw _ (List.mem_of_getElem? (i := 29) rfl)) (ty := (.object "com/example/verdikt/verdikt/model/ElementaryType")) (by decide) rfl rfl (g := (mkF m 16 #[.val (.ref r0), .val (.ref r1), .val .null, .val (.ref r3), .val (.long q4), .second, .val (.int p5)] [(.ref r3), (.ref r0)])) rfl rfl (hb hby d5_16)
  refine OFin.st st6 ?_
  have Fw6 := c5.same W6
  have N6 := Fr.snoc X6 N4 g_r0
  have K6 : Keep h0 h6 [r0] := K4.wr W6 (Or.inl (List.mem_of_getElem? (i := 0) rfl))
  have O6 : Old Z n0 h6 := O4.wr W6 g_r0
  show OFin p e below _ _ T6 (mkF m 19 #[.val (.ref r0), .val (.ref r1), .val .null, .val (.ref r3), .val (.long q4), .second, .val (.int p5)] [])
  refine OFin.st (fun t k => XS.aloadN X6.here hx rfl (hb hby d5_19) rfl rfl k) ?_
  show OFin p e below _ _ T6 (mkF m 20 #[.val (.ref r0), .val (.ref r1), .val .null, .val (.ref r3), .val (.long q4), .second, .val (.int p5)] [(.ref r0)])
  refine OFin.st (fun t k => XS.lload X6.here hx rfl (hb hby d5_20) rfl k) ?_
  show OFin p e below _ _ T6 (mkF m 22 #[.val (.ref r0), .val (.ref r1), .val .null, .val (.ref r3), .val (.long q4), .second, .val (.int p5)] [(.long q4), (.ref r0)])
  have c7 := (((F_initialValue_r0.other W2 (Or.inr (slot_ne (Or.inr (hw _ (List.mem_of_getElem? (i := 58) rfl))) (Or.inr (hw _ (List.mem_of_getElem? (i := 52) rfl))) (by decide) (t := .long) (t' := (.object "java/lang/String")) (by decide) (by decide)))).other W4 (Or.inr (slot_ne (Or.inr (hw _ (List.mem_of_getElem? (i := 58) rfl))) (Or.inr (hw _ (List.mem_of_getElem? (i := 54) rfl))) (by decide) (t := .long) (t' := (.object "com/example/verdikt/verdikt/model/Variable$Section")) (by decide) (by decide)))).other W6 (Or.inr (slot_ne (Or.inr (hw _ (List.mem_of_getElem? (i := 58) rfl))) (Or.inr (hw _ (List.mem_of_getElem? (i := 56) rfl))) (by decide) (t := .long) (t' := (.object "com/example/verdikt/verdikt/model/ElementaryType")) (by decide) (by decide))))
  obtain ⟨T8, h8, X8, e8, W8, st8⟩ := putF X6 hx hZ hown (host := "") (Or.inl (hw _ (List.mem_of_getElem? (i := 57) rfl))) Via.refl e6 c7 (((E_r0.wr W2).wr W4).wr W6) (Or.inr ⟨(hw _ (List.mem_of_getElem? (i := 58) rfl)), rfl, hnm⟩) (hw _ (List.mem_of_getElem? (i := 29) rfl)) (ty := .long) (by decide) rfl rfl (g := (mkF m 22 #[.val (.ref r0), .val (.ref r1), .val .null, .val (.ref r3), .val (.long q4), .second, .val (.int p5)] [(.long q4), (.ref r0)])) rfl rfl (hb hby d5_22)
  refine OFin.st st8 ?_
  have Fw8 := c7.same W8
  have N8 := Fr.snoc X8 N6 g_r0
  have K8 : Keep h0 h8 [r0] := K6.wr W8 (Or.inl (List.mem_of_getElem? (i := 0) rfl))
  have O8 : Old Z n0 h8 := O6.wr W8 g_r0
  show OFin p e below _ _ T8 (mkF m 25 #[.val (.ref r0), .val (.ref r1), .val .null, .val (.ref r3), .val (.long q4), .second, .val (.int p5)] [])
  refine OFin.st (fun t k => XS.aloadN X8.here hx rfl (hb hby d5_25) rfl rfl k) ?_
  show OFin p e below _ _ T8 (mkF m 26 #[.val (.ref r0), .val (.ref r1), .val .null, .val (.ref r3), .val (.long q4), .second, .val (.int p5)] [(.ref r0)])
  refine OFin.st (fun t k => XS.iload X8.here hx rfl (hb hby d5_26) rfl k) ?_
  show OFin p e below _ _ T8 (mkF m 28 #[.val (.ref r0), .val (.ref r1), .val .null, .val (.ref r3), .val (.long q4), .second, .val (.int p5)] [(.int p5), (.ref r0)])
  have c9 := ((((F_index_r0.other W2 (Or.inr (slot_ne (Or.inr (hw _ (List.mem_of_getElem? (i := 60) rfl))) (Or.inr (hw _ (List.mem_of_getElem? (i := 52) rfl))) (by decide) (t := .int) (t' := (.object "java/lang/String")) (by decide) (by decide)))).other W4 (Or.inr (slot_ne (Or.inr (hw _ (List.mem_of_getElem? (i := 60) rfl))) (Or.inr (hw _ (List.mem_of_getElem? (i := 54) rfl))) (by decide) (t := .int) (t' := (.object "com/example/verdikt/verdikt/model/Variable$Section")) (by decide) (by decide)))).other W6 (Or.inr (slot_ne (Or.inr (hw _ (List.mem_of_getElem? (i := 60) rfl))) (Or.inr (hw _ (List.mem_of_getElem? (i := 56) rfl))) (by decide) (t := .int) (t' := (.object "com/example/verdikt/verdikt/model/ElementaryType")) (by decide) (by decide)))).other W8 (Or.inr (slot_ne (Or.inr (hw _ (List.mem_of_getElem? (i := 60) rfl))) (Or.inr (hw _ (List.mem_of_getElem? (i := 58) rfl))) (by decide) (t := .int) (t' := .long) (by decide) (by decide))))
  obtain ⟨T10, h10, X10, e10, W10, st10⟩ := putF X8 hx hZ hown (host := "") (Or.inl (hw _ (List.mem_of_getElem? (i := 59) rfl))) Via.refl e8 c9 ((((E_r0.wr W2).wr W4).wr W6).wr W8) (Or.inr ⟨(hw _ (List.mem_of_getElem? (i := 60) rfl)), rfl, hnm⟩) (hw _ (List.mem_of_getElem? (i := 29) rfl)) (ty := .int) (by decide) rfl rfl (g := (mkF m 28 #[.val (.ref r0), .val (.ref r1), .val .null, .val (.ref r3), .val (.long q4), .second, .val (.int p5)] [(.int p5), (.ref r0)])) rfl rfl (hb hby d5_28)
  refine OFin.st st10 ?_
  have Fw10 := c9.same W10
  have N10 := Fr.snoc X10 N8 g_r0
  have K10 : Keep h0 h10 [r0] := K8.wr W10 (Or.inl (List.mem_of_getElem? (i := 0) rfl))
  have O10 : Old Z n0 h10 := O8.wr W10 g_r0
  show OFin p e below _ _ T10 (mkF m 31 #[.val (.ref r0), .val (.ref r1), .val .null, .val (.ref r3), .val (.long q4), .second, .val (.int p5)] [])
  have c11 := ((Fw6.other W8 (Or.inr (slot_ne (Or.inr (hw _ (List.mem_of_getElem? (i := 56) rfl))) (Or.inr (hw _ (List.mem_of_getElem? (i := 58) rfl))) (by decide) (t := (.object "com/example/verdikt/verdikt/model/ElementaryType")) (t' := .long) (by decide) (by decide)))).other W10 (Or.inr (slot_ne (Or.inr (hw _ (List.mem_of_getElem? (i := 56) rfl))) (Or.inr (hw _ (List.mem_of_getElem? (i := 60) rfl))) (by decide) (t := (.object "com/example/verdikt/verdikt/model/ElementaryType")) (t' := .int) (by decide) (by decide))))
  exact own_retV X10 hx Bd.returns Bd.notSynchronized (hb hby d5_31) (by show Qrm5 Z r0 r1 r3 q4 p5 u1 u2 u3 u4 u5 h0 n0 _ T10.heap _; rw [e10]; exact ⟨rfl, N10, K10, (((((E_r0.wr W2).wr W4).wr W6).wr W8).wr W10), c11, Fw10⟩) (own_endN (by decide) (by decide))
theorem ef_rm18 (m : MethodId) (r0 : Addr) : entryFrame m #[(.ref r0)] 1 = mkF m 0 #[.val (.ref r0)] [] := by first | (simp [entryFrame, mkF, argsToLocals, Value.category]; done) | rfl
def F18 (r0 : Addr) (f_type_r0 : Addr) : Addr := f_type_r0
def Q18 (r0 : Addr) (f_type_r0 : Addr) (h0 : Heap) (n0 : Nat) (v : Option Value) (h : Heap) (L : List Loc) : Prop := v = some (Value.ref (F18 r0 f_type_r0)) ∧ Fr n0 L ∧ h = h0
set_option maxRecDepth 65536 in
set_option maxHeartbeats 40000000 in
theorem rm18 (l : Launch) (Z : State) (a0 : Array Value) (hw : ∀ d ∈ tables_1, d.before a0 Z = true) (ws : List Jvm.Cond) (r0 : Addr) (f_type_r0 : Addr) (h0 : Heap) (n0 : Nat) (O0 : Old Z n0 h0) (F_type_r0 : Fld Z h0 r0 "com/example/verdikt/verdikt/model/Variable" "type" "Lcom/example/verdikt/verdikt/model/ElementaryType;" (.ref f_type_r0)) :
    MetFree l (⟨"com/example/verdikt/verdikt/model/Variable", "type", "()Lcom/example/verdikt/verdikt/model/ElementaryType;"⟩ : MethodName) (head1 (Jvm.Cond.code (⟨"com/example/verdikt/verdikt/model/Variable", "type", "()Lcom/example/verdikt/verdikt/model/ElementaryType;"⟩ : MethodName) prog_108_method_7_code 1 (some (.object "com/example/verdikt/verdikt/model/ElementaryType")) :: ws) ({ frames := 0, cells := 0, slots := 0, locals := 0 } : Room)) (fun a U => a = #[(.ref r0)] ∧ Z.Warmed39 U.vm ∧ U.heap = h0) (fun _ _ _ _ _ => True) (fun _ U o U' => ∃ v L, o = .returned v ∧ Q18 r0 f_type_r0 h0 n0 v U'.heap L ∧ FrameEnd U o U' L ({ frames := 0, cells := 0, slots := 0, locals := 0 } : Room).cells ({ frames := 0, cells := 0, slots := 0, locals := 0 } : Room).slots) := by
  refine MetFree.of_bodySF (plainFor_of_name pn_com_example_verdikt_verdikt_model_Variable) hisR ?_
  intro p e s m args below meth c s₁ Bd hml0 hP hK
  obtain ⟨rfl, hZ, hh⟩ := hP
  have hx := Bd.exec
  have hby := Bd.bytes
  have hml : c.maxLocals = 1 := hml0
  have hown : s.vm.findClass "com/example/verdikt/verdikt/model/Variable" = some m.cls := findClass_of_methodNamed Bd.named
  have hnm := (name_of_methodNamed Bd.named Bd.method).1
  have X0 : Stand p l e ({ frames := 0, cells := 0, slots := 0, locals := 0 } : Room) s m #[(.ref r0)] below meth c s₁ [] 0 0 := Stand.of_body Bd
  have e0 : s₁.heap = h0 := by rw [← hh, Bd.state]; rfl
  have N0 := Fr.nil n0
  show OFin p e below (fun o t L => FrameEnd s o t L ({ frames := 0, cells := 0, slots := 0, locals := 0 } : Room).cells ({ frames := 0, cells := 0, slots := 0, locals := 0 } : Room).slots) (fun v h L => Q18 r0 f_type_r0 h0 n0 v h L) s₁ (entryFrame m #[(.ref r0)] 1)
  refine OFin.cast (ef_rm18 m r0) ?_
  show OFin p e below _ _ s₁ (mkF m 0 #[.val (.ref r0)] [])
  refine OFin.st (fun t k => XS.aloadN X0.here hx rfl (hb hby d18_0) rfl rfl k) ?_
  show OFin p e below _ _ s₁ (mkF m 1 #[.val (.ref r0)] [(.ref r0)])
  obtain ⟨T1, X1, e1, st1⟩ := getF X0 hx hZ hown (host := "") (Or.inl (hw _ (List.mem_of_getElem? (i := 55) rfl))) Via.refl e0 F_type_r0 (g := (mkF m 1 #[.val (.ref r0)] [(.ref r0)])) rfl rfl (hb hby d18_1)
  refine OFin.st st1 ?_
  show OFin p e below _ _ T1 (mkF m 4 #[.val (.ref r0)] [(.ref f_type_r0)])
  exact own_retR X1 hx Bd.returns Bd.notSynchronized rfl rfl rfl (hb hby d18_4) ⟨(by rw [F18]; try rfl), N0, e1⟩ (own_endN (by decide) (by decide))
theorem ef_rm19 (m : MethodId) (r0 : Addr) : entryFrame m #[(.ref r0)] 1 = mkF m 0 #[.val (.ref r0)] [] := by first | (simp [entryFrame, mkF, argsToLocals, Value.category]; done) | rfl
def F19 (r0 : Addr) (f_index_r0 : Int32) : Int32 := f_index_r0
def Q19 (r0 : Addr) (f_index_r0 : Int32) (h0 : Heap) (n0 : Nat) (v : Option Value) (h : Heap) (L : List Loc) : Prop := v = some (Value.int (F19 r0 f_index_r0)) ∧ Fr n0 L ∧ h = h0
set_option maxRecDepth 65536 in
set_option maxHeartbeats 40000000 in
theorem rm19 (l : Launch) (Z : State) (a0 : Array Value) (hw : ∀ d ∈ tables_1, d.before a0 Z = true) (ws : List Jvm.Cond) (r0 : Addr) (f_index_r0 : Int32) (h0 : Heap) (n0 : Nat) (O0 : Old Z n0 h0) (F_index_r0 : Fld Z h0 r0 "com/example/verdikt/verdikt/model/Variable" "index" "I" (.int f_index_r0)) :
    MetFree l (⟨"com/example/verdikt/verdikt/model/Variable", "index", "()I"⟩ : MethodName) (head1 (Jvm.Cond.code (⟨"com/example/verdikt/verdikt/model/Variable", "index", "()I"⟩ : MethodName) prog_108_method_9_code 1 (some .int) :: ws) ({ frames := 0, cells := 0, slots := 0, locals := 0 } : Room)) (fun a U => a = #[(.ref r0)] ∧ Z.Warmed39 U.vm ∧ U.heap = h0) (fun _ _ _ _ _ => True) (fun _ U o U' => ∃ v L, o = .returned v ∧ Q19 r0 f_index_r0 h0 n0 v U'.heap L ∧ FrameEnd U o U' L ({ frames := 0, cells := 0, slots := 0, locals := 0 } : Room).cells ({ frames := 0, cells := 0, slots := 0, locals := 0 } : Room).slots) := by
  refine MetFree.of_bodySF (plainFor_of_name pn_com_example_verdikt_verdikt_model_Variable) hisR ?_
  intro p e s m args below meth c s₁ Bd hml0 hP hK
  obtain ⟨rfl, hZ, hh⟩ := hP
  have hx := Bd.exec
  have hby := Bd.bytes
  have hml : c.maxLocals = 1 := hml0
  have hown : s.vm.findClass "com/example/verdikt/verdikt/model/Variable" = some m.cls := findClass_of_methodNamed Bd.named
  have hnm := (name_of_methodNamed Bd.named Bd.method).1
  have X0 : Stand p l e ({ frames := 0, cells := 0, slots := 0, locals := 0 } : Room) s m #[(.ref r0)] below meth c s₁ [] 0 0 := Stand.of_body Bd
  have e0 : s₁.heap = h0 := by rw [← hh, Bd.state]; rfl
  have N0 := Fr.nil n0
  show OFin p e below (fun o t L => FrameEnd s o t L ({ frames := 0, cells := 0, slots := 0, locals := 0 } : Room).cells ({ frames := 0, cells := 0, slots := 0, locals := 0 } : Room).slots) (fun v h L => Q19 r0 f_index_r0 h0 n0 v h L) s₁ (entryFrame m #[(.ref r0)] 1)
  refine OFin.cast (ef_rm19 m r0) ?_
  show OFin p e below _ _ s₁ (mkF m 0 #[.val (.ref r0)] [])
  refine OFin.st (fun t k => XS.aloadN X0.here hx rfl (hb hby d19_0) rfl rfl k) ?_
  show OFin p e below _ _ s₁ (mkF m 1 #[.val (.ref r0)] [(.ref r0)])
  obtain ⟨T1, X1, e1, st1⟩ := getF X0 hx hZ hown (host := "") (Or.inl (hw _ (List.mem_of_getElem? (i := 59) rfl))) Via.refl e0 F_index_r0 (g := (mkF m 1 #[.val (.ref r0)] [(.ref r0)])) rfl rfl (hb hby d19_1)
  refine OFin.st st1 ?_
  show OFin p e below _ _ T1 (mkF m 4 #[.val (.ref r0)] [(.int f_index_r0)])
  exact own_retI X1 hx Bd.returns Bd.notSynchronized (hb hby d19_4) ⟨(by rw [F19]; try rfl), N0, e1⟩ (own_endN (by decide) (by decide))
theorem ef_rm14 (m : MethodId) (r0 : Addr) (r1 : Addr) : entryFrame m #[(.ref r0), (.ref r1)] 2 = mkF m 0 #[.val (.ref r0), .val (.ref r1)] [] := by first | (simp [entryFrame, mkF, argsToLocals, Value.category]; done) | rfl
def Qrm14 (Z : State) (r0 : Addr) (r1 : Addr) (u1 : Value) (u2 : Value) (u3 : Value) (cu : Int32) (mc : Int32) (h0 : Heap) (n0 : Nat) (v : Option Value) (h : Heap) (L : List Loc) : Prop := v = none ∧ Fr n0 L ∧ Keep h0 h [r0] ∧ Exa Z h r0 "java/util/ArrayList$Itr" ∧ Fld Z h r0 "java/util/ArrayList$Itr" "this$0" "Ljava/util/ArrayList;" (.ref r1) ∧ Fld Z h r0 "java/util/ArrayList$Itr" "cursor" "I" (.int cu) ∧ Fld Z h r0 "java/util/ArrayList$Itr" "expectedModCount" "I" (.int mc) ∧ Fld Z h r0 "java/util/ArrayList$Itr" "lastRet" "I" (.int (-1 : Int32))
set_option maxRecDepth 65536 in
set_option maxHeartbeats 40000000 in
theorem rm14 (l : Launch) (Z : State) (a0 : Array Value) (hw : ∀ d ∈ tables_1, d.before a0 Z = true) (ws : List Jvm.Cond) (r0 : Addr) (r1 : Addr) (u1 : Value) (u2 : Value) (u3 : Value) (cu : Int32) (mc : Int32) (h0 : Heap) (n0 : Nat) (O0 : Old Z n0 h0) (E_r0 : Exa Z h0 r0 "java/util/ArrayList$Itr") (F_this_0_r0 : Fld Z h0 r0 "java/util/ArrayList$Itr" "this$0" "Ljava/util/ArrayList;" u1) (F_cursor_r0 : Fld Z h0 r0 "java/util/ArrayList$Itr" "cursor" "I" (.int cu)) (F_expectedModCount_r0 : Fld Z h0 r0 "java/util/ArrayList$Itr" "expectedModCount" "I" u2) (F_lastRet_r0 : Fld Z h0 r0 "java/util/ArrayList$Itr" "lastRet" "I" u3) (F_modCount_r1 : Fld Z h0 r1 "java/util/AbstractList" "modCount" "I" (.int mc)) (g_r0 : n0 ≤ r0) (N_r1_r0 : r1 ≠ r0) :
    MetFree l (⟨"java/util/ArrayList$Itr", "<init>", "(Ljava/util/ArrayList;)V"⟩ : MethodName) (head1 (Jvm.Cond.code (⟨"java/util/ArrayList$Itr", "<init>", "(Ljava/util/ArrayList;)V"⟩ : MethodName) jdk_49_method_1_code 2 none :: ws) ({ frames := 1, cells := 0, slots := 0, locals := 12 } : Room)) (fun a U => a = #[(.ref r0), (.ref r1)] ∧ Z.Warmed39 U.vm ∧ U.heap = h0) (fun _ _ _ _ _ => True) (fun _ U o U' => ∃ v L, o = .returned v ∧ Qrm14 Z r0 r1 u1 u2 u3 cu mc h0 n0 v U'.heap L ∧ FrameEnd U o U' L ({ frames := 1, cells := 0, slots := 0, locals := 12 } : Room).cells ({ frames := 1, cells := 0, slots := 0, locals := 12 } : Room).slots) := by
  refine MetFree.of_bodySF (plainFor_of_name pn_java_util_ArrayList_Itr) hisR ?_
  intro p e s m args below meth c s₁ Bd hml0 hP hK
  obtain ⟨rfl, hZ, hh⟩ := hP
  have hx := Bd.exec
  have hby := Bd.bytes
  have hml : c.maxLocals = 2 := hml0
  have hown : s.vm.findClass "java/util/ArrayList$Itr" = some m.cls := findClass_of_methodNamed Bd.named
  have hnm := (name_of_methodNamed Bd.named Bd.method).1
  have X0 : Stand p l e ({ frames := 1, cells := 0, slots := 0, locals := 12 } : Room) s m #[(.ref r0), (.ref r1)] below meth c s₁ [] 0 0 := Stand.of_body Bd
  have e0 : s₁.heap = h0 := by rw [← hh, Bd.state]; rfl
  have N0 := Fr.nil n0
  show OFin p e below (fun o t L => FrameEnd s o t L ({ frames := 1, cells := 0, slots := 0, locals := 12 } : Room).cells ({ frames := 1, cells := 0, slots := 0, locals := 12 } : Room).slots) (fun v h L => Qrm14 Z r0 r1 u1 u2 u3 cu mc h0 n0 v h L) s₁ (entryFrame m #[(.ref r0), (.ref r1)] 2)
  refine OFin.cast (ef_rm14 m r0 r1) ?_
  show OFin p e below _ _ s₁ (mkF m 0 #[.val (.ref r0), .val (.ref r1)] [])
  refine OFin.st (fun t k => XS.aloadN X0.here hx rfl (hb hby d14_0) rfl rfl k) ?_
  show OFin p e below _ _ s₁ (mkF m 1 #[.val (.ref r0), .val (.ref r1)] [(.ref r0)])
  refine OFin.st (fun t k => XS.aloadN X0.here hx rfl (hb hby d14_1) rfl rfl k) ?_
  show OFin p e below _ _ s₁ (mkF m 2 #[.val (.ref r0), .val (.ref r1)] [(.ref r1), (.ref r0)])
  obtain ⟨T1, h1, X1, e1, W1, st1⟩ := putF X0 hx hZ hown (host := "") (Or.inl (hw _ (List.mem_of_getElem? (i := 126) rfl))) Via.refl e0 F_this_0_r0 E_r0 (Or.inr ⟨(hw _ (List.mem_of_getElem? (i := 127) rfl)), rfl, hnm⟩) (hw _ (List.mem_of_getElem? (i := 120) rfl)) (ty := (.object "java/util/ArrayList")) (by decide) rfl rfl (g := (mkF m 2 #[.val (.ref r0), .val (.ref r1)] [(.ref r1), (.ref r0)])) rfl rfl (hb hby d14_2)
  refine OFin.st st1 ?_
  have Fw1 := F_this_0_r0.same W1
  have N1 := Fr.snoc X1 N0 g_r0
  have K1 : Keep h0 h1 [r0] := (Keep.refl h0 [r0]).wr W1 (Or.inl (List.mem_of_getElem? (i := 0) rfl))
  have O1 : Old Z n0 h1 := O0.wr W1 g_r0
  show OFin p e below _ _ T1 (mkF m 5 #[.val (.ref r0), .val (.ref r1)] [])
  refine OFin.st (fun t k => XS.aloadN X1.here hx rfl (hb hby d14_5) rfl rfl k) ?_
  show OFin p e below _ _ T1 (mkF m 6 #[.val (.ref r0), .val (.ref r1)] [(.ref r0)])
  obtain ⟨T2, X2, e2, st2⟩ := initO X1 hx hZ hown (hw _ (List.mem_of_getElem? (i := 128) rfl)) (hw _ (List.mem_of_getElem? (i := 21) rfl)) (hw _ (List.mem_of_getElem? (i := 22) rfl)) e1 (g := (mkF m 6 #[.val (.ref r0), .val (.ref r1)] [(.ref r0)])) rfl (by rw [hml]; rfl) rfl (hb hby d14_6) (by decide) (W := 0) (by show 2 * 0 + _ ≤ _; exact Nat.le_of_eq rfl) (by decide)
  refine OFin.st st2 ?_
  show OFin p e below _ _ T2 (mkF m 9 #[.val (.ref r0), .val (.ref r1)] [])
  refine OFin.st (fun t k => XS.aloadN X2.here hx rfl (hb hby d14_9) rfl rfl k) ?_
  show OFin p e below _ _ T2 (mkF m 10 #[.val (.ref r0), .val (.ref r1)] [(.ref r0)])
  refine OFin.st (fun t k => XS.iconst X2.here hx rfl (hb hby d14_10) k) ?_
  show OFin p e below _ _ T2 (mkF m 11 #[.val (.ref r0), .val (.ref r1)] [(.int (-1 : Int32)), (.ref r0)])
  have c3 := (F_lastRet_r0.other W1 (Or.inr (slot_ne (Or.inl (hw _ (List.mem_of_getElem? (i := 130) rfl))) (Or.inr (hw _ (List.mem_of_getElem? (i := 127) rfl))) (by decide) (t := .int) (t' := (.object "java/util/ArrayList")) (by decide) (by decide))))
  obtain ⟨T4, h4, X4, e4, W4, st4⟩ := putF X2 hx hZ hown (host := "") (Or.inl (hw _ (List.mem_of_getElem? (i := 129) rfl))) Via.refl e2 c3 (E_r0.wr W1) (Or.inl (hw _ (List.mem_of_getElem? (i := 130) rfl))) (hw _ (List.mem_of_getElem? (i := 120) rfl)) (ty := .int) (by decide) rfl rfl (g := (mkF m 11 #[.val (.ref r0), .val (.ref r1)] [(.int (-1 : Int32)), (.ref r0)])) rfl rfl (hb hby d14_11)
  refine OFin.st st4 ?_
  have Fw4 := c3.same W4
  have N4 := Fr.snoc X4 N1 g_r0
  have K4 : Keep h0 h4 [r0] := K1.wr W4 (Or.inl (List.mem_of_getElem? (i := 0) rfl))
  have O4 : Old Z n0 h4 := O1.wr W4 g_r0
  show OFin p e below _ _ T4 (mkF m 14 #[.val (.ref r0), .val (.ref r1)] [])
  refine OFin.st (fun t k => XS.aloadN X4.here hx rfl (hb hby d14_14) rfl rfl k) ?_
  show OFin p e below _ _ T4 (mkF m 15 #[.val (.ref r0), .val (.ref r1)] [(.ref r0)])
  refine OFin.st (fun t k => XS.aloadN X4.here hx rfl (hb hby d14_15) rfl rfl k) ?_
  show OFin p e below _ _ T4 (mkF m 16 #[.val (.ref r0), .val (.ref r1)] [(.ref r0), (.ref r0)])
  have c5 := (Fw1.other W4 (Or.inr (slot_ne (Or.inr (hw _ (List.mem_of_getElem? (i := 127) rfl))) (Or.inl (hw _ (List.mem_of_getElem? (i := 130) rfl))) (by decide) (t := (.object "java/util/ArrayList")) (t' := .int) (by decide) (by decide))))
  obtain ⟨T6, X6, e6, st6⟩ := getF X4 hx hZ hown (host := "") (Or.inl (hw _ (List.mem_of_getElem? (i := 126) rfl))) Via.refl e4 c5 (g := (mkF m 16 #[.val (.ref r0), .val (.ref r1)] [(.ref r0), (.ref r0)])) rfl rfl (hb hby d14_16)
  refine OFin.st st6 ?_
  show OFin p e below _ _ T6 (mkF m 19 #[.val (.ref r0), .val (.ref r1)] [(.ref r1), (.ref r0)])
  have c7 := ((F_modCount_r1.other W1 (Or.inl N_r1_r0)).other W4 (Or.inl N_r1_r0))
  obtain ⟨T8, X8, e8, st8⟩ := getF X6 hx hZ hown (host := "") (Or.inl (hw _ (List.mem_of_getElem? (i := 131) rfl))) (Via.of (hw _ (List.mem_of_getElem? (i := 67) rfl))) e6 c7 (g := (mkF m 19 #[.val (.ref r0), .val (.ref r1)] [(.ref r1), (.ref r0)])) rfl rfl (hb hby d14_19)
  refine OFin.st st8 ?_
  show OFin p e below _ _ T8 (mkF m 22 #[.val (.ref r0), .val (.ref r1)] [(.int mc), (.ref r0)])
  have c9 := ((F_expectedModCount_r0.other W1 (Or.inr (slot_ne (Or.inl (hw _ (List.mem_of_getElem? (i := 133) rfl))) (Or.inr (hw _ (List.mem_of_getElem? (i := 127) rfl))) (by decide) (t := .int) (t' := (.object "java/util/ArrayList")) (by decide) (by decide)))).other W4 (Or.inr (slot_ne (Or.inl (hw _ (List.mem_of_getElem? (i := 133) rfl))) (Or.inl (hw _ (List.mem_of_getElem? (i := 130) rfl))) (by decide) (t := .int) (t' := .int) (by decide) (by decide))))
  obtain ⟨T10, h10, X10, e10, W10, st10⟩ := putF X8 hx hZ hown (host := "") (Or.inl (hw _ (List.mem_of_getElem? (i := 132) rfl))) Via.refl e8 c9 ((E_r0.wr W1).wr W4) (Or.inl (hw _ (List.mem_of_getElem? (i := 133) rfl))) (hw _ (List.mem_of_getElem? (i := 120) rfl)) (ty := .int) (by decide) rfl rfl (g := (mkF m 22 #[.val (.ref r0), .val (.ref r1)] [(.int mc), (.ref r0)])) rfl rfl (hb hby d14_22)
  refine OFin.st st10 ?_
  have Fw10 := c9.same W10
  have N10 := Fr.snoc X10 N4 g_r0
  have K10 : Keep h0 h10 [r0] := K4.wr W10 (Or.inl (List.mem_of_getElem? (i := 0) rfl))
  have O10 : Old Z n0 h10 := O4.wr W10 g_r0
  show OFin p e below _ _ T10 (mkF m 25 #[.val (.ref r0), .val (.ref r1)] [])
  have c11 := (c5.other W10 (Or.inr (slot_ne (Or.inr (hw _ (List.mem_of_getElem? (i := 127) rfl))) (Or.inl (hw _ (List.mem_of_getElem? (i := 133) rfl))) (by decide) (t := (.object "java/util/ArrayList")) (t' := .int) (by decide) (by decide))))
  have c12 := (((F_cursor_r0.other W1 (Or.inr (slot_ne (Or.inl (hw _ (List.mem_of_getElem? (i := 144) rfl))) (Or.inr (hw _ (List.mem_of_getElem? (i := 127) rfl))) (by decide) (t := .int) (t' := (.object "java/util/ArrayList")) (by decide) (by decide)))).other W4 (Or.inr (slot_ne (Or.inl (hw _ (List.mem_of_getElem? (i := 144) rfl))) (Or.inl (hw _ (List.mem_of_getElem? (i := 130) rfl))) (by decide) (t := .int) (t' := .int) (by decide) (by decide)))).other W10 (Or.inr (slot_ne (Or.inl (hw _ (List.mem_of_getElem? (i := 144) rfl))) (Or.inl (hw _ (List.mem_of_getElem? (i := 133) rfl))) (by decide) (t := .int) (t' := .int) (by decide) (by decide))))
  have c13 := (Fw4.other W10 (Or.inr (slot_ne (Or.inl (hw _ (List.mem_of_getElem? (i := 130) rfl))) (Or.inl (hw _ (List.mem_of_getElem? (i := 133) rfl))) (by decide) (t := .int) (t' := .int) (by decide) (by decide))))
  exact own_retV X10 hx Bd.returns Bd.notSynchronized (hb hby d14_25) (by show Qrm14 Z r0 r1 u1 u2 u3 cu mc h0 n0 _ T10.heap _; rw [e10]; exact ⟨rfl, N10, K10, (((E_r0.wr W1).wr W4).wr W10), c11, c12, Fw10, c13⟩) (own_endN (by decide) (by decide))
theorem ef_rm13 (m : MethodId) (r0 : Addr) : entryFrame m #[(.ref r0)] 1 = mkF m 0 #[.val (.ref r0)] [] := by first | (simp [entryFrame, mkF, argsToLocals, Value.category]; done) | rfl
def Qrm13 (Z : State) (r0 : Addr) (mc : Int32) (h0 : Heap) (n0 : Nat) (v : Option Value) (h : Heap) (L : List Loc) : Prop := ∃ (b : Addr), v = some (Value.ref b) ∧ Fr n0 L ∧ Keep h0 h [] ∧ Exa Z h b "java/util/ArrayList$Itr" ∧ Fld Z h b "java/util/ArrayList$Itr" "this$0" "Ljava/util/ArrayList;" (.ref r0) ∧ Fld Z h b "java/util/ArrayList$Itr" "cursor" "I" (.int (0 : Int32)) ∧ Fld Z h b "java/util/ArrayList$Itr" "expectedModCount" "I" (.int mc) ∧ Fld Z h b "java/util/ArrayList$Itr" "lastRet" "I" (.int (-1 : Int32)) ∧ h0.size ≤ b
set_option maxRecDepth 65536 in
set_option maxHeartbeats 40000000 in
theorem rm13 (l : Launch) (Z : State) (a0 : Array Value) (hw : ∀ d ∈ tables_1, d.before a0 Z = true) (ws : List Jvm.Cond) (r0 : Addr) (mc : Int32) (h0 : Heap) (n0 : Nat) (O0 : Old Z n0 h0) (F_modCount_r0 : Fld Z h0 r0 "java/util/AbstractList" "modCount" "I" (.int mc)) :
    MetFree l (⟨"java/util/ArrayList", "iterator", "()Ljava/util/Iterator;"⟩ : MethodName) (head1 (Jvm.Cond.code (⟨"java/util/ArrayList", "iterator", "()Ljava/util/Iterator;"⟩ : MethodName) jdk_38_method_55_code 1 (some (.object "java/util/Iterator")) :: ws) ({ frames := 2, cells := 1, slots := 4, locals := 26 } : Room)) (fun a U => a = #[(.ref r0)] ∧ Z.Warmed39 U.vm ∧ U.heap = h0) (fun _ _ _ _ _ => True) (fun _ U o U' => ∃ v L, o = .returned v ∧ Qrm13 Z r0 mc h0 n0 v U'.heap L ∧ FrameEnd U o U' L ({ frames := 2, cells := 1, slots := 4, locals := 26 } : Room).cells ({ frames := 2, cells := 1, slots := 4, locals := 26 } : Room).slots) := by
  refine MetFree.of_bodySF (plainFor_of_name pn_java_util_ArrayList) hisR ?_
  intro p e s m args below meth c s₁ Bd hml0 hP hK
  obtain ⟨rfl, hZ, hh⟩ := hP
  have hx := Bd.exec
  have hby := Bd.bytes
  have hml : c.maxLocals = 1 := hml0
  have hown : s.vm.findClass "java/util/ArrayList" = some m.cls := findClass_of_methodNamed Bd.named
  have hnm := (name_of_methodNamed Bd.named Bd.method).1
  have X0 : Stand p l e ({ frames := 2, cells := 1, slots := 4, locals := 26 } : Room) s m #[(.ref r0)] below meth c s₁ [] 0 0 := Stand.of_body Bd
  have e0 : s₁.heap = h0 := by rw [← hh, Bd.state]; rfl
  have N0 := Fr.nil n0
  show OFin p e below (fun o t L => FrameEnd s o t L ({ frames := 2, cells := 1, slots := 4, locals := 26 } : Room).cells ({ frames := 2, cells := 1, slots := 4, locals := 26 } : Room).slots) (fun v h L => Qrm13 Z r0 mc h0 n0 v h L) s₁ (entryFrame m #[(.ref r0)] 1)
  refine OFin.cast (ef_rm13 m r0) ?_
  show OFin p e below _ _ s₁ (mkF m 0 #[.val (.ref r0)] [])
  obtain ⟨T1, h1, X1, e1, E1, A1, D1, -, st1⟩ := newO X0 hx hZ hown (hw _ (List.mem_of_getElem? (i := 119) rfl)) (hw _ (List.mem_of_getElem? (i := 120) rfl)) (hw _ (List.mem_of_getElem? (i := 121) rfl)) e0 (g := (mkF m 0 #[.val (.ref r0)] [])) rfl (hb hby d13_0) (by decide) (by decide)
  obtain ⟨b1, gz_b1⟩ : ∃ z, z = h0.size := ⟨_, rfl⟩
  rw [← gz_b1] at A1 D1 st1
  have N_r0_b1 : r0 ≠ b1 := Nat.ne_of_lt (Nat.lt_of_lt_of_le F_modCount_r0.lt (Nat.le_of_eq gz_b1.symm))
  have g_b1 : n0 ≤ b1 := Nat.le_trans (Nat.le_trans (Nat.le_of_eq O0.1.symm) O0.2.1) (Nat.le_of_eq gz_b1.symm)
  have sz_b1 : h0.size ≤ b1 := Nat.le_trans (Keep.refl h0 []).1 (Nat.le_of_eq gz_b1.symm)
  have K1 : Keep h0 h1 [] := (Keep.refl h0 []).ext E1
  have O1 : Old Z n0 h1 := O0.ext E1
  have F_this_0_b1 : Fld Z h1 b1 "java/util/ArrayList$Itr" "this$0" "Ljava/util/ArrayList;" .null := D1 (Or.inr (hw _ (List.mem_of_getElem? (i := 127) rfl))) (ty := (.object "java/util/ArrayList")) (by decide)
  have F_lastRet_b1 : Fld Z h1 b1 "java/util/ArrayList$Itr" "lastRet" "I" (.int (0 : Int32)) := D1 (Or.inl (hw _ (List.mem_of_getElem? (i := 130) rfl))) (ty := .int) (by decide)
  have F_expectedModCount_b1 : Fld Z h1 b1 "java/util/ArrayList$Itr" "expectedModCount" "I" (.int (0 : Int32)) := D1 (Or.inl (hw _ (List.mem_of_getElem? (i := 133) rfl))) (ty := .int) (by decide)
  have F_cursor_b1 : Fld Z h1 b1 "java/util/ArrayList$Itr" "cursor" "I" (.int (0 : Int32)) := D1 (Or.inl (hw _ (List.mem_of_getElem? (i := 144) rfl))) (ty := .int) (by decide)
  refine OFin.st st1 ?_
  show OFin p e below _ _ T1 (mkF m 3 #[.val (.ref r0)] [(.ref b1)])
  refine OFin.st (fun t k => XS.dup X1.here hx rfl (hb hby d13_3) rfl rfl k) ?_
  show OFin p e below _ _ T1 (mkF m 4 #[.val (.ref r0)] [(.ref b1), (.ref b1)])
  refine OFin.st (fun t k => XS.aloadN X1.here hx rfl (hb hby d13_4) rfl rfl k) ?_
  show OFin p e below _ _ T1 (mkF m 5 #[.val (.ref r0)] [(.ref r0), (.ref b1), (.ref b1)])
  obtain ⟨_, _, ⟨T2, L2, k2, n2⟩, -, X2, ⟨Lc2, hQ2, l2, y2, z2⟩, st2⟩ := X1.specialBack hx (y := (⟨"java/util/ArrayList$Itr", "<init>", "(Ljava/util/ArrayList;)V"⟩ : MethodName)) rfl hown (mvT hZ (hw _ (List.mem_of_getElem? (i := 122) rfl))) (mvT hZ (hw _ (List.mem_of_getElem? (i := 123) rfl))) (mvT hZ (hw _ (List.mem_of_getElem? (i := 125) rfl))) (by decide) (backOf (W := 1) (rm14 l Z a0 hw [] b1 r0 .null (.int (0 : Int32)) (.int (0 : Int32)) (0 : Int32) mc h1 n0 O1 A1 F_this_0_b1 F_cursor_b1 F_expectedModCount_b1 F_lastRet_b1 (F_modCount_r0.ext E1) g_b1 N_r0_b1) hZ (hw _ (List.mem_of_getElem? (i := 125) rfl)) (hw _ (List.mem_of_getElem? (i := 121) rfl)) (by decide) (by decide)) (g := (mkF m 5 #[.val (.ref r0)] [(.ref r0), (.ref b1), (.ref b1)])) rfl (by rw [hml]; rfl) (Steps.refl _) (a := b1) (argsL := [(.ref r0)]) (rest := [(.ref b1)]) (lenOf pd_19 rfl) rfl (by show 2 * 0 + _ ≤ _; exact Nat.le_of_eq rfl) (hb hby d13_5) (fun _ _ => ⟨rfl, e1, (by decide : 1 + 0 ≤ _), (by decide : 4 + 0 ≤ _)⟩)
  dsimp only [Pt.U, Pt.locs, Pt.cells, Pt.slots] at X2 l2 y2 z2 st2 hQ2
  subst l2 y2 z2
  have X2 : Stand p l e ({ frames := 2, cells := 1, slots := 4, locals := 26 } : Room) s m #[(.ref r0)] below meth c T2 _ 1 4 := X2
  obtain ⟨rfl, N2q, K2q, P2_0, P2_1, P2_2, P2_3, P2_4⟩ := hQ2
  have N2 := Fr.app N0 N2q
  have K2 : Keep h0 T2.heap [] := K1.trans K2q (allS (Or.inr sz_b1) all0)
  have O2 : Old Z n0 T2.heap := O1.keep K2q (allS g_b1 all0)
  refine OFin.tr st2 ?_
  show OFin p e below _ _ T2 (mkF m 8 #[.val (.ref r0)] [(.ref b1)])
  exact own_retR X2 hx Bd.returns Bd.notSynchronized rfl rfl rfl (hb hby d13_8) (by show Qrm13 Z r0 mc h0 n0 _ T2.heap _; exact ⟨b1, rfl, N2, K2, P2_0, P2_1, P2_2, P2_3, P2_4, sz_b1⟩) (own_endN (by decide) (by decide))
theorem ef_rm15 (m : MethodId) (r0 : Addr) : entryFrame m #[(.ref r0)] 1 = mkF m 0 #[.val (.ref r0)] [] := by first | (simp [entryFrame, mkF, argsToLocals, Value.category]; done) | rfl
def F15 (r0 : Addr) (f_cursor_r0 : Int32) (f_this_0_r0 : Addr) (f_size_f_this_0_r0 : Int32) : Int32 := if f_cursor_r0 = f_size_f_this_0_r0 then (0 : Int32) else (1 : Int32)
def Q15 (r0 : Addr) (f_cursor_r0 : Int32) (f_this_0_r0 : Addr) (f_size_f_this_0_r0 : Int32) (h0 : Heap) (n0 : Nat) (v : Option Value) (h : Heap) (L : List Loc) : Prop := v = some (Value.int (F15 r0 f_cursor_r0 f_this_0_r0 f_size_f_this_0_r0)) ∧ Fr n0 L ∧ h = h0
set_option maxRecDepth 65536 in
set_option maxHeartbeats 40000000 in
theorem rm15 (l : Launch) (Z : State) (a0 : Array Value) (hw : ∀ d ∈ tables_1, d.before a0 Z = true) (ws : List Jvm.Cond) (r0 : Addr) (f_cursor_r0 : Int32) (f_this_0_r0 : Addr) (f_size_f_this_0_r0 : Int32) (h0 : Heap) (n0 : Nat) (O0 : Old Z n0 h0) (F_cursor_r0 : Fld Z h0 r0 "java/util/ArrayList$Itr" "cursor" "I" (.int f_cursor_r0)) (F_this_0_r0 : Fld Z h0 r0 "java/util/ArrayList$Itr" "this$0" "Ljava/util/ArrayList;" (.ref f_this_0_r0)) (F_size_f_this_0_r0 : Fld Z h0 f_this_0_r0 "java/util/ArrayList" "size" "I" (.int f_size_f_this_0_r0)) :
    MetFree l (⟨"java/util/ArrayList$Itr", "hasNext", "()Z"⟩ : MethodName) (head1 (Jvm.Cond.code (⟨"java/util/ArrayList$Itr", "hasNext", "()Z"⟩ : MethodName) jdk_49_method_2_code 1 (some .boolean) :: ws) ({ frames := 0, cells := 0, slots := 0, locals := 0 } : Room)) (fun a U => a = #[(.ref r0)] ∧ Z.Warmed39 U.vm ∧ U.heap = h0) (fun _ _ _ _ _ => True) (fun _ U o U' => ∃ v L, o = .returned v ∧ Q15 r0 f_cursor_r0 f_this_0_r0 f_size_f_this_0_r0 h0 n0 v U'.heap L ∧ FrameEnd U o U' L ({ frames := 0, cells := 0, slots := 0, locals := 0 } : Room).cells ({ frames := 0, cells := 0, slots := 0, locals := 0 } : Room).slots) := by
  refine MetFree.of_bodySF (plainFor_of_name pn_java_util_ArrayList_Itr) hisR ?_
  intro p e s m args below meth c s₁ Bd hml0 hP hK
  obtain ⟨rfl, hZ, hh⟩ := hP
  have hx := Bd.exec
  have hby := Bd.bytes
  have hml : c.maxLocals = 1 := hml0
  have hown : s.vm.findClass "java/util/ArrayList$Itr" = some m.cls := findClass_of_methodNamed Bd.named
  have hnm := (name_of_methodNamed Bd.named Bd.method).1
  have X0 : Stand p l e ({ frames := 0, cells := 0, slots := 0, locals := 0 } : Room) s m #[(.ref r0)] below meth c s₁ [] 0 0 := Stand.of_body Bd
  have e0 : s₁.heap = h0 := by rw [← hh, Bd.state]; rfl
  have N0 := Fr.nil n0
  show OFin p e below (fun o t L => FrameEnd s o t L ({ frames := 0, cells := 0, slots := 0, locals := 0 } : Room).cells ({ frames := 0, cells := 0, slots := 0, locals := 0 } : Room).slots) (fun v h L => Q15 r0 f_cursor_r0 f_this_0_r0 f_size_f_this_0_r0 h0 n0 v h L) s₁ (entryFrame m #[(.ref r0)] 1)
  refine OFin.cast (ef_rm15 m r0) ?_
  show OFin p e below _ _ s₁ (mkF m 0 #[.val (.ref r0)] [])
  refine OFin.st (fun t k => XS.aloadN X0.here hx rfl (hb hby d15_0) rfl rfl k) ?_
  show OFin p e below _ _ s₁ (mkF m 1 #[.val (.ref r0)] [(.ref r0)])
  obtain ⟨T1, X1, e1, st1⟩ := getF X0 hx hZ hown (host := "") (Or.inl (hw _ (List.mem_of_getElem? (i := 143) rfl))) Via.refl e0 F_cursor_r0 (g := (mkF m 1 #[.val (.ref r0)] [(.ref r0)])) rfl rfl (hb hby d15_1)
  refine OFin.st st1 ?_
  show OFin p e below _ _ T1 (mkF m 4 #[.val (.ref r0)] [(.int f_cursor_r0)])
  refine OFin.st (fun t k => XS.aloadN X1.here hx rfl (hb hby d15_4) rfl rfl k) ?_
  show OFin p e below _ _ T1 (mkF m 5 #[.val (.ref r0)] [(.ref r0), (.int f_cursor_r0)])
  obtain ⟨T2, X2, e2, st2⟩ := getF X1 hx hZ hown (host := "") (Or.inl (hw _ (List.mem_of_getElem? (i := 126) rfl))) Via.refl e1 F_this_0_r0 (g := (mkF m 5 #[.val (.ref r0)] [(.ref r0), (.int f_cursor_r0)])) rfl rfl (hb hby d15_5)
  refine OFin.st st2 ?_
  show OFin p e below _ _ T2 (mkF m 8 #[.val (.ref r0)] [(.ref f_this_0_r0), (.int f_cursor_r0)])
  obtain ⟨T3, X3, e3, st3⟩ := getF X2 hx hZ hown (Or.inr (hw _ (List.mem_of_getElem? (i := 145) rfl))) Via.refl e2 F_size_f_this_0_r0 (g := (mkF m 8 #[.val (.ref r0)] [(.ref f_this_0_r0), (.int f_cursor_r0)])) rfl rfl (hb hby d15_8)
  refine OFin.st st3 ?_
  show OFin p e below _ _ T3 (mkF m 11 #[.val (.ref r0)] [(.int f_size_f_this_0_r0), (.int f_cursor_r0)])
  by_cases hc11 : f_cursor_r0 = f_size_f_this_0_r0
  · refine OFin.st (fun t k => XS.icmpYes X3.here hx rfl (pc0 := 11) (pc' := 18) rfl (hb hby d15_11) rfl (teq hc11).1 (by decide) (by decide) k) ?_
    show OFin p e below _ _ T3 (mkF m 18 #[.val (.ref r0)] [])
    refine OFin.st (fun t k => XS.iconst X3.here hx rfl (hb hby d15_18) k) ?_
    show OFin p e below _ _ T3 (mkF m 19 #[.val (.ref r0)] [(.int (0 : Int32))])
    exact own_retN X3 hx Bd.returns Bd.notSynchronized (t := .boolean) (by simp) rfl (hb hby d15_19) ⟨(by rw [F15, if_pos hc11]; try rfl), N0, e3⟩ (own_endN (by decide) (by decide))
  · refine OFin.st (fun t k => XS.icmpNo X3.here hx rfl (hb hby d15_11) rfl (feq hc11).1 k) ?_
    show OFin p e below _ _ T3 (mkF m 14 #[.val (.ref r0)] [])
    refine OFin.st (fun t k => XS.iconst X3.here hx rfl (hb hby d15_14) k) ?_
    show OFin p e below _ _ T3 (mkF m 15 #[.val (.ref r0)] [(.int (1 : Int32))])
    refine OFin.st (fun t k => XS.goto X3.here hx rfl (pc0 := 15) (pc' := 19) rfl (hb hby d15_15) (by decide) (by decide) k) ?_
    show OFin p e below _ _ T3 (mkF m 19 #[.val (.ref r0)] [(.int (1 : Int32))])
    exact own_retN X3 hx Bd.returns Bd.notSynchronized (t := .boolean) (by simp) rfl (hb hby d15_19) ⟨(by rw [F15, if_neg hc11]; try rfl), N0, e3⟩ (own_endN (by decide) (by decide))
theorem ef_rm17 (m : MethodId) (r0 : Addr) : entryFrame m #[(.ref r0)] 1 = mkF m 0 #[.val (.ref r0)] [] := by first | (simp [entryFrame, mkF, argsToLocals, Value.category]; done) | rfl
def Q17 (r0 : Addr) (al : Addr) (mc : Int32) (h0 : Heap) (n0 : Nat) (v : Option Value) (h : Heap) (L : List Loc) : Prop := v = none ∧ Fr n0 L ∧ h = h0
set_option maxRecDepth 65536 in
set_option maxHeartbeats 40000000 in
theorem rm17 (l : Launch) (Z : State) (a0 : Array Value) (hw : ∀ d ∈ tables_1, d.before a0 Z = true) (ws : List Jvm.Cond) (r0 : Addr) (al : Addr) (mc : Int32) (h0 : Heap) (n0 : Nat) (O0 : Old Z n0 h0) (F_this_0_r0 : Fld Z h0 r0 "java/util/ArrayList$Itr" "this$0" "Ljava/util/ArrayList;" (.ref al)) (F_modCount_al : Fld Z h0 al "java/util/AbstractList" "modCount" "I" (.int mc)) (F_expectedModCount_r0 : Fld Z h0 r0 "java/util/ArrayList$Itr" "expectedModCount" "I" (.int mc)) :
    MetFree l (⟨"java/util/ArrayList$Itr", "checkForComodification", "()V"⟩ : MethodName) (head1 (Jvm.Cond.code (⟨"java/util/ArrayList$Itr", "checkForComodification", "()V"⟩ : MethodName) jdk_49_method_6_code 1 none :: ws) ({ frames := 0, cells := 0, slots := 0, locals := 0 } : Room)) (fun a U => a = #[(.ref r0)] ∧ Z.Warmed39 U.vm ∧ U.heap = h0) (fun _ _ _ _ _ => True) (fun _ U o U' => ∃ v L, o = .returned v ∧ Q17 r0 al mc h0 n0 v U'.heap L ∧ FrameEnd U o U' L ({ frames := 0, cells := 0, slots := 0, locals := 0 } : Room).cells ({ frames := 0, cells := 0, slots := 0, locals := 0 } : Room).slots) := by
  refine MetFree.of_bodySF (plainFor_of_name pn_java_util_ArrayList_Itr) hisR ?_
  intro p e s m args below meth c s₁ Bd hml0 hP hK
  obtain ⟨rfl, hZ, hh⟩ := hP
  have hx := Bd.exec
  have hby := Bd.bytes
  have hml : c.maxLocals = 1 := hml0
  have hown : s.vm.findClass "java/util/ArrayList$Itr" = some m.cls := findClass_of_methodNamed Bd.named
  have hnm := (name_of_methodNamed Bd.named Bd.method).1
  have X0 : Stand p l e ({ frames := 0, cells := 0, slots := 0, locals := 0 } : Room) s m #[(.ref r0)] below meth c s₁ [] 0 0 := Stand.of_body Bd
  have e0 : s₁.heap = h0 := by rw [← hh, Bd.state]; rfl
  have N0 := Fr.nil n0
  show OFin p e below (fun o t L => FrameEnd s o t L ({ frames := 0, cells := 0, slots := 0, locals := 0 } : Room).cells ({ frames := 0, cells := 0, slots := 0, locals := 0 } : Room).slots) (fun v h L => Q17 r0 al mc h0 n0 v h L) s₁ (entryFrame m #[(.ref r0)] 1)
  refine OFin.cast (ef_rm17 m r0) ?_
  show OFin p e below _ _ s₁ (mkF m 0 #[.val (.ref r0)] [])
  refine OFin.st (fun t k => XS.aloadN X0.here hx rfl (hb hby d17_0) rfl rfl k) ?_
  show OFin p e below _ _ s₁ (mkF m 1 #[.val (.ref r0)] [(.ref r0)])
  obtain ⟨T1, X1, e1, st1⟩ := getF X0 hx hZ hown (host := "") (Or.inl (hw _ (List.mem_of_getElem? (i := 126) rfl))) Via.refl e0 F_this_0_r0 (g := (mkF m 1 #[.val (.ref r0)] [(.ref r0)])) rfl rfl (hb hby d17_1)
  refine OFin.st st1 ?_
  show OFin p e below _ _ T1 (mkF m 4 #[.val (.ref r0)] [(.ref al)])
  obtain ⟨T2, X2, e2, st2⟩ := getF X1 hx hZ hown (host := "") (Or.inl (hw _ (List.mem_of_getElem? (i := 131) rfl))) (Via.of (hw _ (List.mem_of_getElem? (i := 67) rfl))) e1 F_modCount_al (g := (mkF m 4 #[.val (.ref r0)] [(.ref al)])) rfl rfl (hb hby d17_4)
  refine OFin.st st2 ?_
  show OFin p e below _ _ T2 (mkF m 7 #[.val (.ref r0)] [(.int mc)])
  refine OFin.st (fun t k => XS.aloadN X2.here hx rfl (hb hby d17_7) rfl rfl k) ?_
  show OFin p e below _ _ T2 (mkF m 8 #[.val (.ref r0)] [(.ref r0), (.int mc)])
  obtain ⟨T3, X3, e3, st3⟩ := getF X2 hx hZ hown (host := "") (Or.inl (hw _ (List.mem_of_getElem? (i := 132) rfl))) Via.refl e2 F_expectedModCount_r0 (g := (mkF m 8 #[.val (.ref r0)] [(.ref r0), (.int mc)])) rfl rfl (hb hby d17_8)
  refine OFin.st st3 ?_
  show OFin p e below _ _ T3 (mkF m 11 #[.val (.ref r0)] [(.int mc), (.int mc)])
  refine OFin.st (fun t k => XS.icmpYes X3.here hx rfl (pc0 := 11) (pc' := 22) rfl (hb hby d17_11) rfl (teq (rfl : mc = mc)).1 (by decide) (by decide) k) ?_
  show OFin p e below _ _ T3 (mkF m 22 #[.val (.ref r0)] [])
  exact own_retV X3 hx Bd.returns Bd.notSynchronized (hb hby d17_22) ⟨rfl, N0, e3⟩ (own_endN (by decide) (by decide))
theorem ef_rm16 (m : MethodId) (r0 : Addr) : entryFrame m #[(.ref r0)] 3 = mkF m 0 #[.val (.ref r0), .unset, .unset] [] := by first | (simp [entryFrame, mkF, argsToLocals, Value.category]; done) | rfl
def Qrm16 (Z : State) (r0 : Addr) (al : Addr) (ea : Addr) (el : Addr) (mc : Int32) (ke : ClassId) (u1 : Value) (h0 : Heap) (n0 : Nat) (v : Option Value) (h : Heap) (L : List Loc) : Prop := v = some (Value.ref el) ∧ Fr n0 L ∧ Keep h0 h [r0] ∧ Exa Z h r0 "java/util/ArrayList$Itr" ∧ Fld Z h r0 "java/util/ArrayList$Itr" "this$0" "Ljava/util/ArrayList;" (.ref al) ∧ Fld Z h r0 "java/util/ArrayList$Itr" "cursor" "I" (.int ((0 : Int32) + (1 : Int32))) ∧ Fld Z h r0 "java/util/ArrayList$Itr" "expectedModCount" "I" (.int mc)
set_option maxRecDepth 65536 in
set_option maxHeartbeats 40000000 in
theorem rm16 (l : Launch) (Z : State) (a0 : Array Value) (hw : ∀ d ∈ tables_1, d.before a0 Z = true) (ws : List Jvm.Cond) (r0 : Addr) (al : Addr) (ea : Addr) (el : Addr) (mc : Int32) (ke : ClassId) (u1 : Value) (h0 : Heap) (n0 : Nat) (O0 : Old Z n0 h0) (E_r0 : Exa Z h0 r0 "java/util/ArrayList$Itr") (F_this_0_r0 : Fld Z h0 r0 "java/util/ArrayList$Itr" "this$0" "Ljava/util/ArrayList;" (.ref al)) (F_cursor_r0 : Fld Z h0 r0 "java/util/ArrayList$Itr" "cursor" "I" (.int (0 : Int32))) (F_expectedModCount_r0 : Fld Z h0 r0 "java/util/ArrayList$Itr" "expectedModCount" "I" (.int mc)) (F_lastRet_r0 : Fld Z h0 r0 "java/util/ArrayList$Itr" "lastRet" "I" u1) (F_elementData_al : Fld Z h0 al "java/util/ArrayList" "elementData" "[Ljava/lang/Object;" (.ref ea)) (F_size_al : Fld Z h0 al "java/util/ArrayList" "size" "I" (.int ((0 : Int32) + (1 : Int32)))) (F_modCount_al : Fld Z h0 al "java/util/AbstractList" "modCount" "I" (.int mc)) (A_ea : Oar Z h0 ea ke (.object "java/lang/Object") [(.ref el), .null, .null, .null, .null, .null, .null, .null, .null, .null]) (g_r0 : n0 ≤ r0) (N_al_r0 : al ≠ r0) (N_ea_r0 : ea ≠ r0) :
    MetFree l (⟨"java/util/ArrayList$Itr", "next", "()Ljava/lang/Object;"⟩ : MethodName) (head1 (Jvm.Cond.code (⟨"java/util/ArrayList$Itr", "next", "()Ljava/lang/Object;"⟩ : MethodName) jdk_49_method_3_code 3 (some (.object "java/lang/Object")) :: ws) ({ frames := 1, cells := 0, slots := 0, locals := 12 } : Room)) (fun a U => a = #[(.ref r0)] ∧ Z.Warmed39 U.vm ∧ U.heap = h0) (fun _ _ _ _ _ => True) (fun _ U o U' => ∃ v L, o = .returned v ∧ Qrm16 Z r0 al ea el mc ke u1 h0 n0 v U'.heap L ∧ FrameEnd U o U' L ({ frames := 1, cells := 0, slots := 0, locals := 12 } : Room).cells ({ frames := 1, cells := 0, slots := 0, locals := 12 } : Room).slots) := by
  refine MetFree.of_bodySF (plainFor_of_name pn_java_util_ArrayList_Itr) hisR ?_
  intro p e s m args below meth c s₁ Bd hml0 hP hK
  obtain ⟨rfl, hZ, hh⟩ := hP
  have hx := Bd.exec
  have hby := Bd.bytes
  have hml : c.maxLocals = 3 := hml0
  have hown : s.vm.findClass "java/util/ArrayList$Itr" = some m.cls := findClass_of_methodNamed Bd.named
  have hnm := (name_of_methodNamed Bd.named Bd.method).1
  have X0 : Stand p l e ({ frames := 1, cells := 0, slots := 0, locals := 12 } : Room) s m #[(.ref r0)] below meth c s₁ [] 0 0 := Stand.of_body Bd
  have e0 : s₁.heap = h0 := by rw [← hh, Bd.state]; rfl
  have N0 := Fr.nil n0
  show OFin p e below (fun o t L => FrameEnd s o t L ({ frames := 1, cells := 0, slots := 0, locals := 12 } : Room).cells ({ frames := 1, cells := 0, slots := 0, locals := 12 } : Room).slots) (fun v h L => Qrm16 Z r0 al ea el mc ke u1 h0 n0 v h L) s₁ (entryFrame m #[(.ref r0)] 3)
  refine OFin.cast (ef_rm16 m r0) ?_
  show OFin p e below _ _ s₁ (mkF m 0 #[.val (.ref r0), .unset, .unset] [])
  refine OFin.st (fun t k => XS.aloadN X0.here hx rfl (hb hby d16_0) rfl rfl k) ?_
  show OFin p e below _ _ s₁ (mkF m 1 #[.val (.ref r0), .unset, .unset] [(.ref r0)])
  obtain ⟨cq1, kq1, q1a, q1b, q1c⟩ := isOf hZ e0 E_r0
  obtain ⟨_, _, ⟨T1, L1, k1, n1⟩, -, X1, ⟨Lc1, hQ1, l1, y1, z1⟩, st1⟩ := X0.virtualBack hx (y := (⟨"java/util/ArrayList$Itr", "checkForComodification", "()V"⟩ : MethodName)) (z := (⟨"java/util/ArrayList$Itr", "checkForComodification", "()V"⟩ : MethodName)) hown (mvT hZ (hw _ (List.mem_of_getElem? (i := 154) rfl))) (mvT hZ (hw _ (List.mem_of_getElem? (i := 155) rfl))) (notFace_of_selects (args := #[]) (mvT hZ (hw _ (List.mem_of_getElem? (i := 157) rfl)))) (mvT hZ (hw _ (List.mem_of_getElem? (i := 157) rfl))) (mvT hZ (hw _ (List.mem_of_getElem? (i := 156) rfl))) (by decide) (backOf (W := 0) (rm17 l Z a0 hw [] r0 al mc h0 n0 O0 F_this_0_r0 F_modCount_al F_expectedModCount_r0) hZ (hw _ (List.mem_of_getElem? (i := 158) rfl)) (hw _ (List.mem_of_getElem? (i := 121) rfl)) (by decide) (by decide)) q1a q1c (g := (mkF m 1 #[.val (.ref r0), .unset, .unset] [(.ref r0)])) rfl (by rw [hml]; rfl) (Steps.refl _) (argsL := []) (rest := []) (lenOf pd_4 rfl) rfl (by show 2 * 0 + _ ≤ _; exact Nat.le_of_eq rfl) (hb hby d16_1) (fun _ _ => ⟨rfl, e0, (by decide : 0 + 0 ≤ _), (by decide : 0 + 0 ≤ _)⟩)
  dsimp only [Pt.U, Pt.locs, Pt.cells, Pt.slots] at X1 l1 y1 z1 st1 hQ1
  subst l1 y1 z1
  have X1 : Stand p l e ({ frames := 1, cells := 0, slots := 0, locals := 12 } : Room) s m #[(.ref r0)] below meth c T1 _ 0 0 := X1
  obtain ⟨rfl, N1q, e1⟩ := hQ1
  have N1 := Fr.app N0 N1q
  refine OFin.tr st1 ?_
  show OFin p e below _ _ T1 (mkF m 4 #[.val (.ref r0), .unset, .unset] [])
  refine OFin.st (fun t k => XS.aloadN X1.here hx rfl (hb hby d16_4) rfl rfl k) ?_
  show OFin p e below _ _ T1 (mkF m 5 #[.val (.ref r0), .unset, .unset] [(.ref r0)])
  obtain ⟨T2, X2, e2, st2⟩ := getF X1 hx hZ hown (host := "") (Or.inl (hw _ (List.mem_of_getElem? (i := 143) rfl))) Via.refl e1 F_cursor_r0 (g := (mkF m 5 #[.val (.ref r0), .unset, .unset] [(.ref r0)])) rfl rfl (hb hby d16_5)
  refine OFin.st st2 ?_
  show OFin p e below _ _ T2 (mkF m 8 #[.val (.ref r0), .unset, .unset] [(.int (0 : Int32))])
  refine OFin.st (fun t k => XS.istoreN X2.here hx rfl (hb hby d16_8) rfl (l' := #[.val (.ref r0), .val (.int (0 : Int32)), .unset]) rfl k) ?_
  show OFin p e below _ _ T2 (mkF m 9 #[.val (.ref r0), .val (.int (0 : Int32)), .unset] [])
  refine OFin.st (fun t k => XS.iloadN X2.here hx rfl (hb hby d16_9) rfl k) ?_
  show OFin p e below _ _ T2 (mkF m 10 #[.val (.ref r0), .val (.int (0 : Int32)), .unset] [(.int (0 : Int32))])
  refine OFin.st (fun t k => XS.aloadN X2.here hx rfl (hb hby d16_10) rfl rfl k) ?_
  show OFin p e below _ _ T2 (mkF m 11 #[.val (.ref r0), .val (.int (0 : Int32)), .unset] [(.ref r0), (.int (0 : Int32))])
  obtain ⟨T3, X3, e3, st3⟩ := getF X2 hx hZ hown (host := "") (Or.inl (hw _ (List.mem_of_getElem? (i := 126) rfl))) Via.refl e2 F_this_0_r0 (g := (mkF m 11 #[.val (.ref r0), .val (.int (0 : Int32)), .unset] [(.ref r0), (.int (0 : Int32))])) rfl rfl (hb hby d16_11)
  refine OFin.st st3 ?_
  show OFin p e below _ _ T3 (mkF m 14 #[.val (.ref r0), .val (.int (0 : Int32)), .unset] [(.ref al), (.int (0 : Int32))])
  obtain ⟨T4, X4, e4, st4⟩ := getF X3 hx hZ hown (Or.inr (hw _ (List.mem_of_getElem? (i := 145) rfl))) Via.refl e3 F_size_al (g := (mkF m 14 #[.val (.ref r0), .val (.int (0 : Int32)), .unset] [(.ref al), (.int (0 : Int32))])) rfl rfl (hb hby d16_14)
  refine OFin.st st4 ?_
  show OFin p e below _ _ T4 (mkF m 17 #[.val (.ref r0), .val (.int (0 : Int32)), .unset] [(.int ((0 : Int32) + (1 : Int32))), (.int (0 : Int32))])
  refine OFin.st (fun t k => XS.icmpYes X4.here hx rfl (pc0 := 17) (pc' := 28) rfl (hb hby d16_17) rfl (tlt (by decide)).1 (by decide) (by decide) k) ?_
  show OFin p e below _ _ T4 (mkF m 28 #[.val (.ref r0), .val (.int (0 : Int32)), .unset] [])
  refine OFin.st (fun t k => XS.aloadN X4.here hx rfl (hb hby d16_28) rfl rfl k) ?_
  show OFin p e below _ _ T4 (mkF m 29 #[.val (.ref r0), .val (.int (0 : Int32)), .unset] [(.ref r0)])
  obtain ⟨T5, X5, e5, st5⟩ := getF X4 hx hZ hown (host := "") (Or.inl (hw _ (List.mem_of_getElem? (i := 126) rfl))) Via.refl e4 F_this_0_r0 (g := (mkF m 29 #[.val (.ref r0), .val (.int (0 : Int32)), .unset] [(.ref r0)])) rfl rfl (hb hby d16_29)
  refine OFin.st st5 ?_
  show OFin p e below _ _ T5 (mkF m 32 #[.val (.ref r0), .val (.int (0 : Int32)), .unset] [(.ref al)])
  obtain ⟨T6, X6, e6, st6⟩ := getF X5 hx hZ hown (host := "") (Or.inl (hw _ (List.mem_of_getElem? (i := 159) rfl))) Via.refl e5 F_elementData_al (g := (mkF m 32 #[.val (.ref r0), .val (.int (0 : Int32)), .unset] [(.ref al)])) rfl rfl (hb hby d16_32)
  refine OFin.st st6 ?_
  show OFin p e below _ _ T6 (mkF m 35 #[.val (.ref r0), .val (.int (0 : Int32)), .unset] [(.ref ea)])
  refine OFin.st (fun t k => XS.astoreN X6.here hx rfl (hb hby d16_35) rfl rfl (l' := #[.val (.ref r0), .val (.int (0 : Int32)), .val (.ref ea)]) rfl k) ?_
  show OFin p e below _ _ T6 (mkF m 36 #[.val (.ref r0), .val (.int (0 : Int32)), .val (.ref ea)] [])
  refine OFin.st (fun t k => XS.iloadN X6.here hx rfl (hb hby d16_36) rfl k) ?_
  show OFin p e below _ _ T6 (mkF m 37 #[.val (.ref r0), .val (.int (0 : Int32)), .val (.ref ea)] [(.int (0 : Int32))])
  refine OFin.st (fun t k => XS.aloadN X6.here hx rfl (hb hby d16_37) rfl rfl k) ?_
  show OFin p e below _ _ T6 (mkF m 38 #[.val (.ref r0), .val (.int (0 : Int32)), .val (.ref ea)] [(.ref ea), (.int (0 : Int32))])
  refine own_alen X6 hx hZ e6 A_ea (z := (10 : Int32)) (by simp only [List.length_cons, List.length_nil]; decide) (hb hby d16_38) (pc' := 39) rfl ?_
  show OFin p e below _ _ T6 (mkF m 39 #[.val (.ref r0), .val (.int (0 : Int32)), .val (.ref ea)] [(.int (10 : Int32)), (.int (0 : Int32))])
  refine OFin.st (fun t k => XS.icmpYes X6.here hx rfl (pc0 := 39) (pc' := 50) rfl (hb hby d16_39) rfl (tlt (by decide : (0 : Int32) < (10 : Int32))).1 (by decide) (by decide) k) ?_
  show OFin p e below _ _ T6 (mkF m 50 #[.val (.ref r0), .val (.int (0 : Int32)), .val (.ref ea)] [])
  refine OFin.st (fun t k => XS.aloadN X6.here hx rfl (hb hby d16_50) rfl rfl k) ?_
  show OFin p e below _ _ T6 (mkF m 51 #[.val (.ref r0), .val (.int (0 : Int32)), .val (.ref ea)] [(.ref r0)])
  refine OFin.st (fun t k => XS.iloadN X6.here hx rfl (hb hby d16_51) rfl k) ?_
  show OFin p e below _ _ T6 (mkF m 52 #[.val (.ref r0), .val (.int (0 : Int32)), .val (.ref ea)] [(.int (0 : Int32)), (.ref r0)])
  refine OFin.st (fun t k => XS.iconst X6.here hx rfl (hb hby d16_52) k) ?_
  show OFin p e below _ _ T6 (mkF m 53 #[.val (.ref r0), .val (.int (0 : Int32)), .val (.ref ea)] [(.int (1 : Int32)), (.int (0 : Int32)), (.ref r0)])
  refine OFin.st (fun t k => XS.iadd X6.here hx rfl (hb hby d16_53) rfl k) ?_
  show OFin p e below _ _ T6 (mkF m 54 #[.val (.ref r0), .val (.int (0 : Int32)), .val (.ref ea)] [(.int ((0 : Int32) + (1 : Int32))), (.ref r0)])
  obtain ⟨T7, h7, X7, e7, W7, st7⟩ := putF X6 hx hZ hown (host := "") (Or.inl (hw _ (List.mem_of_getElem? (i := 143) rfl))) Via.refl e6 F_cursor_r0 E_r0 (Or.inl (hw _ (List.mem_of_getElem? (i := 144) rfl))) (hw _ (List.mem_of_getElem? (i := 120) rfl)) (ty := .int) (by decide) rfl rfl (g := (mkF m 54 #[.val (.ref r0), .val (.int (0 : Int32)), .val (.ref ea)] [(.int ((0 : Int32) + (1 : Int32))), (.ref r0)])) rfl rfl (hb hby d16_54)
  refine OFin.st st7 ?_
  have Fw7 := F_cursor_r0.same W7
  have N7 := Fr.snoc X7 N1 g_r0
  have K7 : Keep h0 h7 [r0] := (Keep.refl h0 [r0]).wr W7 (Or.inl (List.mem_of_getElem? (i := 0) rfl))
  have O7 : Old Z n0 h7 := O0.wr W7 g_r0
  show OFin p e below _ _ T7 (mkF m 57 #[.val (.ref r0), .val (.int (0 : Int32)), .val (.ref ea)] [])
  refine OFin.st (fun t k => XS.aloadN X7.here hx rfl (hb hby d16_57) rfl rfl k) ?_
  show OFin p e below _ _ T7 (mkF m 58 #[.val (.ref r0), .val (.int (0 : Int32)), .val (.ref ea)] [(.ref ea)])
  refine OFin.st (fun t k => XS.aloadN X7.here hx rfl (hb hby d16_58) rfl rfl k) ?_
  show OFin p e below _ _ T7 (mkF m 59 #[.val (.ref r0), .val (.int (0 : Int32)), .val (.ref ea)] [(.ref r0), (.ref ea)])
  refine OFin.st (fun t k => XS.iloadN X7.here hx rfl (hb hby d16_59) rfl k) ?_
  show OFin p e below _ _ T7 (mkF m 60 #[.val (.ref r0), .val (.int (0 : Int32)), .val (.ref ea)] [(.int (0 : Int32)), (.ref r0), (.ref ea)])
  refine OFin.st (fun t k => XS.dupX1 X7.here hx rfl (hb hby d16_60) rfl rfl rfl k) ?_
  show OFin p e below _ _ T7 (mkF m 61 #[.val (.ref r0), .val (.int (0 : Int32)), .val (.ref ea)] [(.int (0 : Int32)), (.ref r0), (.int (0 : Int32)), (.ref ea)])
  have c8 := (F_lastRet_r0.other W7 (Or.inr (slot_ne (Or.inl (hw _ (List.mem_of_getElem? (i := 130) rfl))) (Or.inl (hw _ (List.mem_of_getElem? (i := 144) rfl))) (by decide) (t := .int) (t' := .int) (by decide) (by decide))))
  obtain ⟨T9, h9, X9, e9, W9, st9⟩ := putF X7 hx hZ hown (host := "") (Or.inl (hw _ (List.mem_of_getElem? (i := 129) rfl))) Via.refl e7 c8 (E_r0.wr W7) (Or.inl (hw _ (List.mem_of_getElem? (i := 130) rfl))) (hw _ (List.mem_of_getElem? (i := 120) rfl)) (ty := .int) (by decide) rfl rfl (g := (mkF m 61 #[.val (.ref r0), .val (.int (0 : Int32)), .val (.ref ea)] [(.int (0 : Int32)), (.ref r0), (.int (0 : Int32)), (.ref ea)])) rfl rfl (hb hby d16_61)
  refine OFin.st st9 ?_
  have Fw9 := c8.same W9
  have N9 := Fr.snoc X9 N7 g_r0
  have K9 : Keep h0 h9 [r0] := K7.wr W9 (Or.inl (List.mem_of_getElem? (i := 0) rfl))
  have O9 : Old Z n0 h9 := O7.wr W9 g_r0
  show OFin p e below _ _ T9 (mkF m 64 #[.val (.ref r0), .val (.int (0 : Int32)), .val (.ref ea)] [(.int (0 : Int32)), (.ref ea)])
  refine own_aaload X9 hx hZ e9 ((A_ea.other W7 N_ea_r0).other W9 N_ea_r0) rfl (i := 0) (j := (0 : Int32)) (by decide) (v := (.ref el)) rfl (hb hby d16_64) (pc' := 65) rfl ?_
  show OFin p e below _ _ T9 (mkF m 65 #[.val (.ref r0), .val (.int (0 : Int32)), .val (.ref ea)] [(.ref el)])
  have c10 := ((F_this_0_r0.other W7 (Or.inr (slot_ne (Or.inr (hw _ (List.mem_of_getElem? (i := 127) rfl))) (Or.inl (hw _ (List.mem_of_getElem? (i := 144) rfl))) (by decide) (t := (.object "java/util/ArrayList")) (t' := .int) (by decide) (by decide)))).other W9 (Or.inr (slot_ne (Or.inr (hw _ (List.mem_of_getElem? (i := 127) rfl))) (Or.inl (hw _ (List.mem_of_getElem? (i := 130) rfl))) (by decide) (t := (.object "java/util/ArrayList")) (t' := .int) (by decide) (by decide))))
  have c11 := (Fw7.other W9 (Or.inr (slot_ne (Or.inl (hw _ (List.mem_of_getElem? (i := 144) rfl))) (Or.inl (hw _ (List.mem_of_getElem? (i := 130) rfl))) (by decide) (t := .int) (t' := .int) (by decide) (by decide))))
  have c12 := ((F_expectedModCount_r0.other W7 (Or.inr (slot_ne (Or.inl (hw _ (List.mem_of_getElem? (i := 133) rfl))) (Or.inl (hw _ (List.mem_of_getElem? (i := 144) rfl))) (by decide) (t := .int) (t' := .int) (by decide) (by decide)))).other W9 (Or.inr (slot_ne (Or.inl (hw _ (List.mem_of_getElem? (i := 133) rfl))) (Or.inl (hw _ (List.mem_of_getElem? (i := 130) rfl))) (by decide) (t := .int) (t' := .int) (by decide) (by decide))))
  exact own_retR X9 hx Bd.returns Bd.notSynchronized rfl rfl rfl (hb hby d16_65) (by show Qrm16 Z r0 al ea el mc ke u1 h0 n0 _ T9.heap _; rw [e9]; exact ⟨rfl, N9, K9, ((E_r0.wr W7).wr W9), c10, c11, c12⟩) (own_endN (by decide) (by decide))
theorem ef_rm12 (m : MethodId) (r0 : Addr) (r2 : Addr) (p3 : Int32) : entryFrame m #[(.ref r0), (.int (3 : Int32)), (.ref r2), (.int p3)] 6 = mkF m 0 #[.val (.ref r0), .val (.int (3 : Int32)), .val (.ref r2), .val (.int p3), .unset, .unset] [] := by first | (simp [entryFrame, mkF, argsToLocals, Value.category]; done) | rfl
def Qrm12 (Z : State) (r0 : Addr) (r2 : Addr) (p3 : Int32) (ea : Addr) (el : Addr) (bb : Int32) (mc : Int32) (ke : ClassId) (u1 : Value) (u2 : Value) (u3 : Value) (u4 : Value) (u5 : Value) (u6 : Value) (w_BOOL : Addr) (h0 : Heap) (n0 : Nat) (v : Option Value) (h : Heap) (L : List Loc) : Prop := ∃ (oa : Addr) (wa : Addr) (va : Addr) (ko : ClassId) (kw : ClassId) (kv : ClassId), v = none ∧ Fr n0 L ∧ Keep h0 h [r0] ∧ Exa Z h r0 "com/example/verdikt/verdikt/model/Lanes" ∧ Fld Z h r0 "com/example/verdikt/verdikt/model/Lanes" "width" "I" (.int p3) ∧ Fld Z h r0 "com/example/verdikt/verdikt/model/Lanes" "offsets" "[I" (.ref oa) ∧ Fld Z h r0 "com/example/verdikt/verdikt/model/Lanes" "words" "[J" (.ref wa) ∧ Fld Z h r0 "com/example/verdikt/verdikt/model/Lanes" "values" "[J" (.ref va) ∧ Oar Z h oa ko .int (offs bb p3) ∧ Oar Z h wa kw .long [(.long (0 : Int64)), (.long (0 : Int64)), (.long (0 : Int64))] ∧ Oar Z h va kv .long (List.replicate (2 * p3.toInt.toNat) (.long (0 : Int64))) ∧ h0.size ≤ oa ∧ h0.size ≤ wa ∧ h0.size ≤ va ∧ oa ≠ wa ∧ oa ≠ va ∧ wa ≠ va
set_option maxRecDepth 65536 in
set_option maxHeartbeats 40000000 in
theorem rm12 (l : Launch) (Z : State) (a0 : Array Value) (hw : ∀ d ∈ tables_1, d.before a0 Z = true) (ws : List Jvm.Cond) (r0 : Addr) (r2 : Addr) (p3 : Int32) (ea : Addr) (el : Addr) (bb : Int32) (mc : Int32) (ke : ClassId) (u1 : Value) (u2 : Value) (u3 : Value) (u4 : Value) (u5 : Value) (u6 : Value) (w_BOOL : Addr) (h0 : Heap) (n0 : Nat) (O0 : Old Z n0 h0) (E_r0 : Exa Z h0 r0 "com/example/verdikt/verdikt/model/Lanes") (F_width_r0 : Fld Z h0 r0 "com/example/verdikt/verdikt/model/Lanes" "width" "I" u1) (F_offsets_r0 : Fld Z h0 r0 "com/example/verdikt/verdikt/model/Lanes" "offsets" "[I" u2) (F_words_r0 : Fld Z h0 r0 "com/example/verdikt/verdikt/model/Lanes" "words" "[J" u3) (F_values_r0 : Fld Z h0 r0 "com/example/verdikt/verdikt/model/Lanes" "values" "[J" u4) (F_all_r0 : Fld Z h0 r0 "com/example/verdikt/verdikt/model/Lanes" "all" "J" u5) (F_lent_r0 : Fld Z h0 r0 "com/example/verdikt/verdikt/model/Lanes" "lent" "[[J" u6) (g_r0 : n0 ≤ r0) (E_r2 : Exa Z h0 r2 "java/util/ArrayList") (F_elementData_r2 : Fld Z h0 r2 "java/util/ArrayList" "elementData" "[Ljava/lang/Object;" (.ref ea)) (F_size_r2 : Fld Z h0 r2 "java/util/ArrayList" "size" "I" (.int ((0 : Int32) + (1 : Int32)))) (F_modCount_r2 : Fld Z h0 r2 "java/util/AbstractList" "modCount" "I" (.int mc)) (A_ea : Oar Z h0 ea ke (.object "java/lang/Object") [(.ref el), .null, .null, .null, .null, .null, .null, .null, .null, .null]) (E_el : Exa Z h0 el "com/example/verdikt/verdikt/model/Variable") (F_type_el : Fld Z h0 el "com/example/verdikt/verdikt/model/Variable" "type" "Lcom/example/verdikt/verdikt/model/ElementaryType;" (.ref w_BOOL)) (F_index_el : Fld Z h0 el "com/example/verdikt/verdikt/model/Variable" "index" "I" (.int bb)) (N_r2_r0 : r2 ≠ r0) (N_ea_r0 : ea ≠ r0) (N_el_r0 : el ≠ r0) (hw1 : ¬ p3 < (1 : Int32)) (hw2 : ¬ (64 : Int32) < p3) (hbq : bb = 0 ∨ bb = 1 ∨ bb = 2) (S_BOOL : Sta Z Z.heap "com/example/verdikt/verdikt/model/ElementaryType" "BOOL" "Lcom/example/verdikt/verdikt/model/ElementaryType;" (.ref w_BOOL)) :
    MetFree l (⟨"com/example/verdikt/verdikt/model/Lanes", "<init>", "(ILjava/util/List;I)V"⟩ : MethodName) (head1 (Jvm.Cond.code (⟨"com/example/verdikt/verdikt/model/Lanes", "<init>", "(ILjava/util/List;I)V"⟩ : MethodName) prog_90_method_1_code 6 none :: ws) ({ frames := 3, cells := 5, slots := 138, locals := 38 } : Room)) (fun a U => a = #[(.ref r0), (.int (3 : Int32)), (.ref r2), (.int p3)] ∧ Z.Warmed39 U.vm ∧ U.heap = h0) (fun _ _ _ _ _ => True) (fun _ U o U' => ∃ v L, o = .returned v ∧ Qrm12 Z r0 r2 p3 ea el bb mc ke u1 u2 u3 u4 u5 u6 w_BOOL h0 n0 v U'.heap L ∧ FrameEnd U o U' L ({ frames := 3, cells := 5, slots := 138, locals := 38 } : Room).cells ({ frames := 3, cells := 5, slots := 138, locals := 38 } : Room).slots) := by
  refine MetFree.of_bodySF (plainFor_of_name pn_com_example_verdikt_verdikt_model_Lanes) hisR ?_
  intro p e s m args below meth c s₁ Bd hml0 hP hK
  obtain ⟨rfl, hZ, hh⟩ := hP
  have hx := Bd.exec
  have hby := Bd.bytes
  have hml : c.maxLocals = 6 := hml0
  have hown : s.vm.findClass "com/example/verdikt/verdikt/model/Lanes" = some m.cls := findClass_of_methodNamed Bd.named
  have hnm := (name_of_methodNamed Bd.named Bd.method).1
  have X0 : Stand p l e ({ frames := 3, cells := 5, slots := 138, locals := 38 } : Room) s m #[(.ref r0), (.int (3 : Int32)), (.ref r2), (.int p3)] below meth c s₁ [] 0 0 := Stand.of_body Bd
  have e0 : s₁.heap = h0 := by rw [← hh, Bd.state]; rfl
  have N0 := Fr.nil n0
  show OFin p e below (fun o t L => FrameEnd s o t L ({ frames := 3, cells := 5, slots := 138, locals := 38 } : Room).cells ({ frames := 3, cells := 5, slots := 138, locals := 38 } : Room).slots) (fun v h L => Qrm12 Z r0 r2 p3 ea el bb mc ke u1 u2 u3 u4 u5 u6 w_BOOL h0 n0 v h L) s₁ (entryFrame m #[(.ref r0), (.int (3 : Int32)), (.ref r2), (.int p3)] 6)
  refine OFin.cast (ef_rm12 m r0 r2 p3) ?_
  show OFin p e below _ _ s₁ (mkF m 0 #[.val (.ref r0), .val (.int (3 : Int32)), .val (.ref r2), .val (.int p3), .unset, .unset] [])
  refine OFin.st (fun t k => XS.aloadN X0.here hx rfl (hb hby d12_0) rfl rfl k) ?_
  show OFin p e below _ _ s₁ (mkF m 1 #[.val (.ref r0), .val (.int (3 : Int32)), .val (.ref r2), .val (.int p3), .unset, .unset] [(.ref r0)])
  obtain ⟨T1, X1, e1, st1⟩ := initO X0 hx hZ hown (hw _ (List.mem_of_getElem? (i := 98) rfl)) (hw _ (List.mem_of_getElem? (i := 21) rfl)) (hw _ (List.mem_of_getElem? (i := 22) rfl)) e0 (g := (mkF m 1 #[.val (.ref r0), .val (.int (3 : Int32)), .val (.ref r2), .val (.int p3), .unset, .unset] [(.ref r0)])) rfl (by rw [hml]; rfl) rfl (hb hby d12_1) (by decide) (W := 0) (by show 2 * 0 + _ ≤ _; exact Nat.le_of_eq rfl) (by decide)
  refine OFin.st st1 ?_
  show OFin p e below _ _ T1 (mkF m 4 #[.val (.ref r0), .val (.int (3 : Int32)), .val (.ref r2), .val (.int p3), .unset, .unset] [])
  refine OFin.st (fun t k => XS.aloadN X1.here hx rfl (hb hby d12_4) rfl rfl k) ?_
  show OFin p e below _ _ T1 (mkF m 5 #[.val (.ref r0), .val (.int (3 : Int32)), .val (.ref r2), .val (.int p3), .unset, .unset] [(.ref r0)])
  refine OFin.st (fun t k => XS.iconst X1.here hx rfl (hb hby d12_5) k) ?_
  show OFin p e below _ _ T1 (mkF m 6 #[.val (.ref r0), .val (.int (3 : Int32)), .val (.ref r2), .val (.int p3), .unset, .unset] [(.int (0 : Int32)), (.ref r0)])
  obtain ⟨T2, h2, k2, X2, e2, E2, A2, EA2, Ov2, st2⟩ := own_newRA X1 hx hZ hown (t := .long) (by decide +kernel) (hw _ (List.mem_of_getElem? (i := 99) rfl)) (hw _ (List.mem_of_getElem? (i := 100) rfl)) e1 (z := (0 : Int32)) (n := 0) (cap := 0) (by decide) (by decide) (by decide) (by decide) (by decide) (ad := "[[J") (by decide +kernel) (pc := 6) (Ls := #[.val (.ref r0), .val (.int (3 : Int32)), .val (.ref r2), .val (.int p3), .unset, .unset]) (rest := [(.ref r0)]) (hb hby d12_6)
  obtain ⟨b2, gz_b2⟩ : ∃ z, z = h0.size := ⟨_, rfl⟩
  rw [← gz_b2] at A2 EA2 st2
  have N_r0_b2 : r0 ≠ b2 := Nat.ne_of_lt (Nat.lt_of_lt_of_le E_r0.lt (Nat.le_of_eq gz_b2.symm))
  have N_r2_b2 : r2 ≠ b2 := Nat.ne_of_lt (Nat.lt_of_lt_of_le E_r2.lt (Nat.le_of_eq gz_b2.symm))
  have N_ea_b2 : ea ≠ b2 := Nat.ne_of_lt (Nat.lt_of_lt_of_le A_ea.lt (Nat.le_of_eq gz_b2.symm))
  have N_el_b2 : el ≠ b2 := Nat.ne_of_lt (Nat.lt_of_lt_of_le E_el.lt (Nat.le_of_eq gz_b2.symm))
  have g_b2 : n0 ≤ b2 := Nat.le_trans (Nat.le_trans (Nat.le_of_eq O0.1.symm) O0.2.1) (Nat.le_of_eq gz_b2.symm)
  have sz_b2 : h0.size ≤ b2 := Nat.le_trans (Keep.refl h0 [r0]).1 (Nat.le_of_eq gz_b2.symm)
  have K2 : Keep h0 h2 [r0] := (Keep.refl h0 [r0]).ext E2
  have O2 : Old Z n0 h2 := O0.ext E2
  have V2 : Oar Z h2 b2 k2 (.array .long) [] := A2
  refine OFin.st st2 ?_
  show OFin p e below _ _ T2 (mkF m 9 #[.val (.ref r0), .val (.int (3 : Int32)), .val (.ref r2), .val (.int p3), .unset, .unset] [(.ref b2), (.ref r0)])
  obtain ⟨T3, h3, X3, e3, W3, st3⟩ := putF X2 hx hZ hown (host := "") (Or.inl (hw _ (List.mem_of_getElem? (i := 101) rfl))) Via.refl e2 (F_lent_r0.ext E2) (E_r0.ext E2) (Or.inl (hw _ (List.mem_of_getElem? (i := 102) rfl))) (hw _ (List.mem_of_getElem? (i := 93) rfl)) (ty := (.array (.array .long))) (by decide) rfl rfl (g := (mkF m 9 #[.val (.ref r0), .val (.int (3 : Int32)), .val (.ref r2), .val (.int p3), .unset, .unset] [(.ref b2), (.ref r0)])) rfl rfl (hb hby d12_9)
  refine OFin.st st3 ?_
  have Fw3 := (F_lent_r0.ext E2).same W3
  have N3 := Fr.snoc X3 N0 g_r0
  have K3 : Keep h0 h3 [r0] := K2.wr W3 (Or.inl (List.mem_of_getElem? (i := 0) rfl))
  have O3 : Old Z n0 h3 := O2.wr W3 g_r0
  show OFin p e below _ _ T3 (mkF m 12 #[.val (.ref r0), .val (.int (3 : Int32)), .val (.ref r2), .val (.int p3), .unset, .unset] [])
  refine OFin.st (fun t k => XS.iloadN X3.here hx rfl (hb hby d12_12) rfl k) ?_
  show OFin p e below _ _ T3 (mkF m 13 #[.val (.ref r0), .val (.int (3 : Int32)), .val (.ref r2), .val (.int p3), .unset, .unset] [(.int p3)])
  refine OFin.st (fun t k => XS.iconst X3.here hx rfl (hb hby d12_13) k) ?_
  show OFin p e below _ _ T3 (mkF m 14 #[.val (.ref r0), .val (.int (3 : Int32)), .val (.ref r2), .val (.int p3), .unset, .unset] [(.int (1 : Int32)), (.int p3)])
  refine OFin.st (fun t k => XS.icmpNo X3.here hx rfl (hb hby d12_14) rfl (flt hw1).1 k) ?_
  show OFin p e below _ _ T3 (mkF m 17 #[.val (.ref r0), .val (.int (3 : Int32)), .val (.ref r2), .val (.int p3), .unset, .unset] [])
  refine OFin.st (fun t k => XS.iloadN X3.here hx rfl (hb hby d12_17) rfl k) ?_
  show OFin p e below _ _ T3 (mkF m 18 #[.val (.ref r0), .val (.int (3 : Int32)), .val (.ref r2), .val (.int p3), .unset, .unset] [(.int p3)])
  refine OFin.st (fun t k => XS.bipush X3.here hx rfl (hb hby d12_18) k) ?_
  show OFin p e below _ _ T3 (mkF m 20 #[.val (.ref r0), .val (.int (3 : Int32)), .val (.ref r2), .val (.int p3), .unset, .unset] [(.int (64 : Int32)), (.int p3)])
  refine OFin.st (fun t k => XS.icmpYes X3.here hx rfl (pc0 := 20) (pc' := 37) rfl (hb hby d12_20) rfl (flt hw2).2.2.2 (by decide) (by decide) k) ?_
  show OFin p e below _ _ T3 (mkF m 37 #[.val (.ref r0), .val (.int (3 : Int32)), .val (.ref r2), .val (.int p3), .unset, .unset] [])
  refine OFin.st (fun t k => XS.aloadN X3.here hx rfl (hb hby d12_37) rfl rfl k) ?_
  show OFin p e below _ _ T3 (mkF m 38 #[.val (.ref r0), .val (.int (3 : Int32)), .val (.ref r2), .val (.int p3), .unset, .unset] [(.ref r0)])
  refine OFin.st (fun t k => XS.iloadN X3.here hx rfl (hb hby d12_38) rfl k) ?_
  show OFin p e below _ _ T3 (mkF m 39 #[.val (.ref r0), .val (.int (3 : Int32)), .val (.ref r2), .val (.int p3), .unset, .unset] [(.int p3), (.ref r0)])
  have c4 := ((F_width_r0.ext E2).other W3 (Or.inr (slot_ne (Or.inr (hw _ (List.mem_of_getElem? (i := 104) rfl))) (Or.inl (hw _ (List.mem_of_getElem? (i := 102) rfl))) (by decide) (t := .int) (t' := (.array (.array .long))) (by decide) (by decide))))
  obtain ⟨T5, h5, X5, e5, W5, st5⟩ := putF X3 hx hZ hown (host := "") (Or.inl (hw _ (List.mem_of_getElem? (i := 103) rfl))) Via.refl e3 c4 ((E_r0.ext E2).wr W3) (Or.inr ⟨(hw _ (List.mem_of_getElem? (i := 104) rfl)), rfl, hnm⟩) (hw _ (List.mem_of_getElem? (i := 93) rfl)) (ty := .int) (by decide) rfl rfl (g := (mkF m 39 #[.val (.ref r0), .val (.int (3 : Int32)), .val (.ref r2), .val (.int p3), .unset, .unset] [(.int p3), (.ref r0)])) rfl rfl (hb hby d12_39)
  refine OFin.st st5 ?_
  have Fw5 := c4.same W5
  have N5 := Fr.snoc X5 N3 g_r0
  have K5 : Keep h0 h5 [r0] := K3.wr W5 (Or.inl (List.mem_of_getElem? (i := 0) rfl))
  have O5 : Old Z n0 h5 := O3.wr W5 g_r0
  show OFin p e below _ _ T5 (mkF m 42 #[.val (.ref r0), .val (.int (3 : Int32)), .val (.ref r2), .val (.int p3), .unset, .unset] [])
  refine OFin.st (fun t k => XS.aloadN X5.here hx rfl (hb hby d12_42) rfl rfl k) ?_
  show OFin p e below _ _ T5 (mkF m 43 #[.val (.ref r0), .val (.int (3 : Int32)), .val (.ref r2), .val (.int p3), .unset, .unset] [(.ref r0)])
  refine OFin.st (fun t k => XS.iloadN X5.here hx rfl (hb hby d12_43) rfl k) ?_
  show OFin p e below _ _ T5 (mkF m 44 #[.val (.ref r0), .val (.int (3 : Int32)), .val (.ref r2), .val (.int p3), .unset, .unset] [(.int p3), (.ref r0)])
  refine OFin.st (fun t k => XS.bipush X5.here hx rfl (hb hby d12_44) k) ?_
  show OFin p e below _ _ T5 (mkF m 46 #[.val (.ref r0), .val (.int (3 : Int32)), .val (.ref r2), .val (.int p3), .unset, .unset] [(.int (64 : Int32)), (.int p3), (.ref r0)])
  have join6 : ∀ (qa : Int64), ∀ (T6 : State) (locs6 : List Loc), Stand p l e ({ frames := 3, cells := 5, slots := 138, locals := 38 } : Room) s m #[(.ref r0), (.int (3 : Int32)), (.ref r2), (.int p3)] below meth c T6 locs6 1 0 → T6.heap = h5 → Fr n0 locs6 → OFin p e below (fun o t L => FrameEnd s o t L ({ frames := 3, cells := 5, slots := 138, locals := 38 } : Room).cells ({ frames := 3, cells := 5, slots := 138, locals := 38 } : Room).slots) (fun v h L => Qrm12 Z r0 r2 p3 ea el bb mc ke u1 u2 u3 u4 u5 u6 w_BOOL h0 n0 v h L) T6 (mkF m 60 #[.val (.ref r0), .val (.int (3 : Int32)), .val (.ref r2), .val (.int p3), .unset, .unset] [(.long qa), (.ref r0)]) := by
    intro qa  T6 locs6 X6 e6 N6
    have c7 := (((F_all_r0.ext E2).other W3 (Or.inr (slot_ne (Or.inr (hw _ (List.mem_of_getElem? (i := 106) rfl))) (Or.inl (hw _ (List.mem_of_getElem? (i := 102) rfl))) (by decide) (t := .long) (t' := (.array (.array .long))) (by decide) (by decide)))).other W5 (Or.inr (slot_ne (Or.inr (hw _ (List.mem_of_getElem? (i := 106) rfl))) (Or.inr (hw _ (List.mem_of_getElem? (i := 104) rfl))) (by decide) (t := .long) (t' := .int) (by decide) (by decide))))
    obtain ⟨T8, h8, X8, e8, W8, st8⟩ := putF X6 hx hZ hown (host := "") (Or.inl (hw _ (List.mem_of_getElem? (i := 105) rfl))) Via.refl e6 c7 (((E_r0.ext E2).wr W3).wr W5) (Or.inr ⟨(hw _ (List.mem_of_getElem? (i := 106) rfl)), rfl, hnm⟩) (hw _ (List.mem_of_getElem? (i := 93) rfl)) (ty := .long) (by decide) rfl rfl (g := (mkF m 60 #[.val (.ref r0), .val (.int (3 : Int32)), .val (.ref r2), .val (.int p3), .unset, .unset] [(.long qa), (.ref r0)])) rfl rfl (hb hby d12_60)
    refine OFin.st st8 ?_
    have Fw8 := c7.same W8
    have N8 := Fr.snoc X8 N6 g_r0
    have K8 : Keep h0 h8 [r0] := K5.wr W8 (Or.inl (List.mem_of_getElem? (i := 0) rfl))
    have O8 : Old Z n0 h8 := O5.wr W8 g_r0
    show OFin p e below _ _ T8 (mkF m 63 #[.val (.ref r0), .val (.int (3 : Int32)), .val (.ref r2), .val (.int p3), .unset, .unset] [])
    refine OFin.st (fun t k => XS.aloadN X8.here hx rfl (hb hby d12_63) rfl rfl k) ?_
    show OFin p e below _ _ T8 (mkF m 64 #[.val (.ref r0), .val (.int (3 : Int32)), .val (.ref r2), .val (.int p3), .unset, .unset] [(.ref r0)])
    refine OFin.st (fun t k => XS.iloadN X8.here hx rfl (hb hby d12_64) rfl k) ?_
    show OFin p e below _ _ T8 (mkF m 65 #[.val (.ref r0), .val (.int (3 : Int32)), .val (.ref r2), .val (.int p3), .unset, .unset] [(.int (3 : Int32)), (.ref r0)])
    obtain ⟨T9, h9, k9, X9, e9, E9, A9, st9⟩ := own_newP X8 hx hZ (hw _ (List.mem_of_getElem? (i := 107) rfl)) e8 (z := (3 : Int32)) (n := 3) (cap := 3) (by decide) (by decide) (by decide) (by decide) (by decide) (pc := 65) (Ls := #[.val (.ref r0), .val (.int (3 : Int32)), .val (.ref r2), .val (.int p3), .unset, .unset]) (rest := [(.ref r0)]) (hb hby d12_65)
    obtain ⟨b9, gz_b9⟩ : ∃ z, z = h8.size := ⟨_, rfl⟩
    rw [← gz_b9] at A9 st9
    have N_r0_b9 : r0 ≠ b9 := Nat.ne_of_lt (Nat.lt_of_lt_of_le ((((E_r0.ext E2).wr W3).wr W5).wr W8).lt (Nat.le_of_eq gz_b9.symm))
    have N_r2_b9 : r2 ≠ b9 := Nat.ne_of_lt (Nat.lt_of_lt_of_le ((((E_r2.ext E2).wr W3).wr W5).wr W8).lt (Nat.le_of_eq gz_b9.symm))
    have c10 := ((((A_ea.ext E2).other W3 N_ea_r0).other W5 N_ea_r0).other W8 N_ea_r0)
    have N_ea_b9 : ea ≠ b9 := Nat.ne_of_lt (Nat.lt_of_lt_of_le c10.lt (Nat.le_of_eq gz_b9.symm))
    have N_el_b9 : el ≠ b9 := Nat.ne_of_lt (Nat.lt_of_lt_of_le ((((E_el.ext E2).wr W3).wr W5).wr W8).lt (Nat.le_of_eq gz_b9.symm))
    have c11 := (((V2.other W3 (Ne.symm N_r0_b2)).other W5 (Ne.symm N_r0_b2)).other W8 (Ne.symm N_r0_b2))
    have N_b2_b9 : b2 ≠ b9 := Nat.ne_of_lt (Nat.lt_of_lt_of_le c11.lt (Nat.le_of_eq gz_b9.symm))
    have g_b9 : n0 ≤ b9 := Nat.le_trans (Nat.le_trans (Nat.le_of_eq O8.1.symm) O8.2.1) (Nat.le_of_eq gz_b9.symm)
    have sz_b9 : h0.size ≤ b9 := Nat.le_trans K8.1 (Nat.le_of_eq gz_b9.symm)
    have K9 : Keep h0 h9 [r0] := K8.ext E9
    have O9 : Old Z n0 h9 := O8.ext E9
    have V9 : Oar Z h9 b9 k9 .int [(.int (0 : Int32)), (.int (0 : Int32)), (.int (0 : Int32))] := A9
    refine OFin.st st9 ?_
    show OFin p e below _ _ T9 (mkF m 67 #[.val (.ref r0), .val (.int (3 : Int32)), .val (.ref r2), .val (.int p3), .unset, .unset] [(.ref b9), (.ref r0)])
    have c12 := (((((F_offsets_r0.ext E2).other W3 (Or.inr (slot_ne (Or.inr (hw _ (List.mem_of_getElem? (i := 109) rfl))) (Or.inl (hw _ (List.mem_of_getElem? (i := 102) rfl))) (by decide) (t := (.array .int)) (t' := (.array (.array .long))) (by decide) (by decide)))).other W5 (Or.inr (slot_ne (Or.inr (hw _ (List.mem_of_getElem? (i := 109) rfl))) (Or.inr (hw _ (List.mem_of_getElem? (i := 104) rfl))) (by decide) (t := (.array .int)) (t' := .int) (by decide) (by decide)))).other W8 (Or.inr (slot_ne (Or.inr (hw _ (List.mem_of_getElem? (i := 109) rfl))) (Or.inr (hw _ (List.mem_of_getElem? (i := 106) rfl))) (by decide) (t := (.array .int)) (t' := .long) (by decide) (by decide)))).ext E9)
    obtain ⟨T13, h13, X13, e13, W13, st13⟩ := putF X9 hx hZ hown (host := "") (Or.inl (hw _ (List.mem_of_getElem? (i := 108) rfl))) Via.refl e9 c12 (((((E_r0.ext E2).wr W3).wr W5).wr W8).ext E9) (Or.inr ⟨(hw _ (List.mem_of_getElem? (i := 109) rfl)), rfl, hnm⟩) (hw _ (List.mem_of_getElem? (i := 93) rfl)) (ty := (.array .int)) (by decide) rfl rfl (g := (mkF m 67 #[.val (.ref r0), .val (.int (3 : Int32)), .val (.ref r2), .val (.int p3), .unset, .unset] [(.ref b9), (.ref r0)])) rfl rfl (hb hby d12_67)
    refine OFin.st st13 ?_
    have Fw13 := c12.same W13
    have N13 := Fr.snoc X13 N8 g_r0
    have K13 : Keep h0 h13 [r0] := K9.wr W13 (Or.inl (List.mem_of_getElem? (i := 0) rfl))
    have O13 : Old Z n0 h13 := O9.wr W13 g_r0
    show OFin p e below _ _ T13 (mkF m 70 #[.val (.ref r0), .val (.int (3 : Int32)), .val (.ref r2), .val (.int p3), .unset, .unset] [])
    refine OFin.st (fun t k => XS.aloadN X13.here hx rfl (hb hby d12_70) rfl rfl k) ?_
    show OFin p e below _ _ T13 (mkF m 71 #[.val (.ref r0), .val (.int (3 : Int32)), .val (.ref r2), .val (.int p3), .unset, .unset] [(.ref r2)])
    have c14 := ((((((F_modCount_r2.ext E2).other W3 (Or.inl N_r2_r0)).other W5 (Or.inl N_r2_r0)).other W8 (Or.inl N_r2_r0)).ext E9).other W13 (Or.inl N_r2_r0))
    obtain ⟨cq15, kq15, q15a, q15b, q15c⟩ := isOf hZ e13 ((((((E_r2.ext E2).wr W3).wr W5).wr W8).ext E9).wr W13)
    obtain ⟨_, _, ⟨T15, L15, k15, n15⟩, -, X15, ⟨Lc15, hQ15, l15, y15, z15⟩, st15⟩ := X13.interfaceBack hx (xi := (⟨"java/util/List", "iterator", "()Ljava/util/Iterator;"⟩ : MethodName)) (y := (⟨"java/util/ArrayList", "iterator", "()Ljava/util/Iterator;"⟩ : MethodName)) hown (mvT hZ (hw _ (List.mem_of_getElem? (i := 110) rfl))) (mvT hZ (hw _ (List.mem_of_getElem? (i := 111) rfl))) (mvT hZ (hw _ (List.mem_of_getElem? (i := 112) rfl))) (mvT hZ (hw _ (List.mem_of_getElem? (i := 113) rfl))) (mvT hZ (hw _ (List.mem_of_getElem? (i := 114) rfl))) (mvT hZ (hw _ (List.mem_of_getElem? (i := 115) rfl))) (mvT hZ (hw _ (List.mem_of_getElem? (i := 116) rfl))) (mvT hZ (hw _ (List.mem_of_getElem? (i := 117) rfl))) (by decide) (backOf (W := 0) (rm13 l Z a0 hw [] r2 mc h13 n0 O13 c14) hZ (hw _ (List.mem_of_getElem? (i := 118) rfl)) (hw _ (List.mem_of_getElem? (i := 4) rfl)) (by decide) (by decide)) q15a q15b q15c (g := (mkF m 71 #[.val (.ref r0), .val (.int (3 : Int32)), .val (.ref r2), .val (.int p3), .unset, .unset] [(.ref r2)])) rfl (by rw [hml]; rfl) (Steps.refl _) (argsL := []) (rest := []) (lenOf pd_3 rfl) rfl (by show 2 * 0 + _ ≤ _; exact Nat.le_of_eq rfl) (hb hby d12_71) (fun _ _ => ⟨rfl, e13, (by decide : 2 + 1 ≤ _), (by decide : 3 + 4 ≤ _)⟩)
    dsimp only [Pt.U, Pt.locs, Pt.cells, Pt.slots] at X15 l15 y15 z15 st15 hQ15
    subst l15 y15 z15
    have X15 : Stand p l e ({ frames := 3, cells := 5, slots := 138, locals := 38 } : Room) s m #[(.ref r0), (.int (3 : Int32)), (.ref r2), (.int p3)] below meth c T15 _ 3 7 := X15
    obtain ⟨b15, rfl, N15q, K15q, P15_0, P15_1, P15_2, P15_3, P15_4, P15_5⟩ := hQ15
    have N15 := Fr.app N13 N15q
    have K15 : Keep h0 T15.heap [r0] := K13.trans K15q all0
    have O15 : Old Z n0 T15.heap := O13.keep K15q all0
    have N_r0_b15 : r0 ≠ b15 := Nat.ne_of_lt (Nat.lt_of_lt_of_le ((((((E_r0.ext E2).wr W3).wr W5).wr W8).ext E9).wr W13).lt P15_5)
    have N_r2_b15 : r2 ≠ b15 := Nat.ne_of_lt (Nat.lt_of_lt_of_le ((((((E_r2.ext E2).wr W3).wr W5).wr W8).ext E9).wr W13).lt P15_5)
    have N_ea_b15 : ea ≠ b15 := Nat.ne_of_lt (Nat.lt_of_lt_of_le ((c10.ext E9).other W13 N_ea_r0).lt P15_5)
    have N_el_b15 : el ≠ b15 := Nat.ne_of_lt (Nat.lt_of_lt_of_le ((((((E_el.ext E2).wr W3).wr W5).wr W8).ext E9).wr W13).lt P15_5)
    have N_b2_b15 : b2 ≠ b15 := Nat.ne_of_lt (Nat.lt_of_lt_of_le ((c11.ext E9).other W13 (Ne.symm N_r0_b2)).lt P15_5)
    have N_b9_b15 : b9 ≠ b15 := Nat.ne_of_lt (Nat.lt_of_lt_of_le (V9.other W13 (Ne.symm N_r0_b9)).lt P15_5)
    have g_b15 : n0 ≤ b15 := Nat.le_trans (Nat.le_trans (Nat.le_of_eq O13.1.symm) O13.2.1) P15_5
    have sz_b15 : h0.size ≤ b15 := Nat.le_trans K13.1 P15_5
    refine OFin.tr st15 ?_
    show OFin p e below _ _ T15 (mkF m 76 #[.val (.ref r0), .val (.int (3 : Int32)), .val (.ref r2), .val (.int p3), .unset, .unset] [(.ref b15)])
    refine OFin.st (fun t k => XS.astore X15.here hx rfl (hb hby d12_76) rfl rfl (l' := #[.val (.ref r0), .val (.int (3 : Int32)), .val (.ref r2), .val (.int p3), .val (.ref b15), .unset]) rfl k) ?_
    show OFin p e below _ _ T15 (mkF m 78 #[.val (.ref r0), .val (.int (3 : Int32)), .val (.ref r2), .val (.int p3), .val (.ref b15), .unset] [])
    refine OFin.st (fun t k => XS.aload X15.here hx rfl (hb hby d12_78) rfl rfl k) ?_
    show OFin p e below _ _ T15 (mkF m 80 #[.val (.ref r0), .val (.int (3 : Int32)), .val (.ref r2), .val (.int p3), .val (.ref b15), .unset] [(.ref b15)])
    have c16 := (((((((F_size_r2.ext E2).other W3 (Or.inl N_r2_r0)).other W5 (Or.inl N_r2_r0)).other W8 (Or.inl N_r2_r0)).ext E9).other W13 (Or.inl N_r2_r0)).keep K15q nin0)
    obtain ⟨cq17, kq17, q17a, q17b, q17c⟩ := isOf hZ rfl P15_0
    obtain ⟨_, _, ⟨T17, L17, k17, n17⟩, -, X17, ⟨Lc17, hQ17, l17, y17, z17⟩, st17⟩ := X15.interfaceBack hx (xi := (⟨"java/util/Iterator", "hasNext", "()Z"⟩ : MethodName)) (y := (⟨"java/util/ArrayList$Itr", "hasNext", "()Z"⟩ : MethodName)) hown (mvT hZ (hw _ (List.mem_of_getElem? (i := 134) rfl))) (mvT hZ (hw _ (List.mem_of_getElem? (i := 135) rfl))) (mvT hZ (hw _ (List.mem_of_getElem? (i := 136) rfl))) (mvT hZ (hw _ (List.mem_of_getElem? (i := 137) rfl))) (mvT hZ (hw _ (List.mem_of_getElem? (i := 138) rfl))) (mvT hZ (hw _ (List.mem_of_getElem? (i := 139) rfl))) (mvT hZ (hw _ (List.mem_of_getElem? (i := 140) rfl))) (mvT hZ (hw _ (List.mem_of_getElem? (i := 141) rfl))) (by decide) (backOf (W := 0) (rm15 l Z a0 hw [] b15 (0 : Int32) r2 ((0 : Int32) + (1 : Int32)) T15.heap n0 O15 P15_2 P15_1 c16) hZ (hw _ (List.mem_of_getElem? (i := 142) rfl)) (hw _ (List.mem_of_getElem? (i := 121) rfl)) (by decide) (by decide)) q17a q17b q17c (g := (mkF m 80 #[.val (.ref r0), .val (.int (3 : Int32)), .val (.ref r2), .val (.int p3), .val (.ref b15), .unset] [(.ref b15)])) rfl (by rw [hml]; rfl) (Steps.refl _) (argsL := []) (rest := []) (lenOf pd_5 rfl) rfl (by show 2 * 0 + _ ≤ _; exact Nat.le_of_eq rfl) (hb hby d12_80) (fun _ _ => ⟨rfl, rfl, (by decide : 3 + 0 ≤ _), (by decide : 7 + 0 ≤ _)⟩)
    dsimp only [Pt.U, Pt.locs, Pt.cells, Pt.slots] at X17 l17 y17 z17 st17 hQ17
    subst l17 y17 z17
    have X17 : Stand p l e ({ frames := 3, cells := 5, slots := 138, locals := 38 } : Room) s m #[(.ref r0), (.int (3 : Int32)), (.ref r2), (.int p3)] below meth c T17 _ 3 7 := X17
    obtain ⟨rfl, N17q, e17⟩ := hQ17
    have N17 := Fr.app N15 N17q
    refine OFin.tr st17 ?_
    show OFin p e below _ _ T17 (mkF m 85 #[.val (.ref r0), .val (.int (3 : Int32)), .val (.ref r2), .val (.int p3), .val (.ref b15), .unset] [(.int (F15 b15 (0 : Int32) r2 ((0 : Int32) + (1 : Int32))))])
    refine OFin.st (fun t k => XS.ifNo X17.here hx rfl (hb hby d12_85) rfl ((if0 _ _).trans (feq (by rw [F15, if_neg (by decide)]; decide)).1) k) ?_
    show OFin p e below _ _ T17 (mkF m 88 #[.val (.ref r0), .val (.int (3 : Int32)), .val (.ref r2), .val (.int p3), .val (.ref b15), .unset] [])
    refine OFin.st (fun t k => XS.aload X17.here hx rfl (hb hby d12_88) rfl rfl k) ?_
    show OFin p e below _ _ T17 (mkF m 90 #[.val (.ref r0), .val (.int (3 : Int32)), .val (.ref r2), .val (.int p3), .val (.ref b15), .unset] [(.ref b15)])
    have c18 := (((((((F_elementData_r2.ext E2).other W3 (Or.inl N_r2_r0)).other W5 (Or.inl N_r2_r0)).other W8 (Or.inl N_r2_r0)).ext E9).other W13 (Or.inl N_r2_r0)).keep K15q nin0)
    obtain ⟨cq19, kq19, q19a, q19b, q19c⟩ := isOf hZ e17 P15_0
    obtain ⟨_, _, ⟨T19, L19, k19, n19⟩, -, X19, ⟨Lc19, hQ19, l19, y19, z19⟩, st19⟩ := X17.interfaceBack hx (xi := (⟨"java/util/Iterator", "next", "()Ljava/lang/Object;"⟩ : MethodName)) (y := (⟨"java/util/ArrayList$Itr", "next", "()Ljava/lang/Object;"⟩ : MethodName)) hown (mvT hZ (hw _ (List.mem_of_getElem? (i := 146) rfl))) (mvT hZ (hw _ (List.mem_of_getElem? (i := 147) rfl))) (mvT hZ (hw _ (List.mem_of_getElem? (i := 148) rfl))) (mvT hZ (hw _ (List.mem_of_getElem? (i := 149) rfl))) (mvT hZ (hw _ (List.mem_of_getElem? (i := 150) rfl))) (mvT hZ (hw _ (List.mem_of_getElem? (i := 151) rfl))) (mvT hZ (hw _ (List.mem_of_getElem? (i := 152) rfl))) (mvT hZ (hw _ (List.mem_of_getElem? (i := 141) rfl))) (by decide) (backOf (W := 0) (rm16 l Z a0 hw [] b15 r2 ea el mc ke (.int (-1 : Int32)) T15.heap n0 O15 P15_0 P15_1 P15_2 P15_3 P15_4 c18 c16 (c14.keep K15q nin0) (((c10.ext E9).other W13 N_ea_r0).keep K15q nin0) g_b15 N_r2_b15 N_ea_b15) hZ (hw _ (List.mem_of_getElem? (i := 153) rfl)) (hw _ (List.mem_of_getElem? (i := 121) rfl)) (by decide) (by decide)) q19a q19b q19c (g := (mkF m 90 #[.val (.ref r0), .val (.int (3 : Int32)), .val (.ref r2), .val (.int p3), .val (.ref b15), .unset] [(.ref b15)])) rfl (by rw [hml]; rfl) (Steps.refl _) (argsL := []) (rest := []) (lenOf pd_2 rfl) rfl (by show 2 * 0 + _ ≤ _; exact Nat.le_of_eq rfl) (hb hby d12_90) (fun _ _ => ⟨rfl, e17, (by decide : 3 + 0 ≤ _), (by decide : 7 + 0 ≤ _)⟩)
    dsimp only [Pt.U, Pt.locs, Pt.cells, Pt.slots] at X19 l19 y19 z19 st19 hQ19
    subst l19 y19 z19
    have X19 : Stand p l e ({ frames := 3, cells := 5, slots := 138, locals := 38 } : Room) s m #[(.ref r0), (.int (3 : Int32)), (.ref r2), (.int p3)] below meth c T19 _ 3 7 := X19
    obtain ⟨rfl, N19q, K19q, P19_0, P19_1, P19_2, P19_3⟩ := hQ19
    have N19 := Fr.app N17 N19q
    have K19 : Keep h0 T19.heap [r0] := K15.trans K19q (allS (Or.inr sz_b15) all0)
    have O19 : Old Z n0 T19.heap := O15.keep K19q (allS g_b15 all0)
    refine OFin.tr st19 ?_
    show OFin p e below _ _ T19 (mkF m 95 #[.val (.ref r0), .val (.int (3 : Int32)), .val (.ref r2), .val (.int p3), .val (.ref b15), .unset] [(.ref el)])
    have c20 := ((((((((E_el.ext E2).wr W3).wr W5).wr W8).ext E9).wr W13).keep K15q).keep K19q)
    obtain ⟨T21, X21, e21, st21⟩ := castY X19 hx hZ hown (hw _ (List.mem_of_getElem? (i := 160) rfl)) rfl (Ins.self c20) (g := (mkF m 95 #[.val (.ref r0), .val (.int (3 : Int32)), .val (.ref r2), .val (.int p3), .val (.ref b15), .unset] [(.ref el)])) rfl rfl (hb hby d12_95)
    refine OFin.st st21 ?_
    show OFin p e below _ _ T21 (mkF m 98 #[.val (.ref r0), .val (.int (3 : Int32)), .val (.ref r2), .val (.int p3), .val (.ref b15), .unset] [(.ref el)])
    refine OFin.st (fun t k => XS.astore X21.here hx rfl (hb hby d12_98) rfl rfl (l' := #[.val (.ref r0), .val (.int (3 : Int32)), .val (.ref r2), .val (.int p3), .val (.ref b15), .val (.ref el)]) rfl k) ?_
    show OFin p e below _ _ T21 (mkF m 100 #[.val (.ref r0), .val (.int (3 : Int32)), .val (.ref r2), .val (.int p3), .val (.ref b15), .val (.ref el)] [])
    refine OFin.st (fun t k => XS.aload X21.here hx rfl (hb hby d12_100) rfl rfl k) ?_
    show OFin p e below _ _ T21 (mkF m 102 #[.val (.ref r0), .val (.int (3 : Int32)), .val (.ref r2), .val (.int p3), .val (.ref b15), .val (.ref el)] [(.ref el)])
    have c22 := ((((((((F_type_el.ext E2).other W3 (Or.inl N_el_r0)).other W5 (Or.inl N_el_r0)).other W8 (Or.inl N_el_r0)).ext E9).other W13 (Or.inl N_el_r0)).keep K15q nin0).keep K19q (ninS N_el_b15 nin0))
    obtain ⟨cq23, kq23, q23a, q23b, q23c⟩ := isOf hZ e21 c20
    obtain ⟨_, _, ⟨T23, L23, k23, n23⟩, -, X23, ⟨Lc23, hQ23, l23, y23, z23⟩, st23⟩ := X21.virtualBack hx (y := (⟨"com/example/verdikt/verdikt/model/Variable", "type", "()Lcom/example/verdikt/verdikt/model/ElementaryType;"⟩ : MethodName)) (z := (⟨"com/example/verdikt/verdikt/model/Variable", "type", "()Lcom/example/verdikt/verdikt/model/ElementaryType;"⟩ : MethodName)) hown (mvT hZ (hw _ (List.mem_of_getElem? (i := 162) rfl))) (mvT hZ (hw _ (List.mem_of_getElem? (i := 163) rfl))) (notFace_of_selects (args := #[]) (mvT hZ (hw _ (List.mem_of_getElem? (i := 165) rfl)))) (mvT hZ (hw _ (List.mem_of_getElem? (i := 165) rfl))) (mvT hZ (hw _ (List.mem_of_getElem? (i := 164) rfl))) (by decide) (backOf (W := 0) (rm18 l Z a0 hw [] el w_BOOL T19.heap n0 O19 c22) hZ (hw _ (List.mem_of_getElem? (i := 166) rfl)) (hw _ (List.mem_of_getElem? (i := 30) rfl)) (by decide) (by decide)) q23a q23c (g := (mkF m 102 #[.val (.ref r0), .val (.int (3 : Int32)), .val (.ref r2), .val (.int p3), .val (.ref b15), .val (.ref el)] [(.ref el)])) rfl (by rw [hml]; rfl) (Steps.refl _) (argsL := []) (rest := []) (lenOf pd_1 rfl) rfl (by show 2 * 0 + _ ≤ _; exact Nat.le_of_eq rfl) (hb hby d12_102) (fun _ _ => ⟨rfl, e21, (by decide : 3 + 0 ≤ _), (by decide : 7 + 0 ≤ _)⟩)
    dsimp only [Pt.U, Pt.locs, Pt.cells, Pt.slots] at X23 l23 y23 z23 st23 hQ23
    subst l23 y23 z23
    have X23 : Stand p l e ({ frames := 3, cells := 5, slots := 138, locals := 38 } : Room) s m #[(.ref r0), (.int (3 : Int32)), (.ref r2), (.int p3)] below meth c T23 _ 3 7 := X23
    obtain ⟨rfl, N23q, e23⟩ := hQ23
    have N23 := Fr.app N19 N23q
    refine OFin.tr st23 ?_
    show OFin p e below _ _ T23 (mkF m 105 #[.val (.ref r0), .val (.int (3 : Int32)), .val (.ref r2), .val (.int p3), .val (.ref b15), .val (.ref el)] [(.ref (F18 el w_BOOL))])
    obtain ⟨T24, X24, e24, st24⟩ := getS2 X23 hx hZ hown (host := "") (Or.inl (hw _ (List.mem_of_getElem? (i := 167) rfl))) Via.refl e23 (S_BOOL.ext O19.2) (g := (mkF m 105 #[.val (.ref r0), .val (.int (3 : Int32)), .val (.ref r2), .val (.int p3), .val (.ref b15), .val (.ref el)] [(.ref (F18 el w_BOOL))])) rfl (hb hby d12_105)
    refine OFin.st st24 ?_
    show OFin p e below _ _ T24 (mkF m 108 #[.val (.ref r0), .val (.int (3 : Int32)), .val (.ref r2), .val (.int p3), .val (.ref b15), .val (.ref el)] [(.ref w_BOOL), (.ref (F18 el w_BOOL))])
    refine OFin.st (fun t k => Jvm.RoadKit.acmp (g := (mkF m 108 #[.val (.ref r0), .val (.int (3 : Int32)), .val (.ref r2), .val (.int p3), .val (.ref b15), .val (.ref el)] [(.ref w_BOOL), (.ref (F18 el w_BOOL))])) X24 hx rfl rfl rfl (pc0 := 108) (pc' := 111) (same := true) rfl (hb hby d12_108) rfl (decide_eq_true (congrArg Value.ref rfl)) (by decide) (by decide) k) ?_
    show OFin p e below _ _ T24 (mkF m 111 #[.val (.ref r0), .val (.int (3 : Int32)), .val (.ref r2), .val (.int p3), .val (.ref b15), .val (.ref el)] [])
    refine OFin.st (fun t k => XS.aloadN X24.here hx rfl (hb hby d12_111) rfl rfl k) ?_
    show OFin p e below _ _ T24 (mkF m 112 #[.val (.ref r0), .val (.int (3 : Int32)), .val (.ref r2), .val (.int p3), .val (.ref b15), .val (.ref el)] [(.ref r0)])
    obtain ⟨T25, X25, e25, st25⟩ := getF X24 hx hZ hown (host := "") (Or.inl (hw _ (List.mem_of_getElem? (i := 108) rfl))) Via.refl e24 ((Fw13.keep K15q nin0).keep K19q (ninS N_r0_b15 nin0)) (g := (mkF m 112 #[.val (.ref r0), .val (.int (3 : Int32)), .val (.ref r2), .val (.int p3), .val (.ref b15), .val (.ref el)] [(.ref r0)])) rfl rfl (hb hby d12_112)
    refine OFin.st st25 ?_
    show OFin p e below _ _ T25 (mkF m 115 #[.val (.ref r0), .val (.int (3 : Int32)), .val (.ref r2), .val (.int p3), .val (.ref b15), .val (.ref el)] [(.ref b9)])
    refine OFin.st (fun t k => XS.aload X25.here hx rfl (hb hby d12_115) rfl rfl k) ?_
    show OFin p e below _ _ T25 (mkF m 117 #[.val (.ref r0), .val (.int (3 : Int32)), .val (.ref r2), .val (.int p3), .val (.ref b15), .val (.ref el)] [(.ref el), (.ref b9)])
    have c26 := ((((((((F_index_el.ext E2).other W3 (Or.inl N_el_r0)).other W5 (Or.inl N_el_r0)).other W8 (Or.inl N_el_r0)).ext E9).other W13 (Or.inl N_el_r0)).keep K15q nin0).keep K19q (ninS N_el_b15 nin0))
    obtain ⟨cq27, kq27, q27a, q27b, q27c⟩ := isOf hZ e25 c20
    obtain ⟨_, _, ⟨T27, L27, k27, n27⟩, -, X27, ⟨Lc27, hQ27, l27, y27, z27⟩, st27⟩ := X25.virtualBack hx (y := (⟨"com/example/verdikt/verdikt/model/Variable", "index", "()I"⟩ : MethodName)) (z := (⟨"com/example/verdikt/verdikt/model/Variable", "index", "()I"⟩ : MethodName)) hown (mvT hZ (hw _ (List.mem_of_getElem? (i := 168) rfl))) (mvT hZ (hw _ (List.mem_of_getElem? (i := 169) rfl))) (notFace_of_selects (args := #[]) (mvT hZ (hw _ (List.mem_of_getElem? (i := 171) rfl)))) (mvT hZ (hw _ (List.mem_of_getElem? (i := 171) rfl))) (mvT hZ (hw _ (List.mem_of_getElem? (i := 170) rfl))) (by decide) (backOf (W := 1) (rm19 l Z a0 hw [] el bb T19.heap n0 O19 c26) hZ (hw _ (List.mem_of_getElem? (i := 172) rfl)) (hw _ (List.mem_of_getElem? (i := 30) rfl)) (by decide) (by decide)) q27a q27c (g := (mkF m 117 #[.val (.ref r0), .val (.int (3 : Int32)), .val (.ref r2), .val (.int p3), .val (.ref b15), .val (.ref el)] [(.ref el), (.ref b9)])) rfl (by rw [hml]; rfl) (Steps.refl _) (argsL := []) (rest := [(.ref b9)]) (lenOf pd_0 rfl) rfl (by show 2 * 0 + _ ≤ _; exact Nat.le_of_eq rfl) (hb hby d12_117) (fun _ _ => ⟨rfl, e25, (by decide : 3 + 0 ≤ _), (by decide : 7 + 0 ≤ _)⟩)
    dsimp only [Pt.U, Pt.locs, Pt.cells, Pt.slots] at X27 l27 y27 z27 st27 hQ27
    subst l27 y27 z27
    have X27 : Stand p l e ({ frames := 3, cells := 5, slots := 138, locals := 38 } : Room) s m #[(.ref r0), (.int (3 : Int32)), (.ref r2), (.int p3)] below meth c T27 _ 3 7 := X27
    obtain ⟨rfl, N27q, e27⟩ := hQ27
    have N27 := Fr.app N23 N27q
    refine OFin.tr st27 ?_
    show OFin p e below _ _ T27 (mkF m 120 #[.val (.ref r0), .val (.int (3 : Int32)), .val (.ref r2), .val (.int p3), .val (.ref b15), .val (.ref el)] [(.int (F19 el bb)), (.ref b9)])
    refine OFin.st (fun t k => XS.iconst X27.here hx rfl (hb hby d12_120) k) ?_
    show OFin p e below _ _ T27 (mkF m 121 #[.val (.ref r0), .val (.int (3 : Int32)), .val (.ref r2), .val (.int p3), .val (.ref b15), .val (.ref el)] [(.int (-1 : Int32)), (.int (F19 el bb)), (.ref b9)])
    rcases hbq with rfl | rfl | rfl
    · show OFin p e below _ _ T27 (mkF m 121 #[.val (.ref r0), .val (.int (3 : Int32)), .val (.ref r2), .val (.int p3), .val (.ref b15), .val (.ref el)] [(.int (-1 : Int32)), (.int (F19 el (0 : Int32))), (.ref b9)])
      have c28 := (((V9.other W13 (Ne.symm N_r0_b9)).keep K15q nin0).keep K19q (ninS N_b9_b15 nin0))
      obtain ⟨T29, h29, X29, e29, W29, V29, st29⟩ := own_iastore X27 hx hZ e27 c28 (i := 0) (j := (F19 el (0 : Int32))) (by rw [F19]; decide) (by decide) (x := (-1 : Int32)) (pc := 121) (Ls := #[.val (.ref r0), .val (.int (3 : Int32)), .val (.ref r2), .val (.int p3), .val (.ref b15), .val (.ref el)]) (rest := []) (hb hby d12_121)
      have N29 := Fr.snoc X29 N27 g_b9
      have K29 : Keep h0 h29 [r0] := K19.wr W29 (Or.inr sz_b9)
      have O29 : Old Z n0 h29 := O19.wr W29 g_b9
      have Vw29 : Oar Z h29 b9 k9 .int [(.int (-1 : Int32)), (.int (0 : Int32)), (.int (0 : Int32))] := V29
      refine OFin.st st29 ?_
      show OFin p e below _ _ T29 (mkF m 122 #[.val (.ref r0), .val (.int (3 : Int32)), .val (.ref r2), .val (.int p3), .val (.ref b15), .val (.ref el)] [])
      refine OFin.st (fun t k => XS.goto X29.here hx rfl (pc0 := 122) (pc' := 78) rfl (hb hby d12_122) (by decide) (by decide) k) ?_
      show OFin p e below _ _ T29 (mkF m 78 #[.val (.ref r0), .val (.int (3 : Int32)), .val (.ref r2), .val (.int p3), .val (.ref b15), .val (.ref el)] [])
      refine OFin.st (fun t k => XS.aload X29.here hx rfl (hb hby d12_78) rfl rfl k) ?_
      show OFin p e below _ _ T29 (mkF m 80 #[.val (.ref r0), .val (.int (3 : Int32)), .val (.ref r2), .val (.int p3), .val (.ref b15), .val (.ref el)] [(.ref b15)])
      have c30 := ((c16.keep K19q (ninS N_r2_b15 nin0)).other W29 (Or.inl N_r2_b9))
      obtain ⟨cq31, kq31, q31a, q31b, q31c⟩ := isOf hZ e29 (P19_0.wr W29)
      obtain ⟨_, _, ⟨T31, L31, k31, n31⟩, -, X31, ⟨Lc31, hQ31, l31, y31, z31⟩, st31⟩ := X29.interfaceBack hx (xi := (⟨"java/util/Iterator", "hasNext", "()Z"⟩ : MethodName)) (y := (⟨"java/util/ArrayList$Itr", "hasNext", "()Z"⟩ : MethodName)) hown (mvT hZ (hw _ (List.mem_of_getElem? (i := 134) rfl))) (mvT hZ (hw _ (List.mem_of_getElem? (i := 135) rfl))) (mvT hZ (hw _ (List.mem_of_getElem? (i := 136) rfl))) (mvT hZ (hw _ (List.mem_of_getElem? (i := 137) rfl))) (mvT hZ (hw _ (List.mem_of_getElem? (i := 138) rfl))) (mvT hZ (hw _ (List.mem_of_getElem? (i := 139) rfl))) (mvT hZ (hw _ (List.mem_of_getElem? (i := 140) rfl))) (mvT hZ (hw _ (List.mem_of_getElem? (i := 141) rfl))) (by decide) (backOf (W := 0) (rm15 l Z a0 hw [] b15 ((0 : Int32) + (1 : Int32)) r2 ((0 : Int32) + (1 : Int32)) h29 n0 O29 (P19_2.other W29 (Or.inl (Ne.symm N_b9_b15))) (P19_1.other W29 (Or.inl (Ne.symm N_b9_b15))) c30) hZ (hw _ (List.mem_of_getElem? (i := 142) rfl)) (hw _ (List.mem_of_getElem? (i := 121) rfl)) (by decide) (by decide)) q31a q31b q31c (g := (mkF m 80 #[.val (.ref r0), .val (.int (3 : Int32)), .val (.ref r2), .val (.int p3), .val (.ref b15), .val (.ref el)] [(.ref b15)])) rfl (by rw [hml]; rfl) (Steps.refl _) (argsL := []) (rest := []) (lenOf pd_5 rfl) rfl (by show 2 * 0 + _ ≤ _; exact Nat.le_of_eq rfl) (hb hby d12_80) (fun _ _ => ⟨rfl, e29, (by decide : 3 + 0 ≤ _), (by decide : 7 + 0 ≤ _)⟩)
      dsimp only [Pt.U, Pt.locs, Pt.cells, Pt.slots] at X31 l31 y31 z31 st31 hQ31
      subst l31 y31 z31
      have X31 : Stand p l e ({ frames := 3, cells := 5, slots := 138, locals := 38 } : Room) s m #[(.ref r0), (.int (3 : Int32)), (.ref r2), (.int p3)] below meth c T31 _ 3 7 := X31
      obtain ⟨rfl, N31q, e31⟩ := hQ31
      have N31 := Fr.app N29 N31q
      refine OFin.tr st31 ?_
      show OFin p e below _ _ T31 (mkF m 85 #[.val (.ref r0), .val (.int (3 : Int32)), .val (.ref r2), .val (.int p3), .val (.ref b15), .val (.ref el)] [(.int (F15 b15 ((0 : Int32) + (1 : Int32)) r2 ((0 : Int32) + (1 : Int32))))])
      refine OFin.st (fun t k => XS.ifYes X31.here hx rfl (pc0 := 85) (pc' := 125) rfl (hb hby d12_85) rfl ((if0 _ _).trans (teq (by rw [F15, if_pos rfl])).1) (by decide) (by decide) k) ?_
      show OFin p e below _ _ T31 (mkF m 125 #[.val (.ref r0), .val (.int (3 : Int32)), .val (.ref r2), .val (.int p3), .val (.ref b15), .val (.ref el)] [])
      refine OFin.st (fun t k => XS.iconst X31.here hx rfl (hb hby d12_125) k) ?_
      show OFin p e below _ _ T31 (mkF m 126 #[.val (.ref r0), .val (.int (3 : Int32)), .val (.ref r2), .val (.int p3), .val (.ref b15), .val (.ref el)] [(.int (0 : Int32))])
      refine OFin.st (fun t k => XS.istore X31.here hx rfl (hb hby d12_126) rfl (l' := #[.val (.ref r0), .val (.int (3 : Int32)), .val (.ref r2), .val (.int p3), .val (.int (0 : Int32)), .val (.ref el)]) rfl k) ?_
      show OFin p e below _ _ T31 (mkF m 128 #[.val (.ref r0), .val (.int (3 : Int32)), .val (.ref r2), .val (.int p3), .val (.int (0 : Int32)), .val (.ref el)] [])
      refine OFin.st (fun t k => XS.iconst X31.here hx rfl (hb hby d12_128) k) ?_
      show OFin p e below _ _ T31 (mkF m 129 #[.val (.ref r0), .val (.int (3 : Int32)), .val (.ref r2), .val (.int p3), .val (.int (0 : Int32)), .val (.ref el)] [(.int (0 : Int32))])
      refine OFin.st (fun t k => XS.istore X31.here hx rfl (hb hby d12_129) rfl (l' := #[.val (.ref r0), .val (.int (3 : Int32)), .val (.ref r2), .val (.int p3), .val (.int (0 : Int32)), .val (.int (0 : Int32))]) rfl k) ?_
      show OFin p e below _ _ T31 (mkF m 131 #[.val (.ref r0), .val (.int (3 : Int32)), .val (.ref r2), .val (.int p3), .val (.int (0 : Int32)), .val (.int (0 : Int32))] [])
      refine OFin.st (fun t k => XS.iload X31.here hx rfl (hb hby d12_131) rfl k) ?_
      show OFin p e below _ _ T31 (mkF m 133 #[.val (.ref r0), .val (.int (3 : Int32)), .val (.ref r2), .val (.int p3), .val (.int (0 : Int32)), .val (.int (0 : Int32))] [(.int (0 : Int32))])
      refine OFin.st (fun t k => XS.iloadN X31.here hx rfl (hb hby d12_133) rfl k) ?_
      show OFin p e below _ _ T31 (mkF m 134 #[.val (.ref r0), .val (.int (3 : Int32)), .val (.ref r2), .val (.int p3), .val (.int (0 : Int32)), .val (.int (0 : Int32))] [(.int (3 : Int32)), (.int (0 : Int32))])
      refine OFin.st (fun t k => XS.icmpNo X31.here hx rfl (hb hby d12_134) rfl (tlt (by decide : (0 : Int32) < (3 : Int32))).2.1 k) ?_
      show OFin p e below _ _ T31 (mkF m 137 #[.val (.ref r0), .val (.int (3 : Int32)), .val (.ref r2), .val (.int p3), .val (.int (0 : Int32)), .val (.int (0 : Int32))] [])
      refine OFin.st (fun t k => XS.aloadN X31.here hx rfl (hb hby d12_137) rfl rfl k) ?_
      show OFin p e below _ _ T31 (mkF m 138 #[.val (.ref r0), .val (.int (3 : Int32)), .val (.ref r2), .val (.int p3), .val (.int (0 : Int32)), .val (.int (0 : Int32))] [(.ref r0)])
      have c32 := (((Fw13.keep K15q nin0).keep K19q (ninS N_r0_b15 nin0)).other W29 (Or.inl N_r0_b9))
      obtain ⟨T33, X33, e33, st33⟩ := getF X31 hx hZ hown (host := "") (Or.inl (hw _ (List.mem_of_getElem? (i := 108) rfl))) Via.refl e31 c32 (g := (mkF m 138 #[.val (.ref r0), .val (.int (3 : Int32)), .val (.ref r2), .val (.int p3), .val (.int (0 : Int32)), .val (.int (0 : Int32))] [(.ref r0)])) rfl rfl (hb hby d12_138)
      refine OFin.st st33 ?_
      show OFin p e below _ _ T33 (mkF m 141 #[.val (.ref r0), .val (.int (3 : Int32)), .val (.ref r2), .val (.int p3), .val (.int (0 : Int32)), .val (.int (0 : Int32))] [(.ref b9)])
      refine OFin.st (fun t k => XS.iload X33.here hx rfl (hb hby d12_141) rfl k) ?_
      show OFin p e below _ _ T33 (mkF m 143 #[.val (.ref r0), .val (.int (3 : Int32)), .val (.ref r2), .val (.int p3), .val (.int (0 : Int32)), .val (.int (0 : Int32))] [(.int (0 : Int32)), (.ref b9)])
      refine own_iaload X33 hx hZ e33 Vw29 (i := 0) (j := (0 : Int32)) (by decide) (v := (.int (-1 : Int32))) rfl (hb hby d12_143) (pc' := 144) rfl ?_
      show OFin p e below _ _ T33 (mkF m 144 #[.val (.ref r0), .val (.int (3 : Int32)), .val (.ref r2), .val (.int p3), .val (.int (0 : Int32)), .val (.int (0 : Int32))] [(.int (-1 : Int32))])
      refine OFin.st (fun t k => XS.iconst X33.here hx rfl (hb hby d12_144) k) ?_
      show OFin p e below _ _ T33 (mkF m 145 #[.val (.ref r0), .val (.int (3 : Int32)), .val (.ref r2), .val (.int p3), .val (.int (0 : Int32)), .val (.int (0 : Int32))] [(.int (-1 : Int32)), (.int (-1 : Int32))])
      refine OFin.st (fun t k => XS.icmpYes X33.here hx rfl (pc0 := 145) (pc' := 163) rfl (hb hby d12_145) rfl (teq (by decide : (-1 : Int32) = (-1 : Int32))).1 (by decide) (by decide) k) ?_
      show OFin p e below _ _ T33 (mkF m 163 #[.val (.ref r0), .val (.int (3 : Int32)), .val (.ref r2), .val (.int p3), .val (.int (0 : Int32)), .val (.int (0 : Int32))] [])
      refine OFin.st (fun t k => XS.iinc X33.here hx rfl (hb hby d12_163) rfl (l' := #[.val (.ref r0), .val (.int (3 : Int32)), .val (.ref r2), .val (.int p3), .val (.int (0 : Int32)), .val (.int (1 : Int32))]) rfl k) ?_
      show OFin p e below _ _ T33 (mkF m 166 #[.val (.ref r0), .val (.int (3 : Int32)), .val (.ref r2), .val (.int p3), .val (.int (0 : Int32)), .val (.int (1 : Int32))] [])
      refine OFin.st (fun t k => XS.goto X33.here hx rfl (pc0 := 166) (pc' := 131) rfl (hb hby d12_166) (by decide) (by decide) k) ?_
      show OFin p e below _ _ T33 (mkF m 131 #[.val (.ref r0), .val (.int (3 : Int32)), .val (.ref r2), .val (.int p3), .val (.int (0 : Int32)), .val (.int (1 : Int32))] [])
      refine OFin.st (fun t k => XS.iload X33.here hx rfl (hb hby d12_131) rfl k) ?_
      show OFin p e below _ _ T33 (mkF m 133 #[.val (.ref r0), .val (.int (3 : Int32)), .val (.ref r2), .val (.int p3), .val (.int (0 : Int32)), .val (.int (1 : Int32))] [(.int (1 : Int32))])
      refine OFin.st (fun t k => XS.iloadN X33.here hx rfl (hb hby d12_133) rfl k) ?_
      show OFin p e below _ _ T33 (mkF m 134 #[.val (.ref r0), .val (.int (3 : Int32)), .val (.ref r2), .val (.int p3), .val (.int (0 : Int32)), .val (.int (1 : Int32))] [(.int (3 : Int32)), (.int (1 : Int32))])
      refine OFin.st (fun t k => XS.icmpNo X33.here hx rfl (hb hby d12_134) rfl (tlt (by decide : (1 : Int32) < (3 : Int32))).2.1 k) ?_
      show OFin p e below _ _ T33 (mkF m 137 #[.val (.ref r0), .val (.int (3 : Int32)), .val (.ref r2), .val (.int p3), .val (.int (0 : Int32)), .val (.int (1 : Int32))] [])
      refine OFin.st (fun t k => XS.aloadN X33.here hx rfl (hb hby d12_137) rfl rfl k) ?_
      show OFin p e below _ _ T33 (mkF m 138 #[.val (.ref r0), .val (.int (3 : Int32)), .val (.ref r2), .val (.int p3), .val (.int (0 : Int32)), .val (.int (1 : Int32))] [(.ref r0)])
      obtain ⟨T34, X34, e34, st34⟩ := getF X33 hx hZ hown (host := "") (Or.inl (hw _ (List.mem_of_getElem? (i := 108) rfl))) Via.refl e33 c32 (g := (mkF m 138 #[.val (.ref r0), .val (.int (3 : Int32)), .val (.ref r2), .val (.int p3), .val (.int (0 : Int32)), .val (.int (1 : Int32))] [(.ref r0)])) rfl rfl (hb hby d12_138)
      refine OFin.st st34 ?_
      show OFin p e below _ _ T34 (mkF m 141 #[.val (.ref r0), .val (.int (3 : Int32)), .val (.ref r2), .val (.int p3), .val (.int (0 : Int32)), .val (.int (1 : Int32))] [(.ref b9)])
      refine OFin.st (fun t k => XS.iload X34.here hx rfl (hb hby d12_141) rfl k) ?_
      show OFin p e below _ _ T34 (mkF m 143 #[.val (.ref r0), .val (.int (3 : Int32)), .val (.ref r2), .val (.int p3), .val (.int (0 : Int32)), .val (.int (1 : Int32))] [(.int (1 : Int32)), (.ref b9)])
      refine own_iaload X34 hx hZ e34 Vw29 (i := 1) (j := (1 : Int32)) (by decide) (v := (.int (0 : Int32))) rfl (hb hby d12_143) (pc' := 144) rfl ?_
      show OFin p e below _ _ T34 (mkF m 144 #[.val (.ref r0), .val (.int (3 : Int32)), .val (.ref r2), .val (.int p3), .val (.int (0 : Int32)), .val (.int (1 : Int32))] [(.int (0 : Int32))])
      refine OFin.st (fun t k => XS.iconst X34.here hx rfl (hb hby d12_144) k) ?_
      show OFin p e below _ _ T34 (mkF m 145 #[.val (.ref r0), .val (.int (3 : Int32)), .val (.ref r2), .val (.int p3), .val (.int (0 : Int32)), .val (.int (1 : Int32))] [(.int (-1 : Int32)), (.int (0 : Int32))])
      refine OFin.st (fun t k => XS.icmpNo X34.here hx rfl (hb hby d12_145) rfl (feq (by decide : ¬ ((0 : Int32) = (-1 : Int32)))).1 k) ?_
      show OFin p e below _ _ T34 (mkF m 148 #[.val (.ref r0), .val (.int (3 : Int32)), .val (.ref r2), .val (.int p3), .val (.int (0 : Int32)), .val (.int (1 : Int32))] [])
      refine OFin.st (fun t k => XS.aloadN X34.here hx rfl (hb hby d12_148) rfl rfl k) ?_
      show OFin p e below _ _ T34 (mkF m 149 #[.val (.ref r0), .val (.int (3 : Int32)), .val (.ref r2), .val (.int p3), .val (.int (0 : Int32)), .val (.int (1 : Int32))] [(.ref r0)])
      obtain ⟨T35, X35, e35, st35⟩ := getF X34 hx hZ hown (host := "") (Or.inl (hw _ (List.mem_of_getElem? (i := 108) rfl))) Via.refl e34 c32 (g := (mkF m 149 #[.val (.ref r0), .val (.int (3 : Int32)), .val (.ref r2), .val (.int p3), .val (.int (0 : Int32)), .val (.int (1 : Int32))] [(.ref r0)])) rfl rfl (hb hby d12_149)
      refine OFin.st st35 ?_
      show OFin p e below _ _ T35 (mkF m 152 #[.val (.ref r0), .val (.int (3 : Int32)), .val (.ref r2), .val (.int p3), .val (.int (0 : Int32)), .val (.int (1 : Int32))] [(.ref b9)])
      refine OFin.st (fun t k => XS.iload X35.here hx rfl (hb hby d12_152) rfl k) ?_
      show OFin p e below _ _ T35 (mkF m 154 #[.val (.ref r0), .val (.int (3 : Int32)), .val (.ref r2), .val (.int p3), .val (.int (0 : Int32)), .val (.int (1 : Int32))] [(.int (1 : Int32)), (.ref b9)])
      refine OFin.st (fun t k => XS.iload X35.here hx rfl (hb hby d12_154) rfl k) ?_
      show OFin p e below _ _ T35 (mkF m 156 #[.val (.ref r0), .val (.int (3 : Int32)), .val (.ref r2), .val (.int p3), .val (.int (0 : Int32)), .val (.int (1 : Int32))] [(.int (0 : Int32)), (.int (1 : Int32)), (.ref b9)])
      obtain ⟨T36, h36, X36, e36, W36, V36, st36⟩ := own_iastore X35 hx hZ e35 Vw29 (i := 1) (j := (1 : Int32)) (by decide) (by show 1 < 3; decide) (x := (0 : Int32)) (pc := 156) (Ls := #[.val (.ref r0), .val (.int (3 : Int32)), .val (.ref r2), .val (.int p3), .val (.int (0 : Int32)), .val (.int (1 : Int32))]) (rest := []) (hb hby d12_156)
      have N36 := Fr.snoc X36 N31 g_b9
      have K36 : Keep h0 h36 [r0] := K29.wr W36 (Or.inr sz_b9)
      have O36 : Old Z n0 h36 := O29.wr W36 g_b9
      have Vw36 : Oar Z h36 b9 k9 .int [(.int (-1 : Int32)), (.int (0 : Int32)), (.int (0 : Int32))] := V36
      refine OFin.st st36 ?_
      show OFin p e below _ _ T36 (mkF m 157 #[.val (.ref r0), .val (.int (3 : Int32)), .val (.ref r2), .val (.int p3), .val (.int (0 : Int32)), .val (.int (1 : Int32))] [])
      refine OFin.st (fun t k => XS.iload X36.here hx rfl (hb hby d12_157) rfl k) ?_
      show OFin p e below _ _ T36 (mkF m 159 #[.val (.ref r0), .val (.int (3 : Int32)), .val (.ref r2), .val (.int p3), .val (.int (0 : Int32)), .val (.int (1 : Int32))] [(.int (0 : Int32))])
      refine OFin.st (fun t k => XS.iloadN X36.here hx rfl (hb hby d12_159) rfl k) ?_
      show OFin p e below _ _ T36 (mkF m 160 #[.val (.ref r0), .val (.int (3 : Int32)), .val (.ref r2), .val (.int p3), .val (.int (0 : Int32)), .val (.int (1 : Int32))] [(.int p3), (.int (0 : Int32))])
      refine OFin.st (fun t k => XS.iadd X36.here hx rfl (hb hby d12_160) rfl k) ?_
      show OFin p e below _ _ T36 (mkF m 161 #[.val (.ref r0), .val (.int (3 : Int32)), .val (.ref r2), .val (.int p3), .val (.int (0 : Int32)), .val (.int (1 : Int32))] [(.int ((0 : Int32) + p3))])
      refine OFin.st (fun t k => XS.istore X36.here hx rfl (hb hby d12_161) rfl (l' := #[.val (.ref r0), .val (.int (3 : Int32)), .val (.ref r2), .val (.int p3), .val (.int ((0 : Int32) + p3)), .val (.int (1 : Int32))]) rfl k) ?_
      show OFin p e below _ _ T36 (mkF m 163 #[.val (.ref r0), .val (.int (3 : Int32)), .val (.ref r2), .val (.int p3), .val (.int ((0 : Int32) + p3)), .val (.int (1 : Int32))] [])
      refine OFin.st (fun t k => XS.iinc X36.here hx rfl (hb hby d12_163) rfl (l' := #[.val (.ref r0), .val (.int (3 : Int32)), .val (.ref r2), .val (.int p3), .val (.int ((0 : Int32) + p3)), .val (.int (2 : Int32))]) rfl k) ?_
      show OFin p e below _ _ T36 (mkF m 166 #[.val (.ref r0), .val (.int (3 : Int32)), .val (.ref r2), .val (.int p3), .val (.int ((0 : Int32) + p3)), .val (.int (2 : Int32))] [])
      refine OFin.st (fun t k => XS.goto X36.here hx rfl (pc0 := 166) (pc' := 131) rfl (hb hby d12_166) (by decide) (by decide) k) ?_
      show OFin p e below _ _ T36 (mkF m 131 #[.val (.ref r0), .val (.int (3 : Int32)), .val (.ref r2), .val (.int p3), .val (.int ((0 : Int32) + p3)), .val (.int (2 : Int32))] [])
      refine OFin.st (fun t k => XS.iload X36.here hx rfl (hb hby d12_131) rfl k) ?_
      show OFin p e below _ _ T36 (mkF m 133 #[.val (.ref r0), .val (.int (3 : Int32)), .val (.ref r2), .val (.int p3), .val (.int ((0 : Int32) + p3)), .val (.int (2 : Int32))] [(.int (2 : Int32))])
      refine OFin.st (fun t k => XS.iloadN X36.here hx rfl (hb hby d12_133) rfl k) ?_
      show OFin p e below _ _ T36 (mkF m 134 #[.val (.ref r0), .val (.int (3 : Int32)), .val (.ref r2), .val (.int p3), .val (.int ((0 : Int32) + p3)), .val (.int (2 : Int32))] [(.int (3 : Int32)), (.int (2 : Int32))])
      refine OFin.st (fun t k => XS.icmpNo X36.here hx rfl (hb hby d12_134) rfl (tlt (by decide : (2 : Int32) < (3 : Int32))).2.1 k) ?_
      show OFin p e below _ _ T36 (mkF m 137 #[.val (.ref r0), .val (.int (3 : Int32)), .val (.ref r2), .val (.int p3), .val (.int ((0 : Int32) + p3)), .val (.int (2 : Int32))] [])
      refine OFin.st (fun t k => XS.aloadN X36.here hx rfl (hb hby d12_137) rfl rfl k) ?_
      show OFin p e below _ _ T36 (mkF m 138 #[.val (.ref r0), .val (.int (3 : Int32)), .val (.ref r2), .val (.int p3), .val (.int ((0 : Int32) + p3)), .val (.int (2 : Int32))] [(.ref r0)])
      obtain ⟨T37, X37, e37, st37⟩ := getF X36 hx hZ hown (host := "") (Or.inl (hw _ (List.mem_of_getElem? (i := 108) rfl))) Via.refl e36 (c32.other W36 (Or.inl N_r0_b9)) (g := (mkF m 138 #[.val (.ref r0), .val (.int (3 : Int32)), .val (.ref r2), .val (.int p3), .val (.int ((0 : Int32) + p3)), .val (.int (2 : Int32))] [(.ref r0)])) rfl rfl (hb hby d12_138)
      refine OFin.st st37 ?_
      show OFin p e below _ _ T37 (mkF m 141 #[.val (.ref r0), .val (.int (3 : Int32)), .val (.ref r2), .val (.int p3), .val (.int ((0 : Int32) + p3)), .val (.int (2 : Int32))] [(.ref b9)])
      refine OFin.st (fun t k => XS.iload X37.here hx rfl (hb hby d12_141) rfl k) ?_
      show OFin p e below _ _ T37 (mkF m 143 #[.val (.ref r0), .val (.int (3 : Int32)), .val (.ref r2), .val (.int p3), .val (.int ((0 : Int32) + p3)), .val (.int (2 : Int32))] [(.int (2 : Int32)), (.ref b9)])
      refine own_iaload X37 hx hZ e37 Vw36 (i := 2) (j := (2 : Int32)) (by decide) (v := (.int (0 : Int32))) rfl (hb hby d12_143) (pc' := 144) rfl ?_
      show OFin p e below _ _ T37 (mkF m 144 #[.val (.ref r0), .val (.int (3 : Int32)), .val (.ref r2), .val (.int p3), .val (.int ((0 : Int32) + p3)), .val (.int (2 : Int32))] [(.int (0 : Int32))])
      refine OFin.st (fun t k => XS.iconst X37.here hx rfl (hb hby d12_144) k) ?_
      show OFin p e below _ _ T37 (mkF m 145 #[.val (.ref r0), .val (.int (3 : Int32)), .val (.ref r2), .val (.int p3), .val (.int ((0 : Int32) + p3)), .val (.int (2 : Int32))] [(.int (-1 : Int32)), (.int (0 : Int32))])
      refine OFin.st (fun t k => XS.icmpNo X37.here hx rfl (hb hby d12_145) rfl (feq (by decide : ¬ ((0 : Int32) = (-1 : Int32)))).1 k) ?_
      show OFin p e below _ _ T37 (mkF m 148 #[.val (.ref r0), .val (.int (3 : Int32)), .val (.ref r2), .val (.int p3), .val (.int ((0 : Int32) + p3)), .val (.int (2 : Int32))] [])
      refine OFin.st (fun t k => XS.aloadN X37.here hx rfl (hb hby d12_148) rfl rfl k) ?_
      show OFin p e below _ _ T37 (mkF m 149 #[.val (.ref r0), .val (.int (3 : Int32)), .val (.ref r2), .val (.int p3), .val (.int ((0 : Int32) + p3)), .val (.int (2 : Int32))] [(.ref r0)])
      obtain ⟨T38, X38, e38, st38⟩ := getF X37 hx hZ hown (host := "") (Or.inl (hw _ (List.mem_of_getElem? (i := 108) rfl))) Via.refl e37 (c32.other W36 (Or.inl N_r0_b9)) (g := (mkF m 149 #[.val (.ref r0), .val (.int (3 : Int32)), .val (.ref r2), .val (.int p3), .val (.int ((0 : Int32) + p3)), .val (.int (2 : Int32))] [(.ref r0)])) rfl rfl (hb hby d12_149)
      refine OFin.st st38 ?_
      show OFin p e below _ _ T38 (mkF m 152 #[.val (.ref r0), .val (.int (3 : Int32)), .val (.ref r2), .val (.int p3), .val (.int ((0 : Int32) + p3)), .val (.int (2 : Int32))] [(.ref b9)])
      refine OFin.st (fun t k => XS.iload X38.here hx rfl (hb hby d12_152) rfl k) ?_
      show OFin p e below _ _ T38 (mkF m 154 #[.val (.ref r0), .val (.int (3 : Int32)), .val (.ref r2), .val (.int p3), .val (.int ((0 : Int32) + p3)), .val (.int (2 : Int32))] [(.int (2 : Int32)), (.ref b9)])
      refine OFin.st (fun t k => XS.iload X38.here hx rfl (hb hby d12_154) rfl k) ?_
      show OFin p e below _ _ T38 (mkF m 156 #[.val (.ref r0), .val (.int (3 : Int32)), .val (.ref r2), .val (.int p3), .val (.int ((0 : Int32) + p3)), .val (.int (2 : Int32))] [(.int ((0 : Int32) + p3)), (.int (2 : Int32)), (.ref b9)])
      obtain ⟨T39, h39, X39, e39, W39, V39, st39⟩ := own_iastore X38 hx hZ e38 Vw36 (i := 2) (j := (2 : Int32)) (by decide) (by show 2 < 3; decide) (x := ((0 : Int32) + p3)) (pc := 156) (Ls := #[.val (.ref r0), .val (.int (3 : Int32)), .val (.ref r2), .val (.int p3), .val (.int ((0 : Int32) + p3)), .val (.int (2 : Int32))]) (rest := []) (hb hby d12_156)
      have N39 := Fr.snoc X39 N36 g_b9
      have K39 : Keep h0 h39 [r0] := K36.wr W39 (Or.inr sz_b9)
      have O39 : Old Z n0 h39 := O36.wr W39 g_b9
      have Vw39 : Oar Z h39 b9 k9 .int [(.int (-1 : Int32)), (.int (0 : Int32)), (.int ((0 : Int32) + p3))] := V39
      refine OFin.st st39 ?_
      show OFin p e below _ _ T39 (mkF m 157 #[.val (.ref r0), .val (.int (3 : Int32)), .val (.ref r2), .val (.int p3), .val (.int ((0 : Int32) + p3)), .val (.int (2 : Int32))] [])
      refine OFin.st (fun t k => XS.iload X39.here hx rfl (hb hby d12_157) rfl k) ?_
      show OFin p e below _ _ T39 (mkF m 159 #[.val (.ref r0), .val (.int (3 : Int32)), .val (.ref r2), .val (.int p3), .val (.int ((0 : Int32) + p3)), .val (.int (2 : Int32))] [(.int ((0 : Int32) + p3))])
      refine OFin.st (fun t k => XS.iloadN X39.here hx rfl (hb hby d12_159) rfl k) ?_
      show OFin p e below _ _ T39 (mkF m 160 #[.val (.ref r0), .val (.int (3 : Int32)), .val (.ref r2), .val (.int p3), .val (.int ((0 : Int32) + p3)), .val (.int (2 : Int32))] [(.int p3), (.int ((0 : Int32) + p3))])
      refine OFin.st (fun t k => XS.iadd X39.here hx rfl (hb hby d12_160) rfl k) ?_
      show OFin p e below _ _ T39 (mkF m 161 #[.val (.ref r0), .val (.int (3 : Int32)), .val (.ref r2), .val (.int p3), .val (.int ((0 : Int32) + p3)), .val (.int (2 : Int32))] [(.int (((0 : Int32) + p3) + p3))])
      refine OFin.st (fun t k => XS.istore X39.here hx rfl (hb hby d12_161) rfl (l' := #[.val (.ref r0), .val (.int (3 : Int32)), .val (.ref r2), .val (.int p3), .val (.int (((0 : Int32) + p3) + p3)), .val (.int (2 : Int32))]) rfl k) ?_
      show OFin p e below _ _ T39 (mkF m 163 #[.val (.ref r0), .val (.int (3 : Int32)), .val (.ref r2), .val (.int p3), .val (.int (((0 : Int32) + p3) + p3)), .val (.int (2 : Int32))] [])
      refine OFin.st (fun t k => XS.iinc X39.here hx rfl (hb hby d12_163) rfl (l' := #[.val (.ref r0), .val (.int (3 : Int32)), .val (.ref r2), .val (.int p3), .val (.int (((0 : Int32) + p3) + p3)), .val (.int (3 : Int32))]) rfl k) ?_
      show OFin p e below _ _ T39 (mkF m 166 #[.val (.ref r0), .val (.int (3 : Int32)), .val (.ref r2), .val (.int p3), .val (.int (((0 : Int32) + p3) + p3)), .val (.int (3 : Int32))] [])
      refine OFin.st (fun t k => XS.goto X39.here hx rfl (pc0 := 166) (pc' := 131) rfl (hb hby d12_166) (by decide) (by decide) k) ?_
      show OFin p e below _ _ T39 (mkF m 131 #[.val (.ref r0), .val (.int (3 : Int32)), .val (.ref r2), .val (.int p3), .val (.int (((0 : Int32) + p3) + p3)), .val (.int (3 : Int32))] [])
      refine OFin.st (fun t k => XS.iload X39.here hx rfl (hb hby d12_131) rfl k) ?_
      show OFin p e below _ _ T39 (mkF m 133 #[.val (.ref r0), .val (.int (3 : Int32)), .val (.ref r2), .val (.int p3), .val (.int (((0 : Int32) + p3) + p3)), .val (.int (3 : Int32))] [(.int (3 : Int32))])
      refine OFin.st (fun t k => XS.iloadN X39.here hx rfl (hb hby d12_133) rfl k) ?_
      show OFin p e below _ _ T39 (mkF m 134 #[.val (.ref r0), .val (.int (3 : Int32)), .val (.ref r2), .val (.int p3), .val (.int (((0 : Int32) + p3) + p3)), .val (.int (3 : Int32))] [(.int (3 : Int32)), (.int (3 : Int32))])
      refine OFin.st (fun t k => XS.icmpYes X39.here hx rfl (pc0 := 134) (pc' := 169) rfl (hb hby d12_134) rfl (flt (by decide : ¬ ((3 : Int32) < (3 : Int32)))).2.1 (by decide) (by decide) k) ?_
      show OFin p e below _ _ T39 (mkF m 169 #[.val (.ref r0), .val (.int (3 : Int32)), .val (.ref r2), .val (.int p3), .val (.int (((0 : Int32) + p3) + p3)), .val (.int (3 : Int32))] [])
      refine OFin.st (fun t k => XS.aloadN X39.here hx rfl (hb hby d12_169) rfl rfl k) ?_
      show OFin p e below _ _ T39 (mkF m 170 #[.val (.ref r0), .val (.int (3 : Int32)), .val (.ref r2), .val (.int p3), .val (.int (((0 : Int32) + p3) + p3)), .val (.int (3 : Int32))] [(.ref r0)])
      refine OFin.st (fun t k => XS.iloadN X39.here hx rfl (hb hby d12_170) rfl k) ?_
      show OFin p e below _ _ T39 (mkF m 171 #[.val (.ref r0), .val (.int (3 : Int32)), .val (.ref r2), .val (.int p3), .val (.int (((0 : Int32) + p3) + p3)), .val (.int (3 : Int32))] [(.int (3 : Int32)), (.ref r0)])
      obtain ⟨T40, h40, k40, X40, e40, E40, A40, st40⟩ := own_newP X39 hx hZ (hw _ (List.mem_of_getElem? (i := 173) rfl)) e39 (z := (3 : Int32)) (n := 3) (cap := 3) (by decide) (by decide) (by decide) (by decide) (by decide) (pc := 171) (Ls := #[.val (.ref r0), .val (.int (3 : Int32)), .val (.ref r2), .val (.int p3), .val (.int (((0 : Int32) + p3) + p3)), .val (.int (3 : Int32))]) (rest := [(.ref r0)]) (hb hby d12_171)
      obtain ⟨b40, gz_b40⟩ : ∃ z, z = h39.size := ⟨_, rfl⟩
      rw [← gz_b40] at A40 st40
      have c41 := (((((((((((E_r0.ext E2).wr W3).wr W5).wr W8).ext E9).wr W13).keep K15q).keep K19q).wr W29).wr W36).wr W39)
      have N_r0_b40 : r0 ≠ b40 := Nat.ne_of_lt (Nat.lt_of_lt_of_le c41.lt (Nat.le_of_eq gz_b40.symm))
      have c42 := (((((((((((E_r2.ext E2).wr W3).wr W5).wr W8).ext E9).wr W13).keep K15q).keep K19q).wr W29).wr W36).wr W39)
      have N_r2_b40 : r2 ≠ b40 := Nat.ne_of_lt (Nat.lt_of_lt_of_le c42.lt (Nat.le_of_eq gz_b40.symm))
      have c43 := (((((((c10.ext E9).other W13 N_ea_r0).keep K15q nin0).keep K19q (ninS N_ea_b15 nin0)).other W29 N_ea_b9).other W36 N_ea_b9).other W39 N_ea_b9)
      have N_ea_b40 : ea ≠ b40 := Nat.ne_of_lt (Nat.lt_of_lt_of_le c43.lt (Nat.le_of_eq gz_b40.symm))
      have N_el_b40 : el ≠ b40 := Nat.ne_of_lt (Nat.lt_of_lt_of_le (((c20.wr W29).wr W36).wr W39).lt (Nat.le_of_eq gz_b40.symm))
      have c44 := (((((((c11.ext E9).other W13 (Ne.symm N_r0_b2)).keep K15q nin0).keep K19q (ninS N_b2_b15 nin0)).other W29 N_b2_b9).other W36 N_b2_b9).other W39 N_b2_b9)
      have N_b2_b40 : b2 ≠ b40 := Nat.ne_of_lt (Nat.lt_of_lt_of_le c44.lt (Nat.le_of_eq gz_b40.symm))
      have N_b9_b40 : b9 ≠ b40 := Nat.ne_of_lt (Nat.lt_of_lt_of_le Vw39.lt (Nat.le_of_eq gz_b40.symm))
      have N_b15_b40 : b15 ≠ b40 := Nat.ne_of_lt (Nat.lt_of_lt_of_le (((P19_0.wr W29).wr W36).wr W39).lt (Nat.le_of_eq gz_b40.symm))
      have g_b40 : n0 ≤ b40 := Nat.le_trans (Nat.le_trans (Nat.le_of_eq O39.1.symm) O39.2.1) (Nat.le_of_eq gz_b40.symm)
      have sz_b40 : h0.size ≤ b40 := Nat.le_trans K39.1 (Nat.le_of_eq gz_b40.symm)
      have K40 : Keep h0 h40 [r0] := K39.ext E40
      have O40 : Old Z n0 h40 := O39.ext E40
      have V40 : Oar Z h40 b40 k40 .long [(.long (0 : Int64)), (.long (0 : Int64)), (.long (0 : Int64))] := A40
      refine OFin.st st40 ?_
      show OFin p e below _ _ T40 (mkF m 173 #[.val (.ref r0), .val (.int (3 : Int32)), .val (.ref r2), .val (.int p3), .val (.int (((0 : Int32) + p3) + p3)), .val (.int (3 : Int32))] [(.ref b40), (.ref r0)])
      have c45 := ((((((((((((F_words_r0.ext E2).other W3 (Or.inr (slot_ne (Or.inr (hw _ (List.mem_of_getElem? (i := 175) rfl))) (Or.inl (hw _ (List.mem_of_getElem? (i := 102) rfl))) (by decide) (t := (.array .long)) (t' := (.array (.array .long))) (by decide) (by decide)))).other W5 (Or.inr (slot_ne (Or.inr (hw _ (List.mem_of_getElem? (i := 175) rfl))) (Or.inr (hw _ (List.mem_of_getElem? (i := 104) rfl))) (by decide) (t := (.array .long)) (t' := .int) (by decide) (by decide)))).other W8 (Or.inr (slot_ne (Or.inr (hw _ (List.mem_of_getElem? (i := 175) rfl))) (Or.inr (hw _ (List.mem_of_getElem? (i := 106) rfl))) (by decide) (t := (.array .long)) (t' := .long) (by decide) (by decide)))).ext E9).other W13 (Or.inr (slot_ne (Or.inr (hw _ (List.mem_of_getElem? (i := 175) rfl))) (Or.inr (hw _ (List.mem_of_getElem? (i := 109) rfl))) (by decide) (t := (.array .long)) (t' := (.array .int)) (by decide) (by decide)))).keep K15q nin0).keep K19q (ninS N_r0_b15 nin0)).other W29 (Or.inl N_r0_b9)).other W36 (Or.inl N_r0_b9)).other W39 (Or.inl N_r0_b9)).ext E40)
      obtain ⟨T46, h46, X46, e46, W46, st46⟩ := putF X40 hx hZ hown (host := "") (Or.inl (hw _ (List.mem_of_getElem? (i := 174) rfl))) Via.refl e40 c45 (c41.ext E40) (Or.inr ⟨(hw _ (List.mem_of_getElem? (i := 175) rfl)), rfl, hnm⟩) (hw _ (List.mem_of_getElem? (i := 93) rfl)) (ty := (.array .long)) (by decide) rfl rfl (g := (mkF m 173 #[.val (.ref r0), .val (.int (3 : Int32)), .val (.ref r2), .val (.int p3), .val (.int (((0 : Int32) + p3) + p3)), .val (.int (3 : Int32))] [(.ref b40), (.ref r0)])) rfl rfl (hb hby d12_173)
      refine OFin.st st46 ?_
      have Fw46 := c45.same W46
      have N46 := Fr.snoc X46 N39 g_r0
      have K46 : Keep h0 h46 [r0] := K40.wr W46 (Or.inl (List.mem_of_getElem? (i := 0) rfl))
      have O46 : Old Z n0 h46 := O40.wr W46 g_r0
      show OFin p e below _ _ T46 (mkF m 176 #[.val (.ref r0), .val (.int (3 : Int32)), .val (.ref r2), .val (.int p3), .val (.int (((0 : Int32) + p3) + p3)), .val (.int (3 : Int32))] [])
      refine OFin.st (fun t k => XS.aloadN X46.here hx rfl (hb hby d12_176) rfl rfl k) ?_
      show OFin p e below _ _ T46 (mkF m 177 #[.val (.ref r0), .val (.int (3 : Int32)), .val (.ref r2), .val (.int p3), .val (.int (((0 : Int32) + p3) + p3)), .val (.int (3 : Int32))] [(.ref r0)])
      refine OFin.st (fun t k => XS.iload X46.here hx rfl (hb hby d12_177) rfl k) ?_
      show OFin p e below _ _ T46 (mkF m 179 #[.val (.ref r0), .val (.int (3 : Int32)), .val (.ref r2), .val (.int p3), .val (.int (((0 : Int32) + p3) + p3)), .val (.int (3 : Int32))] [(.int (((0 : Int32) + p3) + p3)), (.ref r0)])
      obtain ⟨T47, h47, k47, X47, e47, E47, A47, st47⟩ := own_newP X46 hx hZ (hw _ (List.mem_of_getElem? (i := 173) rfl)) e46 (z := (((0 : Int32) + p3) + p3)) (n := (2 * p3.toInt.toNat)) (cap := 128) (own_2w p3 hw1 hw2).1 (own_2w p3 hw1 hw2).2 (by decide) (by decide) (by decide) (pc := 179) (Ls := #[.val (.ref r0), .val (.int (3 : Int32)), .val (.ref r2), .val (.int p3), .val (.int (((0 : Int32) + p3) + p3)), .val (.int (3 : Int32))]) (rest := [(.ref r0)]) (hb hby d12_179)
      obtain ⟨b47, gz_b47⟩ : ∃ z, z = h46.size := ⟨_, rfl⟩
      rw [← gz_b47] at A47 st47
      have N_r0_b47 : r0 ≠ b47 := Nat.ne_of_lt (Nat.lt_of_lt_of_le ((c41.ext E40).wr W46).lt (Nat.le_of_eq gz_b47.symm))
      have N_r2_b47 : r2 ≠ b47 := Nat.ne_of_lt (Nat.lt_of_lt_of_le ((c42.ext E40).wr W46).lt (Nat.le_of_eq gz_b47.symm))
      have N_ea_b47 : ea ≠ b47 := Nat.ne_of_lt (Nat.lt_of_lt_of_le ((c43.ext E40).other W46 N_ea_r0).lt (Nat.le_of_eq gz_b47.symm))
      have N_el_b47 : el ≠ b47 := Nat.ne_of_lt (Nat.lt_of_lt_of_le (((((c20.wr W29).wr W36).wr W39).ext E40).wr W46).lt (Nat.le_of_eq gz_b47.symm))
      have N_b2_b47 : b2 ≠ b47 := Nat.ne_of_lt (Nat.lt_of_lt_of_le ((c44.ext E40).other W46 (Ne.symm N_r0_b2)).lt (Nat.le_of_eq gz_b47.symm))
      have N_b9_b47 : b9 ≠ b47 := Nat.ne_of_lt (Nat.lt_of_lt_of_le ((Vw39.ext E40).other W46 (Ne.symm N_r0_b9)).lt (Nat.le_of_eq gz_b47.symm))
      have N_b15_b47 : b15 ≠ b47 := Nat.ne_of_lt (Nat.lt_of_lt_of_le (((((P19_0.wr W29).wr W36).wr W39).ext E40).wr W46).lt (Nat.le_of_eq gz_b47.symm))
      have N_b40_b47 : b40 ≠ b47 := Nat.ne_of_lt (Nat.lt_of_lt_of_le (V40.other W46 (Ne.symm N_r0_b40)).lt (Nat.le_of_eq gz_b47.symm))
      have g_b47 : n0 ≤ b47 := Nat.le_trans (Nat.le_trans (Nat.le_of_eq O46.1.symm) O46.2.1) (Nat.le_of_eq gz_b47.symm)
      have sz_b47 : h0.size ≤ b47 := Nat.le_trans K46.1 (Nat.le_of_eq gz_b47.symm)
      have K47 : Keep h0 h47 [r0] := K46.ext E47
      have O47 : Old Z n0 h47 := O46.ext E47
      have V47 : Oar Z h47 b47 k47 .long (List.replicate (2 * p3.toInt.toNat) (.long (0 : Int64))) := A47
      refine OFin.st st47 ?_
      show OFin p e below _ _ T47 (mkF m 181 #[.val (.ref r0), .val (.int (3 : Int32)), .val (.ref r2), .val (.int p3), .val (.int (((0 : Int32) + p3) + p3)), .val (.int (3 : Int32))] [(.ref b47), (.ref r0)])
      have c48 := ((((((((((((((F_values_r0.ext E2).other W3 (Or.inr (slot_ne (Or.inr (hw _ (List.mem_of_getElem? (i := 177) rfl))) (Or.inl (hw _ (List.mem_of_getElem? (i := 102) rfl))) (by decide) (t := (.array .long)) (t' := (.array (.array .long))) (by decide) (by decide)))).other W5 (Or.inr (slot_ne (Or.inr (hw _ (List.mem_of_getElem? (i := 177) rfl))) (Or.inr (hw _ (List.mem_of_getElem? (i := 104) rfl))) (by decide) (t := (.array .long)) (t' := .int) (by decide) (by decide)))).other W8 (Or.inr (slot_ne (Or.inr (hw _ (List.mem_of_getElem? (i := 177) rfl))) (Or.inr (hw _ (List.mem_of_getElem? (i := 106) rfl))) (by decide) (t := (.array .long)) (t' := .long) (by decide) (by decide)))).ext E9).other W13 (Or.inr (slot_ne (Or.inr (hw _ (List.mem_of_getElem? (i := 177) rfl))) (Or.inr (hw _ (List.mem_of_getElem? (i := 109) rfl))) (by decide) (t := (.array .long)) (t' := (.array .int)) (by decide) (by decide)))).keep K15q nin0).keep K19q (ninS N_r0_b15 nin0)).other W29 (Or.inl N_r0_b9)).other W36 (Or.inl N_r0_b9)).other W39 (Or.inl N_r0_b9)).ext E40).other W46 (Or.inr (slot_ne (Or.inr (hw _ (List.mem_of_getElem? (i := 177) rfl))) (Or.inr (hw _ (List.mem_of_getElem? (i := 175) rfl))) (by decide) (t := (.array .long)) (t' := (.array .long)) (by decide) (by decide)))).ext E47)
      obtain ⟨T49, h49, X49, e49, W49, st49⟩ := putF X47 hx hZ hown (host := "") (Or.inl (hw _ (List.mem_of_getElem? (i := 176) rfl))) Via.refl e47 c48 (((c41.ext E40).wr W46).ext E47) (Or.inr ⟨(hw _ (List.mem_of_getElem? (i := 177) rfl)), rfl, hnm⟩) (hw _ (List.mem_of_getElem? (i := 93) rfl)) (ty := (.array .long)) (by decide) rfl rfl (g := (mkF m 181 #[.val (.ref r0), .val (.int (3 : Int32)), .val (.ref r2), .val (.int p3), .val (.int (((0 : Int32) + p3) + p3)), .val (.int (3 : Int32))] [(.ref b47), (.ref r0)])) rfl rfl (hb hby d12_181)
      refine OFin.st st49 ?_
      have Fw49 := c48.same W49
      have N49 := Fr.snoc X49 N46 g_r0
      have K49 : Keep h0 h49 [r0] := K47.wr W49 (Or.inl (List.mem_of_getElem? (i := 0) rfl))
      have O49 : Old Z n0 h49 := O47.wr W49 g_r0
      show OFin p e below _ _ T49 (mkF m 184 #[.val (.ref r0), .val (.int (3 : Int32)), .val (.ref r2), .val (.int p3), .val (.int (((0 : Int32) + p3) + p3)), .val (.int (3 : Int32))] [])
      have c50 := ((((Vw39.ext E40).other W46 (Ne.symm N_r0_b9)).ext E47).other W49 (Ne.symm N_r0_b9))
      have c51 := (((V40.other W46 (Ne.symm N_r0_b40)).ext E47).other W49 (Ne.symm N_r0_b40))
      have c52 := ((((((((((((Fw5.other W8 (Or.inr (slot_ne (Or.inr (hw _ (List.mem_of_getElem? (i := 104) rfl))) (Or.inr (hw _ (List.mem_of_getElem? (i := 106) rfl))) (by decide) (t := .int) (t' := .long) (by decide) (by decide)))).ext E9).other W13 (Or.inr (slot_ne (Or.inr (hw _ (List.mem_of_getElem? (i := 104) rfl))) (Or.inr (hw _ (List.mem_of_getElem? (i := 109) rfl))) (by decide) (t := .int) (t' := (.array .int)) (by decide) (by decide)))).keep K15q nin0).keep K19q (ninS N_r0_b15 nin0)).other W29 (Or.inl N_r0_b9)).other W36 (Or.inl N_r0_b9)).other W39 (Or.inl N_r0_b9)).ext E40).other W46 (Or.inr (slot_ne (Or.inr (hw _ (List.mem_of_getElem? (i := 104) rfl))) (Or.inr (hw _ (List.mem_of_getElem? (i := 175) rfl))) (by decide) (t := .int) (t' := (.array .long)) (by decide) (by decide)))).ext E47).other W49 (Or.inr (slot_ne (Or.inr (hw _ (List.mem_of_getElem? (i := 104) rfl))) (Or.inr (hw _ (List.mem_of_getElem? (i := 177) rfl))) (by decide) (t := .int) (t' := (.array .long)) (by decide) (by decide))))
      have c53 := ((((((c32.other W36 (Or.inl N_r0_b9)).other W39 (Or.inl N_r0_b9)).ext E40).other W46 (Or.inr (slot_ne (Or.inr (hw _ (List.mem_of_getElem? (i := 109) rfl))) (Or.inr (hw _ (List.mem_of_getElem? (i := 175) rfl))) (by decide) (t := (.array .int)) (t' := (.array .long)) (by decide) (by decide)))).ext E47).other W49 (Or.inr (slot_ne (Or.inr (hw _ (List.mem_of_getElem? (i := 109) rfl))) (Or.inr (hw _ (List.mem_of_getElem? (i := 177) rfl))) (by decide) (t := (.array .int)) (t' := (.array .long)) (by decide) (by decide))))
      have c54 := ((Fw46.ext E47).other W49 (Or.inr (slot_ne (Or.inr (hw _ (List.mem_of_getElem? (i := 175) rfl))) (Or.inr (hw _ (List.mem_of_getElem? (i := 177) rfl))) (by decide) (t := (.array .long)) (t' := (.array .long)) (by decide) (by decide))))
      exact own_retV X49 hx Bd.returns Bd.notSynchronized (hb hby d12_184) (by show Qrm12 Z r0 r2 p3 ea el (0 : Int32) mc ke u1 u2 u3 u4 u5 u6 w_BOOL h0 n0 _ T49.heap _; rw [e49]; exact ⟨b9, b40, b47, k9, k40, k47, rfl, N49, K49, ((((c41.ext E40).wr W46).ext E47).wr W49), c52, c53, c54, Fw49, (by rw [offs, if_pos rfl]; exact c50), c51, (V47.other W49 (Ne.symm N_r0_b47)), sz_b9, sz_b40, sz_b47, N_b9_b40, N_b9_b47, N_b40_b47⟩) (own_endN (by decide) (by decide))
    · show OFin p e below _ _ T27 (mkF m 121 #[.val (.ref r0), .val (.int (3 : Int32)), .val (.ref r2), .val (.int p3), .val (.ref b15), .val (.ref el)] [(.int (-1 : Int32)), (.int (F19 el (1 : Int32))), (.ref b9)])
      have c55 := (((V9.other W13 (Ne.symm N_r0_b9)).keep K15q nin0).keep K19q (ninS N_b9_b15 nin0))
      obtain ⟨T56, h56, X56, e56, W56, V56, st56⟩ := own_iastore X27 hx hZ e27 c55 (i := 1) (j := (F19 el (1 : Int32))) (by rw [F19]; decide) (by decide) (x := (-1 : Int32)) (pc := 121) (Ls := #[.val (.ref r0), .val (.int (3 : Int32)), .val (.ref r2), .val (.int p3), .val (.ref b15), .val (.ref el)]) (rest := []) (hb hby d12_121)
      have N56 := Fr.snoc X56 N27 g_b9
      have K56 : Keep h0 h56 [r0] := K19.wr W56 (Or.inr sz_b9)
      have O56 : Old Z n0 h56 := O19.wr W56 g_b9
      have Vw56 : Oar Z h56 b9 k9 .int [(.int (0 : Int32)), (.int (-1 : Int32)), (.int (0 : Int32))] := V56
      refine OFin.st st56 ?_
      show OFin p e below _ _ T56 (mkF m 122 #[.val (.ref r0), .val (.int (3 : Int32)), .val (.ref r2), .val (.int p3), .val (.ref b15), .val (.ref el)] [])
      refine OFin.st (fun t k => XS.goto X56.here hx rfl (pc0 := 122) (pc' := 78) rfl (hb hby d12_122) (by decide) (by decide) k) ?_
      show OFin p e below _ _ T56 (mkF m 78 #[.val (.ref r0), .val (.int (3 : Int32)), .val (.ref r2), .val (.int p3), .val (.ref b15), .val (.ref el)] [])
      refine OFin.st (fun t k => XS.aload X56.here hx rfl (hb hby d12_78) rfl rfl k) ?_
      show OFin p e below _ _ T56 (mkF m 80 #[.val (.ref r0), .val (.int (3 : Int32)), .val (.ref r2), .val (.int p3), .val (.ref b15), .val (.ref el)] [(.ref b15)])
      have c57 := ((c16.keep K19q (ninS N_r2_b15 nin0)).other W56 (Or.inl N_r2_b9))
      obtain ⟨cq58, kq58, q58a, q58b, q58c⟩ := isOf hZ e56 (P19_0.wr W56)
      obtain ⟨_, _, ⟨T58, L58, k58, n58⟩, -, X58, ⟨Lc58, hQ58, l58, y58, z58⟩, st58⟩ := X56.interfaceBack hx (xi := (⟨"java/util/Iterator", "hasNext", "()Z"⟩ : MethodName)) (y := (⟨"java/util/ArrayList$Itr", "hasNext", "()Z"⟩ : MethodName)) hown (mvT hZ (hw _ (List.mem_of_getElem? (i := 134) rfl))) (mvT hZ (hw _ (List.mem_of_getElem? (i := 135) rfl))) (mvT hZ (hw _ (List.mem_of_getElem? (i := 136) rfl))) (mvT hZ (hw _ (List.mem_of_getElem? (i := 137) rfl))) (mvT hZ (hw _ (List.mem_of_getElem? (i := 138) rfl))) (mvT hZ (hw _ (List.mem_of_getElem? (i := 139) rfl))) (mvT hZ (hw _ (List.mem_of_getElem? (i := 140) rfl))) (mvT hZ (hw _ (List.mem_of_getElem? (i := 141) rfl))) (by decide) (backOf (W := 0) (rm15 l Z a0 hw [] b15 ((0 : Int32) + (1 : Int32)) r2 ((0 : Int32) + (1 : Int32)) h56 n0 O56 (P19_2.other W56 (Or.inl (Ne.symm N_b9_b15))) (P19_1.other W56 (Or.inl (Ne.symm N_b9_b15))) c57) hZ (hw _ (List.mem_of_getElem? (i := 142) rfl)) (hw _ (List.mem_of_getElem? (i := 121) rfl)) (by decide) (by decide)) q58a q58b q58c (g := (mkF m 80 #[.val (.ref r0), .val (.int (3 : Int32)), .val (.ref r2), .val (.int p3), .val (.ref b15), .val (.ref el)] [(.ref b15)])) rfl (by rw [hml]; rfl) (Steps.refl _) (argsL := []) (rest := []) (lenOf pd_5 rfl) rfl (by show 2 * 0 + _ ≤ _; exact Nat.le_of_eq rfl) (hb hby d12_80) (fun _ _ => ⟨rfl, e56, (by decide : 3 + 0 ≤ _), (by decide : 7 + 0 ≤ _)⟩)
      dsimp only [Pt.U, Pt.locs, Pt.cells, Pt.slots] at X58 l58 y58 z58 st58 hQ58
      subst l58 y58 z58
      have X58 : Stand p l e ({ frames := 3, cells := 5, slots := 138, locals := 38 } : Room) s m #[(.ref r0), (.int (3 : Int32)), (.ref r2), (.int p3)] below meth c T58 _ 3 7 := X58
      obtain ⟨rfl, N58q, e58⟩ := hQ58
      have N58 := Fr.app N56 N58q
      refine OFin.tr st58 ?_
      show OFin p e below _ _ T58 (mkF m 85 #[.val (.ref r0), .val (.int (3 : Int32)), .val (.ref r2), .val (.int p3), .val (.ref b15), .val (.ref el)] [(.int (F15 b15 ((0 : Int32) + (1 : Int32)) r2 ((0 : Int32) + (1 : Int32))))])
      refine OFin.st (fun t k => XS.ifYes X58.here hx rfl (pc0 := 85) (pc' := 125) rfl (hb hby d12_85) rfl ((if0 _ _).trans (teq (by rw [F15, if_pos rfl])).1) (by decide) (by decide) k) ?_
      show OFin p e below _ _ T58 (mkF m 125 #[.val (.ref r0), .val (.int (3 : Int32)), .val (.ref r2), .val (.int p3), .val (.ref b15), .val (.ref el)] [])
      refine OFin.st (fun t k => XS.iconst X58.here hx rfl (hb hby d12_125) k) ?_
      show OFin p e below _ _ T58 (mkF m 126 #[.val (.ref r0), .val (.int (3 : Int32)), .val (.ref r2), .val (.int p3), .val (.ref b15), .val (.ref el)] [(.int (0 : Int32))])
      refine OFin.st (fun t k => XS.istore X58.here hx rfl (hb hby d12_126) rfl (l' := #[.val (.ref r0), .val (.int (3 : Int32)), .val (.ref r2), .val (.int p3), .val (.int (0 : Int32)), .val (.ref el)]) rfl k) ?_
      show OFin p e below _ _ T58 (mkF m 128 #[.val (.ref r0), .val (.int (3 : Int32)), .val (.ref r2), .val (.int p3), .val (.int (0 : Int32)), .val (.ref el)] [])
      refine OFin.st (fun t k => XS.iconst X58.here hx rfl (hb hby d12_128) k) ?_
      show OFin p e below _ _ T58 (mkF m 129 #[.val (.ref r0), .val (.int (3 : Int32)), .val (.ref r2), .val (.int p3), .val (.int (0 : Int32)), .val (.ref el)] [(.int (0 : Int32))])
      refine OFin.st (fun t k => XS.istore X58.here hx rfl (hb hby d12_129) rfl (l' := #[.val (.ref r0), .val (.int (3 : Int32)), .val (.ref r2), .val (.int p3), .val (.int (0 : Int32)), .val (.int (0 : Int32))]) rfl k) ?_
      show OFin p e below _ _ T58 (mkF m 131 #[.val (.ref r0), .val (.int (3 : Int32)), .val (.ref r2), .val (.int p3), .val (.int (0 : Int32)), .val (.int (0 : Int32))] [])
      refine OFin.st (fun t k => XS.iload X58.here hx rfl (hb hby d12_131) rfl k) ?_
      show OFin p e below _ _ T58 (mkF m 133 #[.val (.ref r0), .val (.int (3 : Int32)), .val (.ref r2), .val (.int p3), .val (.int (0 : Int32)), .val (.int (0 : Int32))] [(.int (0 : Int32))])
      refine OFin.st (fun t k => XS.iloadN X58.here hx rfl (hb hby d12_133) rfl k) ?_
      show OFin p e below _ _ T58 (mkF m 134 #[.val (.ref r0), .val (.int (3 : Int32)), .val (.ref r2), .val (.int p3), .val (.int (0 : Int32)), .val (.int (0 : Int32))] [(.int (3 : Int32)), (.int (0 : Int32))])
      refine OFin.st (fun t k => XS.icmpNo X58.here hx rfl (hb hby d12_134) rfl (tlt (by decide : (0 : Int32) < (3 : Int32))).2.1 k) ?_
      show OFin p e below _ _ T58 (mkF m 137 #[.val (.ref r0), .val (.int (3 : Int32)), .val (.ref r2), .val (.int p3), .val (.int (0 : Int32)), .val (.int (0 : Int32))] [])
      refine OFin.st (fun t k => XS.aloadN X58.here hx rfl (hb hby d12_137) rfl rfl k) ?_
      show OFin p e below _ _ T58 (mkF m 138 #[.val (.ref r0), .val (.int (3 : Int32)), .val (.ref r2), .val (.int p3), .val (.int (0 : Int32)), .val (.int (0 : Int32))] [(.ref r0)])
      have c59 := (((Fw13.keep K15q nin0).keep K19q (ninS N_r0_b15 nin0)).other W56 (Or.inl N_r0_b9))
      obtain ⟨T60, X60, e60, st60⟩ := getF X58 hx hZ hown (host := "") (Or.inl (hw _ (List.mem_of_getElem? (i := 108) rfl))) Via.refl e58 c59 (g := (mkF m 138 #[.val (.ref r0), .val (.int (3 : Int32)), .val (.ref r2), .val (.int p3), .val (.int (0 : Int32)), .val (.int (0 : Int32))] [(.ref r0)])) rfl rfl (hb hby d12_138)
      refine OFin.st st60 ?_
      show OFin p e below _ _ T60 (mkF m 141 #[.val (.ref r0), .val (.int (3 : Int32)), .val (.ref r2), .val (.int p3), .val (.int (0 : Int32)), .val (.int (0 : Int32))] [(.ref b9)])
      refine OFin.st (fun t k => XS.iload X60.here hx rfl (hb hby d12_141) rfl k) ?_
      show OFin p e below _ _ T60 (mkF m 143 #[.val (.ref r0), .val (.int (3 : Int32)), .val (.ref r2), .val (.int p3), .val (.int (0 : Int32)), .val (.int (0 : Int32))] [(.int (0 : Int32)), (.ref b9)])
      refine own_iaload X60 hx hZ e60 Vw56 (i := 0) (j := (0 : Int32)) (by decide) (v := (.int (0 : Int32))) rfl (hb hby d12_143) (pc' := 144) rfl ?_
      show OFin p e below _ _ T60 (mkF m 144 #[.val (.ref r0), .val (.int (3 : Int32)), .val (.ref r2), .val (.int p3), .val (.int (0 : Int32)), .val (.int (0 : Int32))] [(.int (0 : Int32))])
      refine OFin.st (fun t k => XS.iconst X60.here hx rfl (hb hby d12_144) k) ?_
      show OFin p e below _ _ T60 (mkF m 145 #[.val (.ref r0), .val (.int (3 : Int32)), .val (.ref r2), .val (.int p3), .val (.int (0 : Int32)), .val (.int (0 : Int32))] [(.int (-1 : Int32)), (.int (0 : Int32))])
      refine OFin.st (fun t k => XS.icmpNo X60.here hx rfl (hb hby d12_145) rfl (feq (by decide : ¬ ((0 : Int32) = (-1 : Int32)))).1 k) ?_
      show OFin p e below _ _ T60 (mkF m 148 #[.val (.ref r0), .val (.int (3 : Int32)), .val (.ref r2), .val (.int p3), .val (.int (0 : Int32)), .val (.int (0 : Int32))] [])
      refine OFin.st (fun t k => XS.aloadN X60.here hx rfl (hb hby d12_148) rfl rfl k) ?_
      show OFin p e below _ _ T60 (mkF m 149 #[.val (.ref r0), .val (.int (3 : Int32)), .val (.ref r2), .val (.int p3), .val (.int (0 : Int32)), .val (.int (0 : Int32))] [(.ref r0)])
      obtain ⟨T61, X61, e61, st61⟩ := getF X60 hx hZ hown (host := "") (Or.inl (hw _ (List.mem_of_getElem? (i := 108) rfl))) Via.refl e60 c59 (g := (mkF m 149 #[.val (.ref r0), .val (.int (3 : Int32)), .val (.ref r2), .val (.int p3), .val (.int (0 : Int32)), .val (.int (0 : Int32))] [(.ref r0)])) rfl rfl (hb hby d12_149)
      refine OFin.st st61 ?_
      show OFin p e below _ _ T61 (mkF m 152 #[.val (.ref r0), .val (.int (3 : Int32)), .val (.ref r2), .val (.int p3), .val (.int (0 : Int32)), .val (.int (0 : Int32))] [(.ref b9)])
      refine OFin.st (fun t k => XS.iload X61.here hx rfl (hb hby d12_152) rfl k) ?_
      show OFin p e below _ _ T61 (mkF m 154 #[.val (.ref r0), .val (.int (3 : Int32)), .val (.ref r2), .val (.int p3), .val (.int (0 : Int32)), .val (.int (0 : Int32))] [(.int (0 : Int32)), (.ref b9)])
      refine OFin.st (fun t k => XS.iload X61.here hx rfl (hb hby d12_154) rfl k) ?_
      show OFin p e below _ _ T61 (mkF m 156 #[.val (.ref r0), .val (.int (3 : Int32)), .val (.ref r2), .val (.int p3), .val (.int (0 : Int32)), .val (.int (0 : Int32))] [(.int (0 : Int32)), (.int (0 : Int32)), (.ref b9)])
      obtain ⟨T62, h62, X62, e62, W62, V62, st62⟩ := own_iastore X61 hx hZ e61 Vw56 (i := 0) (j := (0 : Int32)) (by decide) (by show 0 < 3; decide) (x := (0 : Int32)) (pc := 156) (Ls := #[.val (.ref r0), .val (.int (3 : Int32)), .val (.ref r2), .val (.int p3), .val (.int (0 : Int32)), .val (.int (0 : Int32))]) (rest := []) (hb hby d12_156)
      have N62 := Fr.snoc X62 N58 g_b9
      have K62 : Keep h0 h62 [r0] := K56.wr W62 (Or.inr sz_b9)
      have O62 : Old Z n0 h62 := O56.wr W62 g_b9
      have Vw62 : Oar Z h62 b9 k9 .int [(.int (0 : Int32)), (.int (-1 : Int32)), (.int (0 : Int32))] := V62
      refine OFin.st st62 ?_
      show OFin p e below _ _ T62 (mkF m 157 #[.val (.ref r0), .val (.int (3 : Int32)), .val (.ref r2), .val (.int p3), .val (.int (0 : Int32)), .val (.int (0 : Int32))] [])
      refine OFin.st (fun t k => XS.iload X62.here hx rfl (hb hby d12_157) rfl k) ?_
      show OFin p e below _ _ T62 (mkF m 159 #[.val (.ref r0), .val (.int (3 : Int32)), .val (.ref r2), .val (.int p3), .val (.int (0 : Int32)), .val (.int (0 : Int32))] [(.int (0 : Int32))])
      refine OFin.st (fun t k => XS.iloadN X62.here hx rfl (hb hby d12_159) rfl k) ?_
      show OFin p e below _ _ T62 (mkF m 160 #[.val (.ref r0), .val (.int (3 : Int32)), .val (.ref r2), .val (.int p3), .val (.int (0 : Int32)), .val (.int (0 : Int32))] [(.int p3), (.int (0 : Int32))])
      refine OFin.st (fun t k => XS.iadd X62.here hx rfl (hb hby d12_160) rfl k) ?_
      show OFin p e below _ _ T62 (mkF m 161 #[.val (.ref r0), .val (.int (3 : Int32)), .val (.ref r2), .val (.int p3), .val (.int (0 : Int32)), .val (.int (0 : Int32))] [(.int ((0 : Int32) + p3))])
      refine OFin.st (fun t k => XS.istore X62.here hx rfl (hb hby d12_161) rfl (l' := #[.val (.ref r0), .val (.int (3 : Int32)), .val (.ref r2), .val (.int p3), .val (.int ((0 : Int32) + p3)), .val (.int (0 : Int32))]) rfl k) ?_
      show OFin p e below _ _ T62 (mkF m 163 #[.val (.ref r0), .val (.int (3 : Int32)), .val (.ref r2), .val (.int p3), .val (.int ((0 : Int32) + p3)), .val (.int (0 : Int32))] [])
      refine OFin.st (fun t k => XS.iinc X62.here hx rfl (hb hby d12_163) rfl (l' := #[.val (.ref r0), .val (.int (3 : Int32)), .val (.ref r2), .val (.int p3), .val (.int ((0 : Int32) + p3)), .val (.int (1 : Int32))]) rfl k) ?_
      show OFin p e below _ _ T62 (mkF m 166 #[.val (.ref r0), .val (.int (3 : Int32)), .val (.ref r2), .val (.int p3), .val (.int ((0 : Int32) + p3)), .val (.int (1 : Int32))] [])
      refine OFin.st (fun t k => XS.goto X62.here hx rfl (pc0 := 166) (pc' := 131) rfl (hb hby d12_166) (by decide) (by decide) k) ?_
      show OFin p e below _ _ T62 (mkF m 131 #[.val (.ref r0), .val (.int (3 : Int32)), .val (.ref r2), .val (.int p3), .val (.int ((0 : Int32) + p3)), .val (.int (1 : Int32))] [])
      refine OFin.st (fun t k => XS.iload X62.here hx rfl (hb hby d12_131) rfl k) ?_
      show OFin p e below _ _ T62 (mkF m 133 #[.val (.ref r0), .val (.int (3 : Int32)), .val (.ref r2), .val (.int p3), .val (.int ((0 : Int32) + p3)), .val (.int (1 : Int32))] [(.int (1 : Int32))])
      refine OFin.st (fun t k => XS.iloadN X62.here hx rfl (hb hby d12_133) rfl k) ?_
      show OFin p e below _ _ T62 (mkF m 134 #[.val (.ref r0), .val (.int (3 : Int32)), .val (.ref r2), .val (.int p3), .val (.int ((0 : Int32) + p3)), .val (.int (1 : Int32))] [(.int (3 : Int32)), (.int (1 : Int32))])
      refine OFin.st (fun t k => XS.icmpNo X62.here hx rfl (hb hby d12_134) rfl (tlt (by decide : (1 : Int32) < (3 : Int32))).2.1 k) ?_
      show OFin p e below _ _ T62 (mkF m 137 #[.val (.ref r0), .val (.int (3 : Int32)), .val (.ref r2), .val (.int p3), .val (.int ((0 : Int32) + p3)), .val (.int (1 : Int32))] [])
      refine OFin.st (fun t k => XS.aloadN X62.here hx rfl (hb hby d12_137) rfl rfl k) ?_
      show OFin p e below _ _ T62 (mkF m 138 #[.val (.ref r0), .val (.int (3 : Int32)), .val (.ref r2), .val (.int p3), .val (.int ((0 : Int32) + p3)), .val (.int (1 : Int32))] [(.ref r0)])
      obtain ⟨T63, X63, e63, st63⟩ := getF X62 hx hZ hown (host := "") (Or.inl (hw _ (List.mem_of_getElem? (i := 108) rfl))) Via.refl e62 (c59.other W62 (Or.inl N_r0_b9)) (g := (mkF m 138 #[.val (.ref r0), .val (.int (3 : Int32)), .val (.ref r2), .val (.int p3), .val (.int ((0 : Int32) + p3)), .val (.int (1 : Int32))] [(.ref r0)])) rfl rfl (hb hby d12_138)
      refine OFin.st st63 ?_
      show OFin p e below _ _ T63 (mkF m 141 #[.val (.ref r0), .val (.int (3 : Int32)), .val (.ref r2), .val (.int p3), .val (.int ((0 : Int32) + p3)), .val (.int (1 : Int32))] [(.ref b9)])
      refine OFin.st (fun t k => XS.iload X63.here hx rfl (hb hby d12_141) rfl k) ?_
      show OFin p e below _ _ T63 (mkF m 143 #[.val (.ref r0), .val (.int (3 : Int32)), .val (.ref r2), .val (.int p3), .val (.int ((0 : Int32) + p3)), .val (.int (1 : Int32))] [(.int (1 : Int32)), (.ref b9)])
      refine own_iaload X63 hx hZ e63 Vw62 (i := 1) (j := (1 : Int32)) (by decide) (v := (.int (-1 : Int32))) rfl (hb hby d12_143) (pc' := 144) rfl ?_
      show OFin p e below _ _ T63 (mkF m 144 #[.val (.ref r0), .val (.int (3 : Int32)), .val (.ref r2), .val (.int p3), .val (.int ((0 : Int32) + p3)), .val (.int (1 : Int32))] [(.int (-1 : Int32))])
      refine OFin.st (fun t k => XS.iconst X63.here hx rfl (hb hby d12_144) k) ?_
      show OFin p e below _ _ T63 (mkF m 145 #[.val (.ref r0), .val (.int (3 : Int32)), .val (.ref r2), .val (.int p3), .val (.int ((0 : Int32) + p3)), .val (.int (1 : Int32))] [(.int (-1 : Int32)), (.int (-1 : Int32))])
      refine OFin.st (fun t k => XS.icmpYes X63.here hx rfl (pc0 := 145) (pc' := 163) rfl (hb hby d12_145) rfl (teq (by decide : (-1 : Int32) = (-1 : Int32))).1 (by decide) (by decide) k) ?_
      show OFin p e below _ _ T63 (mkF m 163 #[.val (.ref r0), .val (.int (3 : Int32)), .val (.ref r2), .val (.int p3), .val (.int ((0 : Int32) + p3)), .val (.int (1 : Int32))] [])
      refine OFin.st (fun t k => XS.iinc X63.here hx rfl (hb hby d12_163) rfl (l' := #[.val (.ref r0), .val (.int (3 : Int32)), .val (.ref r2), .val (.int p3), .val (.int ((0 : Int32) + p3)), .val (.int (2 : Int32))]) rfl k) ?_
      show OFin p e below _ _ T63 (mkF m 166 #[.val (.ref r0), .val (.int (3 : Int32)), .val (.ref r2), .val (.int p3), .val (.int ((0 : Int32) + p3)), .val (.int (2 : Int32))] [])
      refine OFin.st (fun t k => XS.goto X63.here hx rfl (pc0 := 166) (pc' := 131) rfl (hb hby d12_166) (by decide) (by decide) k) ?_
      show OFin p e below _ _ T63 (mkF m 131 #[.val (.ref r0), .val (.int (3 : Int32)), .val (.ref r2), .val (.int p3), .val (.int ((0 : Int32) + p3)), .val (.int (2 : Int32))] [])
      refine OFin.st (fun t k => XS.iload X63.here hx rfl (hb hby d12_131) rfl k) ?_
      show OFin p e below _ _ T63 (mkF m 133 #[.val (.ref r0), .val (.int (3 : Int32)), .val (.ref r2), .val (.int p3), .val (.int ((0 : Int32) + p3)), .val (.int (2 : Int32))] [(.int (2 : Int32))])
      refine OFin.st (fun t k => XS.iloadN X63.here hx rfl (hb hby d12_133) rfl k) ?_
      show OFin p e below _ _ T63 (mkF m 134 #[.val (.ref r0), .val (.int (3 : Int32)), .val (.ref r2), .val (.int p3), .val (.int ((0 : Int32) + p3)), .val (.int (2 : Int32))] [(.int (3 : Int32)), (.int (2 : Int32))])
      refine OFin.st (fun t k => XS.icmpNo X63.here hx rfl (hb hby d12_134) rfl (tlt (by decide : (2 : Int32) < (3 : Int32))).2.1 k) ?_
      show OFin p e below _ _ T63 (mkF m 137 #[.val (.ref r0), .val (.int (3 : Int32)), .val (.ref r2), .val (.int p3), .val (.int ((0 : Int32) + p3)), .val (.int (2 : Int32))] [])
      refine OFin.st (fun t k => XS.aloadN X63.here hx rfl (hb hby d12_137) rfl rfl k) ?_
      show OFin p e below _ _ T63 (mkF m 138 #[.val (.ref r0), .val (.int (3 : Int32)), .val (.ref r2), .val (.int p3), .val (.int ((0 : Int32) + p3)), .val (.int (2 : Int32))] [(.ref r0)])
      obtain ⟨T64, X64, e64, st64⟩ := getF X63 hx hZ hown (host := "") (Or.inl (hw _ (List.mem_of_getElem? (i := 108) rfl))) Via.refl e63 (c59.other W62 (Or.inl N_r0_b9)) (g := (mkF m 138 #[.val (.ref r0), .val (.int (3 : Int32)), .val (.ref r2), .val (.int p3), .val (.int ((0 : Int32) + p3)), .val (.int (2 : Int32))] [(.ref r0)])) rfl rfl (hb hby d12_138)
      refine OFin.st st64 ?_
      show OFin p e below _ _ T64 (mkF m 141 #[.val (.ref r0), .val (.int (3 : Int32)), .val (.ref r2), .val (.int p3), .val (.int ((0 : Int32) + p3)), .val (.int (2 : Int32))] [(.ref b9)])
      refine OFin.st (fun t k => XS.iload X64.here hx rfl (hb hby d12_141) rfl k) ?_
      show OFin p e below _ _ T64 (mkF m 143 #[.val (.ref r0), .val (.int (3 : Int32)), .val (.ref r2), .val (.int p3), .val (.int ((0 : Int32) + p3)), .val (.int (2 : Int32))] [(.int (2 : Int32)), (.ref b9)])
      refine own_iaload X64 hx hZ e64 Vw62 (i := 2) (j := (2 : Int32)) (by decide) (v := (.int (0 : Int32))) rfl (hb hby d12_143) (pc' := 144) rfl ?_
      show OFin p e below _ _ T64 (mkF m 144 #[.val (.ref r0), .val (.int (3 : Int32)), .val (.ref r2), .val (.int p3), .val (.int ((0 : Int32) + p3)), .val (.int (2 : Int32))] [(.int (0 : Int32))])
      refine OFin.st (fun t k => XS.iconst X64.here hx rfl (hb hby d12_144) k) ?_
      show OFin p e below _ _ T64 (mkF m 145 #[.val (.ref r0), .val (.int (3 : Int32)), .val (.ref r2), .val (.int p3), .val (.int ((0 : Int32) + p3)), .val (.int (2 : Int32))] [(.int (-1 : Int32)), (.int (0 : Int32))])
      refine OFin.st (fun t k => XS.icmpNo X64.here hx rfl (hb hby d12_145) rfl (feq (by decide : ¬ ((0 : Int32) = (-1 : Int32)))).1 k) ?_
      show OFin p e below _ _ T64 (mkF m 148 #[.val (.ref r0), .val (.int (3 : Int32)), .val (.ref r2), .val (.int p3), .val (.int ((0 : Int32) + p3)), .val (.int (2 : Int32))] [])
      refine OFin.st (fun t k => XS.aloadN X64.here hx rfl (hb hby d12_148) rfl rfl k) ?_
      show OFin p e below _ _ T64 (mkF m 149 #[.val (.ref r0), .val (.int (3 : Int32)), .val (.ref r2), .val (.int p3), .val (.int ((0 : Int32) + p3)), .val (.int (2 : Int32))] [(.ref r0)])
      obtain ⟨T65, X65, e65, st65⟩ := getF X64 hx hZ hown (host := "") (Or.inl (hw _ (List.mem_of_getElem? (i := 108) rfl))) Via.refl e64 (c59.other W62 (Or.inl N_r0_b9)) (g := (mkF m 149 #[.val (.ref r0), .val (.int (3 : Int32)), .val (.ref r2), .val (.int p3), .val (.int ((0 : Int32) + p3)), .val (.int (2 : Int32))] [(.ref r0)])) rfl rfl (hb hby d12_149)
      refine OFin.st st65 ?_
      show OFin p e below _ _ T65 (mkF m 152 #[.val (.ref r0), .val (.int (3 : Int32)), .val (.ref r2), .val (.int p3), .val (.int ((0 : Int32) + p3)), .val (.int (2 : Int32))] [(.ref b9)])
      refine OFin.st (fun t k => XS.iload X65.here hx rfl (hb hby d12_152) rfl k) ?_
      show OFin p e below _ _ T65 (mkF m 154 #[.val (.ref r0), .val (.int (3 : Int32)), .val (.ref r2), .val (.int p3), .val (.int ((0 : Int32) + p3)), .val (.int (2 : Int32))] [(.int (2 : Int32)), (.ref b9)])
      refine OFin.st (fun t k => XS.iload X65.here hx rfl (hb hby d12_154) rfl k) ?_
      show OFin p e below _ _ T65 (mkF m 156 #[.val (.ref r0), .val (.int (3 : Int32)), .val (.ref r2), .val (.int p3), .val (.int ((0 : Int32) + p3)), .val (.int (2 : Int32))] [(.int ((0 : Int32) + p3)), (.int (2 : Int32)), (.ref b9)])
      obtain ⟨T66, h66, X66, e66, W66, V66, st66⟩ := own_iastore X65 hx hZ e65 Vw62 (i := 2) (j := (2 : Int32)) (by decide) (by show 2 < 3; decide) (x := ((0 : Int32) + p3)) (pc := 156) (Ls := #[.val (.ref r0), .val (.int (3 : Int32)), .val (.ref r2), .val (.int p3), .val (.int ((0 : Int32) + p3)), .val (.int (2 : Int32))]) (rest := []) (hb hby d12_156)
      have N66 := Fr.snoc X66 N62 g_b9
      have K66 : Keep h0 h66 [r0] := K62.wr W66 (Or.inr sz_b9)
      have O66 : Old Z n0 h66 := O62.wr W66 g_b9
      have Vw66 : Oar Z h66 b9 k9 .int [(.int (0 : Int32)), (.int (-1 : Int32)), (.int ((0 : Int32) + p3))] := V66
      refine OFin.st st66 ?_
      show OFin p e below _ _ T66 (mkF m 157 #[.val (.ref r0), .val (.int (3 : Int32)), .val (.ref r2), .val (.int p3), .val (.int ((0 : Int32) + p3)), .val (.int (2 : Int32))] [])
      refine OFin.st (fun t k => XS.iload X66.here hx rfl (hb hby d12_157) rfl k) ?_
      show OFin p e below _ _ T66 (mkF m 159 #[.val (.ref r0), .val (.int (3 : Int32)), .val (.ref r2), .val (.int p3), .val (.int ((0 : Int32) + p3)), .val (.int (2 : Int32))] [(.int ((0 : Int32) + p3))])
      refine OFin.st (fun t k => XS.iloadN X66.here hx rfl (hb hby d12_159) rfl k) ?_
      show OFin p e below _ _ T66 (mkF m 160 #[.val (.ref r0), .val (.int (3 : Int32)), .val (.ref r2), .val (.int p3), .val (.int ((0 : Int32) + p3)), .val (.int (2 : Int32))] [(.int p3), (.int ((0 : Int32) + p3))])
      refine OFin.st (fun t k => XS.iadd X66.here hx rfl (hb hby d12_160) rfl k) ?_
      show OFin p e below _ _ T66 (mkF m 161 #[.val (.ref r0), .val (.int (3 : Int32)), .val (.ref r2), .val (.int p3), .val (.int ((0 : Int32) + p3)), .val (.int (2 : Int32))] [(.int (((0 : Int32) + p3) + p3))])
      refine OFin.st (fun t k => XS.istore X66.here hx rfl (hb hby d12_161) rfl (l' := #[.val (.ref r0), .val (.int (3 : Int32)), .val (.ref r2), .val (.int p3), .val (.int (((0 : Int32) + p3) + p3)), .val (.int (2 : Int32))]) rfl k) ?_
      show OFin p e below _ _ T66 (mkF m 163 #[.val (.ref r0), .val (.int (3 : Int32)), .val (.ref r2), .val (.int p3), .val (.int (((0 : Int32) + p3) + p3)), .val (.int (2 : Int32))] [])
      refine OFin.st (fun t k => XS.iinc X66.here hx rfl (hb hby d12_163) rfl (l' := #[.val (.ref r0), .val (.int (3 : Int32)), .val (.ref r2), .val (.int p3), .val (.int (((0 : Int32) + p3) + p3)), .val (.int (3 : Int32))]) rfl k) ?_
      show OFin p e below _ _ T66 (mkF m 166 #[.val (.ref r0), .val (.int (3 : Int32)), .val (.ref r2), .val (.int p3), .val (.int (((0 : Int32) + p3) + p3)), .val (.int (3 : Int32))] [])
      refine OFin.st (fun t k => XS.goto X66.here hx rfl (pc0 := 166) (pc' := 131) rfl (hb hby d12_166) (by decide) (by decide) k) ?_
      show OFin p e below _ _ T66 (mkF m 131 #[.val (.ref r0), .val (.int (3 : Int32)), .val (.ref r2), .val (.int p3), .val (.int (((0 : Int32) + p3) + p3)), .val (.int (3 : Int32))] [])
      refine OFin.st (fun t k => XS.iload X66.here hx rfl (hb hby d12_131) rfl k) ?_
      show OFin p e below _ _ T66 (mkF m 133 #[.val (.ref r0), .val (.int (3 : Int32)), .val (.ref r2), .val (.int p3), .val (.int (((0 : Int32) + p3) + p3)), .val (.int (3 : Int32))] [(.int (3 : Int32))])
      refine OFin.st (fun t k => XS.iloadN X66.here hx rfl (hb hby d12_133) rfl k) ?_
      show OFin p e below _ _ T66 (mkF m 134 #[.val (.ref r0), .val (.int (3 : Int32)), .val (.ref r2), .val (.int p3), .val (.int (((0 : Int32) + p3) + p3)), .val (.int (3 : Int32))] [(.int (3 : Int32)), (.int (3 : Int32))])
      refine OFin.st (fun t k => XS.icmpYes X66.here hx rfl (pc0 := 134) (pc' := 169) rfl (hb hby d12_134) rfl (flt (by decide : ¬ ((3 : Int32) < (3 : Int32)))).2.1 (by decide) (by decide) k) ?_
      show OFin p e below _ _ T66 (mkF m 169 #[.val (.ref r0), .val (.int (3 : Int32)), .val (.ref r2), .val (.int p3), .val (.int (((0 : Int32) + p3) + p3)), .val (.int (3 : Int32))] [])
      refine OFin.st (fun t k => XS.aloadN X66.here hx rfl (hb hby d12_169) rfl rfl k) ?_
      show OFin p e below _ _ T66 (mkF m 170 #[.val (.ref r0), .val (.int (3 : Int32)), .val (.ref r2), .val (.int p3), .val (.int (((0 : Int32) + p3) + p3)), .val (.int (3 : Int32))] [(.ref r0)])
      refine OFin.st (fun t k => XS.iloadN X66.here hx rfl (hb hby d12_170) rfl k) ?_
      show OFin p e below _ _ T66 (mkF m 171 #[.val (.ref r0), .val (.int (3 : Int32)), .val (.ref r2), .val (.int p3), .val (.int (((0 : Int32) + p3) + p3)), .val (.int (3 : Int32))] [(.int (3 : Int32)), (.ref r0)])
      obtain ⟨T67, h67, k67, X67, e67, E67, A67, st67⟩ := own_newP X66 hx hZ (hw _ (List.mem_of_getElem? (i := 173) rfl)) e66 (z := (3 : Int32)) (n := 3) (cap := 3) (by decide) (by decide) (by decide) (by decide) (by decide) (pc := 171) (Ls := #[.val (.ref r0), .val (.int (3 : Int32)), .val (.ref r2), .val (.int p3), .val (.int (((0 : Int32) + p3) + p3)), .val (.int (3 : Int32))]) (rest := [(.ref r0)]) (hb hby d12_171)
      obtain ⟨b67, gz_b67⟩ : ∃ z, z = h66.size := ⟨_, rfl⟩
      rw [← gz_b67] at A67 st67
      have c68 := (((((((((((E_r0.ext E2).wr W3).wr W5).wr W8).ext E9).wr W13).keep K15q).keep K19q).wr W56).wr W62).wr W66)
      have N_r0_b67 : r0 ≠ b67 := Nat.ne_of_lt (Nat.lt_of_lt_of_le c68.lt (Nat.le_of_eq gz_b67.symm))
      have c69 := (((((((((((E_r2.ext E2).wr W3).wr W5).wr W8).ext E9).wr W13).keep K15q).keep K19q).wr W56).wr W62).wr W66)
      have N_r2_b67 : r2 ≠ b67 := Nat.ne_of_lt (Nat.lt_of_lt_of_le c69.lt (Nat.le_of_eq gz_b67.symm))
      have c70 := (((((((c10.ext E9).other W13 N_ea_r0).keep K15q nin0).keep K19q (ninS N_ea_b15 nin0)).other W56 N_ea_b9).other W62 N_ea_b9).other W66 N_ea_b9)
      have N_ea_b67 : ea ≠ b67 := Nat.ne_of_lt (Nat.lt_of_lt_of_le c70.lt (Nat.le_of_eq gz_b67.symm))
      have N_el_b67 : el ≠ b67 := Nat.ne_of_lt (Nat.lt_of_lt_of_le (((c20.wr W56).wr W62).wr W66).lt (Nat.le_of_eq gz_b67.symm))
      have c71 := (((((((c11.ext E9).other W13 (Ne.symm N_r0_b2)).keep K15q nin0).keep K19q (ninS N_b2_b15 nin0)).other W56 N_b2_b9).other W62 N_b2_b9).other W66 N_b2_b9)
      have N_b2_b67 : b2 ≠ b67 := Nat.ne_of_lt (Nat.lt_of_lt_of_le c71.lt (Nat.le_of_eq gz_b67.symm))
      have N_b9_b67 : b9 ≠ b67 := Nat.ne_of_lt (Nat.lt_of_lt_of_le Vw66.lt (Nat.le_of_eq gz_b67.symm))
      have N_b15_b67 : b15 ≠ b67 := Nat.ne_of_lt (Nat.lt_of_lt_of_le (((P19_0.wr W56).wr W62).wr W66).lt (Nat.le_of_eq gz_b67.symm))
      have g_b67 : n0 ≤ b67 := Nat.le_trans (Nat.le_trans (Nat.le_of_eq O66.1.symm) O66.2.1) (Nat.le_of_eq gz_b67.symm)
      have sz_b67 : h0.size ≤ b67 := Nat.le_trans K66.1 (Nat.le_of_eq gz_b67.symm)
      have K67 : Keep h0 h67 [r0] := K66.ext E67
      have O67 : Old Z n0 h67 := O66.ext E67
      have V67 : Oar Z h67 b67 k67 .long [(.long (0 : Int64)), (.long (0 : Int64)), (.long (0 : Int64))] := A67
      refine OFin.st st67 ?_
      show OFin p e below _ _ T67 (mkF m 173 #[.val (.ref r0), .val (.int (3 : Int32)), .val (.ref r2), .val (.int p3), .val (.int (((0 : Int32) + p3) + p3)), .val (.int (3 : Int32))] [(.ref b67), (.ref r0)])
      have c72 := ((((((((((((F_words_r0.ext E2).other W3 (Or.inr (slot_ne (Or.inr (hw _ (List.mem_of_getElem? (i := 175) rfl))) (Or.inl (hw _ (List.mem_of_getElem? (i := 102) rfl))) (by decide) (t := (.array .long)) (t' := (.array (.array .long))) (by decide) (by decide)))).other W5 (Or.inr (slot_ne (Or.inr (hw _ (List.mem_of_getElem? (i := 175) rfl))) (Or.inr (hw _ (List.mem_of_getElem? (i := 104) rfl))) (by decide) (t := (.array .long)) (t' := .int) (by decide) (by decide)))).other W8 (Or.inr (slot_ne (Or.inr (hw _ (List.mem_of_getElem? (i := 175) rfl))) (Or.inr (hw _ (List.mem_of_getElem? (i := 106) rfl))) (by decide) (t := (.array .long)) (t' := .long) (by decide) (by decide)))).ext E9).other W13 (Or.inr (slot_ne (Or.inr (hw _ (List.mem_of_getElem? (i := 175) rfl))) (Or.inr (hw _ (List.mem_of_getElem? (i := 109) rfl))) (by decide) (t := (.array .long)) (t' := (.array .int)) (by decide) (by decide)))).keep K15q nin0).keep K19q (ninS N_r0_b15 nin0)).other W56 (Or.inl N_r0_b9)).other W62 (Or.inl N_r0_b9)).other W66 (Or.inl N_r0_b9)).ext E67)
      obtain ⟨T73, h73, X73, e73, W73, st73⟩ := putF X67 hx hZ hown (host := "") (Or.inl (hw _ (List.mem_of_getElem? (i := 174) rfl))) Via.refl e67 c72 (c68.ext E67) (Or.inr ⟨(hw _ (List.mem_of_getElem? (i := 175) rfl)), rfl, hnm⟩) (hw _ (List.mem_of_getElem? (i := 93) rfl)) (ty := (.array .long)) (by decide) rfl rfl (g := (mkF m 173 #[.val (.ref r0), .val (.int (3 : Int32)), .val (.ref r2), .val (.int p3), .val (.int (((0 : Int32) + p3) + p3)), .val (.int (3 : Int32))] [(.ref b67), (.ref r0)])) rfl rfl (hb hby d12_173)
      refine OFin.st st73 ?_
      have Fw73 := c72.same W73
      have N73 := Fr.snoc X73 N66 g_r0
      have K73 : Keep h0 h73 [r0] := K67.wr W73 (Or.inl (List.mem_of_getElem? (i := 0) rfl))
      have O73 : Old Z n0 h73 := O67.wr W73 g_r0
      show OFin p e below _ _ T73 (mkF m 176 #[.val (.ref r0), .val (.int (3 : Int32)), .val (.ref r2), .val (.int p3), .val (.int (((0 : Int32) + p3) + p3)), .val (.int (3 : Int32))] [])
      refine OFin.st (fun t k => XS.aloadN X73.here hx rfl (hb hby d12_176) rfl rfl k) ?_
      show OFin p e below _ _ T73 (mkF m 177 #[.val (.ref r0), .val (.int (3 : Int32)), .val (.ref r2), .val (.int p3), .val (.int (((0 : Int32) + p3) + p3)), .val (.int (3 : Int32))] [(.ref r0)])
      refine OFin.st (fun t k => XS.iload X73.here hx rfl (hb hby d12_177) rfl k) ?_
      show OFin p e below _ _ T73 (mkF m 179 #[.val (.ref r0), .val (.int (3 : Int32)), .val (.ref r2), .val (.int p3), .val (.int (((0 : Int32) + p3) + p3)), .val (.int (3 : Int32))] [(.int (((0 : Int32) + p3) + p3)), (.ref r0)])
      obtain ⟨T74, h74, k74, X74, e74, E74, A74, st74⟩ := own_newP X73 hx hZ (hw _ (List.mem_of_getElem? (i := 173) rfl)) e73 (z := (((0 : Int32) + p3) + p3)) (n := (2 * p3.toInt.toNat)) (cap := 128) (own_2w p3 hw1 hw2).1 (own_2w p3 hw1 hw2).2 (by decide) (by decide) (by decide) (pc := 179) (Ls := #[.val (.ref r0), .val (.int (3 : Int32)), .val (.ref r2), .val (.int p3), .val (.int (((0 : Int32) + p3) + p3)), .val (.int (3 : Int32))]) (rest := [(.ref r0)]) (hb hby d12_179)
      obtain ⟨b74, gz_b74⟩ : ∃ z, z = h73.size := ⟨_, rfl⟩
      rw [← gz_b74] at A74 st74
      have N_r0_b74 : r0 ≠ b74 := Nat.ne_of_lt (Nat.lt_of_lt_of_le ((c68.ext E67).wr W73).lt (Nat.le_of_eq gz_b74.symm))
      have N_r2_b74 : r2 ≠ b74 := Nat.ne_of_lt (Nat.lt_of_lt_of_le ((c69.ext E67).wr W73).lt (Nat.le_of_eq gz_b74.symm))
      have N_ea_b74 : ea ≠ b74 := Nat.ne_of_lt (Nat.lt_of_lt_of_le ((c70.ext E67).other W73 N_ea_r0).lt (Nat.le_of_eq gz_b74.symm))
      have N_el_b74 : el ≠ b74 := Nat.ne_of_lt (Nat.lt_of_lt_of_le (((((c20.wr W56).wr W62).wr W66).ext E67).wr W73).lt (Nat.le_of_eq gz_b74.symm))
      have N_b2_b74 : b2 ≠ b74 := Nat.ne_of_lt (Nat.lt_of_lt_of_le ((c71.ext E67).other W73 (Ne.symm N_r0_b2)).lt (Nat.le_of_eq gz_b74.symm))
      have N_b9_b74 : b9 ≠ b74 := Nat.ne_of_lt (Nat.lt_of_lt_of_le ((Vw66.ext E67).other W73 (Ne.symm N_r0_b9)).lt (Nat.le_of_eq gz_b74.symm))
      have N_b15_b74 : b15 ≠ b74 := Nat.ne_of_lt (Nat.lt_of_lt_of_le (((((P19_0.wr W56).wr W62).wr W66).ext E67).wr W73).lt (Nat.le_of_eq gz_b74.symm))
      have N_b67_b74 : b67 ≠ b74 := Nat.ne_of_lt (Nat.lt_of_lt_of_le (V67.other W73 (Ne.symm N_r0_b67)).lt (Nat.le_of_eq gz_b74.symm))
      have g_b74 : n0 ≤ b74 := Nat.le_trans (Nat.le_trans (Nat.le_of_eq O73.1.symm) O73.2.1) (Nat.le_of_eq gz_b74.symm)
      have sz_b74 : h0.size ≤ b74 := Nat.le_trans K73.1 (Nat.le_of_eq gz_b74.symm)
      have K74 : Keep h0 h74 [r0] := K73.ext E74
      have O74 : Old Z n0 h74 := O73.ext E74
      have V74 : Oar Z h74 b74 k74 .long (List.replicate (2 * p3.toInt.toNat) (.long (0 : Int64))) := A74
      refine OFin.st st74 ?_
      show OFin p e below _ _ T74 (mkF m 181 #[.val (.ref r0), .val (.int (3 : Int32)), .val (.ref r2), .val (.int p3), .val (.int (((0 : Int32) + p3) + p3)), .val (.int (3 : Int32))] [(.ref b74), (.ref r0)])
      have c75 := ((((((((((((((F_values_r0.ext E2).other W3 (Or.inr (slot_ne (Or.inr (hw _ (List.mem_of_getElem? (i := 177) rfl))) (Or.inl (hw _ (List.mem_of_getElem? (i := 102) rfl))) (by decide) (t := (.array .long)) (t' := (.array (.array .long))) (by decide) (by decide)))).other W5 (Or.inr (slot_ne (Or.inr (hw _ (List.mem_of_getElem? (i := 177) rfl))) (Or.inr (hw _ (List.mem_of_getElem? (i := 104) rfl))) (by decide) (t := (.array .long)) (t' := .int) (by decide) (by decide)))).other W8 (Or.inr (slot_ne (Or.inr (hw _ (List.mem_of_getElem? (i := 177) rfl))) (Or.inr (hw _ (List.mem_of_getElem? (i := 106) rfl))) (by decide) (t := (.array .long)) (t' := .long) (by decide) (by decide)))).ext E9).other W13 (Or.inr (slot_ne (Or.inr (hw _ (List.mem_of_getElem? (i := 177) rfl))) (Or.inr (hw _ (List.mem_of_getElem? (i := 109) rfl))) (by decide) (t := (.array .long)) (t' := (.array .int)) (by decide) (by decide)))).keep K15q nin0).keep K19q (ninS N_r0_b15 nin0)).other W56 (Or.inl N_r0_b9)).other W62 (Or.inl N_r0_b9)).other W66 (Or.inl N_r0_b9)).ext E67).other W73 (Or.inr (slot_ne (Or.inr (hw _ (List.mem_of_getElem? (i := 177) rfl))) (Or.inr (hw _ (List.mem_of_getElem? (i := 175) rfl))) (by decide) (t := (.array .long)) (t' := (.array .long)) (by decide) (by decide)))).ext E74)
      obtain ⟨T76, h76, X76, e76, W76, st76⟩ := putF X74 hx hZ hown (host := "") (Or.inl (hw _ (List.mem_of_getElem? (i := 176) rfl))) Via.refl e74 c75 (((c68.ext E67).wr W73).ext E74) (Or.inr ⟨(hw _ (List.mem_of_getElem? (i := 177) rfl)), rfl, hnm⟩) (hw _ (List.mem_of_getElem? (i := 93) rfl)) (ty := (.array .long)) (by decide) rfl rfl (g := (mkF m 181 #[.val (.ref r0), .val (.int (3 : Int32)), .val (.ref r2), .val (.int p3), .val (.int (((0 : Int32) + p3) + p3)), .val (.int (3 : Int32))] [(.ref b74), (.ref r0)])) rfl rfl (hb hby d12_181)
      refine OFin.st st76 ?_
      have Fw76 := c75.same W76
      have N76 := Fr.snoc X76 N73 g_r0
      have K76 : Keep h0 h76 [r0] := K74.wr W76 (Or.inl (List.mem_of_getElem? (i := 0) rfl))
      have O76 : Old Z n0 h76 := O74.wr W76 g_r0
      show OFin p e below _ _ T76 (mkF m 184 #[.val (.ref r0), .val (.int (3 : Int32)), .val (.ref r2), .val (.int p3), .val (.int (((0 : Int32) + p3) + p3)), .val (.int (3 : Int32))] [])
      have c77 := ((((Vw66.ext E67).other W73 (Ne.symm N_r0_b9)).ext E74).other W76 (Ne.symm N_r0_b9))
      have c78 := (((V67.other W73 (Ne.symm N_r0_b67)).ext E74).other W76 (Ne.symm N_r0_b67))
      have c79 := ((((((((((((Fw5.other W8 (Or.inr (slot_ne (Or.inr (hw _ (List.mem_of_getElem? (i := 104) rfl))) (Or.inr (hw _ (List.mem_of_getElem? (i := 106) rfl))) (by decide) (t := .int) (t' := .long) (by decide) (by decide)))).ext E9).other W13 (Or.inr (slot_ne (Or.inr (hw _ (List.mem_of_getElem? (i := 104) rfl))) (Or.inr (hw _ (List.mem_of_getElem? (i := 109) rfl))) (by decide) (t := .int) (t' := (.array .int)) (by decide) (by decide)))).keep K15q nin0).keep K19q (ninS N_r0_b15 nin0)).other W56 (Or.inl N_r0_b9)).other W62 (Or.inl N_r0_b9)).other W66 (Or.inl N_r0_b9)).ext E67).other W73 (Or.inr (slot_ne (Or.inr (hw _ (List.mem_of_getElem? (i := 104) rfl))) (Or.inr (hw _ (List.mem_of_getElem? (i := 175) rfl))) (by decide) (t := .int) (t' := (.array .long)) (by decide) (by decide)))).ext E74).other W76 (Or.inr (slot_ne (Or.inr (hw _ (List.mem_of_getElem? (i := 104) rfl))) (Or.inr (hw _ (List.mem_of_getElem? (i := 177) rfl))) (by decide) (t := .int) (t' := (.array .long)) (by decide) (by decide))))
      have c80 := ((((((c59.other W62 (Or.inl N_r0_b9)).other W66 (Or.inl N_r0_b9)).ext E67).other W73 (Or.inr (slot_ne (Or.inr (hw _ (List.mem_of_getElem? (i := 109) rfl))) (Or.inr (hw _ (List.mem_of_getElem? (i := 175) rfl))) (by decide) (t := (.array .int)) (t' := (.array .long)) (by decide) (by decide)))).ext E74).other W76 (Or.inr (slot_ne (Or.inr (hw _ (List.mem_of_getElem? (i := 109) rfl))) (Or.inr (hw _ (List.mem_of_getElem? (i := 177) rfl))) (by decide) (t := (.array .int)) (t' := (.array .long)) (by decide) (by decide))))
      have c81 := ((Fw73.ext E74).other W76 (Or.inr (slot_ne (Or.inr (hw _ (List.mem_of_getElem? (i := 175) rfl))) (Or.inr (hw _ (List.mem_of_getElem? (i := 177) rfl))) (by decide) (t := (.array .long)) (t' := (.array .long)) (by decide) (by decide))))
      exact own_retV X76 hx Bd.returns Bd.notSynchronized (hb hby d12_184) (by show Qrm12 Z r0 r2 p3 ea el (1 : Int32) mc ke u1 u2 u3 u4 u5 u6 w_BOOL h0 n0 _ T76.heap _; rw [e76]; exact ⟨b9, b67, b74, k9, k67, k74, rfl, N76, K76, ((((c68.ext E67).wr W73).ext E74).wr W76), c79, c80, c81, Fw76, (by rw [offs, if_neg (by decide), if_pos rfl]; exact c77), c78, (V74.other W76 (Ne.symm N_r0_b74)), sz_b9, sz_b67, sz_b74, N_b9_b67, N_b9_b74, N_b67_b74⟩) (own_endN (by decide) (by decide))
    · show OFin p e below _ _ T27 (mkF m 121 #[.val (.ref r0), .val (.int (3 : Int32)), .val (.ref r2), .val (.int p3), .val (.ref b15), .val (.ref el)] [(.int (-1 : Int32)), (.int (F19 el (2 : Int32))), (.ref b9)])
      have c82 := (((V9.other W13 (Ne.symm N_r0_b9)).keep K15q nin0).keep K19q (ninS N_b9_b15 nin0))
      obtain ⟨T83, h83, X83, e83, W83, V83, st83⟩ := own_iastore X27 hx hZ e27 c82 (i := 2) (j := (F19 el (2 : Int32))) (by rw [F19]; decide) (by decide) (x := (-1 : Int32)) (pc := 121) (Ls := #[.val (.ref r0), .val (.int (3 : Int32)), .val (.ref r2), .val (.int p3), .val (.ref b15), .val (.ref el)]) (rest := []) (hb hby d12_121)
      have N83 := Fr.snoc X83 N27 g_b9
      have K83 : Keep h0 h83 [r0] := K19.wr W83 (Or.inr sz_b9)
      have O83 : Old Z n0 h83 := O19.wr W83 g_b9
      have Vw83 : Oar Z h83 b9 k9 .int [(.int (0 : Int32)), (.int (0 : Int32)), (.int (-1 : Int32))] := V83
      refine OFin.st st83 ?_
      show OFin p e below _ _ T83 (mkF m 122 #[.val (.ref r0), .val (.int (3 : Int32)), .val (.ref r2), .val (.int p3), .val (.ref b15), .val (.ref el)] [])
      refine OFin.st (fun t k => XS.goto X83.here hx rfl (pc0 := 122) (pc' := 78) rfl (hb hby d12_122) (by decide) (by decide) k) ?_
      show OFin p e below _ _ T83 (mkF m 78 #[.val (.ref r0), .val (.int (3 : Int32)), .val (.ref r2), .val (.int p3), .val (.ref b15), .val (.ref el)] [])
      refine OFin.st (fun t k => XS.aload X83.here hx rfl (hb hby d12_78) rfl rfl k) ?_
      show OFin p e below _ _ T83 (mkF m 80 #[.val (.ref r0), .val (.int (3 : Int32)), .val (.ref r2), .val (.int p3), .val (.ref b15), .val (.ref el)] [(.ref b15)])
      have c84 := ((c16.keep K19q (ninS N_r2_b15 nin0)).other W83 (Or.inl N_r2_b9))
      obtain ⟨cq85, kq85, q85a, q85b, q85c⟩ := isOf hZ e83 (P19_0.wr W83)
      obtain ⟨_, _, ⟨T85, L85, k85, n85⟩, -, X85, ⟨Lc85, hQ85, l85, y85, z85⟩, st85⟩ := X83.interfaceBack hx (xi := (⟨"java/util/Iterator", "hasNext", "()Z"⟩ : MethodName)) (y := (⟨"java/util/ArrayList$Itr", "hasNext", "()Z"⟩ : MethodName)) hown (mvT hZ (hw _ (List.mem_of_getElem? (i := 134) rfl))) (mvT hZ (hw _ (List.mem_of_getElem? (i := 135) rfl))) (mvT hZ (hw _ (List.mem_of_getElem? (i := 136) rfl))) (mvT hZ (hw _ (List.mem_of_getElem? (i := 137) rfl))) (mvT hZ (hw _ (List.mem_of_getElem? (i := 138) rfl))) (mvT hZ (hw _ (List.mem_of_getElem? (i := 139) rfl))) (mvT hZ (hw _ (List.mem_of_getElem? (i := 140) rfl))) (mvT hZ (hw _ (List.mem_of_getElem? (i := 141) rfl))) (by decide) (backOf (W := 0) (rm15 l Z a0 hw [] b15 ((0 : Int32) + (1 : Int32)) r2 ((0 : Int32) + (1 : Int32)) h83 n0 O83 (P19_2.other W83 (Or.inl (Ne.symm N_b9_b15))) (P19_1.other W83 (Or.inl (Ne.symm N_b9_b15))) c84) hZ (hw _ (List.mem_of_getElem? (i := 142) rfl)) (hw _ (List.mem_of_getElem? (i := 121) rfl)) (by decide) (by decide)) q85a q85b q85c (g := (mkF m 80 #[.val (.ref r0), .val (.int (3 : Int32)), .val (.ref r2), .val (.int p3), .val (.ref b15), .val (.ref el)] [(.ref b15)])) rfl (by rw [hml]; rfl) (Steps.refl _) (argsL := []) (rest := []) (lenOf pd_5 rfl) rfl (by show 2 * 0 + _ ≤ _; exact Nat.le_of_eq rfl) (hb hby d12_80) (fun _ _ => ⟨rfl, e83, (by decide : 3 + 0 ≤ _), (by decide : 7 + 0 ≤ _)⟩)
      dsimp only [Pt.U, Pt.locs, Pt.cells, Pt.slots] at X85 l85 y85 z85 st85 hQ85
      subst l85 y85 z85
      have X85 : Stand p l e ({ frames := 3, cells := 5, slots := 138, locals := 38 } : Room) s m #[(.ref r0), (.int (3 : Int32)), (.ref r2), (.int p3)] below meth c T85 _ 3 7 := X85
      obtain ⟨rfl, N85q, e85⟩ := hQ85
      have N85 := Fr.app N83 N85q
      refine OFin.tr st85 ?_
      show OFin p e below _ _ T85 (mkF m 85 #[.val (.ref r0), .val (.int (3 : Int32)), .val (.ref r2), .val (.int p3), .val (.ref b15), .val (.ref el)] [(.int (F15 b15 ((0 : Int32) + (1 : Int32)) r2 ((0 : Int32) + (1 : Int32))))])
      refine OFin.st (fun t k => XS.ifYes X85.here hx rfl (pc0 := 85) (pc' := 125) rfl (hb hby d12_85) rfl ((if0 _ _).trans (teq (by rw [F15, if_pos rfl])).1) (by decide) (by decide) k) ?_
      show OFin p e below _ _ T85 (mkF m 125 #[.val (.ref r0), .val (.int (3 : Int32)), .val (.ref r2), .val (.int p3), .val (.ref b15), .val (.ref el)] [])
      refine OFin.st (fun t k => XS.iconst X85.here hx rfl (hb hby d12_125) k) ?_
      show OFin p e below _ _ T85 (mkF m 126 #[.val (.ref r0), .val (.int (3 : Int32)), .val (.ref r2), .val (.int p3), .val (.ref b15), .val (.ref el)] [(.int (0 : Int32))])
      refine OFin.st (fun t k => XS.istore X85.here hx rfl (hb hby d12_126) rfl (l' := #[.val (.ref r0), .val (.int (3 : Int32)), .val (.ref r2), .val (.int p3), .val (.int (0 : Int32)), .val (.ref el)]) rfl k) ?_
      show OFin p e below _ _ T85 (mkF m 128 #[.val (.ref r0), .val (.int (3 : Int32)), .val (.ref r2), .val (.int p3), .val (.int (0 : Int32)), .val (.ref el)] [])
      refine OFin.st (fun t k => XS.iconst X85.here hx rfl (hb hby d12_128) k) ?_
      show OFin p e below _ _ T85 (mkF m 129 #[.val (.ref r0), .val (.int (3 : Int32)), .val (.ref r2), .val (.int p3), .val (.int (0 : Int32)), .val (.ref el)] [(.int (0 : Int32))])
      refine OFin.st (fun t k => XS.istore X85.here hx rfl (hb hby d12_129) rfl (l' := #[.val (.ref r0), .val (.int (3 : Int32)), .val (.ref r2), .val (.int p3), .val (.int (0 : Int32)), .val (.int (0 : Int32))]) rfl k) ?_
      show OFin p e below _ _ T85 (mkF m 131 #[.val (.ref r0), .val (.int (3 : Int32)), .val (.ref r2), .val (.int p3), .val (.int (0 : Int32)), .val (.int (0 : Int32))] [])
      refine OFin.st (fun t k => XS.iload X85.here hx rfl (hb hby d12_131) rfl k) ?_
      show OFin p e below _ _ T85 (mkF m 133 #[.val (.ref r0), .val (.int (3 : Int32)), .val (.ref r2), .val (.int p3), .val (.int (0 : Int32)), .val (.int (0 : Int32))] [(.int (0 : Int32))])
      refine OFin.st (fun t k => XS.iloadN X85.here hx rfl (hb hby d12_133) rfl k) ?_
      show OFin p e below _ _ T85 (mkF m 134 #[.val (.ref r0), .val (.int (3 : Int32)), .val (.ref r2), .val (.int p3), .val (.int (0 : Int32)), .val (.int (0 : Int32))] [(.int (3 : Int32)), (.int (0 : Int32))])
      refine OFin.st (fun t k => XS.icmpNo X85.here hx rfl (hb hby d12_134) rfl (tlt (by decide : (0 : Int32) < (3 : Int32))).2.1 k) ?_
      show OFin p e below _ _ T85 (mkF m 137 #[.val (.ref r0), .val (.int (3 : Int32)), .val (.ref r2), .val (.int p3), .val (.int (0 : Int32)), .val (.int (0 : Int32))] [])
      refine OFin.st (fun t k => XS.aloadN X85.here hx rfl (hb hby d12_137) rfl rfl k) ?_
      show OFin p e below _ _ T85 (mkF m 138 #[.val (.ref r0), .val (.int (3 : Int32)), .val (.ref r2), .val (.int p3), .val (.int (0 : Int32)), .val (.int (0 : Int32))] [(.ref r0)])
      have c86 := (((Fw13.keep K15q nin0).keep K19q (ninS N_r0_b15 nin0)).other W83 (Or.inl N_r0_b9))
      obtain ⟨T87, X87, e87, st87⟩ := getF X85 hx hZ hown (host := "") (Or.inl (hw _ (List.mem_of_getElem? (i := 108) rfl))) Via.refl e85 c86 (g := (mkF m 138 #[.val (.ref r0), .val (.int (3 : Int32)), .val (.ref r2), .val (.int p3), .val (.int (0 : Int32)), .val (.int (0 : Int32))] [(.ref r0)])) rfl rfl (hb hby d12_138)
      refine OFin.st st87 ?_
      show OFin p e below _ _ T87 (mkF m 141 #[.val (.ref r0), .val (.int (3 : Int32)), .val (.ref r2), .val (.int p3), .val (.int (0 : Int32)), .val (.int (0 : Int32))] [(.ref b9)])
      refine OFin.st (fun t k => XS.iload X87.here hx rfl (hb hby d12_141) rfl k) ?_
      show OFin p e below _ _ T87 (mkF m 143 #[.val (.ref r0), .val (.int (3 : Int32)), .val (.ref r2), .val (.int p3), .val (.int (0 : Int32)), .val (.int (0 : Int32))] [(.int (0 : Int32)), (.ref b9)])
      refine own_iaload X87 hx hZ e87 Vw83 (i := 0) (j := (0 : Int32)) (by decide) (v := (.int (0 : Int32))) rfl (hb hby d12_143) (pc' := 144) rfl ?_
      show OFin p e below _ _ T87 (mkF m 144 #[.val (.ref r0), .val (.int (3 : Int32)), .val (.ref r2), .val (.int p3), .val (.int (0 : Int32)), .val (.int (0 : Int32))] [(.int (0 : Int32))])
      refine OFin.st (fun t k => XS.iconst X87.here hx rfl (hb hby d12_144) k) ?_
      show OFin p e below _ _ T87 (mkF m 145 #[.val (.ref r0), .val (.int (3 : Int32)), .val (.ref r2), .val (.int p3), .val (.int (0 : Int32)), .val (.int (0 : Int32))] [(.int (-1 : Int32)), (.int (0 : Int32))])
      refine OFin.st (fun t k => XS.icmpNo X87.here hx rfl (hb hby d12_145) rfl (feq (by decide : ¬ ((0 : Int32) = (-1 : Int32)))).1 k) ?_
      show OFin p e below _ _ T87 (mkF m 148 #[.val (.ref r0), .val (.int (3 : Int32)), .val (.ref r2), .val (.int p3), .val (.int (0 : Int32)), .val (.int (0 : Int32))] [])
      refine OFin.st (fun t k => XS.aloadN X87.here hx rfl (hb hby d12_148) rfl rfl k) ?_
      show OFin p e below _ _ T87 (mkF m 149 #[.val (.ref r0), .val (.int (3 : Int32)), .val (.ref r2), .val (.int p3), .val (.int (0 : Int32)), .val (.int (0 : Int32))] [(.ref r0)])
      obtain ⟨T88, X88, e88, st88⟩ := getF X87 hx hZ hown (host := "") (Or.inl (hw _ (List.mem_of_getElem? (i := 108) rfl))) Via.refl e87 c86 (g := (mkF m 149 #[.val (.ref r0), .val (.int (3 : Int32)), .val (.ref r2), .val (.int p3), .val (.int (0 : Int32)), .val (.int (0 : Int32))] [(.ref r0)])) rfl rfl (hb hby d12_149)
      refine OFin.st st88 ?_
      show OFin p e below _ _ T88 (mkF m 152 #[.val (.ref r0), .val (.int (3 : Int32)), .val (.ref r2), .val (.int p3), .val (.int (0 : Int32)), .val (.int (0 : Int32))] [(.ref b9)])
      refine OFin.st (fun t k => XS.iload X88.here hx rfl (hb hby d12_152) rfl k) ?_
      show OFin p e below _ _ T88 (mkF m 154 #[.val (.ref r0), .val (.int (3 : Int32)), .val (.ref r2), .val (.int p3), .val (.int (0 : Int32)), .val (.int (0 : Int32))] [(.int (0 : Int32)), (.ref b9)])
      refine OFin.st (fun t k => XS.iload X88.here hx rfl (hb hby d12_154) rfl k) ?_
      show OFin p e below _ _ T88 (mkF m 156 #[.val (.ref r0), .val (.int (3 : Int32)), .val (.ref r2), .val (.int p3), .val (.int (0 : Int32)), .val (.int (0 : Int32))] [(.int (0 : Int32)), (.int (0 : Int32)), (.ref b9)])
      obtain ⟨T89, h89, X89, e89, W89, V89, st89⟩ := own_iastore X88 hx hZ e88 Vw83 (i := 0) (j := (0 : Int32)) (by decide) (by show 0 < 3; decide) (x := (0 : Int32)) (pc := 156) (Ls := #[.val (.ref r0), .val (.int (3 : Int32)), .val (.ref r2), .val (.int p3), .val (.int (0 : Int32)), .val (.int (0 : Int32))]) (rest := []) (hb hby d12_156)
      have N89 := Fr.snoc X89 N85 g_b9
      have K89 : Keep h0 h89 [r0] := K83.wr W89 (Or.inr sz_b9)
      have O89 : Old Z n0 h89 := O83.wr W89 g_b9
      have Vw89 : Oar Z h89 b9 k9 .int [(.int (0 : Int32)), (.int (0 : Int32)), (.int (-1 : Int32))] := V89
      refine OFin.st st89 ?_
      show OFin p e below _ _ T89 (mkF m 157 #[.val (.ref r0), .val (.int (3 : Int32)), .val (.ref r2), .val (.int p3), .val (.int (0 : Int32)), .val (.int (0 : Int32))] [])
      refine OFin.st (fun t k => XS.iload X89.here hx rfl (hb hby d12_157) rfl k) ?_
      show OFin p e below _ _ T89 (mkF m 159 #[.val (.ref r0), .val (.int (3 : Int32)), .val (.ref r2), .val (.int p3), .val (.int (0 : Int32)), .val (.int (0 : Int32))] [(.int (0 : Int32))])
      refine OFin.st (fun t k => XS.iloadN X89.here hx rfl (hb hby d12_159) rfl k) ?_
      show OFin p e below _ _ T89 (mkF m 160 #[.val (.ref r0), .val (.int (3 : Int32)), .val (.ref r2), .val (.int p3), .val (.int (0 : Int32)), .val (.int (0 : Int32))] [(.int p3), (.int (0 : Int32))])
      refine OFin.st (fun t k => XS.iadd X89.here hx rfl (hb hby d12_160) rfl k) ?_
      show OFin p e below _ _ T89 (mkF m 161 #[.val (.ref r0), .val (.int (3 : Int32)), .val (.ref r2), .val (.int p3), .val (.int (0 : Int32)), .val (.int (0 : Int32))] [(.int ((0 : Int32) + p3))])
      refine OFin.st (fun t k => XS.istore X89.here hx rfl (hb hby d12_161) rfl (l' := #[.val (.ref r0), .val (.int (3 : Int32)), .val (.ref r2), .val (.int p3), .val (.int ((0 : Int32) + p3)), .val (.int (0 : Int32))]) rfl k) ?_
      show OFin p e below _ _ T89 (mkF m 163 #[.val (.ref r0), .val (.int (3 : Int32)), .val (.ref r2), .val (.int p3), .val (.int ((0 : Int32) + p3)), .val (.int (0 : Int32))] [])
      refine OFin.st (fun t k => XS.iinc X89.here hx rfl (hb hby d12_163) rfl (l' := #[.val (.ref r0), .val (.int (3 : Int32)), .val (.ref r2), .val (.int p3), .val (.int ((0 : Int32) + p3)), .val (.int (1 : Int32))]) rfl k) ?_
      show OFin p e below _ _ T89 (mkF m 166 #[.val (.ref r0), .val (.int (3 : Int32)), .val (.ref r2), .val (.int p3), .val (.int ((0 : Int32) + p3)), .val (.int (1 : Int32))] [])
      refine OFin.st (fun t k => XS.goto X89.here hx rfl (pc0 := 166) (pc' := 131) rfl (hb hby d12_166) (by decide) (by decide) k) ?_
      show OFin p e below _ _ T89 (mkF m 131 #[.val (.ref r0), .val (.int (3 : Int32)), .val (.ref r2), .val (.int p3), .val (.int ((0 : Int32) + p3)), .val (.int (1 : Int32))] [])
      refine OFin.st (fun t k => XS.iload X89.here hx rfl (hb hby d12_131) rfl k) ?_
      show OFin p e below _ _ T89 (mkF m 133 #[.val (.ref r0), .val (.int (3 : Int32)), .val (.ref r2), .val (.int p3), .val (.int ((0 : Int32) + p3)), .val (.int (1 : Int32))] [(.int (1 : Int32))])
      refine OFin.st (fun t k => XS.iloadN X89.here hx rfl (hb hby d12_133) rfl k) ?_
      show OFin p e below _ _ T89 (mkF m 134 #[.val (.ref r0), .val (.int (3 : Int32)), .val (.ref r2), .val (.int p3), .val (.int ((0 : Int32) + p3)), .val (.int (1 : Int32))] [(.int (3 : Int32)), (.int (1 : Int32))])
      refine OFin.st (fun t k => XS.icmpNo X89.here hx rfl (hb hby d12_134) rfl (tlt (by decide : (1 : Int32) < (3 : Int32))).2.1 k) ?_
      show OFin p e below _ _ T89 (mkF m 137 #[.val (.ref r0), .val (.int (3 : Int32)), .val (.ref r2), .val (.int p3), .val (.int ((0 : Int32) + p3)), .val (.int (1 : Int32))] [])
      refine OFin.st (fun t k => XS.aloadN X89.here hx rfl (hb hby d12_137) rfl rfl k) ?_
      show OFin p e below _ _ T89 (mkF m 138 #[.val (.ref r0), .val (.int (3 : Int32)), .val (.ref r2), .val (.int p3), .val (.int ((0 : Int32) + p3)), .val (.int (1 : Int32))] [(.ref r0)])
      obtain ⟨T90, X90, e90, st90⟩ := getF X89 hx hZ hown (host := "") (Or.inl (hw _ (List.mem_of_getElem? (i := 108) rfl))) Via.refl e89 (c86.other W89 (Or.inl N_r0_b9)) (g := (mkF m 138 #[.val (.ref r0), .val (.int (3 : Int32)), .val (.ref r2), .val (.int p3), .val (.int ((0 : Int32) + p3)), .val (.int (1 : Int32))] [(.ref r0)])) rfl rfl (hb hby d12_138)
      refine OFin.st st90 ?_
      show OFin p e below _ _ T90 (mkF m 141 #[.val (.ref r0), .val (.int (3 : Int32)), .val (.ref r2), .val (.int p3), .val (.int ((0 : Int32) + p3)), .val (.int (1 : Int32))] [(.ref b9)])
      refine OFin.st (fun t k => XS.iload X90.here hx rfl (hb hby d12_141) rfl k) ?_
      show OFin p e below _ _ T90 (mkF m 143 #[.val (.ref r0), .val (.int (3 : Int32)), .val (.ref r2), .val (.int p3), .val (.int ((0 : Int32) + p3)), .val (.int (1 : Int32))] [(.int (1 : Int32)), (.ref b9)])
      refine own_iaload X90 hx hZ e90 Vw89 (i := 1) (j := (1 : Int32)) (by decide) (v := (.int (0 : Int32))) rfl (hb hby d12_143) (pc' := 144) rfl ?_
      show OFin p e below _ _ T90 (mkF m 144 #[.val (.ref r0), .val (.int (3 : Int32)), .val (.ref r2), .val (.int p3), .val (.int ((0 : Int32) + p3)), .val (.int (1 : Int32))] [(.int (0 : Int32))])
      refine OFin.st (fun t k => XS.iconst X90.here hx rfl (hb hby d12_144) k) ?_
      show OFin p e below _ _ T90 (mkF m 145 #[.val (.ref r0), .val (.int (3 : Int32)), .val (.ref r2), .val (.int p3), .val (.int ((0 : Int32) + p3)), .val (.int (1 : Int32))] [(.int (-1 : Int32)), (.int (0 : Int32))])
      refine OFin.st (fun t k => XS.icmpNo X90.here hx rfl (hb hby d12_145) rfl (feq (by decide : ¬ ((0 : Int32) = (-1 : Int32)))).1 k) ?_
      show OFin p e below _ _ T90 (mkF m 148 #[.val (.ref r0), .val (.int (3 : Int32)), .val (.ref r2), .val (.int p3), .val (.int ((0 : Int32) + p3)), .val (.int (1 : Int32))] [])
      refine OFin.st (fun t k => XS.aloadN X90.here hx rfl (hb hby d12_148) rfl rfl k) ?_
      show OFin p e below _ _ T90 (mkF m 149 #[.val (.ref r0), .val (.int (3 : Int32)), .val (.ref r2), .val (.int p3), .val (.int ((0 : Int32) + p3)), .val (.int (1 : Int32))] [(.ref r0)])
      obtain ⟨T91, X91, e91, st91⟩ := getF X90 hx hZ hown (host := "") (Or.inl (hw _ (List.mem_of_getElem? (i := 108) rfl))) Via.refl e90 (c86.other W89 (Or.inl N_r0_b9)) (g := (mkF m 149 #[.val (.ref r0), .val (.int (3 : Int32)), .val (.ref r2), .val (.int p3), .val (.int ((0 : Int32) + p3)), .val (.int (1 : Int32))] [(.ref r0)])) rfl rfl (hb hby d12_149)
      refine OFin.st st91 ?_
      show OFin p e below _ _ T91 (mkF m 152 #[.val (.ref r0), .val (.int (3 : Int32)), .val (.ref r2), .val (.int p3), .val (.int ((0 : Int32) + p3)), .val (.int (1 : Int32))] [(.ref b9)])
      refine OFin.st (fun t k => XS.iload X91.here hx rfl (hb hby d12_152) rfl k) ?_
      show OFin p e below _ _ T91 (mkF m 154 #[.val (.ref r0), .val (.int (3 : Int32)), .val (.ref r2), .val (.int p3), .val (.int ((0 : Int32) + p3)), .val (.int (1 : Int32))] [(.int (1 : Int32)), (.ref b9)])
      refine OFin.st (fun t k => XS.iload X91.here hx rfl (hb hby d12_154) rfl k) ?_
      show OFin p e below _ _ T91 (mkF m 156 #[.val (.ref r0), .val (.int (3 : Int32)), .val (.ref r2), .val (.int p3), .val (.int ((0 : Int32) + p3)), .val (.int (1 : Int32))] [(.int ((0 : Int32) + p3)), (.int (1 : Int32)), (.ref b9)])
      obtain ⟨T92, h92, X92, e92, W92, V92, st92⟩ := own_iastore X91 hx hZ e91 Vw89 (i := 1) (j := (1 : Int32)) (by decide) (by show 1 < 3; decide) (x := ((0 : Int32) + p3)) (pc := 156) (Ls := #[.val (.ref r0), .val (.int (3 : Int32)), .val (.ref r2), .val (.int p3), .val (.int ((0 : Int32) + p3)), .val (.int (1 : Int32))]) (rest := []) (hb hby d12_156)
      have N92 := Fr.snoc X92 N89 g_b9
      have K92 : Keep h0 h92 [r0] := K89.wr W92 (Or.inr sz_b9)
      have O92 : Old Z n0 h92 := O89.wr W92 g_b9
      have Vw92 : Oar Z h92 b9 k9 .int [(.int (0 : Int32)), (.int ((0 : Int32) + p3)), (.int (-1 : Int32))] := V92
      refine OFin.st st92 ?_
      show OFin p e below _ _ T92 (mkF m 157 #[.val (.ref r0), .val (.int (3 : Int32)), .val (.ref r2), .val (.int p3), .val (.int ((0 : Int32) + p3)), .val (.int (1 : Int32))] [])
      refine OFin.st (fun t k => XS.iload X92.here hx rfl (hb hby d12_157) rfl k) ?_
      show OFin p e below _ _ T92 (mkF m 159 #[.val (.ref r0), .val (.int (3 : Int32)), .val (.ref r2), .val (.int p3), .val (.int ((0 : Int32) + p3)), .val (.int (1 : Int32))] [(.int ((0 : Int32) + p3))])
      refine OFin.st (fun t k => XS.iloadN X92.here hx rfl (hb hby d12_159) rfl k) ?_
      show OFin p e below _ _ T92 (mkF m 160 #[.val (.ref r0), .val (.int (3 : Int32)), .val (.ref r2), .val (.int p3), .val (.int ((0 : Int32) + p3)), .val (.int (1 : Int32))] [(.int p3), (.int ((0 : Int32) + p3))])
      refine OFin.st (fun t k => XS.iadd X92.here hx rfl (hb hby d12_160) rfl k) ?_
      show OFin p e below _ _ T92 (mkF m 161 #[.val (.ref r0), .val (.int (3 : Int32)), .val (.ref r2), .val (.int p3), .val (.int ((0 : Int32) + p3)), .val (.int (1 : Int32))] [(.int (((0 : Int32) + p3) + p3))])
      refine OFin.st (fun t k => XS.istore X92.here hx rfl (hb hby d12_161) rfl (l' := #[.val (.ref r0), .val (.int (3 : Int32)), .val (.ref r2), .val (.int p3), .val (.int (((0 : Int32) + p3) + p3)), .val (.int (1 : Int32))]) rfl k) ?_
      show OFin p e below _ _ T92 (mkF m 163 #[.val (.ref r0), .val (.int (3 : Int32)), .val (.ref r2), .val (.int p3), .val (.int (((0 : Int32) + p3) + p3)), .val (.int (1 : Int32))] [])
      refine OFin.st (fun t k => XS.iinc X92.here hx rfl (hb hby d12_163) rfl (l' := #[.val (.ref r0), .val (.int (3 : Int32)), .val (.ref r2), .val (.int p3), .val (.int (((0 : Int32) + p3) + p3)), .val (.int (2 : Int32))]) rfl k) ?_
      show OFin p e below _ _ T92 (mkF m 166 #[.val (.ref r0), .val (.int (3 : Int32)), .val (.ref r2), .val (.int p3), .val (.int (((0 : Int32) + p3) + p3)), .val (.int (2 : Int32))] [])
      refine OFin.st (fun t k => XS.goto X92.here hx rfl (pc0 := 166) (pc' := 131) rfl (hb hby d12_166) (by decide) (by decide) k) ?_
      show OFin p e below _ _ T92 (mkF m 131 #[.val (.ref r0), .val (.int (3 : Int32)), .val (.ref r2), .val (.int p3), .val (.int (((0 : Int32) + p3) + p3)), .val (.int (2 : Int32))] [])
      refine OFin.st (fun t k => XS.iload X92.here hx rfl (hb hby d12_131) rfl k) ?_
      show OFin p e below _ _ T92 (mkF m 133 #[.val (.ref r0), .val (.int (3 : Int32)), .val (.ref r2), .val (.int p3), .val (.int (((0 : Int32) + p3) + p3)), .val (.int (2 : Int32))] [(.int (2 : Int32))])
      refine OFin.st (fun t k => XS.iloadN X92.here hx rfl (hb hby d12_133) rfl k) ?_
      show OFin p e below _ _ T92 (mkF m 134 #[.val (.ref r0), .val (.int (3 : Int32)), .val (.ref r2), .val (.int p3), .val (.int (((0 : Int32) + p3) + p3)), .val (.int (2 : Int32))] [(.int (3 : Int32)), (.int (2 : Int32))])
      refine OFin.st (fun t k => XS.icmpNo X92.here hx rfl (hb hby d12_134) rfl (tlt (by decide : (2 : Int32) < (3 : Int32))).2.1 k) ?_
      show OFin p e below _ _ T92 (mkF m 137 #[.val (.ref r0), .val (.int (3 : Int32)), .val (.ref r2), .val (.int p3), .val (.int (((0 : Int32) + p3) + p3)), .val (.int (2 : Int32))] [])
      refine OFin.st (fun t k => XS.aloadN X92.here hx rfl (hb hby d12_137) rfl rfl k) ?_
      show OFin p e below _ _ T92 (mkF m 138 #[.val (.ref r0), .val (.int (3 : Int32)), .val (.ref r2), .val (.int p3), .val (.int (((0 : Int32) + p3) + p3)), .val (.int (2 : Int32))] [(.ref r0)])
      have c93 := ((c86.other W89 (Or.inl N_r0_b9)).other W92 (Or.inl N_r0_b9))
      obtain ⟨T94, X94, e94, st94⟩ := getF X92 hx hZ hown (host := "") (Or.inl (hw _ (List.mem_of_getElem? (i := 108) rfl))) Via.refl e92 c93 (g := (mkF m 138 #[.val (.ref r0), .val (.int (3 : Int32)), .val (.ref r2), .val (.int p3), .val (.int (((0 : Int32) + p3) + p3)), .val (.int (2 : Int32))] [(.ref r0)])) rfl rfl (hb hby d12_138)
      refine OFin.st st94 ?_
      show OFin p e below _ _ T94 (mkF m 141 #[.val (.ref r0), .val (.int (3 : Int32)), .val (.ref r2), .val (.int p3), .val (.int (((0 : Int32) + p3) + p3)), .val (.int (2 : Int32))] [(.ref b9)])
      refine OFin.st (fun t k => XS.iload X94.here hx rfl (hb hby d12_141) rfl k) ?_
      show OFin p e below _ _ T94 (mkF m 143 #[.val (.ref r0), .val (.int (3 : Int32)), .val (.ref r2), .val (.int p3), .val (.int (((0 : Int32) + p3) + p3)), .val (.int (2 : Int32))] [(.int (2 : Int32)), (.ref b9)])
      refine own_iaload X94 hx hZ e94 Vw92 (i := 2) (j := (2 : Int32)) (by decide) (v := (.int (-1 : Int32))) rfl (hb hby d12_143) (pc' := 144) rfl ?_
      show OFin p e below _ _ T94 (mkF m 144 #[.val (.ref r0), .val (.int (3 : Int32)), .val (.ref r2), .val (.int p3), .val (.int (((0 : Int32) + p3) + p3)), .val (.int (2 : Int32))] [(.int (-1 : Int32))])
      refine OFin.st (fun t k => XS.iconst X94.here hx rfl (hb hby d12_144) k) ?_
      show OFin p e below _ _ T94 (mkF m 145 #[.val (.ref r0), .val (.int (3 : Int32)), .val (.ref r2), .val (.int p3), .val (.int (((0 : Int32) + p3) + p3)), .val (.int (2 : Int32))] [(.int (-1 : Int32)), (.int (-1 : Int32))])
      refine OFin.st (fun t k => XS.icmpYes X94.here hx rfl (pc0 := 145) (pc' := 163) rfl (hb hby d12_145) rfl (teq (by decide : (-1 : Int32) = (-1 : Int32))).1 (by decide) (by decide) k) ?_
      show OFin p e below _ _ T94 (mkF m 163 #[.val (.ref r0), .val (.int (3 : Int32)), .val (.ref r2), .val (.int p3), .val (.int (((0 : Int32) + p3) + p3)), .val (.int (2 : Int32))] [])
      refine OFin.st (fun t k => XS.iinc X94.here hx rfl (hb hby d12_163) rfl (l' := #[.val (.ref r0), .val (.int (3 : Int32)), .val (.ref r2), .val (.int p3), .val (.int (((0 : Int32) + p3) + p3)), .val (.int (3 : Int32))]) rfl k) ?_
      show OFin p e below _ _ T94 (mkF m 166 #[.val (.ref r0), .val (.int (3 : Int32)), .val (.ref r2), .val (.int p3), .val (.int (((0 : Int32) + p3) + p3)), .val (.int (3 : Int32))] [])
      refine OFin.st (fun t k => XS.goto X94.here hx rfl (pc0 := 166) (pc' := 131) rfl (hb hby d12_166) (by decide) (by decide) k) ?_
      show OFin p e below _ _ T94 (mkF m 131 #[.val (.ref r0), .val (.int (3 : Int32)), .val (.ref r2), .val (.int p3), .val (.int (((0 : Int32) + p3) + p3)), .val (.int (3 : Int32))] [])
      refine OFin.st (fun t k => XS.iload X94.here hx rfl (hb hby d12_131) rfl k) ?_
      show OFin p e below _ _ T94 (mkF m 133 #[.val (.ref r0), .val (.int (3 : Int32)), .val (.ref r2), .val (.int p3), .val (.int (((0 : Int32) + p3) + p3)), .val (.int (3 : Int32))] [(.int (3 : Int32))])
      refine OFin.st (fun t k => XS.iloadN X94.here hx rfl (hb hby d12_133) rfl k) ?_
      show OFin p e below _ _ T94 (mkF m 134 #[.val (.ref r0), .val (.int (3 : Int32)), .val (.ref r2), .val (.int p3), .val (.int (((0 : Int32) + p3) + p3)), .val (.int (3 : Int32))] [(.int (3 : Int32)), (.int (3 : Int32))])
      refine OFin.st (fun t k => XS.icmpYes X94.here hx rfl (pc0 := 134) (pc' := 169) rfl (hb hby d12_134) rfl (flt (by decide : ¬ ((3 : Int32) < (3 : Int32)))).2.1 (by decide) (by decide) k) ?_
      show OFin p e below _ _ T94 (mkF m 169 #[.val (.ref r0), .val (.int (3 : Int32)), .val (.ref r2), .val (.int p3), .val (.int (((0 : Int32) + p3) + p3)), .val (.int (3 : Int32))] [])
      refine OFin.st (fun t k => XS.aloadN X94.here hx rfl (hb hby d12_169) rfl rfl k) ?_
      show OFin p e below _ _ T94 (mkF m 170 #[.val (.ref r0), .val (.int (3 : Int32)), .val (.ref r2), .val (.int p3), .val (.int (((0 : Int32) + p3) + p3)), .val (.int (3 : Int32))] [(.ref r0)])
      refine OFin.st (fun t k => XS.iloadN X94.here hx rfl (hb hby d12_170) rfl k) ?_
      show OFin p e below _ _ T94 (mkF m 171 #[.val (.ref r0), .val (.int (3 : Int32)), .val (.ref r2), .val (.int p3), .val (.int (((0 : Int32) + p3) + p3)), .val (.int (3 : Int32))] [(.int (3 : Int32)), (.ref r0)])
      obtain ⟨T95, h95, k95, X95, e95, E95, A95, st95⟩ := own_newP X94 hx hZ (hw _ (List.mem_of_getElem? (i := 173) rfl)) e94 (z := (3 : Int32)) (n := 3) (cap := 3) (by decide) (by decide) (by decide) (by decide) (by decide) (pc := 171) (Ls := #[.val (.ref r0), .val (.int (3 : Int32)), .val (.ref r2), .val (.int p3), .val (.int (((0 : Int32) + p3) + p3)), .val (.int (3 : Int32))]) (rest := [(.ref r0)]) (hb hby d12_171)
      obtain ⟨b95, gz_b95⟩ : ∃ z, z = h92.size := ⟨_, rfl⟩
      rw [← gz_b95] at A95 st95
      have c96 := (((((((((((E_r0.ext E2).wr W3).wr W5).wr W8).ext E9).wr W13).keep K15q).keep K19q).wr W83).wr W89).wr W92)
      have N_r0_b95 : r0 ≠ b95 := Nat.ne_of_lt (Nat.lt_of_lt_of_le c96.lt (Nat.le_of_eq gz_b95.symm))
      have c97 := (((((((((((E_r2.ext E2).wr W3).wr W5).wr W8).ext E9).wr W13).keep K15q).keep K19q).wr W83).wr W89).wr W92)
      have N_r2_b95 : r2 ≠ b95 := Nat.ne_of_lt (Nat.lt_of_lt_of_le c97.lt (Nat.le_of_eq gz_b95.symm))
      have c98 := (((((((c10.ext E9).other W13 N_ea_r0).keep K15q nin0).keep K19q (ninS N_ea_b15 nin0)).other W83 N_ea_b9).other W89 N_ea_b9).other W92 N_ea_b9)
      have N_ea_b95 : ea ≠ b95 := Nat.ne_of_lt (Nat.lt_of_lt_of_le c98.lt (Nat.le_of_eq gz_b95.symm))
      have N_el_b95 : el ≠ b95 := Nat.ne_of_lt (Nat.lt_of_lt_of_le (((c20.wr W83).wr W89).wr W92).lt (Nat.le_of_eq gz_b95.symm))
      have c99 := (((((((c11.ext E9).other W13 (Ne.symm N_r0_b2)).keep K15q nin0).keep K19q (ninS N_b2_b15 nin0)).other W83 N_b2_b9).other W89 N_b2_b9).other W92 N_b2_b9)
      have N_b2_b95 : b2 ≠ b95 := Nat.ne_of_lt (Nat.lt_of_lt_of_le c99.lt (Nat.le_of_eq gz_b95.symm))
      have N_b9_b95 : b9 ≠ b95 := Nat.ne_of_lt (Nat.lt_of_lt_of_le Vw92.lt (Nat.le_of_eq gz_b95.symm))
      have N_b15_b95 : b15 ≠ b95 := Nat.ne_of_lt (Nat.lt_of_lt_of_le (((P19_0.wr W83).wr W89).wr W92).lt (Nat.le_of_eq gz_b95.symm))
      have g_b95 : n0 ≤ b95 := Nat.le_trans (Nat.le_trans (Nat.le_of_eq O92.1.symm) O92.2.1) (Nat.le_of_eq gz_b95.symm)
      have sz_b95 : h0.size ≤ b95 := Nat.le_trans K92.1 (Nat.le_of_eq gz_b95.symm)
      have K95 : Keep h0 h95 [r0] := K92.ext E95
      have O95 : Old Z n0 h95 := O92.ext E95
      have V95 : Oar Z h95 b95 k95 .long [(.long (0 : Int64)), (.long (0 : Int64)), (.long (0 : Int64))] := A95
      refine OFin.st st95 ?_
      show OFin p e below _ _ T95 (mkF m 173 #[.val (.ref r0), .val (.int (3 : Int32)), .val (.ref r2), .val (.int p3), .val (.int (((0 : Int32) + p3) + p3)), .val (.int (3 : Int32))] [(.ref b95), (.ref r0)])
      have c100 := ((((((((((((F_words_r0.ext E2).other W3 (Or.inr (slot_ne (Or.inr (hw _ (List.mem_of_getElem? (i := 175) rfl))) (Or.inl (hw _ (List.mem_of_getElem? (i := 102) rfl))) (by decide) (t := (.array .long)) (t' := (.array (.array .long))) (by decide) (by decide)))).other W5 (Or.inr (slot_ne (Or.inr (hw _ (List.mem_of_getElem? (i := 175) rfl))) (Or.inr (hw _ (List.mem_of_getElem? (i := 104) rfl))) (by decide) (t := (.array .long)) (t' := .int) (by decide) (by decide)))).other W8 (Or.inr (slot_ne (Or.inr (hw _ (List.mem_of_getElem? (i := 175) rfl))) (Or.inr (hw _ (List.mem_of_getElem? (i := 106) rfl))) (by decide) (t := (.array .long)) (t' := .long) (by decide) (by decide)))).ext E9).other W13 (Or.inr (slot_ne (Or.inr (hw _ (List.mem_of_getElem? (i := 175) rfl))) (Or.inr (hw _ (List.mem_of_getElem? (i := 109) rfl))) (by decide) (t := (.array .long)) (t' := (.array .int)) (by decide) (by decide)))).keep K15q nin0).keep K19q (ninS N_r0_b15 nin0)).other W83 (Or.inl N_r0_b9)).other W89 (Or.inl N_r0_b9)).other W92 (Or.inl N_r0_b9)).ext E95)
      obtain ⟨T101, h101, X101, e101, W101, st101⟩ := putF X95 hx hZ hown (host := "") (Or.inl (hw _ (List.mem_of_getElem? (i := 174) rfl))) Via.refl e95 c100 (c96.ext E95) (Or.inr ⟨(hw _ (List.mem_of_getElem? (i := 175) rfl)), rfl, hnm⟩) (hw _ (List.mem_of_getElem? (i := 93) rfl)) (ty := (.array .long)) (by decide) rfl rfl (g := (mkF m 173 #[.val (.ref r0), .val (.int (3 : Int32)), .val (.ref r2), .val (.int p3), .val (.int (((0 : Int32) + p3) + p3)), .val (.int (3 : Int32))] [(.ref b95), (.ref r0)])) rfl rfl (hb hby d12_173)
      refine OFin.st st101 ?_
      have Fw101 := c100.same W101
      have N101 := Fr.snoc X101 N92 g_r0
      have K101 : Keep h0 h101 [r0] := K95.wr W101 (Or.inl (List.mem_of_getElem? (i := 0) rfl))
      have O101 : Old Z n0 h101 := O95.wr W101 g_r0
      show OFin p e below _ _ T101 (mkF m 176 #[.val (.ref r0), .val (.int (3 : Int32)), .val (.ref r2), .val (.int p3), .val (.int (((0 : Int32) + p3) + p3)), .val (.int (3 : Int32))] [])
      refine OFin.st (fun t k => XS.aloadN X101.here hx rfl (hb hby d12_176) rfl rfl k) ?_
      show OFin p e below _ _ T101 (mkF m 177 #[.val (.ref r0), .val (.int (3 : Int32)), .val (.ref r2), .val (.int p3), .val (.int (((0 : Int32) + p3) + p3)), .val (.int (3 : Int32))] [(.ref r0)])
      refine OFin.st (fun t k => XS.iload X101.here hx rfl (hb hby d12_177) rfl k) ?_
      show OFin p e below _ _ T101 (mkF m 179 #[.val (.ref r0), .val (.int (3 : Int32)), .val (.ref r2), .val (.int p3), .val (.int (((0 : Int32) + p3) + p3)), .val (.int (3 : Int32))] [(.int (((0 : Int32) + p3) + p3)), (.ref r0)])
      obtain ⟨T102, h102, k102, X102, e102, E102, A102, st102⟩ := own_newP X101 hx hZ (hw _ (List.mem_of_getElem? (i := 173) rfl)) e101 (z := (((0 : Int32) + p3) + p3)) (n := (2 * p3.toInt.toNat)) (cap := 128) (own_2w p3 hw1 hw2).1 (own_2w p3 hw1 hw2).2 (by decide) (by decide) (by decide) (pc := 179) (Ls := #[.val (.ref r0), .val (.int (3 : Int32)), .val (.ref r2), .val (.int p3), .val (.int (((0 : Int32) + p3) + p3)), .val (.int (3 : Int32))]) (rest := [(.ref r0)]) (hb hby d12_179)
      obtain ⟨b102, gz_b102⟩ : ∃ z, z = h101.size := ⟨_, rfl⟩
      rw [← gz_b102] at A102 st102
      have N_r0_b102 : r0 ≠ b102 := Nat.ne_of_lt (Nat.lt_of_lt_of_le ((c96.ext E95).wr W101).lt (Nat.le_of_eq gz_b102.symm))
      have N_r2_b102 : r2 ≠ b102 := Nat.ne_of_lt (Nat.lt_of_lt_of_le ((c97.ext E95).wr W101).lt (Nat.le_of_eq gz_b102.symm))
      have N_ea_b102 : ea ≠ b102 := Nat.ne_of_lt (Nat.lt_of_lt_of_le ((c98.ext E95).other W101 N_ea_r0).lt (Nat.le_of_eq gz_b102.symm))
      have N_el_b102 : el ≠ b102 := Nat.ne_of_lt (Nat.lt_of_lt_of_le (((((c20.wr W83).wr W89).wr W92).ext E95).wr W101).lt (Nat.le_of_eq gz_b102.symm))
      have N_b2_b102 : b2 ≠ b102 := Nat.ne_of_lt (Nat.lt_of_lt_of_le ((c99.ext E95).other W101 (Ne.symm N_r0_b2)).lt (Nat.le_of_eq gz_b102.symm))
      have N_b9_b102 : b9 ≠ b102 := Nat.ne_of_lt (Nat.lt_of_lt_of_le ((Vw92.ext E95).other W101 (Ne.symm N_r0_b9)).lt (Nat.le_of_eq gz_b102.symm))
      have N_b15_b102 : b15 ≠ b102 := Nat.ne_of_lt (Nat.lt_of_lt_of_le (((((P19_0.wr W83).wr W89).wr W92).ext E95).wr W101).lt (Nat.le_of_eq gz_b102.symm))
      have N_b95_b102 : b95 ≠ b102 := Nat.ne_of_lt (Nat.lt_of_lt_of_le (V95.other W101 (Ne.symm N_r0_b95)).lt (Nat.le_of_eq gz_b102.symm))
      have g_b102 : n0 ≤ b102 := Nat.le_trans (Nat.le_trans (Nat.le_of_eq O101.1.symm) O101.2.1) (Nat.le_of_eq gz_b102.symm)
      have sz_b102 : h0.size ≤ b102 := Nat.le_trans K101.1 (Nat.le_of_eq gz_b102.symm)
      have K102 : Keep h0 h102 [r0] := K101.ext E102
      have O102 : Old Z n0 h102 := O101.ext E102
      have V102 : Oar Z h102 b102 k102 .long (List.replicate (2 * p3.toInt.toNat) (.long (0 : Int64))) := A102
      refine OFin.st st102 ?_
      show OFin p e below _ _ T102 (mkF m 181 #[.val (.ref r0), .val (.int (3 : Int32)), .val (.ref r2), .val (.int p3), .val (.int (((0 : Int32) + p3) + p3)), .val (.int (3 : Int32))] [(.ref b102), (.ref r0)])
      have c103 := ((((((((((((((F_values_r0.ext E2).other W3 (Or.inr (slot_ne (Or.inr (hw _ (List.mem_of_getElem? (i := 177) rfl))) (Or.inl (hw _ (List.mem_of_getElem? (i := 102) rfl))) (by decide) (t := (.array .long)) (t' := (.array (.array .long))) (by decide) (by decide)))).other W5 (Or.inr (slot_ne (Or.inr (hw _ (List.mem_of_getElem? (i := 177) rfl))) (Or.inr (hw _ (List.mem_of_getElem? (i := 104) rfl))) (by decide) (t := (.array .long)) (t' := .int) (by decide) (by decide)))).other W8 (Or.inr (slot_ne (Or.inr (hw _ (List.mem_of_getElem? (i := 177) rfl))) (Or.inr (hw _ (List.mem_of_getElem? (i := 106) rfl))) (by decide) (t := (.array .long)) (t' := .long) (by decide) (by decide)))).ext E9).other W13 (Or.inr (slot_ne (Or.inr (hw _ (List.mem_of_getElem? (i := 177) rfl))) (Or.inr (hw _ (List.mem_of_getElem? (i := 109) rfl))) (by decide) (t := (.array .long)) (t' := (.array .int)) (by decide) (by decide)))).keep K15q nin0).keep K19q (ninS N_r0_b15 nin0)).other W83 (Or.inl N_r0_b9)).other W89 (Or.inl N_r0_b9)).other W92 (Or.inl N_r0_b9)).ext E95).other W101 (Or.inr (slot_ne (Or.inr (hw _ (List.mem_of_getElem? (i := 177) rfl))) (Or.inr (hw _ (List.mem_of_getElem? (i := 175) rfl))) (by decide) (t := (.array .long)) (t' := (.array .long)) (by decide) (by decide)))).ext E102)
      obtain ⟨T104, h104, X104, e104, W104, st104⟩ := putF X102 hx hZ hown (host := "") (Or.inl (hw _ (List.mem_of_getElem? (i := 176) rfl))) Via.refl e102 c103 (((c96.ext E95).wr W101).ext E102) (Or.inr ⟨(hw _ (List.mem_of_getElem? (i := 177) rfl)), rfl, hnm⟩) (hw _ (List.mem_of_getElem? (i := 93) rfl)) (ty := (.array .long)) (by decide) rfl rfl (g := (mkF m 181 #[.val (.ref r0), .val (.int (3 : Int32)), .val (.ref r2), .val (.int p3), .val (.int (((0 : Int32) + p3) + p3)), .val (.int (3 : Int32))] [(.ref b102), (.ref r0)])) rfl rfl (hb hby d12_181)
      refine OFin.st st104 ?_
      have Fw104 := c103.same W104
      have N104 := Fr.snoc X104 N101 g_r0
      have K104 : Keep h0 h104 [r0] := K102.wr W104 (Or.inl (List.mem_of_getElem? (i := 0) rfl))
      have O104 : Old Z n0 h104 := O102.wr W104 g_r0
      show OFin p e below _ _ T104 (mkF m 184 #[.val (.ref r0), .val (.int (3 : Int32)), .val (.ref r2), .val (.int p3), .val (.int (((0 : Int32) + p3) + p3)), .val (.int (3 : Int32))] [])
      have c105 := ((((Vw92.ext E95).other W101 (Ne.symm N_r0_b9)).ext E102).other W104 (Ne.symm N_r0_b9))
      have c106 := (((V95.other W101 (Ne.symm N_r0_b95)).ext E102).other W104 (Ne.symm N_r0_b95))
      have c107 := ((((((((((((Fw5.other W8 (Or.inr (slot_ne (Or.inr (hw _ (List.mem_of_getElem? (i := 104) rfl))) (Or.inr (hw _ (List.mem_of_getElem? (i := 106) rfl))) (by decide) (t := .int) (t' := .long) (by decide) (by decide)))).ext E9).other W13 (Or.inr (slot_ne (Or.inr (hw _ (List.mem_of_getElem? (i := 104) rfl))) (Or.inr (hw _ (List.mem_of_getElem? (i := 109) rfl))) (by decide) (t := .int) (t' := (.array .int)) (by decide) (by decide)))).keep K15q nin0).keep K19q (ninS N_r0_b15 nin0)).other W83 (Or.inl N_r0_b9)).other W89 (Or.inl N_r0_b9)).other W92 (Or.inl N_r0_b9)).ext E95).other W101 (Or.inr (slot_ne (Or.inr (hw _ (List.mem_of_getElem? (i := 104) rfl))) (Or.inr (hw _ (List.mem_of_getElem? (i := 175) rfl))) (by decide) (t := .int) (t' := (.array .long)) (by decide) (by decide)))).ext E102).other W104 (Or.inr (slot_ne (Or.inr (hw _ (List.mem_of_getElem? (i := 104) rfl))) (Or.inr (hw _ (List.mem_of_getElem? (i := 177) rfl))) (by decide) (t := .int) (t' := (.array .long)) (by decide) (by decide))))
      have c108 := ((((c93.ext E95).other W101 (Or.inr (slot_ne (Or.inr (hw _ (List.mem_of_getElem? (i := 109) rfl))) (Or.inr (hw _ (List.mem_of_getElem? (i := 175) rfl))) (by decide) (t := (.array .int)) (t' := (.array .long)) (by decide) (by decide)))).ext E102).other W104 (Or.inr (slot_ne (Or.inr (hw _ (List.mem_of_getElem? (i := 109) rfl))) (Or.inr (hw _ (List.mem_of_getElem? (i := 177) rfl))) (by decide) (t := (.array .int)) (t' := (.array .long)) (by decide) (by decide))))
      have c109 := ((Fw101.ext E102).other W104 (Or.inr (slot_ne (Or.inr (hw _ (List.mem_of_getElem? (i := 175) rfl))) (Or.inr (hw _ (List.mem_of_getElem? (i := 177) rfl))) (by decide) (t := (.array .long)) (t' := (.array .long)) (by decide) (by decide))))
      exact own_retV X104 hx Bd.returns Bd.notSynchronized (hb hby d12_184) (by show Qrm12 Z r0 r2 p3 ea el (2 : Int32) mc ke u1 u2 u3 u4 u5 u6 w_BOOL h0 n0 _ T104.heap _; rw [e104]; exact ⟨b9, b95, b102, k9, k95, k102, rfl, N104, K104, ((((c96.ext E95).wr W101).ext E102).wr W104), c107, c108, c109, Fw104, (by rw [offs, if_neg (by decide), if_neg (by decide)]; exact c105), c106, (V102.other W104 (Ne.symm N_r0_b102)), sz_b9, sz_b95, sz_b102, N_b9_b95, N_b9_b102, N_b95_b102⟩) (own_endN (by decide) (by decide))
  by_cases hc46 : p3 = (64 : Int32)
  · refine OFin.st (fun t k => XS.icmpNo X5.here hx rfl (hb hby d12_46) rfl (teq hc46).2 k) ?_
    show OFin p e below _ _ T5 (mkF m 49 #[.val (.ref r0), .val (.int (3 : Int32)), .val (.ref r2), .val (.int p3), .unset, .unset] [(.ref r0)])
    refine OFin.st (X5.ldc2Long hx hown (mvT hZ (hw _ (List.mem_of_getElem? (i := 184) rfl))) (g := (mkF m 49 #[.val (.ref r0), .val (.int (3 : Int32)), .val (.ref r2), .val (.int p3), .unset, .unset] [(.ref r0)])) rfl (hb hby d12_49)) ?_
    show OFin p e below _ _ T5 (mkF m 52 #[.val (.ref r0), .val (.int (3 : Int32)), .val (.ref r2), .val (.int p3), .unset, .unset] [(.long (-1 : Int64)), (.ref r0)])
    refine OFin.st (fun t k => XS.goto X5.here hx rfl (pc0 := 52) (pc' := 60) rfl (hb hby d12_52) (by decide) (by decide) k) ?_
    show OFin p e below _ _ T5 (mkF m 60 #[.val (.ref r0), .val (.int (3 : Int32)), .val (.ref r2), .val (.int p3), .unset, .unset] [(.long (-1 : Int64)), (.ref r0)])
    exact join6 (-1 : Int64)  _ _ X5 e5 N5
  · refine OFin.st (fun t k => XS.icmpYes X5.here hx rfl (pc0 := 46) (pc' := 55) rfl (hb hby d12_46) rfl (feq hc46).2 (by decide) (by decide) k) ?_
    show OFin p e below _ _ T5 (mkF m 55 #[.val (.ref r0), .val (.int (3 : Int32)), .val (.ref r2), .val (.int p3), .unset, .unset] [(.ref r0)])
    refine OFin.st (fun t k => XS.lconst X5.here hx rfl (hb hby d12_55) k) ?_
    show OFin p e below _ _ T5 (mkF m 56 #[.val (.ref r0), .val (.int (3 : Int32)), .val (.ref r2), .val (.int p3), .unset, .unset] [(.long (1 : Int64)), (.ref r0)])
    refine OFin.st (fun t k => XS.iloadN X5.here hx rfl (hb hby d12_56) rfl k) ?_
    show OFin p e below _ _ T5 (mkF m 57 #[.val (.ref r0), .val (.int (3 : Int32)), .val (.ref r2), .val (.int p3), .unset, .unset] [(.int p3), (.long (1 : Int64)), (.ref r0)])
    refine OFin.st (fun t k => XS.lshl X5.here hx rfl (hb hby d12_57) rfl k) ?_
    show OFin p e below _ _ T5 (mkF m 58 #[.val (.ref r0), .val (.int (3 : Int32)), .val (.ref r2), .val (.int p3), .unset, .unset] [(.long ((1 : Int64) <<< (p3 &&& 0x3f).toInt64)), (.ref r0)])
    refine OFin.st (fun t k => XS.lconst X5.here hx rfl (hb hby d12_58) k) ?_
    show OFin p e below _ _ T5 (mkF m 59 #[.val (.ref r0), .val (.int (3 : Int32)), .val (.ref r2), .val (.int p3), .unset, .unset] [(.long (1 : Int64)), (.long ((1 : Int64) <<< (p3 &&& 0x3f).toInt64)), (.ref r0)])
    refine OFin.st (fun t k => XS.lsub X5.here hx rfl (hb hby d12_59) rfl k) ?_
    show OFin p e below _ _ T5 (mkF m 60 #[.val (.ref r0), .val (.int (3 : Int32)), .val (.ref r2), .val (.int p3), .unset, .unset] [(.long (((1 : Int64) <<< (p3 &&& 0x3f).toInt64) - (1 : Int64))), (.ref r0)])
    exact join6 (((1 : Int64) <<< (p3 &&& 0x3f).toInt64) - (1 : Int64))  _ _ X5 e5 N5
theorem ef_rm22 (m : MethodId) (p0 : Int32) (p1 : Int32) (p2 : Int32) : entryFrame m #[(.int p0), (.int p1), (.int p2)] 3 = mkF m 0 #[.val (.int p0), .val (.int p1), .val (.int p2)] [] := by first | (simp [entryFrame, mkF, argsToLocals, Value.category]; done) | rfl
def Q22 (p0 : Int32) (p1 : Int32) (p2 : Int32) (h0 : Heap) (n0 : Nat) (v : Option Value) (h : Heap) (L : List Loc) : Prop := v = none ∧ Fr n0 L ∧ h = h0
set_option maxRecDepth 65536 in
set_option maxHeartbeats 40000000 in
theorem rm22 (l : Launch) (Z : State) (a0 : Array Value) (hw : ∀ d ∈ tables_1, d.before a0 Z = true) (ws : List Jvm.Cond) (p0 : Int32) (p1 : Int32) (p2 : Int32) (h0 : Heap) (n0 : Nat) (O0 : Old Z n0 h0) (hr1 : ¬ p2 < p1) (hr2 : ¬ p1 < (0 : Int32)) (hr3 : ¬ p0 < p2) :
    MetFree l (⟨"java/util/Arrays", "rangeCheck", "(III)V"⟩ : MethodName) (head1 (Jvm.Cond.code (⟨"java/util/Arrays", "rangeCheck", "(III)V"⟩ : MethodName) jdk_65_method_30_code 3 none :: ws) ({ frames := 0, cells := 0, slots := 0, locals := 0 } : Room)) (fun a U => a = #[(.int p0), (.int p1), (.int p2)] ∧ Z.Warmed39 U.vm ∧ U.heap = h0) (fun _ _ _ _ _ => True) (fun _ U o U' => ∃ v L, o = .returned v ∧ Q22 p0 p1 p2 h0 n0 v U'.heap L ∧ FrameEnd U o U' L ({ frames := 0, cells := 0, slots := 0, locals := 0 } : Room).cells ({ frames := 0, cells := 0, slots := 0, locals := 0 } : Room).slots) := by
  refine MetFree.of_bodySF (plainFor_of_name pn_java_util_Arrays) hisR ?_
  intro p e s m args below meth c s₁ Bd hml0 hP hK
  obtain ⟨rfl, hZ, hh⟩ := hP
  have hx := Bd.exec
  have hby := Bd.bytes
  have hml : c.maxLocals = 3 := hml0
  have hown : s.vm.findClass "java/util/Arrays" = some m.cls := findClass_of_methodNamed Bd.named
  have hnm := (name_of_methodNamed Bd.named Bd.method).1
  have X0 : Stand p l e ({ frames := 0, cells := 0, slots := 0, locals := 0 } : Room) s m #[(.int p0), (.int p1), (.int p2)] below meth c s₁ [] 0 0 := Stand.of_body Bd
  have e0 : s₁.heap = h0 := by rw [← hh, Bd.state]; rfl
  have N0 := Fr.nil n0
  show OFin p e below (fun o t L => FrameEnd s o t L ({ frames := 0, cells := 0, slots := 0, locals := 0 } : Room).cells ({ frames := 0, cells := 0, slots := 0, locals := 0 } : Room).slots) (fun v h L => Q22 p0 p1 p2 h0 n0 v h L) s₁ (entryFrame m #[(.int p0), (.int p1), (.int p2)] 3)
  refine OFin.cast (ef_rm22 m p0 p1 p2) ?_
  show OFin p e below _ _ s₁ (mkF m 0 #[.val (.int p0), .val (.int p1), .val (.int p2)] [])
  refine OFin.st (fun t k => XS.iloadN X0.here hx rfl (hb hby d22_0) rfl k) ?_
  show OFin p e below _ _ s₁ (mkF m 1 #[.val (.int p0), .val (.int p1), .val (.int p2)] [(.int p1)])
  refine OFin.st (fun t k => XS.iloadN X0.here hx rfl (hb hby d22_1) rfl k) ?_
  show OFin p e below _ _ s₁ (mkF m 2 #[.val (.int p0), .val (.int p1), .val (.int p2)] [(.int p2), (.int p1)])
  refine OFin.st (fun t k => XS.icmpYes X0.here hx rfl (pc0 := 2) (pc' := 46) rfl (hb hby d22_2) rfl (flt hr1).2.2.2 (by decide) (by decide) k) ?_
  show OFin p e below _ _ s₁ (mkF m 46 #[.val (.int p0), .val (.int p1), .val (.int p2)] [])
  refine OFin.st (fun t k => XS.iloadN X0.here hx rfl (hb hby d22_46) rfl k) ?_
  show OFin p e below _ _ s₁ (mkF m 47 #[.val (.int p0), .val (.int p1), .val (.int p2)] [(.int p1)])
  refine OFin.st (fun t k => XS.ifYes X0.here hx rfl (pc0 := 47) (pc' := 59) rfl (hb hby d22_47) rfl ((if0 _ _).trans (flt hr2).2.1) (by decide) (by decide) k) ?_
  show OFin p e below _ _ s₁ (mkF m 59 #[.val (.int p0), .val (.int p1), .val (.int p2)] [])
  refine OFin.st (fun t k => XS.iloadN X0.here hx rfl (hb hby d22_59) rfl k) ?_
  show OFin p e below _ _ s₁ (mkF m 60 #[.val (.int p0), .val (.int p1), .val (.int p2)] [(.int p2)])
  refine OFin.st (fun t k => XS.iloadN X0.here hx rfl (hb hby d22_60) rfl k) ?_
  show OFin p e below _ _ s₁ (mkF m 61 #[.val (.int p0), .val (.int p1), .val (.int p2)] [(.int p0), (.int p2)])
  refine OFin.st (fun t k => XS.icmpYes X0.here hx rfl (pc0 := 61) (pc' := 73) rfl (hb hby d22_61) rfl (flt hr3).2.2.2 (by decide) (by decide) k) ?_
  show OFin p e below _ _ s₁ (mkF m 73 #[.val (.int p0), .val (.int p1), .val (.int p2)] [])
  exact own_retV X0 hx Bd.returns Bd.notSynchronized (hb hby d22_73) ⟨rfl, N0, e0⟩ (own_endN (by decide) (by decide))
theorem ef_rm21 (m : MethodId) (r0 : Addr) (p1 : Int32) (p2 : Int32) (q3 : Int64) : entryFrame m #[(.ref r0), (.int p1), (.int p2), (.long q3)] 6 = mkF m 0 #[.val (.ref r0), .val (.int p1), .val (.int p2), .val (.long q3), .second, .unset] [] := by first | (simp [entryFrame, mkF, argsToLocals, Value.category]; done) | rfl
def Qrm21 (Z : State) (r0 : Addr) (p1 : Int32) (p2 : Int32) (q3 : Int64) (kf : ClassId) (vs : List Value) (fn : Nat) (tn : Nat) (ln : Int32) (h0 : Heap) (n0 : Nat) (v : Option Value) (h : Heap) (L : List Loc) : Prop := v = none ∧ Fr n0 L ∧ Keep h0 h [r0] ∧ Oar Z h r0 kf .long (fillN vs fn q3 (tn - fn))
set_option maxRecDepth 65536 in
set_option maxHeartbeats 40000000 in
theorem rm21 (l : Launch) (Z : State) (a0 : Array Value) (hw : ∀ d ∈ tables_1, d.before a0 Z = true) (ws : List Jvm.Cond) (r0 : Addr) (p1 : Int32) (p2 : Int32) (q3 : Int64) (kf : ClassId) (vs : List Value) (fn : Nat) (tn : Nat) (ln : Int32) (h0 : Heap) (n0 : Nat) (O0 : Old Z n0 h0) (A_r0 : Oar Z h0 r0 kf .long vs) (g_r0 : n0 ≤ r0) (hln : ln.toInt = (vs.length : Int)) (hfn : p1.toInt = (fn : Int)) (htn : p2.toInt = (tn : Int)) (hft : fn ≤ tn) (htl : tn ≤ vs.length) (ht9 : tn ≤ 1000) :
    MetFree l (⟨"java/util/Arrays", "fill", "([JIIJ)V"⟩ : MethodName) (head1 (Jvm.Cond.code (⟨"java/util/Arrays", "fill", "([JIIJ)V"⟩ : MethodName) jdk_65_method_102_code 6 none :: ws) ({ frames := 1, cells := 0, slots := 0, locals := 14 } : Room)) (fun a U => a = #[(.ref r0), (.int p1), (.int p2), (.long q3)] ∧ Z.Warmed39 U.vm ∧ U.heap = h0) (fun _ _ _ _ _ => True) (fun _ U o U' => ∃ v L, o = .returned v ∧ Qrm21 Z r0 p1 p2 q3 kf vs fn tn ln h0 n0 v U'.heap L ∧ FrameEnd U o U' L ({ frames := 1, cells := 0, slots := 0, locals := 14 } : Room).cells ({ frames := 1, cells := 0, slots := 0, locals := 14 } : Room).slots) := by
  refine MetFree.of_bodySF (plainFor_of_name pn_java_util_Arrays) hisR ?_
  intro p e s m args below meth c s₁ Bd hml0 hP hK
  obtain ⟨rfl, hZ, hh⟩ := hP
  have hx := Bd.exec
  have hby := Bd.bytes
  have hml : c.maxLocals = 6 := hml0
  have hown : s.vm.findClass "java/util/Arrays" = some m.cls := findClass_of_methodNamed Bd.named
  have hnm := (name_of_methodNamed Bd.named Bd.method).1
  have X0 : Stand p l e ({ frames := 1, cells := 0, slots := 0, locals := 14 } : Room) s m #[(.ref r0), (.int p1), (.int p2), (.long q3)] below meth c s₁ [] 0 0 := Stand.of_body Bd
  have e0 : s₁.heap = h0 := by rw [← hh, Bd.state]; rfl
  have N0 := Fr.nil n0
  show OFin p e below (fun o t L => FrameEnd s o t L ({ frames := 1, cells := 0, slots := 0, locals := 14 } : Room).cells ({ frames := 1, cells := 0, slots := 0, locals := 14 } : Room).slots) (fun v h L => Qrm21 Z r0 p1 p2 q3 kf vs fn tn ln h0 n0 v h L) s₁ (entryFrame m #[(.ref r0), (.int p1), (.int p2), (.long q3)] 6)
  refine OFin.cast (ef_rm21 m r0 p1 p2 q3) ?_
  show OFin p e below _ _ s₁ (mkF m 0 #[.val (.ref r0), .val (.int p1), .val (.int p2), .val (.long q3), .second, .unset] [])
  refine OFin.st (fun t k => XS.aloadN X0.here hx rfl (hb hby d21_0) rfl rfl k) ?_
  show OFin p e below _ _ s₁ (mkF m 1 #[.val (.ref r0), .val (.int p1), .val (.int p2), .val (.long q3), .second, .unset] [(.ref r0)])
  refine own_alen X0 hx hZ e0 A_r0 (z := ln) hln (hb hby d21_1) (pc' := 2) rfl ?_
  show OFin p e below _ _ s₁ (mkF m 2 #[.val (.ref r0), .val (.int p1), .val (.int p2), .val (.long q3), .second, .unset] [(.int ln)])
  refine OFin.st (fun t k => XS.iloadN X0.here hx rfl (hb hby d21_2) rfl k) ?_
  show OFin p e below _ _ s₁ (mkF m 3 #[.val (.ref r0), .val (.int p1), .val (.int p2), .val (.long q3), .second, .unset] [(.int p1), (.int ln)])
  refine OFin.st (fun t k => XS.iloadN X0.here hx rfl (hb hby d21_3) rfl k) ?_
  show OFin p e below _ _ s₁ (mkF m 4 #[.val (.ref r0), .val (.int p1), .val (.int p2), .val (.long q3), .second, .unset] [(.int p2), (.int p1), (.int ln)])
  obtain ⟨_, _, ⟨T1, L1, k1, n1⟩, -, X1, ⟨Lc1, hQ1, l1, y1, z1⟩, st1⟩ := Jvm.LawKit.callS X0 hx (y := (⟨"java/util/Arrays", "rangeCheck", "(III)V"⟩ : MethodName)) hown (mvT hZ (hw _ (List.mem_of_getElem? (i := 189) rfl))) (mvT hZ (hw _ (List.mem_of_getElem? (i := 190) rfl))) (mvT hZ (hw _ (List.mem_of_getElem? (i := 187) rfl))) (mvT hZ (hw _ (List.mem_of_getElem? (i := 191) rfl))) (by decide) (backOf (W := 0) (rm22 l Z a0 hw [] ln p1 p2 h0 n0 O0 (own_nlt32 (by omega)) (own_nlt32 (by rw [(by decide : (0 : Int32).toInt = 0)]; omega)) (own_nlt32 (by omega))) hZ (hw _ (List.mem_of_getElem? (i := 191) rfl)) (hw _ (List.mem_of_getElem? (i := 187) rfl)) (by decide) (by decide)) (g := (mkF m 4 #[.val (.ref r0), .val (.int p1), .val (.int p2), .val (.long q3), .second, .unset] [(.int p2), (.int p1), (.int ln)])) rfl (by rw [hml]; rfl) (argsL := [(.int ln), (.int p1), (.int p2)]) (rest := []) (lenOf pd_11 rfl) rfl (by show 2 * 0 + _ ≤ _; exact Nat.le_of_eq rfl) (hb hby d21_4) (fun _ _ => ⟨rfl, e0, (by decide : 0 + 0 ≤ _), (by decide : 0 + 0 ≤ _)⟩)
  dsimp only [Pt.U, Pt.locs, Pt.cells, Pt.slots] at X1 l1 y1 z1 st1 hQ1
  subst l1 y1 z1
  have X1 : Stand p l e ({ frames := 1, cells := 0, slots := 0, locals := 14 } : Room) s m #[(.ref r0), (.int p1), (.int p2), (.long q3)] below meth c T1 _ 0 0 := X1
  obtain ⟨rfl, N1q, e1⟩ := hQ1
  have N1 := Fr.app N0 N1q
  refine OFin.st st1 ?_
  show OFin p e below _ _ T1 (mkF m 7 #[.val (.ref r0), .val (.int p1), .val (.int p2), .val (.long q3), .second, .unset] [])
  refine OFin.st (fun t k => XS.iloadN X1.here hx rfl (hb hby d21_7) rfl k) ?_
  show OFin p e below _ _ T1 (mkF m 8 #[.val (.ref r0), .val (.int p1), .val (.int p2), .val (.long q3), .second, .unset] [(.int p1)])
  refine OFin.st (fun t k => XS.istore X1.here hx rfl (hb hby d21_8) rfl (l' := #[.val (.ref r0), .val (.int p1), .val (.int p2), .val (.long q3), .second, .val (.int p1)]) rfl k) ?_
  show OFin p e below _ _ T1 (mkF m 10 #[.val (.ref r0), .val (.int p1), .val (.int p2), .val (.long q3), .second, .val (.int p1)] [])
  have loop2 : ∀ (d : Nat) (jd : Nat) (T2 : State) (h2 : Heap) (locs2 : List Loc), tn - fn - jd = d → (jd ≤ tn - fn) → Stand p l e ({ frames := 1, cells := 0, slots := 0, locals := 14 } : Room) s m #[(.ref r0), (.int p1), (.int p2), (.long q3)] below meth c T2 locs2 0 0 → T2.heap = h2 → Fr n0 locs2 → Keep h0 h2 [r0] → Old Z n0 h2 → Oar Z h2 r0 kf .long (fillN vs fn q3 jd) → OFin p e below (fun o t L => FrameEnd s o t L ({ frames := 1, cells := 0, slots := 0, locals := 14 } : Room).cells ({ frames := 1, cells := 0, slots := 0, locals := 14 } : Room).slots) (fun v h L => Qrm21 Z r0 p1 p2 q3 kf vs fn tn ln h0 n0 v h L) T2 (mkF m 10 #[.val (.ref r0), .val (.int p1), .val (.int p2), .val (.long q3), .second, .val (.int (vpo p1 jd))] []) := by
    intro d
    induction d using Nat.strongRecOn with
    | ind d ih2 =>
      intro jd T2 h2 locs2 hd2 hjd X2 e2 N2 K2 O2 L2_A_r0
      refine OFin.st (fun t k => XS.iload X2.here hx rfl (hb hby d21_10) rfl k) ?_
      show OFin p e below _ _ T2 (mkF m 12 #[.val (.ref r0), .val (.int p1), .val (.int p2), .val (.long q3), .second, .val (.int (vpo p1 jd))] [(.int (vpo p1 jd))])
      refine OFin.st (fun t k => XS.iloadN X2.here hx rfl (hb hby d21_12) rfl k) ?_
      show OFin p e below _ _ T2 (mkF m 13 #[.val (.ref r0), .val (.int p1), .val (.int p2), .val (.long q3), .second, .val (.int (vpo p1 jd))] [(.int p2), (.int (vpo p1 jd))])
      by_cases hjl : jd < tn - fn
      · refine OFin.st (fun t k => XS.icmpNo X2.here hx rfl (hb hby d21_13) rfl (tlt (own_lt32 (by rw [vpo_val p1 jd (by omega) (by omega) (by omega)]; omega))).2.1 k) ?_
        show OFin p e below _ _ T2 (mkF m 16 #[.val (.ref r0), .val (.int p1), .val (.int p2), .val (.long q3), .second, .val (.int (vpo p1 jd))] [])
        refine OFin.st (fun t k => XS.aloadN X2.here hx rfl (hb hby d21_16) rfl rfl k) ?_
        show OFin p e below _ _ T2 (mkF m 17 #[.val (.ref r0), .val (.int p1), .val (.int p2), .val (.long q3), .second, .val (.int (vpo p1 jd))] [(.ref r0)])
        refine OFin.st (fun t k => XS.iload X2.here hx rfl (hb hby d21_17) rfl k) ?_
        show OFin p e below _ _ T2 (mkF m 19 #[.val (.ref r0), .val (.int p1), .val (.int p2), .val (.long q3), .second, .val (.int (vpo p1 jd))] [(.int (vpo p1 jd)), (.ref r0)])
        refine OFin.st (fun t k => XS.lloadN X2.here hx rfl (hb hby d21_19) rfl k) ?_
        show OFin p e below _ _ T2 (mkF m 20 #[.val (.ref r0), .val (.int p1), .val (.int p2), .val (.long q3), .second, .val (.int (vpo p1 jd))] [(.long q3), (.int (vpo p1 jd)), (.ref r0)])
        obtain ⟨T3, h3, X3, e3, W3, V3, st3⟩ := own_lastore X2 hx hZ e2 L2_A_r0 (i := (fn + jd)) (j := (vpo p1 jd)) (by rw [vpo_val p1 jd (by omega) (by omega) (by omega)]; omega) (by rw [fillN_len]; omega) (x := q3) (pc := 20) (Ls := #[.val (.ref r0), .val (.int p1), .val (.int p2), .val (.long q3), .second, .val (.int (vpo p1 jd))]) (rest := []) (hb hby d21_20)
        have N3 := Fr.snoc X3 N2 g_r0
        have K3 : Keep h0 h3 [r0] := K2.wr W3 (Or.inl (List.mem_of_getElem? (i := 0) rfl))
        have O3 : Old Z n0 h3 := O2.wr W3 g_r0
        have Vw3 : Oar Z h3 r0 kf .long (fillN vs fn q3 (jd + 1)) := V3
        refine OFin.st st3 ?_
        show OFin p e below _ _ T3 (mkF m 21 #[.val (.ref r0), .val (.int p1), .val (.int p2), .val (.long q3), .second, .val (.int (vpo p1 jd))] [])
        refine OFin.st (fun t k => XS.iinc X3.here hx rfl (hb hby d21_21) rfl (l' := #[.val (.ref r0), .val (.int p1), .val (.int p2), .val (.long q3), .second, .val (.int ((vpo p1 jd) + (1 : Int32)))]) rfl k) ?_
        show OFin p e below _ _ T3 (mkF m 24 #[.val (.ref r0), .val (.int p1), .val (.int p2), .val (.long q3), .second, .val (.int ((vpo p1 jd) + (1 : Int32)))] [])
        refine OFin.st (fun t k => XS.goto X3.here hx rfl (pc0 := 24) (pc' := 10) rfl (hb hby d21_24) (by decide) (by decide) k) ?_
        show OFin p e below _ _ T3 (mkF m 10 #[.val (.ref r0), .val (.int p1), .val (.int p2), .val (.long q3), .second, .val (.int ((vpo p1 jd) + (1 : Int32)))] [])
        exact ih2 _ (by omega) (jd + 1) _ _ _ rfl (by omega) X3 e3 N3 K3 O3 Vw3
      · refine OFin.st (fun t k => XS.icmpYes X2.here hx rfl (pc0 := 13) (pc' := 27) rfl (hb hby d21_13) rfl (flt (own_nlt32 (by rw [vpo_val p1 jd (by omega) (by omega) (by omega)]; omega))).2.1 (by decide) (by decide) k) ?_
        show OFin p e below _ _ T2 (mkF m 27 #[.val (.ref r0), .val (.int p1), .val (.int p2), .val (.long q3), .second, .val (.int (vpo p1 jd))] [])
        exact own_retV X2 hx Bd.returns Bd.notSynchronized (hb hby d21_27) (by show Qrm21 Z r0 p1 p2 q3 kf vs fn tn ln h0 n0 _ T2.heap _; rw [e2]; exact ⟨rfl, N2, K2, (by
                              have e : tn - fn = jd := by omega
                              rw [e]; exact L2_A_r0)⟩) (own_endN (by decide) (by decide))
  exact loop2 _ 0 _ _ _ rfl (Nat.zero_le _) X1 e1 N1 (Keep.refl h0 [r0]) O0 A_r0
theorem ef_rm20 (m : MethodId) (r0 : Addr) (r1 : Addr) : entryFrame m #[(.ref r0), (.ref r1)] 3 = mkF m 0 #[.val (.ref r0), .val (.ref r1), .unset] [] := by first | (simp [entryFrame, mkF, argsToLocals, Value.category]; done) | rfl
def Qrm20 (Z : State) (r0 : Addr) (r1 : Addr) (wd : Int32) (oa : Addr) (wa : Addr) (va : Addr) (ko : ClassId) (kw : ClassId) (kv : ClassId) (bb : Int32) (wn : Nat) (x0 : Int64) (x1 : Int64) (x2 : Int64) (kc : ClassId) (h0 : Heap) (n0 : Nat) (v : Option Value) (h : Heap) (L : List Loc) : Prop := ∃ (wv : Int64), v = none ∧ Fr n0 L ∧ Keep h0 h [wa, va] ∧ Exa Z h r0 "com/example/verdikt/verdikt/model/Lanes" ∧ Fld Z h r0 "com/example/verdikt/verdikt/model/Lanes" "width" "I" (.int wd) ∧ Fld Z h r0 "com/example/verdikt/verdikt/model/Lanes" "offsets" "[I" (.ref oa) ∧ Fld Z h r0 "com/example/verdikt/verdikt/model/Lanes" "words" "[J" (.ref wa) ∧ Fld Z h r0 "com/example/verdikt/verdikt/model/Lanes" "values" "[J" (.ref va) ∧ Oar Z h wa kw .long (wds bb wv) ∧ Oar Z h va kv .long (vfin wn (fstA bb x0 x1) (sndB bb x1 x2)) ∧ Oar Z h oa ko .int (offs bb wd)
set_option maxRecDepth 65536 in
set_option maxHeartbeats 40000000 in
theorem rm20 (l : Launch) (Z : State) (a0 : Array Value) (hw : ∀ d ∈ tables_1, d.before a0 Z = true) (ws : List Jvm.Cond) (r0 : Addr) (r1 : Addr) (wd : Int32) (oa : Addr) (wa : Addr) (va : Addr) (ko : ClassId) (kw : ClassId) (kv : ClassId) (bb : Int32) (wn : Nat) (x0 : Int64) (x1 : Int64) (x2 : Int64) (kc : ClassId) (h0 : Heap) (n0 : Nat) (O0 : Old Z n0 h0) (E_r0 : Exa Z h0 r0 "com/example/verdikt/verdikt/model/Lanes") (F_width_r0 : Fld Z h0 r0 "com/example/verdikt/verdikt/model/Lanes" "width" "I" (.int wd)) (F_offsets_r0 : Fld Z h0 r0 "com/example/verdikt/verdikt/model/Lanes" "offsets" "[I" (.ref oa)) (F_words_r0 : Fld Z h0 r0 "com/example/verdikt/verdikt/model/Lanes" "words" "[J" (.ref wa)) (F_values_r0 : Fld Z h0 r0 "com/example/verdikt/verdikt/model/Lanes" "values" "[J" (.ref va)) (A_oa : Oar Z h0 oa ko .int (offs bb wd)) (A_va : Oar Z h0 va kv .long (List.replicate (2 * wn) (.long (0 : Int64)))) (A_wa : Oar Z h0 wa kw .long [(.long (0 : Int64)), (.long (0 : Int64)), (.long (0 : Int64))]) (A_r1 : Oar Z h0 r1 kc .long [(.long x0), (.long x1), (.long x2)]) (g_wa : n0 ≤ wa) (g_va : n0 ≤ va) (N_r1_wa : r1 ≠ wa) (N_r1_va : r1 ≠ va) (N_oa_r0 : oa ≠ r0) (N_wa_r0 : wa ≠ r0) (N_va_r0 : va ≠ r0) (N_oa_wa : oa ≠ wa) (N_oa_va : oa ≠ va) (N_wa_va : wa ≠ va) (hbq : bb = 0 ∨ bb = 1 ∨ bb = 2) (hwd : wd.toInt = (wn : Int) ∧ 1 ≤ wn ∧ wn ≤ 64) :
    MetFree l (⟨"com/example/verdikt/verdikt/model/Lanes", "fill", "([J)V"⟩ : MethodName) (head1 (Jvm.Cond.code (⟨"com/example/verdikt/verdikt/model/Lanes", "fill", "([J)V"⟩ : MethodName) prog_90_method_10_code 3 none :: ws) ({ frames := 2, cells := 0, slots := 0, locals := 31 } : Room)) (fun a U => a = #[(.ref r0), (.ref r1)] ∧ Z.Warmed39 U.vm ∧ U.heap = h0) (fun _ _ _ _ _ => True) (fun _ U o U' => ∃ v L, o = .returned v ∧ Qrm20 Z r0 r1 wd oa wa va ko kw kv bb wn x0 x1 x2 kc h0 n0 v U'.heap L ∧ FrameEnd U o U' L ({ frames := 2, cells := 0, slots := 0, locals := 31 } : Room).cells ({ frames := 2, cells := 0, slots := 0, locals := 31 } : Room).slots) := by
  refine MetFree.of_bodySF (plainFor_of_name pn_com_example_verdikt_verdikt_model_Lanes) hisR ?_
  intro p e s m args below meth c s₁ Bd hml0 hP hK
  obtain ⟨rfl, hZ, hh⟩ := hP
  have hx := Bd.exec
  have hby := Bd.bytes
  have hml : c.maxLocals = 3 := hml0
  have hown : s.vm.findClass "com/example/verdikt/verdikt/model/Lanes" = some m.cls := findClass_of_methodNamed Bd.named
  have hnm := (name_of_methodNamed Bd.named Bd.method).1
  have X0 : Stand p l e ({ frames := 2, cells := 0, slots := 0, locals := 31 } : Room) s m #[(.ref r0), (.ref r1)] below meth c s₁ [] 0 0 := Stand.of_body Bd
  have e0 : s₁.heap = h0 := by rw [← hh, Bd.state]; rfl
  have N0 := Fr.nil n0
  show OFin p e below (fun o t L => FrameEnd s o t L ({ frames := 2, cells := 0, slots := 0, locals := 31 } : Room).cells ({ frames := 2, cells := 0, slots := 0, locals := 31 } : Room).slots) (fun v h L => Qrm20 Z r0 r1 wd oa wa va ko kw kv bb wn x0 x1 x2 kc h0 n0 v h L) s₁ (entryFrame m #[(.ref r0), (.ref r1)] 3)
  refine OFin.cast (ef_rm20 m r0 r1) ?_
  show OFin p e below _ _ s₁ (mkF m 0 #[.val (.ref r0), .val (.ref r1), .unset] [])
  refine OFin.st (fun t k => XS.iconst X0.here hx rfl (hb hby d20_0) k) ?_
  show OFin p e below _ _ s₁ (mkF m 1 #[.val (.ref r0), .val (.ref r1), .unset] [(.int (0 : Int32))])
  refine OFin.st (fun t k => XS.istoreN X0.here hx rfl (hb hby d20_1) rfl (l' := #[.val (.ref r0), .val (.ref r1), .val (.int (0 : Int32))]) rfl k) ?_
  show OFin p e below _ _ s₁ (mkF m 2 #[.val (.ref r0), .val (.ref r1), .val (.int (0 : Int32))] [])
  rcases hbq with rfl | rfl | rfl
  · have Ao1 : Oar Z h0 oa ko .int [(.int (-1 : Int32)), (.int (0 : Int32)), (.int ((0 : Int32) + wd))] := by have q := A_oa; rw [offs, if_pos rfl] at q; exact q
    show OFin p e below _ _ s₁ (mkF m 2 #[.val (.ref r0), .val (.ref r1), .val (.int (0 : Int32))] [])
    refine OFin.st (fun t k => XS.iloadN X0.here hx rfl (hb hby d20_2) rfl k) ?_
    show OFin p e below _ _ s₁ (mkF m 3 #[.val (.ref r0), .val (.ref r1), .val (.int (0 : Int32))] [(.int (0 : Int32))])
    refine OFin.st (fun t k => XS.aloadN X0.here hx rfl (hb hby d20_3) rfl rfl k) ?_
    show OFin p e below _ _ s₁ (mkF m 4 #[.val (.ref r0), .val (.ref r1), .val (.int (0 : Int32))] [(.ref r0), (.int (0 : Int32))])
    obtain ⟨T2, X2, e2, st2⟩ := getF X0 hx hZ hown (host := "") (Or.inl (hw _ (List.mem_of_getElem? (i := 108) rfl))) Via.refl e0 F_offsets_r0 (g := (mkF m 4 #[.val (.ref r0), .val (.ref r1), .val (.int (0 : Int32))] [(.ref r0), (.int (0 : Int32))])) rfl rfl (hb hby d20_4)
    refine OFin.st st2 ?_
    show OFin p e below _ _ T2 (mkF m 7 #[.val (.ref r0), .val (.ref r1), .val (.int (0 : Int32))] [(.ref oa), (.int (0 : Int32))])
    refine own_alen X2 hx hZ e2 Ao1 (z := (3 : Int32)) (by simp only [List.length_cons, List.length_nil]; decide) (hb hby d20_7) (pc' := 8) rfl ?_
    show OFin p e below _ _ T2 (mkF m 8 #[.val (.ref r0), .val (.ref r1), .val (.int (0 : Int32))] [(.int (3 : Int32)), (.int (0 : Int32))])
    refine OFin.st (fun t k => XS.icmpNo X2.here hx rfl (hb hby d20_8) rfl (tlt (by decide : (0 : Int32) < (3 : Int32))).2.1 k) ?_
    show OFin p e below _ _ T2 (mkF m 11 #[.val (.ref r0), .val (.ref r1), .val (.int (0 : Int32))] [])
    refine OFin.st (fun t k => XS.aloadN X2.here hx rfl (hb hby d20_11) rfl rfl k) ?_
    show OFin p e below _ _ T2 (mkF m 12 #[.val (.ref r0), .val (.ref r1), .val (.int (0 : Int32))] [(.ref r0)])
    obtain ⟨T3, X3, e3, st3⟩ := getF X2 hx hZ hown (host := "") (Or.inl (hw _ (List.mem_of_getElem? (i := 108) rfl))) Via.refl e2 F_offsets_r0 (g := (mkF m 12 #[.val (.ref r0), .val (.ref r1), .val (.int (0 : Int32))] [(.ref r0)])) rfl rfl (hb hby d20_12)
    refine OFin.st st3 ?_
    show OFin p e below _ _ T3 (mkF m 15 #[.val (.ref r0), .val (.ref r1), .val (.int (0 : Int32))] [(.ref oa)])
    refine OFin.st (fun t k => XS.iloadN X3.here hx rfl (hb hby d20_15) rfl k) ?_
    show OFin p e below _ _ T3 (mkF m 16 #[.val (.ref r0), .val (.ref r1), .val (.int (0 : Int32))] [(.int (0 : Int32)), (.ref oa)])
    refine own_iaload X3 hx hZ e3 Ao1 (i := 0) (j := (0 : Int32)) (by decide) (v := (.int (-1 : Int32))) rfl (hb hby d20_16) (pc' := 17) rfl ?_
    show OFin p e below _ _ T3 (mkF m 17 #[.val (.ref r0), .val (.ref r1), .val (.int (0 : Int32))] [(.int (-1 : Int32))])
    refine OFin.st (fun t k => XS.iconst X3.here hx rfl (hb hby d20_17) k) ?_
    show OFin p e below _ _ T3 (mkF m 18 #[.val (.ref r0), .val (.ref r1), .val (.int (0 : Int32))] [(.int (-1 : Int32)), (.int (-1 : Int32))])
    refine OFin.st (fun t k => XS.icmpNo X3.here hx rfl (hb hby d20_18) rfl (teq (by decide : (-1 : Int32) = (-1 : Int32))).2 k) ?_
    show OFin p e below _ _ T3 (mkF m 21 #[.val (.ref r0), .val (.ref r1), .val (.int (0 : Int32))] [])
    refine OFin.st (fun t k => XS.aloadN X3.here hx rfl (hb hby d20_21) rfl rfl k) ?_
    show OFin p e below _ _ T3 (mkF m 22 #[.val (.ref r0), .val (.ref r1), .val (.int (0 : Int32))] [(.ref r0)])
    obtain ⟨T4, X4, e4, st4⟩ := getF X3 hx hZ hown (host := "") (Or.inl (hw _ (List.mem_of_getElem? (i := 174) rfl))) Via.refl e3 F_words_r0 (g := (mkF m 22 #[.val (.ref r0), .val (.ref r1), .val (.int (0 : Int32))] [(.ref r0)])) rfl rfl (hb hby d20_22)
    refine OFin.st st4 ?_
    show OFin p e below _ _ T4 (mkF m 25 #[.val (.ref r0), .val (.ref r1), .val (.int (0 : Int32))] [(.ref wa)])
    refine OFin.st (fun t k => XS.iloadN X4.here hx rfl (hb hby d20_25) rfl k) ?_
    show OFin p e below _ _ T4 (mkF m 26 #[.val (.ref r0), .val (.ref r1), .val (.int (0 : Int32))] [(.int (0 : Int32)), (.ref wa)])
    refine OFin.st (fun t k => XS.aloadN X4.here hx rfl (hb hby d20_26) rfl rfl k) ?_
    show OFin p e below _ _ T4 (mkF m 27 #[.val (.ref r0), .val (.ref r1), .val (.int (0 : Int32))] [(.ref r1), (.int (0 : Int32)), (.ref wa)])
    refine OFin.st (fun t k => XS.iloadN X4.here hx rfl (hb hby d20_27) rfl k) ?_
    show OFin p e below _ _ T4 (mkF m 28 #[.val (.ref r0), .val (.ref r1), .val (.int (0 : Int32))] [(.int (0 : Int32)), (.ref r1), (.int (0 : Int32)), (.ref wa)])
    refine own_laload X4 hx hZ e4 A_r1 (i := 0) (j := (0 : Int32)) (by decide) (v := (.long x0)) rfl (hb hby d20_28) (pc' := 29) rfl ?_
    show OFin p e below _ _ T4 (mkF m 29 #[.val (.ref r0), .val (.ref r1), .val (.int (0 : Int32))] [(.long x0), (.int (0 : Int32)), (.ref wa)])
    refine OFin.st (fun t k => XS.lconst X4.here hx rfl (hb hby d20_29) k) ?_
    show OFin p e below _ _ T4 (mkF m 30 #[.val (.ref r0), .val (.ref r1), .val (.int (0 : Int32))] [(.long (0 : Int64)), (.long x0), (.int (0 : Int32)), (.ref wa)])
    refine OFin.st (fun t k => XS.lcmp X4.here hx rfl (hb hby d20_30) rfl k) ?_
    show OFin p e below _ _ T4 (mkF m 31 #[.val (.ref r0), .val (.ref r1), .val (.int (0 : Int32))] [(.int (lcmpW x0 (0 : Int64))), (.int (0 : Int32)), (.ref wa)])
    have join5 : ∀ (qv : Int64), ∀ (T5 : State) (locs5 : List Loc), Stand p l e ({ frames := 2, cells := 0, slots := 0, locals := 31 } : Room) s m #[(.ref r0), (.ref r1)] below meth c T5 locs5 0 0 → T5.heap = h0 → Fr n0 locs5 → OFin p e below (fun o t L => FrameEnd s o t L ({ frames := 2, cells := 0, slots := 0, locals := 31 } : Room).cells ({ frames := 2, cells := 0, slots := 0, locals := 31 } : Room).slots) (fun v h L => Qrm20 Z r0 r1 wd oa wa va ko kw kv (0 : Int32) wn x0 x1 x2 kc h0 n0 v h L) T5 (mkF m 41 #[.val (.ref r0), .val (.ref r1), .val (.int (0 : Int32))] [(.long qv), (.int (0 : Int32)), (.ref wa)]) := by
      intro qv  T5 locs5 X5 e5 N5
      obtain ⟨T6, h6, X6, e6, W6, V6, st6⟩ := own_lastore X5 hx hZ e5 A_wa (i := 0) (j := (0 : Int32)) (by decide) (by show 0 < 3; decide) (x := qv) (pc := 41) (Ls := #[.val (.ref r0), .val (.ref r1), .val (.int (0 : Int32))]) (rest := []) (hb hby d20_41)
      have N6 := Fr.snoc X6 N5 g_wa
      have K6 : Keep h0 h6 [wa, va] := (Keep.refl h0 [wa, va]).wr W6 (Or.inl (List.mem_of_getElem? (i := 0) rfl))
      have O6 : Old Z n0 h6 := O0.wr W6 g_wa
      have Vw6 : Oar Z h6 wa kw .long [(.long qv), (.long (0 : Int64)), (.long (0 : Int64))] := V6
      refine OFin.st st6 ?_
      show OFin p e below _ _ T6 (mkF m 42 #[.val (.ref r0), .val (.ref r1), .val (.int (0 : Int32))] [])
      refine OFin.st (fun t k => XS.goto X6.here hx rfl (pc0 := 42) (pc' := 72) rfl (hb hby d20_42) (by decide) (by decide) k) ?_
      show OFin p e below _ _ T6 (mkF m 72 #[.val (.ref r0), .val (.ref r1), .val (.int (0 : Int32))] [])
      refine OFin.st (fun t k => XS.iinc X6.here hx rfl (hb hby d20_72) rfl (l' := #[.val (.ref r0), .val (.ref r1), .val (.int (1 : Int32))]) rfl k) ?_
      show OFin p e below _ _ T6 (mkF m 75 #[.val (.ref r0), .val (.ref r1), .val (.int (1 : Int32))] [])
      refine OFin.st (fun t k => XS.goto X6.here hx rfl (pc0 := 75) (pc' := 2) rfl (hb hby d20_75) (by decide) (by decide) k) ?_
      show OFin p e below _ _ T6 (mkF m 2 #[.val (.ref r0), .val (.ref r1), .val (.int (1 : Int32))] [])
      refine OFin.st (fun t k => XS.iloadN X6.here hx rfl (hb hby d20_2) rfl k) ?_
      show OFin p e below _ _ T6 (mkF m 3 #[.val (.ref r0), .val (.ref r1), .val (.int (1 : Int32))] [(.int (1 : Int32))])
      refine OFin.st (fun t k => XS.aloadN X6.here hx rfl (hb hby d20_3) rfl rfl k) ?_
      show OFin p e below _ _ T6 (mkF m 4 #[.val (.ref r0), .val (.ref r1), .val (.int (1 : Int32))] [(.ref r0), (.int (1 : Int32))])
      obtain ⟨T7, X7, e7, st7⟩ := getF X6 hx hZ hown (host := "") (Or.inl (hw _ (List.mem_of_getElem? (i := 108) rfl))) Via.refl e6 (F_offsets_r0.other W6 (Or.inl (Ne.symm N_wa_r0))) (g := (mkF m 4 #[.val (.ref r0), .val (.ref r1), .val (.int (1 : Int32))] [(.ref r0), (.int (1 : Int32))])) rfl rfl (hb hby d20_4)
      refine OFin.st st7 ?_
      show OFin p e below _ _ T7 (mkF m 7 #[.val (.ref r0), .val (.ref r1), .val (.int (1 : Int32))] [(.ref oa), (.int (1 : Int32))])
      refine own_alen X7 hx hZ e7 (Ao1.other W6 N_oa_wa) (z := (3 : Int32)) (by simp only [List.length_cons, List.length_nil]; decide) (hb hby d20_7) (pc' := 8) rfl ?_
      show OFin p e below _ _ T7 (mkF m 8 #[.val (.ref r0), .val (.ref r1), .val (.int (1 : Int32))] [(.int (3 : Int32)), (.int (1 : Int32))])
      refine OFin.st (fun t k => XS.icmpNo X7.here hx rfl (hb hby d20_8) rfl (tlt (by decide : (1 : Int32) < (3 : Int32))).2.1 k) ?_
      show OFin p e below _ _ T7 (mkF m 11 #[.val (.ref r0), .val (.ref r1), .val (.int (1 : Int32))] [])
      refine OFin.st (fun t k => XS.aloadN X7.here hx rfl (hb hby d20_11) rfl rfl k) ?_
      show OFin p e below _ _ T7 (mkF m 12 #[.val (.ref r0), .val (.ref r1), .val (.int (1 : Int32))] [(.ref r0)])
      obtain ⟨T8, X8, e8, st8⟩ := getF X7 hx hZ hown (host := "") (Or.inl (hw _ (List.mem_of_getElem? (i := 108) rfl))) Via.refl e7 (F_offsets_r0.other W6 (Or.inl (Ne.symm N_wa_r0))) (g := (mkF m 12 #[.val (.ref r0), .val (.ref r1), .val (.int (1 : Int32))] [(.ref r0)])) rfl rfl (hb hby d20_12)
      refine OFin.st st8 ?_
      show OFin p e below _ _ T8 (mkF m 15 #[.val (.ref r0), .val (.ref r1), .val (.int (1 : Int32))] [(.ref oa)])
      refine OFin.st (fun t k => XS.iloadN X8.here hx rfl (hb hby d20_15) rfl k) ?_
      show OFin p e below _ _ T8 (mkF m 16 #[.val (.ref r0), .val (.ref r1), .val (.int (1 : Int32))] [(.int (1 : Int32)), (.ref oa)])
      refine own_iaload X8 hx hZ e8 (Ao1.other W6 N_oa_wa) (i := 1) (j := (1 : Int32)) (by decide) (v := (.int (0 : Int32))) rfl (hb hby d20_16) (pc' := 17) rfl ?_
      show OFin p e below _ _ T8 (mkF m 17 #[.val (.ref r0), .val (.ref r1), .val (.int (1 : Int32))] [(.int (0 : Int32))])
      refine OFin.st (fun t k => XS.iconst X8.here hx rfl (hb hby d20_17) k) ?_
      show OFin p e below _ _ T8 (mkF m 18 #[.val (.ref r0), .val (.ref r1), .val (.int (1 : Int32))] [(.int (-1 : Int32)), (.int (0 : Int32))])
      refine OFin.st (fun t k => XS.icmpYes X8.here hx rfl (pc0 := 18) (pc' := 45) rfl (hb hby d20_18) rfl (feq (by decide : ¬ ((0 : Int32) = (-1 : Int32)))).2 (by decide) (by decide) k) ?_
      show OFin p e below _ _ T8 (mkF m 45 #[.val (.ref r0), .val (.ref r1), .val (.int (1 : Int32))] [])
      refine OFin.st (fun t k => XS.aloadN X8.here hx rfl (hb hby d20_45) rfl rfl k) ?_
      show OFin p e below _ _ T8 (mkF m 46 #[.val (.ref r0), .val (.ref r1), .val (.int (1 : Int32))] [(.ref r0)])
      obtain ⟨T9, X9, e9, st9⟩ := getF X8 hx hZ hown (host := "") (Or.inl (hw _ (List.mem_of_getElem? (i := 176) rfl))) Via.refl e8 (F_values_r0.other W6 (Or.inl (Ne.symm N_wa_r0))) (g := (mkF m 46 #[.val (.ref r0), .val (.ref r1), .val (.int (1 : Int32))] [(.ref r0)])) rfl rfl (hb hby d20_46)
      refine OFin.st st9 ?_
      show OFin p e below _ _ T9 (mkF m 49 #[.val (.ref r0), .val (.ref r1), .val (.int (1 : Int32))] [(.ref va)])
      refine OFin.st (fun t k => XS.aloadN X9.here hx rfl (hb hby d20_49) rfl rfl k) ?_
      show OFin p e below _ _ T9 (mkF m 50 #[.val (.ref r0), .val (.ref r1), .val (.int (1 : Int32))] [(.ref r0), (.ref va)])
      obtain ⟨T10, X10, e10, st10⟩ := getF X9 hx hZ hown (host := "") (Or.inl (hw _ (List.mem_of_getElem? (i := 108) rfl))) Via.refl e9 (F_offsets_r0.other W6 (Or.inl (Ne.symm N_wa_r0))) (g := (mkF m 50 #[.val (.ref r0), .val (.ref r1), .val (.int (1 : Int32))] [(.ref r0), (.ref va)])) rfl rfl (hb hby d20_50)
      refine OFin.st st10 ?_
      show OFin p e below _ _ T10 (mkF m 53 #[.val (.ref r0), .val (.ref r1), .val (.int (1 : Int32))] [(.ref oa), (.ref va)])
      refine OFin.st (fun t k => XS.iloadN X10.here hx rfl (hb hby d20_53) rfl k) ?_
      show OFin p e below _ _ T10 (mkF m 54 #[.val (.ref r0), .val (.ref r1), .val (.int (1 : Int32))] [(.int (1 : Int32)), (.ref oa), (.ref va)])
      refine own_iaload X10 hx hZ e10 (Ao1.other W6 N_oa_wa) (i := 1) (j := (1 : Int32)) (by decide) (v := (.int (0 : Int32))) rfl (hb hby d20_54) (pc' := 55) rfl ?_
      show OFin p e below _ _ T10 (mkF m 55 #[.val (.ref r0), .val (.ref r1), .val (.int (1 : Int32))] [(.int (0 : Int32)), (.ref va)])
      refine OFin.st (fun t k => XS.aloadN X10.here hx rfl (hb hby d20_55) rfl rfl k) ?_
      show OFin p e below _ _ T10 (mkF m 56 #[.val (.ref r0), .val (.ref r1), .val (.int (1 : Int32))] [(.ref r0), (.int (0 : Int32)), (.ref va)])
      obtain ⟨T11, X11, e11, st11⟩ := getF X10 hx hZ hown (host := "") (Or.inl (hw _ (List.mem_of_getElem? (i := 108) rfl))) Via.refl e10 (F_offsets_r0.other W6 (Or.inl (Ne.symm N_wa_r0))) (g := (mkF m 56 #[.val (.ref r0), .val (.ref r1), .val (.int (1 : Int32))] [(.ref r0), (.int (0 : Int32)), (.ref va)])) rfl rfl (hb hby d20_56)
      refine OFin.st st11 ?_
      show OFin p e below _ _ T11 (mkF m 59 #[.val (.ref r0), .val (.ref r1), .val (.int (1 : Int32))] [(.ref oa), (.int (0 : Int32)), (.ref va)])
      refine OFin.st (fun t k => XS.iloadN X11.here hx rfl (hb hby d20_59) rfl k) ?_
      show OFin p e below _ _ T11 (mkF m 60 #[.val (.ref r0), .val (.ref r1), .val (.int (1 : Int32))] [(.int (1 : Int32)), (.ref oa), (.int (0 : Int32)), (.ref va)])
      refine own_iaload X11 hx hZ e11 (Ao1.other W6 N_oa_wa) (i := 1) (j := (1 : Int32)) (by decide) (v := (.int (0 : Int32))) rfl (hb hby d20_60) (pc' := 61) rfl ?_
      show OFin p e below _ _ T11 (mkF m 61 #[.val (.ref r0), .val (.ref r1), .val (.int (1 : Int32))] [(.int (0 : Int32)), (.int (0 : Int32)), (.ref va)])
      refine OFin.st (fun t k => XS.aloadN X11.here hx rfl (hb hby d20_61) rfl rfl k) ?_
      show OFin p e below _ _ T11 (mkF m 62 #[.val (.ref r0), .val (.ref r1), .val (.int (1 : Int32))] [(.ref r0), (.int (0 : Int32)), (.int (0 : Int32)), (.ref va)])
      obtain ⟨T12, X12, e12, st12⟩ := getF X11 hx hZ hown (host := "") (Or.inl (hw _ (List.mem_of_getElem? (i := 103) rfl))) Via.refl e11 (F_width_r0.other W6 (Or.inl (Ne.symm N_wa_r0))) (g := (mkF m 62 #[.val (.ref r0), .val (.ref r1), .val (.int (1 : Int32))] [(.ref r0), (.int (0 : Int32)), (.int (0 : Int32)), (.ref va)])) rfl rfl (hb hby d20_62)
      refine OFin.st st12 ?_
      show OFin p e below _ _ T12 (mkF m 65 #[.val (.ref r0), .val (.ref r1), .val (.int (1 : Int32))] [(.int wd), (.int (0 : Int32)), (.int (0 : Int32)), (.ref va)])
      refine OFin.st (fun t k => XS.iadd X12.here hx rfl (hb hby d20_65) rfl k) ?_
      show OFin p e below _ _ T12 (mkF m 66 #[.val (.ref r0), .val (.ref r1), .val (.int (1 : Int32))] [(.int ((0 : Int32) + wd)), (.int (0 : Int32)), (.ref va)])
      refine OFin.st (fun t k => XS.aloadN X12.here hx rfl (hb hby d20_66) rfl rfl k) ?_
      show OFin p e below _ _ T12 (mkF m 67 #[.val (.ref r0), .val (.ref r1), .val (.int (1 : Int32))] [(.ref r1), (.int ((0 : Int32) + wd)), (.int (0 : Int32)), (.ref va)])
      refine OFin.st (fun t k => XS.iloadN X12.here hx rfl (hb hby d20_67) rfl k) ?_
      show OFin p e below _ _ T12 (mkF m 68 #[.val (.ref r0), .val (.ref r1), .val (.int (1 : Int32))] [(.int (1 : Int32)), (.ref r1), (.int ((0 : Int32) + wd)), (.int (0 : Int32)), (.ref va)])
      refine own_laload X12 hx hZ e12 (A_r1.other W6 N_r1_wa) (i := 1) (j := (1 : Int32)) (by decide) (v := (.long x1)) rfl (hb hby d20_68) (pc' := 69) rfl ?_
      show OFin p e below _ _ T12 (mkF m 69 #[.val (.ref r0), .val (.ref r1), .val (.int (1 : Int32))] [(.long x1), (.int ((0 : Int32) + wd)), (.int (0 : Int32)), (.ref va)])
      obtain ⟨_, _, ⟨T13, L13, k13, n13⟩, -, X13, ⟨Lc13, hQ13, l13, y13, z13⟩, st13⟩ := Jvm.LawKit.callS X12 hx (y := (⟨"java/util/Arrays", "fill", "([JIIJ)V"⟩ : MethodName)) hown (mvT hZ (hw _ (List.mem_of_getElem? (i := 185) rfl))) (mvT hZ (hw _ (List.mem_of_getElem? (i := 186) rfl))) (mvT hZ (hw _ (List.mem_of_getElem? (i := 187) rfl))) (mvT hZ (hw _ (List.mem_of_getElem? (i := 188) rfl))) (by decide) (backOf (W := 0) (rm21 l Z a0 hw [] va (0 : Int32) ((0 : Int32) + wd) x1 kv (List.replicate (2 * wn) (.long (0 : Int64))) 0 wn (((0 : Int32) + wd) + wd) h6 n0 O6 (A_va.other W6 (Ne.symm N_wa_va)) g_va (by rw [List.length_replicate]; exact own_w2 wd wn hwd) (by decide) (own_w1 wd wn hwd) (by omega) (by rw [List.length_replicate]; omega) (by omega)) hZ (hw _ (List.mem_of_getElem? (i := 188) rfl)) (hw _ (List.mem_of_getElem? (i := 187) rfl)) (by decide) (by decide)) (g := (mkF m 69 #[.val (.ref r0), .val (.ref r1), .val (.int (1 : Int32))] [(.long x1), (.int ((0 : Int32) + wd)), (.int (0 : Int32)), (.ref va)])) rfl (by rw [hml]; rfl) (argsL := [(.ref va), (.int (0 : Int32)), (.int ((0 : Int32) + wd)), (.long x1)]) (rest := []) (lenOf pd_21 rfl) rfl (by show 2 * 0 + _ ≤ _; exact Nat.le_of_eq rfl) (hb hby d20_69) (fun _ _ => ⟨rfl, e12, (by decide : 0 + 0 ≤ _), (by decide : 0 + 0 ≤ _)⟩)
      dsimp only [Pt.U, Pt.locs, Pt.cells, Pt.slots] at X13 l13 y13 z13 st13 hQ13
      subst l13 y13 z13
      have X13 : Stand p l e ({ frames := 2, cells := 0, slots := 0, locals := 31 } : Room) s m #[(.ref r0), (.ref r1)] below meth c T13 _ 0 0 := X13
      obtain ⟨rfl, N13q, K13q, P13_0⟩ := hQ13
      have N13 := Fr.app N6 N13q
      have K13 : Keep h0 T13.heap [wa, va] := K6.trans K13q (allS (Or.inl (List.mem_of_getElem? (i := 1) rfl)) all0)
      have O13 : Old Z n0 T13.heap := O6.keep K13q (allS g_va all0)
      refine OFin.st st13 ?_
      show OFin p e below _ _ T13 (mkF m 72 #[.val (.ref r0), .val (.ref r1), .val (.int (1 : Int32))] [])
      refine OFin.st (fun t k => XS.iinc X13.here hx rfl (hb hby d20_72) rfl (l' := #[.val (.ref r0), .val (.ref r1), .val (.int (2 : Int32))]) rfl k) ?_
      show OFin p e below _ _ T13 (mkF m 75 #[.val (.ref r0), .val (.ref r1), .val (.int (2 : Int32))] [])
      refine OFin.st (fun t k => XS.goto X13.here hx rfl (pc0 := 75) (pc' := 2) rfl (hb hby d20_75) (by decide) (by decide) k) ?_
      show OFin p e below _ _ T13 (mkF m 2 #[.val (.ref r0), .val (.ref r1), .val (.int (2 : Int32))] [])
      refine OFin.st (fun t k => XS.iloadN X13.here hx rfl (hb hby d20_2) rfl k) ?_
      show OFin p e below _ _ T13 (mkF m 3 #[.val (.ref r0), .val (.ref r1), .val (.int (2 : Int32))] [(.int (2 : Int32))])
      refine OFin.st (fun t k => XS.aloadN X13.here hx rfl (hb hby d20_3) rfl rfl k) ?_
      show OFin p e below _ _ T13 (mkF m 4 #[.val (.ref r0), .val (.ref r1), .val (.int (2 : Int32))] [(.ref r0), (.int (2 : Int32))])
      have c14 := ((F_offsets_r0.other W6 (Or.inl (Ne.symm N_wa_r0))).keep K13q (ninS (Ne.symm N_va_r0) nin0))
      obtain ⟨T15, X15, e15, st15⟩ := getF X13 hx hZ hown (host := "") (Or.inl (hw _ (List.mem_of_getElem? (i := 108) rfl))) Via.refl rfl c14 (g := (mkF m 4 #[.val (.ref r0), .val (.ref r1), .val (.int (2 : Int32))] [(.ref r0), (.int (2 : Int32))])) rfl rfl (hb hby d20_4)
      refine OFin.st st15 ?_
      show OFin p e below _ _ T15 (mkF m 7 #[.val (.ref r0), .val (.ref r1), .val (.int (2 : Int32))] [(.ref oa), (.int (2 : Int32))])
      refine own_alen X15 hx hZ e15 ((Ao1.other W6 N_oa_wa).keep K13q (ninS N_oa_va nin0)) (z := (3 : Int32)) (by simp only [List.length_cons, List.length_nil]; decide) (hb hby d20_7) (pc' := 8) rfl ?_
      show OFin p e below _ _ T15 (mkF m 8 #[.val (.ref r0), .val (.ref r1), .val (.int (2 : Int32))] [(.int (3 : Int32)), (.int (2 : Int32))])
      refine OFin.st (fun t k => XS.icmpNo X15.here hx rfl (hb hby d20_8) rfl (tlt (by decide : (2 : Int32) < (3 : Int32))).2.1 k) ?_
      show OFin p e below _ _ T15 (mkF m 11 #[.val (.ref r0), .val (.ref r1), .val (.int (2 : Int32))] [])
      refine OFin.st (fun t k => XS.aloadN X15.here hx rfl (hb hby d20_11) rfl rfl k) ?_
      show OFin p e below _ _ T15 (mkF m 12 #[.val (.ref r0), .val (.ref r1), .val (.int (2 : Int32))] [(.ref r0)])
      obtain ⟨T16, X16, e16, st16⟩ := getF X15 hx hZ hown (host := "") (Or.inl (hw _ (List.mem_of_getElem? (i := 108) rfl))) Via.refl e15 c14 (g := (mkF m 12 #[.val (.ref r0), .val (.ref r1), .val (.int (2 : Int32))] [(.ref r0)])) rfl rfl (hb hby d20_12)
      refine OFin.st st16 ?_
      show OFin p e below _ _ T16 (mkF m 15 #[.val (.ref r0), .val (.ref r1), .val (.int (2 : Int32))] [(.ref oa)])
      refine OFin.st (fun t k => XS.iloadN X16.here hx rfl (hb hby d20_15) rfl k) ?_
      show OFin p e below _ _ T16 (mkF m 16 #[.val (.ref r0), .val (.ref r1), .val (.int (2 : Int32))] [(.int (2 : Int32)), (.ref oa)])
      refine own_iaload X16 hx hZ e16 ((Ao1.other W6 N_oa_wa).keep K13q (ninS N_oa_va nin0)) (i := 2) (j := (2 : Int32)) (by decide) (v := (.int ((0 : Int32) + wd))) rfl (hb hby d20_16) (pc' := 17) rfl ?_
      show OFin p e below _ _ T16 (mkF m 17 #[.val (.ref r0), .val (.ref r1), .val (.int (2 : Int32))] [(.int ((0 : Int32) + wd))])
      refine OFin.st (fun t k => XS.iconst X16.here hx rfl (hb hby d20_17) k) ?_
      show OFin p e below _ _ T16 (mkF m 18 #[.val (.ref r0), .val (.ref r1), .val (.int (2 : Int32))] [(.int (-1 : Int32)), (.int ((0 : Int32) + wd))])
      refine OFin.st (fun t k => XS.icmpYes X16.here hx rfl (pc0 := 18) (pc' := 45) rfl (hb hby d20_18) rfl (feq (own_wm wd wn hwd)).2 (by decide) (by decide) k) ?_
      show OFin p e below _ _ T16 (mkF m 45 #[.val (.ref r0), .val (.ref r1), .val (.int (2 : Int32))] [])
      refine OFin.st (fun t k => XS.aloadN X16.here hx rfl (hb hby d20_45) rfl rfl k) ?_
      show OFin p e below _ _ T16 (mkF m 46 #[.val (.ref r0), .val (.ref r1), .val (.int (2 : Int32))] [(.ref r0)])
      have c17 := ((F_values_r0.other W6 (Or.inl (Ne.symm N_wa_r0))).keep K13q (ninS (Ne.symm N_va_r0) nin0))
      obtain ⟨T18, X18, e18, st18⟩ := getF X16 hx hZ hown (host := "") (Or.inl (hw _ (List.mem_of_getElem? (i := 176) rfl))) Via.refl e16 c17 (g := (mkF m 46 #[.val (.ref r0), .val (.ref r1), .val (.int (2 : Int32))] [(.ref r0)])) rfl rfl (hb hby d20_46)
      refine OFin.st st18 ?_
      show OFin p e below _ _ T18 (mkF m 49 #[.val (.ref r0), .val (.ref r1), .val (.int (2 : Int32))] [(.ref va)])
      refine OFin.st (fun t k => XS.aloadN X18.here hx rfl (hb hby d20_49) rfl rfl k) ?_
      show OFin p e below _ _ T18 (mkF m 50 #[.val (.ref r0), .val (.ref r1), .val (.int (2 : Int32))] [(.ref r0), (.ref va)])
      obtain ⟨T19, X19, e19, st19⟩ := getF X18 hx hZ hown (host := "") (Or.inl (hw _ (List.mem_of_getElem? (i := 108) rfl))) Via.refl e18 c14 (g := (mkF m 50 #[.val (.ref r0), .val (.ref r1), .val (.int (2 : Int32))] [(.ref r0), (.ref va)])) rfl rfl (hb hby d20_50)
      refine OFin.st st19 ?_
      show OFin p e below _ _ T19 (mkF m 53 #[.val (.ref r0), .val (.ref r1), .val (.int (2 : Int32))] [(.ref oa), (.ref va)])
      refine OFin.st (fun t k => XS.iloadN X19.here hx rfl (hb hby d20_53) rfl k) ?_
      show OFin p e below _ _ T19 (mkF m 54 #[.val (.ref r0), .val (.ref r1), .val (.int (2 : Int32))] [(.int (2 : Int32)), (.ref oa), (.ref va)])
      refine own_iaload X19 hx hZ e19 ((Ao1.other W6 N_oa_wa).keep K13q (ninS N_oa_va nin0)) (i := 2) (j := (2 : Int32)) (by decide) (v := (.int ((0 : Int32) + wd))) rfl (hb hby d20_54) (pc' := 55) rfl ?_
      show OFin p e below _ _ T19 (mkF m 55 #[.val (.ref r0), .val (.ref r1), .val (.int (2 : Int32))] [(.int ((0 : Int32) + wd)), (.ref va)])
      refine OFin.st (fun t k => XS.aloadN X19.here hx rfl (hb hby d20_55) rfl rfl k) ?_
      show OFin p e below _ _ T19 (mkF m 56 #[.val (.ref r0), .val (.ref r1), .val (.int (2 : Int32))] [(.ref r0), (.int ((0 : Int32) + wd)), (.ref va)])
      obtain ⟨T20, X20, e20, st20⟩ := getF X19 hx hZ hown (host := "") (Or.inl (hw _ (List.mem_of_getElem? (i := 108) rfl))) Via.refl e19 c14 (g := (mkF m 56 #[.val (.ref r0), .val (.ref r1), .val (.int (2 : Int32))] [(.ref r0), (.int ((0 : Int32) + wd)), (.ref va)])) rfl rfl (hb hby d20_56)
      refine OFin.st st20 ?_
      show OFin p e below _ _ T20 (mkF m 59 #[.val (.ref r0), .val (.ref r1), .val (.int (2 : Int32))] [(.ref oa), (.int ((0 : Int32) + wd)), (.ref va)])
      refine OFin.st (fun t k => XS.iloadN X20.here hx rfl (hb hby d20_59) rfl k) ?_
      show OFin p e below _ _ T20 (mkF m 60 #[.val (.ref r0), .val (.ref r1), .val (.int (2 : Int32))] [(.int (2 : Int32)), (.ref oa), (.int ((0 : Int32) + wd)), (.ref va)])
      refine own_iaload X20 hx hZ e20 ((Ao1.other W6 N_oa_wa).keep K13q (ninS N_oa_va nin0)) (i := 2) (j := (2 : Int32)) (by decide) (v := (.int ((0 : Int32) + wd))) rfl (hb hby d20_60) (pc' := 61) rfl ?_
      show OFin p e below _ _ T20 (mkF m 61 #[.val (.ref r0), .val (.ref r1), .val (.int (2 : Int32))] [(.int ((0 : Int32) + wd)), (.int ((0 : Int32) + wd)), (.ref va)])
      refine OFin.st (fun t k => XS.aloadN X20.here hx rfl (hb hby d20_61) rfl rfl k) ?_
      show OFin p e below _ _ T20 (mkF m 62 #[.val (.ref r0), .val (.ref r1), .val (.int (2 : Int32))] [(.ref r0), (.int ((0 : Int32) + wd)), (.int ((0 : Int32) + wd)), (.ref va)])
      have c21 := ((F_width_r0.other W6 (Or.inl (Ne.symm N_wa_r0))).keep K13q (ninS (Ne.symm N_va_r0) nin0))
      obtain ⟨T22, X22, e22, st22⟩ := getF X20 hx hZ hown (host := "") (Or.inl (hw _ (List.mem_of_getElem? (i := 103) rfl))) Via.refl e20 c21 (g := (mkF m 62 #[.val (.ref r0), .val (.ref r1), .val (.int (2 : Int32))] [(.ref r0), (.int ((0 : Int32) + wd)), (.int ((0 : Int32) + wd)), (.ref va)])) rfl rfl (hb hby d20_62)
      refine OFin.st st22 ?_
      show OFin p e below _ _ T22 (mkF m 65 #[.val (.ref r0), .val (.ref r1), .val (.int (2 : Int32))] [(.int wd), (.int ((0 : Int32) + wd)), (.int ((0 : Int32) + wd)), (.ref va)])
      refine OFin.st (fun t k => XS.iadd X22.here hx rfl (hb hby d20_65) rfl k) ?_
      show OFin p e below _ _ T22 (mkF m 66 #[.val (.ref r0), .val (.ref r1), .val (.int (2 : Int32))] [(.int (((0 : Int32) + wd) + wd)), (.int ((0 : Int32) + wd)), (.ref va)])
      refine OFin.st (fun t k => XS.aloadN X22.here hx rfl (hb hby d20_66) rfl rfl k) ?_
      show OFin p e below _ _ T22 (mkF m 67 #[.val (.ref r0), .val (.ref r1), .val (.int (2 : Int32))] [(.ref r1), (.int (((0 : Int32) + wd) + wd)), (.int ((0 : Int32) + wd)), (.ref va)])
      refine OFin.st (fun t k => XS.iloadN X22.here hx rfl (hb hby d20_67) rfl k) ?_
      show OFin p e below _ _ T22 (mkF m 68 #[.val (.ref r0), .val (.ref r1), .val (.int (2 : Int32))] [(.int (2 : Int32)), (.ref r1), (.int (((0 : Int32) + wd) + wd)), (.int ((0 : Int32) + wd)), (.ref va)])
      refine own_laload X22 hx hZ e22 ((A_r1.other W6 N_r1_wa).keep K13q (ninS N_r1_va nin0)) (i := 2) (j := (2 : Int32)) (by decide) (v := (.long x2)) rfl (hb hby d20_68) (pc' := 69) rfl ?_
      show OFin p e below _ _ T22 (mkF m 69 #[.val (.ref r0), .val (.ref r1), .val (.int (2 : Int32))] [(.long x2), (.int (((0 : Int32) + wd) + wd)), (.int ((0 : Int32) + wd)), (.ref va)])
      obtain ⟨_, _, ⟨T23, L23, k23, n23⟩, -, X23, ⟨Lc23, hQ23, l23, y23, z23⟩, st23⟩ := Jvm.LawKit.callS X22 hx (y := (⟨"java/util/Arrays", "fill", "([JIIJ)V"⟩ : MethodName)) hown (mvT hZ (hw _ (List.mem_of_getElem? (i := 185) rfl))) (mvT hZ (hw _ (List.mem_of_getElem? (i := 186) rfl))) (mvT hZ (hw _ (List.mem_of_getElem? (i := 187) rfl))) (mvT hZ (hw _ (List.mem_of_getElem? (i := 188) rfl))) (by decide) (backOf (W := 0) (rm21 l Z a0 hw [] va ((0 : Int32) + wd) (((0 : Int32) + wd) + wd) x2 kv (fillN (List.replicate (2 * wn) (.long (0 : Int64))) 0 x1 (wn - 0)) wn (2 * wn) (((0 : Int32) + wd) + wd) T13.heap n0 O13 P13_0 g_va (by rw [fillN_len]; rw [List.length_replicate]; exact own_w2 wd wn hwd) (own_w1 wd wn hwd) (own_w2 wd wn hwd) (by omega) (by rw [fillN_len]; rw [List.length_replicate]; omega) (by omega)) hZ (hw _ (List.mem_of_getElem? (i := 188) rfl)) (hw _ (List.mem_of_getElem? (i := 187) rfl)) (by decide) (by decide)) (g := (mkF m 69 #[.val (.ref r0), .val (.ref r1), .val (.int (2 : Int32))] [(.long x2), (.int (((0 : Int32) + wd) + wd)), (.int ((0 : Int32) + wd)), (.ref va)])) rfl (by rw [hml]; rfl) (argsL := [(.ref va), (.int ((0 : Int32) + wd)), (.int (((0 : Int32) + wd) + wd)), (.long x2)]) (rest := []) (lenOf pd_21 rfl) rfl (by show 2 * 0 + _ ≤ _; exact Nat.le_of_eq rfl) (hb hby d20_69) (fun _ _ => ⟨rfl, e22, (by decide : 0 + 0 ≤ _), (by decide : 0 + 0 ≤ _)⟩)
      dsimp only [Pt.U, Pt.locs, Pt.cells, Pt.slots] at X23 l23 y23 z23 st23 hQ23
      subst l23 y23 z23
      have X23 : Stand p l e ({ frames := 2, cells := 0, slots := 0, locals := 31 } : Room) s m #[(.ref r0), (.ref r1)] below meth c T23 _ 0 0 := X23
      obtain ⟨rfl, N23q, K23q, P23_0⟩ := hQ23
      have N23 := Fr.app N13 N23q
      have K23 : Keep h0 T23.heap [wa, va] := K13.trans K23q (allS (Or.inl (List.mem_of_getElem? (i := 1) rfl)) all0)
      have O23 : Old Z n0 T23.heap := O13.keep K23q (allS g_va all0)
      refine OFin.st st23 ?_
      show OFin p e below _ _ T23 (mkF m 72 #[.val (.ref r0), .val (.ref r1), .val (.int (2 : Int32))] [])
      refine OFin.st (fun t k => XS.iinc X23.here hx rfl (hb hby d20_72) rfl (l' := #[.val (.ref r0), .val (.ref r1), .val (.int (3 : Int32))]) rfl k) ?_
      show OFin p e below _ _ T23 (mkF m 75 #[.val (.ref r0), .val (.ref r1), .val (.int (3 : Int32))] [])
      refine OFin.st (fun t k => XS.goto X23.here hx rfl (pc0 := 75) (pc' := 2) rfl (hb hby d20_75) (by decide) (by decide) k) ?_
      show OFin p e below _ _ T23 (mkF m 2 #[.val (.ref r0), .val (.ref r1), .val (.int (3 : Int32))] [])
      refine OFin.st (fun t k => XS.iloadN X23.here hx rfl (hb hby d20_2) rfl k) ?_
      show OFin p e below _ _ T23 (mkF m 3 #[.val (.ref r0), .val (.ref r1), .val (.int (3 : Int32))] [(.int (3 : Int32))])
      refine OFin.st (fun t k => XS.aloadN X23.here hx rfl (hb hby d20_3) rfl rfl k) ?_
      show OFin p e below _ _ T23 (mkF m 4 #[.val (.ref r0), .val (.ref r1), .val (.int (3 : Int32))] [(.ref r0), (.int (3 : Int32))])
      obtain ⟨T24, X24, e24, st24⟩ := getF X23 hx hZ hown (host := "") (Or.inl (hw _ (List.mem_of_getElem? (i := 108) rfl))) Via.refl rfl (c14.keep K23q (ninS (Ne.symm N_va_r0) nin0)) (g := (mkF m 4 #[.val (.ref r0), .val (.ref r1), .val (.int (3 : Int32))] [(.ref r0), (.int (3 : Int32))])) rfl rfl (hb hby d20_4)
      refine OFin.st st24 ?_
      show OFin p e below _ _ T24 (mkF m 7 #[.val (.ref r0), .val (.ref r1), .val (.int (3 : Int32))] [(.ref oa), (.int (3 : Int32))])
      have c25 := (((Ao1.other W6 N_oa_wa).keep K13q (ninS N_oa_va nin0)).keep K23q (ninS N_oa_va nin0))
      refine own_alen X24 hx hZ e24 c25 (z := (3 : Int32)) (by simp only [List.length_cons, List.length_nil]; decide) (hb hby d20_7) (pc' := 8) rfl ?_
      show OFin p e below _ _ T24 (mkF m 8 #[.val (.ref r0), .val (.ref r1), .val (.int (3 : Int32))] [(.int (3 : Int32)), (.int (3 : Int32))])
      refine OFin.st (fun t k => XS.icmpYes X24.here hx rfl (pc0 := 8) (pc' := 78) rfl (hb hby d20_8) rfl (flt (by decide : ¬ ((3 : Int32) < (3 : Int32)))).2.1 (by decide) (by decide) k) ?_
      show OFin p e below _ _ T24 (mkF m 78 #[.val (.ref r0), .val (.ref r1), .val (.int (3 : Int32))] [])
      have c26 := ((Vw6.keep K13q (ninS N_wa_va nin0)).keep K23q (ninS N_wa_va nin0))
      have c27 := (((F_words_r0.other W6 (Or.inl (Ne.symm N_wa_r0))).keep K13q (ninS (Ne.symm N_va_r0) nin0)).keep K23q (ninS (Ne.symm N_va_r0) nin0))
      exact own_retV X24 hx Bd.returns Bd.notSynchronized (hb hby d20_78) (by show Qrm20 Z r0 r1 wd oa wa va ko kw kv (0 : Int32) wn x0 x1 x2 kc h0 n0 _ T24.heap _; rw [e24]; exact ⟨qv, rfl, N23, K23, (((E_r0.wr W6).keep K13q).keep K23q), (c21.keep K23q (ninS (Ne.symm N_va_r0) nin0)), (c14.keep K23q (ninS (Ne.symm N_va_r0) nin0)), c27, (c17.keep K23q (ninS (Ne.symm N_va_r0) nin0)), (by rw [wds, if_pos rfl]; exact c26), P23_0, (by rw [offs, if_pos rfl]; exact c25)⟩) (own_endN (by decide) (by decide))
    by_cases hc31 : x0 = (0 : Int64)
    · refine OFin.st (fun t k => XS.ifYes X4.here hx rfl (pc0 := 31) (pc' := 40) rfl (hb hby d20_31) rfl ((if0 _ _).trans (teq ((lw_eq x0 (0 : Int64)).mpr hc31)).1) (by decide) (by decide) k) ?_
      show OFin p e below _ _ T4 (mkF m 40 #[.val (.ref r0), .val (.ref r1), .val (.int (0 : Int32))] [(.int (0 : Int32)), (.ref wa)])
      refine OFin.st (fun t k => XS.lconst X4.here hx rfl (hb hby d20_40) k) ?_
      show OFin p e below _ _ T4 (mkF m 41 #[.val (.ref r0), .val (.ref r1), .val (.int (0 : Int32))] [(.long (0 : Int64)), (.int (0 : Int32)), (.ref wa)])
      exact join5 (0 : Int64)  _ _ X4 e4 N0
    · refine OFin.st (fun t k => XS.ifNo X4.here hx rfl (hb hby d20_31) rfl ((if0 _ _).trans (feq (fun q => hc31 ((lw_eq x0 (0 : Int64)).mp q))).1) k) ?_
      show OFin p e below _ _ T4 (mkF m 34 #[.val (.ref r0), .val (.ref r1), .val (.int (0 : Int32))] [(.int (0 : Int32)), (.ref wa)])
      refine OFin.st (X4.ldc2Long hx hown (mvT hZ (hw _ (List.mem_of_getElem? (i := 184) rfl))) (g := (mkF m 34 #[.val (.ref r0), .val (.ref r1), .val (.int (0 : Int32))] [(.int (0 : Int32)), (.ref wa)])) rfl (hb hby d20_34)) ?_
      show OFin p e below _ _ T4 (mkF m 37 #[.val (.ref r0), .val (.ref r1), .val (.int (0 : Int32))] [(.long (-1 : Int64)), (.int (0 : Int32)), (.ref wa)])
      refine OFin.st (fun t k => XS.goto X4.here hx rfl (pc0 := 37) (pc' := 41) rfl (hb hby d20_37) (by decide) (by decide) k) ?_
      show OFin p e below _ _ T4 (mkF m 41 #[.val (.ref r0), .val (.ref r1), .val (.int (0 : Int32))] [(.long (-1 : Int64)), (.int (0 : Int32)), (.ref wa)])
      exact join5 (-1 : Int64)  _ _ X4 e4 N0
  · have Ao28 : Oar Z h0 oa ko .int [(.int (0 : Int32)), (.int (-1 : Int32)), (.int ((0 : Int32) + wd))] := by have q := A_oa; rw [offs, if_neg (by decide), if_pos rfl] at q; exact q
    show OFin p e below _ _ s₁ (mkF m 2 #[.val (.ref r0), .val (.ref r1), .val (.int (0 : Int32))] [])
    refine OFin.st (fun t k => XS.iloadN X0.here hx rfl (hb hby d20_2) rfl k) ?_
    show OFin p e below _ _ s₁ (mkF m 3 #[.val (.ref r0), .val (.ref r1), .val (.int (0 : Int32))] [(.int (0 : Int32))])
    refine OFin.st (fun t k => XS.aloadN X0.here hx rfl (hb hby d20_3) rfl rfl k) ?_
    show OFin p e below _ _ s₁ (mkF m 4 #[.val (.ref r0), .val (.ref r1), .val (.int (0 : Int32))] [(.ref r0), (.int (0 : Int32))])
    obtain ⟨T29, X29, e29, st29⟩ := getF X0 hx hZ hown (host := "") (Or.inl (hw _ (List.mem_of_getElem? (i := 108) rfl))) Via.refl e0 F_offsets_r0 (g := (mkF m 4 #[.val (.ref r0), .val (.ref r1), .val (.int (0 : Int32))] [(.ref r0), (.int (0 : Int32))])) rfl rfl (hb hby d20_4)
    refine OFin.st st29 ?_
    show OFin p e below _ _ T29 (mkF m 7 #[.val (.ref r0), .val (.ref r1), .val (.int (0 : Int32))] [(.ref oa), (.int (0 : Int32))])
    refine own_alen X29 hx hZ e29 Ao28 (z := (3 : Int32)) (by simp only [List.length_cons, List.length_nil]; decide) (hb hby d20_7) (pc' := 8) rfl ?_
    show OFin p e below _ _ T29 (mkF m 8 #[.val (.ref r0), .val (.ref r1), .val (.int (0 : Int32))] [(.int (3 : Int32)), (.int (0 : Int32))])
    refine OFin.st (fun t k => XS.icmpNo X29.here hx rfl (hb hby d20_8) rfl (tlt (by decide : (0 : Int32) < (3 : Int32))).2.1 k) ?_
    show OFin p e below _ _ T29 (mkF m 11 #[.val (.ref r0), .val (.ref r1), .val (.int (0 : Int32))] [])
    refine OFin.st (fun t k => XS.aloadN X29.here hx rfl (hb hby d20_11) rfl rfl k) ?_
    show OFin p e below _ _ T29 (mkF m 12 #[.val (.ref r0), .val (.ref r1), .val (.int (0 : Int32))] [(.ref r0)])
    obtain ⟨T30, X30, e30, st30⟩ := getF X29 hx hZ hown (host := "") (Or.inl (hw _ (List.mem_of_getElem? (i := 108) rfl))) Via.refl e29 F_offsets_r0 (g := (mkF m 12 #[.val (.ref r0), .val (.ref r1), .val (.int (0 : Int32))] [(.ref r0)])) rfl rfl (hb hby d20_12)
    refine OFin.st st30 ?_
    show OFin p e below _ _ T30 (mkF m 15 #[.val (.ref r0), .val (.ref r1), .val (.int (0 : Int32))] [(.ref oa)])
    refine OFin.st (fun t k => XS.iloadN X30.here hx rfl (hb hby d20_15) rfl k) ?_
    show OFin p e below _ _ T30 (mkF m 16 #[.val (.ref r0), .val (.ref r1), .val (.int (0 : Int32))] [(.int (0 : Int32)), (.ref oa)])
    refine own_iaload X30 hx hZ e30 Ao28 (i := 0) (j := (0 : Int32)) (by decide) (v := (.int (0 : Int32))) rfl (hb hby d20_16) (pc' := 17) rfl ?_
    show OFin p e below _ _ T30 (mkF m 17 #[.val (.ref r0), .val (.ref r1), .val (.int (0 : Int32))] [(.int (0 : Int32))])
    refine OFin.st (fun t k => XS.iconst X30.here hx rfl (hb hby d20_17) k) ?_
    show OFin p e below _ _ T30 (mkF m 18 #[.val (.ref r0), .val (.ref r1), .val (.int (0 : Int32))] [(.int (-1 : Int32)), (.int (0 : Int32))])
    refine OFin.st (fun t k => XS.icmpYes X30.here hx rfl (pc0 := 18) (pc' := 45) rfl (hb hby d20_18) rfl (feq (by decide : ¬ ((0 : Int32) = (-1 : Int32)))).2 (by decide) (by decide) k) ?_
    show OFin p e below _ _ T30 (mkF m 45 #[.val (.ref r0), .val (.ref r1), .val (.int (0 : Int32))] [])
    refine OFin.st (fun t k => XS.aloadN X30.here hx rfl (hb hby d20_45) rfl rfl k) ?_
    show OFin p e below _ _ T30 (mkF m 46 #[.val (.ref r0), .val (.ref r1), .val (.int (0 : Int32))] [(.ref r0)])
    obtain ⟨T31, X31, e31, st31⟩ := getF X30 hx hZ hown (host := "") (Or.inl (hw _ (List.mem_of_getElem? (i := 176) rfl))) Via.refl e30 F_values_r0 (g := (mkF m 46 #[.val (.ref r0), .val (.ref r1), .val (.int (0 : Int32))] [(.ref r0)])) rfl rfl (hb hby d20_46)
    refine OFin.st st31 ?_
    show OFin p e below _ _ T31 (mkF m 49 #[.val (.ref r0), .val (.ref r1), .val (.int (0 : Int32))] [(.ref va)])
    refine OFin.st (fun t k => XS.aloadN X31.here hx rfl (hb hby d20_49) rfl rfl k) ?_
    show OFin p e below _ _ T31 (mkF m 50 #[.val (.ref r0), .val (.ref r1), .val (.int (0 : Int32))] [(.ref r0), (.ref va)])
    obtain ⟨T32, X32, e32, st32⟩ := getF X31 hx hZ hown (host := "") (Or.inl (hw _ (List.mem_of_getElem? (i := 108) rfl))) Via.refl e31 F_offsets_r0 (g := (mkF m 50 #[.val (.ref r0), .val (.ref r1), .val (.int (0 : Int32))] [(.ref r0), (.ref va)])) rfl rfl (hb hby d20_50)
    refine OFin.st st32 ?_
    show OFin p e below _ _ T32 (mkF m 53 #[.val (.ref r0), .val (.ref r1), .val (.int (0 : Int32))] [(.ref oa), (.ref va)])
    refine OFin.st (fun t k => XS.iloadN X32.here hx rfl (hb hby d20_53) rfl k) ?_
    show OFin p e below _ _ T32 (mkF m 54 #[.val (.ref r0), .val (.ref r1), .val (.int (0 : Int32))] [(.int (0 : Int32)), (.ref oa), (.ref va)])
    refine own_iaload X32 hx hZ e32 Ao28 (i := 0) (j := (0 : Int32)) (by decide) (v := (.int (0 : Int32))) rfl (hb hby d20_54) (pc' := 55) rfl ?_
    show OFin p e below _ _ T32 (mkF m 55 #[.val (.ref r0), .val (.ref r1), .val (.int (0 : Int32))] [(.int (0 : Int32)), (.ref va)])
    refine OFin.st (fun t k => XS.aloadN X32.here hx rfl (hb hby d20_55) rfl rfl k) ?_
    show OFin p e below _ _ T32 (mkF m 56 #[.val (.ref r0), .val (.ref r1), .val (.int (0 : Int32))] [(.ref r0), (.int (0 : Int32)), (.ref va)])
    obtain ⟨T33, X33, e33, st33⟩ := getF X32 hx hZ hown (host := "") (Or.inl (hw _ (List.mem_of_getElem? (i := 108) rfl))) Via.refl e32 F_offsets_r0 (g := (mkF m 56 #[.val (.ref r0), .val (.ref r1), .val (.int (0 : Int32))] [(.ref r0), (.int (0 : Int32)), (.ref va)])) rfl rfl (hb hby d20_56)
    refine OFin.st st33 ?_
    show OFin p e below _ _ T33 (mkF m 59 #[.val (.ref r0), .val (.ref r1), .val (.int (0 : Int32))] [(.ref oa), (.int (0 : Int32)), (.ref va)])
    refine OFin.st (fun t k => XS.iloadN X33.here hx rfl (hb hby d20_59) rfl k) ?_
    show OFin p e below _ _ T33 (mkF m 60 #[.val (.ref r0), .val (.ref r1), .val (.int (0 : Int32))] [(.int (0 : Int32)), (.ref oa), (.int (0 : Int32)), (.ref va)])
    refine own_iaload X33 hx hZ e33 Ao28 (i := 0) (j := (0 : Int32)) (by decide) (v := (.int (0 : Int32))) rfl (hb hby d20_60) (pc' := 61) rfl ?_
    show OFin p e below _ _ T33 (mkF m 61 #[.val (.ref r0), .val (.ref r1), .val (.int (0 : Int32))] [(.int (0 : Int32)), (.int (0 : Int32)), (.ref va)])
    refine OFin.st (fun t k => XS.aloadN X33.here hx rfl (hb hby d20_61) rfl rfl k) ?_
    show OFin p e below _ _ T33 (mkF m 62 #[.val (.ref r0), .val (.ref r1), .val (.int (0 : Int32))] [(.ref r0), (.int (0 : Int32)), (.int (0 : Int32)), (.ref va)])
    obtain ⟨T34, X34, e34, st34⟩ := getF X33 hx hZ hown (host := "") (Or.inl (hw _ (List.mem_of_getElem? (i := 103) rfl))) Via.refl e33 F_width_r0 (g := (mkF m 62 #[.val (.ref r0), .val (.ref r1), .val (.int (0 : Int32))] [(.ref r0), (.int (0 : Int32)), (.int (0 : Int32)), (.ref va)])) rfl rfl (hb hby d20_62)
    refine OFin.st st34 ?_
    show OFin p e below _ _ T34 (mkF m 65 #[.val (.ref r0), .val (.ref r1), .val (.int (0 : Int32))] [(.int wd), (.int (0 : Int32)), (.int (0 : Int32)), (.ref va)])
    refine OFin.st (fun t k => XS.iadd X34.here hx rfl (hb hby d20_65) rfl k) ?_
    show OFin p e below _ _ T34 (mkF m 66 #[.val (.ref r0), .val (.ref r1), .val (.int (0 : Int32))] [(.int ((0 : Int32) + wd)), (.int (0 : Int32)), (.ref va)])
    refine OFin.st (fun t k => XS.aloadN X34.here hx rfl (hb hby d20_66) rfl rfl k) ?_
    show OFin p e below _ _ T34 (mkF m 67 #[.val (.ref r0), .val (.ref r1), .val (.int (0 : Int32))] [(.ref r1), (.int ((0 : Int32) + wd)), (.int (0 : Int32)), (.ref va)])
    refine OFin.st (fun t k => XS.iloadN X34.here hx rfl (hb hby d20_67) rfl k) ?_
    show OFin p e below _ _ T34 (mkF m 68 #[.val (.ref r0), .val (.ref r1), .val (.int (0 : Int32))] [(.int (0 : Int32)), (.ref r1), (.int ((0 : Int32) + wd)), (.int (0 : Int32)), (.ref va)])
    refine own_laload X34 hx hZ e34 A_r1 (i := 0) (j := (0 : Int32)) (by decide) (v := (.long x0)) rfl (hb hby d20_68) (pc' := 69) rfl ?_
    show OFin p e below _ _ T34 (mkF m 69 #[.val (.ref r0), .val (.ref r1), .val (.int (0 : Int32))] [(.long x0), (.int ((0 : Int32) + wd)), (.int (0 : Int32)), (.ref va)])
    obtain ⟨_, _, ⟨T35, L35, k35, n35⟩, -, X35, ⟨Lc35, hQ35, l35, y35, z35⟩, st35⟩ := Jvm.LawKit.callS X34 hx (y := (⟨"java/util/Arrays", "fill", "([JIIJ)V"⟩ : MethodName)) hown (mvT hZ (hw _ (List.mem_of_getElem? (i := 185) rfl))) (mvT hZ (hw _ (List.mem_of_getElem? (i := 186) rfl))) (mvT hZ (hw _ (List.mem_of_getElem? (i := 187) rfl))) (mvT hZ (hw _ (List.mem_of_getElem? (i := 188) rfl))) (by decide) (backOf (W := 0) (rm21 l Z a0 hw [] va (0 : Int32) ((0 : Int32) + wd) x0 kv (List.replicate (2 * wn) (.long (0 : Int64))) 0 wn (((0 : Int32) + wd) + wd) h0 n0 O0 A_va g_va (by rw [List.length_replicate]; exact own_w2 wd wn hwd) (by decide) (own_w1 wd wn hwd) (by omega) (by rw [List.length_replicate]; omega) (by omega)) hZ (hw _ (List.mem_of_getElem? (i := 188) rfl)) (hw _ (List.mem_of_getElem? (i := 187) rfl)) (by decide) (by decide)) (g := (mkF m 69 #[.val (.ref r0), .val (.ref r1), .val (.int (0 : Int32))] [(.long x0), (.int ((0 : Int32) + wd)), (.int (0 : Int32)), (.ref va)])) rfl (by rw [hml]; rfl) (argsL := [(.ref va), (.int (0 : Int32)), (.int ((0 : Int32) + wd)), (.long x0)]) (rest := []) (lenOf pd_21 rfl) rfl (by show 2 * 0 + _ ≤ _; exact Nat.le_of_eq rfl) (hb hby d20_69) (fun _ _ => ⟨rfl, e34, (by decide : 0 + 0 ≤ _), (by decide : 0 + 0 ≤ _)⟩)
    dsimp only [Pt.U, Pt.locs, Pt.cells, Pt.slots] at X35 l35 y35 z35 st35 hQ35
    subst l35 y35 z35
    have X35 : Stand p l e ({ frames := 2, cells := 0, slots := 0, locals := 31 } : Room) s m #[(.ref r0), (.ref r1)] below meth c T35 _ 0 0 := X35
    obtain ⟨rfl, N35q, K35q, P35_0⟩ := hQ35
    have N35 := Fr.app N0 N35q
    have K35 : Keep h0 T35.heap [wa, va] := (Keep.refl h0 [wa, va]).trans K35q (allS (Or.inl (List.mem_of_getElem? (i := 1) rfl)) all0)
    have O35 : Old Z n0 T35.heap := O0.keep K35q (allS g_va all0)
    refine OFin.st st35 ?_
    show OFin p e below _ _ T35 (mkF m 72 #[.val (.ref r0), .val (.ref r1), .val (.int (0 : Int32))] [])
    refine OFin.st (fun t k => XS.iinc X35.here hx rfl (hb hby d20_72) rfl (l' := #[.val (.ref r0), .val (.ref r1), .val (.int (1 : Int32))]) rfl k) ?_
    show OFin p e below _ _ T35 (mkF m 75 #[.val (.ref r0), .val (.ref r1), .val (.int (1 : Int32))] [])
    refine OFin.st (fun t k => XS.goto X35.here hx rfl (pc0 := 75) (pc' := 2) rfl (hb hby d20_75) (by decide) (by decide) k) ?_
    show OFin p e below _ _ T35 (mkF m 2 #[.val (.ref r0), .val (.ref r1), .val (.int (1 : Int32))] [])
    refine OFin.st (fun t k => XS.iloadN X35.here hx rfl (hb hby d20_2) rfl k) ?_
    show OFin p e below _ _ T35 (mkF m 3 #[.val (.ref r0), .val (.ref r1), .val (.int (1 : Int32))] [(.int (1 : Int32))])
    refine OFin.st (fun t k => XS.aloadN X35.here hx rfl (hb hby d20_3) rfl rfl k) ?_
    show OFin p e below _ _ T35 (mkF m 4 #[.val (.ref r0), .val (.ref r1), .val (.int (1 : Int32))] [(.ref r0), (.int (1 : Int32))])
    obtain ⟨T36, X36, e36, st36⟩ := getF X35 hx hZ hown (host := "") (Or.inl (hw _ (List.mem_of_getElem? (i := 108) rfl))) Via.refl rfl (F_offsets_r0.keep K35q (ninS (Ne.symm N_va_r0) nin0)) (g := (mkF m 4 #[.val (.ref r0), .val (.ref r1), .val (.int (1 : Int32))] [(.ref r0), (.int (1 : Int32))])) rfl rfl (hb hby d20_4)
    refine OFin.st st36 ?_
    show OFin p e below _ _ T36 (mkF m 7 #[.val (.ref r0), .val (.ref r1), .val (.int (1 : Int32))] [(.ref oa), (.int (1 : Int32))])
    refine own_alen X36 hx hZ e36 (Ao28.keep K35q (ninS N_oa_va nin0)) (z := (3 : Int32)) (by simp only [List.length_cons, List.length_nil]; decide) (hb hby d20_7) (pc' := 8) rfl ?_
    show OFin p e below _ _ T36 (mkF m 8 #[.val (.ref r0), .val (.ref r1), .val (.int (1 : Int32))] [(.int (3 : Int32)), (.int (1 : Int32))])
    refine OFin.st (fun t k => XS.icmpNo X36.here hx rfl (hb hby d20_8) rfl (tlt (by decide : (1 : Int32) < (3 : Int32))).2.1 k) ?_
    show OFin p e below _ _ T36 (mkF m 11 #[.val (.ref r0), .val (.ref r1), .val (.int (1 : Int32))] [])
    refine OFin.st (fun t k => XS.aloadN X36.here hx rfl (hb hby d20_11) rfl rfl k) ?_
    show OFin p e below _ _ T36 (mkF m 12 #[.val (.ref r0), .val (.ref r1), .val (.int (1 : Int32))] [(.ref r0)])
    obtain ⟨T37, X37, e37, st37⟩ := getF X36 hx hZ hown (host := "") (Or.inl (hw _ (List.mem_of_getElem? (i := 108) rfl))) Via.refl e36 (F_offsets_r0.keep K35q (ninS (Ne.symm N_va_r0) nin0)) (g := (mkF m 12 #[.val (.ref r0), .val (.ref r1), .val (.int (1 : Int32))] [(.ref r0)])) rfl rfl (hb hby d20_12)
    refine OFin.st st37 ?_
    show OFin p e below _ _ T37 (mkF m 15 #[.val (.ref r0), .val (.ref r1), .val (.int (1 : Int32))] [(.ref oa)])
    refine OFin.st (fun t k => XS.iloadN X37.here hx rfl (hb hby d20_15) rfl k) ?_
    show OFin p e below _ _ T37 (mkF m 16 #[.val (.ref r0), .val (.ref r1), .val (.int (1 : Int32))] [(.int (1 : Int32)), (.ref oa)])
    refine own_iaload X37 hx hZ e37 (Ao28.keep K35q (ninS N_oa_va nin0)) (i := 1) (j := (1 : Int32)) (by decide) (v := (.int (-1 : Int32))) rfl (hb hby d20_16) (pc' := 17) rfl ?_
    show OFin p e below _ _ T37 (mkF m 17 #[.val (.ref r0), .val (.ref r1), .val (.int (1 : Int32))] [(.int (-1 : Int32))])
    refine OFin.st (fun t k => XS.iconst X37.here hx rfl (hb hby d20_17) k) ?_
    show OFin p e below _ _ T37 (mkF m 18 #[.val (.ref r0), .val (.ref r1), .val (.int (1 : Int32))] [(.int (-1 : Int32)), (.int (-1 : Int32))])
    refine OFin.st (fun t k => XS.icmpNo X37.here hx rfl (hb hby d20_18) rfl (teq (by decide : (-1 : Int32) = (-1 : Int32))).2 k) ?_
    show OFin p e below _ _ T37 (mkF m 21 #[.val (.ref r0), .val (.ref r1), .val (.int (1 : Int32))] [])
    refine OFin.st (fun t k => XS.aloadN X37.here hx rfl (hb hby d20_21) rfl rfl k) ?_
    show OFin p e below _ _ T37 (mkF m 22 #[.val (.ref r0), .val (.ref r1), .val (.int (1 : Int32))] [(.ref r0)])
    obtain ⟨T38, X38, e38, st38⟩ := getF X37 hx hZ hown (host := "") (Or.inl (hw _ (List.mem_of_getElem? (i := 174) rfl))) Via.refl e37 (F_words_r0.keep K35q (ninS (Ne.symm N_va_r0) nin0)) (g := (mkF m 22 #[.val (.ref r0), .val (.ref r1), .val (.int (1 : Int32))] [(.ref r0)])) rfl rfl (hb hby d20_22)
    refine OFin.st st38 ?_
    show OFin p e below _ _ T38 (mkF m 25 #[.val (.ref r0), .val (.ref r1), .val (.int (1 : Int32))] [(.ref wa)])
    refine OFin.st (fun t k => XS.iloadN X38.here hx rfl (hb hby d20_25) rfl k) ?_
    show OFin p e below _ _ T38 (mkF m 26 #[.val (.ref r0), .val (.ref r1), .val (.int (1 : Int32))] [(.int (1 : Int32)), (.ref wa)])
    refine OFin.st (fun t k => XS.aloadN X38.here hx rfl (hb hby d20_26) rfl rfl k) ?_
    show OFin p e below _ _ T38 (mkF m 27 #[.val (.ref r0), .val (.ref r1), .val (.int (1 : Int32))] [(.ref r1), (.int (1 : Int32)), (.ref wa)])
    refine OFin.st (fun t k => XS.iloadN X38.here hx rfl (hb hby d20_27) rfl k) ?_
    show OFin p e below _ _ T38 (mkF m 28 #[.val (.ref r0), .val (.ref r1), .val (.int (1 : Int32))] [(.int (1 : Int32)), (.ref r1), (.int (1 : Int32)), (.ref wa)])
    refine own_laload X38 hx hZ e38 (A_r1.keep K35q (ninS N_r1_va nin0)) (i := 1) (j := (1 : Int32)) (by decide) (v := (.long x1)) rfl (hb hby d20_28) (pc' := 29) rfl ?_
    show OFin p e below _ _ T38 (mkF m 29 #[.val (.ref r0), .val (.ref r1), .val (.int (1 : Int32))] [(.long x1), (.int (1 : Int32)), (.ref wa)])
    refine OFin.st (fun t k => XS.lconst X38.here hx rfl (hb hby d20_29) k) ?_
    show OFin p e below _ _ T38 (mkF m 30 #[.val (.ref r0), .val (.ref r1), .val (.int (1 : Int32))] [(.long (0 : Int64)), (.long x1), (.int (1 : Int32)), (.ref wa)])
    refine OFin.st (fun t k => XS.lcmp X38.here hx rfl (hb hby d20_30) rfl k) ?_
    show OFin p e below _ _ T38 (mkF m 31 #[.val (.ref r0), .val (.ref r1), .val (.int (1 : Int32))] [(.int (lcmpW x1 (0 : Int64))), (.int (1 : Int32)), (.ref wa)])
    have join39 : ∀ (qv : Int64), ∀ (T39 : State) (locs39 : List Loc), Stand p l e ({ frames := 2, cells := 0, slots := 0, locals := 31 } : Room) s m #[(.ref r0), (.ref r1)] below meth c T39 locs39 0 0 → T39.heap = T35.heap → Fr n0 locs39 → OFin p e below (fun o t L => FrameEnd s o t L ({ frames := 2, cells := 0, slots := 0, locals := 31 } : Room).cells ({ frames := 2, cells := 0, slots := 0, locals := 31 } : Room).slots) (fun v h L => Qrm20 Z r0 r1 wd oa wa va ko kw kv (1 : Int32) wn x0 x1 x2 kc h0 n0 v h L) T39 (mkF m 41 #[.val (.ref r0), .val (.ref r1), .val (.int (1 : Int32))] [(.long qv), (.int (1 : Int32)), (.ref wa)]) := by
      intro qv  T39 locs39 X39 e39 N39
      obtain ⟨T40, h40, X40, e40, W40, V40, st40⟩ := own_lastore X39 hx hZ e39 (A_wa.keep K35q (ninS N_wa_va nin0)) (i := 1) (j := (1 : Int32)) (by decide) (by show 1 < 3; decide) (x := qv) (pc := 41) (Ls := #[.val (.ref r0), .val (.ref r1), .val (.int (1 : Int32))]) (rest := []) (hb hby d20_41)
      have N40 := Fr.snoc X40 N39 g_wa
      have K40 : Keep h0 h40 [wa, va] := K35.wr W40 (Or.inl (List.mem_of_getElem? (i := 0) rfl))
      have O40 : Old Z n0 h40 := O35.wr W40 g_wa
      have Vw40 : Oar Z h40 wa kw .long [(.long (0 : Int64)), (.long qv), (.long (0 : Int64))] := V40
      refine OFin.st st40 ?_
      show OFin p e below _ _ T40 (mkF m 42 #[.val (.ref r0), .val (.ref r1), .val (.int (1 : Int32))] [])
      refine OFin.st (fun t k => XS.goto X40.here hx rfl (pc0 := 42) (pc' := 72) rfl (hb hby d20_42) (by decide) (by decide) k) ?_
      show OFin p e below _ _ T40 (mkF m 72 #[.val (.ref r0), .val (.ref r1), .val (.int (1 : Int32))] [])
      refine OFin.st (fun t k => XS.iinc X40.here hx rfl (hb hby d20_72) rfl (l' := #[.val (.ref r0), .val (.ref r1), .val (.int (2 : Int32))]) rfl k) ?_
      show OFin p e below _ _ T40 (mkF m 75 #[.val (.ref r0), .val (.ref r1), .val (.int (2 : Int32))] [])
      refine OFin.st (fun t k => XS.goto X40.here hx rfl (pc0 := 75) (pc' := 2) rfl (hb hby d20_75) (by decide) (by decide) k) ?_
      show OFin p e below _ _ T40 (mkF m 2 #[.val (.ref r0), .val (.ref r1), .val (.int (2 : Int32))] [])
      refine OFin.st (fun t k => XS.iloadN X40.here hx rfl (hb hby d20_2) rfl k) ?_
      show OFin p e below _ _ T40 (mkF m 3 #[.val (.ref r0), .val (.ref r1), .val (.int (2 : Int32))] [(.int (2 : Int32))])
      refine OFin.st (fun t k => XS.aloadN X40.here hx rfl (hb hby d20_3) rfl rfl k) ?_
      show OFin p e below _ _ T40 (mkF m 4 #[.val (.ref r0), .val (.ref r1), .val (.int (2 : Int32))] [(.ref r0), (.int (2 : Int32))])
      have c41 := ((F_offsets_r0.keep K35q (ninS (Ne.symm N_va_r0) nin0)).other W40 (Or.inl (Ne.symm N_wa_r0)))
      obtain ⟨T42, X42, e42, st42⟩ := getF X40 hx hZ hown (host := "") (Or.inl (hw _ (List.mem_of_getElem? (i := 108) rfl))) Via.refl e40 c41 (g := (mkF m 4 #[.val (.ref r0), .val (.ref r1), .val (.int (2 : Int32))] [(.ref r0), (.int (2 : Int32))])) rfl rfl (hb hby d20_4)
      refine OFin.st st42 ?_
      show OFin p e below _ _ T42 (mkF m 7 #[.val (.ref r0), .val (.ref r1), .val (.int (2 : Int32))] [(.ref oa), (.int (2 : Int32))])
      refine own_alen X42 hx hZ e42 ((Ao28.keep K35q (ninS N_oa_va nin0)).other W40 N_oa_wa) (z := (3 : Int32)) (by simp only [List.length_cons, List.length_nil]; decide) (hb hby d20_7) (pc' := 8) rfl ?_
      show OFin p e below _ _ T42 (mkF m 8 #[.val (.ref r0), .val (.ref r1), .val (.int (2 : Int32))] [(.int (3 : Int32)), (.int (2 : Int32))])
      refine OFin.st (fun t k => XS.icmpNo X42.here hx rfl (hb hby d20_8) rfl (tlt (by decide : (2 : Int32) < (3 : Int32))).2.1 k) ?_
      show OFin p e below _ _ T42 (mkF m 11 #[.val (.ref r0), .val (.ref r1), .val (.int (2 : Int32))] [])
      refine OFin.st (fun t k => XS.aloadN X42.here hx rfl (hb hby d20_11) rfl rfl k) ?_
      show OFin p e below _ _ T42 (mkF m 12 #[.val (.ref r0), .val (.ref r1), .val (.int (2 : Int32))] [(.ref r0)])
      obtain ⟨T43, X43, e43, st43⟩ := getF X42 hx hZ hown (host := "") (Or.inl (hw _ (List.mem_of_getElem? (i := 108) rfl))) Via.refl e42 c41 (g := (mkF m 12 #[.val (.ref r0), .val (.ref r1), .val (.int (2 : Int32))] [(.ref r0)])) rfl rfl (hb hby d20_12)
      refine OFin.st st43 ?_
      show OFin p e below _ _ T43 (mkF m 15 #[.val (.ref r0), .val (.ref r1), .val (.int (2 : Int32))] [(.ref oa)])
      refine OFin.st (fun t k => XS.iloadN X43.here hx rfl (hb hby d20_15) rfl k) ?_
      show OFin p e below _ _ T43 (mkF m 16 #[.val (.ref r0), .val (.ref r1), .val (.int (2 : Int32))] [(.int (2 : Int32)), (.ref oa)])
      refine own_iaload X43 hx hZ e43 ((Ao28.keep K35q (ninS N_oa_va nin0)).other W40 N_oa_wa) (i := 2) (j := (2 : Int32)) (by decide) (v := (.int ((0 : Int32) + wd))) rfl (hb hby d20_16) (pc' := 17) rfl ?_
      show OFin p e below _ _ T43 (mkF m 17 #[.val (.ref r0), .val (.ref r1), .val (.int (2 : Int32))] [(.int ((0 : Int32) + wd))])
      refine OFin.st (fun t k => XS.iconst X43.here hx rfl (hb hby d20_17) k) ?_
      show OFin p e below _ _ T43 (mkF m 18 #[.val (.ref r0), .val (.ref r1), .val (.int (2 : Int32))] [(.int (-1 : Int32)), (.int ((0 : Int32) + wd))])
      refine OFin.st (fun t k => XS.icmpYes X43.here hx rfl (pc0 := 18) (pc' := 45) rfl (hb hby d20_18) rfl (feq (own_wm wd wn hwd)).2 (by decide) (by decide) k) ?_
      show OFin p e below _ _ T43 (mkF m 45 #[.val (.ref r0), .val (.ref r1), .val (.int (2 : Int32))] [])
      refine OFin.st (fun t k => XS.aloadN X43.here hx rfl (hb hby d20_45) rfl rfl k) ?_
      show OFin p e below _ _ T43 (mkF m 46 #[.val (.ref r0), .val (.ref r1), .val (.int (2 : Int32))] [(.ref r0)])
      have c44 := ((F_values_r0.keep K35q (ninS (Ne.symm N_va_r0) nin0)).other W40 (Or.inl (Ne.symm N_wa_r0)))
      obtain ⟨T45, X45, e45, st45⟩ := getF X43 hx hZ hown (host := "") (Or.inl (hw _ (List.mem_of_getElem? (i := 176) rfl))) Via.refl e43 c44 (g := (mkF m 46 #[.val (.ref r0), .val (.ref r1), .val (.int (2 : Int32))] [(.ref r0)])) rfl rfl (hb hby d20_46)
      refine OFin.st st45 ?_
      show OFin p e below _ _ T45 (mkF m 49 #[.val (.ref r0), .val (.ref r1), .val (.int (2 : Int32))] [(.ref va)])
      refine OFin.st (fun t k => XS.aloadN X45.here hx rfl (hb hby d20_49) rfl rfl k) ?_
      show OFin p e below _ _ T45 (mkF m 50 #[.val (.ref r0), .val (.ref r1), .val (.int (2 : Int32))] [(.ref r0), (.ref va)])
      obtain ⟨T46, X46, e46, st46⟩ := getF X45 hx hZ hown (host := "") (Or.inl (hw _ (List.mem_of_getElem? (i := 108) rfl))) Via.refl e45 c41 (g := (mkF m 50 #[.val (.ref r0), .val (.ref r1), .val (.int (2 : Int32))] [(.ref r0), (.ref va)])) rfl rfl (hb hby d20_50)
      refine OFin.st st46 ?_
      show OFin p e below _ _ T46 (mkF m 53 #[.val (.ref r0), .val (.ref r1), .val (.int (2 : Int32))] [(.ref oa), (.ref va)])
      refine OFin.st (fun t k => XS.iloadN X46.here hx rfl (hb hby d20_53) rfl k) ?_
      show OFin p e below _ _ T46 (mkF m 54 #[.val (.ref r0), .val (.ref r1), .val (.int (2 : Int32))] [(.int (2 : Int32)), (.ref oa), (.ref va)])
      refine own_iaload X46 hx hZ e46 ((Ao28.keep K35q (ninS N_oa_va nin0)).other W40 N_oa_wa) (i := 2) (j := (2 : Int32)) (by decide) (v := (.int ((0 : Int32) + wd))) rfl (hb hby d20_54) (pc' := 55) rfl ?_
      show OFin p e below _ _ T46 (mkF m 55 #[.val (.ref r0), .val (.ref r1), .val (.int (2 : Int32))] [(.int ((0 : Int32) + wd)), (.ref va)])
      refine OFin.st (fun t k => XS.aloadN X46.here hx rfl (hb hby d20_55) rfl rfl k) ?_
      show OFin p e below _ _ T46 (mkF m 56 #[.val (.ref r0), .val (.ref r1), .val (.int (2 : Int32))] [(.ref r0), (.int ((0 : Int32) + wd)), (.ref va)])
      obtain ⟨T47, X47, e47, st47⟩ := getF X46 hx hZ hown (host := "") (Or.inl (hw _ (List.mem_of_getElem? (i := 108) rfl))) Via.refl e46 c41 (g := (mkF m 56 #[.val (.ref r0), .val (.ref r1), .val (.int (2 : Int32))] [(.ref r0), (.int ((0 : Int32) + wd)), (.ref va)])) rfl rfl (hb hby d20_56)
      refine OFin.st st47 ?_
      show OFin p e below _ _ T47 (mkF m 59 #[.val (.ref r0), .val (.ref r1), .val (.int (2 : Int32))] [(.ref oa), (.int ((0 : Int32) + wd)), (.ref va)])
      refine OFin.st (fun t k => XS.iloadN X47.here hx rfl (hb hby d20_59) rfl k) ?_
      show OFin p e below _ _ T47 (mkF m 60 #[.val (.ref r0), .val (.ref r1), .val (.int (2 : Int32))] [(.int (2 : Int32)), (.ref oa), (.int ((0 : Int32) + wd)), (.ref va)])
      refine own_iaload X47 hx hZ e47 ((Ao28.keep K35q (ninS N_oa_va nin0)).other W40 N_oa_wa) (i := 2) (j := (2 : Int32)) (by decide) (v := (.int ((0 : Int32) + wd))) rfl (hb hby d20_60) (pc' := 61) rfl ?_
      show OFin p e below _ _ T47 (mkF m 61 #[.val (.ref r0), .val (.ref r1), .val (.int (2 : Int32))] [(.int ((0 : Int32) + wd)), (.int ((0 : Int32) + wd)), (.ref va)])
      refine OFin.st (fun t k => XS.aloadN X47.here hx rfl (hb hby d20_61) rfl rfl k) ?_
      show OFin p e below _ _ T47 (mkF m 62 #[.val (.ref r0), .val (.ref r1), .val (.int (2 : Int32))] [(.ref r0), (.int ((0 : Int32) + wd)), (.int ((0 : Int32) + wd)), (.ref va)])
      have c48 := ((F_width_r0.keep K35q (ninS (Ne.symm N_va_r0) nin0)).other W40 (Or.inl (Ne.symm N_wa_r0)))
      obtain ⟨T49, X49, e49, st49⟩ := getF X47 hx hZ hown (host := "") (Or.inl (hw _ (List.mem_of_getElem? (i := 103) rfl))) Via.refl e47 c48 (g := (mkF m 62 #[.val (.ref r0), .val (.ref r1), .val (.int (2 : Int32))] [(.ref r0), (.int ((0 : Int32) + wd)), (.int ((0 : Int32) + wd)), (.ref va)])) rfl rfl (hb hby d20_62)
      refine OFin.st st49 ?_
      show OFin p e below _ _ T49 (mkF m 65 #[.val (.ref r0), .val (.ref r1), .val (.int (2 : Int32))] [(.int wd), (.int ((0 : Int32) + wd)), (.int ((0 : Int32) + wd)), (.ref va)])
      refine OFin.st (fun t k => XS.iadd X49.here hx rfl (hb hby d20_65) rfl k) ?_
      show OFin p e below _ _ T49 (mkF m 66 #[.val (.ref r0), .val (.ref r1), .val (.int (2 : Int32))] [(.int (((0 : Int32) + wd) + wd)), (.int ((0 : Int32) + wd)), (.ref va)])
      refine OFin.st (fun t k => XS.aloadN X49.here hx rfl (hb hby d20_66) rfl rfl k) ?_
      show OFin p e below _ _ T49 (mkF m 67 #[.val (.ref r0), .val (.ref r1), .val (.int (2 : Int32))] [(.ref r1), (.int (((0 : Int32) + wd) + wd)), (.int ((0 : Int32) + wd)), (.ref va)])
      refine OFin.st (fun t k => XS.iloadN X49.here hx rfl (hb hby d20_67) rfl k) ?_
      show OFin p e below _ _ T49 (mkF m 68 #[.val (.ref r0), .val (.ref r1), .val (.int (2 : Int32))] [(.int (2 : Int32)), (.ref r1), (.int (((0 : Int32) + wd) + wd)), (.int ((0 : Int32) + wd)), (.ref va)])
      refine own_laload X49 hx hZ e49 ((A_r1.keep K35q (ninS N_r1_va nin0)).other W40 N_r1_wa) (i := 2) (j := (2 : Int32)) (by decide) (v := (.long x2)) rfl (hb hby d20_68) (pc' := 69) rfl ?_
      show OFin p e below _ _ T49 (mkF m 69 #[.val (.ref r0), .val (.ref r1), .val (.int (2 : Int32))] [(.long x2), (.int (((0 : Int32) + wd) + wd)), (.int ((0 : Int32) + wd)), (.ref va)])
      obtain ⟨_, _, ⟨T50, L50, k50, n50⟩, -, X50, ⟨Lc50, hQ50, l50, y50, z50⟩, st50⟩ := Jvm.LawKit.callS X49 hx (y := (⟨"java/util/Arrays", "fill", "([JIIJ)V"⟩ : MethodName)) hown (mvT hZ (hw _ (List.mem_of_getElem? (i := 185) rfl))) (mvT hZ (hw _ (List.mem_of_getElem? (i := 186) rfl))) (mvT hZ (hw _ (List.mem_of_getElem? (i := 187) rfl))) (mvT hZ (hw _ (List.mem_of_getElem? (i := 188) rfl))) (by decide) (backOf (W := 0) (rm21 l Z a0 hw [] va ((0 : Int32) + wd) (((0 : Int32) + wd) + wd) x2 kv (fillN (List.replicate (2 * wn) (.long (0 : Int64))) 0 x0 (wn - 0)) wn (2 * wn) (((0 : Int32) + wd) + wd) h40 n0 O40 (P35_0.other W40 (Ne.symm N_wa_va)) g_va (by rw [fillN_len]; rw [List.length_replicate]; exact own_w2 wd wn hwd) (own_w1 wd wn hwd) (own_w2 wd wn hwd) (by omega) (by rw [fillN_len]; rw [List.length_replicate]; omega) (by omega)) hZ (hw _ (List.mem_of_getElem? (i := 188) rfl)) (hw _ (List.mem_of_getElem? (i := 187) rfl)) (by decide) (by decide)) (g := (mkF m 69 #[.val (.ref r0), .val (.ref r1), .val (.int (2 : Int32))] [(.long x2), (.int (((0 : Int32) + wd) + wd)), (.int ((0 : Int32) + wd)), (.ref va)])) rfl (by rw [hml]; rfl) (argsL := [(.ref va), (.int ((0 : Int32) + wd)), (.int (((0 : Int32) + wd) + wd)), (.long x2)]) (rest := []) (lenOf pd_21 rfl) rfl (by show 2 * 0 + _ ≤ _; exact Nat.le_of_eq rfl) (hb hby d20_69) (fun _ _ => ⟨rfl, e49, (by decide : 0 + 0 ≤ _), (by decide : 0 + 0 ≤ _)⟩)
      dsimp only [Pt.U, Pt.locs, Pt.cells, Pt.slots] at X50 l50 y50 z50 st50 hQ50
      subst l50 y50 z50
      have X50 : Stand p l e ({ frames := 2, cells := 0, slots := 0, locals := 31 } : Room) s m #[(.ref r0), (.ref r1)] below meth c T50 _ 0 0 := X50
      obtain ⟨rfl, N50q, K50q, P50_0⟩ := hQ50
      have N50 := Fr.app N40 N50q
      have K50 : Keep h0 T50.heap [wa, va] := K40.trans K50q (allS (Or.inl (List.mem_of_getElem? (i := 1) rfl)) all0)
      have O50 : Old Z n0 T50.heap := O40.keep K50q (allS g_va all0)
      refine OFin.st st50 ?_
      show OFin p e below _ _ T50 (mkF m 72 #[.val (.ref r0), .val (.ref r1), .val (.int (2 : Int32))] [])
      refine OFin.st (fun t k => XS.iinc X50.here hx rfl (hb hby d20_72) rfl (l' := #[.val (.ref r0), .val (.ref r1), .val (.int (3 : Int32))]) rfl k) ?_
      show OFin p e below _ _ T50 (mkF m 75 #[.val (.ref r0), .val (.ref r1), .val (.int (3 : Int32))] [])
      refine OFin.st (fun t k => XS.goto X50.here hx rfl (pc0 := 75) (pc' := 2) rfl (hb hby d20_75) (by decide) (by decide) k) ?_
      show OFin p e below _ _ T50 (mkF m 2 #[.val (.ref r0), .val (.ref r1), .val (.int (3 : Int32))] [])
      refine OFin.st (fun t k => XS.iloadN X50.here hx rfl (hb hby d20_2) rfl k) ?_
      show OFin p e below _ _ T50 (mkF m 3 #[.val (.ref r0), .val (.ref r1), .val (.int (3 : Int32))] [(.int (3 : Int32))])
      refine OFin.st (fun t k => XS.aloadN X50.here hx rfl (hb hby d20_3) rfl rfl k) ?_
      show OFin p e below _ _ T50 (mkF m 4 #[.val (.ref r0), .val (.ref r1), .val (.int (3 : Int32))] [(.ref r0), (.int (3 : Int32))])
      obtain ⟨T51, X51, e51, st51⟩ := getF X50 hx hZ hown (host := "") (Or.inl (hw _ (List.mem_of_getElem? (i := 108) rfl))) Via.refl rfl (c41.keep K50q (ninS (Ne.symm N_va_r0) nin0)) (g := (mkF m 4 #[.val (.ref r0), .val (.ref r1), .val (.int (3 : Int32))] [(.ref r0), (.int (3 : Int32))])) rfl rfl (hb hby d20_4)
      refine OFin.st st51 ?_
      show OFin p e below _ _ T51 (mkF m 7 #[.val (.ref r0), .val (.ref r1), .val (.int (3 : Int32))] [(.ref oa), (.int (3 : Int32))])
      have c52 := (((Ao28.keep K35q (ninS N_oa_va nin0)).other W40 N_oa_wa).keep K50q (ninS N_oa_va nin0))
      refine own_alen X51 hx hZ e51 c52 (z := (3 : Int32)) (by simp only [List.length_cons, List.length_nil]; decide) (hb hby d20_7) (pc' := 8) rfl ?_
      show OFin p e below _ _ T51 (mkF m 8 #[.val (.ref r0), .val (.ref r1), .val (.int (3 : Int32))] [(.int (3 : Int32)), (.int (3 : Int32))])
      refine OFin.st (fun t k => XS.icmpYes X51.here hx rfl (pc0 := 8) (pc' := 78) rfl (hb hby d20_8) rfl (flt (by decide : ¬ ((3 : Int32) < (3 : Int32)))).2.1 (by decide) (by decide) k) ?_
      show OFin p e below _ _ T51 (mkF m 78 #[.val (.ref r0), .val (.ref r1), .val (.int (3 : Int32))] [])
      have c53 := (((F_words_r0.keep K35q (ninS (Ne.symm N_va_r0) nin0)).other W40 (Or.inl (Ne.symm N_wa_r0))).keep K50q (ninS (Ne.symm N_va_r0) nin0))
      exact own_retV X51 hx Bd.returns Bd.notSynchronized (hb hby d20_78) (by show Qrm20 Z r0 r1 wd oa wa va ko kw kv (1 : Int32) wn x0 x1 x2 kc h0 n0 _ T51.heap _; rw [e51]; exact ⟨qv, rfl, N50, K50, (((E_r0.keep K35q).wr W40).keep K50q), (c48.keep K50q (ninS (Ne.symm N_va_r0) nin0)), (c41.keep K50q (ninS (Ne.symm N_va_r0) nin0)), c53, (c44.keep K50q (ninS (Ne.symm N_va_r0) nin0)), (by rw [wds, if_neg (by decide), if_pos rfl]; exact (Vw40.keep K50q (ninS N_wa_va nin0))), P50_0, (by rw [offs, if_neg (by decide), if_pos rfl]; exact c52)⟩) (own_endN (by decide) (by decide))
    by_cases hc31 : x1 = (0 : Int64)
    · refine OFin.st (fun t k => XS.ifYes X38.here hx rfl (pc0 := 31) (pc' := 40) rfl (hb hby d20_31) rfl ((if0 _ _).trans (teq ((lw_eq x1 (0 : Int64)).mpr hc31)).1) (by decide) (by decide) k) ?_
      show OFin p e below _ _ T38 (mkF m 40 #[.val (.ref r0), .val (.ref r1), .val (.int (1 : Int32))] [(.int (1 : Int32)), (.ref wa)])
      refine OFin.st (fun t k => XS.lconst X38.here hx rfl (hb hby d20_40) k) ?_
      show OFin p e below _ _ T38 (mkF m 41 #[.val (.ref r0), .val (.ref r1), .val (.int (1 : Int32))] [(.long (0 : Int64)), (.int (1 : Int32)), (.ref wa)])
      exact join39 (0 : Int64)  _ _ X38 e38 N35
    · refine OFin.st (fun t k => XS.ifNo X38.here hx rfl (hb hby d20_31) rfl ((if0 _ _).trans (feq (fun q => hc31 ((lw_eq x1 (0 : Int64)).mp q))).1) k) ?_
      show OFin p e below _ _ T38 (mkF m 34 #[.val (.ref r0), .val (.ref r1), .val (.int (1 : Int32))] [(.int (1 : Int32)), (.ref wa)])
      refine OFin.st (X38.ldc2Long hx hown (mvT hZ (hw _ (List.mem_of_getElem? (i := 184) rfl))) (g := (mkF m 34 #[.val (.ref r0), .val (.ref r1), .val (.int (1 : Int32))] [(.int (1 : Int32)), (.ref wa)])) rfl (hb hby d20_34)) ?_
      show OFin p e below _ _ T38 (mkF m 37 #[.val (.ref r0), .val (.ref r1), .val (.int (1 : Int32))] [(.long (-1 : Int64)), (.int (1 : Int32)), (.ref wa)])
      refine OFin.st (fun t k => XS.goto X38.here hx rfl (pc0 := 37) (pc' := 41) rfl (hb hby d20_37) (by decide) (by decide) k) ?_
      show OFin p e below _ _ T38 (mkF m 41 #[.val (.ref r0), .val (.ref r1), .val (.int (1 : Int32))] [(.long (-1 : Int64)), (.int (1 : Int32)), (.ref wa)])
      exact join39 (-1 : Int64)  _ _ X38 e38 N35
  · have Ao54 : Oar Z h0 oa ko .int [(.int (0 : Int32)), (.int ((0 : Int32) + wd)), (.int (-1 : Int32))] := by have q := A_oa; rw [offs, if_neg (by decide), if_neg (by decide)] at q; exact q
    show OFin p e below _ _ s₁ (mkF m 2 #[.val (.ref r0), .val (.ref r1), .val (.int (0 : Int32))] [])
    refine OFin.st (fun t k => XS.iloadN X0.here hx rfl (hb hby d20_2) rfl k) ?_
    show OFin p e below _ _ s₁ (mkF m 3 #[.val (.ref r0), .val (.ref r1), .val (.int (0 : Int32))] [(.int (0 : Int32))])
    refine OFin.st (fun t k => XS.aloadN X0.here hx rfl (hb hby d20_3) rfl rfl k) ?_
    show OFin p e below _ _ s₁ (mkF m 4 #[.val (.ref r0), .val (.ref r1), .val (.int (0 : Int32))] [(.ref r0), (.int (0 : Int32))])
    obtain ⟨T55, X55, e55, st55⟩ := getF X0 hx hZ hown (host := "") (Or.inl (hw _ (List.mem_of_getElem? (i := 108) rfl))) Via.refl e0 F_offsets_r0 (g := (mkF m 4 #[.val (.ref r0), .val (.ref r1), .val (.int (0 : Int32))] [(.ref r0), (.int (0 : Int32))])) rfl rfl (hb hby d20_4)
    refine OFin.st st55 ?_
    show OFin p e below _ _ T55 (mkF m 7 #[.val (.ref r0), .val (.ref r1), .val (.int (0 : Int32))] [(.ref oa), (.int (0 : Int32))])
    refine own_alen X55 hx hZ e55 Ao54 (z := (3 : Int32)) (by simp only [List.length_cons, List.length_nil]; decide) (hb hby d20_7) (pc' := 8) rfl ?_
    show OFin p e below _ _ T55 (mkF m 8 #[.val (.ref r0), .val (.ref r1), .val (.int (0 : Int32))] [(.int (3 : Int32)), (.int (0 : Int32))])
    refine OFin.st (fun t k => XS.icmpNo X55.here hx rfl (hb hby d20_8) rfl (tlt (by decide : (0 : Int32) < (3 : Int32))).2.1 k) ?_
    show OFin p e below _ _ T55 (mkF m 11 #[.val (.ref r0), .val (.ref r1), .val (.int (0 : Int32))] [])
    refine OFin.st (fun t k => XS.aloadN X55.here hx rfl (hb hby d20_11) rfl rfl k) ?_
    show OFin p e below _ _ T55 (mkF m 12 #[.val (.ref r0), .val (.ref r1), .val (.int (0 : Int32))] [(.ref r0)])
    obtain ⟨T56, X56, e56, st56⟩ := getF X55 hx hZ hown (host := "") (Or.inl (hw _ (List.mem_of_getElem? (i := 108) rfl))) Via.refl e55 F_offsets_r0 (g := (mkF m 12 #[.val (.ref r0), .val (.ref r1), .val (.int (0 : Int32))] [(.ref r0)])) rfl rfl (hb hby d20_12)
    refine OFin.st st56 ?_
    show OFin p e below _ _ T56 (mkF m 15 #[.val (.ref r0), .val (.ref r1), .val (.int (0 : Int32))] [(.ref oa)])
    refine OFin.st (fun t k => XS.iloadN X56.here hx rfl (hb hby d20_15) rfl k) ?_
    show OFin p e below _ _ T56 (mkF m 16 #[.val (.ref r0), .val (.ref r1), .val (.int (0 : Int32))] [(.int (0 : Int32)), (.ref oa)])
    refine own_iaload X56 hx hZ e56 Ao54 (i := 0) (j := (0 : Int32)) (by decide) (v := (.int (0 : Int32))) rfl (hb hby d20_16) (pc' := 17) rfl ?_
    show OFin p e below _ _ T56 (mkF m 17 #[.val (.ref r0), .val (.ref r1), .val (.int (0 : Int32))] [(.int (0 : Int32))])
    refine OFin.st (fun t k => XS.iconst X56.here hx rfl (hb hby d20_17) k) ?_
    show OFin p e below _ _ T56 (mkF m 18 #[.val (.ref r0), .val (.ref r1), .val (.int (0 : Int32))] [(.int (-1 : Int32)), (.int (0 : Int32))])
    refine OFin.st (fun t k => XS.icmpYes X56.here hx rfl (pc0 := 18) (pc' := 45) rfl (hb hby d20_18) rfl (feq (by decide : ¬ ((0 : Int32) = (-1 : Int32)))).2 (by decide) (by decide) k) ?_
    show OFin p e below _ _ T56 (mkF m 45 #[.val (.ref r0), .val (.ref r1), .val (.int (0 : Int32))] [])
    refine OFin.st (fun t k => XS.aloadN X56.here hx rfl (hb hby d20_45) rfl rfl k) ?_
    show OFin p e below _ _ T56 (mkF m 46 #[.val (.ref r0), .val (.ref r1), .val (.int (0 : Int32))] [(.ref r0)])
    obtain ⟨T57, X57, e57, st57⟩ := getF X56 hx hZ hown (host := "") (Or.inl (hw _ (List.mem_of_getElem? (i := 176) rfl))) Via.refl e56 F_values_r0 (g := (mkF m 46 #[.val (.ref r0), .val (.ref r1), .val (.int (0 : Int32))] [(.ref r0)])) rfl rfl (hb hby d20_46)
    refine OFin.st st57 ?_
    show OFin p e below _ _ T57 (mkF m 49 #[.val (.ref r0), .val (.ref r1), .val (.int (0 : Int32))] [(.ref va)])
    refine OFin.st (fun t k => XS.aloadN X57.here hx rfl (hb hby d20_49) rfl rfl k) ?_
    show OFin p e below _ _ T57 (mkF m 50 #[.val (.ref r0), .val (.ref r1), .val (.int (0 : Int32))] [(.ref r0), (.ref va)])
    obtain ⟨T58, X58, e58, st58⟩ := getF X57 hx hZ hown (host := "") (Or.inl (hw _ (List.mem_of_getElem? (i := 108) rfl))) Via.refl e57 F_offsets_r0 (g := (mkF m 50 #[.val (.ref r0), .val (.ref r1), .val (.int (0 : Int32))] [(.ref r0), (.ref va)])) rfl rfl (hb hby d20_50)
    refine OFin.st st58 ?_
    show OFin p e below _ _ T58 (mkF m 53 #[.val (.ref r0), .val (.ref r1), .val (.int (0 : Int32))] [(.ref oa), (.ref va)])
    refine OFin.st (fun t k => XS.iloadN X58.here hx rfl (hb hby d20_53) rfl k) ?_
    show OFin p e below _ _ T58 (mkF m 54 #[.val (.ref r0), .val (.ref r1), .val (.int (0 : Int32))] [(.int (0 : Int32)), (.ref oa), (.ref va)])
    refine own_iaload X58 hx hZ e58 Ao54 (i := 0) (j := (0 : Int32)) (by decide) (v := (.int (0 : Int32))) rfl (hb hby d20_54) (pc' := 55) rfl ?_
    show OFin p e below _ _ T58 (mkF m 55 #[.val (.ref r0), .val (.ref r1), .val (.int (0 : Int32))] [(.int (0 : Int32)), (.ref va)])
    refine OFin.st (fun t k => XS.aloadN X58.here hx rfl (hb hby d20_55) rfl rfl k) ?_
    show OFin p e below _ _ T58 (mkF m 56 #[.val (.ref r0), .val (.ref r1), .val (.int (0 : Int32))] [(.ref r0), (.int (0 : Int32)), (.ref va)])
    obtain ⟨T59, X59, e59, st59⟩ := getF X58 hx hZ hown (host := "") (Or.inl (hw _ (List.mem_of_getElem? (i := 108) rfl))) Via.refl e58 F_offsets_r0 (g := (mkF m 56 #[.val (.ref r0), .val (.ref r1), .val (.int (0 : Int32))] [(.ref r0), (.int (0 : Int32)), (.ref va)])) rfl rfl (hb hby d20_56)
    refine OFin.st st59 ?_
    show OFin p e below _ _ T59 (mkF m 59 #[.val (.ref r0), .val (.ref r1), .val (.int (0 : Int32))] [(.ref oa), (.int (0 : Int32)), (.ref va)])
    refine OFin.st (fun t k => XS.iloadN X59.here hx rfl (hb hby d20_59) rfl k) ?_
    show OFin p e below _ _ T59 (mkF m 60 #[.val (.ref r0), .val (.ref r1), .val (.int (0 : Int32))] [(.int (0 : Int32)), (.ref oa), (.int (0 : Int32)), (.ref va)])
    refine own_iaload X59 hx hZ e59 Ao54 (i := 0) (j := (0 : Int32)) (by decide) (v := (.int (0 : Int32))) rfl (hb hby d20_60) (pc' := 61) rfl ?_
    show OFin p e below _ _ T59 (mkF m 61 #[.val (.ref r0), .val (.ref r1), .val (.int (0 : Int32))] [(.int (0 : Int32)), (.int (0 : Int32)), (.ref va)])
    refine OFin.st (fun t k => XS.aloadN X59.here hx rfl (hb hby d20_61) rfl rfl k) ?_
    show OFin p e below _ _ T59 (mkF m 62 #[.val (.ref r0), .val (.ref r1), .val (.int (0 : Int32))] [(.ref r0), (.int (0 : Int32)), (.int (0 : Int32)), (.ref va)])
    obtain ⟨T60, X60, e60, st60⟩ := getF X59 hx hZ hown (host := "") (Or.inl (hw _ (List.mem_of_getElem? (i := 103) rfl))) Via.refl e59 F_width_r0 (g := (mkF m 62 #[.val (.ref r0), .val (.ref r1), .val (.int (0 : Int32))] [(.ref r0), (.int (0 : Int32)), (.int (0 : Int32)), (.ref va)])) rfl rfl (hb hby d20_62)
    refine OFin.st st60 ?_
    show OFin p e below _ _ T60 (mkF m 65 #[.val (.ref r0), .val (.ref r1), .val (.int (0 : Int32))] [(.int wd), (.int (0 : Int32)), (.int (0 : Int32)), (.ref va)])
    refine OFin.st (fun t k => XS.iadd X60.here hx rfl (hb hby d20_65) rfl k) ?_
    show OFin p e below _ _ T60 (mkF m 66 #[.val (.ref r0), .val (.ref r1), .val (.int (0 : Int32))] [(.int ((0 : Int32) + wd)), (.int (0 : Int32)), (.ref va)])
    refine OFin.st (fun t k => XS.aloadN X60.here hx rfl (hb hby d20_66) rfl rfl k) ?_
    show OFin p e below _ _ T60 (mkF m 67 #[.val (.ref r0), .val (.ref r1), .val (.int (0 : Int32))] [(.ref r1), (.int ((0 : Int32) + wd)), (.int (0 : Int32)), (.ref va)])
    refine OFin.st (fun t k => XS.iloadN X60.here hx rfl (hb hby d20_67) rfl k) ?_
    show OFin p e below _ _ T60 (mkF m 68 #[.val (.ref r0), .val (.ref r1), .val (.int (0 : Int32))] [(.int (0 : Int32)), (.ref r1), (.int ((0 : Int32) + wd)), (.int (0 : Int32)), (.ref va)])
    refine own_laload X60 hx hZ e60 A_r1 (i := 0) (j := (0 : Int32)) (by decide) (v := (.long x0)) rfl (hb hby d20_68) (pc' := 69) rfl ?_
    show OFin p e below _ _ T60 (mkF m 69 #[.val (.ref r0), .val (.ref r1), .val (.int (0 : Int32))] [(.long x0), (.int ((0 : Int32) + wd)), (.int (0 : Int32)), (.ref va)])
    obtain ⟨_, _, ⟨T61, L61, k61, n61⟩, -, X61, ⟨Lc61, hQ61, l61, y61, z61⟩, st61⟩ := Jvm.LawKit.callS X60 hx (y := (⟨"java/util/Arrays", "fill", "([JIIJ)V"⟩ : MethodName)) hown (mvT hZ (hw _ (List.mem_of_getElem? (i := 185) rfl))) (mvT hZ (hw _ (List.mem_of_getElem? (i := 186) rfl))) (mvT hZ (hw _ (List.mem_of_getElem? (i := 187) rfl))) (mvT hZ (hw _ (List.mem_of_getElem? (i := 188) rfl))) (by decide) (backOf (W := 0) (rm21 l Z a0 hw [] va (0 : Int32) ((0 : Int32) + wd) x0 kv (List.replicate (2 * wn) (.long (0 : Int64))) 0 wn (((0 : Int32) + wd) + wd) h0 n0 O0 A_va g_va (by rw [List.length_replicate]; exact own_w2 wd wn hwd) (by decide) (own_w1 wd wn hwd) (by omega) (by rw [List.length_replicate]; omega) (by omega)) hZ (hw _ (List.mem_of_getElem? (i := 188) rfl)) (hw _ (List.mem_of_getElem? (i := 187) rfl)) (by decide) (by decide)) (g := (mkF m 69 #[.val (.ref r0), .val (.ref r1), .val (.int (0 : Int32))] [(.long x0), (.int ((0 : Int32) + wd)), (.int (0 : Int32)), (.ref va)])) rfl (by rw [hml]; rfl) (argsL := [(.ref va), (.int (0 : Int32)), (.int ((0 : Int32) + wd)), (.long x0)]) (rest := []) (lenOf pd_21 rfl) rfl (by show 2 * 0 + _ ≤ _; exact Nat.le_of_eq rfl) (hb hby d20_69) (fun _ _ => ⟨rfl, e60, (by decide : 0 + 0 ≤ _), (by decide : 0 + 0 ≤ _)⟩)
    dsimp only [Pt.U, Pt.locs, Pt.cells, Pt.slots] at X61 l61 y61 z61 st61 hQ61
    subst l61 y61 z61
    have X61 : Stand p l e ({ frames := 2, cells := 0, slots := 0, locals := 31 } : Room) s m #[(.ref r0), (.ref r1)] below meth c T61 _ 0 0 := X61
    obtain ⟨rfl, N61q, K61q, P61_0⟩ := hQ61
    have N61 := Fr.app N0 N61q
    have K61 : Keep h0 T61.heap [wa, va] := (Keep.refl h0 [wa, va]).trans K61q (allS (Or.inl (List.mem_of_getElem? (i := 1) rfl)) all0)
    have O61 : Old Z n0 T61.heap := O0.keep K61q (allS g_va all0)
    refine OFin.st st61 ?_
    show OFin p e below _ _ T61 (mkF m 72 #[.val (.ref r0), .val (.ref r1), .val (.int (0 : Int32))] [])
    refine OFin.st (fun t k => XS.iinc X61.here hx rfl (hb hby d20_72) rfl (l' := #[.val (.ref r0), .val (.ref r1), .val (.int (1 : Int32))]) rfl k) ?_
    show OFin p e below _ _ T61 (mkF m 75 #[.val (.ref r0), .val (.ref r1), .val (.int (1 : Int32))] [])
    refine OFin.st (fun t k => XS.goto X61.here hx rfl (pc0 := 75) (pc' := 2) rfl (hb hby d20_75) (by decide) (by decide) k) ?_
    show OFin p e below _ _ T61 (mkF m 2 #[.val (.ref r0), .val (.ref r1), .val (.int (1 : Int32))] [])
    refine OFin.st (fun t k => XS.iloadN X61.here hx rfl (hb hby d20_2) rfl k) ?_
    show OFin p e below _ _ T61 (mkF m 3 #[.val (.ref r0), .val (.ref r1), .val (.int (1 : Int32))] [(.int (1 : Int32))])
    refine OFin.st (fun t k => XS.aloadN X61.here hx rfl (hb hby d20_3) rfl rfl k) ?_
    show OFin p e below _ _ T61 (mkF m 4 #[.val (.ref r0), .val (.ref r1), .val (.int (1 : Int32))] [(.ref r0), (.int (1 : Int32))])
    obtain ⟨T62, X62, e62, st62⟩ := getF X61 hx hZ hown (host := "") (Or.inl (hw _ (List.mem_of_getElem? (i := 108) rfl))) Via.refl rfl (F_offsets_r0.keep K61q (ninS (Ne.symm N_va_r0) nin0)) (g := (mkF m 4 #[.val (.ref r0), .val (.ref r1), .val (.int (1 : Int32))] [(.ref r0), (.int (1 : Int32))])) rfl rfl (hb hby d20_4)
    refine OFin.st st62 ?_
    show OFin p e below _ _ T62 (mkF m 7 #[.val (.ref r0), .val (.ref r1), .val (.int (1 : Int32))] [(.ref oa), (.int (1 : Int32))])
    refine own_alen X62 hx hZ e62 (Ao54.keep K61q (ninS N_oa_va nin0)) (z := (3 : Int32)) (by simp only [List.length_cons, List.length_nil]; decide) (hb hby d20_7) (pc' := 8) rfl ?_
    show OFin p e below _ _ T62 (mkF m 8 #[.val (.ref r0), .val (.ref r1), .val (.int (1 : Int32))] [(.int (3 : Int32)), (.int (1 : Int32))])
    refine OFin.st (fun t k => XS.icmpNo X62.here hx rfl (hb hby d20_8) rfl (tlt (by decide : (1 : Int32) < (3 : Int32))).2.1 k) ?_
    show OFin p e below _ _ T62 (mkF m 11 #[.val (.ref r0), .val (.ref r1), .val (.int (1 : Int32))] [])
    refine OFin.st (fun t k => XS.aloadN X62.here hx rfl (hb hby d20_11) rfl rfl k) ?_
    show OFin p e below _ _ T62 (mkF m 12 #[.val (.ref r0), .val (.ref r1), .val (.int (1 : Int32))] [(.ref r0)])
    obtain ⟨T63, X63, e63, st63⟩ := getF X62 hx hZ hown (host := "") (Or.inl (hw _ (List.mem_of_getElem? (i := 108) rfl))) Via.refl e62 (F_offsets_r0.keep K61q (ninS (Ne.symm N_va_r0) nin0)) (g := (mkF m 12 #[.val (.ref r0), .val (.ref r1), .val (.int (1 : Int32))] [(.ref r0)])) rfl rfl (hb hby d20_12)
    refine OFin.st st63 ?_
    show OFin p e below _ _ T63 (mkF m 15 #[.val (.ref r0), .val (.ref r1), .val (.int (1 : Int32))] [(.ref oa)])
    refine OFin.st (fun t k => XS.iloadN X63.here hx rfl (hb hby d20_15) rfl k) ?_
    show OFin p e below _ _ T63 (mkF m 16 #[.val (.ref r0), .val (.ref r1), .val (.int (1 : Int32))] [(.int (1 : Int32)), (.ref oa)])
    refine own_iaload X63 hx hZ e63 (Ao54.keep K61q (ninS N_oa_va nin0)) (i := 1) (j := (1 : Int32)) (by decide) (v := (.int ((0 : Int32) + wd))) rfl (hb hby d20_16) (pc' := 17) rfl ?_
    show OFin p e below _ _ T63 (mkF m 17 #[.val (.ref r0), .val (.ref r1), .val (.int (1 : Int32))] [(.int ((0 : Int32) + wd))])
    refine OFin.st (fun t k => XS.iconst X63.here hx rfl (hb hby d20_17) k) ?_
    show OFin p e below _ _ T63 (mkF m 18 #[.val (.ref r0), .val (.ref r1), .val (.int (1 : Int32))] [(.int (-1 : Int32)), (.int ((0 : Int32) + wd))])
    refine OFin.st (fun t k => XS.icmpYes X63.here hx rfl (pc0 := 18) (pc' := 45) rfl (hb hby d20_18) rfl (feq (own_wm wd wn hwd)).2 (by decide) (by decide) k) ?_
    show OFin p e below _ _ T63 (mkF m 45 #[.val (.ref r0), .val (.ref r1), .val (.int (1 : Int32))] [])
    refine OFin.st (fun t k => XS.aloadN X63.here hx rfl (hb hby d20_45) rfl rfl k) ?_
    show OFin p e below _ _ T63 (mkF m 46 #[.val (.ref r0), .val (.ref r1), .val (.int (1 : Int32))] [(.ref r0)])
    obtain ⟨T64, X64, e64, st64⟩ := getF X63 hx hZ hown (host := "") (Or.inl (hw _ (List.mem_of_getElem? (i := 176) rfl))) Via.refl e63 (F_values_r0.keep K61q (ninS (Ne.symm N_va_r0) nin0)) (g := (mkF m 46 #[.val (.ref r0), .val (.ref r1), .val (.int (1 : Int32))] [(.ref r0)])) rfl rfl (hb hby d20_46)
    refine OFin.st st64 ?_
    show OFin p e below _ _ T64 (mkF m 49 #[.val (.ref r0), .val (.ref r1), .val (.int (1 : Int32))] [(.ref va)])
    refine OFin.st (fun t k => XS.aloadN X64.here hx rfl (hb hby d20_49) rfl rfl k) ?_
    show OFin p e below _ _ T64 (mkF m 50 #[.val (.ref r0), .val (.ref r1), .val (.int (1 : Int32))] [(.ref r0), (.ref va)])
    obtain ⟨T65, X65, e65, st65⟩ := getF X64 hx hZ hown (host := "") (Or.inl (hw _ (List.mem_of_getElem? (i := 108) rfl))) Via.refl e64 (F_offsets_r0.keep K61q (ninS (Ne.symm N_va_r0) nin0)) (g := (mkF m 50 #[.val (.ref r0), .val (.ref r1), .val (.int (1 : Int32))] [(.ref r0), (.ref va)])) rfl rfl (hb hby d20_50)
    refine OFin.st st65 ?_
    show OFin p e below _ _ T65 (mkF m 53 #[.val (.ref r0), .val (.ref r1), .val (.int (1 : Int32))] [(.ref oa), (.ref va)])
    refine OFin.st (fun t k => XS.iloadN X65.here hx rfl (hb hby d20_53) rfl k) ?_
    show OFin p e below _ _ T65 (mkF m 54 #[.val (.ref r0), .val (.ref r1), .val (.int (1 : Int32))] [(.int (1 : Int32)), (.ref oa), (.ref va)])
    refine own_iaload X65 hx hZ e65 (Ao54.keep K61q (ninS N_oa_va nin0)) (i := 1) (j := (1 : Int32)) (by decide) (v := (.int ((0 : Int32) + wd))) rfl (hb hby d20_54) (pc' := 55) rfl ?_
    show OFin p e below _ _ T65 (mkF m 55 #[.val (.ref r0), .val (.ref r1), .val (.int (1 : Int32))] [(.int ((0 : Int32) + wd)), (.ref va)])
    refine OFin.st (fun t k => XS.aloadN X65.here hx rfl (hb hby d20_55) rfl rfl k) ?_
    show OFin p e below _ _ T65 (mkF m 56 #[.val (.ref r0), .val (.ref r1), .val (.int (1 : Int32))] [(.ref r0), (.int ((0 : Int32) + wd)), (.ref va)])
    obtain ⟨T66, X66, e66, st66⟩ := getF X65 hx hZ hown (host := "") (Or.inl (hw _ (List.mem_of_getElem? (i := 108) rfl))) Via.refl e65 (F_offsets_r0.keep K61q (ninS (Ne.symm N_va_r0) nin0)) (g := (mkF m 56 #[.val (.ref r0), .val (.ref r1), .val (.int (1 : Int32))] [(.ref r0), (.int ((0 : Int32) + wd)), (.ref va)])) rfl rfl (hb hby d20_56)
    refine OFin.st st66 ?_
    show OFin p e below _ _ T66 (mkF m 59 #[.val (.ref r0), .val (.ref r1), .val (.int (1 : Int32))] [(.ref oa), (.int ((0 : Int32) + wd)), (.ref va)])
    refine OFin.st (fun t k => XS.iloadN X66.here hx rfl (hb hby d20_59) rfl k) ?_
    show OFin p e below _ _ T66 (mkF m 60 #[.val (.ref r0), .val (.ref r1), .val (.int (1 : Int32))] [(.int (1 : Int32)), (.ref oa), (.int ((0 : Int32) + wd)), (.ref va)])
    refine own_iaload X66 hx hZ e66 (Ao54.keep K61q (ninS N_oa_va nin0)) (i := 1) (j := (1 : Int32)) (by decide) (v := (.int ((0 : Int32) + wd))) rfl (hb hby d20_60) (pc' := 61) rfl ?_
    show OFin p e below _ _ T66 (mkF m 61 #[.val (.ref r0), .val (.ref r1), .val (.int (1 : Int32))] [(.int ((0 : Int32) + wd)), (.int ((0 : Int32) + wd)), (.ref va)])
    refine OFin.st (fun t k => XS.aloadN X66.here hx rfl (hb hby d20_61) rfl rfl k) ?_
    show OFin p e below _ _ T66 (mkF m 62 #[.val (.ref r0), .val (.ref r1), .val (.int (1 : Int32))] [(.ref r0), (.int ((0 : Int32) + wd)), (.int ((0 : Int32) + wd)), (.ref va)])
    obtain ⟨T67, X67, e67, st67⟩ := getF X66 hx hZ hown (host := "") (Or.inl (hw _ (List.mem_of_getElem? (i := 103) rfl))) Via.refl e66 (F_width_r0.keep K61q (ninS (Ne.symm N_va_r0) nin0)) (g := (mkF m 62 #[.val (.ref r0), .val (.ref r1), .val (.int (1 : Int32))] [(.ref r0), (.int ((0 : Int32) + wd)), (.int ((0 : Int32) + wd)), (.ref va)])) rfl rfl (hb hby d20_62)
    refine OFin.st st67 ?_
    show OFin p e below _ _ T67 (mkF m 65 #[.val (.ref r0), .val (.ref r1), .val (.int (1 : Int32))] [(.int wd), (.int ((0 : Int32) + wd)), (.int ((0 : Int32) + wd)), (.ref va)])
    refine OFin.st (fun t k => XS.iadd X67.here hx rfl (hb hby d20_65) rfl k) ?_
    show OFin p e below _ _ T67 (mkF m 66 #[.val (.ref r0), .val (.ref r1), .val (.int (1 : Int32))] [(.int (((0 : Int32) + wd) + wd)), (.int ((0 : Int32) + wd)), (.ref va)])
    refine OFin.st (fun t k => XS.aloadN X67.here hx rfl (hb hby d20_66) rfl rfl k) ?_
    show OFin p e below _ _ T67 (mkF m 67 #[.val (.ref r0), .val (.ref r1), .val (.int (1 : Int32))] [(.ref r1), (.int (((0 : Int32) + wd) + wd)), (.int ((0 : Int32) + wd)), (.ref va)])
    refine OFin.st (fun t k => XS.iloadN X67.here hx rfl (hb hby d20_67) rfl k) ?_
    show OFin p e below _ _ T67 (mkF m 68 #[.val (.ref r0), .val (.ref r1), .val (.int (1 : Int32))] [(.int (1 : Int32)), (.ref r1), (.int (((0 : Int32) + wd) + wd)), (.int ((0 : Int32) + wd)), (.ref va)])
    refine own_laload X67 hx hZ e67 (A_r1.keep K61q (ninS N_r1_va nin0)) (i := 1) (j := (1 : Int32)) (by decide) (v := (.long x1)) rfl (hb hby d20_68) (pc' := 69) rfl ?_
    show OFin p e below _ _ T67 (mkF m 69 #[.val (.ref r0), .val (.ref r1), .val (.int (1 : Int32))] [(.long x1), (.int (((0 : Int32) + wd) + wd)), (.int ((0 : Int32) + wd)), (.ref va)])
    obtain ⟨_, _, ⟨T68, L68, k68, n68⟩, -, X68, ⟨Lc68, hQ68, l68, y68, z68⟩, st68⟩ := Jvm.LawKit.callS X67 hx (y := (⟨"java/util/Arrays", "fill", "([JIIJ)V"⟩ : MethodName)) hown (mvT hZ (hw _ (List.mem_of_getElem? (i := 185) rfl))) (mvT hZ (hw _ (List.mem_of_getElem? (i := 186) rfl))) (mvT hZ (hw _ (List.mem_of_getElem? (i := 187) rfl))) (mvT hZ (hw _ (List.mem_of_getElem? (i := 188) rfl))) (by decide) (backOf (W := 0) (rm21 l Z a0 hw [] va ((0 : Int32) + wd) (((0 : Int32) + wd) + wd) x1 kv (fillN (List.replicate (2 * wn) (.long (0 : Int64))) 0 x0 (wn - 0)) wn (2 * wn) (((0 : Int32) + wd) + wd) T61.heap n0 O61 P61_0 g_va (by rw [fillN_len]; rw [List.length_replicate]; exact own_w2 wd wn hwd) (own_w1 wd wn hwd) (own_w2 wd wn hwd) (by omega) (by rw [fillN_len]; rw [List.length_replicate]; omega) (by omega)) hZ (hw _ (List.mem_of_getElem? (i := 188) rfl)) (hw _ (List.mem_of_getElem? (i := 187) rfl)) (by decide) (by decide)) (g := (mkF m 69 #[.val (.ref r0), .val (.ref r1), .val (.int (1 : Int32))] [(.long x1), (.int (((0 : Int32) + wd) + wd)), (.int ((0 : Int32) + wd)), (.ref va)])) rfl (by rw [hml]; rfl) (argsL := [(.ref va), (.int ((0 : Int32) + wd)), (.int (((0 : Int32) + wd) + wd)), (.long x1)]) (rest := []) (lenOf pd_21 rfl) rfl (by show 2 * 0 + _ ≤ _; exact Nat.le_of_eq rfl) (hb hby d20_69) (fun _ _ => ⟨rfl, e67, (by decide : 0 + 0 ≤ _), (by decide : 0 + 0 ≤ _)⟩)
    dsimp only [Pt.U, Pt.locs, Pt.cells, Pt.slots] at X68 l68 y68 z68 st68 hQ68
    subst l68 y68 z68
    have X68 : Stand p l e ({ frames := 2, cells := 0, slots := 0, locals := 31 } : Room) s m #[(.ref r0), (.ref r1)] below meth c T68 _ 0 0 := X68
    obtain ⟨rfl, N68q, K68q, P68_0⟩ := hQ68
    have N68 := Fr.app N61 N68q
    have K68 : Keep h0 T68.heap [wa, va] := K61.trans K68q (allS (Or.inl (List.mem_of_getElem? (i := 1) rfl)) all0)
    have O68 : Old Z n0 T68.heap := O61.keep K68q (allS g_va all0)
    refine OFin.st st68 ?_
    show OFin p e below _ _ T68 (mkF m 72 #[.val (.ref r0), .val (.ref r1), .val (.int (1 : Int32))] [])
    refine OFin.st (fun t k => XS.iinc X68.here hx rfl (hb hby d20_72) rfl (l' := #[.val (.ref r0), .val (.ref r1), .val (.int (2 : Int32))]) rfl k) ?_
    show OFin p e below _ _ T68 (mkF m 75 #[.val (.ref r0), .val (.ref r1), .val (.int (2 : Int32))] [])
    refine OFin.st (fun t k => XS.goto X68.here hx rfl (pc0 := 75) (pc' := 2) rfl (hb hby d20_75) (by decide) (by decide) k) ?_
    show OFin p e below _ _ T68 (mkF m 2 #[.val (.ref r0), .val (.ref r1), .val (.int (2 : Int32))] [])
    refine OFin.st (fun t k => XS.iloadN X68.here hx rfl (hb hby d20_2) rfl k) ?_
    show OFin p e below _ _ T68 (mkF m 3 #[.val (.ref r0), .val (.ref r1), .val (.int (2 : Int32))] [(.int (2 : Int32))])
    refine OFin.st (fun t k => XS.aloadN X68.here hx rfl (hb hby d20_3) rfl rfl k) ?_
    show OFin p e below _ _ T68 (mkF m 4 #[.val (.ref r0), .val (.ref r1), .val (.int (2 : Int32))] [(.ref r0), (.int (2 : Int32))])
    have c69 := ((F_offsets_r0.keep K61q (ninS (Ne.symm N_va_r0) nin0)).keep K68q (ninS (Ne.symm N_va_r0) nin0))
    obtain ⟨T70, X70, e70, st70⟩ := getF X68 hx hZ hown (host := "") (Or.inl (hw _ (List.mem_of_getElem? (i := 108) rfl))) Via.refl rfl c69 (g := (mkF m 4 #[.val (.ref r0), .val (.ref r1), .val (.int (2 : Int32))] [(.ref r0), (.int (2 : Int32))])) rfl rfl (hb hby d20_4)
    refine OFin.st st70 ?_
    show OFin p e below _ _ T70 (mkF m 7 #[.val (.ref r0), .val (.ref r1), .val (.int (2 : Int32))] [(.ref oa), (.int (2 : Int32))])
    have c71 := ((Ao54.keep K61q (ninS N_oa_va nin0)).keep K68q (ninS N_oa_va nin0))
    refine own_alen X70 hx hZ e70 c71 (z := (3 : Int32)) (by simp only [List.length_cons, List.length_nil]; decide) (hb hby d20_7) (pc' := 8) rfl ?_
    show OFin p e below _ _ T70 (mkF m 8 #[.val (.ref r0), .val (.ref r1), .val (.int (2 : Int32))] [(.int (3 : Int32)), (.int (2 : Int32))])
    refine OFin.st (fun t k => XS.icmpNo X70.here hx rfl (hb hby d20_8) rfl (tlt (by decide : (2 : Int32) < (3 : Int32))).2.1 k) ?_
    show OFin p e below _ _ T70 (mkF m 11 #[.val (.ref r0), .val (.ref r1), .val (.int (2 : Int32))] [])
    refine OFin.st (fun t k => XS.aloadN X70.here hx rfl (hb hby d20_11) rfl rfl k) ?_
    show OFin p e below _ _ T70 (mkF m 12 #[.val (.ref r0), .val (.ref r1), .val (.int (2 : Int32))] [(.ref r0)])
    obtain ⟨T72, X72, e72, st72⟩ := getF X70 hx hZ hown (host := "") (Or.inl (hw _ (List.mem_of_getElem? (i := 108) rfl))) Via.refl e70 c69 (g := (mkF m 12 #[.val (.ref r0), .val (.ref r1), .val (.int (2 : Int32))] [(.ref r0)])) rfl rfl (hb hby d20_12)
    refine OFin.st st72 ?_
    show OFin p e below _ _ T72 (mkF m 15 #[.val (.ref r0), .val (.ref r1), .val (.int (2 : Int32))] [(.ref oa)])
    refine OFin.st (fun t k => XS.iloadN X72.here hx rfl (hb hby d20_15) rfl k) ?_
    show OFin p e below _ _ T72 (mkF m 16 #[.val (.ref r0), .val (.ref r1), .val (.int (2 : Int32))] [(.int (2 : Int32)), (.ref oa)])
    refine own_iaload X72 hx hZ e72 c71 (i := 2) (j := (2 : Int32)) (by decide) (v := (.int (-1 : Int32))) rfl (hb hby d20_16) (pc' := 17) rfl ?_
    show OFin p e below _ _ T72 (mkF m 17 #[.val (.ref r0), .val (.ref r1), .val (.int (2 : Int32))] [(.int (-1 : Int32))])
    refine OFin.st (fun t k => XS.iconst X72.here hx rfl (hb hby d20_17) k) ?_
    show OFin p e below _ _ T72 (mkF m 18 #[.val (.ref r0), .val (.ref r1), .val (.int (2 : Int32))] [(.int (-1 : Int32)), (.int (-1 : Int32))])
    refine OFin.st (fun t k => XS.icmpNo X72.here hx rfl (hb hby d20_18) rfl (teq (by decide : (-1 : Int32) = (-1 : Int32))).2 k) ?_
    show OFin p e below _ _ T72 (mkF m 21 #[.val (.ref r0), .val (.ref r1), .val (.int (2 : Int32))] [])
    refine OFin.st (fun t k => XS.aloadN X72.here hx rfl (hb hby d20_21) rfl rfl k) ?_
    show OFin p e below _ _ T72 (mkF m 22 #[.val (.ref r0), .val (.ref r1), .val (.int (2 : Int32))] [(.ref r0)])
    have c73 := ((F_words_r0.keep K61q (ninS (Ne.symm N_va_r0) nin0)).keep K68q (ninS (Ne.symm N_va_r0) nin0))
    obtain ⟨T74, X74, e74, st74⟩ := getF X72 hx hZ hown (host := "") (Or.inl (hw _ (List.mem_of_getElem? (i := 174) rfl))) Via.refl e72 c73 (g := (mkF m 22 #[.val (.ref r0), .val (.ref r1), .val (.int (2 : Int32))] [(.ref r0)])) rfl rfl (hb hby d20_22)
    refine OFin.st st74 ?_
    show OFin p e below _ _ T74 (mkF m 25 #[.val (.ref r0), .val (.ref r1), .val (.int (2 : Int32))] [(.ref wa)])
    refine OFin.st (fun t k => XS.iloadN X74.here hx rfl (hb hby d20_25) rfl k) ?_
    show OFin p e below _ _ T74 (mkF m 26 #[.val (.ref r0), .val (.ref r1), .val (.int (2 : Int32))] [(.int (2 : Int32)), (.ref wa)])
    refine OFin.st (fun t k => XS.aloadN X74.here hx rfl (hb hby d20_26) rfl rfl k) ?_
    show OFin p e below _ _ T74 (mkF m 27 #[.val (.ref r0), .val (.ref r1), .val (.int (2 : Int32))] [(.ref r1), (.int (2 : Int32)), (.ref wa)])
    refine OFin.st (fun t k => XS.iloadN X74.here hx rfl (hb hby d20_27) rfl k) ?_
    show OFin p e below _ _ T74 (mkF m 28 #[.val (.ref r0), .val (.ref r1), .val (.int (2 : Int32))] [(.int (2 : Int32)), (.ref r1), (.int (2 : Int32)), (.ref wa)])
    have c75 := ((A_r1.keep K61q (ninS N_r1_va nin0)).keep K68q (ninS N_r1_va nin0))
    refine own_laload X74 hx hZ e74 c75 (i := 2) (j := (2 : Int32)) (by decide) (v := (.long x2)) rfl (hb hby d20_28) (pc' := 29) rfl ?_
    show OFin p e below _ _ T74 (mkF m 29 #[.val (.ref r0), .val (.ref r1), .val (.int (2 : Int32))] [(.long x2), (.int (2 : Int32)), (.ref wa)])
    refine OFin.st (fun t k => XS.lconst X74.here hx rfl (hb hby d20_29) k) ?_
    show OFin p e below _ _ T74 (mkF m 30 #[.val (.ref r0), .val (.ref r1), .val (.int (2 : Int32))] [(.long (0 : Int64)), (.long x2), (.int (2 : Int32)), (.ref wa)])
    refine OFin.st (fun t k => XS.lcmp X74.here hx rfl (hb hby d20_30) rfl k) ?_
    show OFin p e below _ _ T74 (mkF m 31 #[.val (.ref r0), .val (.ref r1), .val (.int (2 : Int32))] [(.int (lcmpW x2 (0 : Int64))), (.int (2 : Int32)), (.ref wa)])
    have join76 : ∀ (qv : Int64), ∀ (T76 : State) (locs76 : List Loc), Stand p l e ({ frames := 2, cells := 0, slots := 0, locals := 31 } : Room) s m #[(.ref r0), (.ref r1)] below meth c T76 locs76 0 0 → T76.heap = T68.heap → Fr n0 locs76 → OFin p e below (fun o t L => FrameEnd s o t L ({ frames := 2, cells := 0, slots := 0, locals := 31 } : Room).cells ({ frames := 2, cells := 0, slots := 0, locals := 31 } : Room).slots) (fun v h L => Qrm20 Z r0 r1 wd oa wa va ko kw kv (2 : Int32) wn x0 x1 x2 kc h0 n0 v h L) T76 (mkF m 41 #[.val (.ref r0), .val (.ref r1), .val (.int (2 : Int32))] [(.long qv), (.int (2 : Int32)), (.ref wa)]) := by
      intro qv  T76 locs76 X76 e76 N76
      have c77 := ((A_wa.keep K61q (ninS N_wa_va nin0)).keep K68q (ninS N_wa_va nin0))
      obtain ⟨T78, h78, X78, e78, W78, V78, st78⟩ := own_lastore X76 hx hZ e76 c77 (i := 2) (j := (2 : Int32)) (by decide) (by show 2 < 3; decide) (x := qv) (pc := 41) (Ls := #[.val (.ref r0), .val (.ref r1), .val (.int (2 : Int32))]) (rest := []) (hb hby d20_41)
      have N78 := Fr.snoc X78 N76 g_wa
      have K78 : Keep h0 h78 [wa, va] := K68.wr W78 (Or.inl (List.mem_of_getElem? (i := 0) rfl))
      have O78 : Old Z n0 h78 := O68.wr W78 g_wa
      have Vw78 : Oar Z h78 wa kw .long [(.long (0 : Int64)), (.long (0 : Int64)), (.long qv)] := V78
      refine OFin.st st78 ?_
      show OFin p e below _ _ T78 (mkF m 42 #[.val (.ref r0), .val (.ref r1), .val (.int (2 : Int32))] [])
      refine OFin.st (fun t k => XS.goto X78.here hx rfl (pc0 := 42) (pc' := 72) rfl (hb hby d20_42) (by decide) (by decide) k) ?_
      show OFin p e below _ _ T78 (mkF m 72 #[.val (.ref r0), .val (.ref r1), .val (.int (2 : Int32))] [])
      refine OFin.st (fun t k => XS.iinc X78.here hx rfl (hb hby d20_72) rfl (l' := #[.val (.ref r0), .val (.ref r1), .val (.int (3 : Int32))]) rfl k) ?_
      show OFin p e below _ _ T78 (mkF m 75 #[.val (.ref r0), .val (.ref r1), .val (.int (3 : Int32))] [])
      refine OFin.st (fun t k => XS.goto X78.here hx rfl (pc0 := 75) (pc' := 2) rfl (hb hby d20_75) (by decide) (by decide) k) ?_
      show OFin p e below _ _ T78 (mkF m 2 #[.val (.ref r0), .val (.ref r1), .val (.int (3 : Int32))] [])
      refine OFin.st (fun t k => XS.iloadN X78.here hx rfl (hb hby d20_2) rfl k) ?_
      show OFin p e below _ _ T78 (mkF m 3 #[.val (.ref r0), .val (.ref r1), .val (.int (3 : Int32))] [(.int (3 : Int32))])
      refine OFin.st (fun t k => XS.aloadN X78.here hx rfl (hb hby d20_3) rfl rfl k) ?_
      show OFin p e below _ _ T78 (mkF m 4 #[.val (.ref r0), .val (.ref r1), .val (.int (3 : Int32))] [(.ref r0), (.int (3 : Int32))])
      obtain ⟨T79, X79, e79, st79⟩ := getF X78 hx hZ hown (host := "") (Or.inl (hw _ (List.mem_of_getElem? (i := 108) rfl))) Via.refl e78 (c69.other W78 (Or.inl (Ne.symm N_wa_r0))) (g := (mkF m 4 #[.val (.ref r0), .val (.ref r1), .val (.int (3 : Int32))] [(.ref r0), (.int (3 : Int32))])) rfl rfl (hb hby d20_4)
      refine OFin.st st79 ?_
      show OFin p e below _ _ T79 (mkF m 7 #[.val (.ref r0), .val (.ref r1), .val (.int (3 : Int32))] [(.ref oa), (.int (3 : Int32))])
      refine own_alen X79 hx hZ e79 (c71.other W78 N_oa_wa) (z := (3 : Int32)) (by simp only [List.length_cons, List.length_nil]; decide) (hb hby d20_7) (pc' := 8) rfl ?_
      show OFin p e below _ _ T79 (mkF m 8 #[.val (.ref r0), .val (.ref r1), .val (.int (3 : Int32))] [(.int (3 : Int32)), (.int (3 : Int32))])
      refine OFin.st (fun t k => XS.icmpYes X79.here hx rfl (pc0 := 8) (pc' := 78) rfl (hb hby d20_8) rfl (flt (by decide : ¬ ((3 : Int32) < (3 : Int32)))).2.1 (by decide) (by decide) k) ?_
      show OFin p e below _ _ T79 (mkF m 78 #[.val (.ref r0), .val (.ref r1), .val (.int (3 : Int32))] [])
      have c80 := (((F_width_r0.keep K61q (ninS (Ne.symm N_va_r0) nin0)).keep K68q (ninS (Ne.symm N_va_r0) nin0)).other W78 (Or.inl (Ne.symm N_wa_r0)))
      have c81 := (((F_values_r0.keep K61q (ninS (Ne.symm N_va_r0) nin0)).keep K68q (ninS (Ne.symm N_va_r0) nin0)).other W78 (Or.inl (Ne.symm N_wa_r0)))
      exact own_retV X79 hx Bd.returns Bd.notSynchronized (hb hby d20_78) (by show Qrm20 Z r0 r1 wd oa wa va ko kw kv (2 : Int32) wn x0 x1 x2 kc h0 n0 _ T79.heap _; rw [e79]; exact ⟨qv, rfl, N78, K78, (((E_r0.keep K61q).keep K68q).wr W78), c80, (c69.other W78 (Or.inl (Ne.symm N_wa_r0))), (c73.other W78 (Or.inl (Ne.symm N_wa_r0))), c81, (by rw [wds, if_neg (by decide), if_neg (by decide)]; exact Vw78), (P68_0.other W78 (Ne.symm N_wa_va)), (by rw [offs, if_neg (by decide), if_neg (by decide)]; exact (c71.other W78 N_oa_wa))⟩) (own_endN (by decide) (by decide))
    by_cases hc31 : x2 = (0 : Int64)
    · refine OFin.st (fun t k => XS.ifYes X74.here hx rfl (pc0 := 31) (pc' := 40) rfl (hb hby d20_31) rfl ((if0 _ _).trans (teq ((lw_eq x2 (0 : Int64)).mpr hc31)).1) (by decide) (by decide) k) ?_
      show OFin p e below _ _ T74 (mkF m 40 #[.val (.ref r0), .val (.ref r1), .val (.int (2 : Int32))] [(.int (2 : Int32)), (.ref wa)])
      refine OFin.st (fun t k => XS.lconst X74.here hx rfl (hb hby d20_40) k) ?_
      show OFin p e below _ _ T74 (mkF m 41 #[.val (.ref r0), .val (.ref r1), .val (.int (2 : Int32))] [(.long (0 : Int64)), (.int (2 : Int32)), (.ref wa)])
      exact join76 (0 : Int64)  _ _ X74 e74 N68
    · refine OFin.st (fun t k => XS.ifNo X74.here hx rfl (hb hby d20_31) rfl ((if0 _ _).trans (feq (fun q => hc31 ((lw_eq x2 (0 : Int64)).mp q))).1) k) ?_
      show OFin p e below _ _ T74 (mkF m 34 #[.val (.ref r0), .val (.ref r1), .val (.int (2 : Int32))] [(.int (2 : Int32)), (.ref wa)])
      refine OFin.st (X74.ldc2Long hx hown (mvT hZ (hw _ (List.mem_of_getElem? (i := 184) rfl))) (g := (mkF m 34 #[.val (.ref r0), .val (.ref r1), .val (.int (2 : Int32))] [(.int (2 : Int32)), (.ref wa)])) rfl (hb hby d20_34)) ?_
      show OFin p e below _ _ T74 (mkF m 37 #[.val (.ref r0), .val (.ref r1), .val (.int (2 : Int32))] [(.long (-1 : Int64)), (.int (2 : Int32)), (.ref wa)])
      refine OFin.st (fun t k => XS.goto X74.here hx rfl (pc0 := 37) (pc' := 41) rfl (hb hby d20_37) (by decide) (by decide) k) ?_
      show OFin p e below _ _ T74 (mkF m 41 #[.val (.ref r0), .val (.ref r1), .val (.int (2 : Int32))] [(.long (-1 : Int64)), (.int (2 : Int32)), (.ref wa)])
      exact join76 (-1 : Int64)  _ _ X74 e74 N68
theorem ef_rm23 (m : MethodId) (r0 : Addr) (p1 : Int32) (q2 : Int64) (q3 : Int64) : entryFrame m #[(.ref r0), (.int p1), (.long q2), (.long q3)] 6 = mkF m 0 #[.val (.ref r0), .val (.int p1), .val (.long q2), .second, .val (.long q3), .second] [] := by first | (simp [entryFrame, mkF, argsToLocals, Value.category]; done) | rfl
def Qrm23 (Z : State) (r0 : Addr) (p1 : Int32) (q2 : Int64) (q3 : Int64) (wa : Addr) (kw : ClassId) (vw : List Value) (ci : Nat) (xw : Int64) (h0 : Heap) (n0 : Nat) (v : Option Value) (h : Heap) (L : List Loc) : Prop := v = none ∧ Fr n0 L ∧ Keep h0 h [wa] ∧ Oar Z h wa kw .long (vw.set ci (.long ((xw &&& (q3 ^^^ (-1 : Int64))) ||| (q2 &&& q3))))
set_option maxRecDepth 65536 in
set_option maxHeartbeats 40000000 in
theorem rm23 (l : Launch) (Z : State) (a0 : Array Value) (hw : ∀ d ∈ tables_1, d.before a0 Z = true) (ws : List Jvm.Cond) (r0 : Addr) (p1 : Int32) (q2 : Int64) (q3 : Int64) (wa : Addr) (kw : ClassId) (vw : List Value) (ci : Nat) (xw : Int64) (h0 : Heap) (n0 : Nat) (O0 : Old Z n0 h0) (E_r0 : Exa Z h0 r0 "com/example/verdikt/verdikt/model/Lanes") (F_words_r0 : Fld Z h0 r0 "com/example/verdikt/verdikt/model/Lanes" "words" "[J" (.ref wa)) (A_wa : Oar Z h0 wa kw .long vw) (g_wa : n0 ≤ wa) (hci : p1.toInt = (ci : Int)) (hxw : vw[ci]? = some (Value.long xw)) :
    MetFree l (⟨"com/example/verdikt/verdikt/model/Lanes", "setBits", "(IJJ)V"⟩ : MethodName) (head1 (Jvm.Cond.code (⟨"com/example/verdikt/verdikt/model/Lanes", "setBits", "(IJJ)V"⟩ : MethodName) prog_90_method_14_code 6 none :: ws) ({ frames := 0, cells := 0, slots := 0, locals := 0 } : Room)) (fun a U => a = #[(.ref r0), (.int p1), (.long q2), (.long q3)] ∧ Z.Warmed39 U.vm ∧ U.heap = h0) (fun _ _ _ _ _ => True) (fun _ U o U' => ∃ v L, o = .returned v ∧ Qrm23 Z r0 p1 q2 q3 wa kw vw ci xw h0 n0 v U'.heap L ∧ FrameEnd U o U' L ({ frames := 0, cells := 0, slots := 0, locals := 0 } : Room).cells ({ frames := 0, cells := 0, slots := 0, locals := 0 } : Room).slots) := by
  refine MetFree.of_bodySF (plainFor_of_name pn_com_example_verdikt_verdikt_model_Lanes) hisR ?_
  intro p e s m args below meth c s₁ Bd hml0 hP hK
  obtain ⟨rfl, hZ, hh⟩ := hP
  have hx := Bd.exec
  have hby := Bd.bytes
  have hml : c.maxLocals = 6 := hml0
  have hown : s.vm.findClass "com/example/verdikt/verdikt/model/Lanes" = some m.cls := findClass_of_methodNamed Bd.named
  have hnm := (name_of_methodNamed Bd.named Bd.method).1
  have X0 : Stand p l e ({ frames := 0, cells := 0, slots := 0, locals := 0 } : Room) s m #[(.ref r0), (.int p1), (.long q2), (.long q3)] below meth c s₁ [] 0 0 := Stand.of_body Bd
  have e0 : s₁.heap = h0 := by rw [← hh, Bd.state]; rfl
  have N0 := Fr.nil n0
  show OFin p e below (fun o t L => FrameEnd s o t L ({ frames := 0, cells := 0, slots := 0, locals := 0 } : Room).cells ({ frames := 0, cells := 0, slots := 0, locals := 0 } : Room).slots) (fun v h L => Qrm23 Z r0 p1 q2 q3 wa kw vw ci xw h0 n0 v h L) s₁ (entryFrame m #[(.ref r0), (.int p1), (.long q2), (.long q3)] 6)
  refine OFin.cast (ef_rm23 m r0 p1 q2 q3) ?_
  show OFin p e below _ _ s₁ (mkF m 0 #[.val (.ref r0), .val (.int p1), .val (.long q2), .second, .val (.long q3), .second] [])
  refine OFin.st (fun t k => XS.aloadN X0.here hx rfl (hb hby d23_0) rfl rfl k) ?_
  show OFin p e below _ _ s₁ (mkF m 1 #[.val (.ref r0), .val (.int p1), .val (.long q2), .second, .val (.long q3), .second] [(.ref r0)])
  obtain ⟨T1, X1, e1, st1⟩ := getF X0 hx hZ hown (host := "") (Or.inl (hw _ (List.mem_of_getElem? (i := 174) rfl))) Via.refl e0 F_words_r0 (g := (mkF m 1 #[.val (.ref r0), .val (.int p1), .val (.long q2), .second, .val (.long q3), .second] [(.ref r0)])) rfl rfl (hb hby d23_1)
  refine OFin.st st1 ?_
  show OFin p e below _ _ T1 (mkF m 4 #[.val (.ref r0), .val (.int p1), .val (.long q2), .second, .val (.long q3), .second] [(.ref wa)])
  refine OFin.st (fun t k => XS.iloadN X1.here hx rfl (hb hby d23_4) rfl k) ?_
  show OFin p e below _ _ T1 (mkF m 5 #[.val (.ref r0), .val (.int p1), .val (.long q2), .second, .val (.long q3), .second] [(.int p1), (.ref wa)])
  refine OFin.st (fun t k => XS.aloadN X1.here hx rfl (hb hby d23_5) rfl rfl k) ?_
  show OFin p e below _ _ T1 (mkF m 6 #[.val (.ref r0), .val (.int p1), .val (.long q2), .second, .val (.long q3), .second] [(.ref r0), (.int p1), (.ref wa)])
  obtain ⟨T2, X2, e2, st2⟩ := getF X1 hx hZ hown (host := "") (Or.inl (hw _ (List.mem_of_getElem? (i := 174) rfl))) Via.refl e1 F_words_r0 (g := (mkF m 6 #[.val (.ref r0), .val (.int p1), .val (.long q2), .second, .val (.long q3), .second] [(.ref r0), (.int p1), (.ref wa)])) rfl rfl (hb hby d23_6)
  refine OFin.st st2 ?_
  show OFin p e below _ _ T2 (mkF m 9 #[.val (.ref r0), .val (.int p1), .val (.long q2), .second, .val (.long q3), .second] [(.ref wa), (.int p1), (.ref wa)])
  refine OFin.st (fun t k => XS.iloadN X2.here hx rfl (hb hby d23_9) rfl k) ?_
  show OFin p e below _ _ T2 (mkF m 10 #[.val (.ref r0), .val (.int p1), .val (.long q2), .second, .val (.long q3), .second] [(.int p1), (.ref wa), (.int p1), (.ref wa)])
  refine own_laload X2 hx hZ e2 A_wa (i := ci) (j := p1) hci (v := (.long xw)) hxw (hb hby d23_10) (pc' := 11) rfl ?_
  show OFin p e below _ _ T2 (mkF m 11 #[.val (.ref r0), .val (.int p1), .val (.long q2), .second, .val (.long q3), .second] [(.long xw), (.int p1), (.ref wa)])
  refine OFin.st (fun t k => XS.lload X2.here hx rfl (hb hby d23_11) rfl k) ?_
  show OFin p e below _ _ T2 (mkF m 13 #[.val (.ref r0), .val (.int p1), .val (.long q2), .second, .val (.long q3), .second] [(.long q3), (.long xw), (.int p1), (.ref wa)])
  refine OFin.st (X2.ldc2Long hx hown (mvT hZ (hw _ (List.mem_of_getElem? (i := 184) rfl))) (g := (mkF m 13 #[.val (.ref r0), .val (.int p1), .val (.long q2), .second, .val (.long q3), .second] [(.long q3), (.long xw), (.int p1), (.ref wa)])) rfl (hb hby d23_13)) ?_
  show OFin p e below _ _ T2 (mkF m 16 #[.val (.ref r0), .val (.int p1), .val (.long q2), .second, .val (.long q3), .second] [(.long (-1 : Int64)), (.long q3), (.long xw), (.int p1), (.ref wa)])
  refine OFin.st (fun t k => XS.lxor X2.here hx rfl (hb hby d23_16) rfl k) ?_
  show OFin p e below _ _ T2 (mkF m 17 #[.val (.ref r0), .val (.int p1), .val (.long q2), .second, .val (.long q3), .second] [(.long (q3 ^^^ (-1 : Int64))), (.long xw), (.int p1), (.ref wa)])
  refine OFin.st (fun t k => XS.land X2.here hx rfl (hb hby d23_17) rfl k) ?_
  show OFin p e below _ _ T2 (mkF m 18 #[.val (.ref r0), .val (.int p1), .val (.long q2), .second, .val (.long q3), .second] [(.long (xw &&& (q3 ^^^ (-1 : Int64)))), (.int p1), (.ref wa)])
  refine OFin.st (fun t k => XS.lloadN X2.here hx rfl (hb hby d23_18) rfl k) ?_
  show OFin p e below _ _ T2 (mkF m 19 #[.val (.ref r0), .val (.int p1), .val (.long q2), .second, .val (.long q3), .second] [(.long q2), (.long (xw &&& (q3 ^^^ (-1 : Int64)))), (.int p1), (.ref wa)])
  refine OFin.st (fun t k => XS.lload X2.here hx rfl (hb hby d23_19) rfl k) ?_
  show OFin p e below _ _ T2 (mkF m 21 #[.val (.ref r0), .val (.int p1), .val (.long q2), .second, .val (.long q3), .second] [(.long q3), (.long q2), (.long (xw &&& (q3 ^^^ (-1 : Int64)))), (.int p1), (.ref wa)])
  refine OFin.st (fun t k => XS.land X2.here hx rfl (hb hby d23_21) rfl k) ?_
  show OFin p e below _ _ T2 (mkF m 22 #[.val (.ref r0), .val (.int p1), .val (.long q2), .second, .val (.long q3), .second] [(.long (q2 &&& q3)), (.long (xw &&& (q3 ^^^ (-1 : Int64)))), (.int p1), (.ref wa)])
  refine OFin.st (fun t k => XS.lor X2.here hx rfl (hb hby d23_22) rfl k) ?_
  show OFin p e below _ _ T2 (mkF m 23 #[.val (.ref r0), .val (.int p1), .val (.long q2), .second, .val (.long q3), .second] [(.long ((xw &&& (q3 ^^^ (-1 : Int64))) ||| (q2 &&& q3))), (.int p1), (.ref wa)])
  obtain ⟨T3, h3, X3, e3, W3, V3, st3⟩ := own_lastore X2 hx hZ e2 A_wa (i := ci) (j := p1) hci (own_lt_of hxw) (x := ((xw &&& (q3 ^^^ (-1 : Int64))) ||| (q2 &&& q3))) (pc := 23) (Ls := #[.val (.ref r0), .val (.int p1), .val (.long q2), .second, .val (.long q3), .second]) (rest := []) (hb hby d23_23)
  have N3 := Fr.snoc X3 N0 g_wa
  have K3 : Keep h0 h3 [wa] := (Keep.refl h0 [wa]).wr W3 (Or.inl (List.mem_of_getElem? (i := 0) rfl))
  have O3 : Old Z n0 h3 := O0.wr W3 g_wa
  refine OFin.st st3 ?_
  show OFin p e below _ _ T3 (mkF m 24 #[.val (.ref r0), .val (.int p1), .val (.long q2), .second, .val (.long q3), .second] [])
  exact own_retV X3 hx Bd.returns Bd.notSynchronized (hb hby d23_24) (by show Qrm23 Z r0 p1 q2 q3 wa kw vw ci xw h0 n0 _ T3.heap _; rw [e3]; exact ⟨rfl, N3, K3, V3⟩) (own_endN (by decide) (by decide))
theorem ef_rm24 (m : MethodId) (r0 : Addr) (p1 : Int32) (p2 : Int32) (q3 : Int64) : entryFrame m #[(.ref r0), (.int p1), (.int p2), (.long q3)] 7 = mkF m 0 #[.val (.ref r0), .val (.int p1), .val (.int p2), .val (.long q3), .second, .unset, .unset] [] := by first | (simp [entryFrame, mkF, argsToLocals, Value.category]; done) | rfl
def Qrm24 (Z : State) (r0 : Addr) (p1 : Int32) (p2 : Int32) (q3 : Int64) (oa : Addr) (wa : Addr) (va : Addr) (ko : ClassId) (kw : ClassId) (kv : ClassId) (vo : List Value) (vw : List Value) (vs : List Value) (ov : Int32) (ci : Nat) (vi : Nat) (xw : Int64) (h0 : Heap) (n0 : Nat) (v : Option Value) (h : Heap) (L : List Loc) : Prop := v = none ∧ Fr n0 L ∧ Keep h0 h [wa, va] ∧ Oar Z h wa kw .long (if ov = (-1 : Int32) then vw.set ci (.long (sbit xw q3 ((1 : Int64) <<< (p2 &&& 0x3f).toInt64))) else vw) ∧ Oar Z h va kv .long (if ov = (-1 : Int32) then vs else vs.set vi (.long q3))
set_option maxRecDepth 65536 in
set_option maxHeartbeats 40000000 in
theorem rm24 (l : Launch) (Z : State) (a0 : Array Value) (hw : ∀ d ∈ tables_1, d.before a0 Z = true) (ws : List Jvm.Cond) (r0 : Addr) (p1 : Int32) (p2 : Int32) (q3 : Int64) (oa : Addr) (wa : Addr) (va : Addr) (ko : ClassId) (kw : ClassId) (kv : ClassId) (vo : List Value) (vw : List Value) (vs : List Value) (ov : Int32) (ci : Nat) (vi : Nat) (xw : Int64) (h0 : Heap) (n0 : Nat) (O0 : Old Z n0 h0) (E_r0 : Exa Z h0 r0 "com/example/verdikt/verdikt/model/Lanes") (F_offsets_r0 : Fld Z h0 r0 "com/example/verdikt/verdikt/model/Lanes" "offsets" "[I" (.ref oa)) (F_words_r0 : Fld Z h0 r0 "com/example/verdikt/verdikt/model/Lanes" "words" "[J" (.ref wa)) (F_values_r0 : Fld Z h0 r0 "com/example/verdikt/verdikt/model/Lanes" "values" "[J" (.ref va)) (A_oa : Oar Z h0 oa ko .int vo) (A_wa : Oar Z h0 wa kw .long vw) (A_va : Oar Z h0 va kv .long vs) (g_wa : n0 ≤ wa) (g_va : n0 ≤ va) (N_oa_wa : oa ≠ wa) (N_oa_va : oa ≠ va) (N_wa_va : wa ≠ va) (hci : p1.toInt = (ci : Int)) (hov : vo[ci]? = some (Value.int ov)) (hxw : vw[ci]? = some (Value.long xw)) (hvi : ¬ ov = (-1 : Int32) → (ov + p2).toInt = (vi : Int) ∧ vi < vs.length) :
    MetFree l (⟨"com/example/verdikt/verdikt/model/Lanes", "setCell", "(IIJ)V"⟩ : MethodName) (head1 (Jvm.Cond.code (⟨"com/example/verdikt/verdikt/model/Lanes", "setCell", "(IIJ)V"⟩ : MethodName) prog_90_method_8_code 7 none :: ws) ({ frames := 0, cells := 0, slots := 0, locals := 0 } : Room)) (fun a U => a = #[(.ref r0), (.int p1), (.int p2), (.long q3)] ∧ Z.Warmed39 U.vm ∧ U.heap = h0) (fun _ _ _ _ _ => True) (fun _ U o U' => ∃ v L, o = .returned v ∧ Qrm24 Z r0 p1 p2 q3 oa wa va ko kw kv vo vw vs ov ci vi xw h0 n0 v U'.heap L ∧ FrameEnd U o U' L ({ frames := 0, cells := 0, slots := 0, locals := 0 } : Room).cells ({ frames := 0, cells := 0, slots := 0, locals := 0 } : Room).slots) := by
  refine MetFree.of_bodySF (plainFor_of_name pn_com_example_verdikt_verdikt_model_Lanes) hisR ?_
  intro p e s m args below meth c s₁ Bd hml0 hP hK
  obtain ⟨rfl, hZ, hh⟩ := hP
  have hx := Bd.exec
  have hby := Bd.bytes
  have hml : c.maxLocals = 7 := hml0
  have hown : s.vm.findClass "com/example/verdikt/verdikt/model/Lanes" = some m.cls := findClass_of_methodNamed Bd.named
  have hnm := (name_of_methodNamed Bd.named Bd.method).1
  have X0 : Stand p l e ({ frames := 0, cells := 0, slots := 0, locals := 0 } : Room) s m #[(.ref r0), (.int p1), (.int p2), (.long q3)] below meth c s₁ [] 0 0 := Stand.of_body Bd
  have e0 : s₁.heap = h0 := by rw [← hh, Bd.state]; rfl
  have N0 := Fr.nil n0
  show OFin p e below (fun o t L => FrameEnd s o t L ({ frames := 0, cells := 0, slots := 0, locals := 0 } : Room).cells ({ frames := 0, cells := 0, slots := 0, locals := 0 } : Room).slots) (fun v h L => Qrm24 Z r0 p1 p2 q3 oa wa va ko kw kv vo vw vs ov ci vi xw h0 n0 v h L) s₁ (entryFrame m #[(.ref r0), (.int p1), (.int p2), (.long q3)] 7)
  refine OFin.cast (ef_rm24 m r0 p1 p2 q3) ?_
  show OFin p e below _ _ s₁ (mkF m 0 #[.val (.ref r0), .val (.int p1), .val (.int p2), .val (.long q3), .second, .unset, .unset] [])
  refine OFin.st (fun t k => XS.aloadN X0.here hx rfl (hb hby d24_0) rfl rfl k) ?_
  show OFin p e below _ _ s₁ (mkF m 1 #[.val (.ref r0), .val (.int p1), .val (.int p2), .val (.long q3), .second, .unset, .unset] [(.ref r0)])
  obtain ⟨T1, X1, e1, st1⟩ := getF X0 hx hZ hown (host := "") (Or.inl (hw _ (List.mem_of_getElem? (i := 108) rfl))) Via.refl e0 F_offsets_r0 (g := (mkF m 1 #[.val (.ref r0), .val (.int p1), .val (.int p2), .val (.long q3), .second, .unset, .unset] [(.ref r0)])) rfl rfl (hb hby d24_1)
  refine OFin.st st1 ?_
  show OFin p e below _ _ T1 (mkF m 4 #[.val (.ref r0), .val (.int p1), .val (.int p2), .val (.long q3), .second, .unset, .unset] [(.ref oa)])
  refine OFin.st (fun t k => XS.iloadN X1.here hx rfl (hb hby d24_4) rfl k) ?_
  show OFin p e below _ _ T1 (mkF m 5 #[.val (.ref r0), .val (.int p1), .val (.int p2), .val (.long q3), .second, .unset, .unset] [(.int p1), (.ref oa)])
  refine own_iaload X1 hx hZ e1 A_oa (i := ci) (j := p1) hci (v := (.int ov)) hov (hb hby d24_5) (pc' := 6) rfl ?_
  show OFin p e below _ _ T1 (mkF m 6 #[.val (.ref r0), .val (.int p1), .val (.int p2), .val (.long q3), .second, .unset, .unset] [(.int ov)])
  refine OFin.st (fun t k => XS.iconst X1.here hx rfl (hb hby d24_6) k) ?_
  show OFin p e below _ _ T1 (mkF m 7 #[.val (.ref r0), .val (.int p1), .val (.int p2), .val (.long q3), .second, .unset, .unset] [(.int (-1 : Int32)), (.int ov)])
  by_cases hc7 : ov = (-1 : Int32)
  · refine OFin.st (fun t k => XS.icmpNo X1.here hx rfl (hb hby d24_7) rfl (teq hc7).2 k) ?_
    show OFin p e below _ _ T1 (mkF m 10 #[.val (.ref r0), .val (.int p1), .val (.int p2), .val (.long q3), .second, .unset, .unset] [])
    refine OFin.st (fun t k => XS.lconst X1.here hx rfl (hb hby d24_10) k) ?_
    show OFin p e below _ _ T1 (mkF m 11 #[.val (.ref r0), .val (.int p1), .val (.int p2), .val (.long q3), .second, .unset, .unset] [(.long (1 : Int64))])
    refine OFin.st (fun t k => XS.iloadN X1.here hx rfl (hb hby d24_11) rfl k) ?_
    show OFin p e below _ _ T1 (mkF m 12 #[.val (.ref r0), .val (.int p1), .val (.int p2), .val (.long q3), .second, .unset, .unset] [(.int p2), (.long (1 : Int64))])
    refine OFin.st (fun t k => XS.lshl X1.here hx rfl (hb hby d24_12) rfl k) ?_
    show OFin p e below _ _ T1 (mkF m 13 #[.val (.ref r0), .val (.int p1), .val (.int p2), .val (.long q3), .second, .unset, .unset] [(.long ((1 : Int64) <<< (p2 &&& 0x3f).toInt64))])
    refine OFin.st (fun t k => XS.lstore X1.here hx rfl (hb hby d24_13) rfl (l' := #[.val (.ref r0), .val (.int p1), .val (.int p2), .val (.long q3), .second, .val (.long ((1 : Int64) <<< (p2 &&& 0x3f).toInt64)), .second]) rfl k) ?_
    show OFin p e below _ _ T1 (mkF m 15 #[.val (.ref r0), .val (.int p1), .val (.int p2), .val (.long q3), .second, .val (.long ((1 : Int64) <<< (p2 &&& 0x3f).toInt64)), .second] [])
    refine OFin.st (fun t k => XS.aloadN X1.here hx rfl (hb hby d24_15) rfl rfl k) ?_
    show OFin p e below _ _ T1 (mkF m 16 #[.val (.ref r0), .val (.int p1), .val (.int p2), .val (.long q3), .second, .val (.long ((1 : Int64) <<< (p2 &&& 0x3f).toInt64)), .second] [(.ref r0)])
    obtain ⟨T2, X2, e2, st2⟩ := getF X1 hx hZ hown (host := "") (Or.inl (hw _ (List.mem_of_getElem? (i := 174) rfl))) Via.refl e1 F_words_r0 (g := (mkF m 16 #[.val (.ref r0), .val (.int p1), .val (.int p2), .val (.long q3), .second, .val (.long ((1 : Int64) <<< (p2 &&& 0x3f).toInt64)), .second] [(.ref r0)])) rfl rfl (hb hby d24_16)
    refine OFin.st st2 ?_
    show OFin p e below _ _ T2 (mkF m 19 #[.val (.ref r0), .val (.int p1), .val (.int p2), .val (.long q3), .second, .val (.long ((1 : Int64) <<< (p2 &&& 0x3f).toInt64)), .second] [(.ref wa)])
    refine OFin.st (fun t k => XS.iloadN X2.here hx rfl (hb hby d24_19) rfl k) ?_
    show OFin p e below _ _ T2 (mkF m 20 #[.val (.ref r0), .val (.int p1), .val (.int p2), .val (.long q3), .second, .val (.long ((1 : Int64) <<< (p2 &&& 0x3f).toInt64)), .second] [(.int p1), (.ref wa)])
    refine OFin.st (fun t k => XS.lloadN X2.here hx rfl (hb hby d24_20) rfl k) ?_
    show OFin p e below _ _ T2 (mkF m 21 #[.val (.ref r0), .val (.int p1), .val (.int p2), .val (.long q3), .second, .val (.long ((1 : Int64) <<< (p2 &&& 0x3f).toInt64)), .second] [(.long q3), (.int p1), (.ref wa)])
    refine OFin.st (fun t k => XS.lconst X2.here hx rfl (hb hby d24_21) k) ?_
    show OFin p e below _ _ T2 (mkF m 22 #[.val (.ref r0), .val (.int p1), .val (.int p2), .val (.long q3), .second, .val (.long ((1 : Int64) <<< (p2 &&& 0x3f).toInt64)), .second] [(.long (0 : Int64)), (.long q3), (.int p1), (.ref wa)])
    refine OFin.st (fun t k => XS.lcmp X2.here hx rfl (hb hby d24_22) rfl k) ?_
    show OFin p e below _ _ T2 (mkF m 23 #[.val (.ref r0), .val (.int p1), .val (.int p2), .val (.long q3), .second, .val (.long ((1 : Int64) <<< (p2 &&& 0x3f).toInt64)), .second] [(.int (lcmpW q3 (0 : Int64))), (.int p1), (.ref wa)])
    by_cases hc23 : q3 = (0 : Int64)
    · refine OFin.st (fun t k => XS.ifYes X2.here hx rfl (pc0 := 23) (pc' := 38) rfl (hb hby d24_23) rfl ((if0 _ _).trans (teq ((lw_eq q3 (0 : Int64)).mpr hc23)).1) (by decide) (by decide) k) ?_
      show OFin p e below _ _ T2 (mkF m 38 #[.val (.ref r0), .val (.int p1), .val (.int p2), .val (.long q3), .second, .val (.long ((1 : Int64) <<< (p2 &&& 0x3f).toInt64)), .second] [(.int p1), (.ref wa)])
      refine OFin.st (fun t k => XS.aloadN X2.here hx rfl (hb hby d24_38) rfl rfl k) ?_
      show OFin p e below _ _ T2 (mkF m 39 #[.val (.ref r0), .val (.int p1), .val (.int p2), .val (.long q3), .second, .val (.long ((1 : Int64) <<< (p2 &&& 0x3f).toInt64)), .second] [(.ref r0), (.int p1), (.ref wa)])
      obtain ⟨T3, X3, e3, st3⟩ := getF X2 hx hZ hown (host := "") (Or.inl (hw _ (List.mem_of_getElem? (i := 174) rfl))) Via.refl e2 F_words_r0 (g := (mkF m 39 #[.val (.ref r0), .val (.int p1), .val (.int p2), .val (.long q3), .second, .val (.long ((1 : Int64) <<< (p2 &&& 0x3f).toInt64)), .second] [(.ref r0), (.int p1), (.ref wa)])) rfl rfl (hb hby d24_39)
      refine OFin.st st3 ?_
      show OFin p e below _ _ T3 (mkF m 42 #[.val (.ref r0), .val (.int p1), .val (.int p2), .val (.long q3), .second, .val (.long ((1 : Int64) <<< (p2 &&& 0x3f).toInt64)), .second] [(.ref wa), (.int p1), (.ref wa)])
      refine OFin.st (fun t k => XS.iloadN X3.here hx rfl (hb hby d24_42) rfl k) ?_
      show OFin p e below _ _ T3 (mkF m 43 #[.val (.ref r0), .val (.int p1), .val (.int p2), .val (.long q3), .second, .val (.long ((1 : Int64) <<< (p2 &&& 0x3f).toInt64)), .second] [(.int p1), (.ref wa), (.int p1), (.ref wa)])
      refine own_laload X3 hx hZ e3 A_wa (i := ci) (j := p1) hci (v := (.long xw)) hxw (hb hby d24_43) (pc' := 44) rfl ?_
      show OFin p e below _ _ T3 (mkF m 44 #[.val (.ref r0), .val (.int p1), .val (.int p2), .val (.long q3), .second, .val (.long ((1 : Int64) <<< (p2 &&& 0x3f).toInt64)), .second] [(.long xw), (.int p1), (.ref wa)])
      refine OFin.st (fun t k => XS.lload X3.here hx rfl (hb hby d24_44) rfl k) ?_
      show OFin p e below _ _ T3 (mkF m 46 #[.val (.ref r0), .val (.int p1), .val (.int p2), .val (.long q3), .second, .val (.long ((1 : Int64) <<< (p2 &&& 0x3f).toInt64)), .second] [(.long ((1 : Int64) <<< (p2 &&& 0x3f).toInt64)), (.long xw), (.int p1), (.ref wa)])
      refine OFin.st (X3.ldc2Long hx hown (mvT hZ (hw _ (List.mem_of_getElem? (i := 184) rfl))) (g := (mkF m 46 #[.val (.ref r0), .val (.int p1), .val (.int p2), .val (.long q3), .second, .val (.long ((1 : Int64) <<< (p2 &&& 0x3f).toInt64)), .second] [(.long ((1 : Int64) <<< (p2 &&& 0x3f).toInt64)), (.long xw), (.int p1), (.ref wa)])) rfl (hb hby d24_46)) ?_
      show OFin p e below _ _ T3 (mkF m 49 #[.val (.ref r0), .val (.int p1), .val (.int p2), .val (.long q3), .second, .val (.long ((1 : Int64) <<< (p2 &&& 0x3f).toInt64)), .second] [(.long (-1 : Int64)), (.long ((1 : Int64) <<< (p2 &&& 0x3f).toInt64)), (.long xw), (.int p1), (.ref wa)])
      refine OFin.st (fun t k => XS.lxor X3.here hx rfl (hb hby d24_49) rfl k) ?_
      show OFin p e below _ _ T3 (mkF m 50 #[.val (.ref r0), .val (.int p1), .val (.int p2), .val (.long q3), .second, .val (.long ((1 : Int64) <<< (p2 &&& 0x3f).toInt64)), .second] [(.long (((1 : Int64) <<< (p2 &&& 0x3f).toInt64) ^^^ (-1 : Int64))), (.long xw), (.int p1), (.ref wa)])
      refine OFin.st (fun t k => XS.land X3.here hx rfl (hb hby d24_50) rfl k) ?_
      show OFin p e below _ _ T3 (mkF m 51 #[.val (.ref r0), .val (.int p1), .val (.int p2), .val (.long q3), .second, .val (.long ((1 : Int64) <<< (p2 &&& 0x3f).toInt64)), .second] [(.long (xw &&& (((1 : Int64) <<< (p2 &&& 0x3f).toInt64) ^^^ (-1 : Int64)))), (.int p1), (.ref wa)])
      obtain ⟨T4, h4, X4, e4, W4, V4, st4⟩ := own_lastore X3 hx hZ e3 A_wa (i := ci) (j := p1) hci (own_lt_of hxw) (x := (xw &&& (((1 : Int64) <<< (p2 &&& 0x3f).toInt64) ^^^ (-1 : Int64)))) (pc := 51) (Ls := #[.val (.ref r0), .val (.int p1), .val (.int p2), .val (.long q3), .second, .val (.long ((1 : Int64) <<< (p2 &&& 0x3f).toInt64)), .second]) (rest := []) (hb hby d24_51)
      have N4 := Fr.snoc X4 N0 g_wa
      have K4 : Keep h0 h4 [wa, va] := (Keep.refl h0 [wa, va]).wr W4 (Or.inl (List.mem_of_getElem? (i := 0) rfl))
      have O4 : Old Z n0 h4 := O0.wr W4 g_wa
      refine OFin.st st4 ?_
      show OFin p e below _ _ T4 (mkF m 52 #[.val (.ref r0), .val (.int p1), .val (.int p2), .val (.long q3), .second, .val (.long ((1 : Int64) <<< (p2 &&& 0x3f).toInt64)), .second] [])
      refine OFin.st (fun t k => XS.goto X4.here hx rfl (pc0 := 52) (pc' := 69) rfl (hb hby d24_52) (by decide) (by decide) k) ?_
      show OFin p e below _ _ T4 (mkF m 69 #[.val (.ref r0), .val (.int p1), .val (.int p2), .val (.long q3), .second, .val (.long ((1 : Int64) <<< (p2 &&& 0x3f).toInt64)), .second] [])
      exact own_retV X4 hx Bd.returns Bd.notSynchronized (hb hby d24_69) (by show Qrm24 Z r0 p1 p2 q3 oa wa va ko kw kv vo vw vs ov ci vi xw h0 n0 _ T4.heap _; rw [e4]; exact ⟨rfl, N4, K4, (by rw [if_pos hc7, sbit, if_pos hc23]; exact V4), (by rw [if_pos hc7]; exact (A_va.other W4 (Ne.symm N_wa_va)))⟩) (own_endN (by decide) (by decide))
    · refine OFin.st (fun t k => XS.ifNo X2.here hx rfl (hb hby d24_23) rfl ((if0 _ _).trans (feq (fun q => hc23 ((lw_eq q3 (0 : Int64)).mp q))).1) k) ?_
      show OFin p e below _ _ T2 (mkF m 26 #[.val (.ref r0), .val (.int p1), .val (.int p2), .val (.long q3), .second, .val (.long ((1 : Int64) <<< (p2 &&& 0x3f).toInt64)), .second] [(.int p1), (.ref wa)])
      refine OFin.st (fun t k => XS.aloadN X2.here hx rfl (hb hby d24_26) rfl rfl k) ?_
      show OFin p e below _ _ T2 (mkF m 27 #[.val (.ref r0), .val (.int p1), .val (.int p2), .val (.long q3), .second, .val (.long ((1 : Int64) <<< (p2 &&& 0x3f).toInt64)), .second] [(.ref r0), (.int p1), (.ref wa)])
      obtain ⟨T5, X5, e5, st5⟩ := getF X2 hx hZ hown (host := "") (Or.inl (hw _ (List.mem_of_getElem? (i := 174) rfl))) Via.refl e2 F_words_r0 (g := (mkF m 27 #[.val (.ref r0), .val (.int p1), .val (.int p2), .val (.long q3), .second, .val (.long ((1 : Int64) <<< (p2 &&& 0x3f).toInt64)), .second] [(.ref r0), (.int p1), (.ref wa)])) rfl rfl (hb hby d24_27)
      refine OFin.st st5 ?_
      show OFin p e below _ _ T5 (mkF m 30 #[.val (.ref r0), .val (.int p1), .val (.int p2), .val (.long q3), .second, .val (.long ((1 : Int64) <<< (p2 &&& 0x3f).toInt64)), .second] [(.ref wa), (.int p1), (.ref wa)])
      refine OFin.st (fun t k => XS.iloadN X5.here hx rfl (hb hby d24_30) rfl k) ?_
      show OFin p e below _ _ T5 (mkF m 31 #[.val (.ref r0), .val (.int p1), .val (.int p2), .val (.long q3), .second, .val (.long ((1 : Int64) <<< (p2 &&& 0x3f).toInt64)), .second] [(.int p1), (.ref wa), (.int p1), (.ref wa)])
      refine own_laload X5 hx hZ e5 A_wa (i := ci) (j := p1) hci (v := (.long xw)) hxw (hb hby d24_31) (pc' := 32) rfl ?_
      show OFin p e below _ _ T5 (mkF m 32 #[.val (.ref r0), .val (.int p1), .val (.int p2), .val (.long q3), .second, .val (.long ((1 : Int64) <<< (p2 &&& 0x3f).toInt64)), .second] [(.long xw), (.int p1), (.ref wa)])
      refine OFin.st (fun t k => XS.lload X5.here hx rfl (hb hby d24_32) rfl k) ?_
      show OFin p e below _ _ T5 (mkF m 34 #[.val (.ref r0), .val (.int p1), .val (.int p2), .val (.long q3), .second, .val (.long ((1 : Int64) <<< (p2 &&& 0x3f).toInt64)), .second] [(.long ((1 : Int64) <<< (p2 &&& 0x3f).toInt64)), (.long xw), (.int p1), (.ref wa)])
      refine OFin.st (fun t k => XS.lor X5.here hx rfl (hb hby d24_34) rfl k) ?_
      show OFin p e below _ _ T5 (mkF m 35 #[.val (.ref r0), .val (.int p1), .val (.int p2), .val (.long q3), .second, .val (.long ((1 : Int64) <<< (p2 &&& 0x3f).toInt64)), .second] [(.long (xw ||| ((1 : Int64) <<< (p2 &&& 0x3f).toInt64))), (.int p1), (.ref wa)])
      refine OFin.st (fun t k => XS.goto X5.here hx rfl (pc0 := 35) (pc' := 51) rfl (hb hby d24_35) (by decide) (by decide) k) ?_
      show OFin p e below _ _ T5 (mkF m 51 #[.val (.ref r0), .val (.int p1), .val (.int p2), .val (.long q3), .second, .val (.long ((1 : Int64) <<< (p2 &&& 0x3f).toInt64)), .second] [(.long (xw ||| ((1 : Int64) <<< (p2 &&& 0x3f).toInt64))), (.int p1), (.ref wa)])
      obtain ⟨T6, h6, X6, e6, W6, V6, st6⟩ := own_lastore X5 hx hZ e5 A_wa (i := ci) (j := p1) hci (own_lt_of hxw) (x := (xw ||| ((1 : Int64) <<< (p2 &&& 0x3f).toInt64))) (pc := 51) (Ls := #[.val (.ref r0), .val (.int p1), .val (.int p2), .val (.long q3), .second, .val (.long ((1 : Int64) <<< (p2 &&& 0x3f).toInt64)), .second]) (rest := []) (hb hby d24_51)
      have N6 := Fr.snoc X6 N0 g_wa
      have K6 : Keep h0 h6 [wa, va] := (Keep.refl h0 [wa, va]).wr W6 (Or.inl (List.mem_of_getElem? (i := 0) rfl))
      have O6 : Old Z n0 h6 := O0.wr W6 g_wa
      refine OFin.st st6 ?_
      show OFin p e below _ _ T6 (mkF m 52 #[.val (.ref r0), .val (.int p1), .val (.int p2), .val (.long q3), .second, .val (.long ((1 : Int64) <<< (p2 &&& 0x3f).toInt64)), .second] [])
      refine OFin.st (fun t k => XS.goto X6.here hx rfl (pc0 := 52) (pc' := 69) rfl (hb hby d24_52) (by decide) (by decide) k) ?_
      show OFin p e below _ _ T6 (mkF m 69 #[.val (.ref r0), .val (.int p1), .val (.int p2), .val (.long q3), .second, .val (.long ((1 : Int64) <<< (p2 &&& 0x3f).toInt64)), .second] [])
      exact own_retV X6 hx Bd.returns Bd.notSynchronized (hb hby d24_69) (by show Qrm24 Z r0 p1 p2 q3 oa wa va ko kw kv vo vw vs ov ci vi xw h0 n0 _ T6.heap _; rw [e6]; exact ⟨rfl, N6, K6, (by rw [if_pos hc7, sbit, if_neg hc23]; exact V6), (by rw [if_pos hc7]; exact (A_va.other W6 (Ne.symm N_wa_va)))⟩) (own_endN (by decide) (by decide))
  · refine OFin.st (fun t k => XS.icmpYes X1.here hx rfl (pc0 := 7) (pc' := 55) rfl (hb hby d24_7) rfl (feq hc7).2 (by decide) (by decide) k) ?_
    show OFin p e below _ _ T1 (mkF m 55 #[.val (.ref r0), .val (.int p1), .val (.int p2), .val (.long q3), .second, .unset, .unset] [])
    refine OFin.st (fun t k => XS.aloadN X1.here hx rfl (hb hby d24_55) rfl rfl k) ?_
    show OFin p e below _ _ T1 (mkF m 56 #[.val (.ref r0), .val (.int p1), .val (.int p2), .val (.long q3), .second, .unset, .unset] [(.ref r0)])
    obtain ⟨T7, X7, e7, st7⟩ := getF X1 hx hZ hown (host := "") (Or.inl (hw _ (List.mem_of_getElem? (i := 176) rfl))) Via.refl e1 F_values_r0 (g := (mkF m 56 #[.val (.ref r0), .val (.int p1), .val (.int p2), .val (.long q3), .second, .unset, .unset] [(.ref r0)])) rfl rfl (hb hby d24_56)
    refine OFin.st st7 ?_
    show OFin p e below _ _ T7 (mkF m 59 #[.val (.ref r0), .val (.int p1), .val (.int p2), .val (.long q3), .second, .unset, .unset] [(.ref va)])
    refine OFin.st (fun t k => XS.aloadN X7.here hx rfl (hb hby d24_59) rfl rfl k) ?_
    show OFin p e below _ _ T7 (mkF m 60 #[.val (.ref r0), .val (.int p1), .val (.int p2), .val (.long q3), .second, .unset, .unset] [(.ref r0), (.ref va)])
    obtain ⟨T8, X8, e8, st8⟩ := getF X7 hx hZ hown (host := "") (Or.inl (hw _ (List.mem_of_getElem? (i := 108) rfl))) Via.refl e7 F_offsets_r0 (g := (mkF m 60 #[.val (.ref r0), .val (.int p1), .val (.int p2), .val (.long q3), .second, .unset, .unset] [(.ref r0), (.ref va)])) rfl rfl (hb hby d24_60)
    refine OFin.st st8 ?_
    show OFin p e below _ _ T8 (mkF m 63 #[.val (.ref r0), .val (.int p1), .val (.int p2), .val (.long q3), .second, .unset, .unset] [(.ref oa), (.ref va)])
    refine OFin.st (fun t k => XS.iloadN X8.here hx rfl (hb hby d24_63) rfl k) ?_
    show OFin p e below _ _ T8 (mkF m 64 #[.val (.ref r0), .val (.int p1), .val (.int p2), .val (.long q3), .second, .unset, .unset] [(.int p1), (.ref oa), (.ref va)])
    refine own_iaload X8 hx hZ e8 A_oa (i := ci) (j := p1) hci (v := (.int ov)) hov (hb hby d24_64) (pc' := 65) rfl ?_
    show OFin p e below _ _ T8 (mkF m 65 #[.val (.ref r0), .val (.int p1), .val (.int p2), .val (.long q3), .second, .unset, .unset] [(.int ov), (.ref va)])
    refine OFin.st (fun t k => XS.iloadN X8.here hx rfl (hb hby d24_65) rfl k) ?_
    show OFin p e below _ _ T8 (mkF m 66 #[.val (.ref r0), .val (.int p1), .val (.int p2), .val (.long q3), .second, .unset, .unset] [(.int p2), (.int ov), (.ref va)])
    refine OFin.st (fun t k => XS.iadd X8.here hx rfl (hb hby d24_66) rfl k) ?_
    show OFin p e below _ _ T8 (mkF m 67 #[.val (.ref r0), .val (.int p1), .val (.int p2), .val (.long q3), .second, .unset, .unset] [(.int (ov + p2)), (.ref va)])
    refine OFin.st (fun t k => XS.lloadN X8.here hx rfl (hb hby d24_67) rfl k) ?_
    show OFin p e below _ _ T8 (mkF m 68 #[.val (.ref r0), .val (.int p1), .val (.int p2), .val (.long q3), .second, .unset, .unset] [(.long q3), (.int (ov + p2)), (.ref va)])
    obtain ⟨T9, h9, X9, e9, W9, V9, st9⟩ := own_lastore X8 hx hZ e8 A_va (i := vi) (j := (ov + p2)) (hvi hc7).1 (hvi hc7).2 (x := q3) (pc := 68) (Ls := #[.val (.ref r0), .val (.int p1), .val (.int p2), .val (.long q3), .second, .unset, .unset]) (rest := []) (hb hby d24_68)
    have N9 := Fr.snoc X9 N0 g_va
    have K9 : Keep h0 h9 [wa, va] := (Keep.refl h0 [wa, va]).wr W9 (Or.inl (List.mem_of_getElem? (i := 1) rfl))
    have O9 : Old Z n0 h9 := O0.wr W9 g_va
    refine OFin.st st9 ?_
    show OFin p e below _ _ T9 (mkF m 69 #[.val (.ref r0), .val (.int p1), .val (.int p2), .val (.long q3), .second, .unset, .unset] [])
    exact own_retV X9 hx Bd.returns Bd.notSynchronized (hb hby d24_69) (by show Qrm24 Z r0 p1 p2 q3 oa wa va ko kw kv vo vw vs ov ci vi xw h0 n0 _ T9.heap _; rw [e9]; exact ⟨rfl, N9, K9, (by rw [if_neg hc7]; exact (A_wa.other W9 N_wa_va)), (by rw [if_neg hc7]; exact V9)⟩) (own_endN (by decide) (by decide))
theorem ef_rm25 (m : MethodId) (r0 : Addr) (p1 : Int32) (p2 : Int32) : entryFrame m #[(.ref r0), (.int p1), (.int p2)] 5 = mkF m 0 #[.val (.ref r0), .val (.int p1), .val (.int p2), .unset, .unset] [] := by first | (simp [entryFrame, mkF, argsToLocals, Value.category]; done) | rfl
def F25 (r0 : Addr) (p1 : Int32) (p2 : Int32) (oa : Addr) (wa : Addr) (va : Addr) (ko : ClassId) (kw : ClassId) (kv : ClassId) (vo : List Value) (vw : List Value) (vs : List Value) (ov : Int32) (ci : Nat) (vi : Nat) (xw : Int64) (xv : Int64) : Int64 := if ov = (-1 : Int32) then (((xw.toUInt64 >>> (p2 &&& 0x3f).toInt64.toUInt64).toInt64) &&& (1 : Int64)) else xv
def Q25 (r0 : Addr) (p1 : Int32) (p2 : Int32) (oa : Addr) (wa : Addr) (va : Addr) (ko : ClassId) (kw : ClassId) (kv : ClassId) (vo : List Value) (vw : List Value) (vs : List Value) (ov : Int32) (ci : Nat) (vi : Nat) (xw : Int64) (xv : Int64) (h0 : Heap) (n0 : Nat) (v : Option Value) (h : Heap) (L : List Loc) : Prop := v = some (Value.long (F25 r0 p1 p2 oa wa va ko kw kv vo vw vs ov ci vi xw xv)) ∧ Fr n0 L ∧ h = h0
set_option maxRecDepth 65536 in
set_option maxHeartbeats 40000000 in
theorem rm25 (l : Launch) (Z : State) (a0 : Array Value) (hw : ∀ d ∈ tables_1, d.before a0 Z = true) (ws : List Jvm.Cond) (r0 : Addr) (p1 : Int32) (p2 : Int32) (oa : Addr) (wa : Addr) (va : Addr) (ko : ClassId) (kw : ClassId) (kv : ClassId) (vo : List Value) (vw : List Value) (vs : List Value) (ov : Int32) (ci : Nat) (vi : Nat) (xw : Int64) (xv : Int64) (h0 : Heap) (n0 : Nat) (O0 : Old Z n0 h0) (E_r0 : Exa Z h0 r0 "com/example/verdikt/verdikt/model/Lanes") (F_offsets_r0 : Fld Z h0 r0 "com/example/verdikt/verdikt/model/Lanes" "offsets" "[I" (.ref oa)) (F_words_r0 : Fld Z h0 r0 "com/example/verdikt/verdikt/model/Lanes" "words" "[J" (.ref wa)) (F_values_r0 : Fld Z h0 r0 "com/example/verdikt/verdikt/model/Lanes" "values" "[J" (.ref va)) (A_oa : Oar Z h0 oa ko .int vo) (A_wa : Oar Z h0 wa kw .long vw) (A_va : Oar Z h0 va kv .long vs) (hci : p1.toInt = (ci : Int)) (hov : vo[ci]? = some (Value.int ov)) (hxw : vw[ci]? = some (Value.long xw)) (hxv : ¬ ov = (-1 : Int32) → (ov + p2).toInt = (vi : Int) ∧ vs[vi]? = some (Value.long xv)) :
    MetFree l (⟨"com/example/verdikt/verdikt/model/Lanes", "cell", "(II)J"⟩ : MethodName) (head1 (Jvm.Cond.code (⟨"com/example/verdikt/verdikt/model/Lanes", "cell", "(II)J"⟩ : MethodName) prog_90_method_7_code 5 (some .long) :: ws) ({ frames := 0, cells := 0, slots := 0, locals := 0 } : Room)) (fun a U => a = #[(.ref r0), (.int p1), (.int p2)] ∧ Z.Warmed39 U.vm ∧ U.heap = h0) (fun _ _ _ _ _ => True) (fun _ U o U' => ∃ v L, o = .returned v ∧ Q25 r0 p1 p2 oa wa va ko kw kv vo vw vs ov ci vi xw xv h0 n0 v U'.heap L ∧ FrameEnd U o U' L ({ frames := 0, cells := 0, slots := 0, locals := 0 } : Room).cells ({ frames := 0, cells := 0, slots := 0, locals := 0 } : Room).slots) := by
  refine MetFree.of_bodySF (plainFor_of_name pn_com_example_verdikt_verdikt_model_Lanes) hisR ?_
  intro p e s m args below meth c s₁ Bd hml0 hP hK
  obtain ⟨rfl, hZ, hh⟩ := hP
  have hx := Bd.exec
  have hby := Bd.bytes
  have hml : c.maxLocals = 5 := hml0
  have hown : s.vm.findClass "com/example/verdikt/verdikt/model/Lanes" = some m.cls := findClass_of_methodNamed Bd.named
  have hnm := (name_of_methodNamed Bd.named Bd.method).1
  have X0 : Stand p l e ({ frames := 0, cells := 0, slots := 0, locals := 0 } : Room) s m #[(.ref r0), (.int p1), (.int p2)] below meth c s₁ [] 0 0 := Stand.of_body Bd
  have e0 : s₁.heap = h0 := by rw [← hh, Bd.state]; rfl
  have N0 := Fr.nil n0
  show OFin p e below (fun o t L => FrameEnd s o t L ({ frames := 0, cells := 0, slots := 0, locals := 0 } : Room).cells ({ frames := 0, cells := 0, slots := 0, locals := 0 } : Room).slots) (fun v h L => Q25 r0 p1 p2 oa wa va ko kw kv vo vw vs ov ci vi xw xv h0 n0 v h L) s₁ (entryFrame m #[(.ref r0), (.int p1), (.int p2)] 5)
  refine OFin.cast (ef_rm25 m r0 p1 p2) ?_
  show OFin p e below _ _ s₁ (mkF m 0 #[.val (.ref r0), .val (.int p1), .val (.int p2), .unset, .unset] [])
  refine OFin.st (fun t k => XS.aloadN X0.here hx rfl (hb hby d25_0) rfl rfl k) ?_
  show OFin p e below _ _ s₁ (mkF m 1 #[.val (.ref r0), .val (.int p1), .val (.int p2), .unset, .unset] [(.ref r0)])
  obtain ⟨T1, X1, e1, st1⟩ := getF X0 hx hZ hown (host := "") (Or.inl (hw _ (List.mem_of_getElem? (i := 108) rfl))) Via.refl e0 F_offsets_r0 (g := (mkF m 1 #[.val (.ref r0), .val (.int p1), .val (.int p2), .unset, .unset] [(.ref r0)])) rfl rfl (hb hby d25_1)
  refine OFin.st st1 ?_
  show OFin p e below _ _ T1 (mkF m 4 #[.val (.ref r0), .val (.int p1), .val (.int p2), .unset, .unset] [(.ref oa)])
  refine OFin.st (fun t k => XS.iloadN X1.here hx rfl (hb hby d25_4) rfl k) ?_
  show OFin p e below _ _ T1 (mkF m 5 #[.val (.ref r0), .val (.int p1), .val (.int p2), .unset, .unset] [(.int p1), (.ref oa)])
  refine own_iaload X1 hx hZ e1 A_oa (i := ci) (j := p1) hci (v := (.int ov)) hov (hb hby d25_5) (pc' := 6) rfl ?_
  show OFin p e below _ _ T1 (mkF m 6 #[.val (.ref r0), .val (.int p1), .val (.int p2), .unset, .unset] [(.int ov)])
  refine OFin.st (fun t k => XS.iconst X1.here hx rfl (hb hby d25_6) k) ?_
  show OFin p e below _ _ T1 (mkF m 7 #[.val (.ref r0), .val (.int p1), .val (.int p2), .unset, .unset] [(.int (-1 : Int32)), (.int ov)])
  by_cases hc7 : ov = (-1 : Int32)
  · refine OFin.st (fun t k => XS.icmpNo X1.here hx rfl (hb hby d25_7) rfl (teq hc7).2 k) ?_
    show OFin p e below _ _ T1 (mkF m 10 #[.val (.ref r0), .val (.int p1), .val (.int p2), .unset, .unset] [])
    refine OFin.st (fun t k => XS.aloadN X1.here hx rfl (hb hby d25_10) rfl rfl k) ?_
    show OFin p e below _ _ T1 (mkF m 11 #[.val (.ref r0), .val (.int p1), .val (.int p2), .unset, .unset] [(.ref r0)])
    obtain ⟨T2, X2, e2, st2⟩ := getF X1 hx hZ hown (host := "") (Or.inl (hw _ (List.mem_of_getElem? (i := 174) rfl))) Via.refl e1 F_words_r0 (g := (mkF m 11 #[.val (.ref r0), .val (.int p1), .val (.int p2), .unset, .unset] [(.ref r0)])) rfl rfl (hb hby d25_11)
    refine OFin.st st2 ?_
    show OFin p e below _ _ T2 (mkF m 14 #[.val (.ref r0), .val (.int p1), .val (.int p2), .unset, .unset] [(.ref wa)])
    refine OFin.st (fun t k => XS.iloadN X2.here hx rfl (hb hby d25_14) rfl k) ?_
    show OFin p e below _ _ T2 (mkF m 15 #[.val (.ref r0), .val (.int p1), .val (.int p2), .unset, .unset] [(.int p1), (.ref wa)])
    refine own_laload X2 hx hZ e2 A_wa (i := ci) (j := p1) hci (v := (.long xw)) hxw (hb hby d25_15) (pc' := 16) rfl ?_
    show OFin p e below _ _ T2 (mkF m 16 #[.val (.ref r0), .val (.int p1), .val (.int p2), .unset, .unset] [(.long xw)])
    refine OFin.st (fun t k => XS.iloadN X2.here hx rfl (hb hby d25_16) rfl k) ?_
    show OFin p e below _ _ T2 (mkF m 17 #[.val (.ref r0), .val (.int p1), .val (.int p2), .unset, .unset] [(.int p2), (.long xw)])
    refine OFin.st (fun t k => XS.lushr X2.here hx rfl (hb hby d25_17) rfl k) ?_
    show OFin p e below _ _ T2 (mkF m 18 #[.val (.ref r0), .val (.int p1), .val (.int p2), .unset, .unset] [(.long ((xw.toUInt64 >>> (p2 &&& 0x3f).toInt64.toUInt64).toInt64))])
    refine OFin.st (fun t k => XS.lconst X2.here hx rfl (hb hby d25_18) k) ?_
    show OFin p e below _ _ T2 (mkF m 19 #[.val (.ref r0), .val (.int p1), .val (.int p2), .unset, .unset] [(.long (1 : Int64)), (.long ((xw.toUInt64 >>> (p2 &&& 0x3f).toInt64.toUInt64).toInt64))])
    refine OFin.st (fun t k => XS.land X2.here hx rfl (hb hby d25_19) rfl k) ?_
    show OFin p e below _ _ T2 (mkF m 20 #[.val (.ref r0), .val (.int p1), .val (.int p2), .unset, .unset] [(.long (((xw.toUInt64 >>> (p2 &&& 0x3f).toInt64.toUInt64).toInt64) &&& (1 : Int64)))])
    refine OFin.st (fun t k => XS.lstoreN X2.here hx rfl (hb hby d25_20) rfl (l' := #[.val (.ref r0), .val (.int p1), .val (.int p2), .val (.long (((xw.toUInt64 >>> (p2 &&& 0x3f).toInt64.toUInt64).toInt64) &&& (1 : Int64))), .second]) rfl k) ?_
    show OFin p e below _ _ T2 (mkF m 21 #[.val (.ref r0), .val (.int p1), .val (.int p2), .val (.long (((xw.toUInt64 >>> (p2 &&& 0x3f).toInt64.toUInt64).toInt64) &&& (1 : Int64))), .second] [])
    refine OFin.st (fun t k => XS.goto X2.here hx rfl (pc0 := 21) (pc' := 38) rfl (hb hby d25_21) (by decide) (by decide) k) ?_
    show OFin p e below _ _ T2 (mkF m 38 #[.val (.ref r0), .val (.int p1), .val (.int p2), .val (.long (((xw.toUInt64 >>> (p2 &&& 0x3f).toInt64.toUInt64).toInt64) &&& (1 : Int64))), .second] [])
    refine OFin.st (fun t k => XS.lloadN X2.here hx rfl (hb hby d25_38) rfl k) ?_
    show OFin p e below _ _ T2 (mkF m 39 #[.val (.ref r0), .val (.int p1), .val (.int p2), .val (.long (((xw.toUInt64 >>> (p2 &&& 0x3f).toInt64.toUInt64).toInt64) &&& (1 : Int64))), .second] [(.long (((xw.toUInt64 >>> (p2 &&& 0x3f).toInt64.toUInt64).toInt64) &&& (1 : Int64)))])
    exact own_retJ X2 hx Bd.returns Bd.notSynchronized (hb hby d25_39) ⟨(by rw [F25, if_pos hc7]; try rfl), N0, e2⟩ (own_endN (by decide) (by decide))
  · refine OFin.st (fun t k => XS.icmpYes X1.here hx rfl (pc0 := 7) (pc' := 24) rfl (hb hby d25_7) rfl (feq hc7).2 (by decide) (by decide) k) ?_
    show OFin p e below _ _ T1 (mkF m 24 #[.val (.ref r0), .val (.int p1), .val (.int p2), .unset, .unset] [])
    refine OFin.st (fun t k => XS.aloadN X1.here hx rfl (hb hby d25_24) rfl rfl k) ?_
    show OFin p e below _ _ T1 (mkF m 25 #[.val (.ref r0), .val (.int p1), .val (.int p2), .unset, .unset] [(.ref r0)])
    obtain ⟨T3, X3, e3, st3⟩ := getF X1 hx hZ hown (host := "") (Or.inl (hw _ (List.mem_of_getElem? (i := 176) rfl))) Via.refl e1 F_values_r0 (g := (mkF m 25 #[.val (.ref r0), .val (.int p1), .val (.int p2), .unset, .unset] [(.ref r0)])) rfl rfl (hb hby d25_25)
    refine OFin.st st3 ?_
    show OFin p e below _ _ T3 (mkF m 28 #[.val (.ref r0), .val (.int p1), .val (.int p2), .unset, .unset] [(.ref va)])
    refine OFin.st (fun t k => XS.aloadN X3.here hx rfl (hb hby d25_28) rfl rfl k) ?_
    show OFin p e below _ _ T3 (mkF m 29 #[.val (.ref r0), .val (.int p1), .val (.int p2), .unset, .unset] [(.ref r0), (.ref va)])
    obtain ⟨T4, X4, e4, st4⟩ := getF X3 hx hZ hown (host := "") (Or.inl (hw _ (List.mem_of_getElem? (i := 108) rfl))) Via.refl e3 F_offsets_r0 (g := (mkF m 29 #[.val (.ref r0), .val (.int p1), .val (.int p2), .unset, .unset] [(.ref r0), (.ref va)])) rfl rfl (hb hby d25_29)
    refine OFin.st st4 ?_
    show OFin p e below _ _ T4 (mkF m 32 #[.val (.ref r0), .val (.int p1), .val (.int p2), .unset, .unset] [(.ref oa), (.ref va)])
    refine OFin.st (fun t k => XS.iloadN X4.here hx rfl (hb hby d25_32) rfl k) ?_
    show OFin p e below _ _ T4 (mkF m 33 #[.val (.ref r0), .val (.int p1), .val (.int p2), .unset, .unset] [(.int p1), (.ref oa), (.ref va)])
    refine own_iaload X4 hx hZ e4 A_oa (i := ci) (j := p1) hci (v := (.int ov)) hov (hb hby d25_33) (pc' := 34) rfl ?_
    show OFin p e below _ _ T4 (mkF m 34 #[.val (.ref r0), .val (.int p1), .val (.int p2), .unset, .unset] [(.int ov), (.ref va)])
    refine OFin.st (fun t k => XS.iloadN X4.here hx rfl (hb hby d25_34) rfl k) ?_
    show OFin p e below _ _ T4 (mkF m 35 #[.val (.ref r0), .val (.int p1), .val (.int p2), .unset, .unset] [(.int p2), (.int ov), (.ref va)])
    refine OFin.st (fun t k => XS.iadd X4.here hx rfl (hb hby d25_35) rfl k) ?_
    show OFin p e below _ _ T4 (mkF m 36 #[.val (.ref r0), .val (.int p1), .val (.int p2), .unset, .unset] [(.int (ov + p2)), (.ref va)])
    refine own_laload X4 hx hZ e4 A_va (i := vi) (j := (ov + p2)) (hxv hc7).1 (v := (.long xv)) (hxv hc7).2 (hb hby d25_36) (pc' := 37) rfl ?_
    show OFin p e below _ _ T4 (mkF m 37 #[.val (.ref r0), .val (.int p1), .val (.int p2), .unset, .unset] [(.long xv)])
    refine OFin.st (fun t k => XS.lstoreN X4.here hx rfl (hb hby d25_37) rfl (l' := #[.val (.ref r0), .val (.int p1), .val (.int p2), .val (.long xv), .second]) rfl k) ?_
    show OFin p e below _ _ T4 (mkF m 38 #[.val (.ref r0), .val (.int p1), .val (.int p2), .val (.long xv), .second] [])
    refine OFin.st (fun t k => XS.lloadN X4.here hx rfl (hb hby d25_38) rfl k) ?_
    show OFin p e below _ _ T4 (mkF m 39 #[.val (.ref r0), .val (.int p1), .val (.int p2), .val (.long xv), .second] [(.long xv)])
    exact own_retJ X4 hx Bd.returns Bd.notSynchronized (hb hby d25_39) ⟨(by rw [F25, if_neg hc7]; try rfl), N0, e4⟩ (own_endN (by decide) (by decide))
theorem ef_rm26 (m : MethodId) (r0 : Addr) (p1 : Int32) : entryFrame m #[(.ref r0), (.int p1)] 2 = mkF m 0 #[.val (.ref r0), .val (.int p1)] [] := by first | (simp [entryFrame, mkF, argsToLocals, Value.category]; done) | rfl
def F26 (r0 : Addr) (p1 : Int32) (wa : Addr) (kw : ClassId) (vw : List Value) (ci : Nat) (xw : Int64) : Int64 := xw
def Q26 (r0 : Addr) (p1 : Int32) (wa : Addr) (kw : ClassId) (vw : List Value) (ci : Nat) (xw : Int64) (h0 : Heap) (n0 : Nat) (v : Option Value) (h : Heap) (L : List Loc) : Prop := v = some (Value.long (F26 r0 p1 wa kw vw ci xw)) ∧ Fr n0 L ∧ h = h0
set_option maxRecDepth 65536 in
set_option maxHeartbeats 40000000 in
theorem rm26 (l : Launch) (Z : State) (a0 : Array Value) (hw : ∀ d ∈ tables_1, d.before a0 Z = true) (ws : List Jvm.Cond) (r0 : Addr) (p1 : Int32) (wa : Addr) (kw : ClassId) (vw : List Value) (ci : Nat) (xw : Int64) (h0 : Heap) (n0 : Nat) (O0 : Old Z n0 h0) (E_r0 : Exa Z h0 r0 "com/example/verdikt/verdikt/model/Lanes") (F_words_r0 : Fld Z h0 r0 "com/example/verdikt/verdikt/model/Lanes" "words" "[J" (.ref wa)) (A_wa : Oar Z h0 wa kw .long vw) (hci : p1.toInt = (ci : Int)) (hxw : vw[ci]? = some (Value.long xw)) :
    MetFree l (⟨"com/example/verdikt/verdikt/model/Lanes", "bits", "(I)J"⟩ : MethodName) (head1 (Jvm.Cond.code (⟨"com/example/verdikt/verdikt/model/Lanes", "bits", "(I)J"⟩ : MethodName) prog_90_method_13_code 2 (some .long) :: ws) ({ frames := 0, cells := 0, slots := 0, locals := 0 } : Room)) (fun a U => a = #[(.ref r0), (.int p1)] ∧ Z.Warmed39 U.vm ∧ U.heap = h0) (fun _ _ _ _ _ => True) (fun _ U o U' => ∃ v L, o = .returned v ∧ Q26 r0 p1 wa kw vw ci xw h0 n0 v U'.heap L ∧ FrameEnd U o U' L ({ frames := 0, cells := 0, slots := 0, locals := 0 } : Room).cells ({ frames := 0, cells := 0, slots := 0, locals := 0 } : Room).slots) := by
  refine MetFree.of_bodySF (plainFor_of_name pn_com_example_verdikt_verdikt_model_Lanes) hisR ?_
  intro p e s m args below meth c s₁ Bd hml0 hP hK
  obtain ⟨rfl, hZ, hh⟩ := hP
  have hx := Bd.exec
  have hby := Bd.bytes
  have hml : c.maxLocals = 2 := hml0
  have hown : s.vm.findClass "com/example/verdikt/verdikt/model/Lanes" = some m.cls := findClass_of_methodNamed Bd.named
  have hnm := (name_of_methodNamed Bd.named Bd.method).1
  have X0 : Stand p l e ({ frames := 0, cells := 0, slots := 0, locals := 0 } : Room) s m #[(.ref r0), (.int p1)] below meth c s₁ [] 0 0 := Stand.of_body Bd
  have e0 : s₁.heap = h0 := by rw [← hh, Bd.state]; rfl
  have N0 := Fr.nil n0
  show OFin p e below (fun o t L => FrameEnd s o t L ({ frames := 0, cells := 0, slots := 0, locals := 0 } : Room).cells ({ frames := 0, cells := 0, slots := 0, locals := 0 } : Room).slots) (fun v h L => Q26 r0 p1 wa kw vw ci xw h0 n0 v h L) s₁ (entryFrame m #[(.ref r0), (.int p1)] 2)
  refine OFin.cast (ef_rm26 m r0 p1) ?_
  show OFin p e below _ _ s₁ (mkF m 0 #[.val (.ref r0), .val (.int p1)] [])
  refine OFin.st (fun t k => XS.aloadN X0.here hx rfl (hb hby d26_0) rfl rfl k) ?_
  show OFin p e below _ _ s₁ (mkF m 1 #[.val (.ref r0), .val (.int p1)] [(.ref r0)])
  obtain ⟨T1, X1, e1, st1⟩ := getF X0 hx hZ hown (host := "") (Or.inl (hw _ (List.mem_of_getElem? (i := 174) rfl))) Via.refl e0 F_words_r0 (g := (mkF m 1 #[.val (.ref r0), .val (.int p1)] [(.ref r0)])) rfl rfl (hb hby d26_1)
  refine OFin.st st1 ?_
  show OFin p e below _ _ T1 (mkF m 4 #[.val (.ref r0), .val (.int p1)] [(.ref wa)])
  refine OFin.st (fun t k => XS.iloadN X1.here hx rfl (hb hby d26_4) rfl k) ?_
  show OFin p e below _ _ T1 (mkF m 5 #[.val (.ref r0), .val (.int p1)] [(.int p1), (.ref wa)])
  refine own_laload X1 hx hZ e1 A_wa (i := ci) (j := p1) hci (v := (.long xw)) hxw (hb hby d26_5) (pc' := 6) rfl ?_
  show OFin p e below _ _ T1 (mkF m 6 #[.val (.ref r0), .val (.int p1)] [(.long xw)])
  exact own_retJ X1 hx Bd.returns Bd.notSynchronized (hb hby d26_6) ⟨(by rw [F26]; try rfl), N0, e1⟩ (own_endN (by decide) (by decide))
theorem ef_rm27 (m : MethodId) (p0 : Int32) (p1 : Int32) (p2 : Int32) (q3 : Int64) (q4 : Int64) : entryFrame m #[(.int p0), (.int p1), (.int p2), (.long q3), (.long q4)] 7 = mkF m 0 #[.val (.int p0), .val (.int p1), .val (.int p2), .val (.long q3), .second, .val (.long q4), .second] [] := by first | (simp [entryFrame, mkF, argsToLocals, Value.category]; done) | rfl
def F27 (p0 : Int32) (p1 : Int32) (p2 : Int32) (q3 : Int64) (q4 : Int64) : Int64 := if p0 = p2 then (((q3.toUInt64 >>> (p1 &&& 0x3f).toInt64.toUInt64).toInt64) &&& (1 : Int64)) else (q4 + (p0.toInt64))
def Q27 (p0 : Int32) (p1 : Int32) (p2 : Int32) (q3 : Int64) (q4 : Int64) (h0 : Heap) (n0 : Nat) (v : Option Value) (h : Heap) (L : List Loc) : Prop := v = some (Value.long (F27 p0 p1 p2 q3 q4)) ∧ Fr n0 L ∧ h = h0
set_option maxRecDepth 65536 in
set_option maxHeartbeats 40000000 in
theorem rm27 (l : Launch) (Z : State) (a0 : Array Value) (hw : ∀ d ∈ tables_1, d.before a0 Z = true) (ws : List Jvm.Cond) (p0 : Int32) (p1 : Int32) (p2 : Int32) (q3 : Int64) (q4 : Int64) (h0 : Heap) (n0 : Nat) (O0 : Old Z n0 h0)  :
    MetFree l (⟨"com/example/verdikt/verdikt/model/LanesSetCellPinLaw", "before", "(IIIJJ)J"⟩ : MethodName) (head1 (Jvm.Cond.code (⟨"com/example/verdikt/verdikt/model/LanesSetCellPinLaw", "before", "(IIIJJ)J"⟩ : MethodName) method_3_code 7 (some .long) :: ws) ({ frames := 0, cells := 0, slots := 0, locals := 0 } : Room)) (fun a U => a = #[(.int p0), (.int p1), (.int p2), (.long q3), (.long q4)] ∧ Z.Warmed39 U.vm ∧ U.heap = h0) (fun _ _ _ _ _ => True) (fun _ U o U' => ∃ v L, o = .returned v ∧ Q27 p0 p1 p2 q3 q4 h0 n0 v U'.heap L ∧ FrameEnd U o U' L ({ frames := 0, cells := 0, slots := 0, locals := 0 } : Room).cells ({ frames := 0, cells := 0, slots := 0, locals := 0 } : Room).slots) := by
  refine MetFree.of_bodySF (plainFor_of_name pn_com_example_verdikt_verdikt_model_LanesSetCellPinLaw) hisR ?_
  intro p e s m args below meth c s₁ Bd hml0 hP hK
  obtain ⟨rfl, hZ, hh⟩ := hP
  have hx := Bd.exec
  have hby := Bd.bytes
  have hml : c.maxLocals = 7 := hml0
  have hown : s.vm.findClass "com/example/verdikt/verdikt/model/LanesSetCellPinLaw" = some m.cls := findClass_of_methodNamed Bd.named
  have hnm := (name_of_methodNamed Bd.named Bd.method).1
  have X0 : Stand p l e ({ frames := 0, cells := 0, slots := 0, locals := 0 } : Room) s m #[(.int p0), (.int p1), (.int p2), (.long q3), (.long q4)] below meth c s₁ [] 0 0 := Stand.of_body Bd
  have e0 : s₁.heap = h0 := by rw [← hh, Bd.state]; rfl
  have N0 := Fr.nil n0
  show OFin p e below (fun o t L => FrameEnd s o t L ({ frames := 0, cells := 0, slots := 0, locals := 0 } : Room).cells ({ frames := 0, cells := 0, slots := 0, locals := 0 } : Room).slots) (fun v h L => Q27 p0 p1 p2 q3 q4 h0 n0 v h L) s₁ (entryFrame m #[(.int p0), (.int p1), (.int p2), (.long q3), (.long q4)] 7)
  refine OFin.cast (ef_rm27 m p0 p1 p2 q3 q4) ?_
  show OFin p e below _ _ s₁ (mkF m 0 #[.val (.int p0), .val (.int p1), .val (.int p2), .val (.long q3), .second, .val (.long q4), .second] [])
  refine OFin.st (fun t k => XS.iloadN X0.here hx rfl (hb hby d27_0) rfl k) ?_
  show OFin p e below _ _ s₁ (mkF m 1 #[.val (.int p0), .val (.int p1), .val (.int p2), .val (.long q3), .second, .val (.long q4), .second] [(.int p0)])
  refine OFin.st (fun t k => XS.iloadN X0.here hx rfl (hb hby d27_1) rfl k) ?_
  show OFin p e below _ _ s₁ (mkF m 2 #[.val (.int p0), .val (.int p1), .val (.int p2), .val (.long q3), .second, .val (.long q4), .second] [(.int p2), (.int p0)])
  by_cases hc2 : p0 = p2
  · refine OFin.st (fun t k => XS.icmpNo X0.here hx rfl (hb hby d27_2) rfl (teq hc2).2 k) ?_
    show OFin p e below _ _ s₁ (mkF m 5 #[.val (.int p0), .val (.int p1), .val (.int p2), .val (.long q3), .second, .val (.long q4), .second] [])
    refine OFin.st (fun t k => XS.lloadN X0.here hx rfl (hb hby d27_5) rfl k) ?_
    show OFin p e below _ _ s₁ (mkF m 6 #[.val (.int p0), .val (.int p1), .val (.int p2), .val (.long q3), .second, .val (.long q4), .second] [(.long q3)])
    refine OFin.st (fun t k => XS.iloadN X0.here hx rfl (hb hby d27_6) rfl k) ?_
    show OFin p e below _ _ s₁ (mkF m 7 #[.val (.int p0), .val (.int p1), .val (.int p2), .val (.long q3), .second, .val (.long q4), .second] [(.int p1), (.long q3)])
    refine OFin.st (fun t k => XS.lushr X0.here hx rfl (hb hby d27_7) rfl k) ?_
    show OFin p e below _ _ s₁ (mkF m 8 #[.val (.int p0), .val (.int p1), .val (.int p2), .val (.long q3), .second, .val (.long q4), .second] [(.long ((q3.toUInt64 >>> (p1 &&& 0x3f).toInt64.toUInt64).toInt64))])
    refine OFin.st (fun t k => XS.lconst X0.here hx rfl (hb hby d27_8) k) ?_
    show OFin p e below _ _ s₁ (mkF m 9 #[.val (.int p0), .val (.int p1), .val (.int p2), .val (.long q3), .second, .val (.long q4), .second] [(.long (1 : Int64)), (.long ((q3.toUInt64 >>> (p1 &&& 0x3f).toInt64.toUInt64).toInt64))])
    refine OFin.st (fun t k => XS.land X0.here hx rfl (hb hby d27_9) rfl k) ?_
    show OFin p e below _ _ s₁ (mkF m 10 #[.val (.int p0), .val (.int p1), .val (.int p2), .val (.long q3), .second, .val (.long q4), .second] [(.long (((q3.toUInt64 >>> (p1 &&& 0x3f).toInt64.toUInt64).toInt64) &&& (1 : Int64)))])
    refine OFin.st (fun t k => XS.goto X0.here hx rfl (pc0 := 10) (pc' := 18) rfl (hb hby d27_10) (by decide) (by decide) k) ?_
    show OFin p e below _ _ s₁ (mkF m 18 #[.val (.int p0), .val (.int p1), .val (.int p2), .val (.long q3), .second, .val (.long q4), .second] [(.long (((q3.toUInt64 >>> (p1 &&& 0x3f).toInt64.toUInt64).toInt64) &&& (1 : Int64)))])
    exact own_retJ X0 hx Bd.returns Bd.notSynchronized (hb hby d27_18) ⟨(by rw [F27, if_pos hc2]; try rfl), N0, e0⟩ (own_endN (by decide) (by decide))
  · refine OFin.st (fun t k => XS.icmpYes X0.here hx rfl (pc0 := 2) (pc' := 13) rfl (hb hby d27_2) rfl (feq hc2).2 (by decide) (by decide) k) ?_
    show OFin p e below _ _ s₁ (mkF m 13 #[.val (.int p0), .val (.int p1), .val (.int p2), .val (.long q3), .second, .val (.long q4), .second] [])
    refine OFin.st (fun t k => XS.lload X0.here hx rfl (hb hby d27_13) rfl k) ?_
    show OFin p e below _ _ s₁ (mkF m 15 #[.val (.int p0), .val (.int p1), .val (.int p2), .val (.long q3), .second, .val (.long q4), .second] [(.long q4)])
    refine OFin.st (fun t k => XS.iloadN X0.here hx rfl (hb hby d27_15) rfl k) ?_
    show OFin p e below _ _ s₁ (mkF m 16 #[.val (.int p0), .val (.int p1), .val (.int p2), .val (.long q3), .second, .val (.long q4), .second] [(.int p0), (.long q4)])
    refine OFin.st (fun t k => XS.i2l X0.here hx rfl (hb hby d27_16) rfl k) ?_
    show OFin p e below _ _ s₁ (mkF m 17 #[.val (.int p0), .val (.int p1), .val (.int p2), .val (.long q3), .second, .val (.long q4), .second] [(.long (p0.toInt64)), (.long q4)])
    refine OFin.st (fun t k => XS.ladd X0.here hx rfl (hb hby d27_17) rfl k) ?_
    show OFin p e below _ _ s₁ (mkF m 18 #[.val (.int p0), .val (.int p1), .val (.int p2), .val (.long q3), .second, .val (.long q4), .second] [(.long (q4 + (p0.toInt64)))])
    exact own_retJ X0 hx Bd.returns Bd.notSynchronized (hb hby d27_18) ⟨(by rw [F27, if_neg hc2]; try rfl), N0, e0⟩ (own_endN (by decide) (by decide))
theorem ef_rm0 (m : MethodId) (p0 : Int32) (p1 : Int32) (p2 : Int32) (q3 : Int64) (q4 : Int64) (q5 : Int64) : entryFrame m #[(.int p0), (.int p1), (.int p2), (.long q3), (.long q4), (.long q5)] maxLocals = mkF m 0 #[.val (.int p0), .val (.int p1), .val (.int p2), .val (.long q3), .second, .val (.long q4), .second, .val (.long q5), .second, .unset, .unset, .unset, .unset, .unset, .unset, .unset, .unset, .unset, .unset, .unset, .unset, .unset, .unset, .unset, .unset, .unset, .unset, .unset, .unset, .unset, .unset, .unset, .unset, .unset, .unset, .unset, .unset] [] := by first | (simp [entryFrame, mkF, argsToLocals, Value.category, maxLocals]; done) | rfl
def Qrm0 (Z : State) (p0 : Int32) (p1 : Int32) (p2 : Int32) (q3 : Int64) (q4 : Int64) (q5 : Int64) (kD : ClassId) (w_DEFAULTCAPACITY_EMPTY_ELEMENTDATA : Addr) (w_BOOL : Addr) (h0 : Heap) (n0 : Nat) (v : Option Value) (h : Heap) (L : List Loc) : Prop := v = some (Value.int (1 : Int32)) ∧ Fr n0 L ∧ Keep h0 h []
set_option maxRecDepth 65536 in
set_option maxHeartbeats 40000000 in
theorem rm0 (l : Launch) (Z : State) (a0 : Array Value) (hw : ∀ d ∈ tables_1, d.before a0 Z = true) (ws : List Jvm.Cond) (p0 : Int32) (p1 : Int32) (p2 : Int32) (q3 : Int64) (q4 : Int64) (q5 : Int64) (kD : ClassId) (w_DEFAULTCAPACITY_EMPTY_ELEMENTDATA : Addr) (w_BOOL : Addr) (h0 : Heap) (n0 : Nat) (O0 : Old Z n0 h0) (A_w_DEFAULTCAPACITY_EMPTY_ELEMENTDATA : Oar Z Z.heap w_DEFAULTCAPACITY_EMPTY_ELEMENTDATA kD (.object "java/lang/Object") []) (S_DEFAULTCAPACITY_EMPTY_ELEMENTDATA : Sta Z Z.heap "java/util/ArrayList" "DEFAULTCAPACITY_EMPTY_ELEMENTDATA" "[Ljava/lang/Object;" (.ref w_DEFAULTCAPACITY_EMPTY_ELEMENTDATA)) (S_BOOL : Sta Z Z.heap "com/example/verdikt/verdikt/model/ElementaryType" "BOOL" "Lcom/example/verdikt/verdikt/model/ElementaryType;" (.ref w_BOOL)) :
    MetFree l x (head1 (Jvm.Cond.code x code maxLocals ret :: ws) room_1) (fun a U => a = #[(.int p0), (.int p1), (.int p2), (.long q3), (.long q4), (.long q5)] ∧ Z.Warmed39 U.vm ∧ U.heap = h0) (fun _ _ _ _ _ => True) (fun _ U o U' => ∃ v L, o = .returned v ∧ Qrm0 Z p0 p1 p2 q3 q4 q5 kD w_DEFAULTCAPACITY_EMPTY_ELEMENTDATA w_BOOL h0 n0 v U'.heap L ∧ ReturnedEndW U o U' L room_1.cells room_1.slots) := by
  refine MetFree.of_bodySF (plainFor_of_name pn_com_example_verdikt_verdikt_model_LanesSetCellPinLaw) hisR ?_
  intro p e s m args below meth c s₁ Bd hml0 hP hK
  obtain ⟨rfl, hZ, hh⟩ := hP
  have hx := Bd.exec
  have hby := Bd.bytes
  have hml : c.maxLocals = 37 := hml0
  have hown : s.vm.findClass "com/example/verdikt/verdikt/model/LanesSetCellPinLaw" = some m.cls := findClass_of_methodNamed Bd.named
  have hnm := (name_of_methodNamed Bd.named Bd.method).1
  have X0 : Stand p l e room_1 (s.setVm s.vm) m #[(.int p0), (.int p1), (.int p2), (.long q3), (.long q4), (.long q5)] below meth c s₁ [] 0 0 := Stand.of_body Bd
  have e0 : s₁.heap = h0 := by rw [← hh, Bd.state]; rfl
  have N0 := Fr.nil n0
  have hS0 : s.Since s.vm 0 := (State.WarmedH.refl s).since 0
  have hk0 : 0 ≤ h0.size := Nat.zero_le _
  show OFin p e below (fun o t L => ReturnedEndW s o t L room_1.cells room_1.slots) (fun v h L => Qrm0 Z p0 p1 p2 q3 q4 q5 kD w_DEFAULTCAPACITY_EMPTY_ELEMENTDATA w_BOOL h0 n0 v h L) s₁ (entryFrame m #[(.int p0), (.int p1), (.int p2), (.long q3), (.long q4), (.long q5)] maxLocals)
  refine OFin.cast (ef_rm0 m p0 p1 p2 q3 q4 q5) ?_
  show OFin p e below _ _ s₁ (mkF m 0 #[.val (.int p0), .val (.int p1), .val (.int p2), .val (.long q3), .second, .val (.long q4), .second, .val (.long q5), .second, .unset, .unset, .unset, .unset, .unset, .unset, .unset, .unset, .unset, .unset, .unset, .unset, .unset, .unset, .unset, .unset, .unset, .unset, .unset, .unset, .unset, .unset, .unset, .unset, .unset, .unset, .unset, .unset] [])
  refine OFin.st (fun t k => XS.iconst X0.here hx rfl (hb hby at_0) k) ?_
  refine OFin.st (fun t k => XS.iloadN X0.here hx rfl (hb hby at_1) rfl k) ?_
  refine OFin.st (fun t k => XS.bipush X0.here hx rfl (hb hby at_2) k) ?_
  refine OFin.st (fun t k => XS.iand X0.here hx rfl (hb hby at_4) rfl k) ?_
  show OFin p e below _ _ s₁ (mkF m 5 #[.val (.int p0), .val (.int p1), .val (.int p2), .val (.long q3), .second, .val (.long q4), .second, .val (.long q5), .second, .unset, .unset, .unset, .unset, .unset, .unset, .unset, .unset, .unset, .unset, .unset, .unset, .unset, .unset, .unset, .unset, .unset, .unset, .unset, .unset, .unset, .unset, .unset, .unset, .unset, .unset, .unset, .unset] [(.int (p0 &&& (63 : Int32))), (.int (1 : Int32))])
  refine OFin.st (fun t k => XS.iadd X0.here hx rfl (hb hby at_5) rfl k) ?_
  refine OFin.st (fun t k => XS.istore X0.here hx rfl (hb hby at_6) rfl (l' := #[.val (.int p0), .val (.int p1), .val (.int p2), .val (.long q3), .second, .val (.long q4), .second, .val (.long q5), .second, .val (.int ((1 : Int32) + (p0 &&& (63 : Int32)))), .unset, .unset, .unset, .unset, .unset, .unset, .unset, .unset, .unset, .unset, .unset, .unset, .unset, .unset, .unset, .unset, .unset, .unset, .unset, .unset, .unset, .unset, .unset, .unset, .unset, .unset, .unset]) rfl k) ?_
  refine OFin.st (fun t k => XS.iloadN X0.here hx rfl (hb hby at_8) rfl k) ?_
  refine OFin.st (fun t k => XS.bipush X0.here hx rfl (hb hby at_9) k) ?_
  show OFin p e below _ _ s₁ (mkF m 11 #[.val (.int p0), .val (.int p1), .val (.int p2), .val (.long q3), .second, .val (.long q4), .second, .val (.long q5), .second, .val (.int ((1 : Int32) + (p0 &&& (63 : Int32)))), .unset, .unset, .unset, .unset, .unset, .unset, .unset, .unset, .unset, .unset, .unset, .unset, .unset, .unset, .unset, .unset, .unset, .unset, .unset, .unset, .unset, .unset, .unset, .unset, .unset, .unset, .unset] [(.int (6 : Int32)), (.int p0)])
  refine OFin.st (fun t k => XS.iushr X0.here hx rfl (hb hby at_11) rfl k) ?_
  refine OFin.st (X0.ldcInt hx hown (mvT hZ (hw _ (List.mem_of_getElem? (i := 0) rfl))) (g := (mkF m 12 #[.val (.int p0), .val (.int p1), .val (.int p2), .val (.long q3), .second, .val (.long q4), .second, .val (.long q5), .second, .val (.int ((1 : Int32) + (p0 &&& (63 : Int32)))), .unset, .unset, .unset, .unset, .unset, .unset, .unset, .unset, .unset, .unset, .unset, .unset, .unset, .unset, .unset, .unset, .unset, .unset, .unset, .unset, .unset, .unset, .unset, .unset, .unset, .unset, .unset] [(.int ((p0.toUInt32 >>> ((6 : Int32) &&& 31).toUInt32).toInt32))])) rfl (hb hby at_12)) ?_
  refine OFin.st (fun t k => XS.iand X0.here hx rfl (hb hby at_14) rfl k) ?_
  refine OFin.st (fun t k => XS.iconst X0.here hx rfl (hb hby at_15) k) ?_
  show OFin p e below _ _ s₁ (mkF m 16 #[.val (.int p0), .val (.int p1), .val (.int p2), .val (.long q3), .second, .val (.long q4), .second, .val (.long q5), .second, .val (.int ((1 : Int32) + (p0 &&& (63 : Int32)))), .unset, .unset, .unset, .unset, .unset, .unset, .unset, .unset, .unset, .unset, .unset, .unset, .unset, .unset, .unset, .unset, .unset, .unset, .unset, .unset, .unset, .unset, .unset, .unset, .unset, .unset, .unset] [(.int (3 : Int32)), (.int (((p0.toUInt32 >>> ((6 : Int32) &&& 31).toUInt32).toInt32) &&& (65535 : Int32)))])
  refine OFin.st (fun t k => iremM X0 hx rfl (hb hby at_16) rfl (by decide) k) ?_
  refine OFin.st (fun t k => XS.istore X0.here hx rfl (hb hby at_17) rfl (l' := #[.val (.int p0), .val (.int p1), .val (.int p2), .val (.long q3), .second, .val (.long q4), .second, .val (.long q5), .second, .val (.int ((1 : Int32) + (p0 &&& (63 : Int32)))), .val (.int ((((p0.toUInt32 >>> ((6 : Int32) &&& 31).toUInt32).toInt32) &&& (65535 : Int32)) % (3 : Int32))), .unset, .unset, .unset, .unset, .unset, .unset, .unset, .unset, .unset, .unset, .unset, .unset, .unset, .unset, .unset, .unset, .unset, .unset, .unset, .unset, .unset, .unset, .unset, .unset, .unset, .unset]) rfl k) ?_
  refine OFin.st (fun t k => XS.iloadN X0.here hx rfl (hb hby at_19) rfl k) ?_
  refine OFin.st (fun t k => XS.bipush X0.here hx rfl (hb hby at_20) k) ?_
  show OFin p e below _ _ s₁ (mkF m 22 #[.val (.int p0), .val (.int p1), .val (.int p2), .val (.long q3), .second, .val (.long q4), .second, .val (.long q5), .second, .val (.int ((1 : Int32) + (p0 &&& (63 : Int32)))), .val (.int ((((p0.toUInt32 >>> ((6 : Int32) &&& 31).toUInt32).toInt32) &&& (65535 : Int32)) % (3 : Int32))), .unset, .unset, .unset, .unset, .unset, .unset, .unset, .unset, .unset, .unset, .unset, .unset, .unset, .unset, .unset, .unset, .unset, .unset, .unset, .unset, .unset, .unset, .unset, .unset, .unset, .unset] [(.int (22 : Int32)), (.int p0)])
  refine OFin.st (fun t k => XS.iushr X0.here hx rfl (hb hby at_22) rfl k) ?_
  refine OFin.st (fun t k => XS.sipush X0.here hx rfl (hb hby at_23) k) ?_
  refine OFin.st (fun t k => XS.iand X0.here hx rfl (hb hby at_26) rfl k) ?_
  refine OFin.st (fun t k => XS.iconst X0.here hx rfl (hb hby at_27) k) ?_
  show OFin p e below _ _ s₁ (mkF m 28 #[.val (.int p0), .val (.int p1), .val (.int p2), .val (.long q3), .second, .val (.long q4), .second, .val (.long q5), .second, .val (.int ((1 : Int32) + (p0 &&& (63 : Int32)))), .val (.int ((((p0.toUInt32 >>> ((6 : Int32) &&& 31).toUInt32).toInt32) &&& (65535 : Int32)) % (3 : Int32))), .unset, .unset, .unset, .unset, .unset, .unset, .unset, .unset, .unset, .unset, .unset, .unset, .unset, .unset, .unset, .unset, .unset, .unset, .unset, .unset, .unset, .unset, .unset, .unset, .unset, .unset] [(.int (3 : Int32)), (.int (((p0.toUInt32 >>> ((22 : Int32) &&& 31).toUInt32).toInt32) &&& (255 : Int32)))])
  refine OFin.st (fun t k => iremM X0 hx rfl (hb hby at_28) rfl (by decide) k) ?_
  refine OFin.st (fun t k => XS.istore X0.here hx rfl (hb hby at_29) rfl (l' := #[.val (.int p0), .val (.int p1), .val (.int p2), .val (.long q3), .second, .val (.long q4), .second, .val (.long q5), .second, .val (.int ((1 : Int32) + (p0 &&& (63 : Int32)))), .val (.int ((((p0.toUInt32 >>> ((6 : Int32) &&& 31).toUInt32).toInt32) &&& (65535 : Int32)) % (3 : Int32))), .val (.int ((((p0.toUInt32 >>> ((22 : Int32) &&& 31).toUInt32).toInt32) &&& (255 : Int32)) % (3 : Int32))), .unset, .unset, .unset, .unset, .unset, .unset, .unset, .unset, .unset, .unset, .unset, .unset, .unset, .unset, .unset, .unset, .unset, .unset, .unset, .unset, .unset, .unset, .unset, .unset, .unset]) rfl k) ?_
  refine OFin.st (fun t k => XS.iloadN X0.here hx rfl (hb hby at_31) rfl k) ?_
  refine OFin.st (X0.ldcInt hx hown (mvT hZ (hw _ (List.mem_of_getElem? (i := 1) rfl))) (g := (mkF m 32 #[.val (.int p0), .val (.int p1), .val (.int p2), .val (.long q3), .second, .val (.long q4), .second, .val (.long q5), .second, .val (.int ((1 : Int32) + (p0 &&& (63 : Int32)))), .val (.int ((((p0.toUInt32 >>> ((6 : Int32) &&& 31).toUInt32).toInt32) &&& (65535 : Int32)) % (3 : Int32))), .val (.int ((((p0.toUInt32 >>> ((22 : Int32) &&& 31).toUInt32).toInt32) &&& (255 : Int32)) % (3 : Int32))), .unset, .unset, .unset, .unset, .unset, .unset, .unset, .unset, .unset, .unset, .unset, .unset, .unset, .unset, .unset, .unset, .unset, .unset, .unset, .unset, .unset, .unset, .unset, .unset, .unset] [(.int p1)])) rfl (hb hby at_32)) ?_
  show OFin p e below _ _ s₁ (mkF m 34 #[.val (.int p0), .val (.int p1), .val (.int p2), .val (.long q3), .second, .val (.long q4), .second, .val (.long q5), .second, .val (.int ((1 : Int32) + (p0 &&& (63 : Int32)))), .val (.int ((((p0.toUInt32 >>> ((6 : Int32) &&& 31).toUInt32).toInt32) &&& (65535 : Int32)) % (3 : Int32))), .val (.int ((((p0.toUInt32 >>> ((22 : Int32) &&& 31).toUInt32).toInt32) &&& (255 : Int32)) % (3 : Int32))), .unset, .unset, .unset, .unset, .unset, .unset, .unset, .unset, .unset, .unset, .unset, .unset, .unset, .unset, .unset, .unset, .unset, .unset, .unset, .unset, .unset, .unset, .unset, .unset, .unset] [(.int (2147483647 : Int32)), (.int p1)])
  refine OFin.st (fun t k => XS.iand X0.here hx rfl (hb hby at_34) rfl k) ?_
  refine OFin.st (fun t k => XS.iload X0.here hx rfl (hb hby at_35) rfl k) ?_
  refine OFin.st (fun t k => iremM X0 hx rfl (hb hby at_37) rfl (own_wnz _ _ (own_w64 p0)) k) ?_
  refine OFin.st (fun t k => XS.istore X0.here hx rfl (hb hby at_38) rfl (l' := #[.val (.int p0), .val (.int p1), .val (.int p2), .val (.long q3), .second, .val (.long q4), .second, .val (.long q5), .second, .val (.int ((1 : Int32) + (p0 &&& (63 : Int32)))), .val (.int ((((p0.toUInt32 >>> ((6 : Int32) &&& 31).toUInt32).toInt32) &&& (65535 : Int32)) % (3 : Int32))), .val (.int ((((p0.toUInt32 >>> ((22 : Int32) &&& 31).toUInt32).toInt32) &&& (255 : Int32)) % (3 : Int32))), .val (.int ((p1 &&& (2147483647 : Int32)) % ((1 : Int32) + (p0 &&& (63 : Int32))))), .unset, .unset, .unset, .unset, .unset, .unset, .unset, .unset, .unset, .unset, .unset, .unset, .unset, .unset, .unset, .unset, .unset, .unset, .unset, .unset, .unset, .unset, .unset, .unset]) rfl k) ?_
  show OFin p e below _ _ s₁ (mkF m 40 #[.val (.int p0), .val (.int p1), .val (.int p2), .val (.long q3), .second, .val (.long q4), .second, .val (.long q5), .second, .val (.int ((1 : Int32) + (p0 &&& (63 : Int32)))), .val (.int ((((p0.toUInt32 >>> ((6 : Int32) &&& 31).toUInt32).toInt32) &&& (65535 : Int32)) % (3 : Int32))), .val (.int ((((p0.toUInt32 >>> ((22 : Int32) &&& 31).toUInt32).toInt32) &&& (255 : Int32)) % (3 : Int32))), .val (.int ((p1 &&& (2147483647 : Int32)) % ((1 : Int32) + (p0 &&& (63 : Int32))))), .unset, .unset, .unset, .unset, .unset, .unset, .unset, .unset, .unset, .unset, .unset, .unset, .unset, .unset, .unset, .unset, .unset, .unset, .unset, .unset, .unset, .unset, .unset, .unset] [])
  refine OFin.st (fun t k => XS.iloadN X0.here hx rfl (hb hby at_40) rfl k) ?_
  refine OFin.st (X0.ldcInt hx hown (mvT hZ (hw _ (List.mem_of_getElem? (i := 1) rfl))) (g := (mkF m 41 #[.val (.int p0), .val (.int p1), .val (.int p2), .val (.long q3), .second, .val (.long q4), .second, .val (.long q5), .second, .val (.int ((1 : Int32) + (p0 &&& (63 : Int32)))), .val (.int ((((p0.toUInt32 >>> ((6 : Int32) &&& 31).toUInt32).toInt32) &&& (65535 : Int32)) % (3 : Int32))), .val (.int ((((p0.toUInt32 >>> ((22 : Int32) &&& 31).toUInt32).toInt32) &&& (255 : Int32)) % (3 : Int32))), .val (.int ((p1 &&& (2147483647 : Int32)) % ((1 : Int32) + (p0 &&& (63 : Int32))))), .unset, .unset, .unset, .unset, .unset, .unset, .unset, .unset, .unset, .unset, .unset, .unset, .unset, .unset, .unset, .unset, .unset, .unset, .unset, .unset, .unset, .unset, .unset, .unset] [(.int p2)])) rfl (hb hby at_41)) ?_
  refine OFin.st (fun t k => XS.iand X0.here hx rfl (hb hby at_43) rfl k) ?_
  refine OFin.st (fun t k => XS.iload X0.here hx rfl (hb hby at_44) rfl k) ?_
  show OFin p e below _ _ s₁ (mkF m 46 #[.val (.int p0), .val (.int p1), .val (.int p2), .val (.long q3), .second, .val (.long q4), .second, .val (.long q5), .second, .val (.int ((1 : Int32) + (p0 &&& (63 : Int32)))), .val (.int ((((p0.toUInt32 >>> ((6 : Int32) &&& 31).toUInt32).toInt32) &&& (65535 : Int32)) % (3 : Int32))), .val (.int ((((p0.toUInt32 >>> ((22 : Int32) &&& 31).toUInt32).toInt32) &&& (255 : Int32)) % (3 : Int32))), .val (.int ((p1 &&& (2147483647 : Int32)) % ((1 : Int32) + (p0 &&& (63 : Int32))))), .unset, .unset, .unset, .unset, .unset, .unset, .unset, .unset, .unset, .unset, .unset, .unset, .unset, .unset, .unset, .unset, .unset, .unset, .unset, .unset, .unset, .unset, .unset, .unset] [(.int ((1 : Int32) + (p0 &&& (63 : Int32)))), (.int (p2 &&& (2147483647 : Int32)))])
  refine OFin.st (fun t k => iremM X0 hx rfl (hb hby at_46) rfl (own_wnz _ _ (own_w64 p0)) k) ?_
  refine OFin.st (fun t k => XS.istore X0.here hx rfl (hb hby at_47) rfl (l' := #[.val (.int p0), .val (.int p1), .val (.int p2), .val (.long q3), .second, .val (.long q4), .second, .val (.long q5), .second, .val (.int ((1 : Int32) + (p0 &&& (63 : Int32)))), .val (.int ((((p0.toUInt32 >>> ((6 : Int32) &&& 31).toUInt32).toInt32) &&& (65535 : Int32)) % (3 : Int32))), .val (.int ((((p0.toUInt32 >>> ((22 : Int32) &&& 31).toUInt32).toInt32) &&& (255 : Int32)) % (3 : Int32))), .val (.int ((p1 &&& (2147483647 : Int32)) % ((1 : Int32) + (p0 &&& (63 : Int32))))), .val (.int ((p2 &&& (2147483647 : Int32)) % ((1 : Int32) + (p0 &&& (63 : Int32))))), .unset, .unset, .unset, .unset, .unset, .unset, .unset, .unset, .unset, .unset, .unset, .unset, .unset, .unset, .unset, .unset, .unset, .unset, .unset, .unset, .unset, .unset, .unset]) rfl k) ?_
  refine OFin.st (fun t k => XS.iload X0.here hx rfl (hb hby at_49) rfl k) ?_
  refine OFin.st (fun t k => XS.iconst X0.here hx rfl (hb hby at_51) k) ?_
  show OFin p e below _ _ s₁ (mkF m 52 #[.val (.int p0), .val (.int p1), .val (.int p2), .val (.long q3), .second, .val (.long q4), .second, .val (.long q5), .second, .val (.int ((1 : Int32) + (p0 &&& (63 : Int32)))), .val (.int ((((p0.toUInt32 >>> ((6 : Int32) &&& 31).toUInt32).toInt32) &&& (65535 : Int32)) % (3 : Int32))), .val (.int ((((p0.toUInt32 >>> ((22 : Int32) &&& 31).toUInt32).toInt32) &&& (255 : Int32)) % (3 : Int32))), .val (.int ((p1 &&& (2147483647 : Int32)) % ((1 : Int32) + (p0 &&& (63 : Int32))))), .val (.int ((p2 &&& (2147483647 : Int32)) % ((1 : Int32) + (p0 &&& (63 : Int32))))), .unset, .unset, .unset, .unset, .unset, .unset, .unset, .unset, .unset, .unset, .unset, .unset, .unset, .unset, .unset, .unset, .unset, .unset, .unset, .unset, .unset, .unset, .unset] [(.int (1 : Int32)), (.int ((((p0.toUInt32 >>> ((22 : Int32) &&& 31).toUInt32).toInt32) &&& (255 : Int32)) % (3 : Int32)))])
  refine OFin.st (fun t k => XS.iadd X0.here hx rfl (hb hby at_52) rfl k) ?_
  refine OFin.st (fun t k => XS.iloadN X0.here hx rfl (hb hby at_53) rfl k) ?_
  refine OFin.st (fun t k => XS.bipush X0.here hx rfl (hb hby at_54) k) ?_
  refine OFin.st (fun t k => XS.iushr X0.here hx rfl (hb hby at_56) rfl k) ?_
  show OFin p e below _ _ s₁ (mkF m 57 #[.val (.int p0), .val (.int p1), .val (.int p2), .val (.long q3), .second, .val (.long q4), .second, .val (.long q5), .second, .val (.int ((1 : Int32) + (p0 &&& (63 : Int32)))), .val (.int ((((p0.toUInt32 >>> ((6 : Int32) &&& 31).toUInt32).toInt32) &&& (65535 : Int32)) % (3 : Int32))), .val (.int ((((p0.toUInt32 >>> ((22 : Int32) &&& 31).toUInt32).toInt32) &&& (255 : Int32)) % (3 : Int32))), .val (.int ((p1 &&& (2147483647 : Int32)) % ((1 : Int32) + (p0 &&& (63 : Int32))))), .val (.int ((p2 &&& (2147483647 : Int32)) % ((1 : Int32) + (p0 &&& (63 : Int32))))), .unset, .unset, .unset, .unset, .unset, .unset, .unset, .unset, .unset, .unset, .unset, .unset, .unset, .unset, .unset, .unset, .unset, .unset, .unset, .unset, .unset, .unset, .unset] [(.int ((p2.toUInt32 >>> ((31 : Int32) &&& 31).toUInt32).toInt32)), (.int (((((p0.toUInt32 >>> ((22 : Int32) &&& 31).toUInt32).toInt32) &&& (255 : Int32)) % (3 : Int32)) + (1 : Int32)))])
  refine OFin.st (fun t k => XS.iconst X0.here hx rfl (hb hby at_57) k) ?_
  refine OFin.st (fun t k => XS.iand X0.here hx rfl (hb hby at_58) rfl k) ?_
  refine OFin.st (fun t k => XS.iadd X0.here hx rfl (hb hby at_59) rfl k) ?_
  refine OFin.st (fun t k => XS.iconst X0.here hx rfl (hb hby at_60) k) ?_
  show OFin p e below _ _ s₁ (mkF m 61 #[.val (.int p0), .val (.int p1), .val (.int p2), .val (.long q3), .second, .val (.long q4), .second, .val (.long q5), .second, .val (.int ((1 : Int32) + (p0 &&& (63 : Int32)))), .val (.int ((((p0.toUInt32 >>> ((6 : Int32) &&& 31).toUInt32).toInt32) &&& (65535 : Int32)) % (3 : Int32))), .val (.int ((((p0.toUInt32 >>> ((22 : Int32) &&& 31).toUInt32).toInt32) &&& (255 : Int32)) % (3 : Int32))), .val (.int ((p1 &&& (2147483647 : Int32)) % ((1 : Int32) + (p0 &&& (63 : Int32))))), .val (.int ((p2 &&& (2147483647 : Int32)) % ((1 : Int32) + (p0 &&& (63 : Int32))))), .unset, .unset, .unset, .unset, .unset, .unset, .unset, .unset, .unset, .unset, .unset, .unset, .unset, .unset, .unset, .unset, .unset, .unset, .unset, .unset, .unset, .unset, .unset] [(.int (3 : Int32)), (.int ((((((p0.toUInt32 >>> ((22 : Int32) &&& 31).toUInt32).toInt32) &&& (255 : Int32)) % (3 : Int32)) + (1 : Int32)) + (((p2.toUInt32 >>> ((31 : Int32) &&& 31).toUInt32).toInt32) &&& (1 : Int32))))])
  refine OFin.st (fun t k => iremM X0 hx rfl (hb hby at_61) rfl (by decide) k) ?_
  refine OFin.st (fun t k => XS.istore X0.here hx rfl (hb hby at_62) rfl (l' := #[.val (.int p0), .val (.int p1), .val (.int p2), .val (.long q3), .second, .val (.long q4), .second, .val (.long q5), .second, .val (.int ((1 : Int32) + (p0 &&& (63 : Int32)))), .val (.int ((((p0.toUInt32 >>> ((6 : Int32) &&& 31).toUInt32).toInt32) &&& (65535 : Int32)) % (3 : Int32))), .val (.int ((((p0.toUInt32 >>> ((22 : Int32) &&& 31).toUInt32).toInt32) &&& (255 : Int32)) % (3 : Int32))), .val (.int ((p1 &&& (2147483647 : Int32)) % ((1 : Int32) + (p0 &&& (63 : Int32))))), .val (.int ((p2 &&& (2147483647 : Int32)) % ((1 : Int32) + (p0 &&& (63 : Int32))))), .val (.int (((((((p0.toUInt32 >>> ((22 : Int32) &&& 31).toUInt32).toInt32) &&& (255 : Int32)) % (3 : Int32)) + (1 : Int32)) + (((p2.toUInt32 >>> ((31 : Int32) &&& 31).toUInt32).toInt32) &&& (1 : Int32))) % (3 : Int32))), .unset, .unset, .unset, .unset, .unset, .unset, .unset, .unset, .unset, .unset, .unset, .unset, .unset, .unset, .unset, .unset, .unset, .unset, .unset, .unset, .unset, .unset]) rfl k) ?_
  show OFin p e below _ _ s₁ (mkF m 64 #[.val (.int p0), .val (.int p1), .val (.int p2), .val (.long q3), .second, .val (.long q4), .second, .val (.long q5), .second, .val (.int ((1 : Int32) + (p0 &&& (63 : Int32)))), .val (.int ((((p0.toUInt32 >>> ((6 : Int32) &&& 31).toUInt32).toInt32) &&& (65535 : Int32)) % (3 : Int32))), .val (.int ((((p0.toUInt32 >>> ((22 : Int32) &&& 31).toUInt32).toInt32) &&& (255 : Int32)) % (3 : Int32))), .val (.int ((p1 &&& (2147483647 : Int32)) % ((1 : Int32) + (p0 &&& (63 : Int32))))), .val (.int ((p2 &&& (2147483647 : Int32)) % ((1 : Int32) + (p0 &&& (63 : Int32))))), .val (.int (((((((p0.toUInt32 >>> ((22 : Int32) &&& 31).toUInt32).toInt32) &&& (255 : Int32)) % (3 : Int32)) + (1 : Int32)) + (((p2.toUInt32 >>> ((31 : Int32) &&& 31).toUInt32).toInt32) &&& (1 : Int32))) % (3 : Int32))), .unset, .unset, .unset, .unset, .unset, .unset, .unset, .unset, .unset, .unset, .unset, .unset, .unset, .unset, .unset, .unset, .unset, .unset, .unset, .unset, .unset, .unset] [])
  have cut1 : ∀ (wi : Int32) (bb : Int32) (cc : Int32) (ll : Int32) (mm : Int32) (dd : Int32), (wi.toInt = ((wi.toInt.toNat : Nat) : Int) ∧ 1 ≤ wi.toInt.toNat ∧ wi.toInt.toNat ≤ 64) → (bb = 0 ∨ bb = 1 ∨ bb = 2) → (cc = 0 ∨ cc = 1 ∨ cc = 2) → (dd = 0 ∨ dd = 1 ∨ dd = 2) → (¬ dd = cc) → (ll.toInt = ((ll.toInt.toNat : Nat) : Int) ∧ ll.toInt.toNat < wi.toInt.toNat) → (mm.toInt = ((mm.toInt.toNat : Nat) : Int) ∧ mm.toInt.toNat < wi.toInt.toNat) → OFin p e below (fun o t L => ReturnedEndW s o t L room_1.cells room_1.slots) (fun v h L => Qrm0 Z p0 p1 p2 q3 q4 q5 kD w_DEFAULTCAPACITY_EMPTY_ELEMENTDATA w_BOOL h0 n0 v h L) s₁ (mkF m 64 #[.val (.int p0), .val (.int p1), .val (.int p2), .val (.long q3), .second, .val (.long q4), .second, .val (.long q5), .second, .val (.int wi), .val (.int bb), .val (.int cc), .val (.int ll), .val (.int mm), .val (.int dd), .unset, .unset, .unset, .unset, .unset, .unset, .unset, .unset, .unset, .unset, .unset, .unset, .unset, .unset, .unset, .unset, .unset, .unset, .unset, .unset, .unset, .unset] []) := by
    intro wi bb cc ll mm dd hwd hbq hcc hdd hdc hll hmm
    obtain ⟨T2, h2, X2, e2, E2, A2, D2, -, st2⟩ := newO X0 hx hZ hown (hw _ (List.mem_of_getElem? (i := 2) rfl)) (hw _ (List.mem_of_getElem? (i := 3) rfl)) (hw _ (List.mem_of_getElem? (i := 4) rfl)) e0 (g := (mkF m 64 #[.val (.int p0), .val (.int p1), .val (.int p2), .val (.long q3), .second, .val (.long q4), .second, .val (.long q5), .second, .val (.int wi), .val (.int bb), .val (.int cc), .val (.int ll), .val (.int mm), .val (.int dd), .unset, .unset, .unset, .unset, .unset, .unset, .unset, .unset, .unset, .unset, .unset, .unset, .unset, .unset, .unset, .unset, .unset, .unset, .unset, .unset, .unset, .unset] [])) rfl (hb hby at_64) (by decide) (by decide)
    obtain ⟨b2, gz_b2⟩ : ∃ z, z = h0.size := ⟨_, rfl⟩
    rw [← gz_b2] at A2 D2 st2
    have g_b2 : n0 ≤ b2 := Nat.le_trans (Nat.le_trans (Nat.le_of_eq O0.1.symm) O0.2.1) (Nat.le_of_eq gz_b2.symm)
    have sz_b2 : h0.size ≤ b2 := Nat.le_trans (Keep.refl h0 []).1 (Nat.le_of_eq gz_b2.symm)
    have hk2 := Nat.le_trans hk0 E2.1
    have K2 : Keep h0 h2 [] := (Keep.refl h0 []).ext E2
    have O2 : Old Z n0 h2 := O0.ext E2
    have F_modCount_b2 : Fld Z h2 b2 "java/util/AbstractList" "modCount" "I" (.int (0 : Int32)) := D2 (Or.inl (hw _ (List.mem_of_getElem? (i := 24) rfl))) (ty := .int) (by decide)
    have F_elementData_b2 : Fld Z h2 b2 "java/util/ArrayList" "elementData" "[Ljava/lang/Object;" .null := D2 (Or.inl (hw _ (List.mem_of_getElem? (i := 27) rfl))) (ty := (.array (.object "java/lang/Object"))) (by decide)
    have F_size_b2 : Fld Z h2 b2 "java/util/ArrayList" "size" "I" (.int (0 : Int32)) := D2 (Or.inl (hw _ (List.mem_of_getElem? (i := 69) rfl))) (ty := .int) (by decide)
    refine OFin.st st2 ?_
    refine OFin.st (fun t k => XS.dup X2.here hx rfl (hb hby at_67) rfl rfl k) ?_
    show OFin p e below _ _ T2 (mkF m 68 #[.val (.int p0), .val (.int p1), .val (.int p2), .val (.long q3), .second, .val (.long q4), .second, .val (.long q5), .second, .val (.int wi), .val (.int bb), .val (.int cc), .val (.int ll), .val (.int mm), .val (.int dd), .unset, .unset, .unset, .unset, .unset, .unset, .unset, .unset, .unset, .unset, .unset, .unset, .unset, .unset, .unset, .unset, .unset, .unset, .unset, .unset, .unset, .unset] [(.ref b2), (.ref b2)])
    obtain ⟨_, _, ⟨T3, L3, k3, n3⟩, -, X3, ⟨Lc3, hQ3, l3, y3, z3⟩, st3⟩ := X2.specialBack hx (y := (⟨"java/util/ArrayList", "<init>", "()V"⟩ : MethodName)) rfl hown (mvT hZ (hw _ (List.mem_of_getElem? (i := 5) rfl))) (mvT hZ (hw _ (List.mem_of_getElem? (i := 6) rfl))) (mvT hZ (hw _ (List.mem_of_getElem? (i := 7) rfl))) (by decide) (backOf (W := 1) (rm1 l Z a0 hw [] b2 .null (.int (0 : Int32)) (.int (0 : Int32)) w_DEFAULTCAPACITY_EMPTY_ELEMENTDATA h2 n0 O2 A2 F_elementData_b2 F_size_b2 F_modCount_b2 g_b2 S_DEFAULTCAPACITY_EMPTY_ELEMENTDATA) hZ (hw _ (List.mem_of_getElem? (i := 7) rfl)) (hw _ (List.mem_of_getElem? (i := 4) rfl)) (by decide) (by decide)) (g := (mkF m 68 #[.val (.int p0), .val (.int p1), .val (.int p2), .val (.long q3), .second, .val (.long q4), .second, .val (.long q5), .second, .val (.int wi), .val (.int bb), .val (.int cc), .val (.int ll), .val (.int mm), .val (.int dd), .unset, .unset, .unset, .unset, .unset, .unset, .unset, .unset, .unset, .unset, .unset, .unset, .unset, .unset, .unset, .unset, .unset, .unset, .unset, .unset, .unset, .unset] [(.ref b2), (.ref b2)])) rfl (by rw [hml]; rfl) (Steps.refl _) (a := b2) (argsL := []) (rest := [(.ref b2)]) (lenOf pd_4 rfl) rfl (by show 2 * 0 + _ ≤ _; exact Nat.le_of_eq rfl) (hb hby at_68) (fun _ _ => ⟨rfl, e2, (by decide : 1 + 0 ≤ _), (by decide : 3 + 0 ≤ _)⟩)
    dsimp only [Pt.U, Pt.locs, Pt.cells, Pt.slots] at X3 l3 y3 z3 st3 hQ3
    subst l3 y3 z3
    have X3 : Stand p l e room_1 (s.setVm s.vm) m #[(.int p0), (.int p1), (.int p2), (.long q3), (.long q4), (.long q5)] below meth c T3 _ 1 3 := X3
    obtain ⟨rfl, N3q, K3q, P3_0, P3_1, P3_2, P3_3⟩ := hQ3
    have N3 := Fr.app N0 N3q
    have hk3 := Nat.le_trans hk2 K3q.1
    have K3 : Keep h0 T3.heap [] := K2.trans K3q (allS (Or.inr sz_b2) all0)
    have O3 : Old Z n0 T3.heap := O2.keep K3q (allS g_b2 all0)
    refine OFin.tr st3 ?_
    refine OFin.st (fun t k => XS.astore X3.here hx rfl (hb hby at_71) rfl rfl (l' := #[.val (.int p0), .val (.int p1), .val (.int p2), .val (.long q3), .second, .val (.long q4), .second, .val (.long q5), .second, .val (.int wi), .val (.int bb), .val (.int cc), .val (.int ll), .val (.int mm), .val (.int dd), .val (.ref b2), .unset, .unset, .unset, .unset, .unset, .unset, .unset, .unset, .unset, .unset, .unset, .unset, .unset, .unset, .unset, .unset, .unset, .unset, .unset, .unset, .unset]) rfl k) ?_
    refine OFin.st (fun t k => XS.aload X3.here hx rfl (hb hby at_73) rfl rfl k) ?_
    obtain ⟨T4, h4, X4, e4, E4, A4, D4, -, st4⟩ := newO X3 hx hZ hown (hw _ (List.mem_of_getElem? (i := 28) rfl)) (hw _ (List.mem_of_getElem? (i := 29) rfl)) (hw _ (List.mem_of_getElem? (i := 30) rfl)) rfl (g := (mkF m 75 #[.val (.int p0), .val (.int p1), .val (.int p2), .val (.long q3), .second, .val (.long q4), .second, .val (.long q5), .second, .val (.int wi), .val (.int bb), .val (.int cc), .val (.int ll), .val (.int mm), .val (.int dd), .val (.ref b2), .unset, .unset, .unset, .unset, .unset, .unset, .unset, .unset, .unset, .unset, .unset, .unset, .unset, .unset, .unset, .unset, .unset, .unset, .unset, .unset, .unset] [(.ref b2)])) rfl (hb hby at_75) (by decide) (by decide)
    obtain ⟨b4, gz_b4⟩ : ∃ z, z = T3.heap.size := ⟨_, rfl⟩
    rw [← gz_b4] at A4 D4 st4
    have N_b2_b4 : b2 ≠ b4 := Nat.ne_of_lt (Nat.lt_of_lt_of_le P3_0.lt (Nat.le_of_eq gz_b4.symm))
    have g_b4 : n0 ≤ b4 := Nat.le_trans (Nat.le_trans (Nat.le_of_eq O3.1.symm) O3.2.1) (Nat.le_of_eq gz_b4.symm)
    have sz_b4 : h0.size ≤ b4 := Nat.le_trans K3.1 (Nat.le_of_eq gz_b4.symm)
    have hk4 := Nat.le_trans hk3 E4.1
    have K4 : Keep h0 h4 [] := K3.ext E4
    have O4 : Old Z n0 h4 := O3.ext E4
    have F_name_b4 : Fld Z h4 b4 "com/example/verdikt/verdikt/model/Variable" "name" "Ljava/lang/String;" .null := D4 (Or.inr (hw _ (List.mem_of_getElem? (i := 52) rfl))) (ty := (.object "java/lang/String")) (by decide)
    have F_section_b4 : Fld Z h4 b4 "com/example/verdikt/verdikt/model/Variable" "section" "Lcom/example/verdikt/verdikt/model/Variable$Section;" .null := D4 (Or.inr (hw _ (List.mem_of_getElem? (i := 54) rfl))) (ty := (.object "com/example/verdikt/verdikt/model/Variable$Section")) (by decide)
    have F_type_b4 : Fld Z h4 b4 "com/example/verdikt/verdikt/model/Variable" "type" "Lcom/example/verdikt/verdikt/model/ElementaryType;" .null := D4 (Or.inr (hw _ (List.mem_of_getElem? (i := 56) rfl))) (ty := (.object "com/example/verdikt/verdikt/model/ElementaryType")) (by decide)
    have F_initialValue_b4 : Fld Z h4 b4 "com/example/verdikt/verdikt/model/Variable" "initialValue" "J" (.long (0 : Int64)) := D4 (Or.inr (hw _ (List.mem_of_getElem? (i := 58) rfl))) (ty := .long) (by decide)
    have F_index_b4 : Fld Z h4 b4 "com/example/verdikt/verdikt/model/Variable" "index" "I" (.int (0 : Int32)) := D4 (Or.inr (hw _ (List.mem_of_getElem? (i := 60) rfl))) (ty := .int) (by decide)
    refine OFin.st st4 ?_
    show OFin p e below _ _ T4 (mkF m 78 #[.val (.int p0), .val (.int p1), .val (.int p2), .val (.long q3), .second, .val (.long q4), .second, .val (.long q5), .second, .val (.int wi), .val (.int bb), .val (.int cc), .val (.int ll), .val (.int mm), .val (.int dd), .val (.ref b2), .unset, .unset, .unset, .unset, .unset, .unset, .unset, .unset, .unset, .unset, .unset, .unset, .unset, .unset, .unset, .unset, .unset, .unset, .unset, .unset, .unset] [(.ref b4), (.ref b2)])
    refine OFin.st (fun t k => XS.dup X4.here hx rfl (hb hby at_78) rfl rfl k) ?_
    have wS5 : ∀ a ∈ Bundle.stringAtoms, a.before a0 Z = true := by
      intro a ha
      simp only [Bundle.stringAtoms, List.mem_cons, List.not_mem_nil, or_false] at ha
      rcases ha with rfl | rfl | rfl | rfl | rfl | rfl | rfl
      · exact (hw _ (List.mem_of_getElem? (i := 32) rfl))
      · exact (hw _ (List.mem_of_getElem? (i := 33) rfl))
      · exact (hw _ (List.mem_of_getElem? (i := 34) rfl))
      · exact (hw _ (List.mem_of_getElem? (i := 35) rfl))
      · exact (hw _ (List.mem_of_getElem? (i := 36) rfl))
      · exact (hw _ (List.mem_of_getElem? (i := 37) rfl))
      · exact (hw _ (List.mem_of_getElem? (i := 38) rfl))
    obtain ⟨a5, T5, h5, kz5, X5, e5, E5, hS5, hkq5, hZ, hown, st5⟩ := ldcS X4 hx hZ hown (hw _ (List.mem_of_getElem? (i := 31) rfl)) wS5 e4 hS0 hk4 (g := (mkF m 79 #[.val (.int p0), .val (.int p1), .val (.int p2), .val (.long q3), .second, .val (.long q4), .second, .val (.long q5), .second, .val (.int wi), .val (.int bb), .val (.int cc), .val (.int ll), .val (.int mm), .val (.int dd), .val (.ref b2), .unset, .unset, .unset, .unset, .unset, .unset, .unset, .unset, .unset, .unset, .unset, .unset, .unset, .unset, .unset, .unset, .unset, .unset, .unset, .unset, .unset] [(.ref b4), (.ref b4), (.ref b2)])) rfl (hb hby at_79) (n := 4) (by decide) (by decide) (by decide) (by decide)
    refine OFin.st st5 ?_
    have hk5 := Nat.le_trans hk4 E5.1
    have K5 : Keep h0 h5 [] := K4.ext E5
    have O5 : Old Z n0 h5 := O4.ext E5
    have hk5 := hkq5
    refine OFin.st (fun t k => XS.aconstNull X5.here hx rfl (hb hby at_81) k) ?_
    obtain ⟨T6, X6, e6, st6⟩ := getS2 X5 hx hZ hown (host := "") (Or.inl (hw _ (List.mem_of_getElem? (i := 39) rfl))) Via.refl e5 (S_BOOL.ext O5.2) (g := (mkF m 82 #[.val (.int p0), .val (.int p1), .val (.int p2), .val (.long q3), .second, .val (.long q4), .second, .val (.long q5), .second, .val (.int wi), .val (.int bb), .val (.int cc), .val (.int ll), .val (.int mm), .val (.int dd), .val (.ref b2), .unset, .unset, .unset, .unset, .unset, .unset, .unset, .unset, .unset, .unset, .unset, .unset, .unset, .unset, .unset, .unset, .unset, .unset, .unset, .unset, .unset] [.null, (.ref a5), (.ref b4), (.ref b4), (.ref b2)])) rfl (hb hby at_82)
    refine OFin.st st6 ?_
    show OFin p e below _ _ T6 (mkF m 85 #[.val (.int p0), .val (.int p1), .val (.int p2), .val (.long q3), .second, .val (.long q4), .second, .val (.long q5), .second, .val (.int wi), .val (.int bb), .val (.int cc), .val (.int ll), .val (.int mm), .val (.int dd), .val (.ref b2), .unset, .unset, .unset, .unset, .unset, .unset, .unset, .unset, .unset, .unset, .unset, .unset, .unset, .unset, .unset, .unset, .unset, .unset, .unset, .unset, .unset] [(.ref w_BOOL), .null, (.ref a5), (.ref b4), (.ref b4), (.ref b2)])
    refine OFin.st (fun t k => XS.lconst X6.here hx rfl (hb hby at_85) k) ?_
    refine OFin.st (fun t k => XS.iload X6.here hx rfl (hb hby at_86) rfl k) ?_
    obtain ⟨_, _, ⟨T7, L7, k7, n7⟩, -, X7, ⟨Lc7, hQ7, l7, y7, z7⟩, st7⟩ := X6.specialBack hx (y := (⟨"com/example/verdikt/verdikt/model/Variable", "<init>", "(Ljava/lang/String;Lcom/example/verdikt/verdikt/model/Variable$Section;Lcom/example/verdikt/verdikt/model/ElementaryType;JI)V"⟩ : MethodName)) rfl hown (mvT hZ (hw _ (List.mem_of_getElem? (i := 42) rfl))) (mvT hZ (hw _ (List.mem_of_getElem? (i := 43) rfl))) (mvT hZ (hw _ (List.mem_of_getElem? (i := 44) rfl))) (by decide) (backOf (W := 2) (rm5 l Z a0 hw [] b4 a5 w_BOOL (0 : Int64) bb .null (.int (0 : Int32)) .null .null (.long (0 : Int64)) h5 n0 O5 (A4.ext E5) (F_type_b4.ext E5) (F_index_b4.ext E5) (F_name_b4.ext E5) (F_section_b4.ext E5) (F_initialValue_b4.ext E5) g_b4) hZ (hw _ (List.mem_of_getElem? (i := 44) rfl)) (hw _ (List.mem_of_getElem? (i := 30) rfl)) (by decide) (by decide)) (g := (mkF m 88 #[.val (.int p0), .val (.int p1), .val (.int p2), .val (.long q3), .second, .val (.long q4), .second, .val (.long q5), .second, .val (.int wi), .val (.int bb), .val (.int cc), .val (.int ll), .val (.int mm), .val (.int dd), .val (.ref b2), .unset, .unset, .unset, .unset, .unset, .unset, .unset, .unset, .unset, .unset, .unset, .unset, .unset, .unset, .unset, .unset, .unset, .unset, .unset, .unset, .unset] [(.int bb), (.long (0 : Int64)), (.ref w_BOOL), .null, (.ref a5), (.ref b4), (.ref b4), (.ref b2)])) rfl (by rw [hml]; rfl) (Steps.refl _) (a := b4) (argsL := [(.ref a5), .null, (.ref w_BOOL), (.long (0 : Int64)), (.int bb)]) (rest := [(.ref b4), (.ref b2)]) (lenOf pd_18 rfl) rfl (by show 2 * 0 + _ ≤ _; exact Nat.le_of_eq rfl) (hb hby at_88) (fun _ _ => ⟨rfl, e6, (by decide : 4 + 0 ≤ _), (by decide : 16 + 0 ≤ _)⟩)
    dsimp only [Pt.U, Pt.locs, Pt.cells, Pt.slots] at X7 l7 y7 z7 st7 hQ7
    subst l7 y7 z7
    have X7 : Stand p l e room_1 (s.setVm T5.vm) m #[(.int p0), (.int p1), (.int p2), (.long q3), (.long q4), (.long q5)] below meth c T7 _ 4 16 := X7
    obtain ⟨rfl, N7q, K7q, P7_0, P7_1, P7_2⟩ := hQ7
    have N7 := Fr.app N3 N7q
    have hk7 := Nat.le_trans hk5 K7q.1
    have K7 : Keep h0 T7.heap [] := K5.trans K7q (allS (Or.inr sz_b4) all0)
    have O7 : Old Z n0 T7.heap := O5.keep K7q (allS g_b4 all0)
    refine OFin.tr st7 ?_
    obtain ⟨cq8, kq8, q8a, q8b, q8c⟩ := isOf hZ rfl (((P3_0.ext E4).ext E5).keep K7q)
    obtain ⟨_, _, ⟨T8, L8, k8, n8⟩, -, X8, ⟨Lc8, hQ8, l8, y8, z8⟩, st8⟩ := X7.virtualBack hx (y := (⟨"java/util/ArrayList", "add", "(Ljava/lang/Object;)Z"⟩ : MethodName)) (z := (⟨"java/util/ArrayList", "add", "(Ljava/lang/Object;)Z"⟩ : MethodName)) hown (mvT hZ (hw _ (List.mem_of_getElem? (i := 61) rfl))) (mvT hZ (hw _ (List.mem_of_getElem? (i := 62) rfl))) (notFace_of_selects (args := #[]) (mvT hZ (hw _ (List.mem_of_getElem? (i := 64) rfl)))) (mvT hZ (hw _ (List.mem_of_getElem? (i := 64) rfl))) (mvT hZ (hw _ (List.mem_of_getElem? (i := 63) rfl))) (by decide) (backOf (W := 0) (rm7 l Z a0 hw [] b2 b4 (0 : Int32) kD w_DEFAULTCAPACITY_EMPTY_ELEMENTDATA T7.heap n0 O7 (((P3_0.ext E4).ext E5).keep K7q) (((P3_1.ext E4).ext E5).keep K7q (ninS N_b2_b4 nin0)) (((P3_2.ext E4).ext E5).keep K7q (ninS N_b2_b4 nin0)) (((P3_3.ext E4).ext E5).keep K7q (ninS N_b2_b4 nin0)) g_b2 P7_0 (Ne.symm N_b2_b4) A_w_DEFAULTCAPACITY_EMPTY_ELEMENTDATA S_DEFAULTCAPACITY_EMPTY_ELEMENTDATA) hZ (hw _ (List.mem_of_getElem? (i := 65) rfl)) (hw _ (List.mem_of_getElem? (i := 4) rfl)) (by decide) (by decide)) q8a q8c (g := (mkF m 91 #[.val (.int p0), .val (.int p1), .val (.int p2), .val (.long q3), .second, .val (.long q4), .second, .val (.long q5), .second, .val (.int wi), .val (.int bb), .val (.int cc), .val (.int ll), .val (.int mm), .val (.int dd), .val (.ref b2), .unset, .unset, .unset, .unset, .unset, .unset, .unset, .unset, .unset, .unset, .unset, .unset, .unset, .unset, .unset, .unset, .unset, .unset, .unset, .unset, .unset] [(.ref b4), (.ref b2)])) rfl (by rw [hml]; rfl) (Steps.refl _) (argsL := [(.ref b4)]) (rest := []) (lenOf pd_16 rfl) rfl (by show 2 * 0 + _ ≤ _; exact Nat.le_of_eq rfl) (hb hby at_91) (fun _ _ => ⟨rfl, rfl, (by decide : 4 + 1 ≤ _), (by decide : 16 + 10 ≤ _)⟩)
    dsimp only [Pt.U, Pt.locs, Pt.cells, Pt.slots] at X8 l8 y8 z8 st8 hQ8
    subst l8 y8 z8
    have X8 : Stand p l e room_1 (s.setVm T5.vm) m #[(.int p0), (.int p1), (.int p2), (.long q3), (.long q4), (.long q5)] below meth c T8 _ 5 26 := X8
    obtain ⟨b8, kb8, rfl, N8q, K8q, P8_0, P8_1, P8_2, P8_3, P8_4, P8_5, P8_6, P8_7⟩ := hQ8
    have N8 := Fr.app N7 N8q
    have hk8 := Nat.le_trans hk7 K8q.1
    have K8 : Keep h0 T8.heap [] := K7.trans K8q (allS (Or.inr sz_b2) all0)
    have O8 : Old Z n0 T8.heap := O7.keep K8q (allS g_b2 all0)
    have N_b2_b8 : b2 ≠ b8 := Nat.ne_of_lt (Nat.lt_of_lt_of_le (((P3_0.ext E4).ext E5).keep K7q).lt P8_6)
    have N_b4_b8 : b4 ≠ b8 := Nat.ne_of_lt (Nat.lt_of_lt_of_le P7_0.lt P8_6)
    have g_b8 : n0 ≤ b8 := Nat.le_trans (Nat.le_trans (Nat.le_of_eq O7.1.symm) O7.2.1) P8_6
    have sz_b8 : h0.size ≤ b8 := Nat.le_trans K7.1 P8_6
    refine OFin.tr st8 ?_
    show OFin p e below _ _ T8 (mkF m 94 #[.val (.int p0), .val (.int p1), .val (.int p2), .val (.long q3), .second, .val (.long q4), .second, .val (.long q5), .second, .val (.int wi), .val (.int bb), .val (.int cc), .val (.int ll), .val (.int mm), .val (.int dd), .val (.ref b2), .unset, .unset, .unset, .unset, .unset, .unset, .unset, .unset, .unset, .unset, .unset, .unset, .unset, .unset, .unset, .unset, .unset, .unset, .unset, .unset, .unset] [(.int (1 : Int32))])
    refine OFin.st (fun t k => XS.pop X8.here hx rfl (hb hby at_94) rfl rfl k) ?_
    obtain ⟨T9, h9, X9, e9, E9, A9, D9, -, st9⟩ := newO X8 hx hZ hown (hw _ (List.mem_of_getElem? (i := 92) rfl)) (hw _ (List.mem_of_getElem? (i := 93) rfl)) (hw _ (List.mem_of_getElem? (i := 94) rfl)) rfl (g := (mkF m 95 #[.val (.int p0), .val (.int p1), .val (.int p2), .val (.long q3), .second, .val (.long q4), .second, .val (.long q5), .second, .val (.int wi), .val (.int bb), .val (.int cc), .val (.int ll), .val (.int mm), .val (.int dd), .val (.ref b2), .unset, .unset, .unset, .unset, .unset, .unset, .unset, .unset, .unset, .unset, .unset, .unset, .unset, .unset, .unset, .unset, .unset, .unset, .unset, .unset, .unset] [])) rfl (hb hby at_95) (by decide) (by decide)
    obtain ⟨b9, gz_b9⟩ : ∃ z, z = T8.heap.size := ⟨_, rfl⟩
    rw [← gz_b9] at A9 D9 st9
    have N_b2_b9 : b2 ≠ b9 := Nat.ne_of_lt (Nat.lt_of_lt_of_le P8_0.lt (Nat.le_of_eq gz_b9.symm))
    have N_b4_b9 : b4 ≠ b9 := Nat.ne_of_lt (Nat.lt_of_lt_of_le P8_7.lt (Nat.le_of_eq gz_b9.symm))
    have N_b8_b9 : b8 ≠ b9 := Nat.ne_of_lt (Nat.lt_of_lt_of_le P8_4.lt (Nat.le_of_eq gz_b9.symm))
    have g_b9 : n0 ≤ b9 := Nat.le_trans (Nat.le_trans (Nat.le_of_eq O8.1.symm) O8.2.1) (Nat.le_of_eq gz_b9.symm)
    have sz_b9 : h0.size ≤ b9 := Nat.le_trans K8.1 (Nat.le_of_eq gz_b9.symm)
    have hk9 := Nat.le_trans hk8 E9.1
    have K9 : Keep h0 h9 [] := K8.ext E9
    have O9 : Old Z n0 h9 := O8.ext E9
    have F_lent_b9 : Fld Z h9 b9 "com/example/verdikt/verdikt/model/Lanes" "lent" "[[J" .null := D9 (Or.inl (hw _ (List.mem_of_getElem? (i := 102) rfl))) (ty := (.array (.array .long))) (by decide)
    have F_width_b9 : Fld Z h9 b9 "com/example/verdikt/verdikt/model/Lanes" "width" "I" (.int (0 : Int32)) := D9 (Or.inr (hw _ (List.mem_of_getElem? (i := 104) rfl))) (ty := .int) (by decide)
    have F_all_b9 : Fld Z h9 b9 "com/example/verdikt/verdikt/model/Lanes" "all" "J" (.long (0 : Int64)) := D9 (Or.inr (hw _ (List.mem_of_getElem? (i := 106) rfl))) (ty := .long) (by decide)
    have F_offsets_b9 : Fld Z h9 b9 "com/example/verdikt/verdikt/model/Lanes" "offsets" "[I" .null := D9 (Or.inr (hw _ (List.mem_of_getElem? (i := 109) rfl))) (ty := (.array .int)) (by decide)
    have F_words_b9 : Fld Z h9 b9 "com/example/verdikt/verdikt/model/Lanes" "words" "[J" .null := D9 (Or.inr (hw _ (List.mem_of_getElem? (i := 175) rfl))) (ty := (.array .long)) (by decide)
    have F_values_b9 : Fld Z h9 b9 "com/example/verdikt/verdikt/model/Lanes" "values" "[J" .null := D9 (Or.inr (hw _ (List.mem_of_getElem? (i := 177) rfl))) (ty := (.array .long)) (by decide)
    refine OFin.st st9 ?_
    refine OFin.st (fun t k => XS.dup X9.here hx rfl (hb hby at_98) rfl rfl k) ?_
    refine OFin.st (fun t k => XS.iconst X9.here hx rfl (hb hby at_99) k) ?_
    show OFin p e below _ _ T9 (mkF m 100 #[.val (.int p0), .val (.int p1), .val (.int p2), .val (.long q3), .second, .val (.long q4), .second, .val (.long q5), .second, .val (.int wi), .val (.int bb), .val (.int cc), .val (.int ll), .val (.int mm), .val (.int dd), .val (.ref b2), .unset, .unset, .unset, .unset, .unset, .unset, .unset, .unset, .unset, .unset, .unset, .unset, .unset, .unset, .unset, .unset, .unset, .unset, .unset, .unset, .unset] [(.int (3 : Int32)), (.ref b9), (.ref b9)])
    refine OFin.st (fun t k => XS.aload X9.here hx rfl (hb hby at_100) rfl rfl k) ?_
    refine OFin.st (fun t k => XS.iload X9.here hx rfl (hb hby at_102) rfl k) ?_
    obtain ⟨_, _, ⟨T10, L10, k10, n10⟩, -, X10, ⟨Lc10, hQ10, l10, y10, z10⟩, st10⟩ := X9.specialBack hx (y := (⟨"com/example/verdikt/verdikt/model/Lanes", "<init>", "(ILjava/util/List;I)V"⟩ : MethodName)) rfl hown (mvT hZ (hw _ (List.mem_of_getElem? (i := 95) rfl))) (mvT hZ (hw _ (List.mem_of_getElem? (i := 96) rfl))) (mvT hZ (hw _ (List.mem_of_getElem? (i := 97) rfl))) (by decide) (backOf (W := 1) (rm12 l Z a0 hw [] b9 b2 wi b8 b4 bb ((0 : Int32) + (1 : Int32)) kb8 (.int (0 : Int32)) .null .null .null (.long (0 : Int64)) .null w_BOOL h9 n0 O9 A9 F_width_b9 F_offsets_b9 F_words_b9 F_values_b9 F_all_b9 F_lent_b9 g_b9 (P8_0.ext E9) (P8_1.ext E9) (P8_2.ext E9) (P8_3.ext E9) (P8_4.ext E9) (P8_7.ext E9) ((P7_1.keep K8q (ninS (Ne.symm N_b2_b4) nin0)).ext E9) ((P7_2.keep K8q (ninS (Ne.symm N_b2_b4) nin0)).ext E9) N_b2_b9 N_b8_b9 N_b4_b9 (own_nlt32 (by rw [(by decide : (1 : Int32).toInt = 1)]; omega)) (own_nlt32 (by rw [(by decide : (64 : Int32).toInt = 64)]; omega)) (hbq : bb = 0 ∨ bb = 1 ∨ bb = 2) S_BOOL) hZ (hw _ (List.mem_of_getElem? (i := 97) rfl)) (hw _ (List.mem_of_getElem? (i := 94) rfl)) (by decide) (by decide)) (g := (mkF m 104 #[.val (.int p0), .val (.int p1), .val (.int p2), .val (.long q3), .second, .val (.long q4), .second, .val (.long q5), .second, .val (.int wi), .val (.int bb), .val (.int cc), .val (.int ll), .val (.int mm), .val (.int dd), .val (.ref b2), .unset, .unset, .unset, .unset, .unset, .unset, .unset, .unset, .unset, .unset, .unset, .unset, .unset, .unset, .unset, .unset, .unset, .unset, .unset, .unset, .unset] [(.int wi), (.ref b2), (.int (3 : Int32)), (.ref b9), (.ref b9)])) rfl (by rw [hml]; rfl) (Steps.refl _) (a := b9) (argsL := [(.int (3 : Int32)), (.ref b2), (.int wi)]) (rest := [(.ref b9)]) (lenOf pd_15 rfl) rfl (by show 2 * 0 + _ ≤ _; exact Nat.le_of_eq rfl) (hb hby at_104) (fun _ _ => ⟨rfl, e9, (by decide : 6 + 5 ≤ _), (by decide : 33 + 138 ≤ _)⟩)
    dsimp only [Pt.U, Pt.locs, Pt.cells, Pt.slots] at X10 l10 y10 z10 st10 hQ10
    subst l10 y10 z10
    have X10 : Stand p l e room_1 (s.setVm T5.vm) m #[(.int p0), (.int p1), (.int p2), (.long q3), (.long q4), (.long q5)] below meth c T10 _ 11 171 := X10
    obtain ⟨oa10, wa10, va10, ko10, kw10, kv10, rfl, N10q, K10q, P10_0, P10_1, P10_2, P10_3, P10_4, P10_5, P10_6, P10_7, P10_8, P10_9, P10_10, P10_11, P10_12, P10_13⟩ := hQ10
    have N10 := Fr.app N8 N10q
    have hk10 := Nat.le_trans hk9 K10q.1
    have K10 : Keep h0 T10.heap [] := K9.trans K10q (allS (Or.inr sz_b9) all0)
    have O10 : Old Z n0 T10.heap := O9.keep K10q (allS g_b9 all0)
    have N_b2_oa10 : b2 ≠ oa10 := Nat.ne_of_lt (Nat.lt_of_lt_of_le (P8_0.ext E9).lt P10_8)
    have N_b4_oa10 : b4 ≠ oa10 := Nat.ne_of_lt (Nat.lt_of_lt_of_le (P8_7.ext E9).lt P10_8)
    have N_b8_oa10 : b8 ≠ oa10 := Nat.ne_of_lt (Nat.lt_of_lt_of_le (P8_4.ext E9).lt P10_8)
    have N_b9_oa10 : b9 ≠ oa10 := Nat.ne_of_lt (Nat.lt_of_lt_of_le A9.lt P10_8)
    have g_oa10 : n0 ≤ oa10 := Nat.le_trans (Nat.le_trans (Nat.le_of_eq O9.1.symm) O9.2.1) P10_8
    have sz_oa10 : h0.size ≤ oa10 := Nat.le_trans K9.1 P10_8
    have N_b2_wa10 : b2 ≠ wa10 := Nat.ne_of_lt (Nat.lt_of_lt_of_le (P8_0.ext E9).lt P10_9)
    have N_b4_wa10 : b4 ≠ wa10 := Nat.ne_of_lt (Nat.lt_of_lt_of_le (P8_7.ext E9).lt P10_9)
    have N_b8_wa10 : b8 ≠ wa10 := Nat.ne_of_lt (Nat.lt_of_lt_of_le (P8_4.ext E9).lt P10_9)
    have N_b9_wa10 : b9 ≠ wa10 := Nat.ne_of_lt (Nat.lt_of_lt_of_le A9.lt P10_9)
    have g_wa10 : n0 ≤ wa10 := Nat.le_trans (Nat.le_trans (Nat.le_of_eq O9.1.symm) O9.2.1) P10_9
    have sz_wa10 : h0.size ≤ wa10 := Nat.le_trans K9.1 P10_9
    have N_b2_va10 : b2 ≠ va10 := Nat.ne_of_lt (Nat.lt_of_lt_of_le (P8_0.ext E9).lt P10_10)
    have N_b4_va10 : b4 ≠ va10 := Nat.ne_of_lt (Nat.lt_of_lt_of_le (P8_7.ext E9).lt P10_10)
    have N_b8_va10 : b8 ≠ va10 := Nat.ne_of_lt (Nat.lt_of_lt_of_le (P8_4.ext E9).lt P10_10)
    have N_b9_va10 : b9 ≠ va10 := Nat.ne_of_lt (Nat.lt_of_lt_of_le A9.lt P10_10)
    have g_va10 : n0 ≤ va10 := Nat.le_trans (Nat.le_trans (Nat.le_of_eq O9.1.symm) O9.2.1) P10_10
    have sz_va10 : h0.size ≤ va10 := Nat.le_trans K9.1 P10_10
    refine OFin.tr st10 ?_
    refine OFin.st (fun t k => XS.astore X10.here hx rfl (hb hby at_107) rfl rfl (l' := #[.val (.int p0), .val (.int p1), .val (.int p2), .val (.long q3), .second, .val (.long q4), .second, .val (.long q5), .second, .val (.int wi), .val (.int bb), .val (.int cc), .val (.int ll), .val (.int mm), .val (.int dd), .val (.ref b2), .val (.ref b9), .unset, .unset, .unset, .unset, .unset, .unset, .unset, .unset, .unset, .unset, .unset, .unset, .unset, .unset, .unset, .unset, .unset, .unset, .unset, .unset]) rfl k) ?_
    show OFin p e below _ _ T10 (mkF m 109 #[.val (.int p0), .val (.int p1), .val (.int p2), .val (.long q3), .second, .val (.long q4), .second, .val (.long q5), .second, .val (.int wi), .val (.int bb), .val (.int cc), .val (.int ll), .val (.int mm), .val (.int dd), .val (.ref b2), .val (.ref b9), .unset, .unset, .unset, .unset, .unset, .unset, .unset, .unset, .unset, .unset, .unset, .unset, .unset, .unset, .unset, .unset, .unset, .unset, .unset, .unset] [])
    refine OFin.st (fun t k => XS.iconst X10.here hx rfl (hb hby at_109) k) ?_
    obtain ⟨T11, h11, k11, X11, e11, E11, A11, st11⟩ := own_newP X10 hx hZ (hw _ (List.mem_of_getElem? (i := 173) rfl)) rfl (z := (3 : Int32)) (n := 3) (cap := 3) (by decide) (by decide) (by decide) (by decide) (by decide) (pc := 110) (Ls := #[.val (.int p0), .val (.int p1), .val (.int p2), .val (.long q3), .second, .val (.long q4), .second, .val (.long q5), .second, .val (.int wi), .val (.int bb), .val (.int cc), .val (.int ll), .val (.int mm), .val (.int dd), .val (.ref b2), .val (.ref b9), .unset, .unset, .unset, .unset, .unset, .unset, .unset, .unset, .unset, .unset, .unset, .unset, .unset, .unset, .unset, .unset, .unset, .unset, .unset, .unset]) (rest := []) (hb hby at_110)
    obtain ⟨b11, gz_b11⟩ : ∃ z, z = T10.heap.size := ⟨_, rfl⟩
    rw [← gz_b11] at A11 st11
    have N_b2_b11 : b2 ≠ b11 := Nat.ne_of_lt (Nat.lt_of_lt_of_le ((P8_0.ext E9).keep K10q).lt (Nat.le_of_eq gz_b11.symm))
    have N_b4_b11 : b4 ≠ b11 := Nat.ne_of_lt (Nat.lt_of_lt_of_le ((P8_7.ext E9).keep K10q).lt (Nat.le_of_eq gz_b11.symm))
    have N_b8_b11 : b8 ≠ b11 := Nat.ne_of_lt (Nat.lt_of_lt_of_le ((P8_4.ext E9).keep K10q (ninS N_b8_b9 nin0)).lt (Nat.le_of_eq gz_b11.symm))
    have N_b9_b11 : b9 ≠ b11 := Nat.ne_of_lt (Nat.lt_of_lt_of_le P10_0.lt (Nat.le_of_eq gz_b11.symm))
    have N_oa10_b11 : oa10 ≠ b11 := Nat.ne_of_lt (Nat.lt_of_lt_of_le P10_5.lt (Nat.le_of_eq gz_b11.symm))
    have N_wa10_b11 : wa10 ≠ b11 := Nat.ne_of_lt (Nat.lt_of_lt_of_le P10_6.lt (Nat.le_of_eq gz_b11.symm))
    have N_va10_b11 : va10 ≠ b11 := Nat.ne_of_lt (Nat.lt_of_lt_of_le P10_7.lt (Nat.le_of_eq gz_b11.symm))
    have g_b11 : n0 ≤ b11 := Nat.le_trans (Nat.le_trans (Nat.le_of_eq O10.1.symm) O10.2.1) (Nat.le_of_eq gz_b11.symm)
    have sz_b11 : h0.size ≤ b11 := Nat.le_trans K10.1 (Nat.le_of_eq gz_b11.symm)
    have hk11 := Nat.le_trans hk10 E11.1
    have K11 : Keep h0 h11 [] := K10.ext E11
    have O11 : Old Z n0 h11 := O10.ext E11
    have V11 : Oar Z h11 b11 k11 .long [(.long (0 : Int64)), (.long (0 : Int64)), (.long (0 : Int64))] := A11
    refine OFin.st st11 ?_
    refine OFin.st (fun t k => XS.astore X11.here hx rfl (hb hby at_112) rfl rfl (l' := #[.val (.int p0), .val (.int p1), .val (.int p2), .val (.long q3), .second, .val (.long q4), .second, .val (.long q5), .second, .val (.int wi), .val (.int bb), .val (.int cc), .val (.int ll), .val (.int mm), .val (.int dd), .val (.ref b2), .val (.ref b9), .val (.ref b11), .unset, .unset, .unset, .unset, .unset, .unset, .unset, .unset, .unset, .unset, .unset, .unset, .unset, .unset, .unset, .unset, .unset, .unset, .unset]) rfl k) ?_
    refine OFin.st (fun t k => XS.aload X11.here hx rfl (hb hby at_114) rfl rfl k) ?_
    show OFin p e below _ _ T11 (mkF m 116 #[.val (.int p0), .val (.int p1), .val (.int p2), .val (.long q3), .second, .val (.long q4), .second, .val (.long q5), .second, .val (.int wi), .val (.int bb), .val (.int cc), .val (.int ll), .val (.int mm), .val (.int dd), .val (.ref b2), .val (.ref b9), .val (.ref b11), .unset, .unset, .unset, .unset, .unset, .unset, .unset, .unset, .unset, .unset, .unset, .unset, .unset, .unset, .unset, .unset, .unset, .unset, .unset] [(.ref b11)])
    refine OFin.st (fun t k => XS.iconst X11.here hx rfl (hb hby at_116) k) ?_
    refine OFin.st (fun t k => XS.lload X11.here hx rfl (hb hby at_117) rfl k) ?_
    obtain ⟨T12, h12, X12, e12, W12, V12, st12⟩ := own_lastore X11 hx hZ e11 V11 (i := 0) (j := (0 : Int32)) (by decide) (by show 0 < 3; decide) (x := q5) (pc := 119) (Ls := #[.val (.int p0), .val (.int p1), .val (.int p2), .val (.long q3), .second, .val (.long q4), .second, .val (.long q5), .second, .val (.int wi), .val (.int bb), .val (.int cc), .val (.int ll), .val (.int mm), .val (.int dd), .val (.ref b2), .val (.ref b9), .val (.ref b11), .unset, .unset, .unset, .unset, .unset, .unset, .unset, .unset, .unset, .unset, .unset, .unset, .unset, .unset, .unset, .unset, .unset, .unset, .unset]) (rest := []) (hb hby at_119)
    have N12 := Fr.snoc X12 N10 g_b11
    have hk12 := Nat.le_trans hk11 (Nat.le_of_eq W12.size.symm)
    have K12 : Keep h0 h12 [] := K11.wr W12 (Or.inr sz_b11)
    have O12 : Old Z n0 h12 := O11.wr W12 g_b11
    have Vw12 : Oar Z h12 b11 k11 .long [(.long q5), (.long (0 : Int64)), (.long (0 : Int64))] := V12
    refine OFin.st st12 ?_
    refine OFin.st (fun t k => XS.aload X12.here hx rfl (hb hby at_120) rfl rfl k) ?_
    show OFin p e below _ _ T12 (mkF m 122 #[.val (.int p0), .val (.int p1), .val (.int p2), .val (.long q3), .second, .val (.long q4), .second, .val (.long q5), .second, .val (.int wi), .val (.int bb), .val (.int cc), .val (.int ll), .val (.int mm), .val (.int dd), .val (.ref b2), .val (.ref b9), .val (.ref b11), .unset, .unset, .unset, .unset, .unset, .unset, .unset, .unset, .unset, .unset, .unset, .unset, .unset, .unset, .unset, .unset, .unset, .unset, .unset] [(.ref b11)])
    refine OFin.st (fun t k => XS.iconst X12.here hx rfl (hb hby at_122) k) ?_
    refine OFin.st (fun t k => XS.lload X12.here hx rfl (hb hby at_123) rfl k) ?_
    refine OFin.st (fun t k => XS.lconst X12.here hx rfl (hb hby at_125) k) ?_
    refine OFin.st (fun t k => XS.ladd X12.here hx rfl (hb hby at_126) rfl k) ?_
    show OFin p e below _ _ T12 (mkF m 127 #[.val (.int p0), .val (.int p1), .val (.int p2), .val (.long q3), .second, .val (.long q4), .second, .val (.long q5), .second, .val (.int wi), .val (.int bb), .val (.int cc), .val (.int ll), .val (.int mm), .val (.int dd), .val (.ref b2), .val (.ref b9), .val (.ref b11), .unset, .unset, .unset, .unset, .unset, .unset, .unset, .unset, .unset, .unset, .unset, .unset, .unset, .unset, .unset, .unset, .unset, .unset, .unset] [(.long (q5 + (1 : Int64))), (.int (1 : Int32)), (.ref b11)])
    obtain ⟨T13, h13, X13, e13, W13, V13, st13⟩ := own_lastore X12 hx hZ e12 Vw12 (i := 1) (j := (1 : Int32)) (by decide) (by show 1 < 3; decide) (x := (q5 + (1 : Int64))) (pc := 127) (Ls := #[.val (.int p0), .val (.int p1), .val (.int p2), .val (.long q3), .second, .val (.long q4), .second, .val (.long q5), .second, .val (.int wi), .val (.int bb), .val (.int cc), .val (.int ll), .val (.int mm), .val (.int dd), .val (.ref b2), .val (.ref b9), .val (.ref b11), .unset, .unset, .unset, .unset, .unset, .unset, .unset, .unset, .unset, .unset, .unset, .unset, .unset, .unset, .unset, .unset, .unset, .unset, .unset]) (rest := []) (hb hby at_127)
    have N13 := Fr.snoc X13 N12 g_b11
    have hk13 := Nat.le_trans hk12 (Nat.le_of_eq W13.size.symm)
    have K13 : Keep h0 h13 [] := K12.wr W13 (Or.inr sz_b11)
    have O13 : Old Z n0 h13 := O12.wr W13 g_b11
    have Vw13 : Oar Z h13 b11 k11 .long [(.long q5), (.long (q5 + (1 : Int64))), (.long (0 : Int64))] := V13
    refine OFin.st st13 ?_
    refine OFin.st (fun t k => XS.aload X13.here hx rfl (hb hby at_128) rfl rfl k) ?_
    refine OFin.st (fun t k => XS.iconst X13.here hx rfl (hb hby at_130) k) ?_
    refine OFin.st (fun t k => XS.lload X13.here hx rfl (hb hby at_131) rfl k) ?_
    show OFin p e below _ _ T13 (mkF m 133 #[.val (.int p0), .val (.int p1), .val (.int p2), .val (.long q3), .second, .val (.long q4), .second, .val (.long q5), .second, .val (.int wi), .val (.int bb), .val (.int cc), .val (.int ll), .val (.int mm), .val (.int dd), .val (.ref b2), .val (.ref b9), .val (.ref b11), .unset, .unset, .unset, .unset, .unset, .unset, .unset, .unset, .unset, .unset, .unset, .unset, .unset, .unset, .unset, .unset, .unset, .unset, .unset] [(.long q5), (.int (2 : Int32)), (.ref b11)])
    refine OFin.st (X13.ldc2Long hx hown (mvT hZ (hw _ (List.mem_of_getElem? (i := 178) rfl))) (g := (mkF m 133 #[.val (.int p0), .val (.int p1), .val (.int p2), .val (.long q3), .second, .val (.long q4), .second, .val (.long q5), .second, .val (.int wi), .val (.int bb), .val (.int cc), .val (.int ll), .val (.int mm), .val (.int dd), .val (.ref b2), .val (.ref b9), .val (.ref b11), .unset, .unset, .unset, .unset, .unset, .unset, .unset, .unset, .unset, .unset, .unset, .unset, .unset, .unset, .unset, .unset, .unset, .unset, .unset] [(.long q5), (.int (2 : Int32)), (.ref b11)])) rfl (hb hby at_133)) ?_
    refine OFin.st (fun t k => XS.ladd X13.here hx rfl (hb hby at_136) rfl k) ?_
    obtain ⟨T14, h14, X14, e14, W14, V14, st14⟩ := own_lastore X13 hx hZ e13 Vw13 (i := 2) (j := (2 : Int32)) (by decide) (by show 2 < 3; decide) (x := (q5 + (2 : Int64))) (pc := 137) (Ls := #[.val (.int p0), .val (.int p1), .val (.int p2), .val (.long q3), .second, .val (.long q4), .second, .val (.long q5), .second, .val (.int wi), .val (.int bb), .val (.int cc), .val (.int ll), .val (.int mm), .val (.int dd), .val (.ref b2), .val (.ref b9), .val (.ref b11), .unset, .unset, .unset, .unset, .unset, .unset, .unset, .unset, .unset, .unset, .unset, .unset, .unset, .unset, .unset, .unset, .unset, .unset, .unset]) (rest := []) (hb hby at_137)
    have N14 := Fr.snoc X14 N13 g_b11
    have hk14 := Nat.le_trans hk13 (Nat.le_of_eq W14.size.symm)
    have K14 : Keep h0 h14 [] := K13.wr W14 (Or.inr sz_b11)
    have O14 : Old Z n0 h14 := O13.wr W14 g_b11
    have Vw14 : Oar Z h14 b11 k11 .long [(.long q5), (.long (q5 + (1 : Int64))), (.long (q5 + (2 : Int64)))] := V14
    refine OFin.st st14 ?_
    refine OFin.st (fun t k => XS.aload X14.here hx rfl (hb hby at_138) rfl rfl k) ?_
    show OFin p e below _ _ T14 (mkF m 140 #[.val (.int p0), .val (.int p1), .val (.int p2), .val (.long q3), .second, .val (.long q4), .second, .val (.long q5), .second, .val (.int wi), .val (.int bb), .val (.int cc), .val (.int ll), .val (.int mm), .val (.int dd), .val (.ref b2), .val (.ref b9), .val (.ref b11), .unset, .unset, .unset, .unset, .unset, .unset, .unset, .unset, .unset, .unset, .unset, .unset, .unset, .unset, .unset, .unset, .unset, .unset, .unset] [(.ref b9)])
    refine OFin.st (fun t k => XS.aload X14.here hx rfl (hb hby at_140) rfl rfl k) ?_
    have c15 := ((((P10_1.ext E11).other W12 (Or.inl N_b9_b11)).other W13 (Or.inl N_b9_b11)).other W14 (Or.inl N_b9_b11))
    have c16 := ((((P10_2.ext E11).other W12 (Or.inl N_b9_b11)).other W13 (Or.inl N_b9_b11)).other W14 (Or.inl N_b9_b11))
    have c17 := ((((P10_3.ext E11).other W12 (Or.inl N_b9_b11)).other W13 (Or.inl N_b9_b11)).other W14 (Or.inl N_b9_b11))
    have c18 := ((((P10_4.ext E11).other W12 (Or.inl N_b9_b11)).other W13 (Or.inl N_b9_b11)).other W14 (Or.inl N_b9_b11))
    have c19 := ((((P10_5.ext E11).other W12 N_oa10_b11).other W13 N_oa10_b11).other W14 N_oa10_b11)
    have c20 := ((((P10_7.ext E11).other W12 N_va10_b11).other W13 N_va10_b11).other W14 N_va10_b11)
    have c21 := ((((P10_6.ext E11).other W12 N_wa10_b11).other W13 N_wa10_b11).other W14 N_wa10_b11)
    obtain ⟨cq22, kq22, q22a, q22b, q22c⟩ := isOf hZ e14 ((((P10_0.ext E11).wr W12).wr W13).wr W14)
    obtain ⟨_, _, ⟨T22, L22, k22, n22⟩, -, X22, ⟨Lc22, hQ22, l22, y22, z22⟩, st22⟩ := X14.virtualBack hx (y := (⟨"com/example/verdikt/verdikt/model/Lanes", "fill", "([J)V"⟩ : MethodName)) (z := (⟨"com/example/verdikt/verdikt/model/Lanes", "fill", "([J)V"⟩ : MethodName)) hown (mvT hZ (hw _ (List.mem_of_getElem? (i := 179) rfl))) (mvT hZ (hw _ (List.mem_of_getElem? (i := 180) rfl))) (notFace_of_selects (args := #[]) (mvT hZ (hw _ (List.mem_of_getElem? (i := 182) rfl)))) (mvT hZ (hw _ (List.mem_of_getElem? (i := 182) rfl))) (mvT hZ (hw _ (List.mem_of_getElem? (i := 181) rfl))) (by decide) (backOf (W := 0) (rm20 l Z a0 hw [] b9 b11 wi oa10 wa10 va10 ko10 kw10 kv10 bb (wi.toInt.toNat) q5 (q5 + (1 : Int64)) (q5 + (2 : Int64)) k11 h14 n0 O14 ((((P10_0.ext E11).wr W12).wr W13).wr W14) c15 c16 c17 c18 c19 c20 c21 Vw14 g_wa10 g_va10 (Ne.symm N_wa10_b11) (Ne.symm N_va10_b11) (Ne.symm N_b9_oa10) (Ne.symm N_b9_wa10) (Ne.symm N_b9_va10) P10_11 P10_12 P10_13 (hbq : bb = 0 ∨ bb = 1 ∨ bb = 2) (hwd : wi.toInt = ((wi.toInt.toNat) : Int) ∧ 1 ≤ (wi.toInt.toNat) ∧ (wi.toInt.toNat) ≤ 64)) hZ (hw _ (List.mem_of_getElem? (i := 183) rfl)) (hw _ (List.mem_of_getElem? (i := 94) rfl)) (by decide) (by decide)) q22a q22c (g := (mkF m 142 #[.val (.int p0), .val (.int p1), .val (.int p2), .val (.long q3), .second, .val (.long q4), .second, .val (.long q5), .second, .val (.int wi), .val (.int bb), .val (.int cc), .val (.int ll), .val (.int mm), .val (.int dd), .val (.ref b2), .val (.ref b9), .val (.ref b11), .unset, .unset, .unset, .unset, .unset, .unset, .unset, .unset, .unset, .unset, .unset, .unset, .unset, .unset, .unset, .unset, .unset, .unset, .unset] [(.ref b11), (.ref b9)])) rfl (by rw [hml]; rfl) (Steps.refl _) (argsL := [(.ref b11)]) (rest := []) (lenOf pd_20 rfl) rfl (by show 2 * 0 + _ ≤ _; exact Nat.le_of_eq rfl) (hb hby at_142) (fun _ _ => ⟨rfl, e14, (by decide : 12 + 0 ≤ _), (by decide : 174 + 0 ≤ _)⟩)
    dsimp only [Pt.U, Pt.locs, Pt.cells, Pt.slots] at X22 l22 y22 z22 st22 hQ22
    subst l22 y22 z22
    have X22 : Stand p l e room_1 (s.setVm T5.vm) m #[(.int p0), (.int p1), (.int p2), (.long q3), (.long q4), (.long q5)] below meth c T22 _ 12 174 := X22
    obtain ⟨wv22, rfl, N22q, K22q, P22_0, P22_1, P22_2, P22_3, P22_4, P22_5, P22_6, P22_7⟩ := hQ22
    have N22 := Fr.app N14 N22q
    have hk22 := Nat.le_trans hk14 K22q.1
    have K22 : Keep h0 T22.heap [] := K14.trans K22q (allS (Or.inr sz_wa10) (allS (Or.inr sz_va10) all0))
    have O22 : Old Z n0 T22.heap := O14.keep K22q (allS g_wa10 (allS g_va10 all0))
    refine OFin.tr st22 ?_
    have Rs23 : Oar Z T22.heap va10 kv10 .long (vlc bb (wi.toInt.toNat) q5) := P22_6
    refine OFin.st (fun t k => XS.aload X22.here hx rfl (hb hby at_145) rfl rfl k) ?_
    refine OFin.st (fun t k => XS.iload X22.here hx rfl (hb hby at_147) rfl k) ?_
    show OFin p e below _ _ T22 (mkF m 149 #[.val (.int p0), .val (.int p1), .val (.int p2), .val (.long q3), .second, .val (.long q4), .second, .val (.long q5), .second, .val (.int wi), .val (.int bb), .val (.int cc), .val (.int ll), .val (.int mm), .val (.int dd), .val (.ref b2), .val (.ref b9), .val (.ref b11), .unset, .unset, .unset, .unset, .unset, .unset, .unset, .unset, .unset, .unset, .unset, .unset, .unset, .unset, .unset, .unset, .unset, .unset, .unset] [(.int bb), (.ref b9)])
    refine OFin.st (fun t k => XS.lload X22.here hx rfl (hb hby at_149) rfl k) ?_
    refine OFin.st (X22.ldc2Long hx hown (mvT hZ (hw _ (List.mem_of_getElem? (i := 192) rfl))) (g := (mkF m 151 #[.val (.int p0), .val (.int p1), .val (.int p2), .val (.long q3), .second, .val (.long q4), .second, .val (.long q5), .second, .val (.int wi), .val (.int bb), .val (.int cc), .val (.int ll), .val (.int mm), .val (.int dd), .val (.ref b2), .val (.ref b9), .val (.ref b11), .unset, .unset, .unset, .unset, .unset, .unset, .unset, .unset, .unset, .unset, .unset, .unset, .unset, .unset, .unset, .unset, .unset, .unset, .unset] [(.long q4), (.int bb), (.ref b9)])) rfl (hb hby at_151)) ?_
    obtain ⟨cq24, kq24, q24a, q24b, q24c⟩ := isOf hZ rfl P22_0
    obtain ⟨_, _, ⟨T24, L24, k24, n24⟩, -, X24, ⟨Lc24, hQ24, l24, y24, z24⟩, st24⟩ := X22.virtualBack hx (y := (⟨"com/example/verdikt/verdikt/model/Lanes", "setBits", "(IJJ)V"⟩ : MethodName)) (z := (⟨"com/example/verdikt/verdikt/model/Lanes", "setBits", "(IJJ)V"⟩ : MethodName)) hown (mvT hZ (hw _ (List.mem_of_getElem? (i := 193) rfl))) (mvT hZ (hw _ (List.mem_of_getElem? (i := 194) rfl))) (notFace_of_selects (args := #[]) (mvT hZ (hw _ (List.mem_of_getElem? (i := 196) rfl)))) (mvT hZ (hw _ (List.mem_of_getElem? (i := 196) rfl))) (mvT hZ (hw _ (List.mem_of_getElem? (i := 195) rfl))) (by decide) (backOf (W := 0) (rm23 l Z a0 hw [] b9 bb q4 (-1 : Int64) wa10 kw10 (wds bb wv22) (bb.toInt.toNat) wv22 T22.heap n0 O22 P22_0 P22_3 P22_5 g_wa10 (own_b3 bb hbq) (own_wget bb wv22 hbq)) hZ (hw _ (List.mem_of_getElem? (i := 197) rfl)) (hw _ (List.mem_of_getElem? (i := 94) rfl)) (by decide) (by decide)) q24a q24c (g := (mkF m 154 #[.val (.int p0), .val (.int p1), .val (.int p2), .val (.long q3), .second, .val (.long q4), .second, .val (.long q5), .second, .val (.int wi), .val (.int bb), .val (.int cc), .val (.int ll), .val (.int mm), .val (.int dd), .val (.ref b2), .val (.ref b9), .val (.ref b11), .unset, .unset, .unset, .unset, .unset, .unset, .unset, .unset, .unset, .unset, .unset, .unset, .unset, .unset, .unset, .unset, .unset, .unset, .unset] [(.long (-1 : Int64)), (.long q4), (.int bb), (.ref b9)])) rfl (by rw [hml]; rfl) (Steps.refl _) (argsL := [(.int bb), (.long q4), (.long (-1 : Int64))]) (rest := []) (lenOf pd_14 rfl) rfl (by show 2 * 0 + _ ≤ _; exact Nat.le_of_eq rfl) (hb hby at_154) (fun _ _ => ⟨rfl, rfl, (by decide : 12 + 0 ≤ _), (by decide : 174 + 0 ≤ _)⟩)
    dsimp only [Pt.U, Pt.locs, Pt.cells, Pt.slots] at X24 l24 y24 z24 st24 hQ24
    subst l24 y24 z24
    have X24 : Stand p l e room_1 (s.setVm T5.vm) m #[(.int p0), (.int p1), (.int p2), (.long q3), (.long q4), (.long q5)] below meth c T24 _ 12 174 := X24
    obtain ⟨rfl, N24q, K24q, P24_0⟩ := hQ24
    have N24 := Fr.app N22 N24q
    have hk24 := Nat.le_trans hk22 K24q.1
    have K24 : Keep h0 T24.heap [] := K22.trans K24q (allS (Or.inr sz_wa10) all0)
    have O24 : Old Z n0 T24.heap := O22.keep K24q (allS g_wa10 all0)
    refine OFin.tr st24 ?_
    have Rs25 : Oar Z T24.heap wa10 kw10 .long (wds bb q4) := (by have q := P24_0; rw [own_wset bb _ _ hbq, own_init] at q; exact q)
    refine OFin.st (fun t k => XS.aload X24.here hx rfl (hb hby at_157) rfl rfl k) ?_
    show OFin p e below _ _ T24 (mkF m 159 #[.val (.int p0), .val (.int p1), .val (.int p2), .val (.long q3), .second, .val (.long q4), .second, .val (.long q5), .second, .val (.int wi), .val (.int bb), .val (.int cc), .val (.int ll), .val (.int mm), .val (.int dd), .val (.ref b2), .val (.ref b9), .val (.ref b11), .unset, .unset, .unset, .unset, .unset, .unset, .unset, .unset, .unset, .unset, .unset, .unset, .unset, .unset, .unset, .unset, .unset, .unset, .unset] [(.ref b9)])
    refine OFin.st (fun t k => XS.iload X24.here hx rfl (hb hby at_159) rfl k) ?_
    refine OFin.st (fun t k => XS.iload X24.here hx rfl (hb hby at_161) rfl k) ?_
    refine OFin.st (fun t k => XS.lloadN X24.here hx rfl (hb hby at_163) rfl k) ?_
    obtain ⟨cq26, kq26, q26a, q26b, q26c⟩ := isOf hZ rfl (P22_0.keep K24q)
    obtain ⟨_, _, ⟨T26, L26, k26, n26⟩, -, X26, ⟨Lc26, hQ26, l26, y26, z26⟩, st26⟩ := X24.virtualBack hx (y := (⟨"com/example/verdikt/verdikt/model/Lanes", "setCell", "(IIJ)V"⟩ : MethodName)) (z := (⟨"com/example/verdikt/verdikt/model/Lanes", "setCell", "(IIJ)V"⟩ : MethodName)) hown (mvT hZ (hw _ (List.mem_of_getElem? (i := 198) rfl))) (mvT hZ (hw _ (List.mem_of_getElem? (i := 199) rfl))) (notFace_of_selects (args := #[]) (mvT hZ (hw _ (List.mem_of_getElem? (i := 201) rfl)))) (mvT hZ (hw _ (List.mem_of_getElem? (i := 201) rfl))) (mvT hZ (hw _ (List.mem_of_getElem? (i := 200) rfl))) (by decide) (backOf (W := 0) (rm24 l Z a0 hw [] b9 cc ll q3 oa10 wa10 va10 ko10 kw10 kv10 (offs bb wi) (wds bb q4) (vlc bb (wi.toInt.toNat) q5) (oX bb wi cc) (cc.toInt.toNat) (oN bb cc (wi.toInt.toNat) + ll.toInt.toNat) (wX bb q4 cc) T24.heap n0 O24 (P22_0.keep K24q) (P22_2.keep K24q (ninS N_b9_wa10 nin0)) (P22_3.keep K24q (ninS N_b9_wa10 nin0)) (P22_4.keep K24q (ninS N_b9_wa10 nin0)) (P22_7.keep K24q (ninS P10_11 nin0)) Rs25 (Rs23.keep K24q (ninS (Ne.symm P10_13) nin0)) g_wa10 g_va10 P10_11 P10_12 P10_13 (own_b3 cc hcc) (own_oX bb wi cc hbq hcc) (own_wX bb cc q4 hbq hcc) (own_hvi bb wi cc ll _ q5 hwd hll)) hZ (hw _ (List.mem_of_getElem? (i := 202) rfl)) (hw _ (List.mem_of_getElem? (i := 94) rfl)) (by decide) (by decide)) q26a q26c (g := (mkF m 164 #[.val (.int p0), .val (.int p1), .val (.int p2), .val (.long q3), .second, .val (.long q4), .second, .val (.long q5), .second, .val (.int wi), .val (.int bb), .val (.int cc), .val (.int ll), .val (.int mm), .val (.int dd), .val (.ref b2), .val (.ref b9), .val (.ref b11), .unset, .unset, .unset, .unset, .unset, .unset, .unset, .unset, .unset, .unset, .unset, .unset, .unset, .unset, .unset, .unset, .unset, .unset, .unset] [(.long q3), (.int ll), (.int cc), (.ref b9)])) rfl (by rw [hml]; rfl) (Steps.refl _) (argsL := [(.int cc), (.int ll), (.long q3)]) (rest := []) (lenOf pd_13 rfl) rfl (by show 2 * 0 + _ ≤ _; exact Nat.le_of_eq rfl) (hb hby at_164) (fun _ _ => ⟨rfl, rfl, (by decide : 12 + 0 ≤ _), (by decide : 174 + 0 ≤ _)⟩)
    dsimp only [Pt.U, Pt.locs, Pt.cells, Pt.slots] at X26 l26 y26 z26 st26 hQ26
    subst l26 y26 z26
    have X26 : Stand p l e room_1 (s.setVm T5.vm) m #[(.int p0), (.int p1), (.int p2), (.long q3), (.long q4), (.long q5)] below meth c T26 _ 12 174 := X26
    obtain ⟨rfl, N26q, K26q, P26_0, P26_1⟩ := hQ26
    have N26 := Fr.app N24 N26q
    have hk26 := Nat.le_trans hk24 K26q.1
    have K26 : Keep h0 T26.heap [] := K24.trans K26q (allS (Or.inr sz_wa10) (allS (Or.inr sz_va10) all0))
    have O26 : Old Z n0 T26.heap := O24.keep K26q (allS g_wa10 (allS g_va10 all0))
    refine OFin.tr st26 ?_
    have Rs27 : Oar Z T26.heap wa10 kw10 .long (wds bb (wfin bb cc ll q4 q3)) := (by have q := P26_0; rw [own_wa2 bb wi cc ll (wi.toInt.toNat) q4 q3 hbq hcc hwd] at q; exact q)
    have Rs28 : Oar Z T26.heap va10 kv10 .long (vls bb cc ll (wi.toInt.toNat) q5 q3) := (by have q := P26_1; rw [own_va2 bb wi cc ll (wi.toInt.toNat) q5 q3 hwd] at q; exact q)
    show OFin p e below _ _ T26 (mkF m 167 #[.val (.int p0), .val (.int p1), .val (.int p2), .val (.long q3), .second, .val (.long q4), .second, .val (.long q5), .second, .val (.int wi), .val (.int bb), .val (.int cc), .val (.int ll), .val (.int mm), .val (.int dd), .val (.ref b2), .val (.ref b9), .val (.ref b11), .unset, .unset, .unset, .unset, .unset, .unset, .unset, .unset, .unset, .unset, .unset, .unset, .unset, .unset, .unset, .unset, .unset, .unset, .unset] [])
    refine OFin.st (fun t k => XS.aload X26.here hx rfl (hb hby at_167) rfl rfl k) ?_
    refine OFin.st (fun t k => XS.iload X26.here hx rfl (hb hby at_169) rfl k) ?_
    refine OFin.st (fun t k => XS.iload X26.here hx rfl (hb hby at_171) rfl k) ?_
    have c29 := ((P22_2.keep K24q (ninS N_b9_wa10 nin0)).keep K26q (ninS N_b9_wa10 (ninS N_b9_va10 nin0)))
    have c30 := ((P22_3.keep K24q (ninS N_b9_wa10 nin0)).keep K26q (ninS N_b9_wa10 (ninS N_b9_va10 nin0)))
    have c31 := ((P22_4.keep K24q (ninS N_b9_wa10 nin0)).keep K26q (ninS N_b9_wa10 (ninS N_b9_va10 nin0)))
    have c32 := ((P22_7.keep K24q (ninS P10_11 nin0)).keep K26q (ninS P10_11 (ninS P10_12 nin0)))
    obtain ⟨cq33, kq33, q33a, q33b, q33c⟩ := isOf hZ rfl ((P22_0.keep K24q).keep K26q)
    obtain ⟨_, _, ⟨T33, L33, k33, n33⟩, -, X33, ⟨Lc33, hQ33, l33, y33, z33⟩, st33⟩ := X26.virtualBack hx (y := (⟨"com/example/verdikt/verdikt/model/Lanes", "cell", "(II)J"⟩ : MethodName)) (z := (⟨"com/example/verdikt/verdikt/model/Lanes", "cell", "(II)J"⟩ : MethodName)) hown (mvT hZ (hw _ (List.mem_of_getElem? (i := 203) rfl))) (mvT hZ (hw _ (List.mem_of_getElem? (i := 204) rfl))) (notFace_of_selects (args := #[]) (mvT hZ (hw _ (List.mem_of_getElem? (i := 206) rfl)))) (mvT hZ (hw _ (List.mem_of_getElem? (i := 206) rfl))) (mvT hZ (hw _ (List.mem_of_getElem? (i := 205) rfl))) (by decide) (backOf (W := 0) (rm25 l Z a0 hw [] b9 cc ll oa10 wa10 va10 ko10 kw10 kv10 (offs bb wi) (wds bb (wfin bb cc ll q4 q3)) (vls bb cc ll (wi.toInt.toNat) q5 q3) (oX bb wi cc) (cc.toInt.toNat) (oN bb cc (wi.toInt.toNat) + ll.toInt.toNat) (wX bb (wfin bb cc ll q4 q3) cc) q3 T26.heap n0 O26 ((P22_0.keep K24q).keep K26q) c29 c30 c31 c32 Rs27 Rs28 (own_b3 cc hcc) (own_oX bb wi cc hbq hcc) (own_wX bb cc (wfin bb cc ll q4 q3) hbq hcc) (own_hx1 bb wi cc ll _ q5 q3 hwd hll)) hZ (hw _ (List.mem_of_getElem? (i := 207) rfl)) (hw _ (List.mem_of_getElem? (i := 94) rfl)) (by decide) (by decide)) q33a q33c (g := (mkF m 173 #[.val (.int p0), .val (.int p1), .val (.int p2), .val (.long q3), .second, .val (.long q4), .second, .val (.long q5), .second, .val (.int wi), .val (.int bb), .val (.int cc), .val (.int ll), .val (.int mm), .val (.int dd), .val (.ref b2), .val (.ref b9), .val (.ref b11), .unset, .unset, .unset, .unset, .unset, .unset, .unset, .unset, .unset, .unset, .unset, .unset, .unset, .unset, .unset, .unset, .unset, .unset, .unset] [(.int ll), (.int cc), (.ref b9)])) rfl (by rw [hml]; rfl) (Steps.refl _) (argsL := [(.int cc), (.int ll)]) (rest := []) (lenOf pd_10 rfl) rfl (by show 2 * 0 + _ ≤ _; exact Nat.le_of_eq rfl) (hb hby at_173) (fun _ _ => ⟨rfl, rfl, (by decide : 12 + 0 ≤ _), (by decide : 174 + 0 ≤ _)⟩)
    dsimp only [Pt.U, Pt.locs, Pt.cells, Pt.slots] at X33 l33 y33 z33 st33 hQ33
    subst l33 y33 z33
    have X33 : Stand p l e room_1 (s.setVm T5.vm) m #[(.int p0), (.int p1), (.int p2), (.long q3), (.long q4), (.long q5)] below meth c T33 _ 12 174 := X33
    obtain ⟨rfl, N33q, e33⟩ := hQ33
    have N33 := Fr.app N26 N33q
    refine OFin.tr st33 ?_
    show OFin p e below _ _ T33 (mkF m 176 #[.val (.int p0), .val (.int p1), .val (.int p2), .val (.long q3), .second, .val (.long q4), .second, .val (.long q5), .second, .val (.int wi), .val (.int bb), .val (.int cc), .val (.int ll), .val (.int mm), .val (.int dd), .val (.ref b2), .val (.ref b9), .val (.ref b11), .unset, .unset, .unset, .unset, .unset, .unset, .unset, .unset, .unset, .unset, .unset, .unset, .unset, .unset, .unset, .unset, .unset, .unset, .unset] [(.long (F25 b9 cc ll oa10 wa10 va10 ko10 kw10 kv10 (offs bb wi) (wds bb (wfin bb cc ll q4 q3)) (vls bb cc ll (wi.toInt.toNat) q5 q3) (oX bb wi cc) (cc.toInt.toNat) (oN bb cc (wi.toInt.toNat) + ll.toInt.toNat) (wX bb (wfin bb cc ll q4 q3) cc) q3))])
    refine OFin.st (fun t k => XS.lstore X33.here hx rfl (hb hby at_176) rfl (l' := #[.val (.int p0), .val (.int p1), .val (.int p2), .val (.long q3), .second, .val (.long q4), .second, .val (.long q5), .second, .val (.int wi), .val (.int bb), .val (.int cc), .val (.int ll), .val (.int mm), .val (.int dd), .val (.ref b2), .val (.ref b9), .val (.ref b11), .val (.long (F25 b9 cc ll oa10 wa10 va10 ko10 kw10 kv10 (offs bb wi) (wds bb (wfin bb cc ll q4 q3)) (vls bb cc ll (wi.toInt.toNat) q5 q3) (oX bb wi cc) (cc.toInt.toNat) (oN bb cc (wi.toInt.toNat) + ll.toInt.toNat) (wX bb (wfin bb cc ll q4 q3) cc) q3)), .second, .unset, .unset, .unset, .unset, .unset, .unset, .unset, .unset, .unset, .unset, .unset, .unset, .unset, .unset, .unset, .unset, .unset]) rfl k) ?_
    refine OFin.st (fun t k => XS.aload X33.here hx rfl (hb hby at_178) rfl rfl k) ?_
    refine OFin.st (fun t k => XS.iload X33.here hx rfl (hb hby at_180) rfl k) ?_
    refine OFin.st (fun t k => XS.iload X33.here hx rfl (hb hby at_182) rfl k) ?_
    show OFin p e below _ _ T33 (mkF m 184 #[.val (.int p0), .val (.int p1), .val (.int p2), .val (.long q3), .second, .val (.long q4), .second, .val (.long q5), .second, .val (.int wi), .val (.int bb), .val (.int cc), .val (.int ll), .val (.int mm), .val (.int dd), .val (.ref b2), .val (.ref b9), .val (.ref b11), .val (.long (F25 b9 cc ll oa10 wa10 va10 ko10 kw10 kv10 (offs bb wi) (wds bb (wfin bb cc ll q4 q3)) (vls bb cc ll (wi.toInt.toNat) q5 q3) (oX bb wi cc) (cc.toInt.toNat) (oN bb cc (wi.toInt.toNat) + ll.toInt.toNat) (wX bb (wfin bb cc ll q4 q3) cc) q3)), .second, .unset, .unset, .unset, .unset, .unset, .unset, .unset, .unset, .unset, .unset, .unset, .unset, .unset, .unset, .unset, .unset, .unset] [(.int mm), (.int cc), (.ref b9)])
    obtain ⟨cq34, kq34, q34a, q34b, q34c⟩ := isOf hZ e33 ((P22_0.keep K24q).keep K26q)
    obtain ⟨_, _, ⟨T34, L34, k34, n34⟩, -, X34, ⟨Lc34, hQ34, l34, y34, z34⟩, st34⟩ := X33.virtualBack hx (y := (⟨"com/example/verdikt/verdikt/model/Lanes", "cell", "(II)J"⟩ : MethodName)) (z := (⟨"com/example/verdikt/verdikt/model/Lanes", "cell", "(II)J"⟩ : MethodName)) hown (mvT hZ (hw _ (List.mem_of_getElem? (i := 203) rfl))) (mvT hZ (hw _ (List.mem_of_getElem? (i := 204) rfl))) (notFace_of_selects (args := #[]) (mvT hZ (hw _ (List.mem_of_getElem? (i := 206) rfl)))) (mvT hZ (hw _ (List.mem_of_getElem? (i := 206) rfl))) (mvT hZ (hw _ (List.mem_of_getElem? (i := 205) rfl))) (by decide) (backOf (W := 0) (rm25 l Z a0 hw [] b9 cc mm oa10 wa10 va10 ko10 kw10 kv10 (offs bb wi) (wds bb (wfin bb cc ll q4 q3)) (vls bb cc ll (wi.toInt.toNat) q5 q3) (oX bb wi cc) (cc.toInt.toNat) (oN bb cc (wi.toInt.toNat) + mm.toInt.toNat) (wX bb (wfin bb cc ll q4 q3) cc) (if mm = ll then q3 else xc q5 cc) T26.heap n0 O26 ((P22_0.keep K24q).keep K26q) c29 c30 c31 c32 Rs27 Rs28 (own_b3 cc hcc) (own_oX bb wi cc hbq hcc) (own_wX bb cc (wfin bb cc ll q4 q3) hbq hcc) (own_hx2 bb wi cc ll mm _ q5 q3 hbq hcc hwd hll hmm)) hZ (hw _ (List.mem_of_getElem? (i := 207) rfl)) (hw _ (List.mem_of_getElem? (i := 94) rfl)) (by decide) (by decide)) q34a q34c (g := (mkF m 184 #[.val (.int p0), .val (.int p1), .val (.int p2), .val (.long q3), .second, .val (.long q4), .second, .val (.long q5), .second, .val (.int wi), .val (.int bb), .val (.int cc), .val (.int ll), .val (.int mm), .val (.int dd), .val (.ref b2), .val (.ref b9), .val (.ref b11), .val (.long (F25 b9 cc ll oa10 wa10 va10 ko10 kw10 kv10 (offs bb wi) (wds bb (wfin bb cc ll q4 q3)) (vls bb cc ll (wi.toInt.toNat) q5 q3) (oX bb wi cc) (cc.toInt.toNat) (oN bb cc (wi.toInt.toNat) + ll.toInt.toNat) (wX bb (wfin bb cc ll q4 q3) cc) q3)), .second, .unset, .unset, .unset, .unset, .unset, .unset, .unset, .unset, .unset, .unset, .unset, .unset, .unset, .unset, .unset, .unset, .unset] [(.int mm), (.int cc), (.ref b9)])) rfl (by rw [hml]; rfl) (Steps.refl _) (argsL := [(.int cc), (.int mm)]) (rest := []) (lenOf pd_10 rfl) rfl (by show 2 * 0 + _ ≤ _; exact Nat.le_of_eq rfl) (hb hby at_184) (fun _ _ => ⟨rfl, e33, (by decide : 12 + 0 ≤ _), (by decide : 174 + 0 ≤ _)⟩)
    dsimp only [Pt.U, Pt.locs, Pt.cells, Pt.slots] at X34 l34 y34 z34 st34 hQ34
    subst l34 y34 z34
    have X34 : Stand p l e room_1 (s.setVm T5.vm) m #[(.int p0), (.int p1), (.int p2), (.long q3), (.long q4), (.long q5)] below meth c T34 _ 12 174 := X34
    obtain ⟨rfl, N34q, e34⟩ := hQ34
    have N34 := Fr.app N33 N34q
    refine OFin.tr st34 ?_
    refine OFin.st (fun t k => XS.lstore X34.here hx rfl (hb hby at_187) rfl (l' := #[.val (.int p0), .val (.int p1), .val (.int p2), .val (.long q3), .second, .val (.long q4), .second, .val (.long q5), .second, .val (.int wi), .val (.int bb), .val (.int cc), .val (.int ll), .val (.int mm), .val (.int dd), .val (.ref b2), .val (.ref b9), .val (.ref b11), .val (.long (F25 b9 cc ll oa10 wa10 va10 ko10 kw10 kv10 (offs bb wi) (wds bb (wfin bb cc ll q4 q3)) (vls bb cc ll (wi.toInt.toNat) q5 q3) (oX bb wi cc) (cc.toInt.toNat) (oN bb cc (wi.toInt.toNat) + ll.toInt.toNat) (wX bb (wfin bb cc ll q4 q3) cc) q3)), .second, .val (.long (F25 b9 cc mm oa10 wa10 va10 ko10 kw10 kv10 (offs bb wi) (wds bb (wfin bb cc ll q4 q3)) (vls bb cc ll (wi.toInt.toNat) q5 q3) (oX bb wi cc) (cc.toInt.toNat) (oN bb cc (wi.toInt.toNat) + mm.toInt.toNat) (wX bb (wfin bb cc ll q4 q3) cc) (if mm = ll then q3 else xc q5 cc))), .second, .unset, .unset, .unset, .unset, .unset, .unset, .unset, .unset, .unset, .unset, .unset, .unset, .unset, .unset, .unset]) rfl k) ?_
    refine OFin.st (fun t k => XS.aload X34.here hx rfl (hb hby at_189) rfl rfl k) ?_
    refine OFin.st (fun t k => XS.iload X34.here hx rfl (hb hby at_191) rfl k) ?_
    show OFin p e below _ _ T34 (mkF m 193 #[.val (.int p0), .val (.int p1), .val (.int p2), .val (.long q3), .second, .val (.long q4), .second, .val (.long q5), .second, .val (.int wi), .val (.int bb), .val (.int cc), .val (.int ll), .val (.int mm), .val (.int dd), .val (.ref b2), .val (.ref b9), .val (.ref b11), .val (.long (F25 b9 cc ll oa10 wa10 va10 ko10 kw10 kv10 (offs bb wi) (wds bb (wfin bb cc ll q4 q3)) (vls bb cc ll (wi.toInt.toNat) q5 q3) (oX bb wi cc) (cc.toInt.toNat) (oN bb cc (wi.toInt.toNat) + ll.toInt.toNat) (wX bb (wfin bb cc ll q4 q3) cc) q3)), .second, .val (.long (F25 b9 cc mm oa10 wa10 va10 ko10 kw10 kv10 (offs bb wi) (wds bb (wfin bb cc ll q4 q3)) (vls bb cc ll (wi.toInt.toNat) q5 q3) (oX bb wi cc) (cc.toInt.toNat) (oN bb cc (wi.toInt.toNat) + mm.toInt.toNat) (wX bb (wfin bb cc ll q4 q3) cc) (if mm = ll then q3 else xc q5 cc))), .second, .unset, .unset, .unset, .unset, .unset, .unset, .unset, .unset, .unset, .unset, .unset, .unset, .unset, .unset, .unset] [(.int dd), (.ref b9)])
    refine OFin.st (fun t k => XS.iload X34.here hx rfl (hb hby at_193) rfl k) ?_
    obtain ⟨cq35, kq35, q35a, q35b, q35c⟩ := isOf hZ e34 ((P22_0.keep K24q).keep K26q)
    obtain ⟨_, _, ⟨T35, L35, k35, n35⟩, -, X35, ⟨Lc35, hQ35, l35, y35, z35⟩, st35⟩ := X34.virtualBack hx (y := (⟨"com/example/verdikt/verdikt/model/Lanes", "cell", "(II)J"⟩ : MethodName)) (z := (⟨"com/example/verdikt/verdikt/model/Lanes", "cell", "(II)J"⟩ : MethodName)) hown (mvT hZ (hw _ (List.mem_of_getElem? (i := 203) rfl))) (mvT hZ (hw _ (List.mem_of_getElem? (i := 204) rfl))) (notFace_of_selects (args := #[]) (mvT hZ (hw _ (List.mem_of_getElem? (i := 206) rfl)))) (mvT hZ (hw _ (List.mem_of_getElem? (i := 206) rfl))) (mvT hZ (hw _ (List.mem_of_getElem? (i := 205) rfl))) (by decide) (backOf (W := 0) (rm25 l Z a0 hw [] b9 dd ll oa10 wa10 va10 ko10 kw10 kv10 (offs bb wi) (wds bb (wfin bb cc ll q4 q3)) (vls bb cc ll (wi.toInt.toNat) q5 q3) (oX bb wi dd) (dd.toInt.toNat) (oN bb dd (wi.toInt.toNat) + ll.toInt.toNat) (wX bb (wfin bb cc ll q4 q3) dd) (xc q5 dd) T26.heap n0 O26 ((P22_0.keep K24q).keep K26q) c29 c30 c31 c32 Rs27 Rs28 (own_b3 dd hdd) (own_oX bb wi dd hbq hdd) (own_wX bb dd (wfin bb cc ll q4 q3) hbq hdd) (own_hx3 bb wi cc dd ll _ q5 q3 hbq hcc hdd hdc hwd hll)) hZ (hw _ (List.mem_of_getElem? (i := 207) rfl)) (hw _ (List.mem_of_getElem? (i := 94) rfl)) (by decide) (by decide)) q35a q35c (g := (mkF m 195 #[.val (.int p0), .val (.int p1), .val (.int p2), .val (.long q3), .second, .val (.long q4), .second, .val (.long q5), .second, .val (.int wi), .val (.int bb), .val (.int cc), .val (.int ll), .val (.int mm), .val (.int dd), .val (.ref b2), .val (.ref b9), .val (.ref b11), .val (.long (F25 b9 cc ll oa10 wa10 va10 ko10 kw10 kv10 (offs bb wi) (wds bb (wfin bb cc ll q4 q3)) (vls bb cc ll (wi.toInt.toNat) q5 q3) (oX bb wi cc) (cc.toInt.toNat) (oN bb cc (wi.toInt.toNat) + ll.toInt.toNat) (wX bb (wfin bb cc ll q4 q3) cc) q3)), .second, .val (.long (F25 b9 cc mm oa10 wa10 va10 ko10 kw10 kv10 (offs bb wi) (wds bb (wfin bb cc ll q4 q3)) (vls bb cc ll (wi.toInt.toNat) q5 q3) (oX bb wi cc) (cc.toInt.toNat) (oN bb cc (wi.toInt.toNat) + mm.toInt.toNat) (wX bb (wfin bb cc ll q4 q3) cc) (if mm = ll then q3 else xc q5 cc))), .second, .unset, .unset, .unset, .unset, .unset, .unset, .unset, .unset, .unset, .unset, .unset, .unset, .unset, .unset, .unset] [(.int ll), (.int dd), (.ref b9)])) rfl (by rw [hml]; rfl) (Steps.refl _) (argsL := [(.int dd), (.int ll)]) (rest := []) (lenOf pd_10 rfl) rfl (by show 2 * 0 + _ ≤ _; exact Nat.le_of_eq rfl) (hb hby at_195) (fun _ _ => ⟨rfl, e34, (by decide : 12 + 0 ≤ _), (by decide : 174 + 0 ≤ _)⟩)
    dsimp only [Pt.U, Pt.locs, Pt.cells, Pt.slots] at X35 l35 y35 z35 st35 hQ35
    subst l35 y35 z35
    have X35 : Stand p l e room_1 (s.setVm T5.vm) m #[(.int p0), (.int p1), (.int p2), (.long q3), (.long q4), (.long q5)] below meth c T35 _ 12 174 := X35
    obtain ⟨rfl, N35q, e35⟩ := hQ35
    have N35 := Fr.app N34 N35q
    refine OFin.tr st35 ?_
    refine OFin.st (fun t k => XS.lstore X35.here hx rfl (hb hby at_198) rfl (l' := #[.val (.int p0), .val (.int p1), .val (.int p2), .val (.long q3), .second, .val (.long q4), .second, .val (.long q5), .second, .val (.int wi), .val (.int bb), .val (.int cc), .val (.int ll), .val (.int mm), .val (.int dd), .val (.ref b2), .val (.ref b9), .val (.ref b11), .val (.long (F25 b9 cc ll oa10 wa10 va10 ko10 kw10 kv10 (offs bb wi) (wds bb (wfin bb cc ll q4 q3)) (vls bb cc ll (wi.toInt.toNat) q5 q3) (oX bb wi cc) (cc.toInt.toNat) (oN bb cc (wi.toInt.toNat) + ll.toInt.toNat) (wX bb (wfin bb cc ll q4 q3) cc) q3)), .second, .val (.long (F25 b9 cc mm oa10 wa10 va10 ko10 kw10 kv10 (offs bb wi) (wds bb (wfin bb cc ll q4 q3)) (vls bb cc ll (wi.toInt.toNat) q5 q3) (oX bb wi cc) (cc.toInt.toNat) (oN bb cc (wi.toInt.toNat) + mm.toInt.toNat) (wX bb (wfin bb cc ll q4 q3) cc) (if mm = ll then q3 else xc q5 cc))), .second, .val (.long (F25 b9 dd ll oa10 wa10 va10 ko10 kw10 kv10 (offs bb wi) (wds bb (wfin bb cc ll q4 q3)) (vls bb cc ll (wi.toInt.toNat) q5 q3) (oX bb wi dd) (dd.toInt.toNat) (oN bb dd (wi.toInt.toNat) + ll.toInt.toNat) (wX bb (wfin bb cc ll q4 q3) dd) (xc q5 dd))), .second, .unset, .unset, .unset, .unset, .unset, .unset, .unset, .unset, .unset, .unset, .unset, .unset, .unset]) rfl k) ?_
    refine OFin.st (fun t k => XS.aload X35.here hx rfl (hb hby at_200) rfl rfl k) ?_
    show OFin p e below _ _ T35 (mkF m 202 #[.val (.int p0), .val (.int p1), .val (.int p2), .val (.long q3), .second, .val (.long q4), .second, .val (.long q5), .second, .val (.int wi), .val (.int bb), .val (.int cc), .val (.int ll), .val (.int mm), .val (.int dd), .val (.ref b2), .val (.ref b9), .val (.ref b11), .val (.long (F25 b9 cc ll oa10 wa10 va10 ko10 kw10 kv10 (offs bb wi) (wds bb (wfin bb cc ll q4 q3)) (vls bb cc ll (wi.toInt.toNat) q5 q3) (oX bb wi cc) (cc.toInt.toNat) (oN bb cc (wi.toInt.toNat) + ll.toInt.toNat) (wX bb (wfin bb cc ll q4 q3) cc) q3)), .second, .val (.long (F25 b9 cc mm oa10 wa10 va10 ko10 kw10 kv10 (offs bb wi) (wds bb (wfin bb cc ll q4 q3)) (vls bb cc ll (wi.toInt.toNat) q5 q3) (oX bb wi cc) (cc.toInt.toNat) (oN bb cc (wi.toInt.toNat) + mm.toInt.toNat) (wX bb (wfin bb cc ll q4 q3) cc) (if mm = ll then q3 else xc q5 cc))), .second, .val (.long (F25 b9 dd ll oa10 wa10 va10 ko10 kw10 kv10 (offs bb wi) (wds bb (wfin bb cc ll q4 q3)) (vls bb cc ll (wi.toInt.toNat) q5 q3) (oX bb wi dd) (dd.toInt.toNat) (oN bb dd (wi.toInt.toNat) + ll.toInt.toNat) (wX bb (wfin bb cc ll q4 q3) dd) (xc q5 dd))), .second, .unset, .unset, .unset, .unset, .unset, .unset, .unset, .unset, .unset, .unset, .unset, .unset, .unset] [(.ref b9)])
    refine OFin.st (fun t k => XS.iload X35.here hx rfl (hb hby at_202) rfl k) ?_
    obtain ⟨cq36, kq36, q36a, q36b, q36c⟩ := isOf hZ e35 ((P22_0.keep K24q).keep K26q)
    obtain ⟨_, _, ⟨T36, L36, k36, n36⟩, -, X36, ⟨Lc36, hQ36, l36, y36, z36⟩, st36⟩ := X35.virtualBack hx (y := (⟨"com/example/verdikt/verdikt/model/Lanes", "bits", "(I)J"⟩ : MethodName)) (z := (⟨"com/example/verdikt/verdikt/model/Lanes", "bits", "(I)J"⟩ : MethodName)) hown (mvT hZ (hw _ (List.mem_of_getElem? (i := 208) rfl))) (mvT hZ (hw _ (List.mem_of_getElem? (i := 209) rfl))) (notFace_of_selects (args := #[]) (mvT hZ (hw _ (List.mem_of_getElem? (i := 211) rfl)))) (mvT hZ (hw _ (List.mem_of_getElem? (i := 211) rfl))) (mvT hZ (hw _ (List.mem_of_getElem? (i := 210) rfl))) (by decide) (backOf (W := 0) (rm26 l Z a0 hw [] b9 bb wa10 kw10 (wds bb (wfin bb cc ll q4 q3)) (bb.toInt.toNat) (wfin bb cc ll q4 q3) T26.heap n0 O26 ((P22_0.keep K24q).keep K26q) c30 Rs27 (own_b3 bb hbq) (own_wget bb (wfin bb cc ll q4 q3) hbq)) hZ (hw _ (List.mem_of_getElem? (i := 212) rfl)) (hw _ (List.mem_of_getElem? (i := 94) rfl)) (by decide) (by decide)) q36a q36c (g := (mkF m 204 #[.val (.int p0), .val (.int p1), .val (.int p2), .val (.long q3), .second, .val (.long q4), .second, .val (.long q5), .second, .val (.int wi), .val (.int bb), .val (.int cc), .val (.int ll), .val (.int mm), .val (.int dd), .val (.ref b2), .val (.ref b9), .val (.ref b11), .val (.long (F25 b9 cc ll oa10 wa10 va10 ko10 kw10 kv10 (offs bb wi) (wds bb (wfin bb cc ll q4 q3)) (vls bb cc ll (wi.toInt.toNat) q5 q3) (oX bb wi cc) (cc.toInt.toNat) (oN bb cc (wi.toInt.toNat) + ll.toInt.toNat) (wX bb (wfin bb cc ll q4 q3) cc) q3)), .second, .val (.long (F25 b9 cc mm oa10 wa10 va10 ko10 kw10 kv10 (offs bb wi) (wds bb (wfin bb cc ll q4 q3)) (vls bb cc ll (wi.toInt.toNat) q5 q3) (oX bb wi cc) (cc.toInt.toNat) (oN bb cc (wi.toInt.toNat) + mm.toInt.toNat) (wX bb (wfin bb cc ll q4 q3) cc) (if mm = ll then q3 else xc q5 cc))), .second, .val (.long (F25 b9 dd ll oa10 wa10 va10 ko10 kw10 kv10 (offs bb wi) (wds bb (wfin bb cc ll q4 q3)) (vls bb cc ll (wi.toInt.toNat) q5 q3) (oX bb wi dd) (dd.toInt.toNat) (oN bb dd (wi.toInt.toNat) + ll.toInt.toNat) (wX bb (wfin bb cc ll q4 q3) dd) (xc q5 dd))), .second, .unset, .unset, .unset, .unset, .unset, .unset, .unset, .unset, .unset, .unset, .unset, .unset, .unset] [(.int bb), (.ref b9)])) rfl (by rw [hml]; rfl) (Steps.refl _) (argsL := [(.int bb)]) (rest := []) (lenOf pd_7 rfl) rfl (by show 2 * 0 + _ ≤ _; exact Nat.le_of_eq rfl) (hb hby at_204) (fun _ _ => ⟨rfl, e35, (by decide : 12 + 0 ≤ _), (by decide : 174 + 0 ≤ _)⟩)
    dsimp only [Pt.U, Pt.locs, Pt.cells, Pt.slots] at X36 l36 y36 z36 st36 hQ36
    subst l36 y36 z36
    have X36 : Stand p l e room_1 (s.setVm T5.vm) m #[(.int p0), (.int p1), (.int p2), (.long q3), (.long q4), (.long q5)] below meth c T36 _ 12 174 := X36
    obtain ⟨rfl, N36q, e36⟩ := hQ36
    have N36 := Fr.app N35 N36q
    refine OFin.tr st36 ?_
    refine OFin.st (fun t k => XS.lstore X36.here hx rfl (hb hby at_207) rfl (l' := #[.val (.int p0), .val (.int p1), .val (.int p2), .val (.long q3), .second, .val (.long q4), .second, .val (.long q5), .second, .val (.int wi), .val (.int bb), .val (.int cc), .val (.int ll), .val (.int mm), .val (.int dd), .val (.ref b2), .val (.ref b9), .val (.ref b11), .val (.long (F25 b9 cc ll oa10 wa10 va10 ko10 kw10 kv10 (offs bb wi) (wds bb (wfin bb cc ll q4 q3)) (vls bb cc ll (wi.toInt.toNat) q5 q3) (oX bb wi cc) (cc.toInt.toNat) (oN bb cc (wi.toInt.toNat) + ll.toInt.toNat) (wX bb (wfin bb cc ll q4 q3) cc) q3)), .second, .val (.long (F25 b9 cc mm oa10 wa10 va10 ko10 kw10 kv10 (offs bb wi) (wds bb (wfin bb cc ll q4 q3)) (vls bb cc ll (wi.toInt.toNat) q5 q3) (oX bb wi cc) (cc.toInt.toNat) (oN bb cc (wi.toInt.toNat) + mm.toInt.toNat) (wX bb (wfin bb cc ll q4 q3) cc) (if mm = ll then q3 else xc q5 cc))), .second, .val (.long (F25 b9 dd ll oa10 wa10 va10 ko10 kw10 kv10 (offs bb wi) (wds bb (wfin bb cc ll q4 q3)) (vls bb cc ll (wi.toInt.toNat) q5 q3) (oX bb wi dd) (dd.toInt.toNat) (oN bb dd (wi.toInt.toNat) + ll.toInt.toNat) (wX bb (wfin bb cc ll q4 q3) dd) (xc q5 dd))), .second, .val (.long (F26 b9 bb wa10 kw10 (wds bb (wfin bb cc ll q4 q3)) (bb.toInt.toNat) (wfin bb cc ll q4 q3))), .second, .unset, .unset, .unset, .unset, .unset, .unset, .unset, .unset, .unset, .unset, .unset]) rfl k) ?_
    refine OFin.st (fun t k => XS.iload X36.here hx rfl (hb hby at_209) rfl k) ?_
    show OFin p e below _ _ T36 (mkF m 211 #[.val (.int p0), .val (.int p1), .val (.int p2), .val (.long q3), .second, .val (.long q4), .second, .val (.long q5), .second, .val (.int wi), .val (.int bb), .val (.int cc), .val (.int ll), .val (.int mm), .val (.int dd), .val (.ref b2), .val (.ref b9), .val (.ref b11), .val (.long (F25 b9 cc ll oa10 wa10 va10 ko10 kw10 kv10 (offs bb wi) (wds bb (wfin bb cc ll q4 q3)) (vls bb cc ll (wi.toInt.toNat) q5 q3) (oX bb wi cc) (cc.toInt.toNat) (oN bb cc (wi.toInt.toNat) + ll.toInt.toNat) (wX bb (wfin bb cc ll q4 q3) cc) q3)), .second, .val (.long (F25 b9 cc mm oa10 wa10 va10 ko10 kw10 kv10 (offs bb wi) (wds bb (wfin bb cc ll q4 q3)) (vls bb cc ll (wi.toInt.toNat) q5 q3) (oX bb wi cc) (cc.toInt.toNat) (oN bb cc (wi.toInt.toNat) + mm.toInt.toNat) (wX bb (wfin bb cc ll q4 q3) cc) (if mm = ll then q3 else xc q5 cc))), .second, .val (.long (F25 b9 dd ll oa10 wa10 va10 ko10 kw10 kv10 (offs bb wi) (wds bb (wfin bb cc ll q4 q3)) (vls bb cc ll (wi.toInt.toNat) q5 q3) (oX bb wi dd) (dd.toInt.toNat) (oN bb dd (wi.toInt.toNat) + ll.toInt.toNat) (wX bb (wfin bb cc ll q4 q3) dd) (xc q5 dd))), .second, .val (.long (F26 b9 bb wa10 kw10 (wds bb (wfin bb cc ll q4 q3)) (bb.toInt.toNat) (wfin bb cc ll q4 q3))), .second, .unset, .unset, .unset, .unset, .unset, .unset, .unset, .unset, .unset, .unset, .unset] [(.int cc)])
    refine OFin.st (fun t k => XS.iload X36.here hx rfl (hb hby at_211) rfl k) ?_
    show OFin p e below _ _ T36 (mkF m 213 #[.val (.int p0), .val (.int p1), .val (.int p2), .val (.long q3), .second, .val (.long q4), .second, .val (.long q5), .second, .val (.int wi), .val (.int bb), .val (.int cc), .val (.int ll), .val (.int mm), .val (.int dd), .val (.ref b2), .val (.ref b9), .val (.ref b11), .val (.long (F25 b9 cc ll oa10 wa10 va10 ko10 kw10 kv10 (offs bb wi) (wds bb (wfin bb cc ll q4 q3)) (vls bb cc ll (wi.toInt.toNat) q5 q3) (oX bb wi cc) (cc.toInt.toNat) (oN bb cc (wi.toInt.toNat) + ll.toInt.toNat) (wX bb (wfin bb cc ll q4 q3) cc) q3)), .second, .val (.long (F25 b9 cc mm oa10 wa10 va10 ko10 kw10 kv10 (offs bb wi) (wds bb (wfin bb cc ll q4 q3)) (vls bb cc ll (wi.toInt.toNat) q5 q3) (oX bb wi cc) (cc.toInt.toNat) (oN bb cc (wi.toInt.toNat) + mm.toInt.toNat) (wX bb (wfin bb cc ll q4 q3) cc) (if mm = ll then q3 else xc q5 cc))), .second, .val (.long (F25 b9 dd ll oa10 wa10 va10 ko10 kw10 kv10 (offs bb wi) (wds bb (wfin bb cc ll q4 q3)) (vls bb cc ll (wi.toInt.toNat) q5 q3) (oX bb wi dd) (dd.toInt.toNat) (oN bb dd (wi.toInt.toNat) + ll.toInt.toNat) (wX bb (wfin bb cc ll q4 q3) dd) (xc q5 dd))), .second, .val (.long (F26 b9 bb wa10 kw10 (wds bb (wfin bb cc ll q4 q3)) (bb.toInt.toNat) (wfin bb cc ll q4 q3))), .second, .unset, .unset, .unset, .unset, .unset, .unset, .unset, .unset, .unset, .unset, .unset] [(.int bb), (.int cc)])
    have join37 : ∀ (qf : Int32), (qf = if cc = bb then (1 : Int32) else (0 : Int32)) → ∀ (T37 : State) (locs37 : List Loc), Stand p l e room_1 (s.setVm T5.vm) m #[(.int p0), (.int p1), (.int p2), (.long q3), (.long q4), (.long q5)] below meth c T37 locs37 12 174 → T37.heap = T26.heap → Fr n0 locs37 → OFin p e below (fun o t L => ReturnedEndW s o t L room_1.cells room_1.slots) (fun v h L => Qrm0 Z p0 p1 p2 q3 q4 q5 kD w_DEFAULTCAPACITY_EMPTY_ELEMENTDATA w_BOOL h0 n0 v h L) T37 (mkF m 221 #[.val (.int p0), .val (.int p1), .val (.int p2), .val (.long q3), .second, .val (.long q4), .second, .val (.long q5), .second, .val (.int wi), .val (.int bb), .val (.int cc), .val (.int ll), .val (.int mm), .val (.int dd), .val (.ref b2), .val (.ref b9), .val (.ref b11), .val (.long (F25 b9 cc ll oa10 wa10 va10 ko10 kw10 kv10 (offs bb wi) (wds bb (wfin bb cc ll q4 q3)) (vls bb cc ll (wi.toInt.toNat) q5 q3) (oX bb wi cc) (cc.toInt.toNat) (oN bb cc (wi.toInt.toNat) + ll.toInt.toNat) (wX bb (wfin bb cc ll q4 q3) cc) q3)), .second, .val (.long (F25 b9 cc mm oa10 wa10 va10 ko10 kw10 kv10 (offs bb wi) (wds bb (wfin bb cc ll q4 q3)) (vls bb cc ll (wi.toInt.toNat) q5 q3) (oX bb wi cc) (cc.toInt.toNat) (oN bb cc (wi.toInt.toNat) + mm.toInt.toNat) (wX bb (wfin bb cc ll q4 q3) cc) (if mm = ll then q3 else xc q5 cc))), .second, .val (.long (F25 b9 dd ll oa10 wa10 va10 ko10 kw10 kv10 (offs bb wi) (wds bb (wfin bb cc ll q4 q3)) (vls bb cc ll (wi.toInt.toNat) q5 q3) (oX bb wi dd) (dd.toInt.toNat) (oN bb dd (wi.toInt.toNat) + ll.toInt.toNat) (wX bb (wfin bb cc ll q4 q3) dd) (xc q5 dd))), .second, .val (.long (F26 b9 bb wa10 kw10 (wds bb (wfin bb cc ll q4 q3)) (bb.toInt.toNat) (wfin bb cc ll q4 q3))), .second, .unset, .unset, .unset, .unset, .unset, .unset, .unset, .unset, .unset, .unset, .unset] [(.int qf)]) := by
      intro qf hqf T37 locs37 X37 e37 N37
      refine OFin.st (fun t k => XS.istore X37.here hx rfl (hb hby at_221) rfl (l' := #[.val (.int p0), .val (.int p1), .val (.int p2), .val (.long q3), .second, .val (.long q4), .second, .val (.long q5), .second, .val (.int wi), .val (.int bb), .val (.int cc), .val (.int ll), .val (.int mm), .val (.int dd), .val (.ref b2), .val (.ref b9), .val (.ref b11), .val (.long (F25 b9 cc ll oa10 wa10 va10 ko10 kw10 kv10 (offs bb wi) (wds bb (wfin bb cc ll q4 q3)) (vls bb cc ll (wi.toInt.toNat) q5 q3) (oX bb wi cc) (cc.toInt.toNat) (oN bb cc (wi.toInt.toNat) + ll.toInt.toNat) (wX bb (wfin bb cc ll q4 q3) cc) q3)), .second, .val (.long (F25 b9 cc mm oa10 wa10 va10 ko10 kw10 kv10 (offs bb wi) (wds bb (wfin bb cc ll q4 q3)) (vls bb cc ll (wi.toInt.toNat) q5 q3) (oX bb wi cc) (cc.toInt.toNat) (oN bb cc (wi.toInt.toNat) + mm.toInt.toNat) (wX bb (wfin bb cc ll q4 q3) cc) (if mm = ll then q3 else xc q5 cc))), .second, .val (.long (F25 b9 dd ll oa10 wa10 va10 ko10 kw10 kv10 (offs bb wi) (wds bb (wfin bb cc ll q4 q3)) (vls bb cc ll (wi.toInt.toNat) q5 q3) (oX bb wi dd) (dd.toInt.toNat) (oN bb dd (wi.toInt.toNat) + ll.toInt.toNat) (wX bb (wfin bb cc ll q4 q3) dd) (xc q5 dd))), .second, .val (.long (F26 b9 bb wa10 kw10 (wds bb (wfin bb cc ll q4 q3)) (bb.toInt.toNat) (wfin bb cc ll q4 q3))), .second, .val (.int qf), .unset, .unset, .unset, .unset, .unset, .unset, .unset, .unset, .unset, .unset]) rfl k) ?_
      refine OFin.st (fun t k => XS.iload X37.here hx rfl (hb hby at_223) rfl k) ?_
      show OFin p e below _ _ T37 (mkF m 225 #[.val (.int p0), .val (.int p1), .val (.int p2), .val (.long q3), .second, .val (.long q4), .second, .val (.long q5), .second, .val (.int wi), .val (.int bb), .val (.int cc), .val (.int ll), .val (.int mm), .val (.int dd), .val (.ref b2), .val (.ref b9), .val (.ref b11), .val (.long (F25 b9 cc ll oa10 wa10 va10 ko10 kw10 kv10 (offs bb wi) (wds bb (wfin bb cc ll q4 q3)) (vls bb cc ll (wi.toInt.toNat) q5 q3) (oX bb wi cc) (cc.toInt.toNat) (oN bb cc (wi.toInt.toNat) + ll.toInt.toNat) (wX bb (wfin bb cc ll q4 q3) cc) q3)), .second, .val (.long (F25 b9 cc mm oa10 wa10 va10 ko10 kw10 kv10 (offs bb wi) (wds bb (wfin bb cc ll q4 q3)) (vls bb cc ll (wi.toInt.toNat) q5 q3) (oX bb wi cc) (cc.toInt.toNat) (oN bb cc (wi.toInt.toNat) + mm.toInt.toNat) (wX bb (wfin bb cc ll q4 q3) cc) (if mm = ll then q3 else xc q5 cc))), .second, .val (.long (F25 b9 dd ll oa10 wa10 va10 ko10 kw10 kv10 (offs bb wi) (wds bb (wfin bb cc ll q4 q3)) (vls bb cc ll (wi.toInt.toNat) q5 q3) (oX bb wi dd) (dd.toInt.toNat) (oN bb dd (wi.toInt.toNat) + ll.toInt.toNat) (wX bb (wfin bb cc ll q4 q3) dd) (xc q5 dd))), .second, .val (.long (F26 b9 bb wa10 kw10 (wds bb (wfin bb cc ll q4 q3)) (bb.toInt.toNat) (wfin bb cc ll q4 q3))), .second, .val (.int qf), .unset, .unset, .unset, .unset, .unset, .unset, .unset, .unset, .unset, .unset] [(.int qf)])
      have join38 : ∀ (q27 : Int64), (q27 = (if cc = bb then (if q3 = (0 : Int64) then (0 : Int64) else (1 : Int64)) else q3)) → ∀ (T38 : State) (locs38 : List Loc), Stand p l e room_1 (s.setVm T5.vm) m #[(.int p0), (.int p1), (.int p2), (.long q3), (.long q4), (.long q5)] below meth c T38 locs38 12 174 → T38.heap = T26.heap → Fr n0 locs38 → OFin p e below (fun o t L => ReturnedEndW s o t L room_1.cells room_1.slots) (fun v h L => Qrm0 Z p0 p1 p2 q3 q4 q5 kD w_DEFAULTCAPACITY_EMPTY_ELEMENTDATA w_BOOL h0 n0 v h L) T38 (mkF m 243 #[.val (.int p0), .val (.int p1), .val (.int p2), .val (.long q3), .second, .val (.long q4), .second, .val (.long q5), .second, .val (.int wi), .val (.int bb), .val (.int cc), .val (.int ll), .val (.int mm), .val (.int dd), .val (.ref b2), .val (.ref b9), .val (.ref b11), .val (.long (F25 b9 cc ll oa10 wa10 va10 ko10 kw10 kv10 (offs bb wi) (wds bb (wfin bb cc ll q4 q3)) (vls bb cc ll (wi.toInt.toNat) q5 q3) (oX bb wi cc) (cc.toInt.toNat) (oN bb cc (wi.toInt.toNat) + ll.toInt.toNat) (wX bb (wfin bb cc ll q4 q3) cc) q3)), .second, .val (.long (F25 b9 cc mm oa10 wa10 va10 ko10 kw10 kv10 (offs bb wi) (wds bb (wfin bb cc ll q4 q3)) (vls bb cc ll (wi.toInt.toNat) q5 q3) (oX bb wi cc) (cc.toInt.toNat) (oN bb cc (wi.toInt.toNat) + mm.toInt.toNat) (wX bb (wfin bb cc ll q4 q3) cc) (if mm = ll then q3 else xc q5 cc))), .second, .val (.long (F25 b9 dd ll oa10 wa10 va10 ko10 kw10 kv10 (offs bb wi) (wds bb (wfin bb cc ll q4 q3)) (vls bb cc ll (wi.toInt.toNat) q5 q3) (oX bb wi dd) (dd.toInt.toNat) (oN bb dd (wi.toInt.toNat) + ll.toInt.toNat) (wX bb (wfin bb cc ll q4 q3) dd) (xc q5 dd))), .second, .val (.long (F26 b9 bb wa10 kw10 (wds bb (wfin bb cc ll q4 q3)) (bb.toInt.toNat) (wfin bb cc ll q4 q3))), .second, .val (.int qf), .unset, .unset, .unset, .unset, .unset, .unset, .unset, .unset, .unset, .unset] [(.long q27)]) := by
        intro q27 h27 T38 locs38 X38 e38 N38
        refine OFin.st (fun t k => XS.lstore X38.here hx rfl (hb hby at_243) rfl (l' := #[.val (.int p0), .val (.int p1), .val (.int p2), .val (.long q3), .second, .val (.long q4), .second, .val (.long q5), .second, .val (.int wi), .val (.int bb), .val (.int cc), .val (.int ll), .val (.int mm), .val (.int dd), .val (.ref b2), .val (.ref b9), .val (.ref b11), .val (.long (F25 b9 cc ll oa10 wa10 va10 ko10 kw10 kv10 (offs bb wi) (wds bb (wfin bb cc ll q4 q3)) (vls bb cc ll (wi.toInt.toNat) q5 q3) (oX bb wi cc) (cc.toInt.toNat) (oN bb cc (wi.toInt.toNat) + ll.toInt.toNat) (wX bb (wfin bb cc ll q4 q3) cc) q3)), .second, .val (.long (F25 b9 cc mm oa10 wa10 va10 ko10 kw10 kv10 (offs bb wi) (wds bb (wfin bb cc ll q4 q3)) (vls bb cc ll (wi.toInt.toNat) q5 q3) (oX bb wi cc) (cc.toInt.toNat) (oN bb cc (wi.toInt.toNat) + mm.toInt.toNat) (wX bb (wfin bb cc ll q4 q3) cc) (if mm = ll then q3 else xc q5 cc))), .second, .val (.long (F25 b9 dd ll oa10 wa10 va10 ko10 kw10 kv10 (offs bb wi) (wds bb (wfin bb cc ll q4 q3)) (vls bb cc ll (wi.toInt.toNat) q5 q3) (oX bb wi dd) (dd.toInt.toNat) (oN bb dd (wi.toInt.toNat) + ll.toInt.toNat) (wX bb (wfin bb cc ll q4 q3) dd) (xc q5 dd))), .second, .val (.long (F26 b9 bb wa10 kw10 (wds bb (wfin bb cc ll q4 q3)) (bb.toInt.toNat) (wfin bb cc ll q4 q3))), .second, .val (.int qf), .val (.long q27), .second, .unset, .unset, .unset, .unset, .unset, .unset, .unset, .unset]) rfl k) ?_
        show OFin p e below _ _ T38 (mkF m 245 #[.val (.int p0), .val (.int p1), .val (.int p2), .val (.long q3), .second, .val (.long q4), .second, .val (.long q5), .second, .val (.int wi), .val (.int bb), .val (.int cc), .val (.int ll), .val (.int mm), .val (.int dd), .val (.ref b2), .val (.ref b9), .val (.ref b11), .val (.long (F25 b9 cc ll oa10 wa10 va10 ko10 kw10 kv10 (offs bb wi) (wds bb (wfin bb cc ll q4 q3)) (vls bb cc ll (wi.toInt.toNat) q5 q3) (oX bb wi cc) (cc.toInt.toNat) (oN bb cc (wi.toInt.toNat) + ll.toInt.toNat) (wX bb (wfin bb cc ll q4 q3) cc) q3)), .second, .val (.long (F25 b9 cc mm oa10 wa10 va10 ko10 kw10 kv10 (offs bb wi) (wds bb (wfin bb cc ll q4 q3)) (vls bb cc ll (wi.toInt.toNat) q5 q3) (oX bb wi cc) (cc.toInt.toNat) (oN bb cc (wi.toInt.toNat) + mm.toInt.toNat) (wX bb (wfin bb cc ll q4 q3) cc) (if mm = ll then q3 else xc q5 cc))), .second, .val (.long (F25 b9 dd ll oa10 wa10 va10 ko10 kw10 kv10 (offs bb wi) (wds bb (wfin bb cc ll q4 q3)) (vls bb cc ll (wi.toInt.toNat) q5 q3) (oX bb wi dd) (dd.toInt.toNat) (oN bb dd (wi.toInt.toNat) + ll.toInt.toNat) (wX bb (wfin bb cc ll q4 q3) dd) (xc q5 dd))), .second, .val (.long (F26 b9 bb wa10 kw10 (wds bb (wfin bb cc ll q4 q3)) (bb.toInt.toNat) (wfin bb cc ll q4 q3))), .second, .val (.int qf), .val (.long q27), .second, .unset, .unset, .unset, .unset, .unset, .unset, .unset, .unset] [])
        refine OFin.st (fun t k => XS.iload X38.here hx rfl (hb hby at_245) rfl k) ?_
        refine OFin.st (fun t k => XS.iload X38.here hx rfl (hb hby at_247) rfl k) ?_
        show OFin p e below _ _ T38 (mkF m 249 #[.val (.int p0), .val (.int p1), .val (.int p2), .val (.long q3), .second, .val (.long q4), .second, .val (.long q5), .second, .val (.int wi), .val (.int bb), .val (.int cc), .val (.int ll), .val (.int mm), .val (.int dd), .val (.ref b2), .val (.ref b9), .val (.ref b11), .val (.long (F25 b9 cc ll oa10 wa10 va10 ko10 kw10 kv10 (offs bb wi) (wds bb (wfin bb cc ll q4 q3)) (vls bb cc ll (wi.toInt.toNat) q5 q3) (oX bb wi cc) (cc.toInt.toNat) (oN bb cc (wi.toInt.toNat) + ll.toInt.toNat) (wX bb (wfin bb cc ll q4 q3) cc) q3)), .second, .val (.long (F25 b9 cc mm oa10 wa10 va10 ko10 kw10 kv10 (offs bb wi) (wds bb (wfin bb cc ll q4 q3)) (vls bb cc ll (wi.toInt.toNat) q5 q3) (oX bb wi cc) (cc.toInt.toNat) (oN bb cc (wi.toInt.toNat) + mm.toInt.toNat) (wX bb (wfin bb cc ll q4 q3) cc) (if mm = ll then q3 else xc q5 cc))), .second, .val (.long (F25 b9 dd ll oa10 wa10 va10 ko10 kw10 kv10 (offs bb wi) (wds bb (wfin bb cc ll q4 q3)) (vls bb cc ll (wi.toInt.toNat) q5 q3) (oX bb wi dd) (dd.toInt.toNat) (oN bb dd (wi.toInt.toNat) + ll.toInt.toNat) (wX bb (wfin bb cc ll q4 q3) dd) (xc q5 dd))), .second, .val (.long (F26 b9 bb wa10 kw10 (wds bb (wfin bb cc ll q4 q3)) (bb.toInt.toNat) (wfin bb cc ll q4 q3))), .second, .val (.int qf), .val (.long q27), .second, .unset, .unset, .unset, .unset, .unset, .unset, .unset, .unset] [(.int ll), (.int mm)])
        have join39 : ∀ (q29 : Int64), (q29 = (if mm = ll then q27 else F27 cc mm bb q4 q5)) → ∀ (T39 : State) (locs39 : List Loc), Stand p l e room_1 (s.setVm T5.vm) m #[(.int p0), (.int p1), (.int p2), (.long q3), (.long q4), (.long q5)] below meth c T39 locs39 12 174 → T39.heap = T26.heap → Fr n0 locs39 → OFin p e below (fun o t L => ReturnedEndW s o t L room_1.cells room_1.slots) (fun v h L => Qrm0 Z p0 p1 p2 q3 q4 q5 kD w_DEFAULTCAPACITY_EMPTY_ELEMENTDATA w_BOOL h0 n0 v h L) T39 (mkF m 270 #[.val (.int p0), .val (.int p1), .val (.int p2), .val (.long q3), .second, .val (.long q4), .second, .val (.long q5), .second, .val (.int wi), .val (.int bb), .val (.int cc), .val (.int ll), .val (.int mm), .val (.int dd), .val (.ref b2), .val (.ref b9), .val (.ref b11), .val (.long (F25 b9 cc ll oa10 wa10 va10 ko10 kw10 kv10 (offs bb wi) (wds bb (wfin bb cc ll q4 q3)) (vls bb cc ll (wi.toInt.toNat) q5 q3) (oX bb wi cc) (cc.toInt.toNat) (oN bb cc (wi.toInt.toNat) + ll.toInt.toNat) (wX bb (wfin bb cc ll q4 q3) cc) q3)), .second, .val (.long (F25 b9 cc mm oa10 wa10 va10 ko10 kw10 kv10 (offs bb wi) (wds bb (wfin bb cc ll q4 q3)) (vls bb cc ll (wi.toInt.toNat) q5 q3) (oX bb wi cc) (cc.toInt.toNat) (oN bb cc (wi.toInt.toNat) + mm.toInt.toNat) (wX bb (wfin bb cc ll q4 q3) cc) (if mm = ll then q3 else xc q5 cc))), .second, .val (.long (F25 b9 dd ll oa10 wa10 va10 ko10 kw10 kv10 (offs bb wi) (wds bb (wfin bb cc ll q4 q3)) (vls bb cc ll (wi.toInt.toNat) q5 q3) (oX bb wi dd) (dd.toInt.toNat) (oN bb dd (wi.toInt.toNat) + ll.toInt.toNat) (wX bb (wfin bb cc ll q4 q3) dd) (xc q5 dd))), .second, .val (.long (F26 b9 bb wa10 kw10 (wds bb (wfin bb cc ll q4 q3)) (bb.toInt.toNat) (wfin bb cc ll q4 q3))), .second, .val (.int qf), .val (.long q27), .second, .unset, .unset, .unset, .unset, .unset, .unset, .unset, .unset] [(.long q29)]) := by
          intro q29 h29 T39 locs39 X39 e39 N39
          refine OFin.st (fun t k => XS.lstore X39.here hx rfl (hb hby at_270) rfl (l' := #[.val (.int p0), .val (.int p1), .val (.int p2), .val (.long q3), .second, .val (.long q4), .second, .val (.long q5), .second, .val (.int wi), .val (.int bb), .val (.int cc), .val (.int ll), .val (.int mm), .val (.int dd), .val (.ref b2), .val (.ref b9), .val (.ref b11), .val (.long (F25 b9 cc ll oa10 wa10 va10 ko10 kw10 kv10 (offs bb wi) (wds bb (wfin bb cc ll q4 q3)) (vls bb cc ll (wi.toInt.toNat) q5 q3) (oX bb wi cc) (cc.toInt.toNat) (oN bb cc (wi.toInt.toNat) + ll.toInt.toNat) (wX bb (wfin bb cc ll q4 q3) cc) q3)), .second, .val (.long (F25 b9 cc mm oa10 wa10 va10 ko10 kw10 kv10 (offs bb wi) (wds bb (wfin bb cc ll q4 q3)) (vls bb cc ll (wi.toInt.toNat) q5 q3) (oX bb wi cc) (cc.toInt.toNat) (oN bb cc (wi.toInt.toNat) + mm.toInt.toNat) (wX bb (wfin bb cc ll q4 q3) cc) (if mm = ll then q3 else xc q5 cc))), .second, .val (.long (F25 b9 dd ll oa10 wa10 va10 ko10 kw10 kv10 (offs bb wi) (wds bb (wfin bb cc ll q4 q3)) (vls bb cc ll (wi.toInt.toNat) q5 q3) (oX bb wi dd) (dd.toInt.toNat) (oN bb dd (wi.toInt.toNat) + ll.toInt.toNat) (wX bb (wfin bb cc ll q4 q3) dd) (xc q5 dd))), .second, .val (.long (F26 b9 bb wa10 kw10 (wds bb (wfin bb cc ll q4 q3)) (bb.toInt.toNat) (wfin bb cc ll q4 q3))), .second, .val (.int qf), .val (.long q27), .second, .val (.long q29), .second, .unset, .unset, .unset, .unset, .unset, .unset]) rfl k) ?_
          refine OFin.st (fun t k => XS.iload X39.here hx rfl (hb hby at_272) rfl k) ?_
          show OFin p e below _ _ T39 (mkF m 274 #[.val (.int p0), .val (.int p1), .val (.int p2), .val (.long q3), .second, .val (.long q4), .second, .val (.long q5), .second, .val (.int wi), .val (.int bb), .val (.int cc), .val (.int ll), .val (.int mm), .val (.int dd), .val (.ref b2), .val (.ref b9), .val (.ref b11), .val (.long (F25 b9 cc ll oa10 wa10 va10 ko10 kw10 kv10 (offs bb wi) (wds bb (wfin bb cc ll q4 q3)) (vls bb cc ll (wi.toInt.toNat) q5 q3) (oX bb wi cc) (cc.toInt.toNat) (oN bb cc (wi.toInt.toNat) + ll.toInt.toNat) (wX bb (wfin bb cc ll q4 q3) cc) q3)), .second, .val (.long (F25 b9 cc mm oa10 wa10 va10 ko10 kw10 kv10 (offs bb wi) (wds bb (wfin bb cc ll q4 q3)) (vls bb cc ll (wi.toInt.toNat) q5 q3) (oX bb wi cc) (cc.toInt.toNat) (oN bb cc (wi.toInt.toNat) + mm.toInt.toNat) (wX bb (wfin bb cc ll q4 q3) cc) (if mm = ll then q3 else xc q5 cc))), .second, .val (.long (F25 b9 dd ll oa10 wa10 va10 ko10 kw10 kv10 (offs bb wi) (wds bb (wfin bb cc ll q4 q3)) (vls bb cc ll (wi.toInt.toNat) q5 q3) (oX bb wi dd) (dd.toInt.toNat) (oN bb dd (wi.toInt.toNat) + ll.toInt.toNat) (wX bb (wfin bb cc ll q4 q3) dd) (xc q5 dd))), .second, .val (.long (F26 b9 bb wa10 kw10 (wds bb (wfin bb cc ll q4 q3)) (bb.toInt.toNat) (wfin bb cc ll q4 q3))), .second, .val (.int qf), .val (.long q27), .second, .val (.long q29), .second, .unset, .unset, .unset, .unset, .unset, .unset] [(.int dd)])
          refine OFin.st (fun t k => XS.iload X39.here hx rfl (hb hby at_274) rfl k) ?_
          refine OFin.st (fun t k => XS.iload X39.here hx rfl (hb hby at_276) rfl k) ?_
          refine OFin.st (fun t k => XS.lload X39.here hx rfl (hb hby at_278) rfl k) ?_
          refine OFin.st (fun t k => XS.lload X39.here hx rfl (hb hby at_280) rfl k) ?_
          show OFin p e below _ _ T39 (mkF m 282 #[.val (.int p0), .val (.int p1), .val (.int p2), .val (.long q3), .second, .val (.long q4), .second, .val (.long q5), .second, .val (.int wi), .val (.int bb), .val (.int cc), .val (.int ll), .val (.int mm), .val (.int dd), .val (.ref b2), .val (.ref b9), .val (.ref b11), .val (.long (F25 b9 cc ll oa10 wa10 va10 ko10 kw10 kv10 (offs bb wi) (wds bb (wfin bb cc ll q4 q3)) (vls bb cc ll (wi.toInt.toNat) q5 q3) (oX bb wi cc) (cc.toInt.toNat) (oN bb cc (wi.toInt.toNat) + ll.toInt.toNat) (wX bb (wfin bb cc ll q4 q3) cc) q3)), .second, .val (.long (F25 b9 cc mm oa10 wa10 va10 ko10 kw10 kv10 (offs bb wi) (wds bb (wfin bb cc ll q4 q3)) (vls bb cc ll (wi.toInt.toNat) q5 q3) (oX bb wi cc) (cc.toInt.toNat) (oN bb cc (wi.toInt.toNat) + mm.toInt.toNat) (wX bb (wfin bb cc ll q4 q3) cc) (if mm = ll then q3 else xc q5 cc))), .second, .val (.long (F25 b9 dd ll oa10 wa10 va10 ko10 kw10 kv10 (offs bb wi) (wds bb (wfin bb cc ll q4 q3)) (vls bb cc ll (wi.toInt.toNat) q5 q3) (oX bb wi dd) (dd.toInt.toNat) (oN bb dd (wi.toInt.toNat) + ll.toInt.toNat) (wX bb (wfin bb cc ll q4 q3) dd) (xc q5 dd))), .second, .val (.long (F26 b9 bb wa10 kw10 (wds bb (wfin bb cc ll q4 q3)) (bb.toInt.toNat) (wfin bb cc ll q4 q3))), .second, .val (.int qf), .val (.long q27), .second, .val (.long q29), .second, .unset, .unset, .unset, .unset, .unset, .unset] [(.long q5), (.long q4), (.int bb), (.int ll), (.int dd)])
          obtain ⟨_, _, ⟨T40, L40, k40, n40⟩, -, X40, ⟨Lc40, hQ40, l40, y40, z40⟩, st40⟩ := Jvm.LawKit.callS X39 hx (y := (⟨"com/example/verdikt/verdikt/model/LanesSetCellPinLaw", "before", "(IIIJJ)J"⟩ : MethodName)) hown (mvT hZ (hw _ (List.mem_of_getElem? (i := 213) rfl))) (mvT hZ (hw _ (List.mem_of_getElem? (i := 214) rfl))) (mvT hZ (hw _ (List.mem_of_getElem? (i := 215) rfl))) (mvT hZ (hw _ (List.mem_of_getElem? (i := 216) rfl))) (by decide) (backOf (W := 0) (rm27 l Z a0 hw [] dd ll bb q4 q5 T26.heap n0 O26 ) hZ (hw _ (List.mem_of_getElem? (i := 216) rfl)) (hw _ (List.mem_of_getElem? (i := 215) rfl)) (by decide) (by decide)) (g := (mkF m 282 #[.val (.int p0), .val (.int p1), .val (.int p2), .val (.long q3), .second, .val (.long q4), .second, .val (.long q5), .second, .val (.int wi), .val (.int bb), .val (.int cc), .val (.int ll), .val (.int mm), .val (.int dd), .val (.ref b2), .val (.ref b9), .val (.ref b11), .val (.long (F25 b9 cc ll oa10 wa10 va10 ko10 kw10 kv10 (offs bb wi) (wds bb (wfin bb cc ll q4 q3)) (vls bb cc ll (wi.toInt.toNat) q5 q3) (oX bb wi cc) (cc.toInt.toNat) (oN bb cc (wi.toInt.toNat) + ll.toInt.toNat) (wX bb (wfin bb cc ll q4 q3) cc) q3)), .second, .val (.long (F25 b9 cc mm oa10 wa10 va10 ko10 kw10 kv10 (offs bb wi) (wds bb (wfin bb cc ll q4 q3)) (vls bb cc ll (wi.toInt.toNat) q5 q3) (oX bb wi cc) (cc.toInt.toNat) (oN bb cc (wi.toInt.toNat) + mm.toInt.toNat) (wX bb (wfin bb cc ll q4 q3) cc) (if mm = ll then q3 else xc q5 cc))), .second, .val (.long (F25 b9 dd ll oa10 wa10 va10 ko10 kw10 kv10 (offs bb wi) (wds bb (wfin bb cc ll q4 q3)) (vls bb cc ll (wi.toInt.toNat) q5 q3) (oX bb wi dd) (dd.toInt.toNat) (oN bb dd (wi.toInt.toNat) + ll.toInt.toNat) (wX bb (wfin bb cc ll q4 q3) dd) (xc q5 dd))), .second, .val (.long (F26 b9 bb wa10 kw10 (wds bb (wfin bb cc ll q4 q3)) (bb.toInt.toNat) (wfin bb cc ll q4 q3))), .second, .val (.int qf), .val (.long q27), .second, .val (.long q29), .second, .unset, .unset, .unset, .unset, .unset, .unset] [(.long q5), (.long q4), (.int bb), (.int ll), (.int dd)])) rfl (by rw [hml]; rfl) (argsL := [(.int dd), (.int ll), (.int bb), (.long q4), (.long q5)]) (rest := []) (lenOf pd_12 rfl) rfl (by show 2 * 0 + _ ≤ _; exact Nat.le_of_eq rfl) (hb hby at_282) (fun _ _ => ⟨rfl, e39, (by decide : 12 + 0 ≤ _), (by decide : 174 + 0 ≤ _)⟩)
          dsimp only [Pt.U, Pt.locs, Pt.cells, Pt.slots] at X40 l40 y40 z40 st40 hQ40
          subst l40 y40 z40
          have X40 : Stand p l e room_1 (s.setVm T5.vm) m #[(.int p0), (.int p1), (.int p2), (.long q3), (.long q4), (.long q5)] below meth c T40 _ 12 174 := X40
          obtain ⟨rfl, N40q, e40⟩ := hQ40
          have N40 := Fr.app N39 N40q
          refine OFin.st st40 ?_
          refine OFin.st (fun t k => XS.lstore X40.here hx rfl (hb hby at_285) rfl (l' := #[.val (.int p0), .val (.int p1), .val (.int p2), .val (.long q3), .second, .val (.long q4), .second, .val (.long q5), .second, .val (.int wi), .val (.int bb), .val (.int cc), .val (.int ll), .val (.int mm), .val (.int dd), .val (.ref b2), .val (.ref b9), .val (.ref b11), .val (.long (F25 b9 cc ll oa10 wa10 va10 ko10 kw10 kv10 (offs bb wi) (wds bb (wfin bb cc ll q4 q3)) (vls bb cc ll (wi.toInt.toNat) q5 q3) (oX bb wi cc) (cc.toInt.toNat) (oN bb cc (wi.toInt.toNat) + ll.toInt.toNat) (wX bb (wfin bb cc ll q4 q3) cc) q3)), .second, .val (.long (F25 b9 cc mm oa10 wa10 va10 ko10 kw10 kv10 (offs bb wi) (wds bb (wfin bb cc ll q4 q3)) (vls bb cc ll (wi.toInt.toNat) q5 q3) (oX bb wi cc) (cc.toInt.toNat) (oN bb cc (wi.toInt.toNat) + mm.toInt.toNat) (wX bb (wfin bb cc ll q4 q3) cc) (if mm = ll then q3 else xc q5 cc))), .second, .val (.long (F25 b9 dd ll oa10 wa10 va10 ko10 kw10 kv10 (offs bb wi) (wds bb (wfin bb cc ll q4 q3)) (vls bb cc ll (wi.toInt.toNat) q5 q3) (oX bb wi dd) (dd.toInt.toNat) (oN bb dd (wi.toInt.toNat) + ll.toInt.toNat) (wX bb (wfin bb cc ll q4 q3) dd) (xc q5 dd))), .second, .val (.long (F26 b9 bb wa10 kw10 (wds bb (wfin bb cc ll q4 q3)) (bb.toInt.toNat) (wfin bb cc ll q4 q3))), .second, .val (.int qf), .val (.long q27), .second, .val (.long q29), .second, .val (.long (F27 dd ll bb q4 q5)), .second, .unset, .unset, .unset, .unset]) rfl k) ?_
          refine OFin.st (fun t k => XS.lconst X40.here hx rfl (hb hby at_287) k) ?_
          refine OFin.st (fun t k => XS.iload X40.here hx rfl (hb hby at_288) rfl k) ?_
          show OFin p e below _ _ T40 (mkF m 290 #[.val (.int p0), .val (.int p1), .val (.int p2), .val (.long q3), .second, .val (.long q4), .second, .val (.long q5), .second, .val (.int wi), .val (.int bb), .val (.int cc), .val (.int ll), .val (.int mm), .val (.int dd), .val (.ref b2), .val (.ref b9), .val (.ref b11), .val (.long (F25 b9 cc ll oa10 wa10 va10 ko10 kw10 kv10 (offs bb wi) (wds bb (wfin bb cc ll q4 q3)) (vls bb cc ll (wi.toInt.toNat) q5 q3) (oX bb wi cc) (cc.toInt.toNat) (oN bb cc (wi.toInt.toNat) + ll.toInt.toNat) (wX bb (wfin bb cc ll q4 q3) cc) q3)), .second, .val (.long (F25 b9 cc mm oa10 wa10 va10 ko10 kw10 kv10 (offs bb wi) (wds bb (wfin bb cc ll q4 q3)) (vls bb cc ll (wi.toInt.toNat) q5 q3) (oX bb wi cc) (cc.toInt.toNat) (oN bb cc (wi.toInt.toNat) + mm.toInt.toNat) (wX bb (wfin bb cc ll q4 q3) cc) (if mm = ll then q3 else xc q5 cc))), .second, .val (.long (F25 b9 dd ll oa10 wa10 va10 ko10 kw10 kv10 (offs bb wi) (wds bb (wfin bb cc ll q4 q3)) (vls bb cc ll (wi.toInt.toNat) q5 q3) (oX bb wi dd) (dd.toInt.toNat) (oN bb dd (wi.toInt.toNat) + ll.toInt.toNat) (wX bb (wfin bb cc ll q4 q3) dd) (xc q5 dd))), .second, .val (.long (F26 b9 bb wa10 kw10 (wds bb (wfin bb cc ll q4 q3)) (bb.toInt.toNat) (wfin bb cc ll q4 q3))), .second, .val (.int qf), .val (.long q27), .second, .val (.long q29), .second, .val (.long (F27 dd ll bb q4 q5)), .second, .unset, .unset, .unset, .unset] [(.int ll), (.long (1 : Int64))])
          refine OFin.st (fun t k => XS.lshl X40.here hx rfl (hb hby at_290) rfl k) ?_
          refine OFin.st (fun t k => XS.lstore X40.here hx rfl (hb hby at_291) rfl (l' := #[.val (.int p0), .val (.int p1), .val (.int p2), .val (.long q3), .second, .val (.long q4), .second, .val (.long q5), .second, .val (.int wi), .val (.int bb), .val (.int cc), .val (.int ll), .val (.int mm), .val (.int dd), .val (.ref b2), .val (.ref b9), .val (.ref b11), .val (.long (F25 b9 cc ll oa10 wa10 va10 ko10 kw10 kv10 (offs bb wi) (wds bb (wfin bb cc ll q4 q3)) (vls bb cc ll (wi.toInt.toNat) q5 q3) (oX bb wi cc) (cc.toInt.toNat) (oN bb cc (wi.toInt.toNat) + ll.toInt.toNat) (wX bb (wfin bb cc ll q4 q3) cc) q3)), .second, .val (.long (F25 b9 cc mm oa10 wa10 va10 ko10 kw10 kv10 (offs bb wi) (wds bb (wfin bb cc ll q4 q3)) (vls bb cc ll (wi.toInt.toNat) q5 q3) (oX bb wi cc) (cc.toInt.toNat) (oN bb cc (wi.toInt.toNat) + mm.toInt.toNat) (wX bb (wfin bb cc ll q4 q3) cc) (if mm = ll then q3 else xc q5 cc))), .second, .val (.long (F25 b9 dd ll oa10 wa10 va10 ko10 kw10 kv10 (offs bb wi) (wds bb (wfin bb cc ll q4 q3)) (vls bb cc ll (wi.toInt.toNat) q5 q3) (oX bb wi dd) (dd.toInt.toNat) (oN bb dd (wi.toInt.toNat) + ll.toInt.toNat) (wX bb (wfin bb cc ll q4 q3) dd) (xc q5 dd))), .second, .val (.long (F26 b9 bb wa10 kw10 (wds bb (wfin bb cc ll q4 q3)) (bb.toInt.toNat) (wfin bb cc ll q4 q3))), .second, .val (.int qf), .val (.long q27), .second, .val (.long q29), .second, .val (.long (F27 dd ll bb q4 q5)), .second, .val (.long ((1 : Int64) <<< (ll &&& 0x3f).toInt64)), .second, .unset, .unset]) rfl k) ?_
          refine OFin.st (fun t k => XS.iload X40.here hx rfl (hb hby at_293) rfl k) ?_
          show OFin p e below _ _ T40 (mkF m 295 #[.val (.int p0), .val (.int p1), .val (.int p2), .val (.long q3), .second, .val (.long q4), .second, .val (.long q5), .second, .val (.int wi), .val (.int bb), .val (.int cc), .val (.int ll), .val (.int mm), .val (.int dd), .val (.ref b2), .val (.ref b9), .val (.ref b11), .val (.long (F25 b9 cc ll oa10 wa10 va10 ko10 kw10 kv10 (offs bb wi) (wds bb (wfin bb cc ll q4 q3)) (vls bb cc ll (wi.toInt.toNat) q5 q3) (oX bb wi cc) (cc.toInt.toNat) (oN bb cc (wi.toInt.toNat) + ll.toInt.toNat) (wX bb (wfin bb cc ll q4 q3) cc) q3)), .second, .val (.long (F25 b9 cc mm oa10 wa10 va10 ko10 kw10 kv10 (offs bb wi) (wds bb (wfin bb cc ll q4 q3)) (vls bb cc ll (wi.toInt.toNat) q5 q3) (oX bb wi cc) (cc.toInt.toNat) (oN bb cc (wi.toInt.toNat) + mm.toInt.toNat) (wX bb (wfin bb cc ll q4 q3) cc) (if mm = ll then q3 else xc q5 cc))), .second, .val (.long (F25 b9 dd ll oa10 wa10 va10 ko10 kw10 kv10 (offs bb wi) (wds bb (wfin bb cc ll q4 q3)) (vls bb cc ll (wi.toInt.toNat) q5 q3) (oX bb wi dd) (dd.toInt.toNat) (oN bb dd (wi.toInt.toNat) + ll.toInt.toNat) (wX bb (wfin bb cc ll q4 q3) dd) (xc q5 dd))), .second, .val (.long (F26 b9 bb wa10 kw10 (wds bb (wfin bb cc ll q4 q3)) (bb.toInt.toNat) (wfin bb cc ll q4 q3))), .second, .val (.int qf), .val (.long q27), .second, .val (.long q29), .second, .val (.long (F27 dd ll bb q4 q5)), .second, .val (.long ((1 : Int64) <<< (ll &&& 0x3f).toInt64)), .second, .unset, .unset] [(.int qf)])
          have join41 : ∀ (q35 : Int64), (q35 = (if cc = bb then (if q3 = (0 : Int64) then (q4 &&& (((1 : Int64) <<< (ll &&& 0x3f).toInt64) ^^^ (-1 : Int64))) else (q4 ||| ((1 : Int64) <<< (ll &&& 0x3f).toInt64))) else q4)) → ∀ (T41 : State) (locs41 : List Loc), Stand p l e room_1 (s.setVm T5.vm) m #[(.int p0), (.int p1), (.int p2), (.long q3), (.long q4), (.long q5)] below meth c T41 locs41 12 174 → T41.heap = T26.heap → Fr n0 locs41 → OFin p e below (fun o t L => ReturnedEndW s o t L room_1.cells room_1.slots) (fun v h L => Qrm0 Z p0 p1 p2 q3 q4 q5 kD w_DEFAULTCAPACITY_EMPTY_ELEMENTDATA w_BOOL h0 n0 v h L) T41 (mkF m 326 #[.val (.int p0), .val (.int p1), .val (.int p2), .val (.long q3), .second, .val (.long q4), .second, .val (.long q5), .second, .val (.int wi), .val (.int bb), .val (.int cc), .val (.int ll), .val (.int mm), .val (.int dd), .val (.ref b2), .val (.ref b9), .val (.ref b11), .val (.long (F25 b9 cc ll oa10 wa10 va10 ko10 kw10 kv10 (offs bb wi) (wds bb (wfin bb cc ll q4 q3)) (vls bb cc ll (wi.toInt.toNat) q5 q3) (oX bb wi cc) (cc.toInt.toNat) (oN bb cc (wi.toInt.toNat) + ll.toInt.toNat) (wX bb (wfin bb cc ll q4 q3) cc) q3)), .second, .val (.long (F25 b9 cc mm oa10 wa10 va10 ko10 kw10 kv10 (offs bb wi) (wds bb (wfin bb cc ll q4 q3)) (vls bb cc ll (wi.toInt.toNat) q5 q3) (oX bb wi cc) (cc.toInt.toNat) (oN bb cc (wi.toInt.toNat) + mm.toInt.toNat) (wX bb (wfin bb cc ll q4 q3) cc) (if mm = ll then q3 else xc q5 cc))), .second, .val (.long (F25 b9 dd ll oa10 wa10 va10 ko10 kw10 kv10 (offs bb wi) (wds bb (wfin bb cc ll q4 q3)) (vls bb cc ll (wi.toInt.toNat) q5 q3) (oX bb wi dd) (dd.toInt.toNat) (oN bb dd (wi.toInt.toNat) + ll.toInt.toNat) (wX bb (wfin bb cc ll q4 q3) dd) (xc q5 dd))), .second, .val (.long (F26 b9 bb wa10 kw10 (wds bb (wfin bb cc ll q4 q3)) (bb.toInt.toNat) (wfin bb cc ll q4 q3))), .second, .val (.int qf), .val (.long q27), .second, .val (.long q29), .second, .val (.long (F27 dd ll bb q4 q5)), .second, .val (.long ((1 : Int64) <<< (ll &&& 0x3f).toInt64)), .second, .unset, .unset] [(.long q35)]) := by
            intro q35 h35 T41 locs41 X41 e41 N41
            refine OFin.st (fun t k => XS.lstore X41.here hx rfl (hb hby at_326) rfl (l' := #[.val (.int p0), .val (.int p1), .val (.int p2), .val (.long q3), .second, .val (.long q4), .second, .val (.long q5), .second, .val (.int wi), .val (.int bb), .val (.int cc), .val (.int ll), .val (.int mm), .val (.int dd), .val (.ref b2), .val (.ref b9), .val (.ref b11), .val (.long (F25 b9 cc ll oa10 wa10 va10 ko10 kw10 kv10 (offs bb wi) (wds bb (wfin bb cc ll q4 q3)) (vls bb cc ll (wi.toInt.toNat) q5 q3) (oX bb wi cc) (cc.toInt.toNat) (oN bb cc (wi.toInt.toNat) + ll.toInt.toNat) (wX bb (wfin bb cc ll q4 q3) cc) q3)), .second, .val (.long (F25 b9 cc mm oa10 wa10 va10 ko10 kw10 kv10 (offs bb wi) (wds bb (wfin bb cc ll q4 q3)) (vls bb cc ll (wi.toInt.toNat) q5 q3) (oX bb wi cc) (cc.toInt.toNat) (oN bb cc (wi.toInt.toNat) + mm.toInt.toNat) (wX bb (wfin bb cc ll q4 q3) cc) (if mm = ll then q3 else xc q5 cc))), .second, .val (.long (F25 b9 dd ll oa10 wa10 va10 ko10 kw10 kv10 (offs bb wi) (wds bb (wfin bb cc ll q4 q3)) (vls bb cc ll (wi.toInt.toNat) q5 q3) (oX bb wi dd) (dd.toInt.toNat) (oN bb dd (wi.toInt.toNat) + ll.toInt.toNat) (wX bb (wfin bb cc ll q4 q3) dd) (xc q5 dd))), .second, .val (.long (F26 b9 bb wa10 kw10 (wds bb (wfin bb cc ll q4 q3)) (bb.toInt.toNat) (wfin bb cc ll q4 q3))), .second, .val (.int qf), .val (.long q27), .second, .val (.long q29), .second, .val (.long (F27 dd ll bb q4 q5)), .second, .val (.long ((1 : Int64) <<< (ll &&& 0x3f).toInt64)), .second, .val (.long q35), .second]) rfl k) ?_
            show OFin p e below _ _ T41 (mkF m 328 #[.val (.int p0), .val (.int p1), .val (.int p2), .val (.long q3), .second, .val (.long q4), .second, .val (.long q5), .second, .val (.int wi), .val (.int bb), .val (.int cc), .val (.int ll), .val (.int mm), .val (.int dd), .val (.ref b2), .val (.ref b9), .val (.ref b11), .val (.long (F25 b9 cc ll oa10 wa10 va10 ko10 kw10 kv10 (offs bb wi) (wds bb (wfin bb cc ll q4 q3)) (vls bb cc ll (wi.toInt.toNat) q5 q3) (oX bb wi cc) (cc.toInt.toNat) (oN bb cc (wi.toInt.toNat) + ll.toInt.toNat) (wX bb (wfin bb cc ll q4 q3) cc) q3)), .second, .val (.long (F25 b9 cc mm oa10 wa10 va10 ko10 kw10 kv10 (offs bb wi) (wds bb (wfin bb cc ll q4 q3)) (vls bb cc ll (wi.toInt.toNat) q5 q3) (oX bb wi cc) (cc.toInt.toNat) (oN bb cc (wi.toInt.toNat) + mm.toInt.toNat) (wX bb (wfin bb cc ll q4 q3) cc) (if mm = ll then q3 else xc q5 cc))), .second, .val (.long (F25 b9 dd ll oa10 wa10 va10 ko10 kw10 kv10 (offs bb wi) (wds bb (wfin bb cc ll q4 q3)) (vls bb cc ll (wi.toInt.toNat) q5 q3) (oX bb wi dd) (dd.toInt.toNat) (oN bb dd (wi.toInt.toNat) + ll.toInt.toNat) (wX bb (wfin bb cc ll q4 q3) dd) (xc q5 dd))), .second, .val (.long (F26 b9 bb wa10 kw10 (wds bb (wfin bb cc ll q4 q3)) (bb.toInt.toNat) (wfin bb cc ll q4 q3))), .second, .val (.int qf), .val (.long q27), .second, .val (.long q29), .second, .val (.long (F27 dd ll bb q4 q5)), .second, .val (.long ((1 : Int64) <<< (ll &&& 0x3f).toInt64)), .second, .val (.long q35), .second] [])
            refine OFin.st (fun t k => XS.lload X41.here hx rfl (hb hby at_328) rfl k) ?_
            refine OFin.st (fun t k => XS.lload X41.here hx rfl (hb hby at_330) rfl k) ?_
            refine OFin.st (fun t k => XS.lcmp X41.here hx rfl (hb hby at_332) rfl k) ?_
            refine OFin.st (fun t k => XS.ifNo X41.here hx rfl (hb hby at_333) rfl ((if0 _ _).trans (teq ((lw_eq (F25 b9 cc ll oa10 wa10 va10 ko10 kw10 kv10 (offs bb wi) (wds bb (wfin bb cc ll q4 q3)) (vls bb cc ll (wi.toInt.toNat) q5 q3) (oX bb wi cc) (cc.toInt.toNat) (oN bb cc (wi.toInt.toNat) + ll.toInt.toNat) (wX bb (wfin bb cc ll q4 q3) cc) q3) q27).mpr (own_c1 bb wi cc ll _ q4 q3 _ h27 hwd hll))).2) k) ?_
            show OFin p e below _ _ T41 (mkF m 336 #[.val (.int p0), .val (.int p1), .val (.int p2), .val (.long q3), .second, .val (.long q4), .second, .val (.long q5), .second, .val (.int wi), .val (.int bb), .val (.int cc), .val (.int ll), .val (.int mm), .val (.int dd), .val (.ref b2), .val (.ref b9), .val (.ref b11), .val (.long (F25 b9 cc ll oa10 wa10 va10 ko10 kw10 kv10 (offs bb wi) (wds bb (wfin bb cc ll q4 q3)) (vls bb cc ll (wi.toInt.toNat) q5 q3) (oX bb wi cc) (cc.toInt.toNat) (oN bb cc (wi.toInt.toNat) + ll.toInt.toNat) (wX bb (wfin bb cc ll q4 q3) cc) q3)), .second, .val (.long (F25 b9 cc mm oa10 wa10 va10 ko10 kw10 kv10 (offs bb wi) (wds bb (wfin bb cc ll q4 q3)) (vls bb cc ll (wi.toInt.toNat) q5 q3) (oX bb wi cc) (cc.toInt.toNat) (oN bb cc (wi.toInt.toNat) + mm.toInt.toNat) (wX bb (wfin bb cc ll q4 q3) cc) (if mm = ll then q3 else xc q5 cc))), .second, .val (.long (F25 b9 dd ll oa10 wa10 va10 ko10 kw10 kv10 (offs bb wi) (wds bb (wfin bb cc ll q4 q3)) (vls bb cc ll (wi.toInt.toNat) q5 q3) (oX bb wi dd) (dd.toInt.toNat) (oN bb dd (wi.toInt.toNat) + ll.toInt.toNat) (wX bb (wfin bb cc ll q4 q3) dd) (xc q5 dd))), .second, .val (.long (F26 b9 bb wa10 kw10 (wds bb (wfin bb cc ll q4 q3)) (bb.toInt.toNat) (wfin bb cc ll q4 q3))), .second, .val (.int qf), .val (.long q27), .second, .val (.long q29), .second, .val (.long (F27 dd ll bb q4 q5)), .second, .val (.long ((1 : Int64) <<< (ll &&& 0x3f).toInt64)), .second, .val (.long q35), .second] [])
            refine OFin.st (fun t k => XS.lload X41.here hx rfl (hb hby at_336) rfl k) ?_
            show OFin p e below _ _ T41 (mkF m 338 #[.val (.int p0), .val (.int p1), .val (.int p2), .val (.long q3), .second, .val (.long q4), .second, .val (.long q5), .second, .val (.int wi), .val (.int bb), .val (.int cc), .val (.int ll), .val (.int mm), .val (.int dd), .val (.ref b2), .val (.ref b9), .val (.ref b11), .val (.long (F25 b9 cc ll oa10 wa10 va10 ko10 kw10 kv10 (offs bb wi) (wds bb (wfin bb cc ll q4 q3)) (vls bb cc ll (wi.toInt.toNat) q5 q3) (oX bb wi cc) (cc.toInt.toNat) (oN bb cc (wi.toInt.toNat) + ll.toInt.toNat) (wX bb (wfin bb cc ll q4 q3) cc) q3)), .second, .val (.long (F25 b9 cc mm oa10 wa10 va10 ko10 kw10 kv10 (offs bb wi) (wds bb (wfin bb cc ll q4 q3)) (vls bb cc ll (wi.toInt.toNat) q5 q3) (oX bb wi cc) (cc.toInt.toNat) (oN bb cc (wi.toInt.toNat) + mm.toInt.toNat) (wX bb (wfin bb cc ll q4 q3) cc) (if mm = ll then q3 else xc q5 cc))), .second, .val (.long (F25 b9 dd ll oa10 wa10 va10 ko10 kw10 kv10 (offs bb wi) (wds bb (wfin bb cc ll q4 q3)) (vls bb cc ll (wi.toInt.toNat) q5 q3) (oX bb wi dd) (dd.toInt.toNat) (oN bb dd (wi.toInt.toNat) + ll.toInt.toNat) (wX bb (wfin bb cc ll q4 q3) dd) (xc q5 dd))), .second, .val (.long (F26 b9 bb wa10 kw10 (wds bb (wfin bb cc ll q4 q3)) (bb.toInt.toNat) (wfin bb cc ll q4 q3))), .second, .val (.int qf), .val (.long q27), .second, .val (.long q29), .second, .val (.long (F27 dd ll bb q4 q5)), .second, .val (.long ((1 : Int64) <<< (ll &&& 0x3f).toInt64)), .second, .val (.long q35), .second] [(.long (F25 b9 cc mm oa10 wa10 va10 ko10 kw10 kv10 (offs bb wi) (wds bb (wfin bb cc ll q4 q3)) (vls bb cc ll (wi.toInt.toNat) q5 q3) (oX bb wi cc) (cc.toInt.toNat) (oN bb cc (wi.toInt.toNat) + mm.toInt.toNat) (wX bb (wfin bb cc ll q4 q3) cc) (if mm = ll then q3 else xc q5 cc)))])
            refine OFin.st (fun t k => XS.lload X41.here hx rfl (hb hby at_338) rfl k) ?_
            refine OFin.st (fun t k => XS.lcmp X41.here hx rfl (hb hby at_340) rfl k) ?_
            refine OFin.st (fun t k => XS.ifNo X41.here hx rfl (hb hby at_341) rfl ((if0 _ _).trans (teq ((lw_eq (F25 b9 cc mm oa10 wa10 va10 ko10 kw10 kv10 (offs bb wi) (wds bb (wfin bb cc ll q4 q3)) (vls bb cc ll (wi.toInt.toNat) q5 q3) (oX bb wi cc) (cc.toInt.toNat) (oN bb cc (wi.toInt.toNat) + mm.toInt.toNat) (wX bb (wfin bb cc ll q4 q3) cc) (if mm = ll then q3 else xc q5 cc)) q29).mpr (own_c2 bb wi cc ll mm _ q4 q3 q5 _ _ h27 h29 hcc hwd hll hmm))).2) k) ?_
            show OFin p e below _ _ T41 (mkF m 344 #[.val (.int p0), .val (.int p1), .val (.int p2), .val (.long q3), .second, .val (.long q4), .second, .val (.long q5), .second, .val (.int wi), .val (.int bb), .val (.int cc), .val (.int ll), .val (.int mm), .val (.int dd), .val (.ref b2), .val (.ref b9), .val (.ref b11), .val (.long (F25 b9 cc ll oa10 wa10 va10 ko10 kw10 kv10 (offs bb wi) (wds bb (wfin bb cc ll q4 q3)) (vls bb cc ll (wi.toInt.toNat) q5 q3) (oX bb wi cc) (cc.toInt.toNat) (oN bb cc (wi.toInt.toNat) + ll.toInt.toNat) (wX bb (wfin bb cc ll q4 q3) cc) q3)), .second, .val (.long (F25 b9 cc mm oa10 wa10 va10 ko10 kw10 kv10 (offs bb wi) (wds bb (wfin bb cc ll q4 q3)) (vls bb cc ll (wi.toInt.toNat) q5 q3) (oX bb wi cc) (cc.toInt.toNat) (oN bb cc (wi.toInt.toNat) + mm.toInt.toNat) (wX bb (wfin bb cc ll q4 q3) cc) (if mm = ll then q3 else xc q5 cc))), .second, .val (.long (F25 b9 dd ll oa10 wa10 va10 ko10 kw10 kv10 (offs bb wi) (wds bb (wfin bb cc ll q4 q3)) (vls bb cc ll (wi.toInt.toNat) q5 q3) (oX bb wi dd) (dd.toInt.toNat) (oN bb dd (wi.toInt.toNat) + ll.toInt.toNat) (wX bb (wfin bb cc ll q4 q3) dd) (xc q5 dd))), .second, .val (.long (F26 b9 bb wa10 kw10 (wds bb (wfin bb cc ll q4 q3)) (bb.toInt.toNat) (wfin bb cc ll q4 q3))), .second, .val (.int qf), .val (.long q27), .second, .val (.long q29), .second, .val (.long (F27 dd ll bb q4 q5)), .second, .val (.long ((1 : Int64) <<< (ll &&& 0x3f).toInt64)), .second, .val (.long q35), .second] [])
            refine OFin.st (fun t k => XS.lload X41.here hx rfl (hb hby at_344) rfl k) ?_
            refine OFin.st (fun t k => XS.lload X41.here hx rfl (hb hby at_346) rfl k) ?_
            show OFin p e below _ _ T41 (mkF m 348 #[.val (.int p0), .val (.int p1), .val (.int p2), .val (.long q3), .second, .val (.long q4), .second, .val (.long q5), .second, .val (.int wi), .val (.int bb), .val (.int cc), .val (.int ll), .val (.int mm), .val (.int dd), .val (.ref b2), .val (.ref b9), .val (.ref b11), .val (.long (F25 b9 cc ll oa10 wa10 va10 ko10 kw10 kv10 (offs bb wi) (wds bb (wfin bb cc ll q4 q3)) (vls bb cc ll (wi.toInt.toNat) q5 q3) (oX bb wi cc) (cc.toInt.toNat) (oN bb cc (wi.toInt.toNat) + ll.toInt.toNat) (wX bb (wfin bb cc ll q4 q3) cc) q3)), .second, .val (.long (F25 b9 cc mm oa10 wa10 va10 ko10 kw10 kv10 (offs bb wi) (wds bb (wfin bb cc ll q4 q3)) (vls bb cc ll (wi.toInt.toNat) q5 q3) (oX bb wi cc) (cc.toInt.toNat) (oN bb cc (wi.toInt.toNat) + mm.toInt.toNat) (wX bb (wfin bb cc ll q4 q3) cc) (if mm = ll then q3 else xc q5 cc))), .second, .val (.long (F25 b9 dd ll oa10 wa10 va10 ko10 kw10 kv10 (offs bb wi) (wds bb (wfin bb cc ll q4 q3)) (vls bb cc ll (wi.toInt.toNat) q5 q3) (oX bb wi dd) (dd.toInt.toNat) (oN bb dd (wi.toInt.toNat) + ll.toInt.toNat) (wX bb (wfin bb cc ll q4 q3) dd) (xc q5 dd))), .second, .val (.long (F26 b9 bb wa10 kw10 (wds bb (wfin bb cc ll q4 q3)) (bb.toInt.toNat) (wfin bb cc ll q4 q3))), .second, .val (.int qf), .val (.long q27), .second, .val (.long q29), .second, .val (.long (F27 dd ll bb q4 q5)), .second, .val (.long ((1 : Int64) <<< (ll &&& 0x3f).toInt64)), .second, .val (.long q35), .second] [(.long (F27 dd ll bb q4 q5)), (.long (F25 b9 dd ll oa10 wa10 va10 ko10 kw10 kv10 (offs bb wi) (wds bb (wfin bb cc ll q4 q3)) (vls bb cc ll (wi.toInt.toNat) q5 q3) (oX bb wi dd) (dd.toInt.toNat) (oN bb dd (wi.toInt.toNat) + ll.toInt.toNat) (wX bb (wfin bb cc ll q4 q3) dd) (xc q5 dd)))])
            refine OFin.st (fun t k => XS.lcmp X41.here hx rfl (hb hby at_348) rfl k) ?_
            refine OFin.st (fun t k => XS.ifNo X41.here hx rfl (hb hby at_349) rfl ((if0 _ _).trans (teq ((lw_eq (F25 b9 dd ll oa10 wa10 va10 ko10 kw10 kv10 (offs bb wi) (wds bb (wfin bb cc ll q4 q3)) (vls bb cc ll (wi.toInt.toNat) q5 q3) (oX bb wi dd) (dd.toInt.toNat) (oN bb dd (wi.toInt.toNat) + ll.toInt.toNat) (wX bb (wfin bb cc ll q4 q3) dd) (xc q5 dd)) (F27 dd ll bb q4 q5)).mpr (own_c3 bb wi cc dd ll _ q4 q3 q5 hdd hdc hwd))).2) k) ?_
            show OFin p e below _ _ T41 (mkF m 352 #[.val (.int p0), .val (.int p1), .val (.int p2), .val (.long q3), .second, .val (.long q4), .second, .val (.long q5), .second, .val (.int wi), .val (.int bb), .val (.int cc), .val (.int ll), .val (.int mm), .val (.int dd), .val (.ref b2), .val (.ref b9), .val (.ref b11), .val (.long (F25 b9 cc ll oa10 wa10 va10 ko10 kw10 kv10 (offs bb wi) (wds bb (wfin bb cc ll q4 q3)) (vls bb cc ll (wi.toInt.toNat) q5 q3) (oX bb wi cc) (cc.toInt.toNat) (oN bb cc (wi.toInt.toNat) + ll.toInt.toNat) (wX bb (wfin bb cc ll q4 q3) cc) q3)), .second, .val (.long (F25 b9 cc mm oa10 wa10 va10 ko10 kw10 kv10 (offs bb wi) (wds bb (wfin bb cc ll q4 q3)) (vls bb cc ll (wi.toInt.toNat) q5 q3) (oX bb wi cc) (cc.toInt.toNat) (oN bb cc (wi.toInt.toNat) + mm.toInt.toNat) (wX bb (wfin bb cc ll q4 q3) cc) (if mm = ll then q3 else xc q5 cc))), .second, .val (.long (F25 b9 dd ll oa10 wa10 va10 ko10 kw10 kv10 (offs bb wi) (wds bb (wfin bb cc ll q4 q3)) (vls bb cc ll (wi.toInt.toNat) q5 q3) (oX bb wi dd) (dd.toInt.toNat) (oN bb dd (wi.toInt.toNat) + ll.toInt.toNat) (wX bb (wfin bb cc ll q4 q3) dd) (xc q5 dd))), .second, .val (.long (F26 b9 bb wa10 kw10 (wds bb (wfin bb cc ll q4 q3)) (bb.toInt.toNat) (wfin bb cc ll q4 q3))), .second, .val (.int qf), .val (.long q27), .second, .val (.long q29), .second, .val (.long (F27 dd ll bb q4 q5)), .second, .val (.long ((1 : Int64) <<< (ll &&& 0x3f).toInt64)), .second, .val (.long q35), .second] [])
            refine OFin.st (fun t k => XS.lload X41.here hx rfl (hb hby at_352) rfl k) ?_
            refine OFin.st (fun t k => XS.lload X41.here hx rfl (hb hby at_354) rfl k) ?_
            refine OFin.st (fun t k => XS.lcmp X41.here hx rfl (hb hby at_356) rfl k) ?_
            show OFin p e below _ _ T41 (mkF m 357 #[.val (.int p0), .val (.int p1), .val (.int p2), .val (.long q3), .second, .val (.long q4), .second, .val (.long q5), .second, .val (.int wi), .val (.int bb), .val (.int cc), .val (.int ll), .val (.int mm), .val (.int dd), .val (.ref b2), .val (.ref b9), .val (.ref b11), .val (.long (F25 b9 cc ll oa10 wa10 va10 ko10 kw10 kv10 (offs bb wi) (wds bb (wfin bb cc ll q4 q3)) (vls bb cc ll (wi.toInt.toNat) q5 q3) (oX bb wi cc) (cc.toInt.toNat) (oN bb cc (wi.toInt.toNat) + ll.toInt.toNat) (wX bb (wfin bb cc ll q4 q3) cc) q3)), .second, .val (.long (F25 b9 cc mm oa10 wa10 va10 ko10 kw10 kv10 (offs bb wi) (wds bb (wfin bb cc ll q4 q3)) (vls bb cc ll (wi.toInt.toNat) q5 q3) (oX bb wi cc) (cc.toInt.toNat) (oN bb cc (wi.toInt.toNat) + mm.toInt.toNat) (wX bb (wfin bb cc ll q4 q3) cc) (if mm = ll then q3 else xc q5 cc))), .second, .val (.long (F25 b9 dd ll oa10 wa10 va10 ko10 kw10 kv10 (offs bb wi) (wds bb (wfin bb cc ll q4 q3)) (vls bb cc ll (wi.toInt.toNat) q5 q3) (oX bb wi dd) (dd.toInt.toNat) (oN bb dd (wi.toInt.toNat) + ll.toInt.toNat) (wX bb (wfin bb cc ll q4 q3) dd) (xc q5 dd))), .second, .val (.long (F26 b9 bb wa10 kw10 (wds bb (wfin bb cc ll q4 q3)) (bb.toInt.toNat) (wfin bb cc ll q4 q3))), .second, .val (.int qf), .val (.long q27), .second, .val (.long q29), .second, .val (.long (F27 dd ll bb q4 q5)), .second, .val (.long ((1 : Int64) <<< (ll &&& 0x3f).toInt64)), .second, .val (.long q35), .second] [(.int (lcmpW (F26 b9 bb wa10 kw10 (wds bb (wfin bb cc ll q4 q3)) (bb.toInt.toNat) (wfin bb cc ll q4 q3)) q35))])
            refine OFin.st (fun t k => XS.ifNo X41.here hx rfl (hb hby at_357) rfl ((if0 _ _).trans (teq ((lw_eq (F26 b9 bb wa10 kw10 (wds bb (wfin bb cc ll q4 q3)) (bb.toInt.toNat) (wfin bb cc ll q4 q3)) q35).mpr (own_c4 bb cc ll q4 q3 _ h35))).2) k) ?_
            show OFin p e below _ _ T41 (mkF m 360 #[.val (.int p0), .val (.int p1), .val (.int p2), .val (.long q3), .second, .val (.long q4), .second, .val (.long q5), .second, .val (.int wi), .val (.int bb), .val (.int cc), .val (.int ll), .val (.int mm), .val (.int dd), .val (.ref b2), .val (.ref b9), .val (.ref b11), .val (.long (F25 b9 cc ll oa10 wa10 va10 ko10 kw10 kv10 (offs bb wi) (wds bb (wfin bb cc ll q4 q3)) (vls bb cc ll (wi.toInt.toNat) q5 q3) (oX bb wi cc) (cc.toInt.toNat) (oN bb cc (wi.toInt.toNat) + ll.toInt.toNat) (wX bb (wfin bb cc ll q4 q3) cc) q3)), .second, .val (.long (F25 b9 cc mm oa10 wa10 va10 ko10 kw10 kv10 (offs bb wi) (wds bb (wfin bb cc ll q4 q3)) (vls bb cc ll (wi.toInt.toNat) q5 q3) (oX bb wi cc) (cc.toInt.toNat) (oN bb cc (wi.toInt.toNat) + mm.toInt.toNat) (wX bb (wfin bb cc ll q4 q3) cc) (if mm = ll then q3 else xc q5 cc))), .second, .val (.long (F25 b9 dd ll oa10 wa10 va10 ko10 kw10 kv10 (offs bb wi) (wds bb (wfin bb cc ll q4 q3)) (vls bb cc ll (wi.toInt.toNat) q5 q3) (oX bb wi dd) (dd.toInt.toNat) (oN bb dd (wi.toInt.toNat) + ll.toInt.toNat) (wX bb (wfin bb cc ll q4 q3) dd) (xc q5 dd))), .second, .val (.long (F26 b9 bb wa10 kw10 (wds bb (wfin bb cc ll q4 q3)) (bb.toInt.toNat) (wfin bb cc ll q4 q3))), .second, .val (.int qf), .val (.long q27), .second, .val (.long q29), .second, .val (.long (F27 dd ll bb q4 q5)), .second, .val (.long ((1 : Int64) <<< (ll &&& 0x3f).toInt64)), .second, .val (.long q35), .second] [])
            refine OFin.st (fun t k => XS.iconst X41.here hx rfl (hb hby at_360) k) ?_
            refine OFin.st (fun t k => XS.goto X41.here hx rfl (pc0 := 361) (pc' := 365) rfl (hb hby at_361) (by decide) (by decide) k) ?_
            exact own_retN X41 hx Bd.returns Bd.notSynchronized (t := .boolean) (by simp) rfl (hb hby at_365) (by show Qrm0 Z p0 p1 p2 q3 q4 q5 kD w_DEFAULTCAPACITY_EMPTY_ELEMENTDATA w_BOOL h0 n0 _ T41.heap _; rw [e41]; exact ⟨rfl, N41, K26⟩) (own_endW hS5 (by rw [e41]; exact hk26) (by decide) (by decide))
          by_cases hcb : cc = bb
          · refine OFin.st (fun t k => XS.ifNo X40.here hx rfl (hb hby at_295) rfl ((if0 _ _).trans (feq (by rw [hqf, if_pos hcb]; decide)).1) k) ?_
            show OFin p e below _ _ T40 (mkF m 298 #[.val (.int p0), .val (.int p1), .val (.int p2), .val (.long q3), .second, .val (.long q4), .second, .val (.long q5), .second, .val (.int wi), .val (.int bb), .val (.int cc), .val (.int ll), .val (.int mm), .val (.int dd), .val (.ref b2), .val (.ref b9), .val (.ref b11), .val (.long (F25 b9 cc ll oa10 wa10 va10 ko10 kw10 kv10 (offs bb wi) (wds bb (wfin bb cc ll q4 q3)) (vls bb cc ll (wi.toInt.toNat) q5 q3) (oX bb wi cc) (cc.toInt.toNat) (oN bb cc (wi.toInt.toNat) + ll.toInt.toNat) (wX bb (wfin bb cc ll q4 q3) cc) q3)), .second, .val (.long (F25 b9 cc mm oa10 wa10 va10 ko10 kw10 kv10 (offs bb wi) (wds bb (wfin bb cc ll q4 q3)) (vls bb cc ll (wi.toInt.toNat) q5 q3) (oX bb wi cc) (cc.toInt.toNat) (oN bb cc (wi.toInt.toNat) + mm.toInt.toNat) (wX bb (wfin bb cc ll q4 q3) cc) (if mm = ll then q3 else xc q5 cc))), .second, .val (.long (F25 b9 dd ll oa10 wa10 va10 ko10 kw10 kv10 (offs bb wi) (wds bb (wfin bb cc ll q4 q3)) (vls bb cc ll (wi.toInt.toNat) q5 q3) (oX bb wi dd) (dd.toInt.toNat) (oN bb dd (wi.toInt.toNat) + ll.toInt.toNat) (wX bb (wfin bb cc ll q4 q3) dd) (xc q5 dd))), .second, .val (.long (F26 b9 bb wa10 kw10 (wds bb (wfin bb cc ll q4 q3)) (bb.toInt.toNat) (wfin bb cc ll q4 q3))), .second, .val (.int qf), .val (.long q27), .second, .val (.long q29), .second, .val (.long (F27 dd ll bb q4 q5)), .second, .val (.long ((1 : Int64) <<< (ll &&& 0x3f).toInt64)), .second, .unset, .unset] [])
            refine OFin.st (fun t k => XS.lloadN X40.here hx rfl (hb hby at_298) rfl k) ?_
            refine OFin.st (fun t k => XS.lconst X40.here hx rfl (hb hby at_299) k) ?_
            show OFin p e below _ _ T40 (mkF m 300 #[.val (.int p0), .val (.int p1), .val (.int p2), .val (.long q3), .second, .val (.long q4), .second, .val (.long q5), .second, .val (.int wi), .val (.int bb), .val (.int cc), .val (.int ll), .val (.int mm), .val (.int dd), .val (.ref b2), .val (.ref b9), .val (.ref b11), .val (.long (F25 b9 cc ll oa10 wa10 va10 ko10 kw10 kv10 (offs bb wi) (wds bb (wfin bb cc ll q4 q3)) (vls bb cc ll (wi.toInt.toNat) q5 q3) (oX bb wi cc) (cc.toInt.toNat) (oN bb cc (wi.toInt.toNat) + ll.toInt.toNat) (wX bb (wfin bb cc ll q4 q3) cc) q3)), .second, .val (.long (F25 b9 cc mm oa10 wa10 va10 ko10 kw10 kv10 (offs bb wi) (wds bb (wfin bb cc ll q4 q3)) (vls bb cc ll (wi.toInt.toNat) q5 q3) (oX bb wi cc) (cc.toInt.toNat) (oN bb cc (wi.toInt.toNat) + mm.toInt.toNat) (wX bb (wfin bb cc ll q4 q3) cc) (if mm = ll then q3 else xc q5 cc))), .second, .val (.long (F25 b9 dd ll oa10 wa10 va10 ko10 kw10 kv10 (offs bb wi) (wds bb (wfin bb cc ll q4 q3)) (vls bb cc ll (wi.toInt.toNat) q5 q3) (oX bb wi dd) (dd.toInt.toNat) (oN bb dd (wi.toInt.toNat) + ll.toInt.toNat) (wX bb (wfin bb cc ll q4 q3) dd) (xc q5 dd))), .second, .val (.long (F26 b9 bb wa10 kw10 (wds bb (wfin bb cc ll q4 q3)) (bb.toInt.toNat) (wfin bb cc ll q4 q3))), .second, .val (.int qf), .val (.long q27), .second, .val (.long q29), .second, .val (.long (F27 dd ll bb q4 q5)), .second, .val (.long ((1 : Int64) <<< (ll &&& 0x3f).toInt64)), .second, .unset, .unset] [(.long (0 : Int64)), (.long q3)])
            refine OFin.st (fun t k => XS.lcmp X40.here hx rfl (hb hby at_300) rfl k) ?_
            by_cases hc301 : q3 = (0 : Int64)
            · refine OFin.st (fun t k => XS.ifYes X40.here hx rfl (pc0 := 301) (pc' := 312) rfl (hb hby at_301) rfl ((if0 _ _).trans (teq ((lw_eq q3 (0 : Int64)).mpr hc301)).1) (by decide) (by decide) k) ?_
              show OFin p e below _ _ T40 (mkF m 312 #[.val (.int p0), .val (.int p1), .val (.int p2), .val (.long q3), .second, .val (.long q4), .second, .val (.long q5), .second, .val (.int wi), .val (.int bb), .val (.int cc), .val (.int ll), .val (.int mm), .val (.int dd), .val (.ref b2), .val (.ref b9), .val (.ref b11), .val (.long (F25 b9 cc ll oa10 wa10 va10 ko10 kw10 kv10 (offs bb wi) (wds bb (wfin bb cc ll q4 q3)) (vls bb cc ll (wi.toInt.toNat) q5 q3) (oX bb wi cc) (cc.toInt.toNat) (oN bb cc (wi.toInt.toNat) + ll.toInt.toNat) (wX bb (wfin bb cc ll q4 q3) cc) q3)), .second, .val (.long (F25 b9 cc mm oa10 wa10 va10 ko10 kw10 kv10 (offs bb wi) (wds bb (wfin bb cc ll q4 q3)) (vls bb cc ll (wi.toInt.toNat) q5 q3) (oX bb wi cc) (cc.toInt.toNat) (oN bb cc (wi.toInt.toNat) + mm.toInt.toNat) (wX bb (wfin bb cc ll q4 q3) cc) (if mm = ll then q3 else xc q5 cc))), .second, .val (.long (F25 b9 dd ll oa10 wa10 va10 ko10 kw10 kv10 (offs bb wi) (wds bb (wfin bb cc ll q4 q3)) (vls bb cc ll (wi.toInt.toNat) q5 q3) (oX bb wi dd) (dd.toInt.toNat) (oN bb dd (wi.toInt.toNat) + ll.toInt.toNat) (wX bb (wfin bb cc ll q4 q3) dd) (xc q5 dd))), .second, .val (.long (F26 b9 bb wa10 kw10 (wds bb (wfin bb cc ll q4 q3)) (bb.toInt.toNat) (wfin bb cc ll q4 q3))), .second, .val (.int qf), .val (.long q27), .second, .val (.long q29), .second, .val (.long (F27 dd ll bb q4 q5)), .second, .val (.long ((1 : Int64) <<< (ll &&& 0x3f).toInt64)), .second, .unset, .unset] [])
              refine OFin.st (fun t k => XS.lload X40.here hx rfl (hb hby at_312) rfl k) ?_
              refine OFin.st (fun t k => XS.lload X40.here hx rfl (hb hby at_314) rfl k) ?_
              refine OFin.st (X40.ldc2Long hx hown (mvT hZ (hw _ (List.mem_of_getElem? (i := 192) rfl))) (g := (mkF m 316 #[.val (.int p0), .val (.int p1), .val (.int p2), .val (.long q3), .second, .val (.long q4), .second, .val (.long q5), .second, .val (.int wi), .val (.int bb), .val (.int cc), .val (.int ll), .val (.int mm), .val (.int dd), .val (.ref b2), .val (.ref b9), .val (.ref b11), .val (.long (F25 b9 cc ll oa10 wa10 va10 ko10 kw10 kv10 (offs bb wi) (wds bb (wfin bb cc ll q4 q3)) (vls bb cc ll (wi.toInt.toNat) q5 q3) (oX bb wi cc) (cc.toInt.toNat) (oN bb cc (wi.toInt.toNat) + ll.toInt.toNat) (wX bb (wfin bb cc ll q4 q3) cc) q3)), .second, .val (.long (F25 b9 cc mm oa10 wa10 va10 ko10 kw10 kv10 (offs bb wi) (wds bb (wfin bb cc ll q4 q3)) (vls bb cc ll (wi.toInt.toNat) q5 q3) (oX bb wi cc) (cc.toInt.toNat) (oN bb cc (wi.toInt.toNat) + mm.toInt.toNat) (wX bb (wfin bb cc ll q4 q3) cc) (if mm = ll then q3 else xc q5 cc))), .second, .val (.long (F25 b9 dd ll oa10 wa10 va10 ko10 kw10 kv10 (offs bb wi) (wds bb (wfin bb cc ll q4 q3)) (vls bb cc ll (wi.toInt.toNat) q5 q3) (oX bb wi dd) (dd.toInt.toNat) (oN bb dd (wi.toInt.toNat) + ll.toInt.toNat) (wX bb (wfin bb cc ll q4 q3) dd) (xc q5 dd))), .second, .val (.long (F26 b9 bb wa10 kw10 (wds bb (wfin bb cc ll q4 q3)) (bb.toInt.toNat) (wfin bb cc ll q4 q3))), .second, .val (.int qf), .val (.long q27), .second, .val (.long q29), .second, .val (.long (F27 dd ll bb q4 q5)), .second, .val (.long ((1 : Int64) <<< (ll &&& 0x3f).toInt64)), .second, .unset, .unset] [(.long ((1 : Int64) <<< (ll &&& 0x3f).toInt64)), (.long q4)])) rfl (hb hby at_316)) ?_
              show OFin p e below _ _ T40 (mkF m 319 #[.val (.int p0), .val (.int p1), .val (.int p2), .val (.long q3), .second, .val (.long q4), .second, .val (.long q5), .second, .val (.int wi), .val (.int bb), .val (.int cc), .val (.int ll), .val (.int mm), .val (.int dd), .val (.ref b2), .val (.ref b9), .val (.ref b11), .val (.long (F25 b9 cc ll oa10 wa10 va10 ko10 kw10 kv10 (offs bb wi) (wds bb (wfin bb cc ll q4 q3)) (vls bb cc ll (wi.toInt.toNat) q5 q3) (oX bb wi cc) (cc.toInt.toNat) (oN bb cc (wi.toInt.toNat) + ll.toInt.toNat) (wX bb (wfin bb cc ll q4 q3) cc) q3)), .second, .val (.long (F25 b9 cc mm oa10 wa10 va10 ko10 kw10 kv10 (offs bb wi) (wds bb (wfin bb cc ll q4 q3)) (vls bb cc ll (wi.toInt.toNat) q5 q3) (oX bb wi cc) (cc.toInt.toNat) (oN bb cc (wi.toInt.toNat) + mm.toInt.toNat) (wX bb (wfin bb cc ll q4 q3) cc) (if mm = ll then q3 else xc q5 cc))), .second, .val (.long (F25 b9 dd ll oa10 wa10 va10 ko10 kw10 kv10 (offs bb wi) (wds bb (wfin bb cc ll q4 q3)) (vls bb cc ll (wi.toInt.toNat) q5 q3) (oX bb wi dd) (dd.toInt.toNat) (oN bb dd (wi.toInt.toNat) + ll.toInt.toNat) (wX bb (wfin bb cc ll q4 q3) dd) (xc q5 dd))), .second, .val (.long (F26 b9 bb wa10 kw10 (wds bb (wfin bb cc ll q4 q3)) (bb.toInt.toNat) (wfin bb cc ll q4 q3))), .second, .val (.int qf), .val (.long q27), .second, .val (.long q29), .second, .val (.long (F27 dd ll bb q4 q5)), .second, .val (.long ((1 : Int64) <<< (ll &&& 0x3f).toInt64)), .second, .unset, .unset] [(.long (-1 : Int64)), (.long ((1 : Int64) <<< (ll &&& 0x3f).toInt64)), (.long q4)])
              refine OFin.st (fun t k => XS.lxor X40.here hx rfl (hb hby at_319) rfl k) ?_
              refine OFin.st (fun t k => XS.land X40.here hx rfl (hb hby at_320) rfl k) ?_
              refine OFin.st (fun t k => XS.goto X40.here hx rfl (pc0 := 321) (pc' := 326) rfl (hb hby at_321) (by decide) (by decide) k) ?_
              exact join41 (q4 &&& (((1 : Int64) <<< (ll &&& 0x3f).toInt64) ^^^ (-1 : Int64))) (by rw [if_pos hcb, if_pos hc301]) _ _ X40 e40 N40
            · refine OFin.st (fun t k => XS.ifNo X40.here hx rfl (hb hby at_301) rfl ((if0 _ _).trans (feq (fun q => hc301 ((lw_eq q3 (0 : Int64)).mp q))).1) k) ?_
              show OFin p e below _ _ T40 (mkF m 304 #[.val (.int p0), .val (.int p1), .val (.int p2), .val (.long q3), .second, .val (.long q4), .second, .val (.long q5), .second, .val (.int wi), .val (.int bb), .val (.int cc), .val (.int ll), .val (.int mm), .val (.int dd), .val (.ref b2), .val (.ref b9), .val (.ref b11), .val (.long (F25 b9 cc ll oa10 wa10 va10 ko10 kw10 kv10 (offs bb wi) (wds bb (wfin bb cc ll q4 q3)) (vls bb cc ll (wi.toInt.toNat) q5 q3) (oX bb wi cc) (cc.toInt.toNat) (oN bb cc (wi.toInt.toNat) + ll.toInt.toNat) (wX bb (wfin bb cc ll q4 q3) cc) q3)), .second, .val (.long (F25 b9 cc mm oa10 wa10 va10 ko10 kw10 kv10 (offs bb wi) (wds bb (wfin bb cc ll q4 q3)) (vls bb cc ll (wi.toInt.toNat) q5 q3) (oX bb wi cc) (cc.toInt.toNat) (oN bb cc (wi.toInt.toNat) + mm.toInt.toNat) (wX bb (wfin bb cc ll q4 q3) cc) (if mm = ll then q3 else xc q5 cc))), .second, .val (.long (F25 b9 dd ll oa10 wa10 va10 ko10 kw10 kv10 (offs bb wi) (wds bb (wfin bb cc ll q4 q3)) (vls bb cc ll (wi.toInt.toNat) q5 q3) (oX bb wi dd) (dd.toInt.toNat) (oN bb dd (wi.toInt.toNat) + ll.toInt.toNat) (wX bb (wfin bb cc ll q4 q3) dd) (xc q5 dd))), .second, .val (.long (F26 b9 bb wa10 kw10 (wds bb (wfin bb cc ll q4 q3)) (bb.toInt.toNat) (wfin bb cc ll q4 q3))), .second, .val (.int qf), .val (.long q27), .second, .val (.long q29), .second, .val (.long (F27 dd ll bb q4 q5)), .second, .val (.long ((1 : Int64) <<< (ll &&& 0x3f).toInt64)), .second, .unset, .unset] [])
              refine OFin.st (fun t k => XS.lload X40.here hx rfl (hb hby at_304) rfl k) ?_
              show OFin p e below _ _ T40 (mkF m 306 #[.val (.int p0), .val (.int p1), .val (.int p2), .val (.long q3), .second, .val (.long q4), .second, .val (.long q5), .second, .val (.int wi), .val (.int bb), .val (.int cc), .val (.int ll), .val (.int mm), .val (.int dd), .val (.ref b2), .val (.ref b9), .val (.ref b11), .val (.long (F25 b9 cc ll oa10 wa10 va10 ko10 kw10 kv10 (offs bb wi) (wds bb (wfin bb cc ll q4 q3)) (vls bb cc ll (wi.toInt.toNat) q5 q3) (oX bb wi cc) (cc.toInt.toNat) (oN bb cc (wi.toInt.toNat) + ll.toInt.toNat) (wX bb (wfin bb cc ll q4 q3) cc) q3)), .second, .val (.long (F25 b9 cc mm oa10 wa10 va10 ko10 kw10 kv10 (offs bb wi) (wds bb (wfin bb cc ll q4 q3)) (vls bb cc ll (wi.toInt.toNat) q5 q3) (oX bb wi cc) (cc.toInt.toNat) (oN bb cc (wi.toInt.toNat) + mm.toInt.toNat) (wX bb (wfin bb cc ll q4 q3) cc) (if mm = ll then q3 else xc q5 cc))), .second, .val (.long (F25 b9 dd ll oa10 wa10 va10 ko10 kw10 kv10 (offs bb wi) (wds bb (wfin bb cc ll q4 q3)) (vls bb cc ll (wi.toInt.toNat) q5 q3) (oX bb wi dd) (dd.toInt.toNat) (oN bb dd (wi.toInt.toNat) + ll.toInt.toNat) (wX bb (wfin bb cc ll q4 q3) dd) (xc q5 dd))), .second, .val (.long (F26 b9 bb wa10 kw10 (wds bb (wfin bb cc ll q4 q3)) (bb.toInt.toNat) (wfin bb cc ll q4 q3))), .second, .val (.int qf), .val (.long q27), .second, .val (.long q29), .second, .val (.long (F27 dd ll bb q4 q5)), .second, .val (.long ((1 : Int64) <<< (ll &&& 0x3f).toInt64)), .second, .unset, .unset] [(.long q4)])
              refine OFin.st (fun t k => XS.lload X40.here hx rfl (hb hby at_306) rfl k) ?_
              refine OFin.st (fun t k => XS.lor X40.here hx rfl (hb hby at_308) rfl k) ?_
              refine OFin.st (fun t k => XS.goto X40.here hx rfl (pc0 := 309) (pc' := 326) rfl (hb hby at_309) (by decide) (by decide) k) ?_
              exact join41 (q4 ||| ((1 : Int64) <<< (ll &&& 0x3f).toInt64)) (by rw [if_pos hcb, if_neg hc301]) _ _ X40 e40 N40
          · refine OFin.st (fun t k => XS.ifYes X40.here hx rfl (pc0 := 295) (pc' := 324) rfl (hb hby at_295) rfl ((if0 _ _).trans (teq (by rw [hqf, if_neg hcb])).1) (by decide) (by decide) k) ?_
            show OFin p e below _ _ T40 (mkF m 324 #[.val (.int p0), .val (.int p1), .val (.int p2), .val (.long q3), .second, .val (.long q4), .second, .val (.long q5), .second, .val (.int wi), .val (.int bb), .val (.int cc), .val (.int ll), .val (.int mm), .val (.int dd), .val (.ref b2), .val (.ref b9), .val (.ref b11), .val (.long (F25 b9 cc ll oa10 wa10 va10 ko10 kw10 kv10 (offs bb wi) (wds bb (wfin bb cc ll q4 q3)) (vls bb cc ll (wi.toInt.toNat) q5 q3) (oX bb wi cc) (cc.toInt.toNat) (oN bb cc (wi.toInt.toNat) + ll.toInt.toNat) (wX bb (wfin bb cc ll q4 q3) cc) q3)), .second, .val (.long (F25 b9 cc mm oa10 wa10 va10 ko10 kw10 kv10 (offs bb wi) (wds bb (wfin bb cc ll q4 q3)) (vls bb cc ll (wi.toInt.toNat) q5 q3) (oX bb wi cc) (cc.toInt.toNat) (oN bb cc (wi.toInt.toNat) + mm.toInt.toNat) (wX bb (wfin bb cc ll q4 q3) cc) (if mm = ll then q3 else xc q5 cc))), .second, .val (.long (F25 b9 dd ll oa10 wa10 va10 ko10 kw10 kv10 (offs bb wi) (wds bb (wfin bb cc ll q4 q3)) (vls bb cc ll (wi.toInt.toNat) q5 q3) (oX bb wi dd) (dd.toInt.toNat) (oN bb dd (wi.toInt.toNat) + ll.toInt.toNat) (wX bb (wfin bb cc ll q4 q3) dd) (xc q5 dd))), .second, .val (.long (F26 b9 bb wa10 kw10 (wds bb (wfin bb cc ll q4 q3)) (bb.toInt.toNat) (wfin bb cc ll q4 q3))), .second, .val (.int qf), .val (.long q27), .second, .val (.long q29), .second, .val (.long (F27 dd ll bb q4 q5)), .second, .val (.long ((1 : Int64) <<< (ll &&& 0x3f).toInt64)), .second, .unset, .unset] [])
            refine OFin.st (fun t k => XS.lload X40.here hx rfl (hb hby at_324) rfl k) ?_
            show OFin p e below _ _ T40 (mkF m 326 #[.val (.int p0), .val (.int p1), .val (.int p2), .val (.long q3), .second, .val (.long q4), .second, .val (.long q5), .second, .val (.int wi), .val (.int bb), .val (.int cc), .val (.int ll), .val (.int mm), .val (.int dd), .val (.ref b2), .val (.ref b9), .val (.ref b11), .val (.long (F25 b9 cc ll oa10 wa10 va10 ko10 kw10 kv10 (offs bb wi) (wds bb (wfin bb cc ll q4 q3)) (vls bb cc ll (wi.toInt.toNat) q5 q3) (oX bb wi cc) (cc.toInt.toNat) (oN bb cc (wi.toInt.toNat) + ll.toInt.toNat) (wX bb (wfin bb cc ll q4 q3) cc) q3)), .second, .val (.long (F25 b9 cc mm oa10 wa10 va10 ko10 kw10 kv10 (offs bb wi) (wds bb (wfin bb cc ll q4 q3)) (vls bb cc ll (wi.toInt.toNat) q5 q3) (oX bb wi cc) (cc.toInt.toNat) (oN bb cc (wi.toInt.toNat) + mm.toInt.toNat) (wX bb (wfin bb cc ll q4 q3) cc) (if mm = ll then q3 else xc q5 cc))), .second, .val (.long (F25 b9 dd ll oa10 wa10 va10 ko10 kw10 kv10 (offs bb wi) (wds bb (wfin bb cc ll q4 q3)) (vls bb cc ll (wi.toInt.toNat) q5 q3) (oX bb wi dd) (dd.toInt.toNat) (oN bb dd (wi.toInt.toNat) + ll.toInt.toNat) (wX bb (wfin bb cc ll q4 q3) dd) (xc q5 dd))), .second, .val (.long (F26 b9 bb wa10 kw10 (wds bb (wfin bb cc ll q4 q3)) (bb.toInt.toNat) (wfin bb cc ll q4 q3))), .second, .val (.int qf), .val (.long q27), .second, .val (.long q29), .second, .val (.long (F27 dd ll bb q4 q5)), .second, .val (.long ((1 : Int64) <<< (ll &&& 0x3f).toInt64)), .second, .unset, .unset] [(.long q4)])
            exact join41 q4 (by rw [if_neg hcb]) _ _ X40 e40 N40
        by_cases hc249 : mm = ll
        · refine OFin.st (fun t k => XS.icmpNo X38.here hx rfl (hb hby at_249) rfl (teq hc249).2 k) ?_
          show OFin p e below _ _ T38 (mkF m 252 #[.val (.int p0), .val (.int p1), .val (.int p2), .val (.long q3), .second, .val (.long q4), .second, .val (.long q5), .second, .val (.int wi), .val (.int bb), .val (.int cc), .val (.int ll), .val (.int mm), .val (.int dd), .val (.ref b2), .val (.ref b9), .val (.ref b11), .val (.long (F25 b9 cc ll oa10 wa10 va10 ko10 kw10 kv10 (offs bb wi) (wds bb (wfin bb cc ll q4 q3)) (vls bb cc ll (wi.toInt.toNat) q5 q3) (oX bb wi cc) (cc.toInt.toNat) (oN bb cc (wi.toInt.toNat) + ll.toInt.toNat) (wX bb (wfin bb cc ll q4 q3) cc) q3)), .second, .val (.long (F25 b9 cc mm oa10 wa10 va10 ko10 kw10 kv10 (offs bb wi) (wds bb (wfin bb cc ll q4 q3)) (vls bb cc ll (wi.toInt.toNat) q5 q3) (oX bb wi cc) (cc.toInt.toNat) (oN bb cc (wi.toInt.toNat) + mm.toInt.toNat) (wX bb (wfin bb cc ll q4 q3) cc) (if mm = ll then q3 else xc q5 cc))), .second, .val (.long (F25 b9 dd ll oa10 wa10 va10 ko10 kw10 kv10 (offs bb wi) (wds bb (wfin bb cc ll q4 q3)) (vls bb cc ll (wi.toInt.toNat) q5 q3) (oX bb wi dd) (dd.toInt.toNat) (oN bb dd (wi.toInt.toNat) + ll.toInt.toNat) (wX bb (wfin bb cc ll q4 q3) dd) (xc q5 dd))), .second, .val (.long (F26 b9 bb wa10 kw10 (wds bb (wfin bb cc ll q4 q3)) (bb.toInt.toNat) (wfin bb cc ll q4 q3))), .second, .val (.int qf), .val (.long q27), .second, .unset, .unset, .unset, .unset, .unset, .unset, .unset, .unset] [])
          refine OFin.st (fun t k => XS.lload X38.here hx rfl (hb hby at_252) rfl k) ?_
          refine OFin.st (fun t k => XS.goto X38.here hx rfl (pc0 := 254) (pc' := 270) rfl (hb hby at_254) (by decide) (by decide) k) ?_
          exact join39 q27 (by rw [if_pos hc249]) _ _ X38 e38 N38
        · refine OFin.st (fun t k => XS.icmpYes X38.here hx rfl (pc0 := 249) (pc' := 257) rfl (hb hby at_249) rfl (feq hc249).2 (by decide) (by decide) k) ?_
          show OFin p e below _ _ T38 (mkF m 257 #[.val (.int p0), .val (.int p1), .val (.int p2), .val (.long q3), .second, .val (.long q4), .second, .val (.long q5), .second, .val (.int wi), .val (.int bb), .val (.int cc), .val (.int ll), .val (.int mm), .val (.int dd), .val (.ref b2), .val (.ref b9), .val (.ref b11), .val (.long (F25 b9 cc ll oa10 wa10 va10 ko10 kw10 kv10 (offs bb wi) (wds bb (wfin bb cc ll q4 q3)) (vls bb cc ll (wi.toInt.toNat) q5 q3) (oX bb wi cc) (cc.toInt.toNat) (oN bb cc (wi.toInt.toNat) + ll.toInt.toNat) (wX bb (wfin bb cc ll q4 q3) cc) q3)), .second, .val (.long (F25 b9 cc mm oa10 wa10 va10 ko10 kw10 kv10 (offs bb wi) (wds bb (wfin bb cc ll q4 q3)) (vls bb cc ll (wi.toInt.toNat) q5 q3) (oX bb wi cc) (cc.toInt.toNat) (oN bb cc (wi.toInt.toNat) + mm.toInt.toNat) (wX bb (wfin bb cc ll q4 q3) cc) (if mm = ll then q3 else xc q5 cc))), .second, .val (.long (F25 b9 dd ll oa10 wa10 va10 ko10 kw10 kv10 (offs bb wi) (wds bb (wfin bb cc ll q4 q3)) (vls bb cc ll (wi.toInt.toNat) q5 q3) (oX bb wi dd) (dd.toInt.toNat) (oN bb dd (wi.toInt.toNat) + ll.toInt.toNat) (wX bb (wfin bb cc ll q4 q3) dd) (xc q5 dd))), .second, .val (.long (F26 b9 bb wa10 kw10 (wds bb (wfin bb cc ll q4 q3)) (bb.toInt.toNat) (wfin bb cc ll q4 q3))), .second, .val (.int qf), .val (.long q27), .second, .unset, .unset, .unset, .unset, .unset, .unset, .unset, .unset] [])
          refine OFin.st (fun t k => XS.iload X38.here hx rfl (hb hby at_257) rfl k) ?_
          refine OFin.st (fun t k => XS.iload X38.here hx rfl (hb hby at_259) rfl k) ?_
          show OFin p e below _ _ T38 (mkF m 261 #[.val (.int p0), .val (.int p1), .val (.int p2), .val (.long q3), .second, .val (.long q4), .second, .val (.long q5), .second, .val (.int wi), .val (.int bb), .val (.int cc), .val (.int ll), .val (.int mm), .val (.int dd), .val (.ref b2), .val (.ref b9), .val (.ref b11), .val (.long (F25 b9 cc ll oa10 wa10 va10 ko10 kw10 kv10 (offs bb wi) (wds bb (wfin bb cc ll q4 q3)) (vls bb cc ll (wi.toInt.toNat) q5 q3) (oX bb wi cc) (cc.toInt.toNat) (oN bb cc (wi.toInt.toNat) + ll.toInt.toNat) (wX bb (wfin bb cc ll q4 q3) cc) q3)), .second, .val (.long (F25 b9 cc mm oa10 wa10 va10 ko10 kw10 kv10 (offs bb wi) (wds bb (wfin bb cc ll q4 q3)) (vls bb cc ll (wi.toInt.toNat) q5 q3) (oX bb wi cc) (cc.toInt.toNat) (oN bb cc (wi.toInt.toNat) + mm.toInt.toNat) (wX bb (wfin bb cc ll q4 q3) cc) (if mm = ll then q3 else xc q5 cc))), .second, .val (.long (F25 b9 dd ll oa10 wa10 va10 ko10 kw10 kv10 (offs bb wi) (wds bb (wfin bb cc ll q4 q3)) (vls bb cc ll (wi.toInt.toNat) q5 q3) (oX bb wi dd) (dd.toInt.toNat) (oN bb dd (wi.toInt.toNat) + ll.toInt.toNat) (wX bb (wfin bb cc ll q4 q3) dd) (xc q5 dd))), .second, .val (.long (F26 b9 bb wa10 kw10 (wds bb (wfin bb cc ll q4 q3)) (bb.toInt.toNat) (wfin bb cc ll q4 q3))), .second, .val (.int qf), .val (.long q27), .second, .unset, .unset, .unset, .unset, .unset, .unset, .unset, .unset] [(.int mm), (.int cc)])
          refine OFin.st (fun t k => XS.iload X38.here hx rfl (hb hby at_261) rfl k) ?_
          refine OFin.st (fun t k => XS.lload X38.here hx rfl (hb hby at_263) rfl k) ?_
          refine OFin.st (fun t k => XS.lload X38.here hx rfl (hb hby at_265) rfl k) ?_
          obtain ⟨_, _, ⟨T42, L42, k42, n42⟩, -, X42, ⟨Lc42, hQ42, l42, y42, z42⟩, st42⟩ := Jvm.LawKit.callS X38 hx (y := (⟨"com/example/verdikt/verdikt/model/LanesSetCellPinLaw", "before", "(IIIJJ)J"⟩ : MethodName)) hown (mvT hZ (hw _ (List.mem_of_getElem? (i := 213) rfl))) (mvT hZ (hw _ (List.mem_of_getElem? (i := 214) rfl))) (mvT hZ (hw _ (List.mem_of_getElem? (i := 215) rfl))) (mvT hZ (hw _ (List.mem_of_getElem? (i := 216) rfl))) (by decide) (backOf (W := 0) (rm27 l Z a0 hw [] cc mm bb q4 q5 T26.heap n0 O26 ) hZ (hw _ (List.mem_of_getElem? (i := 216) rfl)) (hw _ (List.mem_of_getElem? (i := 215) rfl)) (by decide) (by decide)) (g := (mkF m 267 #[.val (.int p0), .val (.int p1), .val (.int p2), .val (.long q3), .second, .val (.long q4), .second, .val (.long q5), .second, .val (.int wi), .val (.int bb), .val (.int cc), .val (.int ll), .val (.int mm), .val (.int dd), .val (.ref b2), .val (.ref b9), .val (.ref b11), .val (.long (F25 b9 cc ll oa10 wa10 va10 ko10 kw10 kv10 (offs bb wi) (wds bb (wfin bb cc ll q4 q3)) (vls bb cc ll (wi.toInt.toNat) q5 q3) (oX bb wi cc) (cc.toInt.toNat) (oN bb cc (wi.toInt.toNat) + ll.toInt.toNat) (wX bb (wfin bb cc ll q4 q3) cc) q3)), .second, .val (.long (F25 b9 cc mm oa10 wa10 va10 ko10 kw10 kv10 (offs bb wi) (wds bb (wfin bb cc ll q4 q3)) (vls bb cc ll (wi.toInt.toNat) q5 q3) (oX bb wi cc) (cc.toInt.toNat) (oN bb cc (wi.toInt.toNat) + mm.toInt.toNat) (wX bb (wfin bb cc ll q4 q3) cc) (if mm = ll then q3 else xc q5 cc))), .second, .val (.long (F25 b9 dd ll oa10 wa10 va10 ko10 kw10 kv10 (offs bb wi) (wds bb (wfin bb cc ll q4 q3)) (vls bb cc ll (wi.toInt.toNat) q5 q3) (oX bb wi dd) (dd.toInt.toNat) (oN bb dd (wi.toInt.toNat) + ll.toInt.toNat) (wX bb (wfin bb cc ll q4 q3) dd) (xc q5 dd))), .second, .val (.long (F26 b9 bb wa10 kw10 (wds bb (wfin bb cc ll q4 q3)) (bb.toInt.toNat) (wfin bb cc ll q4 q3))), .second, .val (.int qf), .val (.long q27), .second, .unset, .unset, .unset, .unset, .unset, .unset, .unset, .unset] [(.long q5), (.long q4), (.int bb), (.int mm), (.int cc)])) rfl (by rw [hml]; rfl) (argsL := [(.int cc), (.int mm), (.int bb), (.long q4), (.long q5)]) (rest := []) (lenOf pd_12 rfl) rfl (by show 2 * 0 + _ ≤ _; exact Nat.le_of_eq rfl) (hb hby at_267) (fun _ _ => ⟨rfl, e38, (by decide : 12 + 0 ≤ _), (by decide : 174 + 0 ≤ _)⟩)
          dsimp only [Pt.U, Pt.locs, Pt.cells, Pt.slots] at X42 l42 y42 z42 st42 hQ42
          subst l42 y42 z42
          have X42 : Stand p l e room_1 (s.setVm T5.vm) m #[(.int p0), (.int p1), (.int p2), (.long q3), (.long q4), (.long q5)] below meth c T42 _ 12 174 := X42
          obtain ⟨rfl, N42q, e42⟩ := hQ42
          have N42 := Fr.app N38 N42q
          refine OFin.st st42 ?_
          show OFin p e below _ _ T42 (mkF m 270 #[.val (.int p0), .val (.int p1), .val (.int p2), .val (.long q3), .second, .val (.long q4), .second, .val (.long q5), .second, .val (.int wi), .val (.int bb), .val (.int cc), .val (.int ll), .val (.int mm), .val (.int dd), .val (.ref b2), .val (.ref b9), .val (.ref b11), .val (.long (F25 b9 cc ll oa10 wa10 va10 ko10 kw10 kv10 (offs bb wi) (wds bb (wfin bb cc ll q4 q3)) (vls bb cc ll (wi.toInt.toNat) q5 q3) (oX bb wi cc) (cc.toInt.toNat) (oN bb cc (wi.toInt.toNat) + ll.toInt.toNat) (wX bb (wfin bb cc ll q4 q3) cc) q3)), .second, .val (.long (F25 b9 cc mm oa10 wa10 va10 ko10 kw10 kv10 (offs bb wi) (wds bb (wfin bb cc ll q4 q3)) (vls bb cc ll (wi.toInt.toNat) q5 q3) (oX bb wi cc) (cc.toInt.toNat) (oN bb cc (wi.toInt.toNat) + mm.toInt.toNat) (wX bb (wfin bb cc ll q4 q3) cc) (if mm = ll then q3 else xc q5 cc))), .second, .val (.long (F25 b9 dd ll oa10 wa10 va10 ko10 kw10 kv10 (offs bb wi) (wds bb (wfin bb cc ll q4 q3)) (vls bb cc ll (wi.toInt.toNat) q5 q3) (oX bb wi dd) (dd.toInt.toNat) (oN bb dd (wi.toInt.toNat) + ll.toInt.toNat) (wX bb (wfin bb cc ll q4 q3) dd) (xc q5 dd))), .second, .val (.long (F26 b9 bb wa10 kw10 (wds bb (wfin bb cc ll q4 q3)) (bb.toInt.toNat) (wfin bb cc ll q4 q3))), .second, .val (.int qf), .val (.long q27), .second, .unset, .unset, .unset, .unset, .unset, .unset, .unset, .unset] [(.long (F27 cc mm bb q4 q5))])
          exact join39 (F27 cc mm bb q4 q5) (by rw [if_neg hc249]) _ _ X42 e42 N42
      by_cases hcb : cc = bb
      · refine OFin.st (fun t k => XS.ifNo X37.here hx rfl (hb hby at_225) rfl ((if0 _ _).trans (feq (by rw [hqf, if_pos hcb]; decide)).1) k) ?_
        show OFin p e below _ _ T37 (mkF m 228 #[.val (.int p0), .val (.int p1), .val (.int p2), .val (.long q3), .second, .val (.long q4), .second, .val (.long q5), .second, .val (.int wi), .val (.int bb), .val (.int cc), .val (.int ll), .val (.int mm), .val (.int dd), .val (.ref b2), .val (.ref b9), .val (.ref b11), .val (.long (F25 b9 cc ll oa10 wa10 va10 ko10 kw10 kv10 (offs bb wi) (wds bb (wfin bb cc ll q4 q3)) (vls bb cc ll (wi.toInt.toNat) q5 q3) (oX bb wi cc) (cc.toInt.toNat) (oN bb cc (wi.toInt.toNat) + ll.toInt.toNat) (wX bb (wfin bb cc ll q4 q3) cc) q3)), .second, .val (.long (F25 b9 cc mm oa10 wa10 va10 ko10 kw10 kv10 (offs bb wi) (wds bb (wfin bb cc ll q4 q3)) (vls bb cc ll (wi.toInt.toNat) q5 q3) (oX bb wi cc) (cc.toInt.toNat) (oN bb cc (wi.toInt.toNat) + mm.toInt.toNat) (wX bb (wfin bb cc ll q4 q3) cc) (if mm = ll then q3 else xc q5 cc))), .second, .val (.long (F25 b9 dd ll oa10 wa10 va10 ko10 kw10 kv10 (offs bb wi) (wds bb (wfin bb cc ll q4 q3)) (vls bb cc ll (wi.toInt.toNat) q5 q3) (oX bb wi dd) (dd.toInt.toNat) (oN bb dd (wi.toInt.toNat) + ll.toInt.toNat) (wX bb (wfin bb cc ll q4 q3) dd) (xc q5 dd))), .second, .val (.long (F26 b9 bb wa10 kw10 (wds bb (wfin bb cc ll q4 q3)) (bb.toInt.toNat) (wfin bb cc ll q4 q3))), .second, .val (.int qf), .unset, .unset, .unset, .unset, .unset, .unset, .unset, .unset, .unset, .unset] [])
        refine OFin.st (fun t k => XS.lloadN X37.here hx rfl (hb hby at_228) rfl k) ?_
        refine OFin.st (fun t k => XS.lconst X37.here hx rfl (hb hby at_229) k) ?_
        refine OFin.st (fun t k => XS.lcmp X37.here hx rfl (hb hby at_230) rfl k) ?_
        by_cases hc231 : q3 = (0 : Int64)
        · refine OFin.st (fun t k => XS.ifYes X37.here hx rfl (pc0 := 231) (pc' := 238) rfl (hb hby at_231) rfl ((if0 _ _).trans (teq ((lw_eq q3 (0 : Int64)).mpr hc231)).1) (by decide) (by decide) k) ?_
          show OFin p e below _ _ T37 (mkF m 238 #[.val (.int p0), .val (.int p1), .val (.int p2), .val (.long q3), .second, .val (.long q4), .second, .val (.long q5), .second, .val (.int wi), .val (.int bb), .val (.int cc), .val (.int ll), .val (.int mm), .val (.int dd), .val (.ref b2), .val (.ref b9), .val (.ref b11), .val (.long (F25 b9 cc ll oa10 wa10 va10 ko10 kw10 kv10 (offs bb wi) (wds bb (wfin bb cc ll q4 q3)) (vls bb cc ll (wi.toInt.toNat) q5 q3) (oX bb wi cc) (cc.toInt.toNat) (oN bb cc (wi.toInt.toNat) + ll.toInt.toNat) (wX bb (wfin bb cc ll q4 q3) cc) q3)), .second, .val (.long (F25 b9 cc mm oa10 wa10 va10 ko10 kw10 kv10 (offs bb wi) (wds bb (wfin bb cc ll q4 q3)) (vls bb cc ll (wi.toInt.toNat) q5 q3) (oX bb wi cc) (cc.toInt.toNat) (oN bb cc (wi.toInt.toNat) + mm.toInt.toNat) (wX bb (wfin bb cc ll q4 q3) cc) (if mm = ll then q3 else xc q5 cc))), .second, .val (.long (F25 b9 dd ll oa10 wa10 va10 ko10 kw10 kv10 (offs bb wi) (wds bb (wfin bb cc ll q4 q3)) (vls bb cc ll (wi.toInt.toNat) q5 q3) (oX bb wi dd) (dd.toInt.toNat) (oN bb dd (wi.toInt.toNat) + ll.toInt.toNat) (wX bb (wfin bb cc ll q4 q3) dd) (xc q5 dd))), .second, .val (.long (F26 b9 bb wa10 kw10 (wds bb (wfin bb cc ll q4 q3)) (bb.toInt.toNat) (wfin bb cc ll q4 q3))), .second, .val (.int qf), .unset, .unset, .unset, .unset, .unset, .unset, .unset, .unset, .unset, .unset] [])
          refine OFin.st (fun t k => XS.lconst X37.here hx rfl (hb hby at_238) k) ?_
          show OFin p e below _ _ T37 (mkF m 239 #[.val (.int p0), .val (.int p1), .val (.int p2), .val (.long q3), .second, .val (.long q4), .second, .val (.long q5), .second, .val (.int wi), .val (.int bb), .val (.int cc), .val (.int ll), .val (.int mm), .val (.int dd), .val (.ref b2), .val (.ref b9), .val (.ref b11), .val (.long (F25 b9 cc ll oa10 wa10 va10 ko10 kw10 kv10 (offs bb wi) (wds bb (wfin bb cc ll q4 q3)) (vls bb cc ll (wi.toInt.toNat) q5 q3) (oX bb wi cc) (cc.toInt.toNat) (oN bb cc (wi.toInt.toNat) + ll.toInt.toNat) (wX bb (wfin bb cc ll q4 q3) cc) q3)), .second, .val (.long (F25 b9 cc mm oa10 wa10 va10 ko10 kw10 kv10 (offs bb wi) (wds bb (wfin bb cc ll q4 q3)) (vls bb cc ll (wi.toInt.toNat) q5 q3) (oX bb wi cc) (cc.toInt.toNat) (oN bb cc (wi.toInt.toNat) + mm.toInt.toNat) (wX bb (wfin bb cc ll q4 q3) cc) (if mm = ll then q3 else xc q5 cc))), .second, .val (.long (F25 b9 dd ll oa10 wa10 va10 ko10 kw10 kv10 (offs bb wi) (wds bb (wfin bb cc ll q4 q3)) (vls bb cc ll (wi.toInt.toNat) q5 q3) (oX bb wi dd) (dd.toInt.toNat) (oN bb dd (wi.toInt.toNat) + ll.toInt.toNat) (wX bb (wfin bb cc ll q4 q3) dd) (xc q5 dd))), .second, .val (.long (F26 b9 bb wa10 kw10 (wds bb (wfin bb cc ll q4 q3)) (bb.toInt.toNat) (wfin bb cc ll q4 q3))), .second, .val (.int qf), .unset, .unset, .unset, .unset, .unset, .unset, .unset, .unset, .unset, .unset] [(.long (0 : Int64))])
          refine OFin.st (fun t k => XS.goto X37.here hx rfl (pc0 := 239) (pc' := 243) rfl (hb hby at_239) (by decide) (by decide) k) ?_
          exact join38 (0 : Int64) (by rw [if_pos hcb, if_pos hc231]) _ _ X37 e37 N37
        · refine OFin.st (fun t k => XS.ifNo X37.here hx rfl (hb hby at_231) rfl ((if0 _ _).trans (feq (fun q => hc231 ((lw_eq q3 (0 : Int64)).mp q))).1) k) ?_
          show OFin p e below _ _ T37 (mkF m 234 #[.val (.int p0), .val (.int p1), .val (.int p2), .val (.long q3), .second, .val (.long q4), .second, .val (.long q5), .second, .val (.int wi), .val (.int bb), .val (.int cc), .val (.int ll), .val (.int mm), .val (.int dd), .val (.ref b2), .val (.ref b9), .val (.ref b11), .val (.long (F25 b9 cc ll oa10 wa10 va10 ko10 kw10 kv10 (offs bb wi) (wds bb (wfin bb cc ll q4 q3)) (vls bb cc ll (wi.toInt.toNat) q5 q3) (oX bb wi cc) (cc.toInt.toNat) (oN bb cc (wi.toInt.toNat) + ll.toInt.toNat) (wX bb (wfin bb cc ll q4 q3) cc) q3)), .second, .val (.long (F25 b9 cc mm oa10 wa10 va10 ko10 kw10 kv10 (offs bb wi) (wds bb (wfin bb cc ll q4 q3)) (vls bb cc ll (wi.toInt.toNat) q5 q3) (oX bb wi cc) (cc.toInt.toNat) (oN bb cc (wi.toInt.toNat) + mm.toInt.toNat) (wX bb (wfin bb cc ll q4 q3) cc) (if mm = ll then q3 else xc q5 cc))), .second, .val (.long (F25 b9 dd ll oa10 wa10 va10 ko10 kw10 kv10 (offs bb wi) (wds bb (wfin bb cc ll q4 q3)) (vls bb cc ll (wi.toInt.toNat) q5 q3) (oX bb wi dd) (dd.toInt.toNat) (oN bb dd (wi.toInt.toNat) + ll.toInt.toNat) (wX bb (wfin bb cc ll q4 q3) dd) (xc q5 dd))), .second, .val (.long (F26 b9 bb wa10 kw10 (wds bb (wfin bb cc ll q4 q3)) (bb.toInt.toNat) (wfin bb cc ll q4 q3))), .second, .val (.int qf), .unset, .unset, .unset, .unset, .unset, .unset, .unset, .unset, .unset, .unset] [])
          refine OFin.st (fun t k => XS.lconst X37.here hx rfl (hb hby at_234) k) ?_
          refine OFin.st (fun t k => XS.goto X37.here hx rfl (pc0 := 235) (pc' := 243) rfl (hb hby at_235) (by decide) (by decide) k) ?_
          exact join38 (1 : Int64) (by rw [if_pos hcb, if_neg hc231]) _ _ X37 e37 N37
      · refine OFin.st (fun t k => XS.ifYes X37.here hx rfl (pc0 := 225) (pc' := 242) rfl (hb hby at_225) rfl ((if0 _ _).trans (teq (by rw [hqf, if_neg hcb])).1) (by decide) (by decide) k) ?_
        show OFin p e below _ _ T37 (mkF m 242 #[.val (.int p0), .val (.int p1), .val (.int p2), .val (.long q3), .second, .val (.long q4), .second, .val (.long q5), .second, .val (.int wi), .val (.int bb), .val (.int cc), .val (.int ll), .val (.int mm), .val (.int dd), .val (.ref b2), .val (.ref b9), .val (.ref b11), .val (.long (F25 b9 cc ll oa10 wa10 va10 ko10 kw10 kv10 (offs bb wi) (wds bb (wfin bb cc ll q4 q3)) (vls bb cc ll (wi.toInt.toNat) q5 q3) (oX bb wi cc) (cc.toInt.toNat) (oN bb cc (wi.toInt.toNat) + ll.toInt.toNat) (wX bb (wfin bb cc ll q4 q3) cc) q3)), .second, .val (.long (F25 b9 cc mm oa10 wa10 va10 ko10 kw10 kv10 (offs bb wi) (wds bb (wfin bb cc ll q4 q3)) (vls bb cc ll (wi.toInt.toNat) q5 q3) (oX bb wi cc) (cc.toInt.toNat) (oN bb cc (wi.toInt.toNat) + mm.toInt.toNat) (wX bb (wfin bb cc ll q4 q3) cc) (if mm = ll then q3 else xc q5 cc))), .second, .val (.long (F25 b9 dd ll oa10 wa10 va10 ko10 kw10 kv10 (offs bb wi) (wds bb (wfin bb cc ll q4 q3)) (vls bb cc ll (wi.toInt.toNat) q5 q3) (oX bb wi dd) (dd.toInt.toNat) (oN bb dd (wi.toInt.toNat) + ll.toInt.toNat) (wX bb (wfin bb cc ll q4 q3) dd) (xc q5 dd))), .second, .val (.long (F26 b9 bb wa10 kw10 (wds bb (wfin bb cc ll q4 q3)) (bb.toInt.toNat) (wfin bb cc ll q4 q3))), .second, .val (.int qf), .unset, .unset, .unset, .unset, .unset, .unset, .unset, .unset, .unset, .unset] [])
        refine OFin.st (fun t k => XS.lloadN X37.here hx rfl (hb hby at_242) rfl k) ?_
        show OFin p e below _ _ T37 (mkF m 243 #[.val (.int p0), .val (.int p1), .val (.int p2), .val (.long q3), .second, .val (.long q4), .second, .val (.long q5), .second, .val (.int wi), .val (.int bb), .val (.int cc), .val (.int ll), .val (.int mm), .val (.int dd), .val (.ref b2), .val (.ref b9), .val (.ref b11), .val (.long (F25 b9 cc ll oa10 wa10 va10 ko10 kw10 kv10 (offs bb wi) (wds bb (wfin bb cc ll q4 q3)) (vls bb cc ll (wi.toInt.toNat) q5 q3) (oX bb wi cc) (cc.toInt.toNat) (oN bb cc (wi.toInt.toNat) + ll.toInt.toNat) (wX bb (wfin bb cc ll q4 q3) cc) q3)), .second, .val (.long (F25 b9 cc mm oa10 wa10 va10 ko10 kw10 kv10 (offs bb wi) (wds bb (wfin bb cc ll q4 q3)) (vls bb cc ll (wi.toInt.toNat) q5 q3) (oX bb wi cc) (cc.toInt.toNat) (oN bb cc (wi.toInt.toNat) + mm.toInt.toNat) (wX bb (wfin bb cc ll q4 q3) cc) (if mm = ll then q3 else xc q5 cc))), .second, .val (.long (F25 b9 dd ll oa10 wa10 va10 ko10 kw10 kv10 (offs bb wi) (wds bb (wfin bb cc ll q4 q3)) (vls bb cc ll (wi.toInt.toNat) q5 q3) (oX bb wi dd) (dd.toInt.toNat) (oN bb dd (wi.toInt.toNat) + ll.toInt.toNat) (wX bb (wfin bb cc ll q4 q3) dd) (xc q5 dd))), .second, .val (.long (F26 b9 bb wa10 kw10 (wds bb (wfin bb cc ll q4 q3)) (bb.toInt.toNat) (wfin bb cc ll q4 q3))), .second, .val (.int qf), .unset, .unset, .unset, .unset, .unset, .unset, .unset, .unset, .unset, .unset] [(.long q3)])
        exact join38 q3 (by rw [if_neg hcb]) _ _ X37 e37 N37
    by_cases hc213 : cc = bb
    · refine OFin.st (fun t k => XS.icmpNo X36.here hx rfl (hb hby at_213) rfl (teq hc213).2 k) ?_
      show OFin p e below _ _ T36 (mkF m 216 #[.val (.int p0), .val (.int p1), .val (.int p2), .val (.long q3), .second, .val (.long q4), .second, .val (.long q5), .second, .val (.int wi), .val (.int bb), .val (.int cc), .val (.int ll), .val (.int mm), .val (.int dd), .val (.ref b2), .val (.ref b9), .val (.ref b11), .val (.long (F25 b9 cc ll oa10 wa10 va10 ko10 kw10 kv10 (offs bb wi) (wds bb (wfin bb cc ll q4 q3)) (vls bb cc ll (wi.toInt.toNat) q5 q3) (oX bb wi cc) (cc.toInt.toNat) (oN bb cc (wi.toInt.toNat) + ll.toInt.toNat) (wX bb (wfin bb cc ll q4 q3) cc) q3)), .second, .val (.long (F25 b9 cc mm oa10 wa10 va10 ko10 kw10 kv10 (offs bb wi) (wds bb (wfin bb cc ll q4 q3)) (vls bb cc ll (wi.toInt.toNat) q5 q3) (oX bb wi cc) (cc.toInt.toNat) (oN bb cc (wi.toInt.toNat) + mm.toInt.toNat) (wX bb (wfin bb cc ll q4 q3) cc) (if mm = ll then q3 else xc q5 cc))), .second, .val (.long (F25 b9 dd ll oa10 wa10 va10 ko10 kw10 kv10 (offs bb wi) (wds bb (wfin bb cc ll q4 q3)) (vls bb cc ll (wi.toInt.toNat) q5 q3) (oX bb wi dd) (dd.toInt.toNat) (oN bb dd (wi.toInt.toNat) + ll.toInt.toNat) (wX bb (wfin bb cc ll q4 q3) dd) (xc q5 dd))), .second, .val (.long (F26 b9 bb wa10 kw10 (wds bb (wfin bb cc ll q4 q3)) (bb.toInt.toNat) (wfin bb cc ll q4 q3))), .second, .unset, .unset, .unset, .unset, .unset, .unset, .unset, .unset, .unset, .unset, .unset] [])
      refine OFin.st (fun t k => XS.iconst X36.here hx rfl (hb hby at_216) k) ?_
      refine OFin.st (fun t k => XS.goto X36.here hx rfl (pc0 := 217) (pc' := 221) rfl (hb hby at_217) (by decide) (by decide) k) ?_
      exact join37 (1 : Int32) (by rw [if_pos hc213]) _ _ X36 e36 N36
    · refine OFin.st (fun t k => XS.icmpYes X36.here hx rfl (pc0 := 213) (pc' := 220) rfl (hb hby at_213) rfl (feq hc213).2 (by decide) (by decide) k) ?_
      show OFin p e below _ _ T36 (mkF m 220 #[.val (.int p0), .val (.int p1), .val (.int p2), .val (.long q3), .second, .val (.long q4), .second, .val (.long q5), .second, .val (.int wi), .val (.int bb), .val (.int cc), .val (.int ll), .val (.int mm), .val (.int dd), .val (.ref b2), .val (.ref b9), .val (.ref b11), .val (.long (F25 b9 cc ll oa10 wa10 va10 ko10 kw10 kv10 (offs bb wi) (wds bb (wfin bb cc ll q4 q3)) (vls bb cc ll (wi.toInt.toNat) q5 q3) (oX bb wi cc) (cc.toInt.toNat) (oN bb cc (wi.toInt.toNat) + ll.toInt.toNat) (wX bb (wfin bb cc ll q4 q3) cc) q3)), .second, .val (.long (F25 b9 cc mm oa10 wa10 va10 ko10 kw10 kv10 (offs bb wi) (wds bb (wfin bb cc ll q4 q3)) (vls bb cc ll (wi.toInt.toNat) q5 q3) (oX bb wi cc) (cc.toInt.toNat) (oN bb cc (wi.toInt.toNat) + mm.toInt.toNat) (wX bb (wfin bb cc ll q4 q3) cc) (if mm = ll then q3 else xc q5 cc))), .second, .val (.long (F25 b9 dd ll oa10 wa10 va10 ko10 kw10 kv10 (offs bb wi) (wds bb (wfin bb cc ll q4 q3)) (vls bb cc ll (wi.toInt.toNat) q5 q3) (oX bb wi dd) (dd.toInt.toNat) (oN bb dd (wi.toInt.toNat) + ll.toInt.toNat) (wX bb (wfin bb cc ll q4 q3) dd) (xc q5 dd))), .second, .val (.long (F26 b9 bb wa10 kw10 (wds bb (wfin bb cc ll q4 q3)) (bb.toInt.toNat) (wfin bb cc ll q4 q3))), .second, .unset, .unset, .unset, .unset, .unset, .unset, .unset, .unset, .unset, .unset, .unset] [])
      refine OFin.st (fun t k => XS.iconst X36.here hx rfl (hb hby at_220) k) ?_
      exact join37 (0 : Int32) (by rw [if_neg hc213]) _ _ X36 e36 N36
  exact cut1 (((1 : Int32) + (p0 &&& (63 : Int32)))) (((((p0.toUInt32 >>> ((6 : Int32) &&& 31).toUInt32).toInt32) &&& (65535 : Int32)) % (3 : Int32))) (((((p0.toUInt32 >>> ((22 : Int32) &&& 31).toUInt32).toInt32) &&& (255 : Int32)) % (3 : Int32))) (((p1 &&& (2147483647 : Int32)) % ((1 : Int32) + (p0 &&& (63 : Int32))))) (((p2 &&& (2147483647 : Int32)) % ((1 : Int32) + (p0 &&& (63 : Int32))))) ((((((((p0.toUInt32 >>> ((22 : Int32) &&& 31).toUInt32).toInt32) &&& (255 : Int32)) % (3 : Int32)) + (1 : Int32)) + (((p2.toUInt32 >>> ((31 : Int32) &&& 31).toUInt32).toInt32) &&& (1 : Int32))) % (3 : Int32))) (own_w64 p0) (own_mod3 _ (c_and _ _ (by decide)).1) (own_mod3 _ (c_and _ _ (by decide)).1) (own_dd _ _ (own_mod3 _ (c_and _ _ (by decide)).1) (and_one _)).1 (own_dd _ _ (own_mod3 _ (c_and _ _ (by decide)).1) (and_one _)).2 (own_lane p1 _ _ (own_w64 p0)) (own_lane p2 _ _ (own_w64 p0))
set_option maxRecDepth 65536 in
set_option maxHeartbeats 40000000 in
theorem comes_1 {Post : Tables → Env → Array Value → State → Outcome → State → Prop} (hpost : ∀ tb e args s v u, (limb_1_1.after args s (.returned v) u = true ∧ limb_1_2.after args s (.returned v) u = true ∧ True) → ReturnedEndW s (.returned v) u (Jvm.fieldLocs frame_1_writes args s ++ Jvm.arrayLocs frame_1_arrays args s ++ Jvm.staticLocs frame_1_statics s) 32 1472 → Post tb e args s (.returned v) u) :
    ArmFor flags0 classFile x code maxLocals ret World_1 tables_1 room_1 Calls_1 rest_1 Pre_1 Post := by
  intro l hfl _ _ p e ha hc hk s m args below hf hA hF happ hP
  obtain ⟨hcalls, hrest, hpre⟩ := hP
  obtain ⟨-, -, -, hnamed, -, -, -, hat⟩ := (Spec.applies_iff hf).mp happ
  obtain ⟨hg, hn⟩ := and_e (Cond.before_iff.mp (show (Jvm.Cond.and given_1 narrow_1).before args s = true from hpre))
  obtain ⟨g1a, g1b⟩ := and_e hg
  obtain ⟨g2a, g2b⟩ := and_e g1b
  obtain ⟨g3a, g3b⟩ := and_e g2b
  obtain ⟨g4a, g4b⟩ := and_e g3b
  obtain ⟨g5a, g5b⟩ := and_e g4b
  obtain ⟨g6a, g6b⟩ := and_e g5b
  obtain ⟨w0, w1, w2, w3, w4, w5, rfl⟩ : ∃ w0 w1 w2 w3 w4 w5 : Value, args = #[w0, w1, w2, w3, w4, w5] := by
    have hs : args.size = 6 := by simpa [Cond.value, given_1] using g1a
    obtain ⟨L⟩ := args
    match L, hs with
    | [w0, w1, w2, w3, w4, w5], _ => exact ⟨w0, w1, w2, w3, w4, w5, rfl⟩
  have hw := fun d (hd : d ∈ tables_1) => atoms_spec (ws := Jvm.Cond.code x code maxLocals ret :: tables_1) hat d (List.mem_cons_of_mem _ hd)
  have hfit : Fit s := fun {y c} hc i hi => by
    obtain ⟨ha, rfl⟩ := Array.getElem?_eq_some_iff.mp hc
    have q := List.all_eq_true.mp ((Array.all_eq_true_iff_forall_mem.mp hF) _ (Array.getElem_mem ha)) i (List.mem_range.mpr hi)
    simpa [Array.getElem?_eq_getElem hi] using q
  obtain ⟨i0, ei0⟩ := is_v g2a
  obtain rfl : w0 = (.int i0) := Option.some.inj ei0
  obtain ⟨i1, ei1⟩ := is_v g3a
  obtain rfl : w1 = (.int i1) := Option.some.inj ei1
  obtain ⟨i2, ei2⟩ := is_v g4a
  obtain rfl : w2 = (.int i2) := Option.some.inj ei2
  obtain ⟨i3, ei3⟩ := isL_v g5a
  obtain rfl : w3 = (.long i3) := Option.some.inj ei3
  obtain ⟨i4, ei4⟩ := isL_v g6a
  obtain rfl : w4 = (.long i4) := Option.some.inj ei4
  obtain ⟨i5, ei5⟩ := isL_v g6b
  obtain rfl : w5 = (.long i5) := Option.some.inj ei5
  obtain ⟨w_BOOL, ev_BOOL⟩ := exa_v hn
  have E_w_BOOL := Exa.start ev_BOOL hn
  have S_BOOL := Sta.start ev_BOOL (Or.inr ⟨(hw _ (List.mem_of_getElem? (i := 40) rfl)), (hw _ (List.mem_of_getElem? (i := 41) rfl))⟩)
  obtain ⟨hsets, hown0⟩ := atoms_of _ (rest_1_c_eq ▸ (show rest_1_c.before _ s = true from hrest))
  have hset := fun k (c : Jvm.Cond) (h : jdkStatics_1[k]? = some c) => hsets c (List.mem_of_getElem? h)
  obtain ⟨w_DEFAULTCAPACITY_EMPTY_ELEMENTDATA, evD⟩ := exa_v (Cond.before_iff.mp (hset 7 _ rfl))
  have S_DEFAULTCAPACITY_EMPTY_ELEMENTDATA := Sta.start evD (Or.inr ⟨(hw _ (List.mem_of_getElem? (i := 4) rfl)), hset 2 _ rfl⟩)
  obtain ⟨kD, vD, AD, lD⟩ := own_arrN evD (Cond.before_iff.mp (hset 6 _ rfl)) (Cond.before_iff.mp (hset 8 _ rfl)) (k := 0) (by decide)
  obtain rfl := List.eq_nil_of_length_eq_zero lD
  have A_w_DEFAULTCAPACITY_EMPTY_ELEMENTDATA := AD
  obtain ⟨n, o, h1, h2, h3, _, L, rfl, ⟨rfl, N, -⟩, hq⟩ := rm0 l s _ hw tables_1 i0 i1 i2 i3 i4 i5 kD w_DEFAULTCAPACITY_EMPTY_ELEMENTDATA w_BOOL s.heap s.heap.size (Old.start s) A_w_DEFAULTCAPACITY_EMPTY_ELEMENTDATA S_DEFAULTCAPACITY_EMPTY_ELEMENTDATA S_BOOL p e ha hc hk s m _ below hf ((Spec.applies_iff_loose hf).mp happ).1 ⟨rfl, State.Warmed39.refl s, rfl⟩ trivial
  refine ⟨n, _, h1, h2, h3, hpost _ _ _ _ _ _ ⟨Cond.after_iff.mpr rfl, Cond.after_iff.mpr (eq_i res_at (Term.int_eval (1)) rfl), trivial⟩ ⟨hq.1, hq.2.1, hq.2.2.1, (hq.2.2.2.sift fun y hy => Or.inr (N y hy)).mono (by decide) (by decide)⟩⟩
theorem main_1_1 : Claimed_1_1 := comes_1 fun _ _ _ _ _ _ h hF => ⟨h.1, hF⟩
theorem main_1_2 : Claimed_1_2 := comes_1 fun _ _ _ _ _ _ h hF => ⟨h.2.1, hF⟩
end Jvm.Pilot.@@N@@
namespace Jvm.Pilot.@@N@@
open Jvm Jvm.ClassFile Sem Op Lib Jvm.Free Jvm.Stand Jvm.Pilot.@@N@@.Jvm.D
/-! MADE BY PROGRAM (witnessworld.py) out of the Statement's table words and the real class files: 34 classes; the members and pool entries that the words name. The judged class is class 1, her method 1. -/
namespace start1
open Jvm.ClassFile
def u (s : String) : CpInfo := .utf8 (stringToUtf16 s)
/-- a pool by its gaps: so many unusable entries, then the entry; so many at the end -/
def gap : Nat → List CpInfo → List CpInfo
  | 0, r => r
  | n + 1, r => .unusable :: gap n r
def poolList (es : List (Nat × CpInfo)) (last : Nat) : List CpInfo := es.foldr (fun e r => gap e.1 (e.2 :: r)) (gap last [])
def pool (es : List (Nat × CpInfo)) (last : Nat) : Array CpInfo := ⟨poolList es last⟩
def fileOf (pool : Array CpInfo) (this : Nat) (attrs : Array Attribute := #[]) (ms : Array MethodInfo := #[]) (fl : Nat := 33) (sup : Nat := 0) (ifs : Array Nat := #[]) (fds : Array FieldInfo := #[]) : ClassFile where
  minorVersion := 0
  majorVersion := 65
  constantPool := pool
  accessFlags := fl
  thisClass := this
  superClass := sup
  interfaces := ifs
  fields := fds
  methods := ms
  attributes := attrs
def plain (name : String) (sup : Option ClassId) : Class where
  name := name
  kind := .ordinary
  loader := none
  accessFlags := 33
  super := sup
  interfaces := #[]
  cf := none
  fields := #[]
  methods := #[]
  instanceTypes := #[]
  staticTypes := #[]
  resolved := #[]
  callSites := []
  init := .initialized
  statics := none
  mirror := none

def pool0 : Array CpInfo := pool [(5, u "<init>"), (0, u "()V"), (1, .class_ 10), (1, u "java/lang/Object")] 113

def k0c0 : Code := { maxStack := 0, maxLocals := 1, code := object_method_1_code, exceptionTable := #[], attributes := #[] }
def k0m0 : Method := { name := "<init>", desc := "()V", sig := { parameters := [], returnType := none }, accessFlags := 1, code := some k0c0 }
/-- java/lang/Object -/
def k0 : Class := { plain "java/lang/Object" none with
  accessFlags := 33
  interfaces := #[]
  cf := some (fileOf pool0 8 #[] #[{ accessFlags := 1, nameIndex := 5, descriptorIndex := 6, attributes := #[] }] 33 0 #[] #[])
  fields := #[]
  methods := #[k0m0]
  instanceTypes := #[]
  staticTypes := #[]
  resolved := Array.replicate 124 none
  statics := none }

def pool1 : Array CpInfo := pool [(2, .class_ 4), (0, .nameAndType 5 6), (0, u "java/lang/Object"), (0, u "<init>"), (0, u "()V"), (0, .integer 65535), (0, .integer 2147483647), (0, .class_ 10), (0, u "java/util/ArrayList"), (0, .methodref 9 3), (0, .class_ 13), (0, u "com/example/verdikt/verdikt/model/Variable"), (0, .string 15), (0, u "b"), (0, .fieldref 17 18), (0, .class_ 19), (0, .nameAndType 20 21), (0, u "com/example/verdikt/verdikt/model/ElementaryType"), (0, u "BOOL"), (0, u "Lcom/example/verdikt/verdikt/model/ElementaryType;"), (0, .methodref 12 23), (0, .nameAndType 5 24), (0, u "(Ljava/lang/String;Lcom/example/verdikt/verdikt/model/Variable$Section;Lcom/example/verdikt/verdikt/model/ElementaryType;JI)V"), (0, .methodref 9 26), (0, .nameAndType 27 28), (0, u "add"), (0, u "(Ljava/lang/Object;)Z"), (0, .class_ 30), (0, u "com/example/verdikt/verdikt/model/Lanes"), (0, .methodref 29 32), (0, .nameAndType 5 33), (0, u "(ILjava/util/List;I)V"), (0, .long 2), (1, .methodref 29 37), (0, .nameAndType 38 39), (0, u "fill"), (0, u "([J)V"), (0, .long 18446744073709551615), (1, .methodref 29 43), (0, .nameAndType 44 45), (0, u "setBits"), (0, u "(IJJ)V"), (0, .methodref 29 47), (0, .nameAndType 48 49), (0, u "setCell"), (0, u "(IIJ)V"), (0, .methodref 29 51), (0, .nameAndType 52 53), (0, u "cell"), (0, u "(II)J"), (0, .methodref 29 55), (0, .nameAndType 56 57), (0, u "bits"), (0, u "(I)J"), (0, .methodref 59 60), (0, .class_ 61), (0, .nameAndType 62 63), (0, u "com/example/verdikt/verdikt/model/LanesSetCellPinLaw"), (0, u "before"), (0, u "(IIIJJ)J"), (2, u "law"), (0, u "(IIIJJJ)Z")] 9

def k1m0 : Method := { name := "<init>", desc := "()V", sig := { parameters := [], returnType := none }, accessFlags := 1, code := none }
def k1c1 : Code := { maxStack := 9, maxLocals := 37, code := code, exceptionTable := #[], attributes := #[] }
def k1m1 : Method := { name := "law", desc := "(IIIJJJ)Z", sig := { parameters := [.int, .int, .int, .long, .long, .long], returnType := some .boolean }, accessFlags := 9, code := some k1c1 }
def k1c2 : Code := { maxStack := 4, maxLocals := 7, code := method_3_code, exceptionTable := #[], attributes := #[] }
def k1m2 : Method := { name := "before", desc := "(IIIJJ)J", sig := { parameters := [.int, .int, .int, .long, .long], returnType := some .long }, accessFlags := 10, code := some k1c2 }
/-- com/example/verdikt/verdikt/model/LanesSetCellPinLaw -/
def k1 : Class := { plain "com/example/verdikt/verdikt/model/LanesSetCellPinLaw" (some 0) with
  accessFlags := 49
  interfaces := #[]
  cf := some (fileOf pool1 59 #[] #[{ accessFlags := 1, nameIndex := 5, descriptorIndex := 6, attributes := #[] }, { accessFlags := 9, nameIndex := 66, descriptorIndex := 67, attributes := #[] }, { accessFlags := 10, nameIndex := 62, descriptorIndex := 63, attributes := #[] }] 49 2 #[] #[])
  fields := #[]
  methods := #[k1m0, k1m1, k1m2]
  instanceTypes := #[]
  staticTypes := #[]
  resolved := Array.replicate 77 none
  statics := none }

def pool2 : Array CpInfo := pool [(8, .class_ 10), (1, u "java/lang/Iterable"), (24, .class_ 36), (0, u "java/lang/Object")] 25

/-- java/lang/Iterable -/
def k2 : Class := { plain "java/lang/Iterable" (some 0) with
  accessFlags := 1537
  interfaces := #[]
  cf := some (fileOf pool2 8 #[] #[] 1537 35 #[] #[])
  fields := #[]
  methods := #[]
  instanceTypes := #[]
  staticTypes := #[]
  resolved := Array.replicate 62 none
  statics := none }

def pool3 : Array CpInfo := pool [(10, .class_ 12), (1, u "java/util/Collection"), (47, .class_ 61), (0, u "java/lang/Object"), (0, .class_ 63), (0, u "java/lang/Iterable")] 51

/-- java/util/Collection -/
def k3 : Class := { plain "java/util/Collection" (some 0) with
  accessFlags := 1537
  interfaces := #[2]
  cf := some (fileOf pool3 10 #[] #[] 1537 60 #[62] #[])
  fields := #[]
  methods := #[]
  instanceTypes := #[]
  staticTypes := #[]
  resolved := Array.replicate 115 none
  statics := none }

def pool4 : Array CpInfo := pool [(1, .methodref 2 3), (0, .class_ 4), (0, .nameAndType 5 6), (0, u "java/lang/Object"), (0, u "<init>"), (0, u "()V"), (1, .class_ 10), (1, u "java/util/AbstractCollection"), (66, .class_ 78), (0, u "java/util/Collection")] 81

def k4c0 : Code := { maxStack := 1, maxLocals := 1, code := jdk_22_method_1_code, exceptionTable := #[], attributes := #[] }
def k4m0 : Method := { name := "<init>", desc := "()V", sig := { parameters := [], returnType := none }, accessFlags := 4, code := some k4c0 }
/-- java/util/AbstractCollection -/
def k4 : Class := { plain "java/util/AbstractCollection" (some 0) with
  accessFlags := 1057
  interfaces := #[3]
  cf := some (fileOf pool4 8 #[] #[{ accessFlags := 4, nameIndex := 5, descriptorIndex := 6, attributes := #[] }] 1057 2 #[77] #[])
  fields := #[]
  methods := #[k4m0]
  instanceTypes := #[]
  staticTypes := #[]
  resolved := Array.replicate 160 none
  statics := none }

def pool5 : Array CpInfo := pool [(8, .class_ 10), (1, u "java/util/SequencedCollection"), (15, .class_ 27), (0, u "java/lang/Object"), (0, .class_ 29), (0, u "java/util/Collection")] 27

/-- java/util/SequencedCollection -/
def k5 : Class := { plain "java/util/SequencedCollection" (some 0) with
  accessFlags := 1537
  interfaces := #[3]
  cf := some (fileOf pool5 8 #[] #[] 1537 26 #[28] #[])
  fields := #[]
  methods := #[]
  instanceTypes := #[]
  staticTypes := #[]
  resolved := Array.replicate 57 none
  statics := none }

def pool6 : Array CpInfo := pool [(8, .class_ 10), (1, u "java/util/List"), (92, .class_ 104), (0, u "java/lang/Object"), (15, .class_ 121), (0, u "java/util/SequencedCollection"), (1, u "iterator"), (0, u "()Ljava/util/Iterator;")] 126

def k6m0 : Method := { name := "iterator", desc := "()Ljava/util/Iterator;", sig := { parameters := [], returnType := some (.object "java/util/Iterator") }, accessFlags := 1025, code := none }
/-- java/util/List -/
def k6 : Class := { plain "java/util/List" (some 0) with
  accessFlags := 1537
  interfaces := #[5]
  cf := some (fileOf pool6 8 #[] #[{ accessFlags := 1025, nameIndex := 123, descriptorIndex := 124, attributes := #[] }] 1537 103 #[120] #[])
  fields := #[]
  methods := #[k6m0]
  instanceTypes := #[]
  staticTypes := #[]
  resolved := Array.replicate 251 none
  statics := none }

def pool7 : Array CpInfo := pool [(1, .methodref 2 3), (0, .class_ 4), (0, .nameAndType 5 6), (0, u "java/util/AbstractCollection"), (0, u "<init>"), (0, u "()V"), (0, .fieldref 8 9), (0, .class_ 10), (0, .nameAndType 11 12), (0, u "java/util/AbstractList"), (0, u "modCount"), (0, u "I"), (64, .class_ 78), (0, u "java/util/AbstractList$Itr"), (3, .class_ 83), (0, u "java/util/AbstractList$ListItr"), (9, .class_ 94), (0, u "java/util/AbstractList$RandomAccessSubList"), (3, .class_ 99), (0, u "java/util/AbstractList$SubList"), (33, .class_ 134), (0, u "java/util/List"), (73, .class_ 209), (0, u "java/util/AbstractList$SubList$1"), (0, .class_ 211), (0, u "java/util/AbstractList$RandomAccessSpliterator")] 6

def k7c0 : Code := { maxStack := 2, maxLocals := 1, code := jdk_39_method_1_code, exceptionTable := #[], attributes := #[] }
def k7m0 : Method := { name := "<init>", desc := "()V", sig := { parameters := [], returnType := none }, accessFlags := 4, code := some k7c0 }
/-- java/util/AbstractList -/
def k7 : Class := { plain "java/util/AbstractList" (some 4) with
  accessFlags := 1057
  interfaces := #[6]
  cf := some (fileOf pool7 8 #[.nestMembers #[93, 98, 208, 210, 82, 77]] #[{ accessFlags := 4, nameIndex := 5, descriptorIndex := 6, attributes := #[] }] 1057 2 #[133] #[{ accessFlags := 132, nameIndex := 11, descriptorIndex := 12, attributes := #[] }])
  fields := #[{ name := "modCount", type := .int, accessFlags := 132, slot := 0, constantValue := 0 }]
  methods := #[k7m0]
  instanceTypes := #[.int]
  staticTypes := #[]
  resolved := Array.replicate 218 none
  statics := none }

def pool8 : Array CpInfo := pool [(1, .class_ 2), (0, u "java/util/RandomAccess"), (0, .class_ 4), (0, u "java/lang/Object")] 2

/-- java/util/RandomAccess -/
def k8 : Class := { plain "java/util/RandomAccess" (some 0) with
  accessFlags := 1537
  interfaces := #[]
  cf := some (fileOf pool8 1 #[] #[] 1537 3 #[] #[])
  fields := #[]
  methods := #[]
  instanceTypes := #[]
  staticTypes := #[]
  resolved := Array.replicate 7 none
  statics := none }

def pool9 : Array CpInfo := pool [(1, .class_ 2), (0, u "java/lang/Cloneable"), (0, .class_ 4), (0, u "java/lang/Object")] 2

/-- java/lang/Cloneable -/
def k9 : Class := { plain "java/lang/Cloneable" (some 0) with
  accessFlags := 1537
  interfaces := #[]
  cf := some (fileOf pool9 1 #[] #[] 1537 3 #[] #[])
  fields := #[]
  methods := #[]
  instanceTypes := #[]
  staticTypes := #[]
  resolved := Array.replicate 7 none
  statics := none }

def pool10 : Array CpInfo := pool [(1, .class_ 2), (0, u "java/io/Serializable"), (0, .class_ 4), (0, u "java/lang/Object")] 2

/-- java/io/Serializable -/
def k10 : Class := { plain "java/io/Serializable" (some 0) with
  accessFlags := 1537
  interfaces := #[]
  cf := some (fileOf pool10 1 #[] #[] 1537 3 #[] #[])
  fields := #[]
  methods := #[]
  instanceTypes := #[]
  staticTypes := #[]
  resolved := Array.replicate 7 none
  statics := none }

def pool11 : Array CpInfo := pool [(1, .methodref 2 3), (0, .class_ 4), (0, .nameAndType 5 6), (0, u "java/util/AbstractList"), (0, u "<init>"), (0, u "()V"), (0, .class_ 8), (0, u "java/lang/Object"), (0, .fieldref 10 11), (0, .class_ 12), (0, .nameAndType 13 14), (0, u "java/util/ArrayList"), (0, u "elementData"), (0, u "[Ljava/lang/Object;"), (2, u "EMPTY_ELEMENTDATA"), (21, .fieldref 10 40), (0, .nameAndType 41 14), (0, u "DEFAULTCAPACITY_EMPTY_ELEMENTDATA"), (5, u "()[Ljava/lang/Object;"), (0, .fieldref 10 49), (0, .nameAndType 50 51), (0, u "size"), (0, u "I"), (11, .fieldref 10 64), (0, .nameAndType 65 51), (0, u "modCount"), (3, .methodref 10 70), (0, .nameAndType 71 72), (0, u "grow"), (0, u "(I)[Ljava/lang/Object;"), (6, .methodref 80 81), (0, .class_ 82), (0, .nameAndType 83 84), (0, u "java/lang/Math"), (0, u "max"), (0, u "(II)I"), (11, u "(Ljava/lang/Object;)Z"), (32, .methodref 10 130), (0, .nameAndType 71 47), (0, .methodref 10 132), (0, .nameAndType 133 134), (0, u "add"), (0, u "(Ljava/lang/Object;[Ljava/lang/Object;I)V"), (13, .class_ 149), (0, u "java/util/List"), (16, u "iterator"), (0, u "()Ljava/util/Iterator;"), (94, .class_ 263), (0, u "java/util/ArrayList$ListItr"), (3, .class_ 268), (0, u "java/util/ArrayList$Itr"), (0, .methodref 267 270), (0, .nameAndType 5 271), (0, u "(Ljava/util/ArrayList;)V"), (4, .class_ 277), (0, u "java/util/ArrayList$SubList"), (12, .class_ 291), (0, u "java/util/ArrayList$ArrayListSpliterator"), (37, .class_ 330), (0, u "java/util/RandomAccess"), (0, .class_ 332), (0, u "java/lang/Cloneable"), (0, .class_ 334), (0, u "java/io/Serializable"), (0, u "serialVersionUID"), (0, u "J"), (3, u "DEFAULT_CAPACITY"), (159, .class_ 501), (0, u "java/util/ArrayList$SubList$2"), (0, .class_ 503), (0, u "java/util/ArrayList$SubList$1")] 5

def k11c0 : Code := { maxStack := 2, maxLocals := 1, code := jdk_38_method_2_code, exceptionTable := #[], attributes := #[] }
def k11m0 : Method := { name := "<init>", desc := "()V", sig := { parameters := [], returnType := none }, accessFlags := 1, code := some k11c0 }
def k11c1 : Code := { maxStack := 4, maxLocals := 4, code := jdk_38_method_6_code, exceptionTable := #[], attributes := #[] }
def k11m1 : Method := { name := "grow", desc := "(I)[Ljava/lang/Object;", sig := { parameters := [.int], returnType := some (.array (.object "java/lang/Object")) }, accessFlags := 2, code := some k11c1 }
def k11c2 : Code := { maxStack := 3, maxLocals := 1, code := jdk_38_method_7_code, exceptionTable := #[], attributes := #[] }
def k11m2 : Method := { name := "grow", desc := "()[Ljava/lang/Object;", sig := { parameters := [], returnType := some (.array (.object "java/lang/Object")) }, accessFlags := 2, code := some k11c2 }
def k11c3 : Code := { maxStack := 3, maxLocals := 4, code := jdk_38_method_24_code, exceptionTable := #[], attributes := #[] }
def k11m3 : Method := { name := "add", desc := "(Ljava/lang/Object;[Ljava/lang/Object;I)V", sig := { parameters := [(.object "java/lang/Object"), (.array (.object "java/lang/Object")), .int], returnType := none }, accessFlags := 2, code := some k11c3 }
def k11c4 : Code := { maxStack := 4, maxLocals := 2, code := jdk_38_method_25_code, exceptionTable := #[], attributes := #[] }
def k11m4 : Method := { name := "add", desc := "(Ljava/lang/Object;)Z", sig := { parameters := [(.object "java/lang/Object")], returnType := some .boolean }, accessFlags := 1, code := some k11c4 }
def k11c5 : Code := { maxStack := 3, maxLocals := 1, code := jdk_38_method_55_code, exceptionTable := #[], attributes := #[] }
def k11m5 : Method := { name := "iterator", desc := "()Ljava/util/Iterator;", sig := { parameters := [], returnType := some (.object "java/util/Iterator") }, accessFlags := 1, code := some k11c5 }
/-- java/util/ArrayList -/
def k11 : Class := { plain "java/util/ArrayList" (some 7) with
  accessFlags := 33
  interfaces := #[6, 8, 9, 10]
  cf := some (fileOf pool11 10 #[.nestMembers #[290, 276, 500, 502, 262, 267]] #[{ accessFlags := 1, nameIndex := 5, descriptorIndex := 6, attributes := #[] }, { accessFlags := 2, nameIndex := 71, descriptorIndex := 72, attributes := #[] }, { accessFlags := 2, nameIndex := 71, descriptorIndex := 47, attributes := #[] }, { accessFlags := 2, nameIndex := 133, descriptorIndex := 134, attributes := #[] }, { accessFlags := 1, nameIndex := 133, descriptorIndex := 96, attributes := #[] }, { accessFlags := 1, nameIndex := 166, descriptorIndex := 167, attributes := #[] }] 33 2 #[148, 329, 331, 333] #[{ accessFlags := 26, nameIndex := 335, descriptorIndex := 336, attributes := #[] }, { accessFlags := 26, nameIndex := 340, descriptorIndex := 51, attributes := #[] }, { accessFlags := 26, nameIndex := 17, descriptorIndex := 14, attributes := #[] }, { accessFlags := 26, nameIndex := 41, descriptorIndex := 14, attributes := #[] }, { accessFlags := 128, nameIndex := 13, descriptorIndex := 14, attributes := #[] }, { accessFlags := 2, nameIndex := 50, descriptorIndex := 51, attributes := #[] }])
  fields := #[{ name := "serialVersionUID", type := .long, accessFlags := 26, slot := 0, constantValue := 0 }, { name := "DEFAULT_CAPACITY", type := .int, accessFlags := 26, slot := 1, constantValue := 0 }, { name := "EMPTY_ELEMENTDATA", type := (.array (.object "java/lang/Object")), accessFlags := 26, slot := 2, constantValue := 0 }, { name := "DEFAULTCAPACITY_EMPTY_ELEMENTDATA", type := (.array (.object "java/lang/Object")), accessFlags := 26, slot := 3, constantValue := 0 }, { name := "elementData", type := (.array (.object "java/lang/Object")), accessFlags := 128, slot := 1, constantValue := 0 }, { name := "size", type := .int, accessFlags := 2, slot := 2, constantValue := 0 }]
  methods := #[k11m0, k11m1, k11m2, k11m3, k11m4, k11m5]
  instanceTypes := #[.int, (.array (.object "java/lang/Object")), .int]
  staticTypes := #[.long, .int, (.array (.object "java/lang/Object")), (.array (.object "java/lang/Object"))]
  resolved := Array.replicate 509 none
  statics := some 0 }

def pool12 : Array CpInfo := pool [(1, .methodref 2 3), (0, .class_ 4), (0, .nameAndType 5 6), (0, u "java/lang/Object"), (0, u "<init>"), (0, u "()V"), (0, .class_ 8), (0, u "java/lang/Record")] 13

def k12c0 : Code := { maxStack := 1, maxLocals := 1, code := jdk_30_method_1_code, exceptionTable := #[], attributes := #[] }
def k12m0 : Method := { name := "<init>", desc := "()V", sig := { parameters := [], returnType := none }, accessFlags := 4, code := some k12c0 }
/-- java/lang/Record -/
def k12 : Class := { plain "java/lang/Record" (some 0) with
  accessFlags := 1057
  interfaces := #[]
  cf := some (fileOf pool12 7 #[] #[{ accessFlags := 4, nameIndex := 5, descriptorIndex := 6, attributes := #[] }] 1057 2 #[] #[])
  fields := #[]
  methods := #[k12m0]
  instanceTypes := #[]
  staticTypes := #[]
  resolved := Array.replicate 22 none
  statics := none }

def pool13 : Array CpInfo := pool [(1, .class_ 2), (0, u "com/example/verdikt/verdikt/model/Symbol"), (0, .class_ 4), (0, u "java/lang/Object")] 11

/-- com/example/verdikt/verdikt/model/Symbol -/
def k13 : Class := { plain "com/example/verdikt/verdikt/model/Symbol" (some 0) with
  accessFlags := 1537
  interfaces := #[]
  cf := some (fileOf pool13 1 #[] #[] 1537 3 #[] #[])
  fields := #[]
  methods := #[]
  instanceTypes := #[]
  staticTypes := #[]
  resolved := Array.replicate 16 none
  statics := none }

def pool14 : Array CpInfo := pool [(1, .methodref 2 3), (0, .class_ 4), (0, .nameAndType 5 6), (0, u "java/lang/Record"), (0, u "<init>"), (0, u "()V"), (0, .fieldref 8 9), (0, .class_ 10), (0, .nameAndType 11 12), (0, u "com/example/verdikt/verdikt/model/Variable"), (0, u "name"), (0, u "Ljava/lang/String;"), (0, .fieldref 8 14), (0, .nameAndType 15 16), (0, u "section"), (0, u "Lcom/example/verdikt/verdikt/model/Variable$Section;"), (0, .fieldref 8 18), (0, .nameAndType 19 20), (0, u "type"), (0, u "Lcom/example/verdikt/verdikt/model/ElementaryType;"), (0, .fieldref 8 22), (0, .nameAndType 23 24), (0, u "initialValue"), (0, u "J"), (0, .fieldref 8 26), (0, .nameAndType 27 28), (0, u "index"), (0, u "I"), (12, .class_ 42), (0, u "com/example/verdikt/verdikt/model/Symbol"), (0, u "(Ljava/lang/String;Lcom/example/verdikt/verdikt/model/Variable$Section;Lcom/example/verdikt/verdikt/model/ElementaryType;JI)V"), (4, u "()I"), (2, u "()Lcom/example/verdikt/verdikt/model/ElementaryType;"), (4, .class_ 57), (0, u "com/example/verdikt/verdikt/model/Variable$Section")] 23

def k14c0 : Code := { maxStack := 3, maxLocals := 7, code := prog_108_method_1_code, exceptionTable := #[], attributes := #[] }
def k14m0 : Method := { name := "<init>", desc := "(Ljava/lang/String;Lcom/example/verdikt/verdikt/model/Variable$Section;Lcom/example/verdikt/verdikt/model/ElementaryType;JI)V", sig := { parameters := [(.object "java/lang/String"), (.object "com/example/verdikt/verdikt/model/Variable$Section"), (.object "com/example/verdikt/verdikt/model/ElementaryType"), .long, .int], returnType := none }, accessFlags := 1, code := some k14c0 }
def k14c1 : Code := { maxStack := 1, maxLocals := 1, code := prog_108_method_7_code, exceptionTable := #[], attributes := #[] }
def k14m1 : Method := { name := "type", desc := "()Lcom/example/verdikt/verdikt/model/ElementaryType;", sig := { parameters := [], returnType := some (.object "com/example/verdikt/verdikt/model/ElementaryType") }, accessFlags := 1, code := some k14c1 }
def k14c2 : Code := { maxStack := 1, maxLocals := 1, code := prog_108_method_9_code, exceptionTable := #[], attributes := #[] }
def k14m2 : Method := { name := "index", desc := "()I", sig := { parameters := [], returnType := some .int }, accessFlags := 1, code := some k14c2 }
/-- com/example/verdikt/verdikt/model/Variable -/
def k14 : Class := { plain "com/example/verdikt/verdikt/model/Variable" (some 12) with
  accessFlags := 49
  interfaces := #[13]
  cf := some (fileOf pool14 8 #[.nestMembers #[56]] #[{ accessFlags := 1, nameIndex := 5, descriptorIndex := 43, attributes := #[] }, { accessFlags := 1, nameIndex := 19, descriptorIndex := 51, attributes := #[] }, { accessFlags := 1, nameIndex := 27, descriptorIndex := 48, attributes := #[] }] 49 2 #[41] #[{ accessFlags := 18, nameIndex := 11, descriptorIndex := 12, attributes := #[] }, { accessFlags := 18, nameIndex := 15, descriptorIndex := 16, attributes := #[] }, { accessFlags := 18, nameIndex := 19, descriptorIndex := 20, attributes := #[] }, { accessFlags := 18, nameIndex := 23, descriptorIndex := 24, attributes := #[] }, { accessFlags := 18, nameIndex := 27, descriptorIndex := 28, attributes := #[] }])
  fields := #[{ name := "name", type := (.object "java/lang/String"), accessFlags := 18, slot := 0, constantValue := 0 }, { name := "section", type := (.object "com/example/verdikt/verdikt/model/Variable$Section"), accessFlags := 18, slot := 1, constantValue := 0 }, { name := "type", type := (.object "com/example/verdikt/verdikt/model/ElementaryType"), accessFlags := 18, slot := 2, constantValue := 0 }, { name := "initialValue", type := .long, accessFlags := 18, slot := 3, constantValue := 0 }, { name := "index", type := .int, accessFlags := 18, slot := 4, constantValue := 0 }]
  methods := #[k14m0, k14m1, k14m2]
  instanceTypes := #[(.object "java/lang/String"), (.object "com/example/verdikt/verdikt/model/Variable$Section"), (.object "com/example/verdikt/verdikt/model/ElementaryType"), .long, .int]
  staticTypes := #[]
  resolved := Array.replicate 81 none
  statics := none }

def pool15 : Array CpInfo := pool [(1, .class_ 2), (0, u "java/lang/Comparable"), (0, .class_ 4), (0, u "java/lang/Object")] 7

/-- java/lang/Comparable -/
def k15 : Class := { plain "java/lang/Comparable" (some 0) with
  accessFlags := 1537
  interfaces := #[]
  cf := some (fileOf pool15 1 #[] #[] 1537 3 #[] #[])
  fields := #[]
  methods := #[]
  instanceTypes := #[]
  staticTypes := #[]
  resolved := Array.replicate 12 none
  statics := none }

def pool16 : Array CpInfo := pool [(2, .class_ 4), (1, u "java/lang/CharSequence"), (42, .class_ 48), (0, u "java/lang/CharSequence$1CodePointIterator"), (10, .class_ 60), (0, u "java/lang/CharSequence$1CharIterator"), (5, .class_ 67), (0, u "java/lang/Object")] 63

/-- java/lang/CharSequence -/
def k16 : Class := { plain "java/lang/CharSequence" (some 0) with
  accessFlags := 1537
  interfaces := #[]
  cf := some (fileOf pool16 2 #[.nestMembers #[47, 59]] #[] 1537 66 #[] #[])
  fields := #[]
  methods := #[]
  instanceTypes := #[]
  staticTypes := #[]
  resolved := Array.replicate 131 none
  statics := none }

def pool17 : Array CpInfo := pool [(1, .class_ 2), (0, u "java/lang/constant/Constable"), (0, .class_ 4), (0, u "java/lang/Object")] 6

/-- java/lang/constant/Constable -/
def k17 : Class := { plain "java/lang/constant/Constable" (some 0) with
  accessFlags := 1537
  interfaces := #[]
  cf := some (fileOf pool17 1 #[] #[] 1537 3 #[] #[])
  fields := #[]
  methods := #[]
  instanceTypes := #[]
  staticTypes := #[]
  resolved := Array.replicate 11 none
  statics := none }

def pool18 : Array CpInfo := pool [(1, .class_ 2), (0, u "java/lang/constant/ConstantDesc"), (0, .class_ 4), (0, u "java/lang/Object")] 32

/-- java/lang/constant/ConstantDesc -/
def k18 : Class := { plain "java/lang/constant/ConstantDesc" (some 0) with
  accessFlags := 1537
  interfaces := #[]
  cf := some (fileOf pool18 1 #[] #[] 1537 3 #[] #[])
  fields := #[]
  methods := #[]
  instanceTypes := #[]
  staticTypes := #[]
  resolved := Array.replicate 37 none
  statics := none }

def pool19 : Array CpInfo := pool [(2, .class_ 4), (1, u "java/lang/Object"), (0, u "<init>"), (0, u "()V"), (3, .class_ 12), (1, u "java/lang/String"), (0, u "value"), (0, u "[B"), (2, u "coder"), (0, u "B"), (2, u "hash"), (0, u "I"), (2, u "hashIsZero"), (0, u "Z"), (13, u "COMPACT_STRINGS"), (534, .class_ 576), (0, u "java/lang/CharSequence"), (22, u "CASE_INSENSITIVE_ORDER"), (0, u "Ljava/util/Comparator;"), (500, u "serialPersistentFields"), (0, u "[Ljava/io/ObjectStreamField;"), (0, .class_ 1104), (0, u "java/lang/String$CaseInsensitiveComparator"), (1, .class_ 1107), (0, u "java/io/Serializable"), (0, .class_ 1109), (0, u "java/lang/Comparable"), (0, .class_ 1111), (0, u "java/lang/constant/Constable"), (0, .class_ 1113), (0, u "java/lang/constant/ConstantDesc"), (2, u "serialVersionUID"), (0, u "J"), (3, u "REPL"), (0, u "C"), (2, u "LATIN1"), (1, u "UTF16")] 323

def k19m0 : Method := { name := "<init>", desc := "()V", sig := { parameters := [], returnType := none }, accessFlags := 1, code := none }
/-- java/lang/String -/
def k19 : Class := { plain "java/lang/String" (some 0) with
  accessFlags := 49
  interfaces := #[10, 15, 16, 17, 18]
  cf := some (fileOf pool19 10 #[.nestMembers #[1103]] #[{ accessFlags := 1, nameIndex := 5, descriptorIndex := 6, attributes := #[] }] 49 2 #[1106, 1108, 575, 1110, 1112] #[{ accessFlags := 18, nameIndex := 13, descriptorIndex := 14, attributes := #[] }, { accessFlags := 18, nameIndex := 17, descriptorIndex := 18, attributes := #[] }, { accessFlags := 2, nameIndex := 21, descriptorIndex := 22, attributes := #[] }, { accessFlags := 2, nameIndex := 25, descriptorIndex := 26, attributes := #[] }, { accessFlags := 26, nameIndex := 1116, descriptorIndex := 1117, attributes := #[] }, { accessFlags := 24, nameIndex := 40, descriptorIndex := 26, attributes := #[] }, { accessFlags := 26, nameIndex := 1101, descriptorIndex := 1102, attributes := #[] }, { accessFlags := 26, nameIndex := 1121, descriptorIndex := 1122, attributes := #[] }, { accessFlags := 25, nameIndex := 599, descriptorIndex := 600, attributes := #[] }, { accessFlags := 24, nameIndex := 1125, descriptorIndex := 18, attributes := #[] }, { accessFlags := 24, nameIndex := 1127, descriptorIndex := 18, attributes := #[] }])
  fields := #[{ name := "value", type := (.array .byte), accessFlags := 18, slot := 0, constantValue := 0 }, { name := "coder", type := .byte, accessFlags := 18, slot := 1, constantValue := 0 }, { name := "hash", type := .int, accessFlags := 2, slot := 2, constantValue := 0 }, { name := "hashIsZero", type := .boolean, accessFlags := 2, slot := 3, constantValue := 0 }, { name := "serialVersionUID", type := .long, accessFlags := 26, slot := 0, constantValue := 0 }, { name := "COMPACT_STRINGS", type := .boolean, accessFlags := 24, slot := 1, constantValue := 0 }, { name := "serialPersistentFields", type := (.array (.object "java/io/ObjectStreamField")), accessFlags := 26, slot := 2, constantValue := 0 }, { name := "REPL", type := .char, accessFlags := 26, slot := 3, constantValue := 0 }, { name := "CASE_INSENSITIVE_ORDER", type := (.object "java/util/Comparator"), accessFlags := 25, slot := 4, constantValue := 0 }, { name := "LATIN1", type := .byte, accessFlags := 24, slot := 5, constantValue := 0 }, { name := "UTF16", type := .byte, accessFlags := 24, slot := 6, constantValue := 0 }]
  methods := #[k19m0]
  instanceTypes := #[(.array .byte), .byte, .int, .boolean]
  staticTypes := #[.long, .boolean, (.array (.object "java/io/ObjectStreamField")), .char, (.object "java/util/Comparator"), .byte, .byte]
  resolved := Array.replicate 1451 none
  statics := none }

def pool20 : Array CpInfo := pool [(2, .class_ 4), (1, u "java/lang/Enum"), (0, u "name"), (0, u "Ljava/lang/String;"), (2, u "ordinal"), (0, u "I"), (1, .class_ 14), (1, u "java/lang/Object"), (4, u "hash"), (86, .class_ 108), (1, u "java/lang/Enum$EnumDesc"), (2, .class_ 112), (0, u "java/lang/constant/Constable"), (0, .class_ 114), (0, u "java/lang/Comparable"), (0, .class_ 116), (0, u "java/io/Serializable")] 87

/-- java/lang/Enum -/
def k20 : Class := { plain "java/lang/Enum" (some 0) with
  accessFlags := 1057
  interfaces := #[17, 15, 10]
  cf := some (fileOf pool20 2 #[.nestMembers #[106]] #[] 1057 12 #[111, 113, 115] #[{ accessFlags := 18, nameIndex := 5, descriptorIndex := 6, attributes := #[] }, { accessFlags := 18, nameIndex := 9, descriptorIndex := 10, attributes := #[] }, { accessFlags := 2, nameIndex := 19, descriptorIndex := 10, attributes := #[] }])
  fields := #[{ name := "name", type := (.object "java/lang/String"), accessFlags := 18, slot := 0, constantValue := 0 }, { name := "ordinal", type := .int, accessFlags := 18, slot := 1, constantValue := 0 }, { name := "hash", type := .int, accessFlags := 2, slot := 2, constantValue := 0 }]
  methods := #[]
  instanceTypes := #[(.object "java/lang/String"), .int, .int]
  staticTypes := #[]
  resolved := Array.replicate 204 none
  statics := none }

def pool21 : Array CpInfo := pool [(1, .class_ 2), (0, u "com/example/verdikt/verdikt/model/ElementaryType"), (2, u "BOOL"), (0, u "Lcom/example/verdikt/verdikt/model/ElementaryType;"), (2, u "SINT"), (2, u "INT"), (2, u "DINT"), (2, u "LINT"), (2, u "USINT"), (2, u "UINT"), (2, u "UDINT"), (2, u "ULINT"), (2, u "$VALUES"), (0, u "[Lcom/example/verdikt/verdikt/model/ElementaryType;"), (6, .class_ 43), (1, u "java/lang/Enum"), (8, u "bits"), (0, u "I"), (2, u "signed"), (0, u "Z"), (34, u "range"), (0, u "Lcom/example/verdikt/verdikt/model/IntegerRange;")] 62

/-- com/example/verdikt/verdikt/model/ElementaryType -/
def k21 : Class := { plain "com/example/verdikt/verdikt/model/ElementaryType" (some 20) with
  accessFlags := 16433
  interfaces := #[]
  cf := some (fileOf pool21 1 #[] #[] 16433 41 #[] #[{ accessFlags := 16409, nameIndex := 5, descriptorIndex := 6, attributes := #[] }, { accessFlags := 16409, nameIndex := 9, descriptorIndex := 6, attributes := #[] }, { accessFlags := 16409, nameIndex := 12, descriptorIndex := 6, attributes := #[] }, { accessFlags := 16409, nameIndex := 15, descriptorIndex := 6, attributes := #[] }, { accessFlags := 16409, nameIndex := 18, descriptorIndex := 6, attributes := #[] }, { accessFlags := 16409, nameIndex := 21, descriptorIndex := 6, attributes := #[] }, { accessFlags := 16409, nameIndex := 24, descriptorIndex := 6, attributes := #[] }, { accessFlags := 16409, nameIndex := 27, descriptorIndex := 6, attributes := #[] }, { accessFlags := 16409, nameIndex := 30, descriptorIndex := 6, attributes := #[] }, { accessFlags := 18, nameIndex := 52, descriptorIndex := 53, attributes := #[] }, { accessFlags := 18, nameIndex := 56, descriptorIndex := 57, attributes := #[] }, { accessFlags := 18, nameIndex := 92, descriptorIndex := 93, attributes := #[] }, { accessFlags := 4122, nameIndex := 33, descriptorIndex := 34, attributes := #[] }])
  fields := #[{ name := "BOOL", type := (.object "com/example/verdikt/verdikt/model/ElementaryType"), accessFlags := 16409, slot := 0, constantValue := 0 }, { name := "SINT", type := (.object "com/example/verdikt/verdikt/model/ElementaryType"), accessFlags := 16409, slot := 1, constantValue := 0 }, { name := "INT", type := (.object "com/example/verdikt/verdikt/model/ElementaryType"), accessFlags := 16409, slot := 2, constantValue := 0 }, { name := "DINT", type := (.object "com/example/verdikt/verdikt/model/ElementaryType"), accessFlags := 16409, slot := 3, constantValue := 0 }, { name := "LINT", type := (.object "com/example/verdikt/verdikt/model/ElementaryType"), accessFlags := 16409, slot := 4, constantValue := 0 }, { name := "USINT", type := (.object "com/example/verdikt/verdikt/model/ElementaryType"), accessFlags := 16409, slot := 5, constantValue := 0 }, { name := "UINT", type := (.object "com/example/verdikt/verdikt/model/ElementaryType"), accessFlags := 16409, slot := 6, constantValue := 0 }, { name := "UDINT", type := (.object "com/example/verdikt/verdikt/model/ElementaryType"), accessFlags := 16409, slot := 7, constantValue := 0 }, { name := "ULINT", type := (.object "com/example/verdikt/verdikt/model/ElementaryType"), accessFlags := 16409, slot := 8, constantValue := 0 }, { name := "bits", type := .int, accessFlags := 18, slot := 3, constantValue := 0 }, { name := "signed", type := .boolean, accessFlags := 18, slot := 4, constantValue := 0 }, { name := "range", type := (.object "com/example/verdikt/verdikt/model/IntegerRange"), accessFlags := 18, slot := 5, constantValue := 0 }, { name := "$VALUES", type := (.array (.object "com/example/verdikt/verdikt/model/ElementaryType")), accessFlags := 4122, slot := 9, constantValue := 0 }]
  methods := #[]
  instanceTypes := #[(.object "java/lang/String"), .int, .int, .int, .boolean, (.object "com/example/verdikt/verdikt/model/IntegerRange")]
  staticTypes := #[(.object "com/example/verdikt/verdikt/model/ElementaryType"), (.object "com/example/verdikt/verdikt/model/ElementaryType"), (.object "com/example/verdikt/verdikt/model/ElementaryType"), (.object "com/example/verdikt/verdikt/model/ElementaryType"), (.object "com/example/verdikt/verdikt/model/ElementaryType"), (.object "com/example/verdikt/verdikt/model/ElementaryType"), (.object "com/example/verdikt/verdikt/model/ElementaryType"), (.object "com/example/verdikt/verdikt/model/ElementaryType"), (.object "com/example/verdikt/verdikt/model/ElementaryType"), (.array (.object "com/example/verdikt/verdikt/model/ElementaryType"))]
  resolved := Array.replicate 156 none
  statics := some 1 }

def pool22 : Array CpInfo := pool [(1, .class_ 2), (0, u "java/lang/Math"), (1, .class_ 6), (1, u "java/lang/Object"), (0, u "<init>"), (0, u "()V"), (89, .class_ 100), (1, u "java/lang/Math$RandomNumberGeneratorHolder"), (71, u "negativeZeroFloatBits"), (0, u "J"), (2, u "negativeZeroDoubleBits"), (21, u "max"), (46, u "$assertionsDisabled"), (0, u "Z"), (88, u "(II)I"), (2, u "twoToTheDoubleScaleDown"), (0, u "D"), (4, u "twoToTheDoubleScaleUp"), (9, u "E"), (3, u "PI"), (2, u "TAU"), (2, u "DEGREES_TO_RADIANS"), (0, u "RADIANS_TO_DEGREES")] 94

def k22m0 : Method := { name := "<init>", desc := "()V", sig := { parameters := [], returnType := none }, accessFlags := 2, code := none }
def k22c1 : Code := { maxStack := 2, maxLocals := 2, code := jdk_29_method_65_code, exceptionTable := #[], attributes := #[] }
def k22m1 : Method := { name := "max", desc := "(II)I", sig := { parameters := [.int, .int], returnType := some .int }, accessFlags := 9, code := some k22c1 }
/-- java/lang/Math -/
def k22 : Class := { plain "java/lang/Math" (some 0) with
  accessFlags := 49
  interfaces := #[]
  cf := some (fileOf pool22 1 #[.nestMembers #[98]] #[{ accessFlags := 2, nameIndex := 7, descriptorIndex := 8, attributes := #[] }, { accessFlags := 9, nameIndex := 198, descriptorIndex := 335, attributes := #[] }] 49 4 #[] #[{ accessFlags := 25, nameIndex := 354, descriptorIndex := 339, attributes := #[] }, { accessFlags := 25, nameIndex := 358, descriptorIndex := 339, attributes := #[] }, { accessFlags := 25, nameIndex := 361, descriptorIndex := 339, attributes := #[] }, { accessFlags := 26, nameIndex := 364, descriptorIndex := 339, attributes := #[] }, { accessFlags := 26, nameIndex := 365, descriptorIndex := 339, attributes := #[] }, { accessFlags := 26, nameIndex := 172, descriptorIndex := 173, attributes := #[] }, { accessFlags := 26, nameIndex := 176, descriptorIndex := 173, attributes := #[] }, { accessFlags := 8, nameIndex := 344, descriptorIndex := 339, attributes := #[] }, { accessFlags := 8, nameIndex := 338, descriptorIndex := 339, attributes := #[] }, { accessFlags := 4120, nameIndex := 245, descriptorIndex := 246, attributes := #[] }])
  fields := #[{ name := "E", type := .double, accessFlags := 25, slot := 0, constantValue := 0 }, { name := "PI", type := .double, accessFlags := 25, slot := 1, constantValue := 0 }, { name := "TAU", type := .double, accessFlags := 25, slot := 2, constantValue := 0 }, { name := "DEGREES_TO_RADIANS", type := .double, accessFlags := 26, slot := 3, constantValue := 0 }, { name := "RADIANS_TO_DEGREES", type := .double, accessFlags := 26, slot := 4, constantValue := 0 }, { name := "negativeZeroFloatBits", type := .long, accessFlags := 26, slot := 5, constantValue := 0 }, { name := "negativeZeroDoubleBits", type := .long, accessFlags := 26, slot := 6, constantValue := 0 }, { name := "twoToTheDoubleScaleUp", type := .double, accessFlags := 8, slot := 7, constantValue := 0 }, { name := "twoToTheDoubleScaleDown", type := .double, accessFlags := 8, slot := 8, constantValue := 0 }, { name := "$assertionsDisabled", type := .boolean, accessFlags := 4120, slot := 9, constantValue := 0 }]
  methods := #[k22m0, k22m1]
  instanceTypes := #[]
  staticTypes := #[.double, .double, .double, .double, .double, .long, .long, .double, .double, .boolean]
  resolved := Array.replicate 460 none
  statics := none }

def pool23 : Array CpInfo := pool [(3, .methodref 4 5), (0, .class_ 6), (0, .nameAndType 7 8), (0, u "java/lang/Object"), (0, u "<init>"), (0, u "()V"), (0, .class_ 10), (0, u "[J"), (0, .fieldref 12 13), (0, .class_ 14), (0, .nameAndType 15 16), (0, u "com/example/verdikt/verdikt/model/Lanes"), (0, u "lent"), (0, u "[[J"), (9, .fieldref 12 27), (0, .nameAndType 28 29), (0, u "width"), (0, u "I"), (0, .long 18446744073709551615), (1, .fieldref 12 33), (0, .nameAndType 34 35), (0, u "all"), (0, u "J"), (0, .fieldref 12 37), (0, .nameAndType 38 39), (0, u "offsets"), (0, u "[I"), (0, .interfaceMethodref 41 42), (0, .class_ 43), (0, .nameAndType 44 45), (0, u "java/util/List"), (0, u "iterator"), (0, u "()Ljava/util/Iterator;"), (0, .interfaceMethodref 47 48), (0, .class_ 49), (0, .nameAndType 50 51), (0, u "java/util/Iterator"), (0, u "hasNext"), (0, u "()Z"), (0, .interfaceMethodref 47 53), (0, .nameAndType 54 55), (0, u "next"), (0, u "()Ljava/lang/Object;"), (0, .class_ 57), (0, u "com/example/verdikt/verdikt/model/Variable"), (0, .methodref 56 59), (0, .nameAndType 60 61), (0, u "type"), (0, u "()Lcom/example/verdikt/verdikt/model/ElementaryType;"), (0, .fieldref 63 64), (0, .class_ 65), (0, .nameAndType 66 67), (0, u "com/example/verdikt/verdikt/model/ElementaryType"), (0, u "BOOL"), (0, u "Lcom/example/verdikt/verdikt/model/ElementaryType;"), (0, .methodref 56 69), (0, .nameAndType 70 71), (0, u "index"), (0, u "()I"), (0, .fieldref 12 73), (0, .nameAndType 74 10), (0, u "words"), (0, .fieldref 12 76), (0, .nameAndType 77 10), (0, u "values"), (11, u "(ILjava/util/List;I)V"), (3, .methodref 94 95), (0, .class_ 96), (0, .nameAndType 97 98), (0, u "java/util/Arrays"), (0, u "fill"), (0, u "([JIIJ)V"), (12, u "lentCount"), (5, u "MOST"), (2, u "BITS"), (12, u "cell"), (0, u "(II)J"), (0, u "setCell"), (0, u "(IIJ)V"), (1, u "([J)V"), (2, u "bits"), (0, u "(I)J"), (0, u "setBits"), (0, u "(IJJ)V")] 25

def k23c0 : Code := { maxStack := 5, maxLocals := 6, code := prog_90_method_1_code, exceptionTable := #[], attributes := #[] }
def k23m0 : Method := { name := "<init>", desc := "(ILjava/util/List;I)V", sig := { parameters := [.int, (.object "java/util/List"), .int], returnType := none }, accessFlags := 0, code := some k23c0 }
def k23c1 : Code := { maxStack := 4, maxLocals := 5, code := prog_90_method_7_code, exceptionTable := #[], attributes := #[] }
def k23m1 : Method := { name := "cell", desc := "(II)J", sig := { parameters := [.int, .int], returnType := some .long }, accessFlags := 1, code := some k23c1 }
def k23c2 : Code := { maxStack := 8, maxLocals := 7, code := prog_90_method_8_code, exceptionTable := #[], attributes := #[] }
def k23m2 : Method := { name := "setCell", desc := "(IIJ)V", sig := { parameters := [.int, .int, .long], returnType := none }, accessFlags := 1, code := some k23c2 }
def k23c3 : Code := { maxStack := 6, maxLocals := 3, code := prog_90_method_10_code, exceptionTable := #[], attributes := #[] }
def k23m3 : Method := { name := "fill", desc := "([J)V", sig := { parameters := [(.array .long)], returnType := none }, accessFlags := 1, code := some k23c3 }
def k23c4 : Code := { maxStack := 2, maxLocals := 2, code := prog_90_method_13_code, exceptionTable := #[], attributes := #[] }
def k23m4 : Method := { name := "bits", desc := "(I)J", sig := { parameters := [.int], returnType := some .long }, accessFlags := 1, code := some k23c4 }
def k23c5 : Code := { maxStack := 8, maxLocals := 6, code := prog_90_method_14_code, exceptionTable := #[], attributes := #[] }
def k23m5 : Method := { name := "setBits", desc := "(IJJ)V", sig := { parameters := [.int, .long, .long], returnType := none }, accessFlags := 1, code := some k23c5 }
/-- com/example/verdikt/verdikt/model/Lanes -/
def k23 : Class := { plain "com/example/verdikt/verdikt/model/Lanes" (some 0) with
  accessFlags := 49
  interfaces := #[]
  cf := some (fileOf pool23 12 #[] #[{ accessFlags := 0, nameIndex := 7, descriptorIndex := 89, attributes := #[] }, { accessFlags := 1, nameIndex := 133, descriptorIndex := 134, attributes := #[] }, { accessFlags := 1, nameIndex := 135, descriptorIndex := 136, attributes := #[] }, { accessFlags := 1, nameIndex := 97, descriptorIndex := 138, attributes := #[] }, { accessFlags := 1, nameIndex := 141, descriptorIndex := 142, attributes := #[] }, { accessFlags := 1, nameIndex := 143, descriptorIndex := 144, attributes := #[] }] 49 4 #[] #[{ accessFlags := 25, nameIndex := 117, descriptorIndex := 29, attributes := #[] }, { accessFlags := 26, nameIndex := 120, descriptorIndex := 29, attributes := #[] }, { accessFlags := 18, nameIndex := 28, descriptorIndex := 29, attributes := #[] }, { accessFlags := 18, nameIndex := 34, descriptorIndex := 35, attributes := #[] }, { accessFlags := 18, nameIndex := 38, descriptorIndex := 39, attributes := #[] }, { accessFlags := 18, nameIndex := 74, descriptorIndex := 10, attributes := #[] }, { accessFlags := 18, nameIndex := 77, descriptorIndex := 10, attributes := #[] }, { accessFlags := 2, nameIndex := 15, descriptorIndex := 16, attributes := #[] }, { accessFlags := 2, nameIndex := 111, descriptorIndex := 29, attributes := #[] }])
  fields := #[{ name := "MOST", type := .int, accessFlags := 25, slot := 0, constantValue := 0 }, { name := "BITS", type := .int, accessFlags := 26, slot := 1, constantValue := 0 }, { name := "width", type := .int, accessFlags := 18, slot := 0, constantValue := 0 }, { name := "all", type := .long, accessFlags := 18, slot := 1, constantValue := 0 }, { name := "offsets", type := (.array .int), accessFlags := 18, slot := 2, constantValue := 0 }, { name := "words", type := (.array .long), accessFlags := 18, slot := 3, constantValue := 0 }, { name := "values", type := (.array .long), accessFlags := 18, slot := 4, constantValue := 0 }, { name := "lent", type := (.array (.array .long)), accessFlags := 2, slot := 5, constantValue := 0 }, { name := "lentCount", type := .int, accessFlags := 2, slot := 6, constantValue := 0 }]
  methods := #[k23m0, k23m1, k23m2, k23m3, k23m4, k23m5]
  instanceTypes := #[.int, .long, (.array .int), (.array .long), (.array .long), (.array (.array .long)), .int]
  staticTypes := #[.int, .int]
  resolved := Array.replicate 170 none
  statics := none }

def pool24 : Array CpInfo := pool [(16, .class_ 18), (1, u "java/util/Iterator"), (0, u "hasNext"), (0, u "()Z"), (2, u "next"), (0, u "()Ljava/lang/Object;"), (6, .class_ 32), (0, u "java/lang/Object")] 20

def k24m0 : Method := { name := "hasNext", desc := "()Z", sig := { parameters := [], returnType := some .boolean }, accessFlags := 1025, code := none }
def k24m1 : Method := { name := "next", desc := "()Ljava/lang/Object;", sig := { parameters := [], returnType := some (.object "java/lang/Object") }, accessFlags := 1025, code := none }
/-- java/util/Iterator -/
def k24 : Class := { plain "java/util/Iterator" (some 0) with
  accessFlags := 1537
  interfaces := #[]
  cf := some (fileOf pool24 16 #[] #[{ accessFlags := 1025, nameIndex := 19, descriptorIndex := 20, attributes := #[] }, { accessFlags := 1025, nameIndex := 23, descriptorIndex := 24, attributes := #[] }] 1537 31 #[] #[])
  fields := #[]
  methods := #[k24m0, k24m1]
  instanceTypes := #[]
  staticTypes := #[]
  resolved := Array.replicate 53 none
  statics := none }

def pool25 : Array CpInfo := pool [(1, .fieldref 2 3), (0, .class_ 4), (0, .nameAndType 5 6), (0, u "java/util/ArrayList$Itr"), (0, u "this$0"), (0, u "Ljava/util/ArrayList;"), (0, .methodref 8 9), (0, .class_ 10), (0, .nameAndType 11 12), (0, u "java/lang/Object"), (0, u "<init>"), (0, u "()V"), (0, .fieldref 2 14), (0, .nameAndType 15 16), (0, u "lastRet"), (0, u "I"), (0, .fieldref 18 19), (0, .class_ 20), (0, .nameAndType 21 16), (0, u "java/util/ArrayList"), (0, u "modCount"), (0, .fieldref 2 23), (0, .nameAndType 24 16), (0, u "expectedModCount"), (0, .fieldref 2 26), (0, .nameAndType 27 16), (0, u "cursor"), (0, .fieldref 18 29), (0, .nameAndType 30 16), (0, u "size"), (0, .methodref 2 32), (0, .nameAndType 33 12), (0, u "checkForComodification"), (3, .fieldref 18 38), (0, .nameAndType 39 40), (0, u "elementData"), (0, u "[Ljava/lang/Object;"), (28, .class_ 70), (0, u "java/util/Iterator"), (0, u "(Ljava/util/ArrayList;)V"), (8, u "hasNext"), (0, u "()Z"), (1, u "next"), (0, u "()Ljava/lang/Object;")] 19

def k25c0 : Code := { maxStack := 2, maxLocals := 2, code := jdk_49_method_1_code, exceptionTable := #[], attributes := #[] }
def k25m0 : Method := { name := "<init>", desc := "(Ljava/util/ArrayList;)V", sig := { parameters := [(.object "java/util/ArrayList")], returnType := none }, accessFlags := 0, code := some k25c0 }
def k25c1 : Code := { maxStack := 2, maxLocals := 1, code := jdk_49_method_2_code, exceptionTable := #[], attributes := #[] }
def k25m1 : Method := { name := "hasNext", desc := "()Z", sig := { parameters := [], returnType := some .boolean }, accessFlags := 1, code := some k25c1 }
def k25c2 : Code := { maxStack := 4, maxLocals := 3, code := jdk_49_method_3_code, exceptionTable := #[], attributes := #[] }
def k25m2 : Method := { name := "next", desc := "()Ljava/lang/Object;", sig := { parameters := [], returnType := some (.object "java/lang/Object") }, accessFlags := 1, code := some k25c2 }
def k25c3 : Code := { maxStack := 2, maxLocals := 1, code := jdk_49_method_6_code, exceptionTable := #[], attributes := #[] }
def k25m3 : Method := { name := "checkForComodification", desc := "()V", sig := { parameters := [], returnType := none }, accessFlags := 16, code := some k25c3 }
/-- java/util/ArrayList$Itr -/
def k25 : Class := { plain "java/util/ArrayList$Itr" (some 0) with
  accessFlags := 32
  interfaces := #[24]
  cf := some (fileOf pool25 2 #[.nestHost 18] #[{ accessFlags := 0, nameIndex := 11, descriptorIndex := 71, attributes := #[] }, { accessFlags := 1, nameIndex := 80, descriptorIndex := 81, attributes := #[] }, { accessFlags := 1, nameIndex := 83, descriptorIndex := 84, attributes := #[] }, { accessFlags := 16, nameIndex := 33, descriptorIndex := 12, attributes := #[] }] 32 8 #[69] #[{ accessFlags := 0, nameIndex := 27, descriptorIndex := 16, attributes := #[] }, { accessFlags := 0, nameIndex := 15, descriptorIndex := 16, attributes := #[] }, { accessFlags := 0, nameIndex := 24, descriptorIndex := 16, attributes := #[] }, { accessFlags := 4112, nameIndex := 5, descriptorIndex := 6, attributes := #[] }])
  fields := #[{ name := "cursor", type := .int, accessFlags := 0, slot := 0, constantValue := 0 }, { name := "lastRet", type := .int, accessFlags := 0, slot := 1, constantValue := 0 }, { name := "expectedModCount", type := .int, accessFlags := 0, slot := 2, constantValue := 0 }, { name := "this$0", type := (.object "java/util/ArrayList"), accessFlags := 4112, slot := 3, constantValue := 0 }]
  methods := #[k25m0, k25m1, k25m2, k25m3]
  instanceTypes := #[.int, .int, .int, (.object "java/util/ArrayList")]
  staticTypes := #[]
  resolved := Array.replicate 104 none
  statics := none }

def pool26 : Array CpInfo := pool [(2, .class_ 4), (1, u "java/lang/Object"), (0, u "<init>"), (0, u "()V"), (6, .methodref 14 15), (0, .class_ 16), (0, .nameAndType 17 18), (0, u "java/util/Arrays"), (0, u "rangeCheck"), (0, u "(III)V"), (55, .class_ 76), (1, u "java/util/Arrays$NaturalOrder"), (36, .class_ 115), (1, u "java/util/Arrays$LegacyMergeSort"), (1, u "Z"), (257, .class_ 376), (0, u "java/util/Arrays$ArrayList"), (68, u "$assertionsDisabled"), (269, u "MIN_ARRAY_SORT_GRAN"), (0, u "I"), (2, u "INSERTIONSORT_THRESHOLD"), (120, u "fill"), (3, u "([JIIJ)V"), (130, .class_ 976), (0, u "java/util/Arrays$ArrayItr")] 52

def k26m0 : Method := { name := "<init>", desc := "()V", sig := { parameters := [], returnType := none }, accessFlags := 2, code := none }
def k26c1 : Code := { maxStack := 4, maxLocals := 3, code := jdk_65_method_30_code, exceptionTable := #[], attributes := #[] }
def k26m1 : Method := { name := "rangeCheck", desc := "(III)V", sig := { parameters := [.int, .int, .int], returnType := none }, accessFlags := 8, code := some k26c1 }
def k26c2 : Code := { maxStack := 4, maxLocals := 6, code := jdk_65_method_102_code, exceptionTable := #[], attributes := #[] }
def k26m2 : Method := { name := "fill", desc := "([JIIJ)V", sig := { parameters := [(.array .long), .int, .int, .long], returnType := none }, accessFlags := 9, code := some k26c2 }
/-- java/util/Arrays -/
def k26 : Class := { plain "java/util/Arrays" (some 0) with
  accessFlags := 49
  interfaces := #[]
  cf := some (fileOf pool26 14 #[.nestMembers #[975, 375, 113, 74]] #[{ accessFlags := 2, nameIndex := 5, descriptorIndex := 6, attributes := #[] }, { accessFlags := 8, nameIndex := 17, descriptorIndex := 18, attributes := #[] }, { accessFlags := 9, nameIndex := 840, descriptorIndex := 844, attributes := #[] }] 49 2 #[] #[{ accessFlags := 26, nameIndex := 715, descriptorIndex := 716, attributes := #[] }, { accessFlags := 26, nameIndex := 719, descriptorIndex := 716, attributes := #[] }, { accessFlags := 4120, nameIndex := 445, descriptorIndex := 117, attributes := #[] }])
  fields := #[{ name := "MIN_ARRAY_SORT_GRAN", type := .int, accessFlags := 26, slot := 0, constantValue := 0 }, { name := "INSERTIONSORT_THRESHOLD", type := .int, accessFlags := 26, slot := 1, constantValue := 0 }, { name := "$assertionsDisabled", type := .boolean, accessFlags := 4120, slot := 2, constantValue := 0 }]
  methods := #[k26m0, k26m1, k26m2]
  instanceTypes := #[]
  staticTypes := #[.int, .int, .boolean]
  resolved := Array.replicate 1029 none
  statics := none }

/-- the primitive byte -/
def k27 : Class := { plain "byte" none with kind := .primitive 'B', accessFlags := 0x411 }
/-- [B -/
def k28 : Class := { plain "[B" (some 0) with kind := .array 27 .byte, interfaces := #[9, 10], accessFlags := 1041 }

/-- the primitive int -/
def k29 : Class := { plain "int" none with kind := .primitive 'I', accessFlags := 0x411 }
/-- [I -/
def k30 : Class := { plain "[I" (some 0) with kind := .array 29 .int, interfaces := #[9, 10], accessFlags := 1041 }

/-- the primitive long -/
def k31 : Class := { plain "long" none with kind := .primitive 'J', accessFlags := 0x411 }
/-- [J -/
def k32 : Class := { plain "[J" (some 0) with kind := .array 31 .long, interfaces := #[9, 10], accessFlags := 1041 }

/-- [Ljava/lang/Object; -/
def k33 : Class := { plain "[Ljava/lang/Object;" (some 0) with kind := .array 0 (.object "java/lang/Object"), interfaces := #[9, 10], accessFlags := 1041 }

/-- [[J -/
def k34 : Class := { plain "[[J" (some 0) with kind := .array 32 (.array .long), interfaces := #[9, 10], accessFlags := 1041 }
def heap : Heap := #[{ cls := 11, slots := #[.long 0, .int 0, .ref 3, .ref 4], vm := .statics 11 },
  { cls := 21, slots := #[.ref 2, .null, .null, .null, .null, .null, .null, .null, .null, .null], vm := .statics 21 },
  { cls := 21, slots := #[.null, .int 0, .int 0, .int 0, .int 0, .null], vm := .none },
  { cls := 33, slots := #[], vm := .none },
  { cls := 33, slots := #[], vm := .none }]
def classes : Array Class := #[k0, k1, k2, k3, k4, k5, k6, k7, k8, k9, k10, k11, k12, k13, k14, k15, k16, k17, k18, k19, k20, k21, k22, k23, k24, k25, k26, k27, k28, k29, k30, k31, k32, k33, k34]
def interned : List (Array UInt16 × Addr) := []
def slotsUsed : Nat := 20
def theMethod : MethodId := ⟨1, 1⟩
def args0 : Array Value := #[.int 5, .int 7, .int 9, .long 3, .long 4, .long 5]
def aboutOver (below : List Frame) : State where
  vm := { classes := classes, interned := interned.toArray }
  heap := heap
  slotsUsed := slotsUsed
  threads := #[{ frames := .invoking theMethod args0 :: below }]
def below0 : List Frame := [.native { method := ⟨0, 0⟩, args := #[] }]
def about1 : State := aboutOver below0
def p0 : Program := .bare "" "" ""
def e0 : Env := launch0.env 0 0 0
theorem w_frames : about1.frames = Frame.invoking theMethod args0 :: below0 := rfl
set_option maxRecDepth 65536 in
theorem w_args : argsFit about1.vm theMethod args0 = true := by decide +kernel
set_option maxRecDepth 65536 in
theorem w_heap : heapFits about1 = true := by decide +kernel
set_option maxRecDepth 65536 in
theorem w_runnable : about1.curStatus? = some .runnable := by decide +kernel
set_option maxRecDepth 65536 in
theorem w_alone : about1.alone = true := by decide +kernel
set_option maxRecDepth 65536 in
theorem w_named : about1.methodNamed? x = some theMethod := by decide +kernel
set_option maxRecDepth 65536 in
theorem w_hears : about1.hears theMethod below0 = true := by decide +kernel
set_option maxRecDepth 65536 in
theorem w_ripe : about1.ripe theMethod args0 below0 = true := by decide +kernel
theorem w_running : about1.status = .running := rfl
set_option maxRecDepth 65536 in
theorem w_room : about1.hasRoom e0.platform room_1 = true :=
  launch0.hasRoom_least _ room_1 (by decide +kernel) (by decide +kernel) (by decide +kernel) (by decide +kernel) (by decide +kernel) (by decide +kernel)
theorem allAtoms_all (ts : List Jvm.Cond) (a : Array Jvm.Value) (st : Jvm.State) : (allAtoms ts).before a st = ts.all (fun c => c.before a st) := by
  induction ts with
  | nil => rfl
  | cons c t ih =>
    show (Jvm.Cond.and c (allAtoms t)).before a st = _
    rw [Jvm.Cond.before_and, ih, List.all_cons]
def words1 : List Jvm.Cond := Jvm.Cond.code x code maxLocals ret :: tables_1
/-- a 'code' word, met by the world's own term for the bytes: nothing is compared byte by byte -/
theorem code_word {y : MethodName} {bytes : ByteArray} {mx : Nat} {rt : Option FieldType} {a : Array Value} {s : State} {m : MethodId} {meth : Method} {c : Code} (h1 : s.methodNamed? y = some m) (h2 : s.vm.method? m = some meth) (h3 : meth.code = some c) (h4 : c.code = bytes)
    (h5 : (c.maxLocals == mx && c.exceptionTable.isEmpty && decide (c.maxStack ≤ mostOperands) && decide (meth.sig.returnType = rt) && !meth.locks && decide (parseMethodDescriptor y.desc = some meth.sig)) = true) : (Jvm.Cond.code y bytes mx rt).before a s = true := by
  simp only [Bool.and_eq_true, beq_iff_eq, Bool.not_eq_true', decide_eq_true_eq] at h5
  obtain ⟨⟨⟨⟨⟨g1, g2⟩, g3⟩, g4⟩, g5⟩, g6⟩ := h5
  simp [Cond.before, Cond.holds, Cond.value, h1, h2, h3, h4, g1, g2, g3, g4, g5, g6]
def isCode : Jvm.Cond → Bool
  | .code _ _ _ _ => true
  | _ => false
theorem all_split {L : List Jvm.Cond} {P : Jvm.Cond → Bool} (h1 : L.all (fun c => isCode c || P c) = true) (h2 : ∀ c ∈ L.filter isCode, P c = true) : L.all P = true := by
  refine List.all_eq_true.mpr fun c hc => ?_
  have h := List.all_eq_true.mp h1 c hc
  rcases Bool.eq_false_or_eq_true (isCode c) with hi | hi
  · exact h2 c (List.mem_filter.mpr ⟨hc, hi⟩)
  · simpa [hi] using h
set_option maxRecDepth 65536 in
theorem w_c0 : (Jvm.Cond.code x code maxLocals ret).before args0 about1 = true := code_word (m := ⟨1, 1⟩) (meth := k1m1) (c := k1c1) (by decide +kernel) rfl rfl rfl (by decide +kernel)
set_option maxRecDepth 65536 in
theorem w_c1 : (Jvm.Cond.code ({ cls := "java/util/ArrayList", name := "<init>", desc := "()V" } : Jvm.MethodName) jdk_38_method_2_code (1 : Nat) (Option.none : Option Jvm.ClassFile.FieldType)).before args0 about1 = true := code_word (m := ⟨11, 0⟩) (meth := k11m0) (c := k11c0) (by decide +kernel) rfl rfl rfl (by decide +kernel)
set_option maxRecDepth 65536 in
theorem w_c2 : (Jvm.Cond.code ({ cls := "java/util/AbstractList", name := "<init>", desc := "()V" } : Jvm.MethodName) jdk_39_method_1_code (1 : Nat) (Option.none : Option Jvm.ClassFile.FieldType)).before args0 about1 = true := code_word (m := ⟨7, 0⟩) (meth := k7m0) (c := k7c0) (by decide +kernel) rfl rfl rfl (by decide +kernel)
set_option maxRecDepth 65536 in
theorem w_c3 : (Jvm.Cond.code ({ cls := "java/util/AbstractCollection", name := "<init>", desc := "()V" } : Jvm.MethodName) jdk_22_method_1_code (1 : Nat) (Option.none : Option Jvm.ClassFile.FieldType)).before args0 about1 = true := code_word (m := ⟨4, 0⟩) (meth := k4m0) (c := k4c0) (by decide +kernel) rfl rfl rfl (by decide +kernel)
set_option maxRecDepth 65536 in
theorem w_c4 : (Jvm.Cond.code ({ cls := "java/lang/Object", name := "<init>", desc := "()V" } : Jvm.MethodName) object_method_1_code (1 : Nat) (Option.none : Option Jvm.ClassFile.FieldType)).before args0 about1 = true := code_word (m := ⟨0, 0⟩) (meth := k0m0) (c := k0c0) (by decide +kernel) rfl rfl rfl (by decide +kernel)
set_option maxRecDepth 65536 in
theorem w_c5 : (Jvm.Cond.code ({ cls := "com/example/verdikt/verdikt/model/Variable", name := "<init>", desc := "(Ljava/lang/String;Lcom/example/verdikt/verdikt/model/Variable$Section;Lcom/example/verdikt/verdikt/model/ElementaryType;JI)V" } : Jvm.MethodName) prog_108_method_1_code (7 : Nat) (Option.none : Option Jvm.ClassFile.FieldType)).before args0 about1 = true := code_word (m := ⟨14, 0⟩) (meth := k14m0) (c := k14c0) (by decide +kernel) rfl rfl rfl (by decide +kernel)
set_option maxRecDepth 65536 in
theorem w_c6 : (Jvm.Cond.code ({ cls := "java/lang/Record", name := "<init>", desc := "()V" } : Jvm.MethodName) jdk_30_method_1_code (1 : Nat) (Option.none : Option Jvm.ClassFile.FieldType)).before args0 about1 = true := code_word (m := ⟨12, 0⟩) (meth := k12m0) (c := k12c0) (by decide +kernel) rfl rfl rfl (by decide +kernel)
set_option maxRecDepth 65536 in
theorem w_c7 : (Jvm.Cond.code ({ cls := "java/util/ArrayList", name := "add", desc := "(Ljava/lang/Object;)Z" } : Jvm.MethodName) jdk_38_method_25_code (2 : Nat) (Option.some Jvm.ClassFile.FieldType.boolean)).before args0 about1 = true := code_word (m := ⟨11, 4⟩) (meth := k11m4) (c := k11c4) (by decide +kernel) rfl rfl rfl (by decide +kernel)
set_option maxRecDepth 65536 in
theorem w_c8 : (Jvm.Cond.code ({ cls := "java/util/ArrayList", name := "add", desc := "(Ljava/lang/Object;[Ljava/lang/Object;I)V" } : Jvm.MethodName) jdk_38_method_24_code (4 : Nat) (Option.none : Option Jvm.ClassFile.FieldType)).before args0 about1 = true := code_word (m := ⟨11, 3⟩) (meth := k11m3) (c := k11c3) (by decide +kernel) rfl rfl rfl (by decide +kernel)
set_option maxRecDepth 65536 in
theorem w_c9 : (Jvm.Cond.code ({ cls := "java/util/ArrayList", name := "grow", desc := "()[Ljava/lang/Object;" } : Jvm.MethodName) jdk_38_method_7_code (1 : Nat) (Option.some (Jvm.ClassFile.FieldType.array (Jvm.ClassFile.FieldType.object "java/lang/Object")))).before args0 about1 = true := code_word (m := ⟨11, 2⟩) (meth := k11m2) (c := k11c2) (by decide +kernel) rfl rfl rfl (by decide +kernel)
set_option maxRecDepth 65536 in
theorem w_c10 : (Jvm.Cond.code ({ cls := "java/util/ArrayList", name := "grow", desc := "(I)[Ljava/lang/Object;" } : Jvm.MethodName) jdk_38_method_6_code (4 : Nat) (Option.some (Jvm.ClassFile.FieldType.array (Jvm.ClassFile.FieldType.object "java/lang/Object")))).before args0 about1 = true := code_word (m := ⟨11, 1⟩) (meth := k11m1) (c := k11c1) (by decide +kernel) rfl rfl rfl (by decide +kernel)
set_option maxRecDepth 65536 in
theorem w_c11 : (Jvm.Cond.code ({ cls := "java/lang/Math", name := "max", desc := "(II)I" } : Jvm.MethodName) jdk_29_method_65_code (2 : Nat) (Option.some Jvm.ClassFile.FieldType.int)).before args0 about1 = true := code_word (m := ⟨22, 1⟩) (meth := k22m1) (c := k22c1) (by decide +kernel) rfl rfl rfl (by decide +kernel)
set_option maxRecDepth 65536 in
theorem w_c12 : (Jvm.Cond.code ({ cls := "com/example/verdikt/verdikt/model/Lanes", name := "<init>", desc := "(ILjava/util/List;I)V" } : Jvm.MethodName) prog_90_method_1_code (6 : Nat) (Option.none : Option Jvm.ClassFile.FieldType)).before args0 about1 = true := code_word (m := ⟨23, 0⟩) (meth := k23m0) (c := k23c0) (by decide +kernel) rfl rfl rfl (by decide +kernel)
set_option maxRecDepth 65536 in
theorem w_c13 : (Jvm.Cond.code ({ cls := "java/util/ArrayList", name := "iterator", desc := "()Ljava/util/Iterator;" } : Jvm.MethodName) jdk_38_method_55_code (1 : Nat) (Option.some (Jvm.ClassFile.FieldType.object "java/util/Iterator"))).before args0 about1 = true := code_word (m := ⟨11, 5⟩) (meth := k11m5) (c := k11c5) (by decide +kernel) rfl rfl rfl (by decide +kernel)
set_option maxRecDepth 65536 in
theorem w_c14 : (Jvm.Cond.code ({ cls := "java/util/ArrayList$Itr", name := "<init>", desc := "(Ljava/util/ArrayList;)V" } : Jvm.MethodName) jdk_49_method_1_code (2 : Nat) (Option.none : Option Jvm.ClassFile.FieldType)).before args0 about1 = true := code_word (m := ⟨25, 0⟩) (meth := k25m0) (c := k25c0) (by decide +kernel) rfl rfl rfl (by decide +kernel)
set_option maxRecDepth 65536 in
theorem w_c15 : (Jvm.Cond.code ({ cls := "java/util/ArrayList$Itr", name := "hasNext", desc := "()Z" } : Jvm.MethodName) jdk_49_method_2_code (1 : Nat) (Option.some Jvm.ClassFile.FieldType.boolean)).before args0 about1 = true := code_word (m := ⟨25, 1⟩) (meth := k25m1) (c := k25c1) (by decide +kernel) rfl rfl rfl (by decide +kernel)
set_option maxRecDepth 65536 in
theorem w_c16 : (Jvm.Cond.code ({ cls := "java/util/ArrayList$Itr", name := "next", desc := "()Ljava/lang/Object;" } : Jvm.MethodName) jdk_49_method_3_code (3 : Nat) (Option.some (Jvm.ClassFile.FieldType.object "java/lang/Object"))).before args0 about1 = true := code_word (m := ⟨25, 2⟩) (meth := k25m2) (c := k25c2) (by decide +kernel) rfl rfl rfl (by decide +kernel)
set_option maxRecDepth 65536 in
theorem w_c17 : (Jvm.Cond.code ({ cls := "java/util/ArrayList$Itr", name := "checkForComodification", desc := "()V" } : Jvm.MethodName) jdk_49_method_6_code (1 : Nat) (Option.none : Option Jvm.ClassFile.FieldType)).before args0 about1 = true := code_word (m := ⟨25, 3⟩) (meth := k25m3) (c := k25c3) (by decide +kernel) rfl rfl rfl (by decide +kernel)
set_option maxRecDepth 65536 in
theorem w_c18 : (Jvm.Cond.code ({ cls := "com/example/verdikt/verdikt/model/Variable", name := "type", desc := "()Lcom/example/verdikt/verdikt/model/ElementaryType;" } : Jvm.MethodName) prog_108_method_7_code (1 : Nat) (Option.some (Jvm.ClassFile.FieldType.object "com/example/verdikt/verdikt/model/ElementaryType"))).before args0 about1 = true := code_word (m := ⟨14, 1⟩) (meth := k14m1) (c := k14c1) (by decide +kernel) rfl rfl rfl (by decide +kernel)
set_option maxRecDepth 65536 in
theorem w_c19 : (Jvm.Cond.code ({ cls := "com/example/verdikt/verdikt/model/Variable", name := "index", desc := "()I" } : Jvm.MethodName) prog_108_method_9_code (1 : Nat) (Option.some Jvm.ClassFile.FieldType.int)).before args0 about1 = true := code_word (m := ⟨14, 2⟩) (meth := k14m2) (c := k14c2) (by decide +kernel) rfl rfl rfl (by decide +kernel)
set_option maxRecDepth 65536 in
theorem w_c20 : (Jvm.Cond.code ({ cls := "com/example/verdikt/verdikt/model/Lanes", name := "fill", desc := "([J)V" } : Jvm.MethodName) prog_90_method_10_code (3 : Nat) (Option.none : Option Jvm.ClassFile.FieldType)).before args0 about1 = true := code_word (m := ⟨23, 3⟩) (meth := k23m3) (c := k23c3) (by decide +kernel) rfl rfl rfl (by decide +kernel)
set_option maxRecDepth 65536 in
theorem w_c21 : (Jvm.Cond.code ({ cls := "java/util/Arrays", name := "fill", desc := "([JIIJ)V" } : Jvm.MethodName) jdk_65_method_102_code (6 : Nat) (Option.none : Option Jvm.ClassFile.FieldType)).before args0 about1 = true := code_word (m := ⟨26, 2⟩) (meth := k26m2) (c := k26c2) (by decide +kernel) rfl rfl rfl (by decide +kernel)
set_option maxRecDepth 65536 in
theorem w_c22 : (Jvm.Cond.code ({ cls := "java/util/Arrays", name := "rangeCheck", desc := "(III)V" } : Jvm.MethodName) jdk_65_method_30_code (3 : Nat) (Option.none : Option Jvm.ClassFile.FieldType)).before args0 about1 = true := code_word (m := ⟨26, 1⟩) (meth := k26m1) (c := k26c1) (by decide +kernel) rfl rfl rfl (by decide +kernel)
set_option maxRecDepth 65536 in
theorem w_c23 : (Jvm.Cond.code ({ cls := "com/example/verdikt/verdikt/model/Lanes", name := "setBits", desc := "(IJJ)V" } : Jvm.MethodName) prog_90_method_14_code (6 : Nat) (Option.none : Option Jvm.ClassFile.FieldType)).before args0 about1 = true := code_word (m := ⟨23, 5⟩) (meth := k23m5) (c := k23c5) (by decide +kernel) rfl rfl rfl (by decide +kernel)
set_option maxRecDepth 65536 in
theorem w_c24 : (Jvm.Cond.code ({ cls := "com/example/verdikt/verdikt/model/Lanes", name := "setCell", desc := "(IIJ)V" } : Jvm.MethodName) prog_90_method_8_code (7 : Nat) (Option.none : Option Jvm.ClassFile.FieldType)).before args0 about1 = true := code_word (m := ⟨23, 2⟩) (meth := k23m2) (c := k23c2) (by decide +kernel) rfl rfl rfl (by decide +kernel)
set_option maxRecDepth 65536 in
theorem w_c25 : (Jvm.Cond.code ({ cls := "com/example/verdikt/verdikt/model/Lanes", name := "cell", desc := "(II)J" } : Jvm.MethodName) prog_90_method_7_code (5 : Nat) (Option.some Jvm.ClassFile.FieldType.long)).before args0 about1 = true := code_word (m := ⟨23, 1⟩) (meth := k23m1) (c := k23c1) (by decide +kernel) rfl rfl rfl (by decide +kernel)
set_option maxRecDepth 65536 in
theorem w_c26 : (Jvm.Cond.code ({ cls := "com/example/verdikt/verdikt/model/Lanes", name := "bits", desc := "(I)J" } : Jvm.MethodName) prog_90_method_13_code (2 : Nat) (Option.some Jvm.ClassFile.FieldType.long)).before args0 about1 = true := code_word (m := ⟨23, 4⟩) (meth := k23m4) (c := k23c4) (by decide +kernel) rfl rfl rfl (by decide +kernel)
set_option maxRecDepth 65536 in
theorem w_c27 : (Jvm.Cond.code ({ cls := "com/example/verdikt/verdikt/model/LanesSetCellPinLaw", name := "before", desc := "(IIIJJ)J" } : Jvm.MethodName) method_3_code (7 : Nat) (Option.some Jvm.ClassFile.FieldType.long)).before args0 about1 = true := code_word (m := ⟨1, 2⟩) (meth := k1m2) (c := k1c2) (by decide +kernel) rfl rfl rfl (by decide +kernel)
def codes1 : List Jvm.Cond := [Jvm.Cond.code x code maxLocals ret, Jvm.Cond.code ({ cls := "java/util/ArrayList", name := "<init>", desc := "()V" } : Jvm.MethodName) jdk_38_method_2_code (1 : Nat) (Option.none : Option Jvm.ClassFile.FieldType), Jvm.Cond.code ({ cls := "java/util/AbstractList", name := "<init>", desc := "()V" } : Jvm.MethodName) jdk_39_method_1_code (1 : Nat) (Option.none : Option Jvm.ClassFile.FieldType), Jvm.Cond.code ({ cls := "java/util/AbstractCollection", name := "<init>", desc := "()V" } : Jvm.MethodName) jdk_22_method_1_code (1 : Nat) (Option.none : Option Jvm.ClassFile.FieldType), Jvm.Cond.code ({ cls := "java/lang/Object", name := "<init>", desc := "()V" } : Jvm.MethodName) object_method_1_code (1 : Nat) (Option.none : Option Jvm.ClassFile.FieldType), Jvm.Cond.code ({ cls := "com/example/verdikt/verdikt/model/Variable", name := "<init>", desc := "(Ljava/lang/String;Lcom/example/verdikt/verdikt/model/Variable$Section;Lcom/example/verdikt/verdikt/model/ElementaryType;JI)V" } : Jvm.MethodName) prog_108_method_1_code (7 : Nat) (Option.none : Option Jvm.ClassFile.FieldType), Jvm.Cond.code ({ cls := "java/lang/Record", name := "<init>", desc := "()V" } : Jvm.MethodName) jdk_30_method_1_code (1 : Nat) (Option.none : Option Jvm.ClassFile.FieldType), Jvm.Cond.code ({ cls := "java/util/ArrayList", name := "add", desc := "(Ljava/lang/Object;)Z" } : Jvm.MethodName) jdk_38_method_25_code (2 : Nat) (Option.some Jvm.ClassFile.FieldType.boolean), Jvm.Cond.code ({ cls := "java/util/ArrayList", name := "add", desc := "(Ljava/lang/Object;[Ljava/lang/Object;I)V" } : Jvm.MethodName) jdk_38_method_24_code (4 : Nat) (Option.none : Option Jvm.ClassFile.FieldType), Jvm.Cond.code ({ cls := "java/util/ArrayList", name := "grow", desc := "()[Ljava/lang/Object;" } : Jvm.MethodName) jdk_38_method_7_code (1 : Nat) (Option.some (Jvm.ClassFile.FieldType.array (Jvm.ClassFile.FieldType.object "java/lang/Object"))), Jvm.Cond.code ({ cls := "java/util/ArrayList", name := "grow", desc := "(I)[Ljava/lang/Object;" } : Jvm.MethodName) jdk_38_method_6_code (4 : Nat) (Option.some (Jvm.ClassFile.FieldType.array (Jvm.ClassFile.FieldType.object "java/lang/Object"))), Jvm.Cond.code ({ cls := "java/lang/Math", name := "max", desc := "(II)I" } : Jvm.MethodName) jdk_29_method_65_code (2 : Nat) (Option.some Jvm.ClassFile.FieldType.int), Jvm.Cond.code ({ cls := "com/example/verdikt/verdikt/model/Lanes", name := "<init>", desc := "(ILjava/util/List;I)V" } : Jvm.MethodName) prog_90_method_1_code (6 : Nat) (Option.none : Option Jvm.ClassFile.FieldType), Jvm.Cond.code ({ cls := "java/util/ArrayList", name := "iterator", desc := "()Ljava/util/Iterator;" } : Jvm.MethodName) jdk_38_method_55_code (1 : Nat) (Option.some (Jvm.ClassFile.FieldType.object "java/util/Iterator")), Jvm.Cond.code ({ cls := "java/util/ArrayList$Itr", name := "<init>", desc := "(Ljava/util/ArrayList;)V" } : Jvm.MethodName) jdk_49_method_1_code (2 : Nat) (Option.none : Option Jvm.ClassFile.FieldType), Jvm.Cond.code ({ cls := "java/util/ArrayList$Itr", name := "hasNext", desc := "()Z" } : Jvm.MethodName) jdk_49_method_2_code (1 : Nat) (Option.some Jvm.ClassFile.FieldType.boolean), Jvm.Cond.code ({ cls := "java/util/ArrayList$Itr", name := "next", desc := "()Ljava/lang/Object;" } : Jvm.MethodName) jdk_49_method_3_code (3 : Nat) (Option.some (Jvm.ClassFile.FieldType.object "java/lang/Object")), Jvm.Cond.code ({ cls := "java/util/ArrayList$Itr", name := "checkForComodification", desc := "()V" } : Jvm.MethodName) jdk_49_method_6_code (1 : Nat) (Option.none : Option Jvm.ClassFile.FieldType), Jvm.Cond.code ({ cls := "com/example/verdikt/verdikt/model/Variable", name := "type", desc := "()Lcom/example/verdikt/verdikt/model/ElementaryType;" } : Jvm.MethodName) prog_108_method_7_code (1 : Nat) (Option.some (Jvm.ClassFile.FieldType.object "com/example/verdikt/verdikt/model/ElementaryType")), Jvm.Cond.code ({ cls := "com/example/verdikt/verdikt/model/Variable", name := "index", desc := "()I" } : Jvm.MethodName) prog_108_method_9_code (1 : Nat) (Option.some Jvm.ClassFile.FieldType.int), Jvm.Cond.code ({ cls := "com/example/verdikt/verdikt/model/Lanes", name := "fill", desc := "([J)V" } : Jvm.MethodName) prog_90_method_10_code (3 : Nat) (Option.none : Option Jvm.ClassFile.FieldType), Jvm.Cond.code ({ cls := "java/util/Arrays", name := "fill", desc := "([JIIJ)V" } : Jvm.MethodName) jdk_65_method_102_code (6 : Nat) (Option.none : Option Jvm.ClassFile.FieldType), Jvm.Cond.code ({ cls := "java/util/Arrays", name := "rangeCheck", desc := "(III)V" } : Jvm.MethodName) jdk_65_method_30_code (3 : Nat) (Option.none : Option Jvm.ClassFile.FieldType), Jvm.Cond.code ({ cls := "com/example/verdikt/verdikt/model/Lanes", name := "setBits", desc := "(IJJ)V" } : Jvm.MethodName) prog_90_method_14_code (6 : Nat) (Option.none : Option Jvm.ClassFile.FieldType), Jvm.Cond.code ({ cls := "com/example/verdikt/verdikt/model/Lanes", name := "setCell", desc := "(IIJ)V" } : Jvm.MethodName) prog_90_method_8_code (7 : Nat) (Option.none : Option Jvm.ClassFile.FieldType), Jvm.Cond.code ({ cls := "com/example/verdikt/verdikt/model/Lanes", name := "cell", desc := "(II)J" } : Jvm.MethodName) prog_90_method_7_code (5 : Nat) (Option.some Jvm.ClassFile.FieldType.long), Jvm.Cond.code ({ cls := "com/example/verdikt/verdikt/model/Lanes", name := "bits", desc := "(I)J" } : Jvm.MethodName) prog_90_method_13_code (2 : Nat) (Option.some Jvm.ClassFile.FieldType.long), Jvm.Cond.code ({ cls := "com/example/verdikt/verdikt/model/LanesSetCellPinLaw", name := "before", desc := "(IIIJJ)J" } : Jvm.MethodName) method_3_code (7 : Nat) (Option.some Jvm.ClassFile.FieldType.long)]
set_option maxRecDepth 65536 in
theorem codes_eq : words1.filter isCode = codes1 := rfl
theorem w_codes : ∀ c ∈ words1.filter isCode, c.before args0 about1 = true := by
  rw [codes_eq]
  intro c hc
  simp only [codes1, List.mem_cons, List.not_mem_nil, or_false] at hc
  rcases hc with rfl | rfl | rfl | rfl | rfl | rfl | rfl | rfl | rfl | rfl | rfl | rfl | rfl | rfl | rfl | rfl | rfl | rfl | rfl | rfl | rfl | rfl | rfl | rfl | rfl | rfl | rfl | rfl
  · exact w_c0
  · exact w_c1
  · exact w_c2
  · exact w_c3
  · exact w_c4
  · exact w_c5
  · exact w_c6
  · exact w_c7
  · exact w_c8
  · exact w_c9
  · exact w_c10
  · exact w_c11
  · exact w_c12
  · exact w_c13
  · exact w_c14
  · exact w_c15
  · exact w_c16
  · exact w_c17
  · exact w_c18
  · exact w_c19
  · exact w_c20
  · exact w_c21
  · exact w_c22
  · exact w_c23
  · exact w_c24
  · exact w_c25
  · exact w_c26
  · exact w_c27
set_option maxRecDepth 65536 in
theorem w_t1 : (words1.take 24).all (fun c => isCode c || c.before args0 about1) = true := by decide +kernel
set_option maxRecDepth 65536 in
theorem w_t2 : ((words1.drop 24).take 24).all (fun c => isCode c || c.before args0 about1) = true := by decide +kernel
set_option maxRecDepth 65536 in
theorem w_t3 : (((words1.drop 24).drop 24).take 24).all (fun c => isCode c || c.before args0 about1) = true := by decide +kernel
set_option maxRecDepth 65536 in
theorem w_t4 : ((((words1.drop 24).drop 24).drop 24).take 24).all (fun c => isCode c || c.before args0 about1) = true := by decide +kernel
set_option maxRecDepth 65536 in
theorem w_t5 : (((((words1.drop 24).drop 24).drop 24).drop 24).take 24).all (fun c => isCode c || c.before args0 about1) = true := by decide +kernel
set_option maxRecDepth 65536 in
theorem w_t6 : ((((((words1.drop 24).drop 24).drop 24).drop 24).drop 24).take 24).all (fun c => isCode c || c.before args0 about1) = true := by decide +kernel
set_option maxRecDepth 65536 in
theorem w_t7 : (((((((words1.drop 24).drop 24).drop 24).drop 24).drop 24).drop 24).take 24).all (fun c => isCode c || c.before args0 about1) = true := by decide +kernel
set_option maxRecDepth 65536 in
theorem w_t8 : ((((((((words1.drop 24).drop 24).drop 24).drop 24).drop 24).drop 24).drop 24).take 24).all (fun c => isCode c || c.before args0 about1) = true := by decide +kernel
set_option maxRecDepth 65536 in
theorem w_t9 : (((((((((words1.drop 24).drop 24).drop 24).drop 24).drop 24).drop 24).drop 24).drop 24).take 24).all (fun c => isCode c || c.before args0 about1) = true := by decide +kernel
set_option maxRecDepth 65536 in
theorem w_t10 : (((((((((words1.drop 24).drop 24).drop 24).drop 24).drop 24).drop 24).drop 24).drop 24).drop 24).all (fun c => isCode c || c.before args0 about1) = true := by decide +kernel
theorem w_tables : (allAtoms (Jvm.Cond.code x code maxLocals ret :: tables_1)).before args0 about1 = true := by
  rw [allAtoms_all]
  show words1.all (fun c => c.before args0 about1) = true
  refine all_split ?_ w_codes
  rw [← List.take_append_drop 24 words1, List.all_append, w_t1, ← List.take_append_drop 24 (words1.drop 24), List.all_append, w_t2, ← List.take_append_drop 24 ((words1.drop 24).drop 24), List.all_append, w_t3, ← List.take_append_drop 24 (((words1.drop 24).drop 24).drop 24), List.all_append, w_t4, ← List.take_append_drop 24 ((((words1.drop 24).drop 24).drop 24).drop 24), List.all_append, w_t5, ← List.take_append_drop 24 (((((words1.drop 24).drop 24).drop 24).drop 24).drop 24), List.all_append, w_t6, ← List.take_append_drop 24 ((((((words1.drop 24).drop 24).drop 24).drop 24).drop 24).drop 24), List.all_append, w_t7, ← List.take_append_drop 24 (((((((words1.drop 24).drop 24).drop 24).drop 24).drop 24).drop 24).drop 24), List.all_append, w_t8, ← List.take_append_drop 24 ((((((((words1.drop 24).drop 24).drop 24).drop 24).drop 24).drop 24).drop 24).drop 24), List.all_append, w_t9, w_t10]
  rfl
set_option maxRecDepth 65536 in
theorem w_rest : rest_1_c.before args0 about1 = true := by decide +kernel
set_option maxRecDepth 65536 in
theorem w_case : (Jvm.Cond.and given_1 narrow_1).before args0 about1 = true := by decide +kernel
theorem w_applies : (headSpec (Jvm.Cond.code x code maxLocals ret :: tables_1) room_1).applies x e0.platform about1 = true :=
  (Spec.applies_iff w_frames).mpr ⟨w_running, w_runnable, w_alone, w_named, w_hears, w_ripe, w_room, w_tables⟩
theorem atStart : AtStart classFile x code maxLocals ret World_1 tables_1 room_1 Calls_1 rest_1 Pre_1 launch0 p0 e0 about1 theMethod args0 below0 :=
  ⟨lists_1, trivial, launch0.admits_env _ _ _, launch0.least_env, fairChoices_fair.cas, fairChoices_fair.clock, w_frames, w_args, w_heap, w_applies, trivial, w_rest, w_case⟩
end start1
theorem witness_1 : WitnessClaimed_1 := ⟨start1.p0, start1.e0, start1.about1, start1.theMethod, start1.args0, start1.below0, start1.atStart⟩
end Jvm.Pilot.@@N@@
