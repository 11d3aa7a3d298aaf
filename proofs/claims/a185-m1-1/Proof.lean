import JvmDerived
import JvmDerived.Pilot.@@N@@Statement
import JvmDerived.Pilot.@@N@@Code
set_option linter.unusedVariables false
set_option linter.unusedSimpArgs false
namespace Jvm.OwnW
open Jvm Jvm.ClassFile Sem Op Lib Jvm.Free Jvm.Stand Jvm.LawKit Jvm.RoadKit Bundle
open Jvm.Free.SB Jvm.Free.SBG
abbrev Lits := List (String × Nat × String)
def wst (Z : State) (vm : Vm) (h : Heap) : State := { Z with vm := vm, heap := h }
/-- a compact String with these units, her two cells outside 'mine' -/
def SlM (W : State) (a : Addr) (units : Array UInt16) (mine : List Addr) : Prop :=
  ∃ (q : SQ) (cS : ClassId), q.sa = a ∧ Sl q cS W ∧ (∃ kS : Class, W.vm.classes[cS]? = some kS ∧ kS.kind = .ordinary ∧ q.sC.slots.size = kS.instanceTypes.size) ∧ W.vm.findClass "[B" = some q.SA.cls ∧ q.SA.slots = stringBytes units ∧ q.sa ∉ mine ∧ q.sd ∉ mine
def KH (Z : State) (L : Lits) (vm : Vm) (h : Heap) (mine : List Addr) : Prop :=
  ∀ q ∈ L, ∀ (c : ClassId) (k : Class) (cf : ClassFile) (i : Nat) (units : Array UInt16) (a : Addr), vm.findClass q.1 = some c → vm.classes[c]? = some k → k.cf = some cf →
    cf.constantPool[q.2.1]? = some (.string i) → cf.constantPool[i]? = some (.utf8 units) →
    (k.resolved[q.2.1]? = some (some (.string a)) ∨ (k.resolved[q.2.1]? = some none ∧ vm.interned.find? (fun p => p.1 == units) = some (units, a))) → SlM (wst Z vm h) a units mine
def Links (Z : State) (L : Lits) : Prop := ∀ q ∈ L, ∃ a0 : Array Value, (Jvm.Cond.stringLink q.1 q.2.1 q.2.2).before a0 Z = true
def Inv (Z : State) (L : Lits) (vm : Vm) (h : Heap) (mine : List Addr) : Prop :=
  Z.Warmed39 vm ∧ Ext Z.heap h ∧ (∀ x ∈ mine, Z.heap.size ≤ x ∧ x < h.size) ∧ Links Z L ∧ KH Z L vm h mine
theorem SlM.go {Z : State} {vm vm' : Vm} {h h' : Heap} {a : Addr} {u : Array UInt16} {mine mine' : List Addr} (S : SlM (wst Z vm h) a u mine) (hal : vm.Alike vm')
    (hk : ∀ x c, h[x]? = some c → x ∉ mine → h'[x]? = some c) (hm : ∀ x ∈ mine', x ∈ mine ∨ h.size ≤ x) : SlM (wst Z vm' h') a u mine' := by
  obtain ⟨q, cS, h1, h2, ⟨kS, k1, k2, k3⟩, h4, h5, h6, h7⟩ := S
  obtain ⟨kS', hk', ek⟩ := hal.2.2 _ _ k1
  have c1 : h[q.sa]? = some q.sC := h2.1.1
  have c2 : h[q.sd]? = some q.SA := h2.1.2.2.2.2.2.2.2.2.2.1
  refine ⟨q, cS, h1, h2.carry (U' := wst Z vm' h') hal (hk _ _ c1 h6) (hk _ _ c2 h7), ⟨kS', hk', by rw [ek]; exact k2, by rw [ek]; exact k3⟩, by rw [show (wst Z vm' h').vm.findClass "[B" = vm.findClass "[B" from hal.findClass _ _]; exact h4, h5, fun hx => ?_, fun hx => ?_⟩
  · rcases hm _ hx with q1 | q1
    · exact h6 q1
    · exact absurd (Array.getElem?_eq_some_iff.mp c1).1 (Nat.not_lt.mpr q1)
  · rcases hm _ hx with q1 | q1
    · exact h7 q1
    · exact absurd (Array.getElem?_eq_some_iff.mp c2).1 (Nat.not_lt.mpr q1)
theorem KH.go {Z : State} {L : Lits} {vm vm' : Vm} {h h' : Heap} {mine mine' : List Addr} {U : State} (K : KH Z L vm h mine) (hZ : Z.Warmed39 vm) (hL : Links Z L) (hU : U.vm = vm) (hW : U.WarmedH vm')
    (hk : ∀ x c, h[x]? = some c → x ∉ mine → h'[x]? = some c) (hm : ∀ x ∈ mine', x ∈ mine ∨ h.size ≤ x) : KH Z L vm' h' mine' := by
  subst hU
  have hal : U.vm.Alike vm' := hW.alike
  intro q hq c k' cf i units a hc hk' hcf hp hu hor
  have hcU : U.vm.findClass q.1 = some c := by rw [← hal.findClass]; exact hc
  have hcZ : Z.vm.findClass q.1 = some c := by rw [← hZ.alike.findClass]; exact hcU
  obtain ⟨a0, w⟩ := hL q hq
  obtain ⟨kZ, cf0, i0, units0, hkZ, hcfZ, hp0, hu0, hnm, htext, -⟩ := Cond.stringLink_spec hcZ w
  obtain ⟨kU, hkU, ekU⟩ := hZ.alike.2.2 _ _ hkZ
  obtain ⟨k'', hk'', hke, -, ee, -⟩ := hW.wide.2.2.2 c kU hkU
  cases hk'.symm.trans hk''
  have hcfU : kU.cf = some cf := by
    have : k'.cf = kU.cf := by rw [hke]
    rw [← this]; exact hcf
  have hcf0 : kU.cf = some cf0 := by rw [ekU]; exact hcfZ
  cases hcfU.symm.trans hcf0
  have hint : vm'.interned = U.vm.interned := hW.interned_eq
  have key : SlM (wst Z U.vm h) a units mine := by
    refine K q hq c kU cf i units a hcU hkU hcfU hp hu ?_
    obtain ⟨k3, hk3, -, -, ee3, -⟩ := hW.2.2 c kU hkU
    cases hk'.symm.trans hk3
    rcases ee3 q.2.1 with e0 | ⟨hop, r, e1, hr⟩
    · rcases hor with h0 | ⟨h0, hf⟩
      · exact Or.inl (e0 ▸ h0)
      · exact Or.inr ⟨e0 ▸ h0, by rw [← hint]; exact hf⟩
    · exfalso
      cases r <;> simp [State.rightAt, hkU, hcfU, hnm] at hr
  exact key.go hal hk hm
theorem KH.mono {Z : State} {L : Lits} {vm : Vm} {h : Heap} {mine mine' : List Addr} (K : KH Z L vm h mine) (hm : ∀ x ∈ mine', x ∈ mine) : KH Z L vm h mine' :=
  fun q hq c k cf i units a h1 h2 h3 h4 h5 h6 => by
    obtain ⟨s, cS, r1, r2, r3, r4, r5, r6, r7⟩ := K q hq c k cf i units a h1 h2 h3 h4 h5 h6
    exact ⟨s, cS, r1, r2, r3, r4, r5, fun hx => r6 (hm _ hx), fun hx => r7 (hm _ hx)⟩
theorem Inv.mono {Z : State} {L : Lits} {vm : Vm} {h : Heap} {mine mine' : List Addr} (I : Inv Z L vm h mine) (hm : ∀ x ∈ mine', x ∈ mine) : Inv Z L vm h mine' :=
  ⟨I.1, I.2.1, fun x hx => I.2.2.1 x (hm x hx), I.2.2.2.1, I.2.2.2.2.mono hm⟩
/-- the invariant over a step that warms the tables and moves the heap outside what is frozen -/
theorem Inv.go {Z : State} {L : Lits} {vm vm' : Vm} {h h' : Heap} {mine mine' : List Addr} {U : State} (I : Inv Z L vm h mine) (hU : U.vm = vm) (hW : U.WarmedH vm') (hs : h.size ≤ h'.size)
    (hk : ∀ x c, h[x]? = some c → x ∉ mine → h'[x]? = some c) (hm : ∀ x ∈ mine', x ∈ mine ∨ (h.size ≤ x ∧ x < h'.size)) : Inv Z L vm' h' mine' := by
  refine ⟨State.Warmed39.trans (t := U) (hU ▸ I.1) hW.wide, ⟨Nat.le_trans I.2.1.1 hs, fun a c hc => hk _ _ (I.2.1.2 a c hc) fun hx => ?_⟩, fun x hx => ?_, I.2.2.2.1, I.2.2.2.2.go I.1 I.2.2.2.1 hU hW hk fun x hx => (hm x hx).imp id (·.1)⟩
  · exact absurd (Array.getElem?_eq_some_iff.mp hc).1 (Nat.not_lt.mpr (I.2.2.1 _ hx).1)
  · rcases hm x hx with q | q
    · exact ⟨(I.2.2.1 x q).1, Nat.lt_of_lt_of_le (I.2.2.1 x q).2 hs⟩
    · exact ⟨Nat.le_trans I.2.1.1 q.1, q.2⟩
def Bdy (p : Program) (s : State) (m : MethodId) (meth : Method) (c : Code) (own : String) (code : ByteArray) (maxL : Nat) (ret : Option FieldType) (nm : String) : Prop :=
  p.tables.exec = Jvm.exec ∧ c.code = code ∧ c.maxLocals = maxL ∧ s.vm.findClass own = some m.cls ∧ meth.sig.returnType = ret ∧ meth.locks = false ∧ meth.name = nm
def St (p : Program) (l : Launch) (e : Env) (R : Room) (s : State) (m : MethodId) (args : Array Value) (below : List Frame) (meth : Method) (c : Code) (Z : State) (L : Lits) (h0 : Heap) (ws : List Addr) (T : State) (locs : List Loc) (ce sl : Nat) (mine : List Addr) : Prop :=
  Stand p l e R (s.setVm T.vm) m args below meth c T locs ce sl ∧ s.Since T.vm T.heap.size ∧ Fr Z.heap.size locs ∧ Keep h0 T.heap ws ∧ Inv Z L T.vm T.heap mine
def Fini (p : Program) (l : Launch) (e : Env) (R : Room) (s : State) (below : List Frame) (Z : State) (L : Lits) (h0 : Heap) (ws mine0 : List Addr) (Q : Option Value → Heap → List Addr → Prop) (start : State) : Prop :=
  ∃ (s₂ : State) (v : Option Value) (locs : List Loc) (nw : List Addr), Steps p.tables e below start s₂ ∧ s₂.status = .running ∧ Ended s₂ below (.returned v) ∧ ReturnedEndW s (.returned v) s₂ locs R.cells R.slots ∧ Fr Z.heap.size locs ∧ Keep h0 s₂.heap ws ∧ (∀ x ∈ nw, h0.size ≤ x) ∧ Inv Z L s₂.vm s₂.heap (nw ++ mine0) ∧ Q v s₂.heap nw
def WP (own : String) (code : ByteArray) (maxL : Nat) (ret : Option FieldType) (nm : String) (R : Room) (Z : State) (L : Lits) (h0 : Heap) (ws mine0 : List Addr) (Q : Option Value → Heap → List Addr → Prop) (mine : List Addr) (ce sl : Nat) (h : Heap) (pc : Nat) (Ls : List Slot) (st : List Value) : Prop :=
  ∀ (p : Program) (l : Launch) (e : Env) (s : State) (m : MethodId) (args : Array Value) (below : List Frame) (meth : Method) (c : Code), Bdy p s m meth c own code maxL ret nm →
    ∀ (T : State) (locs : List Loc), St p l e R s m args below meth c Z L h0 ws T locs ce sl mine → T.heap = h → Fini p l e R s below Z L h0 ws mine0 Q (T.setTop (mkF m pc Ls.toArray st))
section Basic
variable {p : Program} {l : Launch} {e : Env} {R : Room} {s : State} {m : MethodId} {args : Array Value} {below : List Frame} {meth : Method} {c : Code} {Z : State} {L : Lits} {h0 h h' : Heap} {ws mine0 mine mine' : List Addr} {T T' : State} {locs locs' : List Loc} {ce sl ce' sl' : Nat}
  {own : String} {code : ByteArray} {maxL : Nat} {ret : Option FieldType} {nm : String} {Q : Option Value → Heap → List Addr → Prop}
theorem Fini.step {a b : State} (F : Fini p l e R s below Z L h0 ws mine0 Q b) (k : ∀ target, Steps p.tables e below b target → Steps p.tables e below a target) : Fini p l e R s below Z L h0 ws mine0 Q a := by
  obtain ⟨s₂, v, lo, nw, r1, r⟩ := F
  exact ⟨s₂, v, lo, nw, k _ r1, r⟩
theorem St.hown (X : St p l e R s m args below meth c Z L h0 ws T locs ce sl mine) (B : Bdy p s m meth c own code maxL ret nm) : (s.setVm T.vm).vm.findClass own = some m.cls := by
  rw [show (s.setVm T.vm).vm = T.vm from rfl, X.2.1.1.alike.findClass]; exact B.2.2.2.1
theorem St.warm (X : St p l e R s m args below meth c Z L h0 ws T locs ce sl mine) : Z.Warmed39 (s.setVm T.vm).vm := X.2.2.2.2.1
/-- a step of the library's, over the base at hand: re-based -/
theorem St.rebase (X : St p l e R s m args below meth c Z L h0 ws T locs ce sl mine) (Y : Stand p l e R (s.setVm T.vm) m args below meth c T' locs' ce' sl') (hF : Fr Z.heap.size locs') (hs : T.heap.size ≤ T'.heap.size)
    (hk : ∀ x c, T.heap[x]? = some c → x ∉ mine → T'.heap[x]? = some c) (hm : ∀ x ∈ mine', x ∈ mine ∨ (T.heap.size ≤ x ∧ x < T'.heap.size)) (K : Keep h0 T'.heap ws) : St p l e R s m args below meth c Z L h0 ws T' locs' ce' sl' mine' :=
  ⟨Y.retabled Y.warmed.wide, X.2.1.trans (Y.warmed.since T'.heap.size) hs, hF, K, X.2.2.2.2.go (U := s.setVm T.vm) rfl Y.warmed hs hk hm⟩
theorem St.same (X : St p l e R s m args below meth c Z L h0 ws T locs ce sl mine) (Y : Stand p l e R (s.setVm T.vm) m args below meth c T' locs ce sl) (hh : T'.heap = T.heap) : St p l e R s m args below meth c Z L h0 ws T' locs ce sl mine :=
  X.rebase Y X.2.2.1 (by rw [hh]; exact Nat.le_refl _) (fun x c hc _ => by rw [hh]; exact hc) (fun x hx => Or.inl hx) (by rw [hh]; exact X.2.2.2.1)
theorem WP.pure1 {pc pc' : Nat} {Ls Ls' : List Slot} {st st' : List Value} (k : WP own code maxL ret nm R Z L h0 ws mine0 Q mine ce sl h pc' Ls' st')
    (hstep : ∀ (p : Program) (e : Env) (below : List Frame) (T : State) (m : MethodId) (c : Code) (target : State), At T m c below → p.tables.exec = Jvm.exec → c.code = code → Steps p.tables e below (T.setTop (mkF m pc' Ls'.toArray st')) target → Steps p.tables e below (T.setTop (mkF m pc Ls.toArray st)) target) :
    WP own code maxL ret nm R Z L h0 ws mine0 Q mine ce sl h pc Ls st := by
  intro p l e s m args below meth c B T locs X hT
  exact (k p l e s m args below meth c B T locs X hT).step fun t => hstep p e below T m c t X.1.here B.1 B.2.1
/-- what the invariant says here -/
theorem WP.know {pc : Nat} {Ls : List Slot} {st : List Value} (k : Ext Z.heap h → Keep h0 h ws → (∀ x ∈ mine, Z.heap.size ≤ x ∧ x < h.size) → WP own code maxL ret nm R Z L h0 ws mine0 Q mine ce sl h pc Ls st) : WP own code maxL ret nm R Z L h0 ws mine0 Q mine ce sl h pc Ls st := by
  intro p l e s m args below meth c B T locs X hT
  subst hT
  exact k X.2.2.2.2.2.1 X.2.2.2.1 X.2.2.2.2.2.2.1 p l e s m args below meth c B T locs X rfl
theorem WP.freeze {pc : Nat} {Ls : List Slot} {st : List Value} (k : WP own code maxL ret nm R Z L h0 ws mine0 Q mine' ce sl h pc Ls st) (hm : ∀ x ∈ mine', x ∈ mine) : WP own code maxL ret nm R Z L h0 ws mine0 Q mine ce sl h pc Ls st := by
  intro p l e s m args below meth c B T locs X hT
  exact k p l e s m args below meth c B T locs ⟨X.1, X.2.1, X.2.2.1, X.2.2.2.1, X.2.2.2.2.mono hm⟩ hT
theorem WP.post {Q' : Option Value → Heap → List Addr → Prop} {pc : Nat} {Ls : List Slot} {st : List Value} (k : WP own code maxL ret nm R Z L h0 ws mine0 Q mine ce sl h pc Ls st) (hq : ∀ v h nw, Q v h nw → Q' v h nw) : WP own code maxL ret nm R Z L h0 ws mine0 Q' mine ce sl h pc Ls st := by
  intro p l e s m args below meth c B T locs X hT
  obtain ⟨s₂, v, lo, nw, r1, r2, r3, r4, r5, r6, r7, r8, r9⟩ := k p l e s m args below meth c B T locs X hT
  exact ⟨s₂, v, lo, nw, r1, r2, r3, r4, r5, r6, r7, r8, hq _ _ _ r9⟩
theorem WP.more {pc : Nat} {Ls : List Slot} {st : List Value} (k : WP own code maxL ret nm R Z L h0 ws mine0 Q mine ce' sl' h pc Ls st) (hc : ce ≤ ce') (hs : sl ≤ sl') : WP own code maxL ret nm R Z L h0 ws mine0 Q mine ce sl h pc Ls st := by
  intro p l e s m args below meth c B T locs X hT
  exact k p l e s m args below meth c B T locs ⟨X.1.mono hc hs, X.2⟩ hT
end Basic
end Jvm.OwnW
namespace Jvm.OwnW
open Jvm Jvm.ClassFile Sem Op Lib Jvm.Free Jvm.Stand Jvm.LawKit Jvm.RoadKit Bundle
section Plain
variable {R : Room} {Z : State} {L : Lits} {h0 h : Heap} {ws mine0 mine : List Addr} {ce sl : Nat} {own : String} {code : ByteArray} {maxL : Nat} {ret : Option FieldType} {nm : String} {Q : Option Value → Heap → List Addr → Prop} {pc pc' : Nat} {Ls : List Slot} {rest : List Value}
def one : Option Slot → Bool
  | some .unset => true
  | some (.val v) => v.category == 1
  | _ => false
theorem one_spec {o : Option Slot} (h : one o = true) : ∃ x, o = some x ∧ (x = .unset ∨ ∃ w, x = .val w ∧ w.category = 1) := by
  rcases o with _ | (_ | _ | v)
  · simp [one] at h
  · exact ⟨_, rfl, Or.inl rfl⟩
  · simp [one] at h
  · exact ⟨_, rfl, Or.inr ⟨v, rfl, by simpa [one] using h⟩⟩
theorem sto1 {Ls Ls' : List Slot} {k : Nat} {v : Value} (ho : one Ls[k]? = true) (hv : v.category = 1) (he : Ls.set k (.val v) = Ls') : storeLocals Ls.toArray k v = some Ls'.toArray := by
  obtain ⟨x, h1, h2⟩ := one_spec ho
  rw [XS.store1 (o := x) (by simpa using h1) h2 hv, ← he]
  simp
theorem sto2 {Ls Ls' : List Slot} {k : Nat} {x : Int64} (ho : one Ls[k]? = true) (ho' : one Ls[k+1]? = true) (he : (Ls.set k (.val (.long x))).set (k + 1) .second = Ls') : storeLocals Ls.toArray k (.long x) = some Ls'.toArray := by
  obtain ⟨y, h1, h2⟩ := one_spec ho
  obtain ⟨z, g1, g2⟩ := one_spec ho'
  subst he
  have k1 : k < Ls.length := (List.getElem?_eq_some_iff.mp h1).1
  have k2 : k + 1 < Ls.length := (List.getElem?_eq_some_iff.mp g1).1
  have e1 : Ls[k] = y := (List.getElem?_eq_some_iff.mp h1).2
  have e2 : Ls[k+1] = z := (List.getElem?_eq_some_iff.mp g1).2
  have hlc : (Value.long x).category = 2 := rfl
  rcases h2 with rfl | ⟨w, rfl, hw⟩ <;> rcases g2 with rfl | ⟨w', rfl, hw'⟩ <;> simp [storeLocals, storeSelf, setAt, hlc, k1, k2, e1, e2, *]
theorem sto2L {Ls Ls' : List Slot} {k : Nat} {x y : Int64} (ho : Ls[k]? = some (.val (.long y))) (ho' : Ls[k+1]? = some .second) (he : Ls.set k (.val (.long x)) = Ls') : storeLocals Ls.toArray k (.long x) = some Ls'.toArray := by
  subst he
  have k1 : k < Ls.length := (List.getElem?_eq_some_iff.mp ho).1
  have k2 : k + 1 < Ls.length := (List.getElem?_eq_some_iff.mp ho').1
  have e1 : Ls[k] = .val (.long y) := (List.getElem?_eq_some_iff.mp ho).2
  have e2 : Ls[k+1] = .second := (List.getElem?_eq_some_iff.mp ho').2
  have : ((Ls.set (k+1) .unset).set k (.val (.long x))).set (k+1) .second = Ls.set k (.val (.long x)) := by
    have this : Ls.set (k+1) .second = Ls := by rw [← e2]; exact List.set_getElem_self _
    rw [List.set_comm _ _ (by omega), List.set_set, this]
  have hlc : ∀ z : Int64, (Value.long z).category = 2 := fun _ => rfl
  simp [storeLocals, storeSelf, setAt, hlc, k1, k2, e1, e2, this]

theorem WP.aloadN {k : Fin 4} {v : Value} (hd : decode code pc = .ok (.aload_n k, 1)) (hl : Ls[k.val]? = some (.val v)) (hv : v.isRef = true) (hp : pc + 1 = pc') (K : WP own code maxL ret nm R Z L h0 ws mine0 Q mine ce sl h pc' Ls (v :: rest)) : WP own code maxL ret nm R Z L h0 ws mine0 Q mine ce sl h pc Ls (rest) := by
  subst hp; exact K.pure1 fun p e below T m c t h hx hc hr => XS.aloadN h hx rfl (hb hc hd) (by simpa using hl) hv hr
theorem WP.iloadN {k : Fin 4} {v : Int32} (hd : decode code pc = .ok (.iload_n k, 1)) (hl : Ls[k.val]? = some (.val (.int v))) (hp : pc + 1 = pc') (K : WP own code maxL ret nm R Z L h0 ws mine0 Q mine ce sl h pc' Ls (.int v :: rest)) : WP own code maxL ret nm R Z L h0 ws mine0 Q mine ce sl h pc Ls (rest) := by
  subst hp; exact K.pure1 fun p e below T m c t h hx hc hr => XS.iloadN h hx rfl (hb hc hd) (by simpa using hl) hr
theorem WP.lloadN {k : Fin 4} {v : Int64} (hd : decode code pc = .ok (.lload_n k, 1)) (hl : Ls[k.val]? = some (.val (.long v))) (hp : pc + 1 = pc') (K : WP own code maxL ret nm R Z L h0 ws mine0 Q mine ce sl h pc' Ls (.long v :: rest)) : WP own code maxL ret nm R Z L h0 ws mine0 Q mine ce sl h pc Ls (rest) := by
  subst hp; exact K.pure1 fun p e below T m c t h hx hc hr => XS.lloadN h hx rfl (hb hc hd) (by simpa using hl) hr
theorem WP.istoreN {k : Fin 4} {x : Int32} {Ls' : List Slot} (hd : decode code pc = .ok (.istore_n k, 1)) (ho : one Ls[k.val]? = true) (he : Ls.set k.val (.val (.int x)) = Ls') (hp : pc + 1 = pc') (K : WP own code maxL ret nm R Z L h0 ws mine0 Q mine ce sl h pc' Ls' (rest)) : WP own code maxL ret nm R Z L h0 ws mine0 Q mine ce sl h pc Ls (.int x :: rest) := by
  subst hp; exact K.pure1 fun p e below T m c t h hx hc hr => XS.istoreN h hx rfl (hb hc hd) rfl (sto1 ho rfl he) hr
theorem WP.astoreN {k : Fin 4} {x : Value} {Ls' : List Slot} (hd : decode code pc = .ok (.astore_n k, 1)) (hv : x.isRef = true) (hc1 : x.category = 1) (ho : one Ls[k.val]? = true) (he : Ls.set k.val (.val x) = Ls') (hp : pc + 1 = pc') (K : WP own code maxL ret nm R Z L h0 ws mine0 Q mine ce sl h pc' Ls' (rest)) : WP own code maxL ret nm R Z L h0 ws mine0 Q mine ce sl h pc Ls (x :: rest) := by
  subst hp; exact K.pure1 fun p e below T m c t h hx hc hr => XS.astoreN h hx rfl (hb hc hd) rfl hv (sto1 ho hc1 he) hr
theorem WP.lstoreN {k : Fin 4} {x : Int64} {Ls' : List Slot} (hd : decode code pc = .ok (.lstore_n k, 1)) (ho : one Ls[k.val]? = true) (ho' : one Ls[k.val+1]? = true) (he : (Ls.set k.val (.val (.long x))).set (k.val + 1) .second = Ls') (hp : pc + 1 = pc') (K : WP own code maxL ret nm R Z L h0 ws mine0 Q mine ce sl h pc' Ls' (rest)) : WP own code maxL ret nm R Z L h0 ws mine0 Q mine ce sl h pc Ls (.long x :: rest) := by
  subst hp; exact K.pure1 fun p e below T m c t h hx hc hr => XS.lstoreN h hx rfl (hb hc hd) rfl (sto2 ho ho' he) hr
theorem WP.lstoreLN {k : Fin 4} {x y : Int64} {Ls' : List Slot} (hd : decode code pc = .ok (.lstore_n k, 1)) (ho : Ls[k.val]? = some (.val (.long y))) (ho' : Ls[k.val+1]? = some .second) (he : Ls.set k.val (.val (.long x)) = Ls') (hp : pc + 1 = pc') (K : WP own code maxL ret nm R Z L h0 ws mine0 Q mine ce sl h pc' Ls' (rest)) : WP own code maxL ret nm R Z L h0 ws mine0 Q mine ce sl h pc Ls (.long x :: rest) := by
  subst hp; exact K.pure1 fun p e below T m c t h hx hc hr => XS.lstoreN h hx rfl (hb hc hd) rfl (sto2L ho ho' he) hr
theorem WP.aload {k : Nat} {v : Value} (hd : decode code pc = .ok (.aload k, 2)) (hl : Ls[k]? = some (.val v)) (hv : v.isRef = true) (hp : pc + 2 = pc') (K : WP own code maxL ret nm R Z L h0 ws mine0 Q mine ce sl h pc' Ls (v :: rest)) : WP own code maxL ret nm R Z L h0 ws mine0 Q mine ce sl h pc Ls (rest) := by
  subst hp; exact K.pure1 fun p e below T m c t h hx hc hr => XS.aload h hx rfl (hb hc hd) (by simpa using hl) hv hr
theorem WP.iload {k : Nat} {v : Int32} (hd : decode code pc = .ok (.iload k, 2)) (hl : Ls[k]? = some (.val (.int v))) (hp : pc + 2 = pc') (K : WP own code maxL ret nm R Z L h0 ws mine0 Q mine ce sl h pc' Ls (.int v :: rest)) : WP own code maxL ret nm R Z L h0 ws mine0 Q mine ce sl h pc Ls (rest) := by
  subst hp; exact K.pure1 fun p e below T m c t h hx hc hr => XS.iload h hx rfl (hb hc hd) (by simpa using hl) hr
theorem WP.lload {k : Nat} {v : Int64} (hd : decode code pc = .ok (.lload k, 2)) (hl : Ls[k]? = some (.val (.long v))) (hp : pc + 2 = pc') (K : WP own code maxL ret nm R Z L h0 ws mine0 Q mine ce sl h pc' Ls (.long v :: rest)) : WP own code maxL ret nm R Z L h0 ws mine0 Q mine ce sl h pc Ls (rest) := by
  subst hp; exact K.pure1 fun p e below T m c t h hx hc hr => XS.lload h hx rfl (hb hc hd) (by simpa using hl) hr
theorem WP.istore {k : Nat} {x : Int32} {Ls' : List Slot} (hd : decode code pc = .ok (.istore k, 2)) (ho : one Ls[k]? = true) (he : Ls.set k (.val (.int x)) = Ls') (hp : pc + 2 = pc') (K : WP own code maxL ret nm R Z L h0 ws mine0 Q mine ce sl h pc' Ls' (rest)) : WP own code maxL ret nm R Z L h0 ws mine0 Q mine ce sl h pc Ls (.int x :: rest) := by
  subst hp; exact K.pure1 fun p e below T m c t h hx hc hr => XS.istore h hx rfl (hb hc hd) rfl (sto1 ho rfl he) hr
theorem WP.astore {k : Nat} {x : Value} {Ls' : List Slot} (hd : decode code pc = .ok (.astore k, 2)) (hv : x.isRef = true) (hc1 : x.category = 1) (ho : one Ls[k]? = true) (he : Ls.set k (.val x) = Ls') (hp : pc + 2 = pc') (K : WP own code maxL ret nm R Z L h0 ws mine0 Q mine ce sl h pc' Ls' (rest)) : WP own code maxL ret nm R Z L h0 ws mine0 Q mine ce sl h pc Ls (x :: rest) := by
  subst hp; exact K.pure1 fun p e below T m c t h hx hc hr => XS.astore h hx rfl (hb hc hd) rfl hv (sto1 ho hc1 he) hr
theorem WP.lstore {k : Nat} {x : Int64} {Ls' : List Slot} (hd : decode code pc = .ok (.lstore k, 2)) (ho : one Ls[k]? = true) (ho' : one Ls[k+1]? = true) (he : (Ls.set k (.val (.long x))).set (k + 1) .second = Ls') (hp : pc + 2 = pc') (K : WP own code maxL ret nm R Z L h0 ws mine0 Q mine ce sl h pc' Ls' (rest)) : WP own code maxL ret nm R Z L h0 ws mine0 Q mine ce sl h pc Ls (.long x :: rest) := by
  subst hp; exact K.pure1 fun p e below T m c t h hx hc hr => XS.lstore h hx rfl (hb hc hd) rfl (sto2 ho ho' he) hr
theorem WP.lstoreL {k : Nat} {x y : Int64} {Ls' : List Slot} (hd : decode code pc = .ok (.lstore k, 2)) (ho : Ls[k]? = some (.val (.long y))) (ho' : Ls[k+1]? = some .second) (he : Ls.set k (.val (.long x)) = Ls') (hp : pc + 2 = pc') (K : WP own code maxL ret nm R Z L h0 ws mine0 Q mine ce sl h pc' Ls' (rest)) : WP own code maxL ret nm R Z L h0 ws mine0 Q mine ce sl h pc Ls (.long x :: rest) := by
  subst hp; exact K.pure1 fun p e below T m c t h hx hc hr => XS.lstore h hx rfl (hb hc hd) rfl (sto2L ho ho' he) hr
theorem WP.iconst {i : Int} {x : Int32} (hd : decode code pc = .ok (.iconst i, 1)) (hx1 : Int32.ofInt i = x) (hp : pc + 1 = pc') (K : WP own code maxL ret nm R Z L h0 ws mine0 Q mine ce sl h pc' Ls (.int x :: rest)) : WP own code maxL ret nm R Z L h0 ws mine0 Q mine ce sl h pc Ls (rest) := by
  subst hp; exact K.pure1 fun p e below T m c t h hx hc hr => XS.iconst h hx rfl (hb hc hd) (by rw [hx1]; exact hr)
theorem WP.bipush {i : Int} {x : Int32} (hd : decode code pc = .ok (.bipush i, 2)) (hx1 : (Int8.ofInt i).toInt32 = x) (hp : pc + 2 = pc') (K : WP own code maxL ret nm R Z L h0 ws mine0 Q mine ce sl h pc' Ls (.int x :: rest)) : WP own code maxL ret nm R Z L h0 ws mine0 Q mine ce sl h pc Ls (rest) := by
  subst hp; exact K.pure1 fun p e below T m c t h hx hc hr => XS.bipush h hx rfl (hb hc hd) (by rw [hx1]; exact hr)
theorem WP.sipush {i : Int} {x : Int32} (hd : decode code pc = .ok (.sipush i, 3)) (hx1 : (Int16.ofInt i).toInt32 = x) (hp : pc + 3 = pc') (K : WP own code maxL ret nm R Z L h0 ws mine0 Q mine ce sl h pc' Ls (.int x :: rest)) : WP own code maxL ret nm R Z L h0 ws mine0 Q mine ce sl h pc Ls (rest) := by
  subst hp; exact K.pure1 fun p e below T m c t h hx hc hr => XS.sipush h hx rfl (hb hc hd) (by rw [hx1]; exact hr)
theorem WP.aconstNull  (hd : decode code pc = .ok (.aconst_null, 1))  (hp : pc + 1 = pc') (K : WP own code maxL ret nm R Z L h0 ws mine0 Q mine ce sl h pc' Ls (.null :: rest)) : WP own code maxL ret nm R Z L h0 ws mine0 Q mine ce sl h pc Ls (rest) := by
  subst hp; exact K.pure1 fun p e below T m c t h hx hc hr => XS.aconstNull h hx rfl (hb hc hd) hr
theorem WP.iadd {x y : Int32} (hd : decode code pc = .ok (.iadd, 1))  (hp : pc + 1 = pc') (K : WP own code maxL ret nm R Z L h0 ws mine0 Q mine ce sl h pc' Ls (.int (x + y) :: rest)) : WP own code maxL ret nm R Z L h0 ws mine0 Q mine ce sl h pc Ls (.int y :: .int x :: rest) := by
  subst hp; exact K.pure1 fun p e below T m c t h hx hc hr => XS.iadd h hx rfl (hb hc hd) rfl hr
theorem WP.isub {x y : Int32} (hd : decode code pc = .ok (.isub, 1))  (hp : pc + 1 = pc') (K : WP own code maxL ret nm R Z L h0 ws mine0 Q mine ce sl h pc' Ls (.int (x - y) :: rest)) : WP own code maxL ret nm R Z L h0 ws mine0 Q mine ce sl h pc Ls (.int y :: .int x :: rest) := by
  subst hp; exact K.pure1 fun p e below T m c t h hx hc hr => XS.isub h hx rfl (hb hc hd) rfl hr
theorem WP.imul {x y : Int32} (hd : decode code pc = .ok (.imul, 1))  (hp : pc + 1 = pc') (K : WP own code maxL ret nm R Z L h0 ws mine0 Q mine ce sl h pc' Ls (.int (x * y) :: rest)) : WP own code maxL ret nm R Z L h0 ws mine0 Q mine ce sl h pc Ls (.int y :: .int x :: rest) := by
  subst hp; exact K.pure1 fun p e below T m c t h hx hc hr => XS.imul h hx rfl (hb hc hd) rfl hr
theorem WP.iand {x y : Int32} (hd : decode code pc = .ok (.iand, 1))  (hp : pc + 1 = pc') (K : WP own code maxL ret nm R Z L h0 ws mine0 Q mine ce sl h pc' Ls (.int (x &&& y) :: rest)) : WP own code maxL ret nm R Z L h0 ws mine0 Q mine ce sl h pc Ls (.int y :: .int x :: rest) := by
  subst hp; exact K.pure1 fun p e below T m c t h hx hc hr => XS.iand h hx rfl (hb hc hd) rfl hr
theorem WP.ior {x y : Int32} (hd : decode code pc = .ok (.ior, 1))  (hp : pc + 1 = pc') (K : WP own code maxL ret nm R Z L h0 ws mine0 Q mine ce sl h pc' Ls (.int (x ||| y) :: rest)) : WP own code maxL ret nm R Z L h0 ws mine0 Q mine ce sl h pc Ls (.int y :: .int x :: rest) := by
  subst hp; exact K.pure1 fun p e below T m c t h hx hc hr => XS.ior h hx rfl (hb hc hd) rfl hr
theorem WP.ixor {x y : Int32} (hd : decode code pc = .ok (.ixor, 1))  (hp : pc + 1 = pc') (K : WP own code maxL ret nm R Z L h0 ws mine0 Q mine ce sl h pc' Ls (.int (x ^^^ y) :: rest)) : WP own code maxL ret nm R Z L h0 ws mine0 Q mine ce sl h pc Ls (.int y :: .int x :: rest) := by
  subst hp; exact K.pure1 fun p e below T m c t h hx hc hr => XS.ixor h hx rfl (hb hc hd) rfl hr
theorem WP.ishl {x y : Int32} (hd : decode code pc = .ok (.ishl, 1))  (hp : pc + 1 = pc') (K : WP own code maxL ret nm R Z L h0 ws mine0 Q mine ce sl h pc' Ls (.int (x <<< (y &&& 31)) :: rest)) : WP own code maxL ret nm R Z L h0 ws mine0 Q mine ce sl h pc Ls (.int y :: .int x :: rest) := by
  subst hp; exact K.pure1 fun p e below T m c t h hx hc hr => XS.ishl h hx rfl (hb hc hd) rfl hr
theorem WP.ishr {x y : Int32} (hd : decode code pc = .ok (.ishr, 1))  (hp : pc + 1 = pc') (K : WP own code maxL ret nm R Z L h0 ws mine0 Q mine ce sl h pc' Ls (.int (x >>> (y &&& 31)) :: rest)) : WP own code maxL ret nm R Z L h0 ws mine0 Q mine ce sl h pc Ls (.int y :: .int x :: rest) := by
  subst hp; exact K.pure1 fun p e below T m c t h hx hc hr => XS.ishr h hx rfl (hb hc hd) rfl hr
theorem WP.iushr {x y : Int32} (hd : decode code pc = .ok (.iushr, 1))  (hp : pc + 1 = pc') (K : WP own code maxL ret nm R Z L h0 ws mine0 Q mine ce sl h pc' Ls (.int ((x.toUInt32 >>> (y &&& 31).toUInt32).toInt32) :: rest)) : WP own code maxL ret nm R Z L h0 ws mine0 Q mine ce sl h pc Ls (.int y :: .int x :: rest) := by
  subst hp; exact K.pure1 fun p e below T m c t h hx hc hr => XS.iushr h hx rfl (hb hc hd) rfl hr
theorem WP.ladd {x y : Int64} (hd : decode code pc = .ok (.ladd, 1))  (hp : pc + 1 = pc') (K : WP own code maxL ret nm R Z L h0 ws mine0 Q mine ce sl h pc' Ls (.long (x + y) :: rest)) : WP own code maxL ret nm R Z L h0 ws mine0 Q mine ce sl h pc Ls (.long y :: .long x :: rest) := by
  subst hp; exact K.pure1 fun p e below T m c t h hx hc hr => XS.ladd h hx rfl (hb hc hd) rfl hr
theorem WP.lsub {x y : Int64} (hd : decode code pc = .ok (.lsub, 1))  (hp : pc + 1 = pc') (K : WP own code maxL ret nm R Z L h0 ws mine0 Q mine ce sl h pc' Ls (.long (x - y) :: rest)) : WP own code maxL ret nm R Z L h0 ws mine0 Q mine ce sl h pc Ls (.long y :: .long x :: rest) := by
  subst hp; exact K.pure1 fun p e below T m c t h hx hc hr => XS.lsub h hx rfl (hb hc hd) rfl hr
theorem WP.lmul {x y : Int64} (hd : decode code pc = .ok (.lmul, 1))  (hp : pc + 1 = pc') (K : WP own code maxL ret nm R Z L h0 ws mine0 Q mine ce sl h pc' Ls (.long (x * y) :: rest)) : WP own code maxL ret nm R Z L h0 ws mine0 Q mine ce sl h pc Ls (.long y :: .long x :: rest) := by
  subst hp; exact K.pure1 fun p e below T m c t h hx hc hr => XS.lmul h hx rfl (hb hc hd) rfl hr
theorem WP.land {x y : Int64} (hd : decode code pc = .ok (.land, 1))  (hp : pc + 1 = pc') (K : WP own code maxL ret nm R Z L h0 ws mine0 Q mine ce sl h pc' Ls (.long (x &&& y) :: rest)) : WP own code maxL ret nm R Z L h0 ws mine0 Q mine ce sl h pc Ls (.long y :: .long x :: rest) := by
  subst hp; exact K.pure1 fun p e below T m c t h hx hc hr => XS.land h hx rfl (hb hc hd) rfl hr
theorem WP.lor {x y : Int64} (hd : decode code pc = .ok (.lor, 1))  (hp : pc + 1 = pc') (K : WP own code maxL ret nm R Z L h0 ws mine0 Q mine ce sl h pc' Ls (.long (x ||| y) :: rest)) : WP own code maxL ret nm R Z L h0 ws mine0 Q mine ce sl h pc Ls (.long y :: .long x :: rest) := by
  subst hp; exact K.pure1 fun p e below T m c t h hx hc hr => XS.lor h hx rfl (hb hc hd) rfl hr
theorem WP.lxor {x y : Int64} (hd : decode code pc = .ok (.lxor, 1))  (hp : pc + 1 = pc') (K : WP own code maxL ret nm R Z L h0 ws mine0 Q mine ce sl h pc' Ls (.long (x ^^^ y) :: rest)) : WP own code maxL ret nm R Z L h0 ws mine0 Q mine ce sl h pc Ls (.long y :: .long x :: rest) := by
  subst hp; exact K.pure1 fun p e below T m c t h hx hc hr => XS.lxor h hx rfl (hb hc hd) rfl hr
theorem WP.lshl {x : Int64} {y : Int32} (hd : decode code pc = .ok (.lshl, 1))  (hp : pc + 1 = pc') (K : WP own code maxL ret nm R Z L h0 ws mine0 Q mine ce sl h pc' Ls (.long (x <<< (y &&& 0x3f).toInt64) :: rest)) : WP own code maxL ret nm R Z L h0 ws mine0 Q mine ce sl h pc Ls (.int y :: .long x :: rest) := by
  subst hp; exact K.pure1 fun p e below T m c t h hx hc hr => XS.lshl h hx rfl (hb hc hd) rfl hr
theorem WP.lshr {x : Int64} {y : Int32} (hd : decode code pc = .ok (.lshr, 1))  (hp : pc + 1 = pc') (K : WP own code maxL ret nm R Z L h0 ws mine0 Q mine ce sl h pc' Ls (.long (x >>> (y &&& 0x3f).toInt64) :: rest)) : WP own code maxL ret nm R Z L h0 ws mine0 Q mine ce sl h pc Ls (.int y :: .long x :: rest) := by
  subst hp; exact K.pure1 fun p e below T m c t h hx hc hr => XS.lshr h hx rfl (hb hc hd) rfl hr
theorem WP.lushr {x : Int64} {y : Int32} (hd : decode code pc = .ok (.lushr, 1))  (hp : pc + 1 = pc') (K : WP own code maxL ret nm R Z L h0 ws mine0 Q mine ce sl h pc' Ls (.long ((x.toUInt64 >>> (y &&& 0x3f).toInt64.toUInt64).toInt64) :: rest)) : WP own code maxL ret nm R Z L h0 ws mine0 Q mine ce sl h pc Ls (.int y :: .long x :: rest) := by
  subst hp; exact K.pure1 fun p e below T m c t h hx hc hr => XS.lushr h hx rfl (hb hc hd) rfl hr
theorem WP.idiv {x y : Int32} (hd : decode code pc = .ok (.idiv, 1)) (hy : y ≠ 0) (hp : pc + 1 = pc') (K : WP own code maxL ret nm R Z L h0 ws mine0 Q mine ce sl h pc' Ls (.int (x / y) :: rest)) : WP own code maxL ret nm R Z L h0 ws mine0 Q mine ce sl h pc Ls (.int y :: .int x :: rest) := by
  subst hp; exact K.pure1 fun p e below T m c t h hx hc hr => XS.idiv h hx rfl (hb hc hd) rfl hy hr
theorem WP.irem {x y : Int32} (hd : decode code pc = .ok (.irem, 1)) (hy : y ≠ 0) (hp : pc + 1 = pc') (K : WP own code maxL ret nm R Z L h0 ws mine0 Q mine ce sl h pc' Ls (.int (x % y) :: rest)) : WP own code maxL ret nm R Z L h0 ws mine0 Q mine ce sl h pc Ls (.int y :: .int x :: rest) := by
  subst hp; exact K.pure1 fun p e below T m c t h hx hc hr => XS.irem h hx rfl (hb hc hd) rfl hy (by rw [irem_eq_mod]; exact hr)
theorem WP.ldiv {x y : Int64} (hd : decode code pc = .ok (.ldiv, 1)) (hy : y ≠ 0) (hp : pc + 1 = pc') (K : WP own code maxL ret nm R Z L h0 ws mine0 Q mine ce sl h pc' Ls (.long (x / y) :: rest)) : WP own code maxL ret nm R Z L h0 ws mine0 Q mine ce sl h pc Ls (.long y :: .long x :: rest) := by
  subst hp; exact K.pure1 fun p e below T m c t h hx hc hr => XS.ldiv h hx rfl (hb hc hd) rfl hy hr
theorem WP.lrem {x y : Int64} (hd : decode code pc = .ok (.lrem, 1)) (hy : y ≠ 0) (hp : pc + 1 = pc') (K : WP own code maxL ret nm R Z L h0 ws mine0 Q mine ce sl h pc' Ls (.long (x % y) :: rest)) : WP own code maxL ret nm R Z L h0 ws mine0 Q mine ce sl h pc Ls (.long y :: .long x :: rest) := by
  subst hp; exact K.pure1 fun p e below T m c t h hx hc hr => XS.lrem h hx rfl (hb hc hd) rfl hy (by rw [lrem_mod]; exact hr)
theorem WP.ineg {x : Int32} (hd : decode code pc = .ok (.ineg, 1))  (hp : pc + 1 = pc') (K : WP own code maxL ret nm R Z L h0 ws mine0 Q mine ce sl h pc' Ls (.int (-x) :: rest)) : WP own code maxL ret nm R Z L h0 ws mine0 Q mine ce sl h pc Ls (.int x :: rest) := by
  subst hp; exact K.pure1 fun p e below T m c t h hx hc hr => XS.ineg h hx rfl (hb hc hd) rfl hr
theorem WP.lneg {x : Int64} (hd : decode code pc = .ok (.lneg, 1))  (hp : pc + 1 = pc') (K : WP own code maxL ret nm R Z L h0 ws mine0 Q mine ce sl h pc' Ls (.long (-x) :: rest)) : WP own code maxL ret nm R Z L h0 ws mine0 Q mine ce sl h pc Ls (.long x :: rest) := by
  subst hp; exact K.pure1 fun p e below T m c t h hx hc hr => XS.lneg h hx rfl (hb hc hd) rfl hr
theorem WP.i2b {x : Int32} (hd : decode code pc = .ok (.i2b, 1))  (hp : pc + 1 = pc') (K : WP own code maxL ret nm R Z L h0 ws mine0 Q mine ce sl h pc' Ls (.int x.toInt8.toInt32 :: rest)) : WP own code maxL ret nm R Z L h0 ws mine0 Q mine ce sl h pc Ls (.int x :: rest) := by
  subst hp; exact K.pure1 fun p e below T m c t h hx hc hr => XS.i2b h hx rfl (hb hc hd) rfl hr
theorem WP.i2s {x : Int32} (hd : decode code pc = .ok (.i2s, 1))  (hp : pc + 1 = pc') (K : WP own code maxL ret nm R Z L h0 ws mine0 Q mine ce sl h pc' Ls (.int x.toInt16.toInt32 :: rest)) : WP own code maxL ret nm R Z L h0 ws mine0 Q mine ce sl h pc Ls (.int x :: rest) := by
  subst hp; exact K.pure1 fun p e below T m c t h hx hc hr => XS.i2s h hx rfl (hb hc hd) rfl hr
theorem WP.i2c {x : Int32} (hd : decode code pc = .ok (.i2c, 1))  (hp : pc + 1 = pc') (K : WP own code maxL ret nm R Z L h0 ws mine0 Q mine ce sl h pc' Ls (.int x.toUInt32.toUInt16.toUInt32.toInt32 :: rest)) : WP own code maxL ret nm R Z L h0 ws mine0 Q mine ce sl h pc Ls (.int x :: rest) := by
  subst hp; exact K.pure1 fun p e below T m c t h hx hc hr => XS.i2c h hx rfl (hb hc hd) rfl hr
theorem WP.i2l {x : Int32} (hd : decode code pc = .ok (.i2l, 1))  (hp : pc + 1 = pc') (K : WP own code maxL ret nm R Z L h0 ws mine0 Q mine ce sl h pc' Ls (.long x.toInt64 :: rest)) : WP own code maxL ret nm R Z L h0 ws mine0 Q mine ce sl h pc Ls (.int x :: rest) := by
  subst hp; exact K.pure1 fun p e below T m c t h hx hc hr => XS.i2l h hx rfl (hb hc hd) rfl hr
theorem WP.l2i {x : Int64} (hd : decode code pc = .ok (.l2i, 1))  (hp : pc + 1 = pc') (K : WP own code maxL ret nm R Z L h0 ws mine0 Q mine ce sl h pc' Ls (.int x.toInt32 :: rest)) : WP own code maxL ret nm R Z L h0 ws mine0 Q mine ce sl h pc Ls (.long x :: rest) := by
  subst hp; exact K.pure1 fun p e below T m c t h hx hc hr => XS.l2i h hx rfl (hb hc hd) rfl hr
theorem WP.lcmp {x y : Int64} (hd : decode code pc = .ok (.lcmp, 1))  (hp : pc + 1 = pc') (K : WP own code maxL ret nm R Z L h0 ws mine0 Q mine ce sl h pc' Ls (.int (lcmpW x y) :: rest)) : WP own code maxL ret nm R Z L h0 ws mine0 Q mine ce sl h pc Ls (.long y :: .long x :: rest) := by
  subst hp; exact K.pure1 fun p e below T m c t h hx hc hr => XS.lcmp h hx rfl (hb hc hd) rfl hr
theorem WP.lconst {k : Fin 2} {x : Int64} (hd : decode code pc = .ok (.lconst k, 1)) (hx1 : Int64.ofNat k.val = x) (hp : pc + 1 = pc') (K : WP own code maxL ret nm R Z L h0 ws mine0 Q mine ce sl h pc' Ls (.long x :: rest)) : WP own code maxL ret nm R Z L h0 ws mine0 Q mine ce sl h pc Ls (rest) := by
  subst hp; exact K.pure1 fun p e below T m c t h hx hc hr => XS.lconst h hx rfl (hb hc hd) (by rw [← hx1] at hr; simpa using hr)
theorem WP.dup {v : Value} (hd : decode code pc = .ok (.dup, 1)) (hc1 : v.category = 1) (hp : pc + 1 = pc') (K : WP own code maxL ret nm R Z L h0 ws mine0 Q mine ce sl h pc' Ls (v :: v :: rest)) : WP own code maxL ret nm R Z L h0 ws mine0 Q mine ce sl h pc Ls (v :: rest) := by
  subst hp; exact K.pure1 fun p e below T m c t h hx hc hr => XS.dup h hx rfl (hb hc hd) rfl hc1 hr
theorem WP.pop {v : Value} (hd : decode code pc = .ok (.pop, 1)) (hc1 : v.category = 1) (hp : pc + 1 = pc') (K : WP own code maxL ret nm R Z L h0 ws mine0 Q mine ce sl h pc' Ls (rest)) : WP own code maxL ret nm R Z L h0 ws mine0 Q mine ce sl h pc Ls (v :: rest) := by
  subst hp; exact K.pure1 fun p e below T m c t h hx hc hr => XS.pop h hx rfl (hb hc hd) rfl hc1 hr
theorem WP.swap {v w : Value} (hd : decode code pc = .ok (.swap, 1)) (hc1 : v.category = 1) (hc2 : w.category = 1) (hp : pc + 1 = pc') (K : WP own code maxL ret nm R Z L h0 ws mine0 Q mine ce sl h pc' Ls (w :: v :: rest)) : WP own code maxL ret nm R Z L h0 ws mine0 Q mine ce sl h pc Ls (v :: w :: rest) := by
  subst hp; exact K.pure1 fun p e below T m c t h hx hc hr => XS.swap h hx rfl (hb hc hd) rfl hc1 hc2 hr
theorem WP.dupX1 {v w : Value} (hd : decode code pc = .ok (.dup_x1, 1)) (hc1 : v.category = 1) (hc2 : w.category = 1) (hp : pc + 1 = pc') (K : WP own code maxL ret nm R Z L h0 ws mine0 Q mine ce sl h pc' Ls (v :: w :: v :: rest)) : WP own code maxL ret nm R Z L h0 ws mine0 Q mine ce sl h pc Ls (v :: w :: rest) := by
  subst hp; exact K.pure1 fun p e below T m c t h hx hc hr => XS.dupX1 h hx rfl (hb hc hd) rfl hc1 hc2 hr
theorem WP.iinc {k : Nat} {i : Int} {x y : Int32} {Ls' : List Slot} (hd : decode code pc = .ok (.iinc k i, 3)) (hl : Ls[k]? = some (.val (.int x))) (hy : x + Int32.ofInt i = y) (he : Ls.set k (.val (.int y)) = Ls') (hp : pc + 3 = pc') (K : WP own code maxL ret nm R Z L h0 ws mine0 Q mine ce sl h pc' Ls' (rest)) : WP own code maxL ret nm R Z L h0 ws mine0 Q mine ce sl h pc Ls (rest) := by
  subst hp; exact K.pure1 fun p e below T m c t h hx hc hr => XS.iinc h hx rfl (hb hc hd) (by simpa using hl) (sto1 (by rw [hl]; rfl) rfl (by rw [hy]; exact he)) hr
theorem WP.goto {o : Int} (hd : decode code pc = .ok (.goto o, 3)) (ho : 0 ≤ (pc : Int) + o) (hp : ((pc : Int) + o).toNat = pc') (K : WP own code maxL ret nm R Z L h0 ws mine0 Q mine ce sl h pc' Ls rest) : WP own code maxL ret nm R Z L h0 ws mine0 Q mine ce sl h pc Ls rest := 
  K.pure1 fun p e below T m c t h hx hc hr => XS.goto h hx rfl rfl (hb hc hd) ho hp hr
def cndT (cd : ClassFile.Cond) (x y : Int32) : Prop := match cd with
  | .eq => x = y | .ne => ¬ x = y | .lt => x < y | .ge => ¬ x < y | .gt => y < x | .le => ¬ y < x
def cndF (cd : ClassFile.Cond) (x y : Int32) : Prop := match cd with
  | .eq => ¬ x = y | .ne => x = y | .lt => ¬ x < y | .ge => x < y | .gt => ¬ y < x | .le => y < x
theorem cnd_t {cd : ClassFile.Cond} {x y : Int32} (h : cndT cd x y) : if_icmp.holds cd x y = true := by
  cases cd
  · exact (teq h).1
  · exact (feq h).2
  · exact (tlt h).1
  · exact (flt h).2.1
  · exact (tlt h).2.2.1
  · exact (flt h).2.2.2
theorem cnd_f {cd : ClassFile.Cond} {x y : Int32} (h : cndF cd x y) : if_icmp.holds cd x y = false := by
  cases cd
  · exact (feq h).1
  · exact (teq h).2
  · exact (flt h).1
  · exact (tlt h).2.1
  · exact (flt h).2.2.1
  · exact (tlt h).2.2.2
theorem cnd_or (cd : ClassFile.Cond) (x y : Int32) : cndT cd x y ∨ cndF cd x y := by
  cases cd <;> simp only [cndT, cndF] <;> first | exact Classical.em _ | exact (Classical.em _).symm
theorem WP.icmpT {cd : ClassFile.Cond} {o : Int} {x y : Int32} (hd : decode code pc = .ok (.if_icmp cd o, 3)) (ho : 0 ≤ (pc : Int) + o) (hp : ((pc : Int) + o).toNat = pc') (hc1 : cndT cd x y) (K : WP own code maxL ret nm R Z L h0 ws mine0 Q mine ce sl h pc' Ls rest) : WP own code maxL ret nm R Z L h0 ws mine0 Q mine ce sl h pc Ls (.int y :: .int x :: rest) :=
  K.pure1 fun p e below T m c t h hx hc hr => XS.icmpYes h hx rfl rfl (hb hc hd) rfl (cnd_t hc1) ho hp hr
theorem WP.icmpF {cd : ClassFile.Cond} {o : Int} {x y : Int32} (hd : decode code pc = .ok (.if_icmp cd o, 3)) (hp : pc + 3 = pc') (hc1 : cndF cd x y) (K : WP own code maxL ret nm R Z L h0 ws mine0 Q mine ce sl h pc' Ls rest) : WP own code maxL ret nm R Z L h0 ws mine0 Q mine ce sl h pc Ls (.int y :: .int x :: rest) := by
  subst hp; exact K.pure1 fun p e below T m c t h hx hc hr => XS.icmpNo h hx rfl (hb hc hd) rfl (cnd_f hc1) hr
theorem WP.icmp {cd : ClassFile.Cond} {o : Int} {x y : Int32} {pc2 : Nat} (hd : decode code pc = .ok (.if_icmp cd o, 3)) (ho : 0 ≤ (pc : Int) + o) (hp : ((pc : Int) + o).toNat = pc') (hp2 : pc + 3 = pc2) (K1 : cndT cd x y → WP own code maxL ret nm R Z L h0 ws mine0 Q mine ce sl h pc' Ls rest) (K2 : cndF cd x y → WP own code maxL ret nm R Z L h0 ws mine0 Q mine ce sl h pc2 Ls rest) : WP own code maxL ret nm R Z L h0 ws mine0 Q mine ce sl h pc Ls (.int y :: .int x :: rest) := by
  rcases cnd_or cd x y with q | q
  · exact WP.icmpT hd ho hp q (K1 q)
  · exact WP.icmpF hd hp2 q (K2 q)
theorem WP.ifT {cd : ClassFile.Cond} {o : Int} {x : Int32} (hd : decode code pc = .ok (.ifCond cd o, 3)) (ho : 0 ≤ (pc : Int) + o) (hp : ((pc : Int) + o).toNat = pc') (hc1 : cndT cd x 0) (K : WP own code maxL ret nm R Z L h0 ws mine0 Q mine ce sl h pc' Ls rest) : WP own code maxL ret nm R Z L h0 ws mine0 Q mine ce sl h pc Ls (.int x :: rest) :=
  K.pure1 fun p e below T m c t h hx hc hr => XS.ifYes h hx rfl rfl (hb hc hd) rfl ((if0 _ _).trans (cnd_t hc1)) ho hp hr
theorem WP.ifF {cd : ClassFile.Cond} {o : Int} {x : Int32} (hd : decode code pc = .ok (.ifCond cd o, 3)) (hp : pc + 3 = pc') (hc1 : cndF cd x 0) (K : WP own code maxL ret nm R Z L h0 ws mine0 Q mine ce sl h pc' Ls rest) : WP own code maxL ret nm R Z L h0 ws mine0 Q mine ce sl h pc Ls (.int x :: rest) := by
  subst hp; exact K.pure1 fun p e below T m c t h hx hc hr => XS.ifNo h hx rfl (hb hc hd) rfl ((if0 _ _).trans (cnd_f hc1)) hr
theorem WP.ifC {cd : ClassFile.Cond} {o : Int} {x : Int32} {pc2 : Nat} (hd : decode code pc = .ok (.ifCond cd o, 3)) (ho : 0 ≤ (pc : Int) + o) (hp : ((pc : Int) + o).toNat = pc') (hp2 : pc + 3 = pc2) (K1 : cndT cd x 0 → WP own code maxL ret nm R Z L h0 ws mine0 Q mine ce sl h pc' Ls rest) (K2 : cndF cd x 0 → WP own code maxL ret nm R Z L h0 ws mine0 Q mine ce sl h pc2 Ls rest) : WP own code maxL ret nm R Z L h0 ws mine0 Q mine ce sl h pc Ls (.int x :: rest) := by
  rcases cnd_or cd x 0 with q | q
  · exact WP.ifT hd ho hp q (K1 q)
  · exact WP.ifF hd hp2 q (K2 q)
theorem WP.ifnullT {o : Int} (hd : decode code pc = .ok (.ifnull o, 3)) (ho : 0 ≤ (pc : Int) + o) (hp : ((pc : Int) + o).toNat = pc') (K : WP own code maxL ret nm R Z L h0 ws mine0 Q mine ce sl h pc' Ls rest) : WP own code maxL ret nm R Z L h0 ws mine0 Q mine ce sl h pc Ls (.null :: rest) :=
  K.pure1 fun p e below T m c t h hx hc hr => XS.ifnullYes h hx rfl rfl (hb hc hd) rfl ho hp hr
theorem WP.ifnullF {o : Int} {a : Addr} (hd : decode code pc = .ok (.ifnull o, 3)) (hp : pc + 3 = pc') (K : WP own code maxL ret nm R Z L h0 ws mine0 Q mine ce sl h pc' Ls rest) : WP own code maxL ret nm R Z L h0 ws mine0 Q mine ce sl h pc Ls (.ref a :: rest) := by
  subst hp; exact K.pure1 fun p e below T m c t h hx hc hr => XS.ifnullNo h hx rfl (hb hc hd) rfl hr
theorem WP.ifnonnullT {o : Int} {a : Addr} (hd : decode code pc = .ok (.ifnonnull o, 3)) (ho : 0 ≤ (pc : Int) + o) (hp : ((pc : Int) + o).toNat = pc') (K : WP own code maxL ret nm R Z L h0 ws mine0 Q mine ce sl h pc' Ls rest) : WP own code maxL ret nm R Z L h0 ws mine0 Q mine ce sl h pc Ls (.ref a :: rest) :=
  K.pure1 fun p e below T m c t h hx hc hr => XS.ifnonnullYes h hx rfl rfl (hb hc hd) rfl ho hp hr
theorem WP.ifnonnullF {o : Int} (hd : decode code pc = .ok (.ifnonnull o, 3)) (hp : pc + 3 = pc') (K : WP own code maxL ret nm R Z L h0 ws mine0 Q mine ce sl h pc' Ls rest) : WP own code maxL ret nm R Z L h0 ws mine0 Q mine ce sl h pc Ls (.null :: rest) := by
  subst hp; exact K.pure1 fun p e below T m c t h hx hc hr => XS.ifnonnullNo h hx rfl (hb hc hd) rfl hr
theorem WP.acmp {cd : ACond} {o : Int} {x y : Value} (hd : decode code pc = .ok (.if_acmp cd o, 3)) (h1 : x.isRef = true) (h2 : y.isRef = true) (same : Bool) (hq : decide (x = y) = same) (ho : 0 ≤ (pc : Int) + o) (hp : pc' = if acV cd same = true then ((pc : Int) + o).toNat else pc + 3) (K : WP own code maxL ret nm R Z L h0 ws mine0 Q mine ce sl h pc' Ls rest) : WP own code maxL ret nm R Z L h0 ws mine0 Q mine ce sl h pc Ls (y :: x :: rest) := by
  intro p l e s m args below meth c B T locs X hT
  exact (K p l e s m args below meth c B T locs X hT).step fun t hr => Jvm.RoadKit.acmp X.1 B.1 rfl h1 h2 rfl (hb B.2.1 hd) rfl hq ho hp hr
end Plain
end Jvm.OwnW
namespace Jvm.OwnW
open Jvm Jvm.ClassFile Sem Op Lib Jvm.Free Jvm.Stand Jvm.LawKit Jvm.RoadKit Bundle
/-- an array of ints, chars, bytes or booleans with these components -/
def ArI (Z : State) (h : Heap) (a : Addr) (ty : FieldType) (xs : List Int32) : Prop := ∃ c : Cell, Arr Z h a c ty ∧ c.slots = (xs.map Value.int).toArray ∧ xs.length < 2 ^ 31
section Ar
variable {Z : State} {h h' : Heap} {a b : Addr} {ty : FieldType} {xs : List Int32} {ws : List Addr}
theorem ArI.lt (A : ArI Z h a ty xs) : a < h.size := by obtain ⟨c, A, -⟩ := A; exact A.lt
theorem ArI.len (A : ArI Z h a ty xs) : xs.length < 2 ^ 31 := by obtain ⟨c, -, -, r⟩ := A; exact r
theorem ArI.ext (A : ArI Z h a ty xs) (E : Ext h h') : ArI Z h' a ty xs := by obtain ⟨c, A, r⟩ := A; exact ⟨c, A.ext E, r⟩
theorem ArI.other {sl : Nat} {v : Value} (A : ArI Z h a ty xs) (W : Wr h h' b sl v) (q : a ≠ b) : ArI Z h' a ty xs := by obtain ⟨c, A, r⟩ := A; exact ⟨c, A.other W q, r⟩
theorem ArI.cell (A : ArI Z h a ty xs) (hk : ∀ c, h[a]? = some c → h'[a]? = some c) : ArI Z h' a ty xs := by obtain ⟨c, A, r⟩ := A; exact ⟨c, ⟨hk _ A.1, A.2⟩, r⟩
theorem ArI.keep (A : ArI Z h a ty xs) (K : Keep h h' ws) (q : a ∉ ws) : ArI Z h' a ty xs := A.cell fun c hc => K.2.1 a c hc q
theorem ArI.set {i : Nat} {x : Int32} (A : ArI Z h a ty xs) (W : Wr h h' a i (.int x)) : ArI Z h' a ty (xs.set i x) := by
  obtain ⟨c, A, r1, r2⟩ := A
  refine ⟨_, A.same W, ?_, by simpa using r2⟩
  show c.slots.setIfInBounds i (.int x) = _
  rw [r1]; simp [List.map_set]
theorem nat_clamp {j : Int32} {i : Nat} (hj : j.toInt = (i : Int)) : j.toNatClampNeg = i := by simp [Int32.toNatClampNeg, hj]
theorem ArI.inb {c : Cell} {j : Int32} {i : Nat} (r : c.slots = (xs.map Value.int).toArray) (hj : j.toInt = (i : Int)) (hi : i < xs.length) : ¬ (j < 0 ∨ c.slots.size ≤ j.toNatClampNeg) := by
  rw [nat_clamp hj, r]
  rw [Int32.lt_iff_toInt_lt, hj]
  simp; omega
end Ar
section Heap
variable {R : Room} {Z : State} {L : Lits} {h0 h : Heap} {ws mine0 mine : List Addr} {ce sl : Nat} {own : String} {code : ByteArray} {maxL : Nat} {ret : Option FieldType} {nm : String} {Q : Option Value → Heap → List Addr → Prop} {pc pc' : Nat} {Ls : List Slot} {rest : List Value} {a0 : Array Value} {a : Addr}
theorem WP.getfield {R0 O n d host : String} {idx : Nat} {v : Value} (hd : decode code pc = .ok (.getfield idx, 3)) (w : (Jvm.Cond.fieldLink own idx R0 n d).before a0 Z = true ∨ (Jvm.Cond.fieldLinkNest own idx R0 n d host).before a0 Z = true) (via : Via Z R0 O n d) (F : Fld Z h a O n d v) (hp : pc + 3 = pc')
    (K : WP own code maxL ret nm R Z L h0 ws mine0 Q mine ce sl h pc' Ls (v :: rest)) : WP own code maxL ret nm R Z L h0 ws mine0 Q mine ce sl h pc Ls (.ref a :: rest) := by
  intro p l e s m args below meth c B T locs X hT
  subst hp
  obtain ⟨T', Y, eT, st⟩ := getF X.1 B.1 X.warm (X.hown B) w via hT F (g := mkF m pc Ls.toArray (.ref a :: rest)) rfl rfl (hb B.2.1 hd)
  exact (K p l e s m args below meth c B T' locs (X.same Y (eT.trans hT.symm)) eT).step st
theorem WP.getstatic {R0 O n d host : String} {idx : Nat} {v : Value} (hd : decode code pc = .ok (.getstatic idx, 3)) (w : (Jvm.Cond.fieldLink own idx R0 n d).before a0 Z = true ∨ (Jvm.Cond.fieldLinkNest own idx R0 n d host).before a0 Z = true) (via : Via Z R0 O n d) (F : Sta Z Z.heap O n d v) (hp : pc + 3 = pc')
    (K : WP own code maxL ret nm R Z L h0 ws mine0 Q mine ce sl h pc' Ls (v :: rest)) : WP own code maxL ret nm R Z L h0 ws mine0 Q mine ce sl h pc Ls rest := by
  intro p l e s m args below meth c B T locs X hT
  subst hp
  have F' : Sta Z h O n d v := F.ext (hT ▸ X.2.2.2.2.2.1)
  obtain ⟨T', Y, eT, st⟩ := getS2 X.1 B.1 X.warm (X.hown B) w via hT F' (g := mkF m pc Ls.toArray rest) rfl (hb B.2.1 hd)
  exact (K p l e s m args below meth c B T' locs (X.same Y (eT.trans hT.symm)) eT).step st
theorem WP.putfield {R0 O n d host C : String} {idx kk : Nat} {ty : FieldType} {v old : Value} (hd : decode code pc = .ok (.putfield idx, 3)) (w : (Jvm.Cond.fieldLink own idx R0 n d).before a0 Z = true ∨ (Jvm.Cond.fieldLinkNest own idx R0 n d host).before a0 Z = true) (via : Via Z R0 O n d) (F : Fld Z h a O n d old) (E : Exa Z h a C)
    (La : (Jvm.Cond.lays C O n d).before a0 Z = true ∨ ((Jvm.Cond.laysFinal C O n d).before a0 Z = true ∧ own = O ∧ nm = "<init>")) (wi : (Jvm.Cond.instantiable C kk).before a0 Z = true) (hty : parseFieldDescriptor d = some ty) (hn : narrow ty v = v) (hf : fits ty v = true) (hm : a ∈ mine) (hw : a ∈ ws ∨ h0.size ≤ a) (hp : pc + 3 = pc')
    (K : ∀ h', Wr h h' a (Jvm.RoadKit.slotOf Z O n d) v → Fld Z h' a O n d v → Exa Z h' a C → WP own code maxL ret nm R Z L h0 ws mine0 Q mine ce sl h' pc' Ls rest) : WP own code maxL ret nm R Z L h0 ws mine0 Q mine ce sl h pc Ls (v :: .ref a :: rest) := by
  intro p l e s m args below meth c B T locs X hT
  subst hp
  obtain ⟨T', h', Y, eT, W, st⟩ := putF X.1 B.1 X.warm (X.hown B) w via hT F E (La.imp id fun q => ⟨q.1, q.2.1, B.2.2.2.2.2.2.trans q.2.2⟩) wi hty hn hf (g := mkF m pc Ls.toArray (v :: .ref a :: rest)) rfl rfl (hb B.2.1 hd)
  subst hT
  subst eT
  refine (K _ W (F.same W) (E.wr W) p l e s m args below meth c B T' _ (X.rebase Y (Fr.snoc Y X.2.2.1 (X.2.2.2.2.2.2.1 _ hm).1) (by rw [W.size]; exact Nat.le_refl _) (fun x c hc hx => ?_) (fun x hx => Or.inl hx) (X.2.2.2.1.wr W hw)) rfl).step st
  obtain ⟨c', q1, -, -, -, q5, -⟩ := wr_at W hc
  rw [← q5 fun q => hx (q ▸ hm)]; exact q1
theorem WP.new {C : String} {idx n : Nat} (hd : decode code pc = .ok (.new idx, 3)) (w : (Jvm.Cond.classLink own idx C).before a0 Z = true) (wi : (Jvm.Cond.instantiable C n).before a0 Z = true) (wz : (Jvm.Cond.initialized C).before a0 Z = true) (hc : ce + 1 ≤ R.cells) (hl : sl + n ≤ R.slots) (hp : pc + 3 = pc')
    (K : ∀ h' a, a = h.size → a ∉ mine → h0.size ≤ a → Ext h h' → Exa Z h' a C → (∀ {O nm d : String} {ty : FieldType}, Laid Z a0 C O nm d → parseFieldDescriptor d = some ty → Fld Z h' a O nm d (defaultValue ty)) → WP own code maxL ret nm R Z L h0 ws mine0 Q (a :: mine) (ce + 1) (sl + n) h' pc' Ls (.ref a :: rest)) : WP own code maxL ret nm R Z L h0 ws mine0 Q mine ce sl h pc Ls rest := by
  intro p l e s m args below meth c B T locs X hT
  subst hp
  obtain ⟨T', h', Y, eT, E, A, D, -, st⟩ := newO X.1 B.1 X.warm (X.hown B) w wi wz hT (g := mkF m pc Ls.toArray rest) rfl (hb B.2.1 hd) hc hl
  subst hT
  subst eT
  refine (K _ _ rfl (fun hx => absurd (X.2.2.2.2.2.2.1 _ hx).2 (Nat.lt_irrefl _)) X.2.2.2.1.1 E A D p l e s m args below meth c B T' _ (X.rebase Y X.2.2.1 E.1 (fun x c hc hx => E.2 _ _ hc) (fun x hx => ?_) (X.2.2.2.1.ext E)) rfl).step st
  rcases List.mem_cons.mp hx with rfl | hx
  · exact Or.inr ⟨Nat.le_refl _, A.lt⟩
  · exact Or.inl hx
theorem WP.newarray {aty : ArrayType} {n : Int32} {N : Nat} (hd : decode code pc = .ok (.newarray aty, 2)) (w : (Jvm.Cond.arrayClass (newarray.typeOf aty)).before a0 Z = true) (hdv : defaultValue (newarray.typeOf aty) = .int 0) (hn : n.toInt = (N : Int)) (hb1 : N * 8 ≤ 536870912) (hc : ce + 1 ≤ R.cells) (hl : sl + N ≤ R.slots) (hp : pc + 2 = pc')
    (K : ∀ h' a, a = h.size → a ∉ mine → h0.size ≤ a → Ext h h' → ArI Z h' a (newarray.typeOf aty) (List.replicate N 0) → WP own code maxL ret nm R Z L h0 ws mine0 Q (a :: mine) (ce + 1) (sl + N) h' pc' Ls (.ref a :: rest)) : WP own code maxL ret nm R Z L h0 ws mine0 Q mine ce sl h pc Ls (.int n :: rest) := by
  intro p l e s m args below meth c B T locs X hT
  subst hp
  obtain ⟨T', h', cA, Y, eT, E, A, st⟩ := newP X.1 B.1 X.warm w hT (g := mkF m pc Ls.toArray (.int n :: rest)) rfl (hb B.2.1 hd) rfl (by rw [Int32.lt_iff_toInt_lt, hn]; simp) (cap := N) (by rw [nat_clamp hn]; exact Nat.le_refl _) hb1 hc hl
  subst hT
  subst eT
  have A' : ArI Z T'.heap T.heap.size (newarray.typeOf aty) (List.replicate N 0) := ⟨_, A, by simp [newA, nat_clamp hn, hdv], by simp; omega⟩
  refine (K _ _ rfl (fun hx => absurd (X.2.2.2.2.2.2.1 _ hx).2 (Nat.lt_irrefl _)) X.2.2.2.1.1 E A' p l e s m args below meth c B T' _ (X.rebase Y X.2.2.1 E.1 (fun x c hc hx => E.2 _ _ hc) (fun x hx => ?_) (X.2.2.2.1.ext E)) rfl).step st
  rcases List.mem_cons.mp hx with rfl | hx
  · exact Or.inr ⟨Nat.le_refl _, A.lt⟩
  · exact Or.inl hx
theorem wr_mine {h h' : Heap} {a : Addr} {sl : Nat} {v : Value} {mine : List Addr} (W : Wr h h' a sl v) (hm : a ∈ mine) : ∀ x c, h[x]? = some c → x ∉ mine → h'[x]? = some c := fun x c hc hx => by
  obtain ⟨c', q1, -, -, -, q5, -⟩ := wr_at W hc
  rw [← q5 fun q => hx (q ▸ hm)]; exact q1
theorem WP.castore {xs : List Int32} {i : Nat} {j x : Int32} (hd : decode code pc = .ok (.castore, 1)) (A : ArI Z h a .char xs) (hj : j.toInt = (i : Int)) (hi : i < xs.length) (hm : a ∈ mine) (hw : a ∈ ws ∨ h0.size ≤ a) (hp : pc + 1 = pc')
    (K : ∀ h', Wr h h' a i (.int (nar .char x)) → ArI Z h' a .char (xs.set i (nar .char x)) → WP own code maxL ret nm R Z L h0 ws mine0 Q mine ce sl h' pc' Ls rest) : WP own code maxL ret nm R Z L h0 ws mine0 Q mine ce sl h pc Ls (.int x :: .int j :: .ref a :: rest) := by
  intro p l e s m args below meth c B T locs X hT
  subst hp
  obtain ⟨cl, A', r1, r2⟩ := id A
  obtain ⟨T', h', Y, eT, W, st⟩ := stC X.1 B.1 X.warm hT A' (ArI.inb r1 hj hi) (g := mkF m pc Ls.toArray (.int x :: .int j :: .ref a :: rest)) rfl rfl (hb B.2.1 hd)
  rw [nat_clamp hj] at W Y
  subst hT
  subst eT
  exact (K _ W (A.set W) p l e s m args below meth c B T' _ (X.rebase Y (Fr.snoc Y X.2.2.1 (X.2.2.2.2.2.2.1 _ hm).1) (by rw [W.size]; exact Nat.le_refl _) (wr_mine W hm) (fun x hx => Or.inl hx) (X.2.2.2.1.wr W hw)) rfl).step st
theorem WP.bastore {xs : List Int32} {i : Nat} {j x : Int32} (hd : decode code pc = .ok (.bastore, 1)) (A : ArI Z h a .byte xs) (hj : j.toInt = (i : Int)) (hi : i < xs.length) (hm : a ∈ mine) (hw : a ∈ ws ∨ h0.size ≤ a) (hp : pc + 1 = pc')
    (K : ∀ h', Wr h h' a i (.int (nar .byte x)) → ArI Z h' a .byte (xs.set i (nar .byte x)) → WP own code maxL ret nm R Z L h0 ws mine0 Q mine ce sl h' pc' Ls rest) : WP own code maxL ret nm R Z L h0 ws mine0 Q mine ce sl h pc Ls (.int x :: .int j :: .ref a :: rest) := by
  intro p l e s m args below meth c B T locs X hT
  subst hp
  obtain ⟨cl, A', r1, r2⟩ := id A
  obtain ⟨T', h', Y, eT, W, st⟩ := stB X.1 B.1 X.warm hT A' (ArI.inb r1 hj hi) (g := mkF m pc Ls.toArray (.int x :: .int j :: .ref a :: rest)) rfl rfl (hb B.2.1 hd)
  rw [nat_clamp hj] at W Y
  subst hT
  subst eT
  exact (K _ W (A.set W) p l e s m args below meth c B T' _ (X.rebase Y (Fr.snoc Y X.2.2.1 (X.2.2.2.2.2.2.1 _ hm).1) (by rw [W.size]; exact Nat.le_refl _) (wr_mine W hm) (fun x hx => Or.inl hx) (X.2.2.2.1.wr W hw)) rfl).step st
theorem WP.iastore {xs : List Int32} {i : Nat} {j x : Int32} (hd : decode code pc = .ok (.iastore, 1)) (A : ArI Z h a .int xs) (hj : j.toInt = (i : Int)) (hi : i < xs.length) (hm : a ∈ mine) (hw : a ∈ ws ∨ h0.size ≤ a) (hp : pc + 1 = pc')
    (K : ∀ h', Wr h h' a i (.int x) → ArI Z h' a .int (xs.set i x) → WP own code maxL ret nm R Z L h0 ws mine0 Q mine ce sl h' pc' Ls rest) : WP own code maxL ret nm R Z L h0 ws mine0 Q mine ce sl h pc Ls (.int x :: .int j :: .ref a :: rest) := by
  intro p l e s m args below meth c B T locs X hT
  subst hp
  obtain ⟨cl, A', r1, r2⟩ := id A
  obtain ⟨T', h', Y, eT, W, st⟩ := stI X.1 B.1 X.warm hT A' (ArI.inb r1 hj hi) (g := mkF m pc Ls.toArray (.int x :: .int j :: .ref a :: rest)) rfl rfl (hb B.2.1 hd)
  rw [nat_clamp hj] at W Y
  subst hT
  subst eT
  exact (K _ W (A.set W) p l e s m args below meth c B T' _ (X.rebase Y (Fr.snoc Y X.2.2.1 (X.2.2.2.2.2.2.1 _ hm).1) (by rw [W.size]; exact Nat.le_refl _) (wr_mine W hm) (fun x hx => Or.inl hx) (X.2.2.2.1.wr W hw)) rfl).step st
theorem ArI.at {Z : State} {xs : List Int32} {c : Cell} {j x : Int32} {i : Nat} (r : c.slots = (xs.map Value.int).toArray) (hj : j.toInt = (i : Int)) (hx : xs[i]? = some x) : c.slots[j.toNatClampNeg]? = some (.int x) := by
  rw [nat_clamp hj, r]; simp [hx]
theorem lt_of_some {xs : List Int32} {i : Nat} {x : Int32} (h : xs[i]? = some x) : i < xs.length := (List.getElem?_eq_some_iff.mp h).1
theorem WP.caload {xs : List Int32} {i : Nat} {j x : Int32} (hd : decode code pc = .ok (.caload, 1)) (A : ArI Z h a .char xs) (hj : j.toInt = (i : Int)) (hx : xs[i]? = some x) (hp : pc + 1 = pc')
    (K : WP own code maxL ret nm R Z L h0 ws mine0 Q mine ce sl h pc' Ls (.int x :: rest)) : WP own code maxL ret nm R Z L h0 ws mine0 Q mine ce sl h pc Ls (.int j :: .ref a :: rest) := by
  intro p l e s m args below meth c B T locs X hT
  subst hp
  obtain ⟨cl, A', r1, r2⟩ := A
  exact (K p l e s m args below meth c B T locs X hT).step fun t hr => X.1.caload B.1 (j := j) (v := .int x) (by rw [hT]; exact A'.1) (State.isArrayOf_alike X.warm.alike A'.2.1) A'.2.2 (ArI.inb r1 hj (lt_of_some hx)) (ArI.at (Z := Z) r1 hj hx) (g := mkF m pc Ls.toArray (.int j :: .ref a :: rest)) rfl rfl (hb B.2.1 hd) _ hr
theorem WP.baload {xs : List Int32} {i : Nat} {j x : Int32} (hd : decode code pc = .ok (.baload, 1)) (A : ArI Z h a .byte xs) (hj : j.toInt = (i : Int)) (hx : xs[i]? = some x) (hp : pc + 1 = pc')
    (K : WP own code maxL ret nm R Z L h0 ws mine0 Q mine ce sl h pc' Ls (.int x :: rest)) : WP own code maxL ret nm R Z L h0 ws mine0 Q mine ce sl h pc Ls (.int j :: .ref a :: rest) := by
  intro p l e s m args below meth c B T locs X hT
  subst hp
  obtain ⟨cl, A', r1, r2⟩ := A
  exact (K p l e s m args below meth c B T locs X hT).step fun t hr => X.1.baloadBytes B.1 (j := j) (v := .int x) (by rw [hT]; exact A'.1) (State.isArrayOf_alike X.warm.alike A'.2.1) A'.2.2 (ArI.inb r1 hj (lt_of_some hx)) (ArI.at (Z := Z) r1 hj hx) (g := mkF m pc Ls.toArray (.int j :: .ref a :: rest)) rfl rfl (hb B.2.1 hd) _ hr
theorem WP.iaload {xs : List Int32} {i : Nat} {j x : Int32} (hd : decode code pc = .ok (.iaload, 1)) (A : ArI Z h a .int xs) (hj : j.toInt = (i : Int)) (hx : xs[i]? = some x) (hp : pc + 1 = pc')
    (K : WP own code maxL ret nm R Z L h0 ws mine0 Q mine ce sl h pc' Ls (.int x :: rest)) : WP own code maxL ret nm R Z L h0 ws mine0 Q mine ce sl h pc Ls (.int j :: .ref a :: rest) := by
  intro p l e s m args below meth c B T locs X hT
  subst hp
  obtain ⟨cl, A', r1, r2⟩ := A
  exact (K p l e s m args below meth c B T locs X hT).step fun t hr => X.1.iaload B.1 (j := j) (v := .int x) (by rw [hT]; exact A'.1) (State.isArrayOf_alike X.warm.alike A'.2.1) A'.2.2 (ArI.inb r1 hj (lt_of_some hx)) (ArI.at (Z := Z) r1 hj hx) (g := mkF m pc Ls.toArray (.int j :: .ref a :: rest)) rfl rfl (hb B.2.1 hd) _ hr
theorem WP.arraylength {ty : FieldType} {xs : List Int32} {n : Int32} (hd : decode code pc = .ok (.arraylength, 1)) (A : ArI Z h a ty xs) (hn : Int32.ofNat xs.length = n) (hp : pc + 1 = pc')
    (K : WP own code maxL ret nm R Z L h0 ws mine0 Q mine ce sl h pc' Ls (.int n :: rest)) : WP own code maxL ret nm R Z L h0 ws mine0 Q mine ce sl h pc Ls (.ref a :: rest) := by
  intro p l e s m args below meth c B T locs X hT
  subst hp
  obtain ⟨cl, A', r1, r2⟩ := A
  have hsz : cl.slots.size.toInt32 = n := by rw [r1, ← hn]; simp
  exact (K p l e s m args below meth c B T locs X hT).step fun t hr => X.1.arraylength B.1 (by rw [hT]; exact A'.1) (State.isArrayOf_alike X.warm.alike A'.2.1) (g := mkF m pc Ls.toArray (.ref a :: rest)) rfl rfl (hb B.2.1 hd) _ (by rw [hsz]; exact hr)
theorem WP.checkcast {K' : String} {idx : Nat} (hd : decode code pc = .ok (.checkcast idx, 3)) (w : (Jvm.Cond.classLink own idx K').before a0 Z = true) (F : Ins Z h a K' true) (hp : pc + 3 = pc')
    (K : WP own code maxL ret nm R Z L h0 ws mine0 Q mine ce sl h pc' Ls (.ref a :: rest)) : WP own code maxL ret nm R Z L h0 ws mine0 Q mine ce sl h pc Ls (.ref a :: rest) := by
  intro p l e s m args below meth c B T locs X hT
  subst hp
  obtain ⟨T', Y, eT, st⟩ := castY X.1 B.1 X.warm (X.hown B) w hT F (g := mkF m pc Ls.toArray (.ref a :: rest)) rfl rfl (hb B.2.1 hd)
  exact (K p l e s m args below meth c B T' locs (X.same Y (eT.trans hT.symm)) eT).step st
theorem WP.checkcastNull {idx : Nat} (hd : decode code pc = .ok (.checkcast idx, 3)) (hp : pc + 3 = pc')
    (K : WP own code maxL ret nm R Z L h0 ws mine0 Q mine ce sl h pc' Ls (.null :: rest)) : WP own code maxL ret nm R Z L h0 ws mine0 Q mine ce sl h pc Ls (.null :: rest) := by
  intro p l e s m args below meth c B T locs X hT
  subst hp
  exact (K p l e s m args below meth c B T locs X hT).step fun t hr => X.1.checkcastNull B.1 (g := mkF m pc Ls.toArray (.null :: rest)) rfl rfl (hb B.2.1 hd) _ hr
theorem WP.instanceofY {K' : String} {idx : Nat} (hd : decode code pc = .ok (.instanceof idx, 3)) (w : (Jvm.Cond.classLink own idx K').before a0 Z = true) (F : Ins Z h a K' true) (hp : pc + 3 = pc')
    (K : WP own code maxL ret nm R Z L h0 ws mine0 Q mine ce sl h pc' Ls (.int 1 :: rest)) : WP own code maxL ret nm R Z L h0 ws mine0 Q mine ce sl h pc Ls (.ref a :: rest) := by
  intro p l e s m args below meth c B T locs X hT
  subst hp
  obtain ⟨T', Y, eT, st⟩ := instY X.1 B.1 X.warm (X.hown B) w hT F (g := mkF m pc Ls.toArray (.ref a :: rest)) rfl rfl (hb B.2.1 hd)
  exact (K p l e s m args below meth c B T' locs (X.same Y (eT.trans hT.symm)) eT).step st
theorem WP.ldcInt {idx : Nat} {v : Int32} (hd : decode code pc = .ok (.ldc idx, 2)) (w : (Jvm.Cond.constant own idx v).before a0 Z = true) (hp : pc + 2 = pc')
    (K : WP own code maxL ret nm R Z L h0 ws mine0 Q mine ce sl h pc' Ls (.int v :: rest)) : WP own code maxL ret nm R Z L h0 ws mine0 Q mine ce sl h pc Ls rest := by
  intro p l e s m args below meth c B T locs X hT
  subst hp
  exact (K p l e s m args below meth c B T locs X hT).step fun t hr => X.1.ldcInt B.1 (X.hown B) (mv X.warm w) (g := mkF m pc Ls.toArray rest) rfl (hb B.2.1 hd) _ hr
theorem WP.ldc2Long {idx : Nat} {v : Int64} (hd : decode code pc = .ok (.ldc2_w idx, 3)) (w : (Jvm.Cond.constantLong own idx v).before a0 Z = true) (hp : pc + 3 = pc')
    (K : WP own code maxL ret nm R Z L h0 ws mine0 Q mine ce sl h pc' Ls (.long v :: rest)) : WP own code maxL ret nm R Z L h0 ws mine0 Q mine ce sl h pc Ls rest := by
  intro p l e s m args below meth c B T locs X hT
  subst hp
  exact (K p l e s m args below meth c B T locs X hT).step fun t hr => X.1.ldc2Long B.1 (X.hown B) (mv X.warm w) (g := mkF m pc Ls.toArray rest) rfl (hb B.2.1 hd) _ hr
theorem WP.initObj {idx : Nat} {W : Nat} (hd : decode code pc = .ok (.invokespecial idx, 3)) (w1 : (Jvm.Cond.methodLink own idx Lib.objectInit).before a0 Z = true) (w2 : (Jvm.Cond.instanceMethod Lib.objectInit).before a0 Z = true) (w3 : (Jvm.Cond.code Lib.objectInit ⟨#[0xb1]⟩ 1 none).before a0 Z = true)
    (hLs : Ls.length = maxL) (hf : 1 ≤ R.frames) (hW : (rest.map fun v => v.category).sum ≤ W) (hl : W + 12 ≤ R.locals) (hp : pc + 3 = pc')
    (K : WP own code maxL ret nm R Z L h0 ws mine0 Q mine ce sl h pc' Ls rest) : WP own code maxL ret nm R Z L h0 ws mine0 Q mine ce sl h pc Ls (.ref a :: rest) := by
  intro p l e s m args below meth c B T locs X hT
  subst hp
  obtain ⟨T', Y, eT, st⟩ := initO X.1 B.1 X.warm (X.hown B) w1 w2 w3 hT (g := mkF m pc Ls.toArray (.ref a :: rest)) rfl (by simp [hLs, B.2.2.1]) rfl (hb B.2.1 hd) hf (W := W) (by simpa using hW) hl
  exact (K p l e s m args below meth c B T' locs (X.same Y (eT.trans hT.symm)) eT).step st
/-- the end of a walk -/
theorem WP.leave {v : Option Value} {st : List Value} {nw : List Addr} (hv : ret = none → v = none) (hq : Q v h nw) (hn : ∀ x ∈ nw, x ∈ mine ∧ h0.size ≤ x) (hm : ∀ x ∈ mine0, x ∈ mine) (hc : ce ≤ R.cells) (hs : sl ≤ R.slots)
    (hstep : ∀ (p : Program) (l : Launch) (e : Env) (s : State) (m : MethodId) (args : Array Value) (below : List Frame) (meth : Method) (c : Code) (T : State) (locs : List Loc), Bdy p s m meth c own code maxL ret nm → Stand p l e R (s.setVm T.vm) m args below meth c T locs ce sl → ∀ fs, (∀ (f : JFrame) (acts : List Action), f.method = m → f.locked = none → f.entered = [] → (doReturn e (T.setTop f) acts v).1 = T.setFrames fs) → Steps p.tables e below (T.setTop (mkF m pc Ls.toArray st)) (T.setFrames fs)) :
    WP own code maxL ret nm R Z L h0 ws mine0 Q mine ce sl h pc Ls st := by
  intro p l e s m args below meth c B T locs X hT
  have hlk : meth.locks = false := B.2.2.2.2.2.1
  obtain ⟨fs, h1, h2, h3, h4⟩ := X.1.leaveW X.2.1 (Nat.le_refl _) (v := v) (fun q => hv (B.2.2.2.2.1.symm.trans q)) hlk
  subst hT
  refine ⟨T.setFrames fs, v, locs, nw, hstep p l e s m args below meth c T locs B X.1 fs h1, h2, h3, ⟨h4.1, h4.2.1, h4.2.2.1, h4.2.2.2.mono hc hs⟩, X.2.2.1, X.2.2.2.1, fun x hx => (hn x hx).2, X.2.2.2.2.mono (fun x hx => ?_), hq⟩
  rcases List.mem_append.mp hx with q | q
  · exact (hn x q).1
  · exact hm x q
theorem WP.vret {nw : List Addr} (hd : decode code pc = .ok (.return_, 1)) (hret : ret = none) (hq : Q none h nw) (hn : ∀ x ∈ nw, x ∈ mine ∧ h0.size ≤ x) (hm : ∀ x ∈ mine0, x ∈ mine) (hc : ce ≤ R.cells) (hs : sl ≤ R.slots) : WP own code maxL ret nm R Z L h0 ws mine0 Q mine ce sl h pc Ls [] :=
  WP.leave (fun _ => rfl) hq hn hm hc hs fun p l e s m args below meth c T locs B X fs hr => X.returnOut B.1 (B.2.2.2.2.1.trans hret) (hb B.2.1 hd) hr
theorem WP.areturn {v : Value} {t : FieldType} {nw : List Addr} (hd : decode code pc = .ok (.areturn, 1)) (hret : ret = some t) (ht : t.isReference = true) (hv : v.isRef = true) (hq : Q (some v) h nw) (hn : ∀ x ∈ nw, x ∈ mine ∧ h0.size ≤ x) (hm : ∀ x ∈ mine0, x ∈ mine) (hc : ce ≤ R.cells) (hs : sl ≤ R.slots) : WP own code maxL ret nm R Z L h0 ws mine0 Q mine ce sl h pc Ls [v] :=
  WP.leave (fun q => by rw [hret] at q; cases q) hq hn hm hc hs fun p l e s m args below meth c T locs B X fs hr => X.areturnOut B.1 hv (B.2.2.2.2.1.trans hret) ht (hb B.2.1 hd) hr
theorem WP.ireturn {x : Int32} {t : FieldType} {nw : List Addr} (hd : decode code pc = .ok (.ireturn, 1)) (hret : ret = some t) (ht : t = .int ∨ t = .boolean ∨ t = .byte ∨ t = .char ∨ t = .short) (hx : narrow t (.int x) = .int x) (hq : Q (some (.int x)) h nw) (hn : ∀ x ∈ nw, x ∈ mine ∧ h0.size ≤ x) (hm : ∀ x ∈ mine0, x ∈ mine) (hc : ce ≤ R.cells) (hs : sl ≤ R.slots) : WP own code maxL ret nm R Z L h0 ws mine0 Q mine ce sl h pc Ls [.int x] :=
  WP.leave (fun q => by rw [hret] at q; cases q) hq hn hm hc hs fun p l e s m args below meth c T locs B X fs hr => X.ireturnOut B.1 (B.2.2.2.2.1.trans hret) hx ht (hb B.2.1 hd) hr
end Heap
/-- a method's contract: these arguments, this heap, this 'mine'; it writes of the old cells only ws -/
def Con (y : MethodName) (code : ByteArray) (maxL : Nat) (ret : Option FieldType) (R : Room) (Z : State) (L : Lits) (cs : List Jvm.Cond) (as : Array Value) (h : Heap) (ws mine : List Addr) (Q : Option Value → Heap → List Addr → Prop) : Prop :=
  ∀ l : Launch, MetFree l y (head1 (Jvm.Cond.code y code maxL ret :: cs) R) (fun a U => a = as ∧ U.heap = h ∧ Inv Z L U.vm U.heap mine) (fun _ _ _ _ _ => True)
    (fun _ U o U' => ∃ (v : Option Value) (locs : List Loc) (nw : List Addr), o = .returned v ∧ ReturnedEndW U o U' locs R.cells R.slots ∧ Fr Z.heap.size locs ∧ Keep h U'.heap ws ∧ (∀ x ∈ nw, h.size ≤ x) ∧ Inv Z L U'.vm U'.heap (nw ++ mine) ∧ Q v U'.heap nw)
theorem Con.of {y : MethodName} {code : ByteArray} {maxL : Nat} {ret : Option FieldType} {R : Room} {Z : State} {L : Lits} {cs : List Jvm.Cond} {as : Array Value} {h : Heap} {ws mine : List Addr} {Q : Option Value → Heap → List Addr → Prop} {Ls : List Slot}
    (hx : plainFor y = true) (hef : ∀ m, entryFrame m as maxL = mkF m 0 Ls.toArray []) (K : WP y.cls code maxL ret y.name R Z L h ws mine Q mine 0 0 h 0 Ls []) : Con y code maxL ret R Z L cs as h ws mine Q := by
  intro l
  refine MetFree.of_bodySF hx hisR ?_
  intro p e s m args below meth c s₁ Bd hml hP _
  obtain ⟨rfl, hh, hI⟩ := hP
  have X0 : Stand p l e R s m args below meth c s₁ [] 0 0 := Stand.of_body Bd
  have e0 : s₁.heap = h := by rw [← hh, Bd.state]; rfl
  have ev : s₁.vm = s.vm := by rw [Bd.state]; rfl
  have hB : Bdy p s m meth c y.cls code maxL ret y.name := ⟨Bd.exec, Bd.bytes, hml, findClass_of_methodNamed Bd.named, Bd.returns, Bd.notSynchronized, (name_of_methodNamed Bd.named Bd.method).1⟩
  have hX : St p l e R s m args below meth c Z L h ws s₁ [] 0 0 mine := by
    refine ⟨X0.retabled X0.warmed.wide, X0.warmed.since _, Fr.nil _, by rw [e0]; exact Keep.refl _ _, ?_⟩
    rw [ev, e0, ← hh]; exact hI
  obtain ⟨s₂, v, lo, nw, r1, r2, r3, r4, r5, r6, r7, r8, r9⟩ := K p l e s m args below meth c hB s₁ [] hX e0
  exact ⟨s₂, _, by rw [hef]; exact r1, r2, r3, v, lo, nw, rfl, r4, r5, r6, r7, r8, r9⟩
section Call
variable {R R' : Room} {Z : State} {L : Lits} {h0 h : Heap} {ws ws' mine0 mine : List Addr} {ce sl : Nat} {own : String} {code : ByteArray} {maxL : Nat} {ret : Option FieldType} {nm : String} {Q : Option Value → Heap → List Addr → Prop} {pc pc' : Nat} {Ls : List Slot} {rest argsL : List Value} {a0 : Array Value} {a : Addr}
  {y z : MethodName} {cb : ByteArray} {mL : Nat} {rt : Option FieldType} {Q' : Option Value → Heap → List Addr → Prop} {idx : Nat} {as : Array Value}
theorem Con.back {p : Program} {l : Launch} {e : Env} {below : List Frame} {s : State} {sargs : Array Value} {len W : Nat} (C : Con y cb mL rt R' Z L [] as h ws' mine Q') (hZ : Z.Warmed39 s.vm) (wc : (Jvm.Cond.code y cb mL rt).before a0 Z = true) (wz : (Jvm.Cond.initialized y.cls).before a0 Z = true) (hf : R'.frames + 1 ≤ R.frames) (hl : W + (mL + 11) + R'.locals ≤ R.locals) :
    BackS l R p e below s sargs y len W (fun A b => b = as ∧ A.U.heap = h ∧ Inv Z L A.U.vm A.U.heap mine ∧ A.cells + R'.cells ≤ R.cells ∧ A.slots + R'.slots ≤ R.slots)
      (fun A _ v B => ∃ L' nw, B.locs = A.locs ++ L' ∧ B.cells = A.cells + R'.cells ∧ B.slots = A.slots + R'.slots ∧ Fr Z.heap.size L' ∧ Keep h B.U.heap ws' ∧ (∀ x ∈ nw, h.size ≤ x) ∧ Inv Z L B.U.vm B.U.heap (nw ++ mine) ∧ Q' v B.U.heap nw) :=
  BackS.of_freeW (bytes := cb) (maxL := mL) (ret := rt) (E := fun _ _ o t L1 k n => k = R'.cells ∧ n = R'.slots ∧ ∃ v nw, o = .returned v ∧ Fr Z.heap.size L1 ∧ Keep h t.heap ws' ∧ (∀ x ∈ nw, h.size ≤ x) ∧ Inv Z L t.vm t.heap (nw ++ mine) ∧ Q' v t.heap nw) (C l) hf hl
    (fun m meth c A b Y hp => have hU : Z.Warmed39 A.U.vm := wtrans hZ Y.warmed
      ⟨by show (Jvm.Cond.and _ .tt).before b A.U = true; rw [Cond.before_and, mv hU wc]; rfl, mv hU wc, mv hU wz, hp.2.2.2.1, hp.2.2.2.2⟩)
    (fun m meth c A b g mk Y hp => ⟨hp.1, hp.2.1, hp.2.2.1⟩) (fun _ _ _ _ _ _ _ _ _ => trivial)
    (fun _ _ _ _ ⟨v, L1, nw, h1, h2, h3, h4, h5, h6, h7⟩ => ⟨L1, _, _, h2, rfl, rfl, v, nw, h1, h3, h4, h5, h6, h7⟩)
    (fun m meth c A b g mk v t L1 k n Y hp _ _ ⟨e1, e2, v', nw, e3, e4, e5, e6, e7, e8⟩ => by cases e3; subst e1 e2; exact ⟨L1, nw, rfl, rfl, rfl, e4, e5, e6, e7, e8⟩)
theorem St.called {p : Program} {l : Launch} {e : Env} {s : State} {m : MethodId} {args : Array Value} {below : List Frame} {meth : Method} {c : Code} {T : State} {locs : List Loc} {B : Pt} {nw : List Addr} {L' : List Loc} {ce' sl' : Nat}
    (X : St p l e R s m args below meth c Z L h0 ws T locs ce sl mine) (hT : T.heap = h) (Y : Stand p l e R ((s.setVm T.vm).setVm B.U.vm) m args below meth c B.U B.locs B.cells B.slots) (hS : (s.setVm T.vm).Since B.U.vm B.U.heap.size) (hg : T.heap.size ≤ B.U.heap.size)
    (q1 : B.locs = locs ++ L') (q2 : B.cells = ce') (q3 : B.slots = sl') (q4 : Fr Z.heap.size L') (q5 : Keep h B.U.heap ws') (q7 : Inv Z L B.U.vm B.U.heap (nw ++ mine)) (hw : ∀ x ∈ ws', x ∈ ws ∨ h0.size ≤ x) : St p l e R s m args below meth c Z L h0 ws B.U (locs ++ L') ce' sl' (nw ++ mine) := by
  subst hT q2 q3
  exact ⟨q1 ▸ Y, X.2.1.trans hS hg, X.2.2.1.app q4, X.2.2.2.1.trans q5 hw, q7⟩
theorem WP.callS (C : Con y cb mL rt R' Z L [] argsL.toArray h ws' mine Q') (wl : (Jvm.Cond.methodLink own idx y).before a0 Z = true) (wst : (Jvm.Cond.static y).before a0 Z = true) (wz : (Jvm.Cond.initialized y.cls).before a0 Z = true) (wc : (Jvm.Cond.code y cb mL rt).before a0 Z = true)
    (hd : decode code pc = .ok (.invokestatic idx, 3)) (hy : y.cls ≠ "java/lang/invoke/MethodHandle" ∧ y.cls ≠ "java/lang/invoke/VarHandle") {sig : MethodDescriptor} (hsig : parseMethodDescriptor y.desc = some sig) (hlen : argsL.length = sig.parameters.length) {st : List Value} (hst : st = argsL.reverse ++ rest) (hLs : Ls.length = maxL)
    (hf : R'.frames + 1 ≤ R.frames) (hl : (rest.map fun v => v.category).sum + (mL + 11) + R'.locals ≤ R.locals) (hc : ce + R'.cells ≤ R.cells) (hs : sl + R'.slots ≤ R.slots) (hw : ∀ x ∈ ws', x ∈ ws ∨ h0.size ≤ x) (hp : pc + 3 = pc')
    (K : ∀ v h' nw, Keep h h' ws' → (∀ x ∈ nw, h.size ≤ x) → Q' v h' nw → WP own code maxL ret nm R Z L h0 ws mine0 Q (nw ++ mine) (ce + R'.cells) (sl + R'.slots) h' pc' Ls (v.toList ++ rest)) :
    WP own code maxL ret nm R Z L h0 ws mine0 Q mine ce sl h pc Ls st := by
  intro p l e s m args below meth c B T locs X hT
  subst hp hst
  obtain ⟨v, vm₁, Bp, hW, Y, hS, hg, ⟨L', nw, q1, q2, q3, q4, q5, q6, q7, q8⟩, st⟩ := callSS X.1 B.1 (X.hown B) (mv X.warm wl) (mv X.warm wst) (mv X.warm wz) (mv X.warm wc) hy (C.back X.warm wc wz hf hl) (g := mkF m pc Ls.toArray (argsL.reverse ++ rest)) rfl (by simp [hLs, B.2.2.1]) (argsL := argsL) (rest := rest) (fun sg h => by rw [hsig] at h; cases h; exact hlen) rfl (by simp) (hb B.2.1 hd)
    (fun vm₁ hv => ⟨rfl, hT, by show Inv Z L vm₁ T.heap mine; exact X.2.2.2.2.go (U := s.setVm T.vm) rfl hv (Nat.le_refl _) (fun _ _ hc _ => hc) (fun _ hx => Or.inl hx), hc, hs⟩)
  exact (K v Bp.U.heap nw q5 q6 q8 p l e s m args below meth c B Bp.U _ (X.called hT Y hS hg q1 q2 q3 q4 q5 q7 hw) rfl).step fun t hr => st.trans hr
theorem WP.callSp (C : Con y cb mL none R' Z L [] (.ref a :: argsL).toArray h ws' mine Q') (hy1 : y.name = "<init>") (wl : (Jvm.Cond.methodLink own idx y).before a0 Z = true) (wi : (Jvm.Cond.instanceMethod y).before a0 Z = true) (wz : (Jvm.Cond.initialized y.cls).before a0 Z = true) (wc : (Jvm.Cond.code y cb mL none).before a0 Z = true)
    (hd : decode code pc = .ok (.invokespecial idx, 3)) (hy : y.cls ≠ "java/lang/invoke/MethodHandle" ∧ y.cls ≠ "java/lang/invoke/VarHandle") {sig : MethodDescriptor} (hsig : parseMethodDescriptor y.desc = some sig) (hlen : argsL.length = sig.parameters.length) {st : List Value} (hst : st = argsL.reverse ++ .ref a :: rest) (hLs : Ls.length = maxL)
    (hf : R'.frames + 1 ≤ R.frames) (hl : (rest.map fun v => v.category).sum + (mL + 11) + R'.locals ≤ R.locals) (hc : ce + R'.cells ≤ R.cells) (hs : sl + R'.slots ≤ R.slots) (hw : ∀ x ∈ ws', x ∈ ws ∨ h0.size ≤ x) (hp : pc + 3 = pc')
    (K : ∀ v h' nw, Keep h h' ws' → (∀ x ∈ nw, h.size ≤ x) → Q' v h' nw → WP own code maxL ret nm R Z L h0 ws mine0 Q (nw ++ mine) (ce + R'.cells) (sl + R'.slots) h' pc' Ls (v.toList ++ rest)) :
    WP own code maxL ret nm R Z L h0 ws mine0 Q mine ce sl h pc Ls st := by
  intro p l e s m args below meth c B T locs X hT
  subst hp hst
  obtain ⟨v, vm₁, Bp, hW, Y, hS, hg, ⟨L', nw, q1, q2, q3, q4, q5, q6, q7, q8⟩, st⟩ := X.1.specialBackS B.1 hy1 (X.hown B) (mv X.warm wl) (mv X.warm wi) (mv X.warm wc) hy (C.back X.warm wc wz hf hl) (g := mkF m pc Ls.toArray (argsL.reverse ++ .ref a :: rest)) rfl (by simp [hLs, B.2.2.1]) (Steps.refl _) (a := a) (argsL := argsL) (rest := rest) (fun sg h => by rw [hsig] at h; cases h; exact hlen) rfl (by simp) (hb B.2.1 hd)
    (fun vm₁ hv => ⟨rfl, hT, by show Inv Z L vm₁ T.heap mine; exact X.2.2.2.2.go (U := s.setVm T.vm) rfl hv (Nat.le_refl _) (fun _ _ hc _ => hc) (fun _ hx => Or.inl hx), hc, hs⟩)
  exact (K v Bp.U.heap nw q5 q6 q8 p l e s m args below meth c B Bp.U _ (X.called hT Y hS hg q1 q2 q3 q4 q5 q7 hw) rfl).step fun t hr => st.trans hr
theorem WP.callV {Cl : String} (C : Con z cb mL rt R' Z L [] (.ref a :: argsL).toArray h ws' mine Q') (E : Exa Z h a Cl) (wl : (Jvm.Cond.methodLink own idx y).before a0 Z = true) (wd : (Jvm.Cond.declares y).before a0 Z = true) (hnf : ∀ s : State, Z.Warmed39 s.vm → NotFace s y) (wsel : (Jvm.Cond.selects Cl y z).before a0 Z = true) (wi : (Jvm.Cond.instanceMethod z).before a0 Z = true) (wz : (Jvm.Cond.initialized z.cls).before a0 Z = true) (wc : (Jvm.Cond.code z cb mL rt).before a0 Z = true)
    (hd : decode code pc = .ok (.invokevirtual idx, 3)) (hy : y.cls ≠ "java/lang/invoke/MethodHandle" ∧ y.cls ≠ "java/lang/invoke/VarHandle") {sig : MethodDescriptor} (hsig : parseMethodDescriptor y.desc = some sig) (hlen : argsL.length = sig.parameters.length) {st : List Value} (hst : st = argsL.reverse ++ .ref a :: rest) (hLs : Ls.length = maxL)
    (hf : R'.frames + 1 ≤ R.frames) (hl : (rest.map fun v => v.category).sum + (mL + 11) + R'.locals ≤ R.locals) (hc : ce + R'.cells ≤ R.cells) (hs : sl + R'.slots ≤ R.slots) (hw : ∀ x ∈ ws', x ∈ ws ∨ h0.size ≤ x) (hp : pc + 3 = pc')
    (K : ∀ v h' nw, Keep h h' ws' → (∀ x ∈ nw, h.size ≤ x) → Q' v h' nw → WP own code maxL ret nm R Z L h0 ws mine0 Q (nw ++ mine) (ce + R'.cells) (sl + R'.slots) h' pc' Ls (v.toList ++ rest)) :
    WP own code maxL ret nm R Z L h0 ws mine0 Q mine ce sl h pc Ls st := by
  intro p l e s m args below meth c B T locs X hT
  subst hp hst
  obtain ⟨cq, kq, qa, qb, qc⟩ := isOf (s := s.setVm T.vm) X.warm hT E
  obtain ⟨v, vm₁, Bp, hW, Y, hS, hg, ⟨L', nw, q1, q2, q3, q4, q5, q6, q7, q8⟩, st⟩ := X.1.virtualBackS B.1 (X.hown B) (mv X.warm wl) (mv X.warm wd) (hnf _ X.warm) (mv X.warm wsel) (mv X.warm wi) hy (C.back X.warm wc wz hf hl) qa qc (g := mkF m pc Ls.toArray (argsL.reverse ++ .ref a :: rest)) rfl (by simp [hLs, B.2.2.1]) (Steps.refl _) (argsL := argsL) (rest := rest) (fun sg h => by rw [hsig] at h; cases h; exact hlen) rfl (by simp) (hb B.2.1 hd)
    (fun vm₁ hv => ⟨rfl, hT, by show Inv Z L vm₁ T.heap mine; exact X.2.2.2.2.go (U := s.setVm T.vm) rfl hv (Nat.le_refl _) (fun _ _ hc _ => hc) (fun _ hx => Or.inl hx), hc, hs⟩)
  exact (K v Bp.U.heap nw q5 q6 q8 p l e s m args below meth c B Bp.U _ (X.called hT Y hS hg q1 q2 q3 q4 q5 q7 hw) rfl).step fun t hr => st.trans hr
theorem WP.callI {Cl : String} {count : Nat} (C : Con z cb mL rt R' Z L [] (.ref a :: argsL).toArray h ws' mine Q') (E : Exa Z h a Cl) (wl : (Jvm.Cond.methodLink own idx y).before a0 Z = true) (wd : (Jvm.Cond.declares y).before a0 Z = true) (wif : (Jvm.Cond.interfaceMethod y.cls y.cls y.name y.desc).before a0 Z = true) (wsel : (Jvm.Cond.selects Cl y z).before a0 Z = true) (wi : (Jvm.Cond.instanceMethod z).before a0 Z = true) (wpub : (Jvm.Cond.publicMethod z).before a0 Z = true) (wun : (Jvm.Cond.unhidden Cl y.name y.desc).before a0 Z = true) (wca : (Jvm.Cond.castable Cl y.cls).before a0 Z = true) (wz : (Jvm.Cond.initialized z.cls).before a0 Z = true) (wc : (Jvm.Cond.code z cb mL rt).before a0 Z = true)
    (hd : decode code pc = .ok (.invokeinterface idx count, 5)) (hy : y.cls ≠ "java/lang/invoke/MethodHandle" ∧ y.cls ≠ "java/lang/invoke/VarHandle") {sig : MethodDescriptor} (hsig : parseMethodDescriptor y.desc = some sig) (hlen : argsL.length = sig.parameters.length) {st : List Value} (hst : st = argsL.reverse ++ .ref a :: rest) (hLs : Ls.length = maxL)
    (hf : R'.frames + 1 ≤ R.frames) (hl : (rest.map fun v => v.category).sum + (mL + 11) + R'.locals ≤ R.locals) (hc : ce + R'.cells ≤ R.cells) (hs : sl + R'.slots ≤ R.slots) (hw : ∀ x ∈ ws', x ∈ ws ∨ h0.size ≤ x) (hp : pc + 5 = pc')
    (K : ∀ v h' nw, Keep h h' ws' → (∀ x ∈ nw, h.size ≤ x) → Q' v h' nw → WP own code maxL ret nm R Z L h0 ws mine0 Q (nw ++ mine) (ce + R'.cells) (sl + R'.slots) h' pc' Ls (v.toList ++ rest)) :
    WP own code maxL ret nm R Z L h0 ws mine0 Q mine ce sl h pc Ls st := by
  intro p l e s m args below meth c B T locs X hT
  subst hp hst
  obtain ⟨cq, kq, qa, qb, qc⟩ := isOf (s := s.setVm T.vm) X.warm hT E
  obtain ⟨v, vm₁, Bp, hW, Y, hS, hg, ⟨L', nw, q1, q2, q3, q4, q5, q6, q7, q8⟩, st⟩ := X.1.interfaceBackS B.1 (X.hown B) (mv X.warm wl) (mv X.warm wd) (mv X.warm wif (by simp [Cond.onTables, Cond.keepsFace, Cond.keeps, Cond.steady, Cond.faceAtom, hy.1, hy.2])) (mv X.warm wsel) (mv X.warm wi) (mv X.warm wpub) (mv X.warm wun) (mv X.warm wca) hy (C.back X.warm wc wz hf hl) qa qb qc (g := mkF m pc Ls.toArray (argsL.reverse ++ .ref a :: rest)) rfl (by simp [hLs, B.2.2.1]) (Steps.refl _) (argsL := argsL) (rest := rest) (fun sg h => by rw [hsig] at h; cases h; exact hlen) rfl (by simp) (hb B.2.1 hd)
    (fun vm₁ hv => ⟨rfl, hT, by show Inv Z L vm₁ T.heap mine; exact X.2.2.2.2.go (U := s.setVm T.vm) rfl hv (Nat.le_refl _) (fun _ _ hc _ => hc) (fun _ hx => Or.inl hx), hc, hs⟩)
  exact (K v Bp.U.heap nw q5 q6 q8 p l e s m args below meth c B Bp.U _ (X.called hT Y hS hg q1 q2 q3 q4 q5 q7 hw) rfl).step fun t hr => st.trans hr
end Call
end Jvm.OwnW
namespace Jvm.OwnW
open Jvm Jvm.ClassFile Sem Op Lib Jvm.Free Jvm.Stand Jvm.LawKit Jvm.RoadKit Bundle
open Jvm.Free.SB Jvm.Free.SBG
abbrev ST : String := "java/lang/String"
/-- a char as an int -/
def chv (u : UInt16) : Int32 := u.toUInt32.toInt32
/-- a char's low byte, its high byte, as signed bytes -/
def lo8 (u : UInt16) : Int32 := u.toUInt8.toInt8.toInt32
def hi8 (u : UInt16) : Int32 := (u >>> 8).toUInt8.toInt8.toInt32
def lat (us : List UInt16) : Bool := us.all (· < 256)
def b16 (us : List UInt16) : List Int32 := us.flatMap fun u => [lo8 u, hi8 u]
def StrAt (Z : State) (h : Heap) (a t : Addr) (us : List UInt16) : Prop :=
  Exa Z h a ST ∧ Fld Z h a ST "value" "[B" (.ref t) ∧ ((lat us = true ∧ Fld Z h a ST "coder" "B" (.int 0) ∧ ArI Z h t .byte (us.map lo8)) ∨ (lat us = false ∧ Fld Z h a ST "coder" "B" (.int 1) ∧ ArI Z h t .byte (b16 us)))
/-- a finished String: none of her two cells is written any more -/
def FStr (Z : State) (h : Heap) (mine : List Addr) (a : Addr) (us : List UInt16) : Prop := ∃ t, StrAt Z h a t us ∧ a ∉ mine ∧ t ∉ mine
section Frozen
variable {Z : State} {h h' : Heap} {mine mine' ws nw : List Addr} {a t : Addr} {us : List UInt16} {C n d : String} {v : Value}
theorem exa_cell (E : Exa Z h a C) (hk : ∀ c, h[a]? = some c → h'[a]? = some c) : Exa Z h' a C := by obtain ⟨c, k, h1, r⟩ := E; exact ⟨c, k, hk _ h1, r⟩
theorem fld_cell (F : Fld Z h a C n d v) (hk : ∀ c, h[a]? = some c → h'[a]? = some c) : Fld Z h' a C n d v := by obtain ⟨c, cf, k, i, f, h1, r⟩ := F; exact ⟨c, cf, k, i, f, hk _ h1, r⟩
theorem StrAt.cells (S : StrAt Z h a t us) (hk : ∀ c, h[a]? = some c → h'[a]? = some c) (hk' : ∀ c, h[t]? = some c → h'[t]? = some c) : StrAt Z h' a t us :=
  ⟨exa_cell S.1 hk, fld_cell S.2.1 hk, S.2.2.imp (fun q => ⟨q.1, fld_cell q.2.1 hk, q.2.2.cell hk'⟩) fun q => ⟨q.1, fld_cell q.2.1 hk, q.2.2.cell hk'⟩⟩
theorem StrAt.lt (S : StrAt Z h a t us) : a < h.size ∧ t < h.size := ⟨S.1.lt, by rcases S.2.2 with q | q <;> exact q.2.2.lt⟩
/-- over a step that keeps what is outside 'mine' -/
theorem FStr.go (S : FStr Z h mine a us) (hk : ∀ x c, h[x]? = some c → x ∉ mine → h'[x]? = some c) (hm : ∀ x ∈ mine', x ∈ mine ∨ h.size ≤ x) : FStr Z h' mine' a us := by
  obtain ⟨t, S, h1, h2⟩ := S
  refine ⟨t, S.cells (fun c hc => hk _ _ hc h1) (fun c hc => hk _ _ hc h2), fun q => ?_, fun q => ?_⟩
  · rcases hm _ q with r | r
    · exact h1 r
    · exact absurd S.lt.1 (Nat.not_lt.mpr r)
  · rcases hm _ q with r | r
    · exact h2 r
    · exact absurd S.lt.2 (Nat.not_lt.mpr r)
theorem FStr.ext (S : FStr Z h mine a us) (E : Ext h h') : FStr Z h' mine a us := S.go (fun x c hc _ => E.2 x c hc) fun x hx => Or.inl hx
/-- over 'new', which makes b one's own -/
theorem FStr.new {b : Addr} (S : FStr Z h mine a us) (E : Ext h h') (hb : b = h.size) : FStr Z h' (b :: mine) a us := S.go (fun x c hc _ => E.2 x c hc) fun x hx => by
  rcases List.mem_cons.mp hx with rfl | hx
  · exact Or.inr (Nat.le_of_eq hb.symm)
  · exact Or.inl hx
theorem FStr.wr {b : Addr} {sl : Nat} (S : FStr Z h mine a us) (W : Wr h h' b sl v) (hb : b ∈ mine) : FStr Z h' mine a us := S.go (wr_mine W hb) fun x hx => Or.inl hx
/-- over a call -/
theorem FStr.call (S : FStr Z h mine a us) (K : Keep h h' ws) (hw : ∀ x ∈ ws, x ∈ mine) (hn : ∀ x ∈ nw, h.size ≤ x) : FStr Z h' (nw ++ mine) a us :=
  S.go (fun x c hc hx => K.2.1 x c hc fun q => hx (hw x q)) fun x hx => (List.mem_append.mp hx).elim (fun q => Or.inr (hn x q)) Or.inl
theorem FStr.mono (S : FStr Z h mine a us) (hm : ∀ x ∈ mine', x ∈ mine) : FStr Z h mine' a us := by
  obtain ⟨t, S, h1, h2⟩ := S; exact ⟨t, S, fun q => h1 (hm _ q), fun q => h2 (hm _ q)⟩
theorem FStr.exa (S : FStr Z h mine a us) : Exa Z h a ST := by obtain ⟨t, S, -⟩ := S; exact S.1
end Frozen
theorem lat_units {units : Array UInt16} (h : units.all (· < 256) = true) : lat units.toList = true := by simpa [lat] using h
theorem SlM.fstr {Z : State} {vm : Vm} {h : Heap} {a : Addr} {units : Array UInt16} {mine : List Addr} (hZ : Z.Warmed39 vm) (S : SlM (wst Z vm h) a units mine) (hl : units.all (· < 256) = true) : FStr Z h mine a units.toList := by
  have hal : Z.vm.Alike vm := hZ.alike
  obtain ⟨q, cS, rfl, ⟨⟨s1, s2, s3, ⟨cv, kv, iv, s4, s4'⟩, ⟨cc, kc, ic, s5, s5'⟩, s6, s7, s8, s9, s10, s11, s12, s13, s14, s15, s16⟩, hfS, hcS⟩, ⟨kS, k1, k2, k3⟩, hB, hbyt, n1, n2⟩ := S
  obtain ⟨kv', z4⟩ := ff_back (U := wst Z vm h) hal s4
  obtain ⟨kc', z5⟩ := ff_back (U := wst Z vm h) hal s5
  have hfZ : Z.vm.findClass ST = some q.sC.cls := by rw [← hal.findClass, hcS]; exact hfS
  obtain ⟨kz, hkz, -⟩ := Vm.findClass_spec hfZ
  obtain ⟨kz', hkz', ekz⟩ := hal.2.2 _ _ hkz
  have ekS : kz' = kS := Option.some.inj (hkz'.symm.trans (hcS ▸ k1))
  obtain ⟨hst, k9, hk9, comp, hkind9⟩ := s11
  have hBZ : Z.vm.findClass "[B" = some q.SA.cls := by rw [← hal.findClass]; exact hB
  obtain ⟨kb, hkb, -⟩ := Vm.findClass_spec hBZ
  obtain ⟨kb', hkb', ekb⟩ := hal.2.2 _ _ hkb
  have ek9 : k9 = kb' := Option.some.inj (hk9.symm.trans hkb')
  have hAZ : Z.isArrayOf q.SA .byte := ⟨hst, kb, hkb, comp, by rw [ek9, ekb] at hkind9; exact hkind9⟩
  have hsl : q.SA.slots = ((units.toList.map lo8).map Value.int).toArray := by
    rw [hbyt, SBG.stringBytes_lat hl]
    apply Array.toList_inj.mp
    simp [List.map_map, Function.comp_def, byteValue, lo8]
  have hlen : (units.toList.map lo8).length < 2 ^ 31 := by
    have : q.SA.slots.size = (units.toList.map lo8).length := by rw [hsl]; simp
    rw [← this, s13]; exact s14
  exact ⟨q.sd, ⟨⟨q.sC, kz, s1, hfZ, hkz, s3, fun ho => by rw [k3, ← ekS, ekz]⟩, ⟨q.sC, cv, kv', iv, q.fSV, s1, z4, s6, s2, s3, by rw [← hal.assignable]; exact s4', s8⟩,
    Or.inl ⟨lat_units hl, ⟨q.sC, cc, kc', ic, q.fSC, s1, z5, s7, s2, s3, by rw [← hal.assignable]; exact s5', s9⟩, ⟨q.SA, ⟨s10, hAZ, s12⟩, hsl, hlen⟩⟩⟩, n1, n2⟩
/-- the state at hand as an invocation's start -/
def anew (T : State) (m : MethodId) (args : Array Value) (below : List Frame) : State := T.setFrames (.invoking m args :: below)
theorem stand_anew {p : Program} {l : Launch} {e : Env} {R : Room} {s : State} {m : MethodId} {args : Array Value} {below : List Frame} {meth : Method} {c : Code} {T : State} {locs : List Loc} {cells slots : Nat}
    (X : Stand p l e R s m args below meth c T locs cells slots) (hv : s.vm = T.vm) (hc : cells ≤ R.cells) (hs : slots ≤ R.slots) :
    Stand p l e { frames := R.frames, locals := R.locals, cells := R.cells - cells, slots := R.slots - slots } (anew T m args below) m args below meth c T [] 0 0 := by
  obtain ⟨g₀, hfr⟩ := X.frames_eq
  have hcur : T.cur < T.threads.size := State.cur_lt_of_frames hfr
  have hF : (anew T m args below).frames = .invoking m args :: below := State.frames_setFrames _ hcur
  have hm1 : (anew T m args below).vm.method? m = some meth := by show T.vm.method? m = _; rw [← hv]; exact X.method
  have hlim : e.platform.stackLimits (anew T m args below).me = e.platform.stackLimits s.me := by rw [anew, State.stackLimits_setFrames]; exact X.limits
  have hby : (anew T m args below).me.stackBytes = s.me.stackBytes := by rw [anew, State.stackBytes_setFrames]; exact X.bytes
  have hroom : (anew T m args below).hasRoom e.platform { frames := R.frames, locals := R.locals, cells := R.cells - cells, slots := R.slots - slots } = true := by
    have h := X.room
    simp only [State.hasRoom, Bool.and_eq_true, decide_eq_true_eq] at h
    rw [State.localsInUse_invoking X.frames X.method X.code, X.frames] at h
    simp only [State.hasRoom, Bool.and_eq_true, decide_eq_true_eq, hF, hlim, hby, State.localsInUse_invoking hF hm1 X.code]
    have hh := X.heapSize
    have hu := X.used
    refine ⟨⟨⟨h.1.1.1, ?_⟩, ?_⟩, X.book⟩
    · have := h.1.1.2
      show T.heap.size + (R.cells - cells) ≤ _; omega
    · have := h.1.2
      show T.slotsUsed + (R.slots - slots) ≤ _; omega
  obtain ⟨t, ht, -⟩ := State.frames_cons hF
  obtain ⟨t', ht', -⟩ := State.frames_cons hfr
  have hcur' : (anew T m args below).cur < (anew T m args below).threads.size := State.cur_lt_of_frames hF
  have hback : T = (anew T m args below).setFrames T.frames := by
    rw [anew, State.setFrames_setFrames, State.setFrames_self ht']
  have hhears : (anew T m args below).hears m below = true := by
    have h := X.hears
    have e1 : (anew T m args below).hears m below = (s.setVm T.vm).hears m below := by
      rcases below with _ | ⟨f, r⟩
      · rfl
      · cases f <;> rfl
    rw [e1, ← hv]; exact h
  refine ⟨X.admits, X.cas, X.clock, hF, hroom, hhears, hm1, X.code, X.here, X.tail, State.WarmedH.refl _, by rw [hlim]; exact X.limits, by rw [hby]; exact X.bytes, ?_⟩
  have h1 := (State.sameButNew.refl (anew T m args below) ht).setFrames T.frames hcur'
  rw [← hback] at h1
  exact h1
theorem find_push {A : Array (Array UInt16 × Addr)} {u u1 : Array UInt16} {b a1 : Addr} (h : (A.push (u1, a1)).find? (fun p => p.1 == u) = some (u, b)) : A.find? (fun p => p.1 == u) = some (u, b) ∨ (A.find? (fun p => p.1 == u) = none ∧ u1 = u ∧ a1 = b) := by
  rw [Array.find?_push] at h
  cases hf : A.find? (fun p => p.1 == u) with
  | some x => rw [hf] at h; left; simpa using h
  | none =>
    rw [hf] at h
    right
    by_cases e : u1 == u
    · simp [e] at h; exact ⟨rfl, h.1, h.2⟩
    · simp [e] at h
theorem text_inj {u u' : Array UInt16} {text : String} (ht : ∀ c ∈ text.toList, c.toNat < 256) (h : utf16ToString? u = some text) (h' : utf16ToString? u' = some text) : u = u' :=
  Array.toList_inj.mp ((Jvm.ClassFile.units_of_text h ht).trans (Jvm.ClassFile.units_of_text h' ht).symm)
def txt (s : String) : List UInt16 := s.toList.map fun c => c.toNat.toUInt16
/-- a load that changes the tables: the held constants, behind -/
theorem KH.load {Z T T₂ : State} {L : Lits} {mine : List Addr} {own text : String} {idx : Nat} {a : Addr} {k k₂ : Class} {co : ClassId} {lo : Nat} {U : State} (hU : U.vm = T.vm)
    (K : KH Z L T.vm T.heap mine) (hZ : Z.Warmed39 T.vm) (hL : Links Z L) (hq : (own, idx, text) ∈ L) (hmine : ∀ x ∈ mine, x < T.heap.size) (ht : ∀ c ∈ text.toList, c.toNat < 256) (hW : U.Warmed39 T₂.vm) (E : Ext T.heap T₂.heap)
    (hco : T.vm.findClass own = some co) (hko : T.vm.classes[co]? = some k) (hopen : k.resolved[idx]? = some none) (hk₂ : T₂.vm.classes[co]? = some k₂) (hres : k₂.resolved[idx]? = some (some (.string a)))
    (hone : T.Interned1 T₂) (hint : T₂.vm.interned = T.vm.interned ∨ ∃ (units : Array UInt16) (a' : Addr), utf16ToString? units = some text ∧ T₂.vm.interned = T.vm.interned.push (units, a'))
    (hin : ∃ units : Array UInt16, utf16ToString? units = some text ∧ SlIn lo T.heap.size T₂ a units) (hlo : lo = T.heap.size) : KH Z L T₂.vm T₂.heap mine ∧ ∃ units : Array UInt16, utf16ToString? units = some text ∧ SlM (wst Z T₂.vm T₂.heap) a units mine := by
  have hal : T.vm.Alike T₂.vm := hU ▸ hW.alike
  -- the entry of the loaded constant
  obtain ⟨a0, w⟩ := hL _ hq
  have hcoZ : Z.vm.findClass own = some co := by rw [← hZ.alike.findClass]; exact hco
  obtain ⟨kZ, cfo, io, uo, hkZ, hcfZ, hpo, huo, hnmo, htexto, -⟩ := Cond.stringLink_spec hcoZ w
  obtain ⟨kT, hkT, ekT⟩ := hZ.alike.2.2 _ _ hkZ
  cases hko.symm.trans hkT
  have hcfo : k.cf = some cfo := by rw [ekT]; exact hcfZ
  have hfo : T₂.vm.interned.find? (fun p => p.1 == uo) = some (uo, a) := by
    obtain ⟨k3, hk3, -, -, ee, -⟩ := hW.2.2.2 co k (by rw [hU]; exact hko)
    cases hk₂.symm.trans hk3
    rcases ee idx with e0 | ⟨hop, r, e1, hr | ⟨a3, t3, si, us, rfl, -, q3, q4, q5⟩⟩
    · rw [hres, hopen] at e0; cases e0
    · exfalso
      cases r <;> simp [State.rightAt, hU, hko, hcfo, hnmo] at hr
    · rw [hcfo] at q3 q4
      have e3 : si = io := by have := q3.symm.trans hpo; simpa using this
      subst e3
      have e4 : us = uo := by simpa [ConstantPool.utf8?, huo] using q4.symm
      subst e4
      have ea : a3 = a := by have := e1.symm.trans hres; simpa using this
      subst ea
      exact q5
  -- who is found behind was found ahead, or is the one just made
  have fresh : ∀ (u : Array UInt16) (b : Addr), T₂.vm.interned.find? (fun p => p.1 == u) = some (u, b) → T.vm.interned.find? (fun p => p.1 == u) = some (u, b) ∨ (SlM (wst Z T₂.vm T₂.heap) b u mine) := fun u b hf => by
    rcases hint with e | ⟨u1, a1, ht1, e⟩
    · left; rw [← e]; exact hf
    · rw [e] at hf
      rcases find_push hf with q | ⟨q0, rfl, rfl⟩
      · exact Or.inl q
      · right
        have eu : u1 = uo := text_inj ht ht1 htexto
        subst eu
        have ea : a1 = a := by
          rw [e] at hfo
          rcases find_push hfo with q | ⟨-, -, q⟩
          · rw [q0] at q; cases q
          · exact q
        subst ea
        obtain ⟨units, hut, q, cS, r1, r2, ⟨kS, r3, r4, r5⟩, r6, r7, r8⟩ := hin
        have eu : units = u1 := text_inj ht hut ht1
        subst eu
        have hge : T.heap.size ≤ a1 := by
          rcases hone.2 with e' | ⟨u2, a2, e2, g1, -⟩
          · rw [e] at e'
            have := congrArg Array.size e'
            simp at this
          · rw [e] at e2
            have e3 := congrArg (fun z => z.back?) e2
            simp at e3
            rw [e3.2]; exact g1
        have hloc : T.heap.size ≤ q.sa ∧ T.heap.size ≤ q.sd := by
          rcases r8 with ⟨g1, g2⟩ | g
          · rw [r1, hlo] at g1; exact absurd g1 (Nat.not_lt.mpr hge)
          · exact g
        exact ⟨q, cS, r1, r2.carry (U' := wst Z T₂.vm T₂.heap) (Vm.Alike.refl _) r2.1.1 r2.1.2.2.2.2.2.2.2.2.2.1, ⟨kS, r3, r4, r5⟩, r6, r7, fun hx => absurd (hmine _ hx) (Nat.not_lt.mpr hloc.1), fun hx => absurd (hmine _ hx) (Nat.not_lt.mpr hloc.2)⟩
  have ride : ∀ (b : Addr) (u : Array UInt16), SlM (wst Z T.vm T.heap) b u mine → SlM (wst Z T₂.vm T₂.heap) b u mine := fun b u S => S.go hal (fun x c hc _ => E.2 x c hc) fun x hx => Or.inl hx
  have new : KH Z L T₂.vm T₂.heap mine := by
    intro q hq c k' cf i units b hc hk' hcf hp hu hor
    have hcT : T.vm.findClass q.1 = some c := by rw [← hal.findClass]; exact hc
    have hcZ : Z.vm.findClass q.1 = some c := by rw [← hZ.alike.findClass]; exact hcT
    obtain ⟨a1, w1⟩ := hL q hq
    obtain ⟨kZ1, cf0, i0, units0, hkZ1, hcfZ1, hp0, hu0, hnm, -, -⟩ := Cond.stringLink_spec hcZ w1
    obtain ⟨kU, hkU, ekU⟩ := hZ.alike.2.2 _ _ hkZ1
    obtain ⟨k'', hk'', hke, -, ee, -⟩ := hW.2.2.2 c kU (by rw [hU]; exact hkU)
    cases hk'.symm.trans hk''
    have hcf0 : kU.cf = some cf0 := by rw [ekU]; exact hcfZ1
    have hcfU : kU.cf = some cf := by
      have : k'.cf = kU.cf := by rw [hke]
      rw [← this]; exact hcf
    cases hcfU.symm.trans hcf0
    rcases ee q.2.1 with e0 | ⟨hop, r, e1, hr | ⟨a3, t3, si, us, rfl, -, q3, q4, q5⟩⟩
    · rcases hor with h0 | ⟨h0, hf⟩
      · exact ride _ _ (K q hq c kU cf i units b hcT hkU hcfU hp hu (Or.inl (e0 ▸ h0)))
      · rcases fresh _ _ hf with hf' | S
        · exact ride _ _ (K q hq c kU cf i units b hcT hkU hcfU hp hu (Or.inr ⟨e0 ▸ h0, hf'⟩))
        · exact S
    · exfalso
      cases r <;> simp [State.rightAt, hU, hkU, hcfU, hnm] at hr
    · rw [hcfU] at q3 q4
      have e3 : si = i := by have := q3.symm.trans hp; simpa using this
      subst e3
      have e4 : us = units := by simpa [ConstantPool.utf8?, hu] using q4.symm
      subst e4
      rcases hor with h0 | ⟨h0, -⟩
      · have ea : a3 = b := by have := e1.symm.trans h0; simpa using this
        subst ea
        rcases fresh _ _ q5 with hf' | S
        · exact ride _ _ (K q hq c kU cf si us a3 hcT hkU hcfU hp hu (Or.inr ⟨hop, hf'⟩))
        · exact S
      · have := e1.symm.trans h0; simp at this
  refine ⟨new, uo, htexto, ?_⟩
  obtain ⟨k4, hk4, ek4⟩ := hal.2.2 _ _ hko
  cases hk₂.symm.trans hk4
  exact new _ hq co k₂ cfo io uo a (by rw [hal.findClass]; exact hco) hk₂ (by rw [ek4]; exact hcfo) hpo huo (Or.inl hres)
section Ldc
variable {R : Room} {Z : State} {L : Lits} {h0 h : Heap} {ws mine0 mine : List Addr} {ce sl : Nat} {own : String} {code : ByteArray} {maxL : Nat} {ret : Option FieldType} {nm : String} {Q : Option Value → Heap → List Addr → Prop} {pc pc' : Nat} {Ls : List Slot} {rest : List Value} {a0 : Array Value} {a : Addr}
theorem WP.ldcS {idx n : Nat} {text : String} (hd : decode code pc = .ok (.ldc idx, 2)) (hq : (own, idx, text) ∈ L) (wS : ∀ a ∈ Bundle.stringAtoms, a.before a0 Z = true) (ht : ∀ c ∈ text.toList, c.toNat < 256) (hn : 4 * text.toList.length ≤ n) (hbig : n ≤ 536870912) (hc : ce + 2 ≤ R.cells) (hs : sl + (n + 4) ≤ R.slots) (hp : pc + 2 = pc')
    (K : ∀ h' a, Ext h h' → FStr Z h' mine a (txt text) → WP own code maxL ret nm R Z L h0 ws mine0 Q mine (ce + 2) (sl + (n + 4)) h' pc' Ls (.ref a :: rest)) : WP own code maxL ret nm R Z L h0 ws mine0 Q mine ce sl h pc Ls rest := by
  intro p l e s m args below meth c B T locs X hT
  subst hp
  subst hT
  have hZ : Z.Warmed39 T.vm := X.warm
  obtain ⟨a1, w⟩ := X.2.2.2.2.2.2.2.1 _ hq
  have hown : T.vm.findClass own = some m.cls := X.hown B
  have hL := X.2.2.2.2.2.2.2.1
  have hK := X.2.2.2.2.2.2.2.2
  have wT : (Jvm.Cond.stringLink own idx text).before args (anew T m args below) = true := mvS (s := anew T m args below) (vm0 := T.vm) hZ w
  obtain ⟨k, cf, i, units, hk, hcf, hcp, hu, hnm, hdec, hres⟩ := Cond.stringLink_spec (s := anew T m args below) (show (anew T m args below).vm.findClass own = some m.cls from hown) wT
  have hk : T.vm.classes[m.cls]? = some k := hk
  rcases hres with hopen | ⟨a, hr⟩
  · have Y0 := stand_anew X.1 rfl (Nat.le_trans (Nat.le_add_right _ _) hc) (Nat.le_trans (Nat.le_add_right _ _) hs)
    have hheld : ConstHeldL (anew T m args below) own idx := by
      intro c1 k1 cf1 i1 u1 b1 g1 g2 g3 g4 g5 g6
      obtain ⟨q, cS, r1, r2, ⟨kS, r3, r4, r5⟩, r6, r7, -⟩ := hK _ hq c1 k1 cf1 i1 u1 b1 g1 g2 g3 g4 g5 g6
      exact ⟨q, cS, r1, r2.carry (U' := anew T m args below) (Vm.Alike.refl _) r2.1.1 r2.1.2.2.2.2.2.2.2.2.2.1, ⟨kS, r3, r4, r5⟩, r6, r7⟩
    obtain ⟨a, T₂, Y, hS', ⟨k₂, hk₂, hres₂⟩, hb', hone, hint, hin, st⟩ := Y0.ldcColdF (fun b cl hb => hb) B.1 (own := own) (show (anew T m args below).vm.findClass own = some m.cls from hown) wT (fun d hd => by
        have q := wS d hd
        simp only [Bundle.stringAtoms, List.mem_cons, List.not_mem_nil, or_false] at hd
        rcases hd with rfl | rfl | rfl | rfl | rfl | rfl | rfl
        · exact mv (s := anew T m args below) hZ q
        · exact mv (s := anew T m args below) hZ q
        · exact mvA (s := anew T m args below) hZ q
        · exact mv (s := anew T m args below) hZ q
        · exact mv (s := anew T m args below) hZ q
        · exact mv (s := anew T m args below) hZ q
        · exact mv (s := anew T m args below) hZ q) hheld (fun units hu => Jvm.ClassFile.lat_of_text hu ht) (g := mkF m pc Ls.toArray rest) rfl (hb B.2.1 hd) hn hbig (by show 0 + 2 ≤ R.cells - ce; omega) (by show 0 + (n + 4) ≤ R.slots - sl; omega)
    have E : Ext T.heap T₂.heap := ext_of hb'
    have hW : (s.setVm T.vm).Warmed39 T₂.vm := hS'.1
    obtain ⟨hKn, u2, hu2, hSl⟩ := KH.load (T := T) (U := s.setVm T.vm) rfl hK hZ hL hq (fun x hx => (X.2.2.2.2.2.2.1 x hx).2) ht hW E hown hk hopen hk₂ hres₂ hone hint hin rfl
    have hZ2 : Z.Warmed39 T₂.vm := State.Warmed39.trans (t := s.setVm T.vm) hZ hW
    have F : FStr Z T₂.heap mine a (txt text) := by
      have := hSl.fstr hZ2 (Jvm.ClassFile.lat_of_text hu2 ht)
      rw [Jvm.ClassFile.units_of_text hu2 ht] at this
      exact this
    obtain ⟨g₀, hfr⟩ := X.1.frames_eq
    obtain ⟨t', ht', -⟩ := State.frames_cons hfr
    have hcur : T.cur < T.threads.size := State.cur_lt_of_frames hfr
    have Z1 := X.1.retabled hW
    have hsame : (T.setVm T₂.vm).sameButNew (T₂.setVm T₂.vm) [] 2 (n + 4) := by
      have h1 : ((T.setVm T₂.vm).setFrames (.invoking m args :: below)).sameButNew (T₂.setVm T₂.vm) [] (0 + 2) (0 + (n + 4)) := Y.same
      rw [Nat.zero_add, Nat.zero_add] at h1
      obtain ⟨e1, e2⟩ := h1
      rw [State.setFrames_setFrames] at e1
      exact ⟨e1, e2⟩
    have Z2 := Z1.moved (T₂ := T₂) Y.here Y.tail (Y.limits.trans (by rw [show (anew T m args below).setVm T₂.vm = (T.setVm T₂.vm).setFrames (.invoking m args :: below) from rfl, State.stackLimits_setFrames])) (Y.bytes.trans (by rw [show (anew T m args below).setVm T₂.vm = (T.setVm T₂.vm).setFrames (.invoking m args :: below) from rfl, State.stackBytes_setFrames])) (State.WarmedH.refl _) hsame
    rw [List.append_nil] at Z2
    have hB2 : (s.setVm T.vm).Booked T₂.vm T₂.heap.size := fun j pr hj hpr => by
      obtain ⟨b1, b2⟩ := hS'.2 j pr hj hpr
      exact ⟨Nat.le_trans X.1.same.2.1 b1, b2⟩
    refine (K T₂.heap a E F p l e s m args below meth c B T₂ locs ⟨Z2, X.2.1.trans ⟨hW, hB2⟩ E.1, X.2.2.1, X.2.2.2.1.ext E, hZ2, ⟨Nat.le_trans X.2.2.2.2.2.1.1 E.1, fun b cl hb => E.2 _ _ (X.2.2.2.2.2.1.2 b cl hb)⟩, fun x hx => ⟨(X.2.2.2.2.2.2.1 x hx).1, Nat.lt_of_lt_of_le (X.2.2.2.2.2.2.1 x hx).2 E.1⟩, hL, hKn⟩ rfl).step st
  · have hSl := hK _ hq m.cls k cf i units a hown hk hcf hcp hu (Or.inl hr)
    have F : FStr Z T.heap mine a (txt text) := by
      have := hSl.fstr hZ (Jvm.ClassFile.lat_of_text hdec ht)
      rw [Jvm.ClassFile.units_of_text hdec ht] at this
      exact this
    have Lt : Lit (s.setVm T.vm) own idx a := by
      simp [Lit, State.resolvedAt?, hown, hk, hr]
    refine (K T.heap a ⟨Nat.le_refl _, fun _ _ hc => hc⟩ F p l e s m args below meth c B T locs ⟨X.1.mono (by omega) (by omega), X.2⟩ rfl).step ?_
    exact ldcAgain (s := s) (vm0 := T.vm) X.1 B.1 hZ hown w Lt (g := mkF m pc Ls.toArray rest) rfl (hb B.2.1 hd)
end Ldc
end Jvm.OwnW
namespace Jvm.OwnW
open Jvm Jvm.ClassFile Sem Op Lib Jvm.Free Jvm.Stand Jvm.LawKit Jvm.RoadKit Bundle
theorem ext_trans {h h' h'' : Heap} (A : Ext h h') (B : Ext h' h'') : Ext h h'' := ⟨Nat.le_trans A.1 B.1, fun a c hc => B.2 a c (A.2 a c hc)⟩
theorem ext_wr {h h' h'' : Heap} {a : Addr} {sl : Nat} {v : Value} (A : Ext h h') (W : Wr h' h'' a sl v) (ha : h.size ≤ a) : Ext h h'' := ⟨by rw [W.size]; exact A.1, fun x c hc => by
  obtain ⟨c', q1, -, -, -, q5, -⟩ := wr_at W (A.2 x c hc)
  rw [← q5 fun q => by subst q; exact absurd (Array.getElem?_eq_some_iff.mp hc).1 (Nat.not_lt.mpr ha)]; exact q1⟩
theorem ext_keep {h h' h'' : Heap} {ws : List Addr} (A : Ext h h') (K : Keep h' h'' ws) (ha : ∀ x ∈ ws, h.size ≤ x) : Ext h h'' := ⟨Nat.le_trans A.1 K.1, fun x c hc => K.2.1 x c (A.2 x c hc) fun q => absurd (Array.getElem?_eq_some_iff.mp hc).1 (Nat.not_lt.mpr (ha x q))⟩
theorem keep_ext {h h' : Heap} (K : Keep h h' []) : Ext h h' := ⟨K.1, fun x c hc => K.2.1 x c hc nin0⟩
theorem n32_toInt {i : Nat} (h : i < 2 ^ 31) : (Int32.ofNat i).toInt = (i : Int) := Int32.toInt_ofNat_small h
theorem n32_lt {i n : Nat} (hi : i < 2 ^ 31) (hn : n < 2 ^ 31) : Int32.ofNat i < Int32.ofNat n ↔ i < n := by
  rw [Int32.lt_iff_toInt_lt, n32_toInt hi, n32_toInt hn]; omega
theorem n32_eq {i n : Nat} (hi : i < 2 ^ 31) (hn : n < 2 ^ 31) : Int32.ofNat i = Int32.ofNat n ↔ i = n := by
  rw [← Int32.toInt_inj, n32_toInt hi, n32_toInt hn]; omega
theorem n32_add (i k : Nat) : Int32.ofNat i + Int32.ofNat k = Int32.ofNat (i + k) := by simp [Int32.ofNat_add]
theorem n32_succ (i : Nat) : Int32.ofNat i + 1 = Int32.ofNat (i + 1) := n32_add i 1
theorem chv_toInt (u : UInt16) : (chv u).toInt = (u.toNat : Int) := by
  have hu := u.toNat_lt
  have : (chv u) = Int32.ofNat u.toNat := by
    apply Int32.toBitVec_inj.mp
    apply BitVec.eq_of_toNat_eq
    simp [chv]
  rw [this, n32_toInt (by omega)]
theorem chv_inj {u v : UInt16} (h : chv u = chv v) : u = v := by
  have := congrArg Int32.toInt h
  rw [chv_toInt, chv_toInt] at this
  exact UInt16.toNat_inj.mp (by omega)
theorem chv_gt (u : UInt16) : (255 : Int32) < chv u ↔ ¬ u < 256 := by
  rw [Int32.lt_iff_toInt_lt, chv_toInt, UInt16.lt_iff_toNat_lt]
  show (255 : Int) < _ ↔ ¬ _ < 256
  omega
theorem chv_nar (u : UInt16) : nar .char (chv u) = chv u := by
  show (chv u).toUInt32.toUInt16.toUInt32.toInt32 = chv u
  simp [chv]
theorem chv_lo8 (u : UInt16) : nar .byte (chv u) = lo8 u := by
  have e : (chv u).toInt8 = u.toUInt8.toInt8 := by
    apply Int8.toBitVec_inj.mp
    simp [chv]
    rw [BitVec.signExtend_eq_setWidth_of_le _ (by decide), BitVec.setWidth_setWidth_of_le _ (by decide)]
  show (chv u).toInt8.toInt32 = u.toUInt8.toInt8.toInt32
  rw [e]
theorem nar_i2b (x : Int32) : nar .byte (x.toInt8.toInt32) = x.toInt8.toInt32 := by
  show (x.toInt8.toInt32).toInt8.toInt32 = _
  simp
theorem lat_iff (us : List UInt16) : lat us = true ↔ ∀ (i : Nat) (u : UInt16), us[i]? = some u → u < 256 := by
  simp only [lat, List.all_eq_true, decide_eq_true_eq]
  constructor
  · intro h i u hu; exact h u (List.mem_of_getElem? hu)
  · intro h u hu
    obtain ⟨i, hi⟩ := List.getElem?_of_mem hu
    exact h i u hi
end Jvm.OwnW
namespace Jvm.OwnW
open Jvm Jvm.ClassFile Sem Op Lib Jvm.Free Jvm.Stand Jvm.LawKit Jvm.RoadKit Bundle
theorem ArI.ne {Z : State} {h : Heap} {a b : Addr} {ty ty' : FieldType} {xs ys : List Int32} (A : ArI Z h a ty xs) (B : ArI Z h b ty' ys) (hne : ty ≠ ty') : a ≠ b := fun e => by
  subst e
  obtain ⟨c, A, -⟩ := A
  obtain ⟨c', B, -⟩ := B
  cases A.1.symm.trans B.1
  obtain ⟨-, k, hk, comp, hkind⟩ := A.2.1
  obtain ⟨-, k', hk', comp', hkind'⟩ := B.2.1
  cases hk.symm.trans hk'
  rw [hkind] at hkind'
  cases hkind'
  exact hne rfl
theorem ArI.uniq {Z : State} {h : Heap} {a : Addr} {ty ty' : FieldType} {xs ys : List Int32} (A : ArI Z h a ty xs) (B : ArI Z h a ty' ys) : xs = ys := by
  obtain ⟨c, A, r, -⟩ := A
  obtain ⟨c', B, r', -⟩ := B
  cases A.1.symm.trans B.1
  rw [r] at r'
  have := congrArg Array.toList r'
  simp only [List.toList_toArray] at this
  exact List.map_inj_right (fun _ _ h => Value.int.inj h) |>.mp this
theorem Fld.uniq {Z : State} {h : Heap} {a : Addr} {C n d : String} {v w : Value} (F : Fld Z h a C n d v) (G : Fld Z h a C n d w) : v = w := by
  obtain ⟨c, cf, k, i, f, h1, h2, -, -, -, -, h7⟩ := F
  obtain ⟨c', cf', k', i', f', g1, g2, -, -, -, -, g7⟩ := G
  cases h1.symm.trans g1
  cases h2.symm.trans g2
  exact Option.some.inj (h7.symm.trans g7)
theorem lo8_toInt (u : UInt16) : (lo8 u).toInt = if u.toNat % 256 < 128 then ((u.toNat % 256 : Nat) : Int) else ((u.toNat % 256 : Nat) : Int) - 256 := by
  have h := c_i2b (chv u)
  have e : (chv u).toInt8.toInt32 = lo8 u := chv_lo8 u
  rw [e, chv_toInt] at h
  split <;> omega
theorem hi8_chv (u : UInt16) : hi8 u = (chv u >>> ((8 : Int32) &&& 31)).toInt8.toInt32 := by
  have e : (chv u >>> ((8 : Int32) &&& 31)) = chv (u >>> 8) := by
    apply Int32.toInt_inj.mp
    rw [c_ishr _ _ 8 (by decide), chv_toInt, chv_toInt, UInt16.toNat_shiftRight]
    simp [Nat.shiftRight_eq_div_pow]
  rw [e]
  exact (chv_lo8 _).symm
theorem hi8_toInt (u : UInt16) : (hi8 u).toInt = if u.toNat / 256 < 128 then ((u.toNat / 256 : Nat) : Int) else ((u.toNat / 256 : Nat) : Int) - 256 := by
  have hu := u.toNat_lt
  have e : hi8 u = lo8 (u >>> 8) := rfl
  have e2 : (u >>> 8).toNat = u.toNat / 256 := by
    rw [UInt16.toNat_shiftRight]; simp [Nat.shiftRight_eq_div_pow]
  rw [e, lo8_toInt, e2, Nat.mod_eq_of_lt (by omega)]
theorem chv_shr0 (u : UInt16) : (chv u >>> ((0 : Int32) &&& 31)).toInt8.toInt32 = lo8 u := by
  have e : (chv u >>> ((0 : Int32) &&& 31)) = chv u := by
    apply Int32.toInt_inj.mp
    rw [c_ishr _ _ 0 (by decide)]; simp
  rw [e]; exact chv_lo8 u
/-- StringUTF16.getChar's sum -/
theorem getChar_val (u : UInt16) : (((lo8 u &&& 255) <<< ((0 : Int32) &&& 31)) ||| ((hi8 u &&& 255) <<< ((8 : Int32) &&& 31))).toUInt32.toUInt16.toUInt32.toInt32 = chv u := by
  have hu := u.toNat_lt
  have m1 := c_mask (lo8 u) 255 8 (by decide) (by decide)
  have m2 := c_mask (hi8 u) 255 8 (by decide) (by decide)
  have s1 := c_ishl (lo8 u &&& 255) 0 0 (by decide)
  have s2 := c_ishl (hi8 u &&& 255) 8 8 (by decide)
  have l1 := lo8_toInt u
  have l2 := hi8_toInt u
  generalize e1 : (lo8 u &&& 255) <<< ((0 : Int32) &&& 31) = A at *
  generalize e2 : (hi8 u &&& 255) <<< ((8 : Int32) &&& 31) = Bv at *
  have r1 := rng32 A
  have r2 := rng32 Bv
  have k1 : (lo8 u &&& 255).toInt = (u.toNat % 256 : Nat) := by rw [m1, l1]; split <;> omega
  have k2 : (hi8 u &&& 255).toInt = (u.toNat / 256 : Nat) := by rw [m2, l2]; split <;> omega
  rw [k1] at s1
  rw [k2] at s2
  have q := c_or' A Bv 8 (by decide) 256 (by decide) (by omega) (by omega) (by omega)
  have c := c_i2c (A ||| Bv)
  apply Int32.toInt_inj.mp
  rw [chv_toInt]
  have r3 := rng32 (A ||| Bv)
  omega
theorem n32_shl1 {i : Nat} (h : 2 * i < 2 ^ 31) : Int32.ofNat i <<< ((1 : Int32) &&& 31) = Int32.ofNat (2 * i) := by
  have s := c_ishl (Int32.ofNat i) 1 1 (by decide)
  apply Int32.toInt_inj.mp
  rw [n32_toInt h]
  rw [n32_toInt (by omega)] at s
  have r := rng32 (Int32.ofNat i <<< ((1 : Int32) &&& 31))
  omega
theorem b16_len (us : List UInt16) : (b16 us).length = 2 * us.length := by
  induction us with
  | nil => rfl
  | cons u us ih => simp only [b16, List.flatMap_cons, List.length_append, List.length_cons, List.length_nil] at ih ⊢; omega
theorem b16_app (us vs : List UInt16) : b16 (us ++ vs) = b16 us ++ b16 vs := by simp [b16]
theorem b16_get {us : List UInt16} {i : Nat} {u : UInt16} (h : us[i]? = some u) : (b16 us)[2 * i]? = some (lo8 u) ∧ (b16 us)[2 * i + 1]? = some (hi8 u) := by
  have hi : i < us.length := (List.getElem?_eq_some_iff.mp h).1
  have e : us = us.take i ++ u :: us.drop (i + 1) := by
    have hg : us[i] = u := (List.getElem?_eq_some_iff.mp h).2
    rw [← hg, List.getElem_cons_drop, List.take_append_drop]
  have hl : (b16 (us.take i)).length = 2 * i := by rw [b16_len, List.length_take]; omega
  have e2 : b16 us = b16 (us.take i) ++ (lo8 u :: hi8 u :: b16 (us.drop (i + 1))) := by
    conv => lhs; rw [e, b16_app]
    simp [b16]
  rw [e2]
  constructor
  · rw [List.getElem?_append_right (by omega), hl]; simp
  · rw [List.getElem?_append_right (by omega), hl, show 2 * i + 1 - 2 * i = 1 by omega]; simp
theorem lo8_inj {u v : UInt16} (hu : u < 256) (hv : v < 256) (h : lo8 u = lo8 v) : u = v := by
  have := congrArg Int32.toInt h
  rw [lo8_toInt, lo8_toInt] at this
  rw [UInt16.lt_iff_toNat_lt] at hu hv
  have h1 : u.toNat < 256 := hu
  have h2 : v.toNat < 256 := hv
  apply UInt16.toNat_inj.mp
  split at this <;> split at this <;> omega
theorem pair_inj {u v : UInt16} (h1 : lo8 u = lo8 v) (h2 : hi8 u = hi8 v) : u = v := by
  have a1 := congrArg Int32.toInt h1
  have a2 := congrArg Int32.toInt h2
  rw [lo8_toInt, lo8_toInt] at a1
  rw [hi8_toInt, hi8_toInt] at a2
  have b1 := u.toNat_lt
  have b2 := v.toNat_lt
  apply UInt16.toNat_inj.mp
  split at a1 <;> split at a1 <;> split at a2 <;> split at a2 <;> omega
theorem b16_inj : ∀ {us vs : List UInt16}, b16 us = b16 vs → us = vs
  | [], [], _ => rfl
  | [], v :: vs, h => by simp [b16] at h
  | u :: us, [], h => by simp [b16] at h
  | u :: us, v :: vs, h => by
    simp only [b16, List.flatMap_cons, List.cons_append, List.nil_append, List.cons.injEq] at h
    rw [pair_inj h.1 h.2.1, b16_inj (us := us) (vs := vs) h.2.2]
theorem lo8s_inj : ∀ {us vs : List UInt16}, lat us = true → lat vs = true → us.map lo8 = vs.map lo8 → us = vs
  | [], [], _, _, _ => rfl
  | [], v :: vs, _, _, h => by simp at h
  | u :: us, [], _, _, h => by simp at h
  | u :: us, v :: vs, h1, h2, h => by
    simp only [lat, List.all_cons, Bool.and_eq_true, decide_eq_true_eq] at h1 h2
    simp only [List.map_cons, List.cons.injEq] at h
    rw [lo8_inj h1.1 h2.1 h.1, lo8s_inj (us := us) (vs := vs) h1.2 h2.2 h.2]
theorem take_set {α : Type} {xs : List α} {ys : List α} {i : Nat} {x : α} (h1 : xs.length = i) (h2 : i < xs.length + ys.length) : (xs ++ ys).set i x = xs ++ x :: ys.drop 1 := by
  subst h1
  rw [List.set_append_right _ _ (Nat.le_refl _), Nat.sub_self]
  cases ys with
  | nil => simp at h2
  | cons y ys => rfl
theorem take_succ' {us : List UInt16} {i : Nat} {u : UInt16} (h : us[i]? = some u) : us.take (i + 1) = us.take i ++ [u] := by
  rw [List.take_add_one, h]; rfl
end Jvm.OwnW
namespace Jvm.OwnW
open Jvm Jvm.ClassFile Sem Op Lib Jvm.Free Jvm.Stand Jvm.LawKit Jvm.RoadKit Bundle
def cod (us : List UInt16) : Int32 := if lat us = true then 0 else 1
def byt (us : List UInt16) : List Int32 := if lat us = true then us.map lo8 else b16 us
theorem StrAt.open {Z : State} {h : Heap} {a t : Addr} {us : List UInt16} (S : StrAt Z h a t us) : Exa Z h a ST ∧ Fld Z h a ST "value" "[B" (.ref t) ∧ Fld Z h a ST "coder" "B" (.int (cod us)) ∧ ArI Z h t .byte (byt us) := by
  obtain ⟨h1, h2, h3⟩ := S
  refine ⟨h1, h2, ?_⟩
  rcases h3 with ⟨q, r⟩ | ⟨q, r⟩
  · simpa [cod, byt, q] using r
  · simpa [cod, byt, q] using r
theorem StrAt.mk {Z : State} {h : Heap} {a t : Addr} {us : List UInt16} (h1 : Exa Z h a ST) (h2 : Fld Z h a ST "value" "[B" (.ref t)) (h3 : Fld Z h a ST "coder" "B" (.int (cod us))) (h4 : ArI Z h t .byte (byt us)) : StrAt Z h a t us := by
  refine ⟨h1, h2, ?_⟩
  cases hl : lat us
  · exact Or.inr ⟨rfl, by simpa [cod, hl] using h3, by simpa [byt, hl] using h4⟩
  · exact Or.inl ⟨rfl, by simpa [cod, hl] using h3, by simpa [byt, hl] using h4⟩
theorem str_inj {us vs : List UInt16} (hc : cod us = cod vs) (hb : byt us = byt vs) : us = vs := by
  unfold cod at hc
  unfold byt at hb
  cases h1 : lat us <;> cases h2 : lat vs <;> simp [h1, h2] at hc hb
  · exact b16_inj hb
  · exact lo8s_inj h1 h2 hb
theorem StrAt.uniq {Z : State} {h : Heap} {a t t' : Addr} {us vs : List UInt16} (S : StrAt Z h a t us) (S' : StrAt Z h a t' vs) : us = vs := by
  obtain ⟨-, v1, c1, b1⟩ := S.open
  obtain ⟨-, v2, c2, b2⟩ := S'.open
  have e1 : t = t' := Value.ref.inj (Fld.uniq v1 v2)
  subst e1
  exact str_inj (Value.int.inj (Fld.uniq c1 c2)) (ArI.uniq b1 b2)
theorem byt_lt {Z : State} {h : Heap} {t : Addr} {us : List UInt16} (A : ArI Z h t .byte (byt us)) : us.length < 2 ^ 31 := by
  have := A.len
  unfold byt at this
  split at this
  · simpa using this
  · rw [b16_len] at this; omega
end Jvm.OwnW
namespace Jvm.OwnW
open Jvm Jvm.ClassFile Sem Op Lib Jvm.Free Jvm.Stand Jvm.LawKit Jvm.RoadKit Bundle
theorem n32_half {i : Nat} (h : 2 * i < 2 ^ 31) : Int32.ofNat (2 * i) >>> ((1 : Int32) &&& 31) = Int32.ofNat i := by
  apply Int32.toInt_inj.mp
  rw [c_ishr _ _ 1 (by decide), n32_toInt h, n32_toInt (by omega)]
  omega
theorem n32_sub {i k : Nat} (h : k ≤ i) (hi : i < 2 ^ 31) : Int32.ofNat i - Int32.ofNat k = Int32.ofNat (i - k) := by
  have d := c_isub (Int32.ofNat i) (Int32.ofNat k)
  have r := rng32 (Int32.ofNat i - Int32.ofNat k)
  apply Int32.toInt_inj.mp
  rw [n32_toInt (by omega)]
  rw [n32_toInt hi, n32_toInt (by omega)] at d
  omega
theorem lo8_and (u : UInt16) (h : u < 256) : (lo8 u &&& 255) = chv u := by
  have m1 := c_mask (lo8 u) 255 8 (by decide) (by decide)
  have l1 := lo8_toInt u
  rw [UInt16.lt_iff_toNat_lt] at h
  have h1 : u.toNat < 256 := h
  apply Int32.toInt_inj.mp
  rw [m1, chv_toInt, l1]
  split <;> omega
theorem chv_i2c (u : UInt16) : (chv u).toUInt32.toUInt16.toUInt32.toInt32 = chv u := chv_nar u
theorem cod_lat {us : List UInt16} (h : lat us = true) : cod us = 0 := if_pos h
theorem cod_utf {us : List UInt16} (h : lat us = false) : cod us = 1 := if_neg (by rw [h]; decide)
theorem byt_lat {us : List UInt16} (h : lat us = true) : byt us = us.map lo8 := if_pos h
theorem byt_utf {us : List UInt16} (h : lat us = false) : byt us = b16 us := if_neg (by rw [h]; decide)
theorem mem_lo8 {us : List UInt16} {c : UInt16} (hl : lat us = true) (hc : c < 256) : lo8 c ∈ us.map lo8 ↔ c ∈ us := by
  constructor
  · intro h
    obtain ⟨u, hu, e⟩ := List.mem_map.mp h
    have : u < 256 := by simp only [lat, List.all_eq_true, decide_eq_true_eq] at hl; exact hl u hu
    rw [← lo8_inj this hc e]; exact hu
  · exact fun h => List.mem_map_of_mem h
end Jvm.OwnW
namespace Jvm.OwnW
open Jvm Jvm.ClassFile Sem Op Lib Jvm.Free Jvm.Stand Jvm.LawKit Jvm.RoadKit Bundle
section Start
variable {s : State} {args : Array Value} {C n d : String} {x : Int32}
theorem sta_eq (w : (Jvm.Cond.eq (.static C n d) (.int x)).before args s = true) (wi : (Jvm.Cond.initializedFor C n d).before args s = true) : Sta s s.heap C n d (.int x) :=
  Sta.start (args := args) (Cond.eq_int w rfl) (Or.inl wi)
theorem sta_int (w : (Jvm.Cond.isInt (.static C n d)).before args s = true) (wi : (Jvm.Cond.initializedFor C n d).before args s = true) : ∃ z, Sta s s.heap C n d (.int z) ∧ (Term.static C n d).eval args s none [] s = some (.int z) := by
  obtain ⟨z, e⟩ := is_v (Cond.before_iff.mp w)
  exact ⟨z, Sta.start e (Or.inl wi), e⟩
theorem sta_nz {z : Int32} (e : (Term.static C n d).eval args s none [] s = some (.int z)) (w : (Jvm.Cond.not (.eq (.static C n d) (.int 0))).before args s = true) : ¬ z = 0 := fun q => by
  have h := not_v (Cond.before_iff.mp w)
  subst q
  have h2 : (Jvm.Cond.eq (Term.static C n d) (.int 0)).value args s none s [] = some true := eq_i e rfl rfl
  rw [h2] at h; cases h
theorem sta_ref {K : String} (w : (Jvm.Cond.exactly (.static C n d) K).before args s = true) (wi : (Jvm.Cond.initializedFor C n d).before args s = true ∨ ((Jvm.Cond.initialized C).before args s = true ∧ (Jvm.Cond.laysStatic C n d).before args s = true)) : ∃ a, Sta s s.heap C n d (.ref a) ∧ Exa s s.heap a K ∧ (Term.static C n d).eval args s none [] s = some (.ref a) := by
  obtain ⟨a, e⟩ := exa_v (Cond.before_iff.mp w)
  exact ⟨a, Sta.start e wi, Exa.start e (Cond.before_iff.mp w), e⟩
theorem fld_null {t : Term} {a : Addr} (e : t.eval args s none [] s = some (.ref a)) (w : (Jvm.Cond.eq (.field t C n d) .null).before args s = true) : Fld s s.heap a C n d .null :=
  Fld.start (by have := null_v (Cond.before_iff.mp w); rw [fld_at e] at this; exact this)
theorem fld_int {t : Term} {a : Addr} (e : t.eval args s none [] s = some (.ref a)) (w : (Jvm.Cond.eq (.field t C n d) (.int x)).before args s = true) : Fld s s.heap a C n d (.int x) :=
  Fld.start (by have := Cond.eq_int w rfl; rw [fld_at e] at this; exact this)
theorem sta_any {ty : FieldType} (hf : Fit s) (w : (Jvm.Cond.laysStatic C n d).before args s = true) (wz : (Jvm.Cond.initialized C).before args s = true) (ht : parseFieldDescriptor d = some ty) : ∃ v, Sta s s.heap C n d v ∧ fits ty v = true := by
  obtain ⟨v, e, f⟩ := static_fit hf w ht
  exact ⟨v, Sta.start e (Or.inr ⟨wz, w⟩), f⟩
theorem kh_start {L : Lits} (h : ∀ q ∈ L, ConstHeldL s q.1 q.2.1) : KH s L s.vm s.heap [] := fun q hq c k cf i units a h1 h2 h3 h4 h5 h6 => by
  obtain ⟨sq, cS, r1, r2, r3, r4, r5⟩ := h q hq c k cf i units a h1 h2 h3 h4 h5 h6
  exact ⟨sq, cS, r1, r2, r3, r4, r5, List.not_mem_nil, List.not_mem_nil⟩
theorem inv_start {L : Lits} (hl : Links s L) (h : ∀ q ∈ L, ConstHeldL s q.1 q.2.1) : Inv s L s.vm s.heap [] :=
  ⟨State.Warmed39.refl s, ⟨Nat.le_refl _, fun _ _ q => q⟩, fun _ q => (nomatch q), hl, kh_start h⟩
end Start
end Jvm.OwnW
namespace Jvm.OwnW
open Jvm Jvm.ClassFile Sem Op Lib Jvm.Free Jvm.Stand Jvm.LawKit Jvm.RoadKit Bundle
section More
variable {R R' : Room} {Z : State} {L : Lits} {h0 h h' : Heap} {ws ws' mine0 mine : List Addr} {ce sl : Nat} {own : String} {code : ByteArray} {maxL : Nat} {ret : Option FieldType} {nm : String} {Q : Option Value → Heap → List Addr → Prop} {pc pc' : Nat} {Ls : List Slot} {rest argsL : List Value} {a0 : Array Value} {a : Addr}
  {y z : MethodName} {cb : ByteArray} {mL : Nat} {rt : Option FieldType} {Q' : Option Value → Heap → List Addr → Prop} {idx : Nat} {as : Array Value}
theorem WP.tsw {dflt low high : Int} {offs : Array Int} {len : Nat} {o : Int} {i : Int32} (hd : decode code pc = .ok (.tableswitch dflt low high offs, len)) (hin : ¬ (i.toInt < low ∨ i.toInt > high)) (hoff : offs[(i.toInt - low).toNat]? = some o) (ho : 0 ≤ (pc : Int) + o) (hp : ((pc : Int) + o).toNat = pc')
    (K : WP own code maxL ret nm R Z L h0 ws mine0 Q mine ce sl h pc' Ls rest) : WP own code maxL ret nm R Z L h0 ws mine0 Q mine ce sl h pc Ls (.int i :: rest) :=
  K.pure1 fun p e below T m c t h hx hc hr => XS.tswIn h hx rfl rfl (hb hc hd) rfl hin hoff ho hp hr
theorem WP.tswD {dflt low high : Int} {offs : Array Int} {len : Nat} {i : Int32} (hd : decode code pc = .ok (.tableswitch dflt low high offs, len)) (hout : i.toInt < low ∨ i.toInt > high) (ho : 0 ≤ (pc : Int) + dflt) (hp : ((pc : Int) + dflt).toNat = pc')
    (K : WP own code maxL ret nm R Z L h0 ws mine0 Q mine ce sl h pc' Ls rest) : WP own code maxL ret nm R Z L h0 ws mine0 Q mine ce sl h pc Ls (.int i :: rest) :=
  K.pure1 fun p e below T m c t h hx hc hr => XS.tswOut h hx rfl rfl (hb hc hd) rfl hout ho hp hr
/-- invokevirtual of a method that a superclass declares -/
theorem WP.callVU {Cl owner : String} (C : Con z cb mL rt R' Z L [] (.ref a :: argsL).toArray h ws' mine Q') (E : Exa Z h a Cl) (wl : (Jvm.Cond.methodLink own idx y).before a0 Z = true) (wsm : (Jvm.Cond.sameMethod y.cls owner y.name y.desc).before a0 Z = true) (wd : (Jvm.Cond.declares ⟨owner, y.name, y.desc⟩).before a0 Z = true) (wsel : (Jvm.Cond.selects Cl y z).before a0 Z = true) (wi : (Jvm.Cond.instanceMethod z).before a0 Z = true) (wz : (Jvm.Cond.initialized z.cls).before a0 Z = true) (wc : (Jvm.Cond.code z cb mL rt).before a0 Z = true)
    (hd : decode code pc = .ok (.invokevirtual idx, 3)) (hy : owner ≠ "java/lang/invoke/MethodHandle" ∧ owner ≠ "java/lang/invoke/VarHandle") {sig : MethodDescriptor} (hsig : parseMethodDescriptor y.desc = some sig) (hlen : argsL.length = sig.parameters.length) {st : List Value} (hst : st = argsL.reverse ++ .ref a :: rest) (hLs : Ls.length = maxL)
    (hf : R'.frames + 1 ≤ R.frames) (hl : (rest.map fun v => v.category).sum + (mL + 11) + R'.locals ≤ R.locals) (hc : ce + R'.cells ≤ R.cells) (hs : sl + R'.slots ≤ R.slots) (hw : ∀ x ∈ ws', x ∈ ws ∨ h0.size ≤ x) (hp : pc + 3 = pc')
    (K : ∀ v h' nw, Keep h h' ws' → (∀ x ∈ nw, h.size ≤ x) → Q' v h' nw → WP own code maxL ret nm R Z L h0 ws mine0 Q (nw ++ mine) (ce + R'.cells) (sl + R'.slots) h' pc' Ls (v.toList ++ rest)) :
    WP own code maxL ret nm R Z L h0 ws mine0 Q mine ce sl h pc Ls st := by
  intro p l e s m args below meth c B T locs X hT
  subst hp hst
  obtain ⟨cq, kq, qa, qb, qc⟩ := isOf (s := s.setVm T.vm) X.warm hT E
  obtain ⟨v, vm₁, Bp, hW, Y, hS, hg, ⟨L', nw, q1, q2, q3, q4, q5, q6, q7, q8⟩, st⟩ := virtualBackUpS X.1 B.1 (X.hown B) (mv X.warm wl) (mv X.warm wsm) (mv X.warm wd) hy (mv X.warm wsel) (mv X.warm wi) (C.back X.warm wc wz hf hl) qa qc (g := mkF m pc Ls.toArray (argsL.reverse ++ .ref a :: rest)) rfl (by simp [hLs, B.2.2.1]) (Steps.refl _) (argsL := argsL) (rest := rest) (fun sg h => by rw [hsig] at h; cases h; exact hlen) rfl (by simp) (hb B.2.1 hd)
    (fun vm₁ hv => ⟨rfl, hT, by show Inv Z L vm₁ T.heap mine; exact X.2.2.2.2.go (U := s.setVm T.vm) rfl hv (Nat.le_refl _) (fun _ _ hc _ => hc) (fun _ hx => Or.inl hx), hc, hs⟩)
  exact (K v Bp.U.heap nw q5 q6 q8 p l e s m args below meth c B Bp.U _ (X.called hT Y hS hg q1 q2 q3 q4 q5 q7 hw) rfl).step fun t hr => st.trans hr
end More
section Facts
variable {Z : State} {h h' : Heap} {a b : Addr} {C n d : String} {v w : Value} {sl : Nat} {args : Array Value} {t u : Term}
/-- after a write the field still has some value -/
theorem fld_some (F : ∃ v, Fld Z h b C n d v) (W : Wr h h' a sl w) : ∃ v', Fld Z h' b C n d v' := by
  obtain ⟨v, F⟩ := F
  by_cases e : b = a
  · subst e
    by_cases q : Jvm.RoadKit.slotOf Z C n d = sl
    · subst q; exact ⟨w, F.same W⟩
    · exact ⟨v, F.other W (Or.inr q)⟩
  · exact ⟨v, F.other W (Or.inl e)⟩
theorem fld_ref {K : String} (e : t.eval args Z none [] Z = some (.ref a)) (w : (Jvm.Cond.exactly (.field t C n d) K).value args Z none Z [] = some true) : ∃ b, Fld Z Z.heap a C n d (.ref b) ∧ Exa Z Z.heap b K ∧ (Term.field t C n d).eval args Z none [] Z = some (.ref b) := by
  obtain ⟨b, eb⟩ := exa_v w
  exact ⟨b, Fld.start (by rw [← fld_at e]; exact eb), Exa.start eb w, eb⟩
theorem len_lt {c : Cell} (e : t.eval args Z none [] Z = some (.ref a)) (e2 : Z.arrayAt? a = some c) (el : (Term.length t).eval args Z none [] Z = some v) : c.slots.size < 2 ^ 31 := by
  simp only [Term.eval, Option.bind_eq_bind, e, Option.bind_some, e2] at el
  split at el
  · assumption
  · cases el
theorem fld_arr0 {ty : FieldType} (e : t.eval args Z none [] Z = some (.ref a)) (w : (Jvm.Cond.arrayOf (.field t C n d) ty).value args Z none Z [] = some true) (wl : (Jvm.Cond.eq (.length (.field t C n d)) (.int 0)).value args Z none Z [] = some true) : ∃ b, Fld Z Z.heap a C n d (.ref b) ∧ ArI Z Z.heap b ty [] := by
  obtain ⟨b, eb⟩ := arr_v w
  obtain ⟨c, A⟩ := Arr.start eb w
  have el := Cond.eq_int (Cond.before_iff.mpr wl) rfl
  obtain ⟨b', c', e1, e2, e3⟩ := Term.length_spec el
  cases eb.symm.trans e1
  have ec : c' = c := by
    have := Arr.fin (Vm.Alike.refl _) A
    rw [this] at e2; exact (Option.some.inj e2).symm
  subst ec
  have hb : c'.slots.size < 2 ^ 31 := by
    exact len_lt eb e2 el
  have hz : c'.slots.size = 0 := by
    have q : Int32.ofNat c'.slots.size = Int32.ofNat 0 := (Value.int.inj e3).symm
    exact (n32_eq hb (by omega)).mp q
  refine ⟨b, Fld.start (by rw [← fld_at e]; exact eb), c', A, ?_, by simp⟩
  simpa using hz
theorem fld_same (e : t.eval args Z none [] Z = some (.ref a)) (eu : u.eval args Z none [] Z = some (.ref b)) (w : (Jvm.Cond.eq (.field t C n d) u).value args Z none Z [] = some true) : Fld Z Z.heap a C n d (.ref b) := by
  refine Fld.start ?_
  rw [← fld_at e]
  cases hf : (Term.field t C n d).eval args Z none [] Z with
  | none => simp [Cond.value, hf] at w
  | some x => cases x <;> simp [Cond.value, hf, eu] at w; rw [w]
end Facts
end Jvm.OwnW
namespace Jvm.Pilot.@@N@@
open Jvm Jvm.ClassFile Sem Op Lib Jvm.Free Jvm.Stand Jvm.LawKit Jvm.RoadKit Bundle Jvm.Pilot.@@N@@.Jvm.D Jvm.OwnW
def LT : Lits := [("java/lang/String", 7, "")]
theorem pdx0 : parseMethodDescriptor "([CI[BII)I" = some ⟨[(.array .char), .int, (.array .byte), .int, .int], some .int⟩ := by decide +kernel
theorem pdx1 : parseMethodDescriptor "([CII)[B" = some ⟨[(.array .char), .int, .int], some (.array .byte)⟩ := by decide +kernel
theorem pdx2 : parseMethodDescriptor "([BI)B" = some ⟨[(.array .byte), .int], some .byte⟩ := by decide +kernel
theorem pdx3 : parseMethodDescriptor "([CIILjava/lang/Void;)V" = some ⟨[(.array .char), .int, .int, (.object "java/lang/Void")], none⟩ := by decide +kernel
theorem atoms {Z : State} {a0 : Array Value} (hw : ∀ d ∈ tables_1, d.before a0 Z = true) : ∀ a ∈ Bundle.stringAtoms, a.before a0 Z = true := by
  intro a ha
  simp only [Bundle.stringAtoms, Bundle.sN, List.mem_cons, List.not_mem_nil, or_false] at ha
  rcases ha with rfl | rfl | rfl | rfl | rfl | rfl | rfl
  all_goals first | exact (hw _ (List.mem_of_getElem? (i := 2) rfl)) | exact (hw _ (List.mem_of_getElem? (i := 3) rfl)) | exact (hw _ (List.mem_of_getElem? (i := 19) rfl)) | exact (hw _ (List.mem_of_getElem? (i := 29) rfl)) | exact (hw _ (List.mem_of_getElem? (i := 27) rfl)) | exact (hw _ (List.mem_of_getElem? (i := 128) rfl)) | exact (hw _ (List.mem_of_getElem? (i := 129) rfl))
def Compact (Z : State) (cz : Int32) : Prop := Sta Z Z.heap "java/lang/String" "COMPACT_STRINGS" "Z" (.int cz) ∧ ¬ cz = 0
def U16 (Z : State) : Prop := Sta Z Z.heap "java/lang/StringUTF16" "$assertionsDisabled" "Z" (.int 1) ∧ Sta Z Z.heap "java/lang/StringUTF16" "HI_BYTE_SHIFT" "I" (.int 0) ∧ Sta Z Z.heap "java/lang/StringUTF16" "LO_BYTE_SHIFT" "I" (.int 8)
abbrev HuA (Z : State) (us : List UInt16) : Prop := lat us = true
abbrev Hu (Z : State) (us : List UInt16) : Prop := HuA Z us
theorem Hu.a {Z : State} {us : List UInt16} (h : Hu Z us) : HuA Z us := h
def cu (x : Int32) : UInt16 := x.toUInt32.toUInt16
theorem lat_cu (a : Int32) : cu (a &&& 255) < 256 := by
  have m := c_mask a 255 8 (by decide) (by decide)
  have e := chv_toInt (cu (a &&& 255))
  have q := c_i2c (a &&& 255)
  rw [show ((a &&& 255).toUInt32.toUInt16.toUInt32.toInt32) = chv (cu (a &&& 255)) from rfl] at q
  rw [UInt16.lt_iff_toNat_lt]
  show _ < 256
  omega
abbrev R0 : Room := { frames := 0, cells := 0, slots := 0, locals := 0 }
section JdkStr
variable {Z : State} {a0 : Array Value} {h : Heap} {mine : List Addr}

theorem dCP5_0 : decode jdk_52_method_21_code 0 = .ok (.iconst 0, 1) := by decide +kernel
theorem dCP5_1 : decode jdk_52_method_21_code 1 = .ok (.istore 5, 2) := by decide +kernel
theorem dCP5_3 : decode jdk_52_method_21_code 3 = .ok (.iload 5, 2) := by decide +kernel
theorem dCP5_5 : decode jdk_52_method_21_code 5 = .ok (.iload 4, 2) := by decide +kernel
theorem dCP5_7 : decode jdk_52_method_21_code 7 = .ok (.if_icmp .ge 37, 3) := by decide +kernel
theorem dCP5_10 : decode jdk_52_method_21_code 10 = .ok (.aload_n 0, 1) := by decide +kernel
theorem dCP5_11 : decode jdk_52_method_21_code 11 = .ok (.iload_n 1, 1) := by decide +kernel
theorem dCP5_12 : decode jdk_52_method_21_code 12 = .ok (.caload, 1) := by decide +kernel
theorem dCP5_13 : decode jdk_52_method_21_code 13 = .ok (.istore 6, 2) := by decide +kernel
theorem dCP5_15 : decode jdk_52_method_21_code 15 = .ok (.iload 6, 2) := by decide +kernel
theorem dCP5_17 : decode jdk_52_method_21_code 17 = .ok (.sipush 255, 3) := by decide +kernel
theorem dCP5_20 : decode jdk_52_method_21_code 20 = .ok (.if_icmp .le 6, 3) := by decide +kernel
theorem dCP5_23 : decode jdk_52_method_21_code 23 = .ok (.iload 5, 2) := by decide +kernel
theorem dCP5_25 : decode jdk_52_method_21_code 25 = .ok (.ireturn, 1) := by decide +kernel
theorem dCP5_26 : decode jdk_52_method_21_code 26 = .ok (.aload_n 2, 1) := by decide +kernel
theorem dCP5_27 : decode jdk_52_method_21_code 27 = .ok (.iload_n 3, 1) := by decide +kernel
theorem dCP5_28 : decode jdk_52_method_21_code 28 = .ok (.iload 6, 2) := by decide +kernel
theorem dCP5_30 : decode jdk_52_method_21_code 30 = .ok (.i2b, 1) := by decide +kernel
theorem dCP5_31 : decode jdk_52_method_21_code 31 = .ok (.bastore, 1) := by decide +kernel
theorem dCP5_32 : decode jdk_52_method_21_code 32 = .ok (.iinc 1 1, 3) := by decide +kernel
theorem dCP5_35 : decode jdk_52_method_21_code 35 = .ok (.iinc 3 1, 3) := by decide +kernel
theorem dCP5_38 : decode jdk_52_method_21_code 38 = .ok (.iinc 5 1, 3) := by decide +kernel
theorem dCP5_41 : decode jdk_52_method_21_code 41 = .ok (.goto (-38), 3) := by decide +kernel
theorem dCP5_44 : decode jdk_52_method_21_code 44 = .ok (.iload 4, 2) := by decide +kernel
theorem dCP5_46 : decode jdk_52_method_21_code 46 = .ok (.ireturn, 1) := by decide +kernel
theorem pnCP5 : plainFor (⟨"java/lang/StringUTF16", "compress", "([CI[BII)I"⟩ : MethodName) = true := plainFor_of_name (by first | (simp [plainName, overriddenIn]; done) | decide +kernel)
set_option maxRecDepth 65536 in
set_option maxHeartbeats 40000000 in
theorem loop_CP5 {us : List UInt16} {xs : List Int32} {b d : Addr} (hx : xs.length = us.length) (hn : us.length < 2 ^ 31) (hm : d ∈ mine) (hbd : b ≠ d) :
    ∀ (r i : Nat), i + r = us.length → ∀ (h' : Heap) (o : Slot), one (some o) = true → ArI Z h' b .char (us.map chv) → ArI Z h' d .byte ((us.take i).map lo8 ++ xs.drop i) → (∀ (j : Nat) (u : UInt16), j < i → us[j]? = some u → u < 256) →
    WP "java/lang/StringUTF16" jdk_52_method_21_code 7 (some .int) "compress" R0 Z LT h [d] mine (fun v h' nw => nw = [] ∧ ((lat us = true ∧ v = some (.int (Int32.ofNat us.length)) ∧ ArI Z h' d .byte (us.map lo8)) ∨ (lat us = false ∧ ∃ (k : Nat) (u : UInt16), us[k]? = some u ∧ ¬ u < 256 ∧ v = some (.int (Int32.ofNat k))))) mine 0 0 h' 3 [.val (.ref b), .val (.int (Int32.ofNat i)), .val (.ref d), .val (.int (Int32.ofNat i)), .val (.int (Int32.ofNat us.length)), .val (.int (Int32.ofNat i)), o] [] := by
  intro r
  induction r with
  | zero =>
    intro i hi h' o ho A D hlt
    obtain rfl : i = us.length := by omega
    refine WP.iload (pc' := 5) dCP5_3 rfl rfl ?_
    refine WP.iload (pc' := 7) dCP5_5 rfl rfl ?_
    refine WP.icmpT (pc' := 44) dCP5_7 (by decide) (by decide) (fun q => Nat.lt_irrefl _ ((n32_lt hn hn).mp q)) ?_
    refine WP.iload (pc' := 46) dCP5_44 rfl rfl ?_
    refine WP.ireturn dCP5_46 rfl (Or.inl rfl) rfl ⟨rfl, Or.inl ⟨(lat_iff us).mpr fun j u hu => hlt j u (List.getElem?_eq_some_iff.mp hu).1 hu, rfl, ?_⟩⟩ (fun _ hx => nomatch hx) (fun _ hx => hx) (Nat.le_refl _) (Nat.le_refl _)
    have e : (us.take us.length).map lo8 ++ xs.drop us.length = us.map lo8 := by rw [List.take_length, ← hx, List.drop_length, List.append_nil]
    rw [e] at D; exact D
  | succ r ih =>
    intro i hi h' o ho A D hlt
    have hil : i < us.length := by omega
    obtain ⟨u, hu⟩ : ∃ u, us[i]? = some u := ⟨us[i], List.getElem?_eq_getElem hil⟩
    have hi31 : i < 2 ^ 31 := by omega
    refine WP.iload (pc' := 5) dCP5_3 rfl rfl ?_
    refine WP.iload (pc' := 7) dCP5_5 rfl rfl ?_
    refine WP.icmpF (pc' := 10) dCP5_7 rfl ((n32_lt hi31 hn).mpr hil) ?_
    refine WP.aloadN (pc' := 11) dCP5_10 rfl rfl rfl ?_
    refine WP.iloadN (pc' := 12) dCP5_11 rfl rfl ?_
    refine WP.caload (pc' := 13) dCP5_12 A (n32_toInt hi31) (x := chv u) (by simp [hu]) rfl ?_
    refine WP.istore (pc' := 15) dCP5_13 ho rfl rfl ?_
    dsimp only [List.set]
    refine WP.iload (pc' := 17) dCP5_15 rfl rfl ?_
    refine WP.sipush (pc' := 20) (x := 255) dCP5_17 (by decide) rfl ?_
    by_cases h256 : u < 256
    · refine WP.icmpT (pc' := 26) dCP5_20 (by decide) (by decide) (fun q => (chv_gt u).mp q h256) ?_
      refine WP.aloadN (pc' := 27) dCP5_26 rfl rfl rfl ?_
      refine WP.iloadN (pc' := 28) dCP5_27 rfl rfl ?_
      refine WP.iload (pc' := 30) dCP5_28 rfl rfl ?_
      refine WP.i2b (pc' := 31) dCP5_30 rfl ?_
      refine WP.bastore (pc' := 32) dCP5_31 D (n32_toInt hi31) (by simp; omega) hm (Or.inl (List.mem_singleton.mpr rfl)) rfl ?_
      intro h2 W D2
      refine WP.iinc (pc' := 35) dCP5_32 rfl rfl rfl rfl ?_
      dsimp only [List.set]
      refine WP.iinc (pc' := 38) dCP5_35 rfl rfl rfl rfl ?_
      dsimp only [List.set]
      refine WP.iinc (pc' := 41) dCP5_38 rfl rfl rfl rfl ?_
      dsimp only [List.set]
      refine WP.goto (pc' := 3) dCP5_41 (by decide) (by decide) ?_
      have e1 : nar .byte ((chv u).toInt8.toInt32) = lo8 u := by rw [nar_i2b]; exact chv_lo8 u
      rw [e1, take_set (by simp; omega) (by simp; omega), List.drop_drop] at D2
      have e2 : (us.take (i + 1)).map lo8 ++ xs.drop (i + 1) = (us.take i).map lo8 ++ lo8 u :: xs.drop (i + 1) := by rw [take_succ' hu]; simp
      rw [show Int32.ofNat i + Int32.ofInt 1 = Int32.ofNat (i + 1) from n32_succ i]
      refine ih (i + 1) (by omega) h2 _ rfl (A.other W hbd) (by rw [e2]; exact D2) fun j v hj hv => ?_
      rcases Nat.lt_succ_iff_lt_or_eq.mp hj with q | rfl
      · exact hlt j v q hv
      · cases hu.symm.trans hv; exact h256
    · refine WP.icmpF (pc' := 23) dCP5_20 rfl ((chv_gt u).mpr h256) ?_
      refine WP.iload (pc' := 25) dCP5_23 rfl rfl ?_
      refine WP.ireturn dCP5_25 rfl (Or.inl rfl) rfl ⟨rfl, Or.inr ⟨?_, i, u, hu, h256, rfl⟩⟩ (fun _ hx => nomatch hx) (fun _ hx => hx) (Nat.le_refl _) (Nat.le_refl _)
      exact Bool.eq_false_iff.mpr fun q => h256 ((lat_iff us).mp q i u hu)

set_option maxRecDepth 65536 in
set_option maxHeartbeats 40000000 in
theorem con_CP5 {us : List UInt16} {xs : List Int32} {b d : Addr} (A : ArI Z h b .char (us.map chv)) (D : ArI Z h d .byte xs) (hx : xs.length = us.length) (hm : d ∈ mine) :
    Con (⟨"java/lang/StringUTF16", "compress", "([CI[BII)I"⟩ : MethodName) jdk_52_method_21_code 7 (some .int) R0 Z LT [] #[.ref b, .int 0, .ref d, .int 0, .int (Int32.ofNat us.length)] h [d] mine (fun v h' nw => nw = [] ∧ ((lat us = true ∧ v = some (.int (Int32.ofNat us.length)) ∧ ArI Z h' d .byte (us.map lo8)) ∨ (lat us = false ∧ ∃ (k : Nat) (u : UInt16), us[k]? = some u ∧ ¬ u < 256 ∧ v = some (.int (Int32.ofNat k))))) := by
  refine Con.of pnCP5 (Ls := [.val (.ref b), .val (.int 0), .val (.ref d), .val (.int 0), .val (.int (Int32.ofNat us.length)), .unset, .unset]) (fun m => by first | (simp [entryFrame, mkF, argsToLocals, Value.category]; done) | (simp [entryFrame, mkF, argsToLocals, Value.category, maxLocals]; done) | rfl) ?_
  refine WP.iconst (pc' := 1) (x := 0) dCP5_0 (by decide) rfl ?_
  refine WP.istore (pc' := 3) dCP5_1 rfl rfl rfl ?_
  dsimp only [List.set]
  have hn : us.length < 2 ^ 31 := by have := A.len; simpa using this
  exact loop_CP5 hx hn hm (A.ne D (by decide)) us.length 0 (by omega) h .unset rfl A (by simpa using D) (fun j u hj => absurd hj (Nat.not_lt_zero _))
theorem dCL_0 : decode jdk_52_method_15_code 0 = .ok (.iload_n 1, 1) := by decide +kernel
theorem dCL_1 : decode jdk_52_method_15_code 1 = .ok (.aload_n 0, 1) := by decide +kernel
theorem dCL_2 : decode jdk_52_method_15_code 2 = .ok (.arraylength, 1) := by decide +kernel
theorem dCL_3 : decode jdk_52_method_15_code 3 = .ok (.isub, 1) := by decide +kernel
theorem dCL_4 : decode jdk_52_method_15_code 4 = .ok (.bipush 31, 2) := by decide +kernel
theorem dCL_6 : decode jdk_52_method_15_code 6 = .ok (.iushr, 1) := by decide +kernel
theorem dCL_7 : decode jdk_52_method_15_code 7 = .ok (.i2b, 1) := by decide +kernel
theorem dCL_8 : decode jdk_52_method_15_code 8 = .ok (.ireturn, 1) := by decide +kernel
theorem pnCL : plainFor (⟨"java/lang/StringUTF16", "coderFromArrayLen", "([BI)B"⟩ : MethodName) = true := plainFor_of_name (by first | (simp [plainName, overriddenIn]; done) | decide +kernel)
set_option maxRecDepth 65536 in
set_option maxHeartbeats 40000000 in
theorem con_CL {us : List UInt16} {t : Addr} {xs : List Int32} (T : ArI Z h t .byte xs) (hn : us.length < 2 ^ 31) (ht : (lat us = true ∧ xs = us.map lo8) ∨ (lat us = false ∧ xs = b16 us)) : Con (⟨"java/lang/StringUTF16", "coderFromArrayLen", "([BI)B"⟩ : MethodName) jdk_52_method_15_code 2 (some .byte) R0 Z LT [] #[.ref t, .int (Int32.ofNat us.length)] h [] mine (fun v h' nw => nw = [] ∧ v = some (.int (if lat us = true then 0 else 1)) ∧ h' = h) := by
  have hl := T.len
  refine Con.of pnCL (Ls := [.val (.ref t), .val (.int (Int32.ofNat us.length))]) (fun m => by first | (simp [entryFrame, mkF, argsToLocals, Value.category]; done) | (simp [entryFrame, mkF, argsToLocals, Value.category, maxLocals]; done) | rfl) ?_
  refine WP.iloadN (pc' := 1) dCL_0 rfl rfl ?_
  refine WP.aloadN (pc' := 2) dCL_1 rfl rfl rfl ?_
  refine WP.arraylength (pc' := 3) dCL_2 T rfl rfl ?_
  refine WP.isub (pc' := 4) dCL_3 rfl ?_
  refine WP.bipush (pc' := 6) (x := 31) dCL_4 (by decide) rfl ?_
  refine WP.iushr (pc' := 7) dCL_6 rfl ?_
  refine WP.i2b (pc' := 8) dCL_7 rfl ?_
  have e : ((Int32.ofNat us.length - Int32.ofNat xs.length).toUInt32 >>> ((31 : Int32) &&& 31).toUInt32).toInt32.toInt8.toInt32 = if lat us = true then 0 else 1 := by
    have s := c_iushr (Int32.ofNat us.length - Int32.ofNat xs.length) 31 31 (by decide) (by decide)
    have d := c_isub (Int32.ofNat us.length) (Int32.ofNat xs.length)
    have r := rng32 (Int32.ofNat us.length - Int32.ofNat xs.length)
    rw [n32_toInt hn, n32_toInt hl] at d
    have b := c_i2b ((Int32.ofNat us.length - Int32.ofNat xs.length).toUInt32 >>> ((31 : Int32) &&& 31).toUInt32).toInt32
    rcases ht with ⟨h1, rfl⟩ | ⟨h1, rfl⟩
    · rw [if_pos h1]
      simp only [List.length_map] at *
      apply Int32.toInt_inj.mp
      show _ = (0 : Int)
      omega
    · rw [if_neg (by rw [h1]; decide)]
      rw [b16_len] at *
      have : 0 < us.length := by
        rcases us with _ | ⟨u, us⟩
        · cases h1
        · simp
      apply Int32.toInt_inj.mp
      show _ = (1 : Int)
      omega
  rw [e]
  exact WP.ireturn dCL_8 rfl (by simp) (by split <;> rfl) ⟨rfl, rfl, rfl⟩ (fun _ hx => nomatch hx) (fun _ hx => hx) (Nat.le_refl _) (Nat.le_refl _)
theorem dCP3_0 : decode jdk_52_method_16_code 0 = .ok (.iload_n 2, 1) := by decide +kernel
theorem dCP3_1 : decode jdk_52_method_16_code 1 = .ok (.newarray .byte, 2) := by decide +kernel
theorem dCP3_3 : decode jdk_52_method_16_code 3 = .ok (.astore_n 3, 1) := by decide +kernel
theorem dCP3_4 : decode jdk_52_method_16_code 4 = .ok (.aload_n 0, 1) := by decide +kernel
theorem dCP3_5 : decode jdk_52_method_16_code 5 = .ok (.iload_n 1, 1) := by decide +kernel
theorem dCP3_6 : decode jdk_52_method_16_code 6 = .ok (.aload_n 3, 1) := by decide +kernel
theorem dCP3_7 : decode jdk_52_method_16_code 7 = .ok (.iconst 0, 1) := by decide +kernel
theorem dCP3_8 : decode jdk_52_method_16_code 8 = .ok (.iload_n 2, 1) := by decide +kernel
theorem dCP3_9 : decode jdk_52_method_16_code 9 = .ok (.invokestatic 115, 3) := by decide +kernel
theorem dCP3_12 : decode jdk_52_method_16_code 12 = .ok (.istore 4, 2) := by decide +kernel
theorem dCP3_14 : decode jdk_52_method_16_code 14 = .ok (.iload 4, 2) := by decide +kernel
theorem dCP3_16 : decode jdk_52_method_16_code 16 = .ok (.iload_n 2, 1) := by decide +kernel
theorem dCP3_17 : decode jdk_52_method_16_code 17 = .ok (.if_icmp .eq 40, 3) := by decide +kernel
theorem dCP3_20 : decode jdk_52_method_16_code 20 = .ok (.aload_n 0, 1) := by decide +kernel
theorem dCP3_21 : decode jdk_52_method_16_code 21 = .ok (.iload_n 1, 1) := by decide +kernel
theorem dCP3_22 : decode jdk_52_method_16_code 22 = .ok (.iload_n 2, 1) := by decide +kernel
theorem dCP3_23 : decode jdk_52_method_16_code 23 = .ok (.invokestatic 119, 3) := by decide +kernel
theorem dCP3_26 : decode jdk_52_method_16_code 26 = .ok (.astore 5, 2) := by decide +kernel
theorem dCP3_28 : decode jdk_52_method_16_code 28 = .ok (.aload 5, 2) := by decide +kernel
theorem dCP3_30 : decode jdk_52_method_16_code 30 = .ok (.iload 4, 2) := by decide +kernel
theorem dCP3_32 : decode jdk_52_method_16_code 32 = .ok (.invokestatic 71, 3) := by decide +kernel
theorem dCP3_35 : decode jdk_52_method_16_code 35 = .ok (.sipush 255, 3) := by decide +kernel
theorem dCP3_38 : decode jdk_52_method_16_code 38 = .ok (.if_icmp .gt 16, 3) := by decide +kernel
theorem dCP3_41 : decode jdk_52_method_16_code 41 = .ok (.aload 5, 2) := by decide +kernel
theorem dCP3_43 : decode jdk_52_method_16_code 43 = .ok (.iconst 0, 1) := by decide +kernel
theorem dCP3_44 : decode jdk_52_method_16_code 44 = .ok (.aload_n 3, 1) := by decide +kernel
theorem dCP3_45 : decode jdk_52_method_16_code 45 = .ok (.iconst 0, 1) := by decide +kernel
theorem dCP3_46 : decode jdk_52_method_16_code 46 = .ok (.iload_n 2, 1) := by decide +kernel
theorem dCP3_47 : decode jdk_52_method_16_code 47 = .ok (.invokestatic 123, 3) := by decide +kernel
theorem dCP3_50 : decode jdk_52_method_16_code 50 = .ok (.iload_n 2, 1) := by decide +kernel
theorem dCP3_51 : decode jdk_52_method_16_code 51 = .ok (.if_icmp .eq 6, 3) := by decide +kernel
theorem dCP3_54 : decode jdk_52_method_16_code 54 = .ok (.aload 5, 2) := by decide +kernel
theorem dCP3_56 : decode jdk_52_method_16_code 56 = .ok (.areturn, 1) := by decide +kernel
theorem dCP3_57 : decode jdk_52_method_16_code 57 = .ok (.aload_n 3, 1) := by decide +kernel
theorem dCP3_58 : decode jdk_52_method_16_code 58 = .ok (.areturn, 1) := by decide +kernel
theorem pnCP3 : plainFor (⟨"java/lang/StringUTF16", "compress", "([CII)[B"⟩ : MethodName) = true := plainFor_of_name (by first | (simp [plainName, overriddenIn]; done) | decide +kernel)
set_option maxRecDepth 65536 in
set_option maxHeartbeats 40000000 in
theorem con_CP3 (hw : ∀ d ∈ tables_1, d.before a0 Z = true) {us : List UInt16} (hu : HuA Z us) {b : Addr} {N : Nat} (hN : us.length ≤ N) (hn : N ≤ 33554432) (A : ArI Z h b .char (us.map chv)) : Con (⟨"java/lang/StringUTF16", "compress", "([CII)[B"⟩ : MethodName) jdk_52_method_16_code 6 (some (.array .byte)) { frames := 3, cells := 2, slots := 3 * N, locals := 40 } Z LT [] #[.ref b, .int 0, .int (Int32.ofNat us.length)] h [] mine (fun v h' nw => nw = [] ∧ ∃ t, v = some (.ref t) ∧ h.size ≤ t ∧ ((lat us = true ∧ ArI Z h' t .byte (us.map lo8)) ∨ (lat us = false ∧ ArI Z h' t .byte (b16 us)))) := by
  refine Con.of pnCP3 (Ls := [.val (.ref b), .val (.int 0), .val (.int (Int32.ofNat us.length)), .unset, .unset, .unset]) (fun m => by first | (simp [entryFrame, mkF, argsToLocals, Value.category]; done) | (simp [entryFrame, mkF, argsToLocals, Value.category, maxLocals]; done) | rfl) ?_
  refine WP.iloadN (pc' := 1) dCP3_0 rfl rfl ?_
  refine WP.newarray (pc' := 3) (N := us.length) dCP3_1 (hw _ (List.mem_of_getElem? (i := 19) rfl)) rfl (n32_toInt (by omega)) (by first | exact Nat.le_of_ble_eq_true rfl | omega | (simp; done) | (simp; omega) | (dsimp only; omega)) (by first | exact Nat.le_of_ble_eq_true rfl | omega | (simp; done) | (simp; omega) | (dsimp only; omega)) (by first | exact Nat.le_of_ble_eq_true rfl | omega | (simp; done) | (simp; omega) | (dsimp only; omega)) rfl ?_
  intro h1 t ht htm ht0 E D
  refine WP.astoreN (pc' := 4) dCP3_3 rfl rfl rfl rfl rfl ?_
  dsimp only [List.set]
  refine WP.aloadN (pc' := 5) dCP3_4 rfl rfl rfl ?_
  refine WP.iloadN (pc' := 6) dCP3_5 rfl rfl ?_
  refine WP.aloadN (pc' := 7) dCP3_6 rfl rfl rfl ?_
  refine WP.iconst (pc' := 8) (x := 0) dCP3_7 (by decide) rfl ?_
  refine WP.iloadN (pc' := 9) dCP3_8 rfl rfl ?_
  refine WP.callS (pc' := 12) (con_CP5 (A.ext E) D (by simp) (List.mem_cons_self ..)) (hw _ (List.mem_of_getElem? (i := 20) rfl)) (hw _ (List.mem_of_getElem? (i := 21) rfl)) (hw _ (List.mem_of_getElem? (i := 17) rfl)) (hw _ (List.mem_of_getElem? (i := 22) rfl)) dCP3_9 (by decide) pdx0 rfl rfl rfl (by first | exact Nat.le_of_ble_eq_true rfl | omega | (simp; done) | (simp; omega) | (dsimp only; omega)) (by first | exact Nat.le_of_ble_eq_true rfl | omega | (simp; done) | (simp; omega) | (dsimp only; omega)) (by first | exact Nat.le_of_ble_eq_true rfl | omega | (simp; done) | (simp; omega) | (dsimp only; omega)) (by first | exact Nat.le_of_ble_eq_true rfl | omega | (simp; done) | (simp; omega) | (dsimp only; omega)) (fun x hx => by cases List.mem_singleton.mp hx; exact Or.inr ht0) rfl ?_
  rintro v h2 nw K hnw ⟨rfl, hq⟩
  rcases hq with ⟨hl, rfl, D2⟩ | ⟨hl, k, u, hk, hu256, rfl⟩
  · dsimp only [Option.toList, List.cons_append, List.nil_append]
    refine WP.istore (pc' := 14) dCP3_12 rfl rfl rfl ?_
    dsimp only [List.set]
    refine WP.iload (pc' := 16) dCP3_14 rfl rfl ?_
    refine WP.iloadN (pc' := 17) dCP3_16 rfl rfl ?_
    refine WP.icmpT (pc' := 57) dCP3_17 (by decide) (by decide) rfl ?_
    refine WP.aloadN (pc' := 58) dCP3_57 rfl rfl rfl ?_
    exact WP.areturn dCP3_58 rfl rfl rfl ⟨rfl, t, rfl, ht0, Or.inl ⟨hl, D2⟩⟩ (fun _ hx => nomatch hx) (fun x hx => List.mem_cons_of_mem _ hx) (by dsimp only; omega) (by dsimp only; omega)
  · exact absurd (hl.symm.trans hu) (by decide)
theorem dSI4_0 : decode jdk_42_method_149_code 0 = .ok (.aload_n 0, 1) := by decide +kernel
theorem dSI4_1 : decode jdk_42_method_149_code 1 = .ok (.invokespecial 1, 3) := by decide +kernel
theorem dSI4_4 : decode jdk_42_method_149_code 4 = .ok (.iload_n 3, 1) := by decide +kernel
theorem dSI4_5 : decode jdk_42_method_149_code 5 = .ok (.ifCond .ne 22, 3) := by decide +kernel
theorem dSI4_8 : decode jdk_42_method_149_code 8 = .ok (.aload_n 0, 1) := by decide +kernel
theorem dSI4_9 : decode jdk_42_method_149_code 9 = .ok (.ldc 7, 2) := by decide +kernel
theorem dSI4_11 : decode jdk_42_method_149_code 11 = .ok (.getfield 9, 3) := by decide +kernel
theorem dSI4_14 : decode jdk_42_method_149_code 14 = .ok (.putfield 9, 3) := by decide +kernel
theorem dSI4_17 : decode jdk_42_method_149_code 17 = .ok (.aload_n 0, 1) := by decide +kernel
theorem dSI4_18 : decode jdk_42_method_149_code 18 = .ok (.ldc 7, 2) := by decide +kernel
theorem dSI4_20 : decode jdk_42_method_149_code 20 = .ok (.getfield 15, 3) := by decide +kernel
theorem dSI4_23 : decode jdk_42_method_149_code 23 = .ok (.putfield 15, 3) := by decide +kernel
theorem dSI4_26 : decode jdk_42_method_149_code 26 = .ok (.return_, 1) := by decide +kernel
theorem dSI4_27 : decode jdk_42_method_149_code 27 = .ok (.getstatic 38, 3) := by decide +kernel
theorem dSI4_30 : decode jdk_42_method_149_code 30 = .ok (.ifCond .eq 28, 3) := by decide +kernel
theorem dSI4_33 : decode jdk_42_method_149_code 33 = .ok (.aload_n 1, 1) := by decide +kernel
theorem dSI4_34 : decode jdk_42_method_149_code 34 = .ok (.iload_n 2, 1) := by decide +kernel
theorem dSI4_35 : decode jdk_42_method_149_code 35 = .ok (.iload_n 3, 1) := by decide +kernel
theorem dSI4_36 : decode jdk_42_method_149_code 36 = .ok (.invokestatic 177, 3) := by decide +kernel
theorem dSI4_39 : decode jdk_42_method_149_code 39 = .ok (.astore 5, 2) := by decide +kernel
theorem dSI4_41 : decode jdk_42_method_149_code 41 = .ok (.aload_n 0, 1) := by decide +kernel
theorem dSI4_42 : decode jdk_42_method_149_code 42 = .ok (.aload 5, 2) := by decide +kernel
theorem dSI4_44 : decode jdk_42_method_149_code 44 = .ok (.iload_n 3, 1) := by decide +kernel
theorem dSI4_45 : decode jdk_42_method_149_code 45 = .ok (.invokestatic 47, 3) := by decide +kernel
theorem dSI4_48 : decode jdk_42_method_149_code 48 = .ok (.putfield 15, 3) := by decide +kernel
theorem dSI4_51 : decode jdk_42_method_149_code 51 = .ok (.aload_n 0, 1) := by decide +kernel
theorem dSI4_52 : decode jdk_42_method_149_code 52 = .ok (.aload 5, 2) := by decide +kernel
theorem dSI4_54 : decode jdk_42_method_149_code 54 = .ok (.putfield 9, 3) := by decide +kernel
theorem dSI4_57 : decode jdk_42_method_149_code 57 = .ok (.return_, 1) := by decide +kernel
theorem dSI4_58 : decode jdk_42_method_149_code 58 = .ok (.aload_n 0, 1) := by decide +kernel
theorem dSI4_59 : decode jdk_42_method_149_code 59 = .ok (.iconst 1, 1) := by decide +kernel
theorem dSI4_60 : decode jdk_42_method_149_code 60 = .ok (.putfield 15, 3) := by decide +kernel
theorem dSI4_63 : decode jdk_42_method_149_code 63 = .ok (.aload_n 0, 1) := by decide +kernel
theorem dSI4_64 : decode jdk_42_method_149_code 64 = .ok (.aload_n 1, 1) := by decide +kernel
theorem dSI4_65 : decode jdk_42_method_149_code 65 = .ok (.iload_n 2, 1) := by decide +kernel
theorem dSI4_66 : decode jdk_42_method_149_code 66 = .ok (.iload_n 3, 1) := by decide +kernel
theorem dSI4_67 : decode jdk_42_method_149_code 67 = .ok (.invokestatic 180, 3) := by decide +kernel
theorem dSI4_70 : decode jdk_42_method_149_code 70 = .ok (.putfield 9, 3) := by decide +kernel
theorem dSI4_73 : decode jdk_42_method_149_code 73 = .ok (.return_, 1) := by decide +kernel
theorem pnSI4 : plainFor (⟨"java/lang/String", "<init>", "([CIILjava/lang/Void;)V"⟩ : MethodName) = true := plainFor_of_name (by first | (simp [plainName, overriddenIn]; done) | decide +kernel)
set_option maxRecDepth 65536 in
set_option maxHeartbeats 40000000 in
theorem con_SI4 (hw : ∀ d ∈ tables_1, d.before a0 Z = true) {cz : Int32} (hc : Compact Z cz) {us : List UInt16} (hu : Hu Z us) {a b : Addr} {N : Nat} (hN : us.length ≤ N) (hn : N ≤ 33554432) (E : Exa Z h a ST) (FV : Fld Z h a ST "value" "[B" .null) (FC : Fld Z h a ST "coder" "B" (.int 0)) (A : ArI Z h b .char (us.map chv)) (hm : a ∈ mine) :
    Con (⟨"java/lang/String", "<init>", "([CIILjava/lang/Void;)V"⟩ : MethodName) jdk_42_method_149_code 6 none { frames := 4, cells := 4, slots := 3 * N + 8, locals := 57 } Z LT [] #[.ref a, .ref b, .int 0, .int (Int32.ofNat us.length), .null] h [a] mine (fun v h' nw => nw = [] ∧ v = none ∧ ∃ t, StrAt Z h' a t us ∧ t ∉ mine) := by
  have hl : us.length < 2 ^ 31 := by have := A.len; simpa using this
  refine Con.of pnSI4 (Ls := [.val (.ref a), .val (.ref b), .val (.int 0), .val (.int (Int32.ofNat us.length)), .val .null, .unset]) (fun m => by first | (simp [entryFrame, mkF, argsToLocals, Value.category]; done) | (simp [entryFrame, mkF, argsToLocals, Value.category, maxLocals]; done) | rfl) ?_
  refine WP.know fun _ _ hmine => ?_
  refine WP.aloadN (pc' := 1) dSI4_0 rfl rfl rfl ?_
  refine WP.initObj (pc' := 4) (W := 0) dSI4_1 (hw _ (List.mem_of_getElem? (i := 11) rfl)) (hw _ (List.mem_of_getElem? (i := 12) rfl)) (hw _ (List.mem_of_getElem? (i := 13) rfl)) rfl (by first | exact Nat.le_of_ble_eq_true rfl | omega | (simp; done) | (simp; omega) | (dsimp only; omega)) (by first | exact Nat.le_of_ble_eq_true rfl | omega | (simp; done) | (simp; omega) | (dsimp only; omega)) (by first | exact Nat.le_of_ble_eq_true rfl | omega | (simp; done) | (simp; omega) | (dsimp only; omega)) rfl ?_
  refine WP.iloadN (pc' := 5) dSI4_4 rfl rfl ?_
  rcases Nat.eq_zero_or_pos us.length with h0 | h0
  · obtain rfl : us = [] := List.eq_nil_of_length_eq_zero h0
    refine WP.ifF (pc' := 8) dSI4_5 rfl rfl ?_
    refine WP.aloadN (pc' := 9) dSI4_8 rfl rfl rfl ?_
    refine WP.ldcS (pc' := 11) (text := "") (n := 0) dSI4_9 (by decide) (atoms hw) (by decide) (by decide) (by decide) (by first | exact Nat.le_of_ble_eq_true rfl | omega | (simp; done) | (simp; omega) | (dsimp only; omega)) (by first | exact Nat.le_of_ble_eq_true rfl | omega | (simp; done) | (simp; omega) | (dsimp only; omega)) rfl ?_
    intro h1 q1 E1 S1
    obtain ⟨t1, S1, hq1, ht1⟩ := S1
    obtain ⟨-, V1, h1c⟩ := id S1
    have hne1 : q1 ≠ a := fun q => hq1 (q ▸ hm)
    refine WP.getfield (pc' := 14) (host := "") dSI4_11 (Or.inl (hw _ (List.mem_of_getElem? (i := 28) rfl))) Via.refl V1 rfl ?_
    refine WP.putfield (pc' := 17) (host := "") dSI4_14 (Or.inl (hw _ (List.mem_of_getElem? (i := 28) rfl))) Via.refl (FV.ext E1) (E.ext E1) (Or.inr ⟨(hw _ (List.mem_of_getElem? (i := 29) rfl)), rfl, rfl⟩) (hw _ (List.mem_of_getElem? (i := 2) rfl)) (ty := (.array .byte)) (by decide) rfl rfl hm (Or.inl (List.mem_singleton.mpr rfl)) rfl ?_
    intro h2 W2 V2 E2
    refine WP.aloadN (pc' := 18) dSI4_17 rfl rfl rfl ?_
    refine WP.ldcS (pc' := 20) (text := "") (n := 0) dSI4_18 (by decide) (atoms hw) (by decide) (by decide) (by decide) (by first | exact Nat.le_of_ble_eq_true rfl | omega | (simp; done) | (simp; omega) | (dsimp only; omega)) (by first | exact Nat.le_of_ble_eq_true rfl | omega | (simp; done) | (simp; omega) | (dsimp only; omega)) rfl ?_
    intro h3 q3 E3 S3
    obtain ⟨t3, S3, hq3, ht3⟩ := S3
    have C3 : Fld Z h3 q3 ST "coder" "B" (.int 0) := by
      rcases S3.2.2 with q | q
      · exact q.2.1
      · exact absurd q.1 (by decide)
    refine WP.getfield (pc' := 23) (host := "") dSI4_20 (Or.inl (hw _ (List.mem_of_getElem? (i := 26) rfl))) Via.refl C3 rfl ?_
    have sne : Jvm.RoadKit.slotOf Z ST "value" "[B" ≠ Jvm.RoadKit.slotOf Z ST "coder" "B" := slot_ne (Or.inr (hw _ (List.mem_of_getElem? (i := 29) rfl))) (Or.inr (hw _ (List.mem_of_getElem? (i := 27) rfl))) (by decide) (t := .array .byte) (t' := .byte) (by decide) (by decide)
    have FC2 : Fld Z h3 a ST "coder" "B" (.int 0) := ((FC.ext E1).other W2 (Or.inr (Ne.symm sne))).ext E3
    refine WP.putfield (pc' := 26) (host := "") dSI4_23 (Or.inl (hw _ (List.mem_of_getElem? (i := 26) rfl))) Via.refl FC2 (E2.ext E3) (Or.inr ⟨(hw _ (List.mem_of_getElem? (i := 27) rfl)), rfl, rfl⟩) (hw _ (List.mem_of_getElem? (i := 2) rfl)) (ty := .byte) (by decide) rfl rfl hm (Or.inl (List.mem_singleton.mpr rfl)) rfl ?_
    intro h4 W4 C4 E4
    have S1' : StrAt Z h4 q1 t1 [] := (((S1.cells (fun c hc => by have := wr_at W2 hc; obtain ⟨c', g1, -, -, -, g5, -⟩ := this; rw [← g5 hne1]; exact g1) (fun c hc => by obtain ⟨c', g1, -, -, -, g5, -⟩ := wr_at W2 hc; rw [← g5 (fun q => ht1 (q ▸ hm))]; exact g1)).cells (fun c hc => E3.2 _ _ hc) (fun c hc => E3.2 _ _ hc)).cells (fun c hc => by obtain ⟨c', g1, -, -, -, g5, -⟩ := wr_at W4 hc; rw [← g5 hne1]; exact g1) (fun c hc => by obtain ⟨c', g1, -, -, -, g5, -⟩ := wr_at W4 hc; rw [← g5 (fun q => ht1 (q ▸ hm))]; exact g1))
    refine WP.vret dSI4_26 rfl ⟨rfl, rfl, t1, ⟨E4, (V2.ext E3).other W4 (Or.inr sne), Or.inl ⟨rfl, C4, ?_⟩⟩, ht1⟩ (fun _ hx => nomatch hx) (fun _ hx => hx) (by dsimp only; omega) (by dsimp only; omega)
    rcases S1'.2.2 with q | q
    · exact q.2.2
    · exact absurd q.1 (by decide)
  · refine WP.ifT (pc' := 27) dSI4_5 (by decide) (by decide) (fun q => by rw [show (0 : Int32) = Int32.ofNat 0 from rfl, n32_eq hl (by omega)] at q; omega) ?_
    refine WP.getstatic (pc' := 30) (host := "") dSI4_27 (Or.inl (hw _ (List.mem_of_getElem? (i := 14) rfl))) Via.refl hc.1 rfl ?_
    refine WP.ifF (pc' := 33) dSI4_30 rfl hc.2 ?_
    refine WP.aloadN (pc' := 34) dSI4_33 rfl rfl rfl ?_
    refine WP.iloadN (pc' := 35) dSI4_34 rfl rfl ?_
    refine WP.iloadN (pc' := 36) dSI4_35 rfl rfl ?_
    refine WP.callS (pc' := 39) (con_CP3 hw hu.a hN hn A) (hw _ (List.mem_of_getElem? (i := 15) rfl)) (hw _ (List.mem_of_getElem? (i := 16) rfl)) (hw _ (List.mem_of_getElem? (i := 17) rfl)) (hw _ (List.mem_of_getElem? (i := 18) rfl)) dSI4_36 (by decide) pdx1 rfl rfl rfl (by first | exact Nat.le_of_ble_eq_true rfl | omega | (simp; done) | (simp; omega) | (dsimp only; omega)) (by first | exact Nat.le_of_ble_eq_true rfl | omega | (simp; done) | (simp; omega) | (dsimp only; omega)) (by first | exact Nat.le_of_ble_eq_true rfl | omega | (simp; done) | (simp; omega) | (dsimp only; omega)) (by first | exact Nat.le_of_ble_eq_true rfl | omega | (simp; done) | (simp; omega) | (dsimp only; omega)) (fun _ hx => nomatch hx) rfl ?_
    rintro v h1 nw K1 hnw ⟨rfl, t, rfl, ht, hT⟩
    dsimp only [Option.toList, List.cons_append, List.nil_append]
    refine WP.astore (pc' := 41) dSI4_39 rfl rfl rfl rfl rfl ?_
    dsimp only [List.set]
    refine WP.aloadN (pc' := 42) dSI4_41 rfl rfl rfl ?_
    refine WP.aload (pc' := 44) dSI4_42 rfl rfl rfl ?_
    refine WP.iloadN (pc' := 45) dSI4_44 rfl rfl ?_
    obtain ⟨xs, T, hxs⟩ : ∃ xs, ArI Z h1 t .byte xs ∧ ((lat us = true ∧ xs = us.map lo8) ∨ (lat us = false ∧ xs = b16 us)) := by
      rcases hT with ⟨q1, q2⟩ | ⟨q1, q2⟩
      · exact ⟨_, q2, Or.inl ⟨q1, rfl⟩⟩
      · exact ⟨_, q2, Or.inr ⟨q1, rfl⟩⟩
    have hta : t ≠ a := fun q => absurd E.lt (Nat.not_lt.mpr (q ▸ ht))
    refine WP.callS (pc' := 48) (con_CL T hl hxs) (hw _ (List.mem_of_getElem? (i := 23) rfl)) (hw _ (List.mem_of_getElem? (i := 24) rfl)) (hw _ (List.mem_of_getElem? (i := 17) rfl)) (hw _ (List.mem_of_getElem? (i := 25) rfl)) dSI4_45 (by decide) pdx2 rfl rfl rfl (by first | exact Nat.le_of_ble_eq_true rfl | omega | (simp; done) | (simp; omega) | (dsimp only; omega)) (by first | exact Nat.le_of_ble_eq_true rfl | omega | (simp; done) | (simp; omega) | (dsimp only; omega)) (by first | exact Nat.le_of_ble_eq_true rfl | omega | (simp; done) | (simp; omega) | (dsimp only; omega)) (by first | exact Nat.le_of_ble_eq_true rfl | omega | (simp; done) | (simp; omega) | (dsimp only; omega)) (fun _ hx => nomatch hx) rfl ?_
    rintro v h2 nw K2 hnw2 ⟨rfl, rfl, rfl⟩
    dsimp only [Option.toList, List.cons_append, List.nil_append]
    have E1 := E.keep K1
    refine WP.putfield (pc' := 51) (host := "") dSI4_48 (Or.inl (hw _ (List.mem_of_getElem? (i := 26) rfl))) Via.refl (FC.keep K1 nin0) E1 (Or.inr ⟨(hw _ (List.mem_of_getElem? (i := 27) rfl)), rfl, rfl⟩) (hw _ (List.mem_of_getElem? (i := 2) rfl)) (ty := .byte) (by decide) (by split <;> rfl) (by split <;> rfl) hm (Or.inl (List.mem_singleton.mpr rfl)) rfl ?_
    intro h3 W3 C3 E3
    refine WP.aloadN (pc' := 52) dSI4_51 rfl rfl rfl ?_
    refine WP.aload (pc' := 54) dSI4_52 rfl rfl rfl ?_
    have sne : Jvm.RoadKit.slotOf Z ST "value" "[B" ≠ Jvm.RoadKit.slotOf Z ST "coder" "B" := slot_ne (Or.inr (hw _ (List.mem_of_getElem? (i := 29) rfl))) (Or.inr (hw _ (List.mem_of_getElem? (i := 27) rfl))) (by decide) (t := .array .byte) (t' := .byte) (by decide) (by decide)
    refine WP.putfield (pc' := 57) (host := "") dSI4_54 (Or.inl (hw _ (List.mem_of_getElem? (i := 28) rfl))) Via.refl ((FV.keep K1 nin0).other W3 (Or.inr sne)) E3 (Or.inr ⟨(hw _ (List.mem_of_getElem? (i := 29) rfl)), rfl, rfl⟩) (hw _ (List.mem_of_getElem? (i := 2) rfl)) (ty := (.array .byte)) (by decide) rfl rfl hm (Or.inl (List.mem_singleton.mpr rfl)) rfl ?_
    intro h4 W4 V4 E4
    refine WP.vret dSI4_57 rfl ⟨rfl, rfl, t, ⟨E4, V4, ?_⟩, fun q => ?_⟩ (fun _ hx => nomatch hx) (fun _ hx => hx) (by dsimp only; omega) (by dsimp only; omega)
    · have T4 : ArI Z h4 t .byte xs := (T.other W3 hta).other W4 hta
      rcases hxs with ⟨q1, rfl⟩ | ⟨q1, rfl⟩
      · rw [if_pos q1] at C3
        exact Or.inl ⟨q1, C3.other W4 (Or.inr (Ne.symm sne)), T4⟩
      · rw [if_neg (by rw [q1]; decide)] at C3
        exact Or.inr ⟨q1, C3.other W4 (Or.inr (Ne.symm sne)), T4⟩
    · exact absurd (hmine t q).2 (Nat.not_lt.mpr ht)
theorem dSI1_0 : decode jdk_42_method_3_code 0 = .ok (.aload_n 0, 1) := by decide +kernel
theorem dSI1_1 : decode jdk_42_method_3_code 1 = .ok (.aload_n 1, 1) := by decide +kernel
theorem dSI1_2 : decode jdk_42_method_3_code 2 = .ok (.iconst 0, 1) := by decide +kernel
theorem dSI1_3 : decode jdk_42_method_3_code 3 = .ok (.aload_n 1, 1) := by decide +kernel
theorem dSI1_4 : decode jdk_42_method_3_code 4 = .ok (.arraylength, 1) := by decide +kernel
theorem dSI1_5 : decode jdk_42_method_3_code 5 = .ok (.aconst_null, 1) := by decide +kernel
theorem dSI1_6 : decode jdk_42_method_3_code 6 = .ok (.invokespecial 27, 3) := by decide +kernel
theorem dSI1_9 : decode jdk_42_method_3_code 9 = .ok (.return_, 1) := by decide +kernel
theorem pnSI1 : plainFor (⟨"java/lang/String", "<init>", "([C)V"⟩ : MethodName) = true := plainFor_of_name (by first | (simp [plainName, overriddenIn]; done) | decide +kernel)
set_option maxRecDepth 65536 in
set_option maxHeartbeats 40000000 in
theorem con_SI1 (hw : ∀ d ∈ tables_1, d.before a0 Z = true) {cz : Int32} (hc : Compact Z cz) {us : List UInt16} (hu : Hu Z us) {a b : Addr} {N : Nat} (hN : us.length ≤ N) (hn : N ≤ 33554432) (E : Exa Z h a ST) (FV : Fld Z h a ST "value" "[B" .null) (FC : Fld Z h a ST "coder" "B" (.int 0)) (A : ArI Z h b .char (us.map chv)) (hm : a ∈ mine) :
    Con (⟨"java/lang/String", "<init>", "([C)V"⟩ : MethodName) jdk_42_method_3_code 2 none { frames := 5, cells := 4, slots := 3 * N + 8, locals := 74 } Z LT [] #[.ref a, .ref b] h [a] mine (fun v h' nw => nw = [] ∧ v = none ∧ ∃ t, StrAt Z h' a t us ∧ t ∉ mine) := by
  refine Con.of pnSI1 (Ls := [.val (.ref a), .val (.ref b)]) (fun m => by first | (simp [entryFrame, mkF, argsToLocals, Value.category]; done) | (simp [entryFrame, mkF, argsToLocals, Value.category, maxLocals]; done) | rfl) ?_
  refine WP.aloadN (pc' := 1) dSI1_0 rfl rfl rfl ?_
  refine WP.aloadN (pc' := 2) dSI1_1 rfl rfl rfl ?_
  refine WP.iconst (pc' := 3) (x := 0) dSI1_2 (by decide) rfl ?_
  refine WP.aloadN (pc' := 4) dSI1_3 rfl rfl rfl ?_
  refine WP.arraylength (pc' := 5) dSI1_4 A (n := Int32.ofNat us.length) (by simp) rfl ?_
  refine WP.aconstNull (pc' := 6) dSI1_5 rfl ?_
  refine WP.callSp (pc' := 9) (con_SI4 hw hc hu hN hn E FV FC A hm) rfl (hw _ (List.mem_of_getElem? (i := 7) rfl)) (hw _ (List.mem_of_getElem? (i := 8) rfl)) (hw _ (List.mem_of_getElem? (i := 3) rfl)) (hw _ (List.mem_of_getElem? (i := 10) rfl)) dSI1_6 (by decide) pdx3 rfl rfl rfl (by first | exact Nat.le_of_ble_eq_true rfl | omega | (simp; done) | (simp; omega) | (dsimp only; omega)) (by first | exact Nat.le_of_ble_eq_true rfl | omega | (simp; done) | (simp; omega) | (dsimp only; omega)) (by first | exact Nat.le_of_ble_eq_true rfl | omega | (simp; done) | (simp; omega) | (dsimp only; omega)) (by first | exact Nat.le_of_ble_eq_true rfl | omega | (simp; done) | (simp; omega) | (dsimp only; omega)) (fun x hx => Or.inl hx) rfl ?_
  rintro v h1 nw K1 hnw ⟨rfl, rfl, t, S, ht⟩
  dsimp only [Option.toList, List.nil_append]
  exact WP.vret dSI1_9 rfl ⟨rfl, rfl, t, S, ht⟩ (fun _ hx => nomatch hx) (fun _ hx => hx) (by dsimp only; omega) (by dsimp only; omega)
end JdkStr
end Jvm.Pilot.@@N@@

namespace Jvm.Pilot.@@N@@
open Jvm Jvm.ClassFile Sem Op Lib Jvm.Free Jvm.Stand Jvm.LawKit Jvm.RoadKit Bundle Jvm.Pilot.@@N@@.Jvm.D Jvm.OwnW

section JdkEq
variable {Z : State} {a0 : Array Value} {h : Heap} {mine : List Addr}
theorem dEQ_0 : decode jdk_42_method_66_code 0 = .ok (.aload_n 0, 1) := by decide +kernel
theorem dEQ_1 : decode jdk_42_method_66_code 1 = .ok (.aload_n 1, 1) := by decide +kernel
theorem dEQ_2 : decode jdk_42_method_66_code 2 = .ok (.if_acmp .ne 5, 3) := by decide +kernel
theorem dEQ_5 : decode jdk_42_method_66_code 5 = .ok (.iconst 1, 1) := by decide +kernel
theorem dEQ_6 : decode jdk_42_method_66_code 6 = .ok (.ireturn, 1) := by decide +kernel
theorem dEQ_7 : decode jdk_42_method_66_code 7 = .ok (.aload_n 1, 1) := by decide +kernel
theorem dEQ_8 : decode jdk_42_method_66_code 8 = .ok (.instanceof 10, 3) := by decide +kernel
theorem dEQ_11 : decode jdk_42_method_66_code 11 = .ok (.ifCond .eq 43, 3) := by decide +kernel
theorem dEQ_14 : decode jdk_42_method_66_code 14 = .ok (.aload_n 1, 1) := by decide +kernel
theorem dEQ_15 : decode jdk_42_method_66_code 15 = .ok (.checkcast 10, 3) := by decide +kernel
theorem dEQ_18 : decode jdk_42_method_66_code 18 = .ok (.astore_n 2, 1) := by decide +kernel
theorem dEQ_19 : decode jdk_42_method_66_code 19 = .ok (.getstatic 38, 3) := by decide +kernel
theorem dEQ_22 : decode jdk_42_method_66_code 22 = .ok (.ifCond .eq 14, 3) := by decide +kernel
theorem dEQ_25 : decode jdk_42_method_66_code 25 = .ok (.aload_n 0, 1) := by decide +kernel
theorem dEQ_26 : decode jdk_42_method_66_code 26 = .ok (.getfield 15, 3) := by decide +kernel
theorem dEQ_29 : decode jdk_42_method_66_code 29 = .ok (.aload_n 2, 1) := by decide +kernel
theorem dEQ_30 : decode jdk_42_method_66_code 30 = .ok (.getfield 15, 3) := by decide +kernel
theorem dEQ_33 : decode jdk_42_method_66_code 33 = .ok (.if_icmp .ne 21, 3) := by decide +kernel
theorem dEQ_36 : decode jdk_42_method_66_code 36 = .ok (.aload_n 0, 1) := by decide +kernel
theorem dEQ_37 : decode jdk_42_method_66_code 37 = .ok (.getfield 9, 3) := by decide +kernel
theorem dEQ_40 : decode jdk_42_method_66_code 40 = .ok (.aload_n 2, 1) := by decide +kernel
theorem dEQ_41 : decode jdk_42_method_66_code 41 = .ok (.getfield 9, 3) := by decide +kernel
theorem dEQ_44 : decode jdk_42_method_66_code 44 = .ok (.invokestatic 541, 3) := by decide +kernel
theorem dEQ_47 : decode jdk_42_method_66_code 47 = .ok (.ifCond .eq 7, 3) := by decide +kernel
theorem dEQ_50 : decode jdk_42_method_66_code 50 = .ok (.iconst 1, 1) := by decide +kernel
theorem dEQ_51 : decode jdk_42_method_66_code 51 = .ok (.goto 4, 3) := by decide +kernel
theorem dEQ_54 : decode jdk_42_method_66_code 54 = .ok (.iconst 0, 1) := by decide +kernel
theorem dEQ_55 : decode jdk_42_method_66_code 55 = .ok (.ireturn, 1) := by decide +kernel
theorem pnEQ : plainFor (⟨"java/lang/String", "equals", "(Ljava/lang/Object;)Z"⟩ : MethodName) = true := plainFor_of_name (by first | (simp [plainName, overriddenIn]; done) | decide +kernel)
set_option maxRecDepth 65536 in
set_option maxHeartbeats 40000000 in
theorem con_EQs {a : Addr} : Con (⟨"java/lang/String", "equals", "(Ljava/lang/Object;)Z"⟩ : MethodName) jdk_42_method_66_code 3 (some .boolean) R0 Z LT [] #[.ref a, .ref a] h [] mine (fun v h' nw => nw = [] ∧ v = some (.int 1) ∧ h' = h) := by
  refine Con.of pnEQ (Ls := [.val (.ref a), .val (.ref a), .unset]) (fun m => by first | (simp [entryFrame, mkF, argsToLocals, Value.category]; done) | rfl) ?_
  refine WP.aloadN (pc' := 1) dEQ_0 rfl rfl rfl ?_
  refine WP.aloadN (pc' := 2) dEQ_1 rfl rfl rfl ?_
  refine WP.acmp (pc' := 5) dEQ_2 rfl rfl true (decide_eq_true rfl) (by decide) (by decide) ?_
  refine WP.iconst (pc' := 6) (x := 1) dEQ_5 (by decide) rfl ?_
  exact WP.ireturn dEQ_6 rfl (by simp) rfl ⟨rfl, rfl, rfl⟩ (fun _ hx => nomatch hx) (fun _ hx => hx) (Nat.le_refl _) (Nat.le_refl _)
end JdkEq
end Jvm.Pilot.@@N@@

namespace Jvm.Pilot.@@N@@
open Jvm Jvm.ClassFile Sem Op Lib Jvm.Free Jvm.Stand Jvm.LawKit Jvm.RoadKit Bundle Jvm.Pilot.@@N@@.Jvm.D Jvm.OwnW

section JdkIse
variable {Z : State} {a0 : Array Value} {h : Heap} {mine : List Addr}
theorem dISE_0 : decode jdk_42_method_55_code 0 = .ok (.aload_n 0, 1) := by decide +kernel
theorem dISE_1 : decode jdk_42_method_55_code 1 = .ok (.getfield 9, 3) := by decide +kernel
theorem dISE_4 : decode jdk_42_method_55_code 4 = .ok (.arraylength, 1) := by decide +kernel
theorem dISE_5 : decode jdk_42_method_55_code 5 = .ok (.ifCond .ne 7, 3) := by decide +kernel
theorem dISE_8 : decode jdk_42_method_55_code 8 = .ok (.iconst 1, 1) := by decide +kernel
theorem dISE_9 : decode jdk_42_method_55_code 9 = .ok (.goto 4, 3) := by decide +kernel
theorem dISE_12 : decode jdk_42_method_55_code 12 = .ok (.iconst 0, 1) := by decide +kernel
theorem dISE_13 : decode jdk_42_method_55_code 13 = .ok (.ireturn, 1) := by decide +kernel
theorem pnISE : plainFor (⟨"java/lang/String", "isEmpty", "()Z"⟩ : MethodName) = true := plainFor_of_name (by first | (simp [plainName, overriddenIn]; done) | decide +kernel)
set_option maxRecDepth 65536 in
set_option maxHeartbeats 40000000 in
theorem con_ISE (hw : ∀ d ∈ tables_1, d.before a0 Z = true) {a t : Addr} {xs : List Int32} (F : Fld Z h a ST "value" "[B" (.ref t)) (A : ArI Z h t .byte xs) : Con (⟨"java/lang/String", "isEmpty", "()Z"⟩ : MethodName) jdk_42_method_55_code 1 (some .boolean) R0 Z LT [] #[.ref a] h [] mine (fun v h' nw => nw = [] ∧ v = some (.int (if xs = [] then 1 else 0)) ∧ h' = h) := by
  have hl := A.len
  refine Con.of pnISE (Ls := [.val (.ref a)]) (fun m => by first | (simp [entryFrame, mkF, argsToLocals, Value.category]; done) | rfl) ?_
  refine WP.aloadN (pc' := 1) dISE_0 rfl rfl rfl ?_
  refine WP.getfield (pc' := 4) (host := "") dISE_1 (Or.inl (hw _ (List.mem_of_getElem? (i := 28) rfl))) Via.refl F rfl ?_
  refine WP.arraylength (pc' := 5) dISE_4 A rfl rfl ?_
  by_cases h0 : xs = []
  · subst h0
    refine WP.ifF (pc' := 8) dISE_5 rfl rfl ?_
    refine WP.iconst (pc' := 9) (x := 1) dISE_8 (by decide) rfl ?_
    refine WP.goto (pc' := 13) dISE_9 (by decide) (by decide) ?_
    exact WP.ireturn dISE_13 rfl (by simp) rfl ⟨rfl, rfl, rfl⟩ (fun _ hx => nomatch hx) (fun _ hx => hx) (Nat.le_refl _) (Nat.le_refl _)
  · refine WP.ifT (pc' := 12) dISE_5 (by decide) (by decide) (fun q => h0 (List.eq_nil_of_length_eq_zero ((n32_eq hl (by omega)).mp (show Int32.ofNat xs.length = Int32.ofNat 0 from q)))) ?_
    refine WP.iconst (pc' := 13) (x := 0) dISE_12 (by decide) rfl ?_
    exact WP.ireturn dISE_13 rfl (by simp) rfl ⟨rfl, by rw [if_neg h0], rfl⟩ (fun _ hx => nomatch hx) (fun _ hx => hx) (Nat.le_refl _) (Nat.le_refl _)
theorem byt_nil {us : List UInt16} : byt us = [] ↔ us = [] := by
  unfold byt
  split
  · simp
  · cases us <;> simp [b16]
end JdkIse
end Jvm.Pilot.@@N@@

namespace Jvm.Pilot.@@N@@
open Jvm Jvm.ClassFile Sem Op Lib Jvm.Free Jvm.Stand Jvm.LawKit Jvm.RoadKit Bundle Jvm.Pilot.@@N@@.Jvm.D Jvm.OwnW
theorem pdx4 : parseMethodDescriptor "()V" = some ⟨[], none⟩ := by decide +kernel
theorem pdx5 : parseMethodDescriptor "()Z" = some ⟨[], some .boolean⟩ := by decide +kernel
theorem pdx6 : parseMethodDescriptor "(Ljava/lang/String;Lcom/example/causeway_health/causewayhealth/convert/Delimiters;Lcom/example/causeway_health/causewayhealth/convert/V2Value$Level;)V" = some ⟨[(.object "java/lang/String"), (.object "com/example/causeway_health/causewayhealth/convert/Delimiters"), (.object "com/example/causeway_health/causewayhealth/convert/V2Value$Level")], none⟩ := by decide +kernel
theorem pdx7 : parseMethodDescriptor "()I" = some ⟨[], some .int⟩ := by decide +kernel
theorem pdx8 : parseMethodDescriptor "()Lcom/example/causeway_health/causewayhealth/convert/V2Value$Level;" = some ⟨[], some (.object "com/example/causeway_health/causewayhealth/convert/V2Value$Level")⟩ := by decide +kernel
theorem pdx9 : parseMethodDescriptor "([C)V" = some ⟨[(.array .char)], none⟩ := by decide +kernel
theorem pdx10 : parseMethodDescriptor "(CCCCC)V" = some ⟨[.char, .char, .char, .char, .char], none⟩ := by decide +kernel
theorem pdx11 : parseMethodDescriptor "(Ljava/lang/String;Lcom/example/causeway_health/causewayhealth/convert/Delimiters;)Lcom/example/causeway_health/causewayhealth/convert/V2Value;" = some ⟨[(.object "java/lang/String"), (.object "com/example/causeway_health/causewayhealth/convert/Delimiters")], some (.object "com/example/causeway_health/causewayhealth/convert/V2Value")⟩ := by decide +kernel
theorem pdx12 : parseMethodDescriptor "()Lcom/example/causeway_health/causewayhealth/convert/V2Value;" = some ⟨[], some (.object "com/example/causeway_health/causewayhealth/convert/V2Value")⟩ := by decide +kernel
theorem pdx13 : parseMethodDescriptor "()Ljava/lang/String;" = some ⟨[], some (.object "java/lang/String")⟩ := by decide +kernel
theorem pdx14 : parseMethodDescriptor "()Lcom/example/causeway_health/causewayhealth/convert/Delimiters;" = some ⟨[], some (.object "com/example/causeway_health/causewayhealth/convert/Delimiters")⟩ := by decide +kernel
theorem pdx15 : parseMethodDescriptor "(I)Lcom/example/causeway_health/causewayhealth/convert/V2Value;" = some ⟨[.int], some (.object "com/example/causeway_health/causewayhealth/convert/V2Value")⟩ := by decide +kernel
theorem pdx16 : parseMethodDescriptor "(Ljava/lang/Object;)Z" = some ⟨[(.object "java/lang/Object")], some .boolean⟩ := by decide +kernel
section LawBodies
variable {Z : State} {a0 : Array Value} {h : Heap} {mine : List Addr}
abbrev V2V : String := "com/example/causeway_health/causewayhealth/convert/V2Value"
abbrev LVL : String := "com/example/causeway_health/causewayhealth/convert/V2Value$Level"
abbrev DEL : String := "com/example/causeway_health/causewayhealth/convert/Delimiters"
theorem dREC_0 : decode jdk_30_method_1_code 0 = .ok (.aload_n 0, 1) := by decide +kernel
theorem dREC_1 : decode jdk_30_method_1_code 1 = .ok (.invokespecial 1, 3) := by decide +kernel
theorem dREC_4 : decode jdk_30_method_1_code 4 = .ok (.return_, 1) := by decide +kernel
theorem pnREC : plainFor (⟨"java/lang/Record", "<init>", "()V"⟩ : MethodName) = true := plainFor_of_name (by first | (simp [plainName, overriddenIn]; done) | decide +kernel)
set_option maxRecDepth 65536 in
set_option maxHeartbeats 40000000 in
theorem con_REC (hw : ∀ d ∈ tables_1, d.before a0 Z = true) {a : Addr} : Con (⟨"java/lang/Record", "<init>", "()V"⟩ : MethodName) jdk_30_method_1_code 1 none { frames := 1, cells := 0, slots := 0, locals := 12 } Z LT [] #[.ref a] h [] mine (fun v h' nw => nw = [] ∧ v = none ∧ h' = h) := by
  refine Con.of pnREC (Ls := [.val (.ref a)]) (fun m => by first | (simp [entryFrame, mkF, argsToLocals, Value.category]; done) | (simp [entryFrame, mkF, argsToLocals, Value.category, maxLocals]; done) | rfl) ?_
  refine WP.aloadN (pc' := 1) dREC_0 rfl rfl rfl ?_
  refine WP.initObj (pc' := 4) (W := 0) dREC_1 (hw _ (List.mem_of_getElem? (i := 42) rfl)) (hw _ (List.mem_of_getElem? (i := 12) rfl)) (hw _ (List.mem_of_getElem? (i := 13) rfl)) rfl (by first | exact Nat.le_of_ble_eq_true rfl | omega | (simp; done) | (simp; omega) | (dsimp only; omega)) (by first | exact Nat.le_of_ble_eq_true rfl | omega | (simp; done) | (simp; omega) | (dsimp only; omega)) (by first | exact Nat.le_of_ble_eq_true rfl | omega | (simp; done) | (simp; omega) | (dsimp only; omega)) rfl ?_
  exact WP.vret dREC_4 rfl ⟨rfl, rfl, rfl⟩ (fun _ hx => nomatch hx) (fun _ hx => hx) (by first | exact Nat.le_of_ble_eq_true rfl | omega) (by first | exact Nat.le_of_ble_eq_true rfl | omega)
theorem dDLI_0 : decode prog_18_method_1_code 0 = .ok (.aload_n 0, 1) := by decide +kernel
theorem dDLI_1 : decode prog_18_method_1_code 1 = .ok (.invokespecial 1, 3) := by decide +kernel
theorem dDLI_4 : decode prog_18_method_1_code 4 = .ok (.aload_n 0, 1) := by decide +kernel
theorem dDLI_5 : decode prog_18_method_1_code 5 = .ok (.iload_n 1, 1) := by decide +kernel
theorem dDLI_6 : decode prog_18_method_1_code 6 = .ok (.putfield 7, 3) := by decide +kernel
theorem dDLI_9 : decode prog_18_method_1_code 9 = .ok (.aload_n 0, 1) := by decide +kernel
theorem dDLI_10 : decode prog_18_method_1_code 10 = .ok (.iload_n 2, 1) := by decide +kernel
theorem dDLI_11 : decode prog_18_method_1_code 11 = .ok (.putfield 13, 3) := by decide +kernel
theorem dDLI_14 : decode prog_18_method_1_code 14 = .ok (.aload_n 0, 1) := by decide +kernel
theorem dDLI_15 : decode prog_18_method_1_code 15 = .ok (.iload_n 3, 1) := by decide +kernel
theorem dDLI_16 : decode prog_18_method_1_code 16 = .ok (.putfield 16, 3) := by decide +kernel
theorem dDLI_19 : decode prog_18_method_1_code 19 = .ok (.aload_n 0, 1) := by decide +kernel
theorem dDLI_20 : decode prog_18_method_1_code 20 = .ok (.iload 4, 2) := by decide +kernel
theorem dDLI_22 : decode prog_18_method_1_code 22 = .ok (.putfield 19, 3) := by decide +kernel
theorem dDLI_25 : decode prog_18_method_1_code 25 = .ok (.aload_n 0, 1) := by decide +kernel
theorem dDLI_26 : decode prog_18_method_1_code 26 = .ok (.iload 5, 2) := by decide +kernel
theorem dDLI_28 : decode prog_18_method_1_code 28 = .ok (.putfield 22, 3) := by decide +kernel
theorem dDLI_31 : decode prog_18_method_1_code 31 = .ok (.return_, 1) := by decide +kernel
theorem pnDLI : plainFor (⟨"com/example/causeway_health/causewayhealth/convert/Delimiters", "<init>", "(CCCCC)V"⟩ : MethodName) = true := plainFor_of_name (by first | (simp [plainName, overriddenIn]; done) | decide +kernel)
set_option maxRecDepth 65536 in
set_option maxHeartbeats 40000000 in
theorem con_DLI (hw : ∀ d ∈ tables_1, d.before a0 Z = true) {a : Addr} (E : Exa Z h a DEL) (F1 : ∃ v, Fld Z h a DEL "field" "C" v) (F2 : ∃ v, Fld Z h a DEL "component" "C" v) (F3 : ∃ v, Fld Z h a DEL "repetition" "C" v) (F4 : ∃ v, Fld Z h a DEL "escape" "C" v) (F5 : ∃ v, Fld Z h a DEL "subcomponent" "C" v) (hm : a ∈ mine) :
    Con (⟨"com/example/causeway_health/causewayhealth/convert/Delimiters", "<init>", "(CCCCC)V"⟩ : MethodName) prog_18_method_1_code 6 none { frames := 2, cells := 0, slots := 0, locals := 24 } Z LT [] #[.ref a, .int 124, .int 94, .int 126, .int 92, .int 38] h [a] mine (fun v h' nw => nw = [] ∧ v = none) := by
  have ws : a ∈ [a] ∨ h.size ≤ a := Or.inl (List.mem_singleton.mpr rfl)
  refine Con.of pnDLI (Ls := [.val (.ref a), .val (.int 124), .val (.int 94), .val (.int 126), .val (.int 92), .val (.int 38)]) (fun m => by first | (simp [entryFrame, mkF, argsToLocals, Value.category]; done) | (simp [entryFrame, mkF, argsToLocals, Value.category, maxLocals]; done) | rfl) ?_
  refine WP.aloadN (pc' := 1) dDLI_0 rfl rfl rfl ?_
  refine WP.callSp (pc' := 4) (con_REC hw) rfl (hw _ (List.mem_of_getElem? (i := 37) rfl)) (hw _ (List.mem_of_getElem? (i := 38) rfl)) (hw _ (List.mem_of_getElem? (i := 40) rfl)) (hw _ (List.mem_of_getElem? (i := 41) rfl)) dDLI_1 (by decide) pdx4 rfl rfl rfl (by first | exact Nat.le_of_ble_eq_true rfl | omega | (simp; done) | (simp; omega) | (dsimp only; omega)) (by first | exact Nat.le_of_ble_eq_true rfl | omega | (simp; done) | (simp; omega) | (dsimp only; omega)) (by first | exact Nat.le_of_ble_eq_true rfl | omega | (simp; done) | (simp; omega) | (dsimp only; omega)) (by first | exact Nat.le_of_ble_eq_true rfl | omega | (simp; done) | (simp; omega) | (dsimp only; omega)) (fun _ hx => nomatch hx) rfl ?_
  rintro v h' nw K hnw ⟨rfl, rfl, rfl⟩
  dsimp only [Option.toList, List.nil_append]
  refine WP.aloadN (pc' := 5) dDLI_4 rfl rfl rfl ?_
  refine WP.iloadN (pc' := 6) dDLI_5 rfl rfl ?_
  obtain ⟨v1, G1⟩ := F1
  refine WP.putfield (pc' := 9) (host := "") dDLI_6 (Or.inl (hw _ (List.mem_of_getElem? (i := 43) rfl))) Via.refl G1 E (Or.inr ⟨(hw _ (List.mem_of_getElem? (i := 44) rfl)), rfl, rfl⟩) (hw _ (List.mem_of_getElem? (i := 32) rfl)) (ty := .char) (by decide) rfl rfl hm ws rfl ?_
  intro h1 W1 _ E1
  refine WP.aloadN (pc' := 10) dDLI_9 rfl rfl rfl ?_
  refine WP.iloadN (pc' := 11) dDLI_10 rfl rfl ?_
  obtain ⟨v2, G2⟩ := fld_some F2 W1
  refine WP.putfield (pc' := 14) (host := "") dDLI_11 (Or.inl (hw _ (List.mem_of_getElem? (i := 45) rfl))) Via.refl G2 E1 (Or.inr ⟨(hw _ (List.mem_of_getElem? (i := 46) rfl)), rfl, rfl⟩) (hw _ (List.mem_of_getElem? (i := 32) rfl)) (ty := .char) (by decide) rfl rfl hm ws rfl ?_
  intro h2 W2 _ E2
  refine WP.aloadN (pc' := 15) dDLI_14 rfl rfl rfl ?_
  refine WP.iloadN (pc' := 16) dDLI_15 rfl rfl ?_
  obtain ⟨v3, G3⟩ := fld_some (fld_some F3 W1) W2
  refine WP.putfield (pc' := 19) (host := "") dDLI_16 (Or.inl (hw _ (List.mem_of_getElem? (i := 47) rfl))) Via.refl G3 E2 (Or.inr ⟨(hw _ (List.mem_of_getElem? (i := 48) rfl)), rfl, rfl⟩) (hw _ (List.mem_of_getElem? (i := 32) rfl)) (ty := .char) (by decide) rfl rfl hm ws rfl ?_
  intro h3 W3 _ E3
  refine WP.aloadN (pc' := 20) dDLI_19 rfl rfl rfl ?_
  refine WP.iload (pc' := 22) dDLI_20 rfl rfl ?_
  obtain ⟨v4, G4⟩ := fld_some (fld_some (fld_some F4 W1) W2) W3
  refine WP.putfield (pc' := 25) (host := "") dDLI_22 (Or.inl (hw _ (List.mem_of_getElem? (i := 49) rfl))) Via.refl G4 E3 (Or.inr ⟨(hw _ (List.mem_of_getElem? (i := 50) rfl)), rfl, rfl⟩) (hw _ (List.mem_of_getElem? (i := 32) rfl)) (ty := .char) (by decide) rfl rfl hm ws rfl ?_
  intro h4 W4 _ E4
  refine WP.aloadN (pc' := 26) dDLI_25 rfl rfl rfl ?_
  refine WP.iload (pc' := 28) dDLI_26 rfl rfl ?_
  obtain ⟨v5, G5⟩ := fld_some (fld_some (fld_some (fld_some F5 W1) W2) W3) W4
  refine WP.putfield (pc' := 31) (host := "") dDLI_28 (Or.inl (hw _ (List.mem_of_getElem? (i := 51) rfl))) Via.refl G5 E4 (Or.inr ⟨(hw _ (List.mem_of_getElem? (i := 52) rfl)), rfl, rfl⟩) (hw _ (List.mem_of_getElem? (i := 32) rfl)) (ty := .char) (by decide) rfl rfl hm ws rfl ?_
  intro h5 W5 _ E5
  exact WP.vret dDLI_31 rfl ⟨rfl, rfl⟩ (fun _ hx => nomatch hx) (fun _ hx => hx) (by first | exact Nat.le_of_ble_eq_true rfl | omega) (by first | exact Nat.le_of_ble_eq_true rfl | omega)
/-- a value with its text, its delimiters and its level -/
def V2 (Z : State) (h : Heap) (a r : Addr) (vd : Value) (l : Addr) : Prop := Exa Z h a V2V ∧ Fld Z h a V2V "raw" "Ljava/lang/String;" (.ref r) ∧ Fld Z h a V2V "delimiters" "Lcom/example/causeway_health/causewayhealth/convert/Delimiters;" vd ∧ Fld Z h a V2V "level" "Lcom/example/causeway_health/causewayhealth/convert/V2Value$Level;" (.ref l)
theorem V2.ext {h' : Heap} {a r l : Addr} {vd : Value} (S : V2 Z h a r vd l) (E : Ext h h') : V2 Z h' a r vd l := ⟨S.1.ext E, S.2.1.ext E, S.2.2.1.ext E, S.2.2.2.ext E⟩
theorem dVI_0 : decode prog_45_method_1_code 0 = .ok (.aload_n 0, 1) := by decide +kernel
theorem dVI_1 : decode prog_45_method_1_code 1 = .ok (.invokespecial 1, 3) := by decide +kernel
theorem dVI_4 : decode prog_45_method_1_code 4 = .ok (.aload_n 0, 1) := by decide +kernel
theorem dVI_5 : decode prog_45_method_1_code 5 = .ok (.aload_n 1, 1) := by decide +kernel
theorem dVI_6 : decode prog_45_method_1_code 6 = .ok (.putfield 7, 3) := by decide +kernel
theorem dVI_9 : decode prog_45_method_1_code 9 = .ok (.aload_n 0, 1) := by decide +kernel
theorem dVI_10 : decode prog_45_method_1_code 10 = .ok (.aload_n 2, 1) := by decide +kernel
theorem dVI_11 : decode prog_45_method_1_code 11 = .ok (.putfield 13, 3) := by decide +kernel
theorem dVI_14 : decode prog_45_method_1_code 14 = .ok (.aload_n 0, 1) := by decide +kernel
theorem dVI_15 : decode prog_45_method_1_code 15 = .ok (.aload_n 3, 1) := by decide +kernel
theorem dVI_16 : decode prog_45_method_1_code 16 = .ok (.putfield 17, 3) := by decide +kernel
theorem dVI_19 : decode prog_45_method_1_code 19 = .ok (.return_, 1) := by decide +kernel
theorem pnVI : plainFor (⟨"com/example/causeway_health/causewayhealth/convert/V2Value", "<init>", "(Ljava/lang/String;Lcom/example/causeway_health/causewayhealth/convert/Delimiters;Lcom/example/causeway_health/causewayhealth/convert/V2Value$Level;)V"⟩ : MethodName) = true := plainFor_of_name (by first | (simp [plainName, overriddenIn]; done) | decide +kernel)
set_option maxRecDepth 65536 in
set_option maxHeartbeats 40000000 in
theorem con_VI (hw : ∀ d ∈ tables_1, d.before a0 Z = true) {a r d l : Addr} (E : Exa Z h a V2V) (F1 : Fld Z h a V2V "raw" "Ljava/lang/String;" .null) (F2 : Fld Z h a V2V "delimiters" "Lcom/example/causeway_health/causewayhealth/convert/Delimiters;" .null) (F3 : Fld Z h a V2V "level" "Lcom/example/causeway_health/causewayhealth/convert/V2Value$Level;" .null) (hm : a ∈ mine) :
    Con (⟨"com/example/causeway_health/causewayhealth/convert/V2Value", "<init>", "(Ljava/lang/String;Lcom/example/causeway_health/causewayhealth/convert/Delimiters;Lcom/example/causeway_health/causewayhealth/convert/V2Value$Level;)V"⟩ : MethodName) prog_45_method_1_code 4 none { frames := 1, cells := 0, slots := 0, locals := 12 } Z LT [] #[.ref a, .ref r, .ref d, .ref l] h [a] mine (fun v h' nw => nw = [] ∧ v = none ∧ V2 Z h' a r (.ref d) l) := by
  have ws : a ∈ [a] ∨ h.size ≤ a := Or.inl (List.mem_singleton.mpr rfl)
  have n12 : Jvm.RoadKit.slotOf Z V2V "delimiters" "Lcom/example/causeway_health/causewayhealth/convert/Delimiters;" ≠ Jvm.RoadKit.slotOf Z V2V "raw" "Ljava/lang/String;" := slot_ne (Or.inr (hw _ (List.mem_of_getElem? (i := 74) rfl))) (Or.inr (hw _ (List.mem_of_getElem? (i := 72) rfl))) (by decide) (t := .object "com/example/causeway_health/causewayhealth/convert/Delimiters") (t' := .object "java/lang/String") (by decide) (by decide)
  have n13 : Jvm.RoadKit.slotOf Z V2V "level" "Lcom/example/causeway_health/causewayhealth/convert/V2Value$Level;" ≠ Jvm.RoadKit.slotOf Z V2V "raw" "Ljava/lang/String;" := slot_ne (Or.inr (hw _ (List.mem_of_getElem? (i := 76) rfl))) (Or.inr (hw _ (List.mem_of_getElem? (i := 72) rfl))) (by decide) (t := .object "com/example/causeway_health/causewayhealth/convert/V2Value$Level") (t' := .object "java/lang/String") (by decide) (by decide)
  have n23 : Jvm.RoadKit.slotOf Z V2V "level" "Lcom/example/causeway_health/causewayhealth/convert/V2Value$Level;" ≠ Jvm.RoadKit.slotOf Z V2V "delimiters" "Lcom/example/causeway_health/causewayhealth/convert/Delimiters;" := slot_ne (Or.inr (hw _ (List.mem_of_getElem? (i := 76) rfl))) (Or.inr (hw _ (List.mem_of_getElem? (i := 74) rfl))) (by decide) (t := .object "com/example/causeway_health/causewayhealth/convert/V2Value$Level") (t' := .object "com/example/causeway_health/causewayhealth/convert/Delimiters") (by decide) (by decide)
  refine Con.of pnVI (Ls := [.val (.ref a), .val (.ref r), .val (.ref d), .val (.ref l)]) (fun m => by first | (simp [entryFrame, mkF, argsToLocals, Value.category]; done) | (simp [entryFrame, mkF, argsToLocals, Value.category, maxLocals]; done) | rfl) ?_
  refine WP.aloadN (pc' := 1) dVI_0 rfl rfl rfl ?_
  refine WP.initObj (pc' := 4) (W := 0) dVI_1 (hw _ (List.mem_of_getElem? (i := 70) rfl)) (hw _ (List.mem_of_getElem? (i := 12) rfl)) (hw _ (List.mem_of_getElem? (i := 13) rfl)) rfl (by first | exact Nat.le_of_ble_eq_true rfl | omega | (simp; done) | (simp; omega) | (dsimp only; omega)) (by first | exact Nat.le_of_ble_eq_true rfl | omega | (simp; done) | (simp; omega) | (dsimp only; omega)) (by first | exact Nat.le_of_ble_eq_true rfl | omega | (simp; done) | (simp; omega) | (dsimp only; omega)) rfl ?_
  refine WP.aloadN (pc' := 5) dVI_4 rfl rfl rfl ?_
  refine WP.aloadN (pc' := 6) dVI_5 rfl rfl rfl ?_
  refine WP.putfield (pc' := 9) (host := "") dVI_6 (Or.inl (hw _ (List.mem_of_getElem? (i := 71) rfl))) Via.refl F1 E (Or.inr ⟨(hw _ (List.mem_of_getElem? (i := 72) rfl)), rfl, rfl⟩) (hw _ (List.mem_of_getElem? (i := 63) rfl)) (ty := (.object "java/lang/String")) (by decide) rfl rfl hm ws rfl ?_
  intro h1 W1 G1 E1
  refine WP.aloadN (pc' := 10) dVI_9 rfl rfl rfl ?_
  refine WP.aloadN (pc' := 11) dVI_10 rfl rfl rfl ?_
  refine WP.putfield (pc' := 14) (host := "") dVI_11 (Or.inl (hw _ (List.mem_of_getElem? (i := 73) rfl))) Via.refl (F2.other W1 (Or.inr n12)) E1 (Or.inr ⟨(hw _ (List.mem_of_getElem? (i := 74) rfl)), rfl, rfl⟩) (hw _ (List.mem_of_getElem? (i := 63) rfl)) (ty := (.object "com/example/causeway_health/causewayhealth/convert/Delimiters")) (by decide) rfl rfl hm ws rfl ?_
  intro h2 W2 G2 E2
  refine WP.aloadN (pc' := 15) dVI_14 rfl rfl rfl ?_
  refine WP.aloadN (pc' := 16) dVI_15 rfl rfl rfl ?_
  refine WP.putfield (pc' := 19) (host := "") dVI_16 (Or.inl (hw _ (List.mem_of_getElem? (i := 75) rfl))) Via.refl ((F3.other W1 (Or.inr n13)).other W2 (Or.inr n23)) E2 (Or.inr ⟨(hw _ (List.mem_of_getElem? (i := 76) rfl)), rfl, rfl⟩) (hw _ (List.mem_of_getElem? (i := 63) rfl)) (ty := (.object "com/example/causeway_health/causewayhealth/convert/V2Value$Level")) (by decide) rfl rfl hm ws rfl ?_
  intro h3 W3 G3 E3
  exact WP.vret dVI_19 rfl ⟨rfl, rfl, E3, (G1.other W2 (Or.inr (Ne.symm n12))).other W3 (Or.inr (Ne.symm n13)), G2.other W3 (Or.inr (Ne.symm n23)), G3⟩ (fun _ hx => nomatch hx) (fun _ hx => hx) (by first | exact Nat.le_of_ble_eq_true rfl | omega) (by first | exact Nat.le_of_ble_eq_true rfl | omega)
theorem dWH_0 : decode prog_45_method_3_code 0 = .ok (.aload_n 0, 1) := by decide +kernel
theorem dWH_1 : decode prog_45_method_3_code 1 = .ok (.invokevirtual 24, 3) := by decide +kernel
theorem dWH_4 : decode prog_45_method_3_code 4 = .ok (.ifCond .eq 9, 3) := by decide +kernel
theorem dWH_7 : decode prog_45_method_3_code 7 = .ok (.getstatic 55, 3) := by decide +kernel
theorem dWH_10 : decode prog_45_method_3_code 10 = .ok (.goto 15, 3) := by decide +kernel
theorem dWH_13 : decode prog_45_method_3_code 13 = .ok (.new 8, 3) := by decide +kernel
theorem dWH_16 : decode prog_45_method_3_code 16 = .ok (.dup, 1) := by decide +kernel
theorem dWH_17 : decode prog_45_method_3_code 17 = .ok (.aload_n 0, 1) := by decide +kernel
theorem dWH_18 : decode prog_45_method_3_code 18 = .ok (.aload_n 1, 1) := by decide +kernel
theorem dWH_19 : decode prog_45_method_3_code 19 = .ok (.getstatic 75, 3) := by decide +kernel
theorem dWH_22 : decode prog_45_method_3_code 22 = .ok (.invokespecial 64, 3) := by decide +kernel
theorem dWH_25 : decode prog_45_method_3_code 25 = .ok (.areturn, 1) := by decide +kernel
theorem pnWH : plainFor (⟨"com/example/causeway_health/causewayhealth/convert/V2Value", "whole", "(Ljava/lang/String;Lcom/example/causeway_health/causewayhealth/convert/Delimiters;)Lcom/example/causeway_health/causewayhealth/convert/V2Value;"⟩ : MethodName) = true := plainFor_of_name (by first | (simp [plainName, overriddenIn]; done) | decide +kernel)
set_option maxRecDepth 65536 in
set_option maxHeartbeats 40000000 in
theorem con_WH (hw : ∀ d ∈ tables_1, d.before a0 Z = true) {s t d l em : Addr} {us : List UInt16} (SL : Sta Z Z.heap LVL "SUBCOMPONENT" "Lcom/example/causeway_health/causewayhealth/convert/V2Value$Level;" (.ref l)) (SE : Sta Z Z.heap V2V "EMPTY" "Lcom/example/causeway_health/causewayhealth/convert/V2Value;" (.ref em)) (S : StrAt Z h s t us) :
    Con (⟨"com/example/causeway_health/causewayhealth/convert/V2Value", "whole", "(Ljava/lang/String;Lcom/example/causeway_health/causewayhealth/convert/Delimiters;)Lcom/example/causeway_health/causewayhealth/convert/V2Value;"⟩ : MethodName) prog_45_method_3_code 2 (some (.object "com/example/causeway_health/causewayhealth/convert/V2Value")) { frames := 2, cells := 1, slots := 4, locals := 40 } Z LT [] #[.ref s, .ref d] h [] mine (fun v h' nw => nw = [] ∧ ((us = [] ∧ v = some (.ref em)) ∨ (us ≠ [] ∧ ∃ a, v = some (.ref a) ∧ h.size ≤ a ∧ V2 Z h' a s (.ref d) l))) := by
  obtain ⟨e1, v1, c1, b1⟩ := S.open
  refine Con.of pnWH (Ls := [.val (.ref s), .val (.ref d)]) (fun m => by first | (simp [entryFrame, mkF, argsToLocals, Value.category]; done) | (simp [entryFrame, mkF, argsToLocals, Value.category, maxLocals]; done) | rfl) ?_
  refine WP.aloadN (pc' := 1) dWH_0 rfl rfl rfl ?_
  refine WP.callV (pc' := 4) (con_ISE hw v1 b1) e1 (hw _ (List.mem_of_getElem? (i := 57) rfl)) (hw _ (List.mem_of_getElem? (i := 58) rfl)) (fun s hs => notFace_of_selects (args := #[]) (mv hs (hw _ (List.mem_of_getElem? (i := 60) rfl)))) (hw _ (List.mem_of_getElem? (i := 60) rfl)) (hw _ (List.mem_of_getElem? (i := 59) rfl)) (hw _ (List.mem_of_getElem? (i := 3) rfl)) (hw _ (List.mem_of_getElem? (i := 61) rfl)) dWH_1 (by decide) pdx5 rfl rfl rfl (by first | exact Nat.le_of_ble_eq_true rfl | omega | (simp; done) | (simp; omega) | (dsimp only; omega)) (by first | exact Nat.le_of_ble_eq_true rfl | omega | (simp; done) | (simp; omega) | (dsimp only; omega)) (by first | exact Nat.le_of_ble_eq_true rfl | omega | (simp; done) | (simp; omega) | (dsimp only; omega)) (by first | exact Nat.le_of_ble_eq_true rfl | omega | (simp; done) | (simp; omega) | (dsimp only; omega)) (fun _ hx => nomatch hx) rfl ?_
  rintro v h' nw K hnw ⟨rfl, rfl, rfl⟩
  dsimp only [Option.toList, List.cons_append, List.nil_append]
  by_cases h0 : us = []
  · rw [if_pos (byt_nil.mpr h0)]
    refine WP.ifF (pc' := 7) dWH_4 rfl (show ¬ (1 : Int32) = 0 by decide) ?_
    refine WP.getstatic (pc' := 10) (host := "") dWH_7 (Or.inl (hw _ (List.mem_of_getElem? (i := 80) rfl))) Via.refl SE rfl ?_
    refine WP.goto (pc' := 25) dWH_10 (by decide) (by decide) ?_
    exact WP.areturn dWH_25 rfl rfl rfl ⟨rfl, Or.inl ⟨h0, rfl⟩⟩ (fun _ hx => nomatch hx) (fun _ hx => hx) (by first | exact Nat.le_of_ble_eq_true rfl | omega) (by first | exact Nat.le_of_ble_eq_true rfl | omega)
  · rw [if_neg (fun q => h0 (byt_nil.mp q))]
    refine WP.ifT (pc' := 13) dWH_4 (by decide) (by decide) rfl ?_
    refine WP.new (pc' := 16) dWH_13 (hw _ (List.mem_of_getElem? (i := 62) rfl)) (hw _ (List.mem_of_getElem? (i := 63) rfl)) (hw _ (List.mem_of_getElem? (i := 55) rfl)) (by first | exact Nat.le_of_ble_eq_true rfl | omega | (simp; done) | (simp; omega) | (dsimp only; omega)) (by first | exact Nat.le_of_ble_eq_true rfl | omega | (simp; done) | (simp; omega) | (dsimp only; omega)) rfl ?_
    intro h1 a ea na ma E1 X D
    have F1 : Fld Z h1 a V2V "raw" "Ljava/lang/String;" .null := D (Or.inr (hw _ (List.mem_of_getElem? (i := 72) rfl))) (ty := .object "java/lang/String") (by decide)
    have F2 : Fld Z h1 a V2V "delimiters" "Lcom/example/causeway_health/causewayhealth/convert/Delimiters;" .null := D (Or.inr (hw _ (List.mem_of_getElem? (i := 74) rfl))) (ty := .object "com/example/causeway_health/causewayhealth/convert/Delimiters") (by decide)
    have F3 : Fld Z h1 a V2V "level" "Lcom/example/causeway_health/causewayhealth/convert/V2Value$Level;" .null := D (Or.inr (hw _ (List.mem_of_getElem? (i := 76) rfl))) (ty := .object "com/example/causeway_health/causewayhealth/convert/V2Value$Level") (by decide)
    refine WP.dup (pc' := 17) dWH_16 rfl rfl ?_
    refine WP.aloadN (pc' := 18) dWH_17 rfl rfl rfl ?_
    refine WP.aloadN (pc' := 19) dWH_18 rfl rfl rfl ?_
    refine WP.getstatic (pc' := 22) (host := "") dWH_19 (Or.inl (hw _ (List.mem_of_getElem? (i := 64) rfl))) Via.refl SL rfl ?_
    refine WP.callSp (pc' := 25) (con_VI hw X F1 F2 F3 (List.mem_cons_self ..)) rfl (hw _ (List.mem_of_getElem? (i := 67) rfl)) (hw _ (List.mem_of_getElem? (i := 68) rfl)) (hw _ (List.mem_of_getElem? (i := 55) rfl)) (hw _ (List.mem_of_getElem? (i := 69) rfl)) dWH_22 (by decide) pdx6 rfl rfl rfl (by first | exact Nat.le_of_ble_eq_true rfl | omega | (simp; done) | (simp; omega) | (dsimp only; omega)) (by first | exact Nat.le_of_ble_eq_true rfl | omega | (simp; done) | (simp; omega) | (dsimp only; omega)) (by first | exact Nat.le_of_ble_eq_true rfl | omega | (simp; done) | (simp; omega) | (dsimp only; omega)) (by first | exact Nat.le_of_ble_eq_true rfl | omega | (simp; done) | (simp; omega) | (dsimp only; omega)) (fun x hx => by cases List.mem_singleton.mp hx; exact Or.inr ma) rfl ?_
    rintro v h2 nw K2 hnw2 ⟨rfl, rfl, P⟩
    dsimp only [Option.toList, List.cons_append, List.nil_append]
    exact WP.areturn dWH_25 rfl rfl rfl ⟨rfl, Or.inr ⟨h0, a, rfl, ma, P⟩⟩ (fun _ hx => nomatch hx) (fun x hx => List.mem_cons_of_mem _ hx) (by first | exact Nat.le_of_ble_eq_true rfl | omega) (by first | exact Nat.le_of_ble_eq_true rfl | omega)
theorem dEM_0 : decode prog_45_method_4_code 0 = .ok (.getstatic 55, 3) := by decide +kernel
theorem dEM_3 : decode prog_45_method_4_code 3 = .ok (.areturn, 1) := by decide +kernel
theorem pnEM : plainFor (⟨"com/example/causeway_health/causewayhealth/convert/V2Value", "empty", "()Lcom/example/causeway_health/causewayhealth/convert/V2Value;"⟩ : MethodName) = true := plainFor_of_name (by first | (simp [plainName, overriddenIn]; done) | decide +kernel)
set_option maxRecDepth 65536 in
set_option maxHeartbeats 40000000 in
theorem con_EM (hw : ∀ d ∈ tables_1, d.before a0 Z = true) {em : Addr} (SE : Sta Z Z.heap V2V "EMPTY" "Lcom/example/causeway_health/causewayhealth/convert/V2Value;" (.ref em)) : Con (⟨"com/example/causeway_health/causewayhealth/convert/V2Value", "empty", "()Lcom/example/causeway_health/causewayhealth/convert/V2Value;"⟩ : MethodName) prog_45_method_4_code 0 (some (.object "com/example/causeway_health/causewayhealth/convert/V2Value")) R0 Z LT [] #[] h [] mine (fun v h' nw => nw = [] ∧ v = some (.ref em) ∧ h' = h) := by
  refine Con.of pnEM (Ls := []) (fun m => by first | (simp [entryFrame, mkF, argsToLocals, Value.category]; done) | (simp [entryFrame, mkF, argsToLocals, Value.category, maxLocals]; done) | rfl) ?_
  refine WP.getstatic (pc' := 3) (host := "") dEM_0 (Or.inl (hw _ (List.mem_of_getElem? (i := 80) rfl))) Via.refl SE rfl ?_
  exact WP.areturn dEM_3 rfl rfl rfl ⟨rfl, rfl, rfl⟩ (fun _ hx => nomatch hx) (fun _ hx => hx) (by first | exact Nat.le_of_ble_eq_true rfl | omega) (by first | exact Nat.le_of_ble_eq_true rfl | omega)
theorem dORD_0 : decode jdk_37_method_2_code 0 = .ok (.aload_n 0, 1) := by decide +kernel
theorem dORD_1 : decode jdk_37_method_2_code 1 = .ok (.getfield 7, 3) := by decide +kernel
theorem dORD_4 : decode jdk_37_method_2_code 4 = .ok (.ireturn, 1) := by decide +kernel
theorem pnORD : plainFor (⟨"java/lang/Enum", "ordinal", "()I"⟩ : MethodName) = true := plainFor_of_name (by first | (simp [plainName, overriddenIn]; done) | decide +kernel)
set_option maxRecDepth 65536 in
set_option maxHeartbeats 40000000 in
theorem con_ORD (hw : ∀ d ∈ tables_1, d.before a0 Z = true) {l : Addr} (F : Fld Z h l "java/lang/Enum" "ordinal" "I" (.int 2)) : Con (⟨"java/lang/Enum", "ordinal", "()I"⟩ : MethodName) jdk_37_method_2_code 1 (some .int) R0 Z LT [] #[.ref l] h [] mine (fun v h' nw => nw = [] ∧ v = some (.int 2) ∧ h' = h) := by
  refine Con.of pnORD (Ls := [.val (.ref l)]) (fun m => by first | (simp [entryFrame, mkF, argsToLocals, Value.category]; done) | (simp [entryFrame, mkF, argsToLocals, Value.category, maxLocals]; done) | rfl) ?_
  refine WP.aloadN (pc' := 1) dORD_0 rfl rfl rfl ?_
  refine WP.getfield (pc' := 4) (host := "") dORD_1 (Or.inl (hw _ (List.mem_of_getElem? (i := 99) rfl))) Via.refl F rfl ?_
  exact WP.ireturn dORD_4 rfl (by simp) rfl ⟨rfl, rfl, rfl⟩ (fun _ hx => nomatch hx) (fun _ hx => hx) (by first | exact Nat.le_of_ble_eq_true rfl | omega) (by first | exact Nat.le_of_ble_eq_true rfl | omega)
theorem dBEL_0 : decode prog_46_method_4_code 0 = .ok (.aload_n 0, 1) := by decide +kernel
theorem dBEL_1 : decode prog_46_method_4_code 1 = .ok (.invokevirtual 32, 3) := by decide +kernel
theorem dBEL_4 : decode prog_46_method_4_code 4 = .ok (.tableswitch 28 0 2 #[38, 44, 50], 28) := by decide +kernel
theorem dBEL_32 : decode prog_46_method_4_code 32 = .ok (.new 36, 3) := by decide +kernel
theorem dBEL_35 : decode prog_46_method_4_code 35 = .ok (.dup, 1) := by decide +kernel
theorem dBEL_36 : decode prog_46_method_4_code 36 = .ok (.aconst_null, 1) := by decide +kernel
theorem dBEL_37 : decode prog_46_method_4_code 37 = .ok (.aconst_null, 1) := by decide +kernel
theorem dBEL_38 : decode prog_46_method_4_code 38 = .ok (.invokespecial 38, 3) := by decide +kernel
theorem dBEL_41 : decode prog_46_method_4_code 41 = .ok (.athrow, 1) := by decide +kernel
theorem dBEL_42 : decode prog_46_method_4_code 42 = .ok (.getstatic 7, 3) := by decide +kernel
theorem dBEL_45 : decode prog_46_method_4_code 45 = .ok (.goto 10, 3) := by decide +kernel
theorem dBEL_48 : decode prog_46_method_4_code 48 = .ok (.getstatic 10, 3) := by decide +kernel
theorem dBEL_51 : decode prog_46_method_4_code 51 = .ok (.goto 4, 3) := by decide +kernel
theorem dBEL_54 : decode prog_46_method_4_code 54 = .ok (.aconst_null, 1) := by decide +kernel
theorem dBEL_55 : decode prog_46_method_4_code 55 = .ok (.areturn, 1) := by decide +kernel
theorem pnBEL : plainFor (⟨"com/example/causeway_health/causewayhealth/convert/V2Value$Level", "below", "()Lcom/example/causeway_health/causewayhealth/convert/V2Value$Level;"⟩ : MethodName) = true := plainFor_of_name (by first | (simp [plainName, overriddenIn]; done) | decide +kernel)
set_option maxRecDepth 65536 in
set_option maxHeartbeats 40000000 in
theorem con_BEL (hw : ∀ d ∈ tables_1, d.before a0 Z = true) {l : Addr} (E : Exa Z h l LVL) (F : Fld Z h l "java/lang/Enum" "ordinal" "I" (.int 2)) : Con (⟨"com/example/causeway_health/causewayhealth/convert/V2Value$Level", "below", "()Lcom/example/causeway_health/causewayhealth/convert/V2Value$Level;"⟩ : MethodName) prog_46_method_4_code 1 (some (.object "com/example/causeway_health/causewayhealth/convert/V2Value$Level")) { frames := 1, cells := 0, slots := 0, locals := 12 } Z LT [] #[.ref l] h [] mine (fun v h' nw => nw = [] ∧ v = some .null ∧ h' = h) := by
  refine Con.of pnBEL (Ls := [.val (.ref l)]) (fun m => by first | (simp [entryFrame, mkF, argsToLocals, Value.category]; done) | (simp [entryFrame, mkF, argsToLocals, Value.category, maxLocals]; done) | rfl) ?_
  refine WP.aloadN (pc' := 1) dBEL_0 rfl rfl rfl ?_
  refine WP.callVU (pc' := 4) (con_ORD hw F) E (hw _ (List.mem_of_getElem? (i := 92) rfl)) (hw _ (List.mem_of_getElem? (i := 93) rfl)) (hw _ (List.mem_of_getElem? (i := 94) rfl)) (hw _ (List.mem_of_getElem? (i := 96) rfl)) (hw _ (List.mem_of_getElem? (i := 95) rfl)) (hw _ (List.mem_of_getElem? (i := 97) rfl)) (hw _ (List.mem_of_getElem? (i := 98) rfl)) dBEL_1 (by decide) pdx7 rfl rfl rfl (by first | exact Nat.le_of_ble_eq_true rfl | omega | (simp; done) | (simp; omega) | (dsimp only; omega)) (by first | exact Nat.le_of_ble_eq_true rfl | omega | (simp; done) | (simp; omega) | (dsimp only; omega)) (by first | exact Nat.le_of_ble_eq_true rfl | omega | (simp; done) | (simp; omega) | (dsimp only; omega)) (by first | exact Nat.le_of_ble_eq_true rfl | omega | (simp; done) | (simp; omega) | (dsimp only; omega)) (fun _ hx => nomatch hx) rfl ?_
  rintro v h' nw K hnw ⟨rfl, rfl, rfl⟩
  dsimp only [Option.toList, List.cons_append, List.nil_append]
  refine WP.tsw (pc' := 54) (o := 50) dBEL_4 (by decide) (by decide) (by decide) (by decide) ?_
  refine WP.aconstNull (pc' := 55) dBEL_54 rfl ?_
  exact WP.areturn dBEL_55 rfl rfl rfl ⟨rfl, rfl, rfl⟩ (fun _ hx => nomatch hx) (fun _ hx => hx) (by first | exact Nat.le_of_ble_eq_true rfl | omega) (by first | exact Nat.le_of_ble_eq_true rfl | omega)
theorem dCMP_0 : decode prog_45_method_10_code 0 = .ok (.iload_n 1, 1) := by decide +kernel
theorem dCMP_1 : decode prog_45_method_10_code 1 = .ok (.iconst 1, 1) := by decide +kernel
theorem dCMP_2 : decode prog_45_method_10_code 2 = .ok (.if_icmp .ge 17, 3) := by decide +kernel
theorem dCMP_5 : decode prog_45_method_10_code 5 = .ok (.new 86, 3) := by decide +kernel
theorem dCMP_8 : decode prog_45_method_10_code 8 = .ok (.dup, 1) := by decide +kernel
theorem dCMP_9 : decode prog_45_method_10_code 9 = .ok (.iload_n 1, 1) := by decide +kernel
theorem dCMP_10 : decode prog_45_method_10_code 10 = .ok (.invokedynamic 88, 5) := by decide +kernel
theorem dCMP_15 : decode prog_45_method_10_code 15 = .ok (.invokespecial 92, 3) := by decide +kernel
theorem dCMP_18 : decode prog_45_method_10_code 18 = .ok (.athrow, 1) := by decide +kernel
theorem dCMP_19 : decode prog_45_method_10_code 19 = .ok (.aload_n 0, 1) := by decide +kernel
theorem dCMP_20 : decode prog_45_method_10_code 20 = .ok (.getfield 17, 3) := by decide +kernel
theorem dCMP_23 : decode prog_45_method_10_code 23 = .ok (.invokevirtual 95, 3) := by decide +kernel
theorem dCMP_26 : decode prog_45_method_10_code 26 = .ok (.astore_n 2, 1) := by decide +kernel
theorem dCMP_27 : decode prog_45_method_10_code 27 = .ok (.aload_n 2, 1) := by decide +kernel
theorem dCMP_28 : decode prog_45_method_10_code 28 = .ok (.ifnonnull 16, 3) := by decide +kernel
theorem dCMP_31 : decode prog_45_method_10_code 31 = .ok (.iload_n 1, 1) := by decide +kernel
theorem dCMP_32 : decode prog_45_method_10_code 32 = .ok (.iconst 1, 1) := by decide +kernel
theorem dCMP_33 : decode prog_45_method_10_code 33 = .ok (.if_icmp .ne 7, 3) := by decide +kernel
theorem dCMP_36 : decode prog_45_method_10_code 36 = .ok (.aload_n 0, 1) := by decide +kernel
theorem dCMP_37 : decode prog_45_method_10_code 37 = .ok (.goto 6, 3) := by decide +kernel
theorem dCMP_40 : decode prog_45_method_10_code 40 = .ok (.getstatic 55, 3) := by decide +kernel
theorem dCMP_43 : decode prog_45_method_10_code 43 = .ok (.areturn, 1) := by decide +kernel
theorem dCMP_44 : decode prog_45_method_10_code 44 = .ok (.aload_n 0, 1) := by decide +kernel
theorem dCMP_45 : decode prog_45_method_10_code 45 = .ok (.getfield 99, 3) := by decide +kernel
theorem dCMP_48 : decode prog_45_method_10_code 48 = .ok (.astore_n 3, 1) := by decide +kernel
theorem dCMP_49 : decode prog_45_method_10_code 49 = .ok (.aload_n 3, 1) := by decide +kernel
theorem dCMP_50 : decode prog_45_method_10_code 50 = .ok (.ifnonnull 180, 3) := by decide +kernel
theorem dCMP_53 : decode prog_45_method_10_code 53 = .ok (.aload_n 0, 1) := by decide +kernel
theorem dCMP_54 : decode prog_45_method_10_code 54 = .ok (.getfield 17, 3) := by decide +kernel
theorem dCMP_57 : decode prog_45_method_10_code 57 = .ok (.getstatic 59, 3) := by decide +kernel
theorem dCMP_60 : decode prog_45_method_10_code 60 = .ok (.if_acmp .ne 13, 3) := by decide +kernel
theorem dCMP_63 : decode prog_45_method_10_code 63 = .ok (.aload_n 0, 1) := by decide +kernel
theorem dCMP_64 : decode prog_45_method_10_code 64 = .ok (.getfield 13, 3) := by decide +kernel
theorem dCMP_67 : decode prog_45_method_10_code 67 = .ok (.invokevirtual 103, 3) := by decide +kernel
theorem dCMP_70 : decode prog_45_method_10_code 70 = .ok (.goto 10, 3) := by decide +kernel
theorem dCMP_73 : decode prog_45_method_10_code 73 = .ok (.aload_n 0, 1) := by decide +kernel
theorem dCMP_74 : decode prog_45_method_10_code 74 = .ok (.getfield 13, 3) := by decide +kernel
theorem dCMP_77 : decode prog_45_method_10_code 77 = .ok (.invokevirtual 106, 3) := by decide +kernel
theorem dCMP_80 : decode prog_45_method_10_code 80 = .ok (.istore 4, 2) := by decide +kernel
theorem dCMP_82 : decode prog_45_method_10_code 82 = .ok (.iconst 1, 1) := by decide +kernel
theorem dCMP_83 : decode prog_45_method_10_code 83 = .ok (.istore 5, 2) := by decide +kernel
theorem dCMP_85 : decode prog_45_method_10_code 85 = .ok (.aload_n 0, 1) := by decide +kernel
theorem dCMP_86 : decode prog_45_method_10_code 86 = .ok (.getfield 7, 3) := by decide +kernel
theorem dCMP_89 : decode prog_45_method_10_code 89 = .ok (.iload 4, 2) := by decide +kernel
theorem dCMP_91 : decode prog_45_method_10_code 91 = .ok (.invokevirtual 109, 3) := by decide +kernel
theorem dCMP_94 : decode prog_45_method_10_code 94 = .ok (.istore 6, 2) := by decide +kernel
theorem dCMP_96 : decode prog_45_method_10_code 96 = .ok (.iload 6, 2) := by decide +kernel
theorem dCMP_98 : decode prog_45_method_10_code 98 = .ok (.ifCond .lt 24, 3) := by decide +kernel
theorem dCMP_101 : decode prog_45_method_10_code 101 = .ok (.iinc 5 1, 3) := by decide +kernel
theorem dCMP_104 : decode prog_45_method_10_code 104 = .ok (.aload_n 0, 1) := by decide +kernel
theorem dCMP_105 : decode prog_45_method_10_code 105 = .ok (.getfield 7, 3) := by decide +kernel
theorem dCMP_108 : decode prog_45_method_10_code 108 = .ok (.iload 4, 2) := by decide +kernel
theorem dCMP_110 : decode prog_45_method_10_code 110 = .ok (.iload 6, 2) := by decide +kernel
theorem dCMP_112 : decode prog_45_method_10_code 112 = .ok (.iconst 1, 1) := by decide +kernel
theorem dCMP_113 : decode prog_45_method_10_code 113 = .ok (.iadd, 1) := by decide +kernel
theorem dCMP_114 : decode prog_45_method_10_code 114 = .ok (.invokevirtual 113, 3) := by decide +kernel
theorem dCMP_117 : decode prog_45_method_10_code 117 = .ok (.istore 6, 2) := by decide +kernel
theorem dCMP_119 : decode prog_45_method_10_code 119 = .ok (.goto (-23), 3) := by decide +kernel
theorem dCMP_122 : decode prog_45_method_10_code 122 = .ok (.iload 5, 2) := by decide +kernel
theorem dCMP_124 : decode prog_45_method_10_code 124 = .ok (.anewarray 8, 3) := by decide +kernel
theorem dCMP_127 : decode prog_45_method_10_code 127 = .ok (.astore_n 3, 1) := by decide +kernel
theorem dCMP_128 : decode prog_45_method_10_code 128 = .ok (.iconst 0, 1) := by decide +kernel
theorem dCMP_129 : decode prog_45_method_10_code 129 = .ok (.istore 6, 2) := by decide +kernel
theorem dCMP_131 : decode prog_45_method_10_code 131 = .ok (.iconst 0, 1) := by decide +kernel
theorem dCMP_132 : decode prog_45_method_10_code 132 = .ok (.istore 7, 2) := by decide +kernel
theorem dCMP_134 : decode prog_45_method_10_code 134 = .ok (.iload 7, 2) := by decide +kernel
theorem dCMP_136 : decode prog_45_method_10_code 136 = .ok (.iload 5, 2) := by decide +kernel
theorem dCMP_138 : decode prog_45_method_10_code 138 = .ok (.if_icmp .ge 87, 3) := by decide +kernel
theorem dCMP_141 : decode prog_45_method_10_code 141 = .ok (.iload 7, 2) := by decide +kernel
theorem dCMP_143 : decode prog_45_method_10_code 143 = .ok (.iload 5, 2) := by decide +kernel
theorem dCMP_145 : decode prog_45_method_10_code 145 = .ok (.iconst 1, 1) := by decide +kernel
theorem dCMP_146 : decode prog_45_method_10_code 146 = .ok (.isub, 1) := by decide +kernel
theorem dCMP_147 : decode prog_45_method_10_code 147 = .ok (.if_icmp .ne 13, 3) := by decide +kernel
theorem dCMP_150 : decode prog_45_method_10_code 150 = .ok (.aload_n 0, 1) := by decide +kernel
theorem dCMP_151 : decode prog_45_method_10_code 151 = .ok (.getfield 7, 3) := by decide +kernel
theorem dCMP_154 : decode prog_45_method_10_code 154 = .ok (.invokevirtual 116, 3) := by decide +kernel
theorem dCMP_157 : decode prog_45_method_10_code 157 = .ok (.goto 14, 3) := by decide +kernel
theorem dCMP_160 : decode prog_45_method_10_code 160 = .ok (.aload_n 0, 1) := by decide +kernel
theorem dCMP_161 : decode prog_45_method_10_code 161 = .ok (.getfield 7, 3) := by decide +kernel
theorem dCMP_164 : decode prog_45_method_10_code 164 = .ok (.iload 4, 2) := by decide +kernel
theorem dCMP_166 : decode prog_45_method_10_code 166 = .ok (.iload 6, 2) := by decide +kernel
theorem dCMP_168 : decode prog_45_method_10_code 168 = .ok (.invokevirtual 113, 3) := by decide +kernel
theorem dCMP_171 : decode prog_45_method_10_code 171 = .ok (.istore 8, 2) := by decide +kernel
theorem dCMP_173 : decode prog_45_method_10_code 173 = .ok (.aload_n 3, 1) := by decide +kernel
theorem dCMP_174 : decode prog_45_method_10_code 174 = .ok (.iload 7, 2) := by decide +kernel
theorem dCMP_176 : decode prog_45_method_10_code 176 = .ok (.iload 6, 2) := by decide +kernel
theorem dCMP_178 : decode prog_45_method_10_code 178 = .ok (.iload 8, 2) := by decide +kernel
theorem dCMP_180 : decode prog_45_method_10_code 180 = .ok (.if_icmp .ne 9, 3) := by decide +kernel
theorem dCMP_183 : decode prog_45_method_10_code 183 = .ok (.getstatic 55, 3) := by decide +kernel
theorem dCMP_186 : decode prog_45_method_10_code 186 = .ok (.goto 26, 3) := by decide +kernel
theorem dCMP_189 : decode prog_45_method_10_code 189 = .ok (.new 8, 3) := by decide +kernel
theorem dCMP_192 : decode prog_45_method_10_code 192 = .ok (.dup, 1) := by decide +kernel
theorem dCMP_193 : decode prog_45_method_10_code 193 = .ok (.aload_n 0, 1) := by decide +kernel
theorem dCMP_194 : decode prog_45_method_10_code 194 = .ok (.getfield 7, 3) := by decide +kernel
theorem dCMP_197 : decode prog_45_method_10_code 197 = .ok (.iload 6, 2) := by decide +kernel
theorem dCMP_199 : decode prog_45_method_10_code 199 = .ok (.iload 8, 2) := by decide +kernel
theorem dCMP_201 : decode prog_45_method_10_code 201 = .ok (.invokevirtual 119, 3) := by decide +kernel
theorem dCMP_204 : decode prog_45_method_10_code 204 = .ok (.aload_n 0, 1) := by decide +kernel
theorem dCMP_205 : decode prog_45_method_10_code 205 = .ok (.getfield 13, 3) := by decide +kernel
theorem dCMP_208 : decode prog_45_method_10_code 208 = .ok (.aload_n 2, 1) := by decide +kernel
theorem dCMP_209 : decode prog_45_method_10_code 209 = .ok (.invokespecial 64, 3) := by decide +kernel
theorem dCMP_212 : decode prog_45_method_10_code 212 = .ok (.aastore, 1) := by decide +kernel
theorem dCMP_213 : decode prog_45_method_10_code 213 = .ok (.iload 8, 2) := by decide +kernel
theorem dCMP_215 : decode prog_45_method_10_code 215 = .ok (.iconst 1, 1) := by decide +kernel
theorem dCMP_216 : decode prog_45_method_10_code 216 = .ok (.iadd, 1) := by decide +kernel
theorem dCMP_217 : decode prog_45_method_10_code 217 = .ok (.istore 6, 2) := by decide +kernel
theorem dCMP_219 : decode prog_45_method_10_code 219 = .ok (.iinc 7 1, 3) := by decide +kernel
theorem dCMP_222 : decode prog_45_method_10_code 222 = .ok (.goto (-88), 3) := by decide +kernel
theorem dCMP_225 : decode prog_45_method_10_code 225 = .ok (.aload_n 0, 1) := by decide +kernel
theorem dCMP_226 : decode prog_45_method_10_code 226 = .ok (.aload_n 3, 1) := by decide +kernel
theorem dCMP_227 : decode prog_45_method_10_code 227 = .ok (.putfield 99, 3) := by decide +kernel
theorem dCMP_230 : decode prog_45_method_10_code 230 = .ok (.iload_n 1, 1) := by decide +kernel
theorem dCMP_231 : decode prog_45_method_10_code 231 = .ok (.aload_n 3, 1) := by decide +kernel
theorem dCMP_232 : decode prog_45_method_10_code 232 = .ok (.arraylength, 1) := by decide +kernel
theorem dCMP_233 : decode prog_45_method_10_code 233 = .ok (.if_icmp .gt 11, 3) := by decide +kernel
theorem dCMP_236 : decode prog_45_method_10_code 236 = .ok (.aload_n 3, 1) := by decide +kernel
theorem dCMP_237 : decode prog_45_method_10_code 237 = .ok (.iload_n 1, 1) := by decide +kernel
theorem dCMP_238 : decode prog_45_method_10_code 238 = .ok (.iconst 1, 1) := by decide +kernel
theorem dCMP_239 : decode prog_45_method_10_code 239 = .ok (.isub, 1) := by decide +kernel
theorem dCMP_240 : decode prog_45_method_10_code 240 = .ok (.aaload, 1) := by decide +kernel
theorem dCMP_241 : decode prog_45_method_10_code 241 = .ok (.goto 6, 3) := by decide +kernel
theorem dCMP_244 : decode prog_45_method_10_code 244 = .ok (.getstatic 55, 3) := by decide +kernel
theorem dCMP_247 : decode prog_45_method_10_code 247 = .ok (.areturn, 1) := by decide +kernel
theorem pnCMP : plainFor (⟨"com/example/causeway_health/causewayhealth/convert/V2Value", "component", "(I)Lcom/example/causeway_health/causewayhealth/convert/V2Value;"⟩ : MethodName) = true := plainFor_of_name (by first | (simp [plainName, overriddenIn]; done) | decide +kernel)
set_option maxRecDepth 65536 in
set_option maxHeartbeats 40000000 in
theorem con_CMP (hw : ∀ d ∈ tables_1, d.before a0 Z = true) {a r l em : Addr} {vd : Value} {k : Int32} (SE : Sta Z Z.heap V2V "EMPTY" "Lcom/example/causeway_health/causewayhealth/convert/V2Value;" (.ref em)) (hk : ¬ k < 1) (P : V2 Z h a r vd l) (E : Exa Z h l LVL) (F : Fld Z h l "java/lang/Enum" "ordinal" "I" (.int 2)) :
    Con (⟨"com/example/causeway_health/causewayhealth/convert/V2Value", "component", "(I)Lcom/example/causeway_health/causewayhealth/convert/V2Value;"⟩ : MethodName) prog_45_method_10_code 9 (some (.object "com/example/causeway_health/causewayhealth/convert/V2Value")) { frames := 2, cells := 0, slots := 0, locals := 30 } Z LT [] #[.ref a, .int k] h [] mine (fun v h' nw => nw = [] ∧ v = some (.ref (if k = 1 then a else em)) ∧ h' = h) := by
  refine Con.of pnCMP (Ls := [.val (.ref a), .val (.int k), .unset, .unset, .unset, .unset, .unset, .unset, .unset]) (fun m => by first | (simp [entryFrame, mkF, argsToLocals, Value.category]; done) | (simp [entryFrame, mkF, argsToLocals, Value.category, maxLocals]; done) | rfl) ?_
  refine WP.iloadN (pc' := 1) dCMP_0 rfl rfl ?_
  refine WP.iconst (pc' := 2) (x := 1) dCMP_1 (by decide) rfl ?_
  refine WP.icmpT (pc' := 19) dCMP_2 (by decide) (by decide) hk ?_
  refine WP.aloadN (pc' := 20) dCMP_19 rfl rfl rfl ?_
  refine WP.getfield (pc' := 23) (host := "") dCMP_20 (Or.inl (hw _ (List.mem_of_getElem? (i := 75) rfl))) Via.refl P.2.2.2 rfl ?_
  refine WP.callV (pc' := 26) (con_BEL hw E F) E (hw _ (List.mem_of_getElem? (i := 87) rfl)) (hw _ (List.mem_of_getElem? (i := 88) rfl)) (fun s hs => notFace_of_selects (args := #[]) (mv hs (hw _ (List.mem_of_getElem? (i := 90) rfl)))) (hw _ (List.mem_of_getElem? (i := 90) rfl)) (hw _ (List.mem_of_getElem? (i := 89) rfl)) (hw _ (List.mem_of_getElem? (i := 65) rfl)) (hw _ (List.mem_of_getElem? (i := 91) rfl)) dCMP_23 (by decide) pdx8 rfl rfl rfl (by first | exact Nat.le_of_ble_eq_true rfl | omega | (simp; done) | (simp; omega) | (dsimp only; omega)) (by first | exact Nat.le_of_ble_eq_true rfl | omega | (simp; done) | (simp; omega) | (dsimp only; omega)) (by first | exact Nat.le_of_ble_eq_true rfl | omega | (simp; done) | (simp; omega) | (dsimp only; omega)) (by first | exact Nat.le_of_ble_eq_true rfl | omega | (simp; done) | (simp; omega) | (dsimp only; omega)) (fun _ hx => nomatch hx) rfl ?_
  rintro v h' nw K hnw ⟨rfl, rfl, rfl⟩
  dsimp only [Option.toList, List.cons_append, List.nil_append]
  refine WP.astoreN (pc' := 27) dCMP_26 rfl rfl rfl rfl rfl ?_
  dsimp only [List.set]
  refine WP.aloadN (pc' := 28) dCMP_27 rfl rfl rfl ?_
  refine WP.ifnonnullF (pc' := 31) dCMP_28 rfl ?_
  refine WP.iloadN (pc' := 32) dCMP_31 rfl rfl ?_
  refine WP.iconst (pc' := 33) (x := 1) dCMP_32 (by decide) rfl ?_
  by_cases h1 : k = 1
  · refine WP.icmpF (pc' := 36) dCMP_33 rfl h1 ?_
    refine WP.aloadN (pc' := 37) dCMP_36 rfl rfl rfl ?_
    refine WP.goto (pc' := 43) dCMP_37 (by decide) (by decide) ?_
    exact WP.areturn dCMP_43 rfl rfl rfl ⟨rfl, by rw [if_pos h1], rfl⟩ (fun _ hx => nomatch hx) (fun _ hx => hx) (by first | exact Nat.le_of_ble_eq_true rfl | omega) (by first | exact Nat.le_of_ble_eq_true rfl | omega)
  · refine WP.icmpT (pc' := 40) dCMP_33 (by decide) (by decide) h1 ?_
    refine WP.getstatic (pc' := 43) (host := "") dCMP_40 (Or.inl (hw _ (List.mem_of_getElem? (i := 80) rfl))) Via.refl SE rfl ?_
    exact WP.areturn dCMP_43 rfl rfl rfl ⟨rfl, by rw [if_neg h1], rfl⟩ (fun _ hx => nomatch hx) (fun _ hx => hx) (by first | exact Nat.le_of_ble_eq_true rfl | omega) (by first | exact Nat.le_of_ble_eq_true rfl | omega)
theorem dRAW_0 : decode prog_45_method_5_code 0 = .ok (.aload_n 0, 1) := by decide +kernel
theorem dRAW_1 : decode prog_45_method_5_code 1 = .ok (.getfield 7, 3) := by decide +kernel
theorem dRAW_4 : decode prog_45_method_5_code 4 = .ok (.areturn, 1) := by decide +kernel
theorem pnRAW : plainFor (⟨"com/example/causeway_health/causewayhealth/convert/V2Value", "raw", "()Ljava/lang/String;"⟩ : MethodName) = true := plainFor_of_name (by first | (simp [plainName, overriddenIn]; done) | decide +kernel)
set_option maxRecDepth 65536 in
set_option maxHeartbeats 40000000 in
theorem con_RAW (hw : ∀ d ∈ tables_1, d.before a0 Z = true) {a r l : Addr} {vd : Value} (P : V2 Z h a r vd l) : Con (⟨"com/example/causeway_health/causewayhealth/convert/V2Value", "raw", "()Ljava/lang/String;"⟩ : MethodName) prog_45_method_5_code 1 (some (.object "java/lang/String")) R0 Z LT [] #[.ref a] h [] mine (fun v h' nw => nw = [] ∧ v = some (.ref r) ∧ h' = h) := by
  refine Con.of pnRAW (Ls := [.val (.ref a)]) (fun m => by first | (simp [entryFrame, mkF, argsToLocals, Value.category]; done) | (simp [entryFrame, mkF, argsToLocals, Value.category, maxLocals]; done) | rfl) ?_
  refine WP.aloadN (pc' := 1) dRAW_0 rfl rfl rfl ?_
  refine WP.getfield (pc' := 4) (host := "") dRAW_1 (Or.inl (hw _ (List.mem_of_getElem? (i := 71) rfl))) Via.refl P.2.1 rfl ?_
  exact WP.areturn dRAW_4 rfl rfl rfl ⟨rfl, rfl, rfl⟩ (fun _ hx => nomatch hx) (fun _ hx => hx) (by first | exact Nat.le_of_ble_eq_true rfl | omega) (by first | exact Nat.le_of_ble_eq_true rfl | omega)
theorem dDLS_0 : decode prog_45_method_9_code 0 = .ok (.aload_n 0, 1) := by decide +kernel
theorem dDLS_1 : decode prog_45_method_9_code 1 = .ok (.getfield 13, 3) := by decide +kernel
theorem dDLS_4 : decode prog_45_method_9_code 4 = .ok (.areturn, 1) := by decide +kernel
theorem pnDLS : plainFor (⟨"com/example/causeway_health/causewayhealth/convert/V2Value", "delimiters", "()Lcom/example/causeway_health/causewayhealth/convert/Delimiters;"⟩ : MethodName) = true := plainFor_of_name (by first | (simp [plainName, overriddenIn]; done) | decide +kernel)
set_option maxRecDepth 65536 in
set_option maxHeartbeats 40000000 in
theorem con_DLS (hw : ∀ d ∈ tables_1, d.before a0 Z = true) {a r l : Addr} {vd : Value} (hvd : vd.isRef = true) (P : V2 Z h a r vd l) : Con (⟨"com/example/causeway_health/causewayhealth/convert/V2Value", "delimiters", "()Lcom/example/causeway_health/causewayhealth/convert/Delimiters;"⟩ : MethodName) prog_45_method_9_code 1 (some (.object "com/example/causeway_health/causewayhealth/convert/Delimiters")) R0 Z LT [] #[.ref a] h [] mine (fun v h' nw => nw = [] ∧ v = some vd ∧ h' = h) := by
  refine Con.of pnDLS (Ls := [.val (.ref a)]) (fun m => by first | (simp [entryFrame, mkF, argsToLocals, Value.category]; done) | (simp [entryFrame, mkF, argsToLocals, Value.category, maxLocals]; done) | rfl) ?_
  refine WP.aloadN (pc' := 1) dDLS_0 rfl rfl rfl ?_
  refine WP.getfield (pc' := 4) (host := "") dDLS_1 (Or.inl (hw _ (List.mem_of_getElem? (i := 73) rfl))) Via.refl P.2.2.1 rfl ?_
  exact WP.areturn dDLS_4 rfl rfl hvd ⟨rfl, rfl, rfl⟩ (fun _ hx => nomatch hx) (fun _ hx => hx) (by first | exact Nat.le_of_ble_eq_true rfl | omega) (by first | exact Nat.le_of_ble_eq_true rfl | omega)
theorem dVIE_0 : decode prog_45_method_7_code 0 = .ok (.aload_n 0, 1) := by decide +kernel
theorem dVIE_1 : decode prog_45_method_7_code 1 = .ok (.getfield 7, 3) := by decide +kernel
theorem dVIE_4 : decode prog_45_method_7_code 4 = .ok (.invokevirtual 24, 3) := by decide +kernel
theorem dVIE_7 : decode prog_45_method_7_code 7 = .ok (.ireturn, 1) := by decide +kernel
theorem pnVIE : plainFor (⟨"com/example/causeway_health/causewayhealth/convert/V2Value", "isEmpty", "()Z"⟩ : MethodName) = true := plainFor_of_name (by first | (simp [plainName, overriddenIn]; done) | decide +kernel)
set_option maxRecDepth 65536 in
set_option maxHeartbeats 40000000 in
theorem con_VIE (hw : ∀ d ∈ tables_1, d.before a0 Z = true) {a r l t : Addr} {vd : Value} {xs : List Int32} (P : V2 Z h a r vd l) (Er : Exa Z h r ST) (F : Fld Z h r ST "value" "[B" (.ref t)) (A : ArI Z h t .byte xs) : Con (⟨"com/example/causeway_health/causewayhealth/convert/V2Value", "isEmpty", "()Z"⟩ : MethodName) prog_45_method_7_code 1 (some .boolean) { frames := 1, cells := 0, slots := 0, locals := 12 } Z LT [] #[.ref a] h [] mine (fun v h' nw => nw = [] ∧ v = some (.int (if xs = [] then 1 else 0)) ∧ h' = h) := by
  refine Con.of pnVIE (Ls := [.val (.ref a)]) (fun m => by first | (simp [entryFrame, mkF, argsToLocals, Value.category]; done) | (simp [entryFrame, mkF, argsToLocals, Value.category, maxLocals]; done) | rfl) ?_
  refine WP.aloadN (pc' := 1) dVIE_0 rfl rfl rfl ?_
  refine WP.getfield (pc' := 4) (host := "") dVIE_1 (Or.inl (hw _ (List.mem_of_getElem? (i := 71) rfl))) Via.refl P.2.1 rfl ?_
  refine WP.callV (pc' := 7) (con_ISE hw F A) Er (hw _ (List.mem_of_getElem? (i := 57) rfl)) (hw _ (List.mem_of_getElem? (i := 58) rfl)) (fun s hs => notFace_of_selects (args := #[]) (mv hs (hw _ (List.mem_of_getElem? (i := 60) rfl)))) (hw _ (List.mem_of_getElem? (i := 60) rfl)) (hw _ (List.mem_of_getElem? (i := 59) rfl)) (hw _ (List.mem_of_getElem? (i := 3) rfl)) (hw _ (List.mem_of_getElem? (i := 61) rfl)) dVIE_4 (by decide) pdx5 rfl rfl rfl (by first | exact Nat.le_of_ble_eq_true rfl | omega | (simp; done) | (simp; omega) | (dsimp only; omega)) (by first | exact Nat.le_of_ble_eq_true rfl | omega | (simp; done) | (simp; omega) | (dsimp only; omega)) (by first | exact Nat.le_of_ble_eq_true rfl | omega | (simp; done) | (simp; omega) | (dsimp only; omega)) (by first | exact Nat.le_of_ble_eq_true rfl | omega | (simp; done) | (simp; omega) | (dsimp only; omega)) (fun _ hx => nomatch hx) rfl ?_
  rintro v h' nw K hnw ⟨rfl, rfl, rfl⟩
  dsimp only [Option.toList, List.cons_append, List.nil_append]
  exact WP.ireturn dVIE_7 rfl (by simp) (by split <;> rfl) ⟨rfl, rfl, rfl⟩ (fun _ hx => nomatch hx) (fun _ hx => hx) (by first | exact Nat.le_of_ble_eq_true rfl | omega) (by first | exact Nat.le_of_ble_eq_true rfl | omega)
theorem dDEP_0 : decode prog_45_method_8_code 0 = .ok (.aload_n 0, 1) := by decide +kernel
theorem dDEP_1 : decode prog_45_method_8_code 1 = .ok (.getfield 17, 3) := by decide +kernel
theorem dDEP_4 : decode prog_45_method_8_code 4 = .ok (.invokevirtual 82, 3) := by decide +kernel
theorem dDEP_7 : decode prog_45_method_8_code 7 = .ok (.ireturn, 1) := by decide +kernel
theorem pnDEP : plainFor (⟨"com/example/causeway_health/causewayhealth/convert/V2Value", "depth", "()I"⟩ : MethodName) = true := plainFor_of_name (by first | (simp [plainName, overriddenIn]; done) | decide +kernel)
set_option maxRecDepth 65536 in
set_option maxHeartbeats 40000000 in
theorem con_DEP (hw : ∀ d ∈ tables_1, d.before a0 Z = true) {a r l : Addr} {vd : Value} (P : V2 Z h a r vd l) (E : Exa Z h l LVL) (F : Fld Z h l "java/lang/Enum" "ordinal" "I" (.int 2)) : Con (⟨"com/example/causeway_health/causewayhealth/convert/V2Value", "depth", "()I"⟩ : MethodName) prog_45_method_8_code 1 (some .int) { frames := 1, cells := 0, slots := 0, locals := 12 } Z LT [] #[.ref a] h [] mine (fun v h' nw => nw = [] ∧ v = some (.int 2) ∧ h' = h) := by
  refine Con.of pnDEP (Ls := [.val (.ref a)]) (fun m => by first | (simp [entryFrame, mkF, argsToLocals, Value.category]; done) | (simp [entryFrame, mkF, argsToLocals, Value.category, maxLocals]; done) | rfl) ?_
  refine WP.aloadN (pc' := 1) dDEP_0 rfl rfl rfl ?_
  refine WP.getfield (pc' := 4) (host := "") dDEP_1 (Or.inl (hw _ (List.mem_of_getElem? (i := 75) rfl))) Via.refl P.2.2.2 rfl ?_
  refine WP.callVU (pc' := 7) (con_ORD hw F) E (hw _ (List.mem_of_getElem? (i := 126) rfl)) (hw _ (List.mem_of_getElem? (i := 93) rfl)) (hw _ (List.mem_of_getElem? (i := 94) rfl)) (hw _ (List.mem_of_getElem? (i := 96) rfl)) (hw _ (List.mem_of_getElem? (i := 95) rfl)) (hw _ (List.mem_of_getElem? (i := 97) rfl)) (hw _ (List.mem_of_getElem? (i := 98) rfl)) dDEP_4 (by decide) pdx7 rfl rfl rfl (by first | exact Nat.le_of_ble_eq_true rfl | omega | (simp; done) | (simp; omega) | (dsimp only; omega)) (by first | exact Nat.le_of_ble_eq_true rfl | omega | (simp; done) | (simp; omega) | (dsimp only; omega)) (by first | exact Nat.le_of_ble_eq_true rfl | omega | (simp; done) | (simp; omega) | (dsimp only; omega)) (by first | exact Nat.le_of_ble_eq_true rfl | omega | (simp; done) | (simp; omega) | (dsimp only; omega)) (fun _ hx => nomatch hx) rfl ?_
  rintro v h' nw K hnw ⟨rfl, rfl, rfl⟩
  dsimp only [Option.toList, List.cons_append, List.nil_append]
  exact WP.ireturn dDEP_7 rfl (by simp) rfl ⟨rfl, rfl, rfl⟩ (fun _ hx => nomatch hx) (fun _ hx => hx) (by first | exact Nat.le_of_ble_eq_true rfl | omega) (by first | exact Nat.le_of_ble_eq_true rfl | omega)
theorem pnLAW : plainFor (⟨"com/example/causeway_health/causewayhealth/convert/V2ValueWholePinLaw", "law", "(IIIII)Z"⟩ : MethodName) = true := plainFor_of_name (by first | (simp [plainName, overriddenIn]; done) | decide +kernel)
/-- what the start says -/
def Beg (Z : State) (l em re te : Addr) : Prop := Sta Z Z.heap LVL "SUBCOMPONENT" "Lcom/example/causeway_health/causewayhealth/convert/V2Value$Level;" (.ref l) ∧ Sta Z Z.heap V2V "EMPTY" "Lcom/example/causeway_health/causewayhealth/convert/V2Value;" (.ref em) ∧ Exa Z Z.heap l LVL ∧ Fld Z Z.heap l "java/lang/Enum" "ordinal" "I" (.int 2) ∧ V2 Z Z.heap em re .null l ∧ Exa Z Z.heap re ST ∧ Fld Z Z.heap re ST "value" "[B" (.ref te) ∧ ArI Z Z.heap te .byte []
theorem Beg.sl {l em re te : Addr} (B : Beg Z l em re te) : Sta Z Z.heap LVL "SUBCOMPONENT" "Lcom/example/causeway_health/causewayhealth/convert/V2Value$Level;" (.ref l) := B.1
theorem Beg.se {l em re te : Addr} (B : Beg Z l em re te) : Sta Z Z.heap V2V "EMPTY" "Lcom/example/causeway_health/causewayhealth/convert/V2Value;" (.ref em) := B.2.1
theorem Beg.el {l em re te : Addr} (B : Beg Z l em re te) : Exa Z Z.heap l LVL := B.2.2.1
theorem Beg.fo {l em re te : Addr} (B : Beg Z l em re te) : Fld Z Z.heap l "java/lang/Enum" "ordinal" "I" (.int 2) := B.2.2.2.1
theorem Beg.pe {l em re te : Addr} (B : Beg Z l em re te) : V2 Z Z.heap em re .null l := B.2.2.2.2.1
theorem Beg.er {l em re te : Addr} (B : Beg Z l em re te) : Exa Z Z.heap re ST := B.2.2.2.2.2.1
theorem Beg.fv {l em re te : Addr} (B : Beg Z l em re te) : Fld Z Z.heap re ST "value" "[B" (.ref te) := B.2.2.2.2.2.2.1
theorem Beg.at_ {l em re te : Addr} (B : Beg Z l em re te) : ArI Z Z.heap te .byte [] := B.2.2.2.2.2.2.2
theorem m_ge (n : Int32) : ¬ (2 + (n &&& 65535)) < 1 ∧ ¬ (2 + (n &&& 65535)) = 1 := by
  have m := c_mask n 65535 16 (by decide) (by decide)
  have s := c_iadd 2 (n &&& 65535)
  have e2 : (2 : Int32).toInt = 2 := rfl
  have r := rng32 (2 + (n &&& 65535))
  have e1 : (1 : Int32).toInt = 1 := rfl
  constructor
  · rw [Int32.lt_iff_toInt_lt]; omega
  · intro q; have := congrArg Int32.toInt q; omega
set_option maxRecDepth 65536 in
set_option maxHeartbeats 40000000 in
theorem tail_LAW (hw : ∀ d ∈ tables_1, d.before a0 Z = true) {cz : Int32} (hc : Compact Z cz) {l em re te : Addr} (B : Beg Z l em re te) {us : List UInt16} (hl : lat us = true) {b : Addr} {h1 : Heap} {n nn : Int32} {l0 l1 l2 l3 l5 l6 l7 l8 l9 l10 l11 : Slot} {mn : List Addr} (hmn : ∀ x ∈ mine, x ∈ mn) (A : ArI Z h1 b .char (us.map chv)) (hlen : us.length ≤ 3) (hcase : (nn = 0 ∧ us = []) ∨ (¬ nn = 0 ∧ us ≠ [])) :
    WP "com/example/causeway_health/causewayhealth/convert/V2ValueWholePinLaw" code 21 ret "law" room_1 Z LT h [] mine (fun v h' nw => v = some (.int 1)) mn 4 6 h1 113 [l0, l1, l2, l3, .val (.int n), l5, l6, l7, l8, l9, l10, l11, .val (.int nn), .unset, .unset, .unset, .unset, .unset, .unset, .unset, .unset] [.ref b] := by
  refine WP.astore (pc' := 115) at_113 rfl rfl rfl rfl rfl ?_
  dsimp only [List.set]
  refine WP.new (pc' := 118) at_115 (hw _ (List.mem_of_getElem? (i := 1) rfl)) (hw _ (List.mem_of_getElem? (i := 2) rfl)) (hw _ (List.mem_of_getElem? (i := 3) rfl)) (by first | exact Nat.le_of_ble_eq_true rfl | omega | (simp; done) | (simp; omega) | (dsimp only; omega)) (by first | exact Nat.le_of_ble_eq_true rfl | omega | (simp; done) | (simp; omega) | (dsimp only; omega)) rfl ?_
  intro h2 a ea na ma E2 X D
  have V : Fld Z h2 a ST "value" "[B" .null := D (Or.inr (hw _ (List.mem_of_getElem? (i := 29) rfl))) (ty := .array .byte) (by decide)
  have C : Fld Z h2 a ST "coder" "B" (.int 0) := D (Or.inr (hw _ (List.mem_of_getElem? (i := 27) rfl))) (ty := .byte) (by decide)
  refine WP.dup (pc' := 119) at_118 rfl rfl ?_
  refine WP.aload (pc' := 121) at_119 rfl rfl rfl ?_
  refine WP.callSp (pc' := 124) (con_SI1 hw hc hl (us := us) (N := 3) hlen (by decide) X V C (A.ext E2) (List.mem_cons_self ..)) rfl (hw _ (List.mem_of_getElem? (i := 4) rfl)) (hw _ (List.mem_of_getElem? (i := 5) rfl)) (hw _ (List.mem_of_getElem? (i := 3) rfl)) (hw _ (List.mem_of_getElem? (i := 6) rfl)) at_121 (by decide) pdx9 rfl rfl rfl (by first | exact Nat.le_of_ble_eq_true rfl | omega | (simp; done) | (simp; omega) | (dsimp only; omega)) (by first | exact Nat.le_of_ble_eq_true rfl | omega | (simp; done) | (simp; omega) | (dsimp only; omega)) (by first | exact Nat.le_of_ble_eq_true rfl | omega | (simp; done) | (simp; omega) | (dsimp only; omega)) (by first | exact Nat.le_of_ble_eq_true rfl | omega | (simp; done) | (simp; omega) | (dsimp only; omega)) (fun x hx => by cases List.mem_singleton.mp hx; exact Or.inr ma) rfl ?_
  rintro v h3 nw K3 hnw ⟨rfl, rfl, t, S, ht⟩
  dsimp only [Option.toList, List.cons_append, List.nil_append]
  refine WP.astore (pc' := 126) at_124 rfl rfl rfl rfl rfl ?_
  dsimp only [List.set]
  refine WP.iconst (pc' := 127) (x := 2) at_126 (by decide) rfl ?_
  refine WP.iload (pc' := 129) at_127 rfl rfl ?_
  refine WP.ldcInt (pc' := 131) at_129 (hw _ (List.mem_of_getElem? (i := 30) rfl)) rfl ?_
  refine WP.iand (pc' := 132) at_131 rfl ?_
  refine WP.iadd (pc' := 133) at_132 rfl ?_
  refine WP.istore (pc' := 135) at_133 rfl rfl rfl ?_
  dsimp only [List.set]
  refine WP.new (pc' := 138) at_135 (hw _ (List.mem_of_getElem? (i := 31) rfl)) (hw _ (List.mem_of_getElem? (i := 32) rfl)) (hw _ (List.mem_of_getElem? (i := 33) rfl)) (by first | exact Nat.le_of_ble_eq_true rfl | omega | (simp; done) | (simp; omega) | (dsimp only; omega)) (by first | exact Nat.le_of_ble_eq_true rfl | omega | (simp; done) | (simp; omega) | (dsimp only; omega)) rfl ?_
  intro h4 d ed nd md E4 Xd Dd
  have hsd : a ≠ d := fun q => absurd S.1.lt (Nat.not_lt.mpr (by rw [q, ed]; exact Nat.le_refl _))
  have htd : t ≠ d := fun q => absurd (StrAt.open S).2.2.2.lt (Nat.not_lt.mpr (by rw [q, ed]; exact Nat.le_refl _))
  refine WP.dup (pc' := 139) at_138 rfl rfl ?_
  refine WP.bipush (pc' := 141) (x := 124) at_139 (by decide) rfl ?_
  refine WP.bipush (pc' := 143) (x := 94) at_141 (by decide) rfl ?_
  refine WP.bipush (pc' := 145) (x := 126) at_143 (by decide) rfl ?_
  refine WP.bipush (pc' := 147) (x := 92) at_145 (by decide) rfl ?_
  refine WP.bipush (pc' := 149) (x := 38) at_147 (by decide) rfl ?_
  refine WP.callSp (pc' := 152) (con_DLI hw Xd ⟨_, Dd (Or.inr (hw _ (List.mem_of_getElem? (i := 44) rfl))) (ty := .char) (by decide)⟩ ⟨_, Dd (Or.inr (hw _ (List.mem_of_getElem? (i := 46) rfl))) (ty := .char) (by decide)⟩ ⟨_, Dd (Or.inr (hw _ (List.mem_of_getElem? (i := 48) rfl))) (ty := .char) (by decide)⟩ ⟨_, Dd (Or.inr (hw _ (List.mem_of_getElem? (i := 50) rfl))) (ty := .char) (by decide)⟩ ⟨_, Dd (Or.inr (hw _ (List.mem_of_getElem? (i := 52) rfl))) (ty := .char) (by decide)⟩ (List.mem_cons_self ..)) rfl (hw _ (List.mem_of_getElem? (i := 34) rfl)) (hw _ (List.mem_of_getElem? (i := 35) rfl)) (hw _ (List.mem_of_getElem? (i := 33) rfl)) (hw _ (List.mem_of_getElem? (i := 36) rfl)) at_149 (by decide) pdx10 rfl rfl rfl (by first | exact Nat.le_of_ble_eq_true rfl | omega | (simp; done) | (simp; omega) | (dsimp only; omega)) (by first | exact Nat.le_of_ble_eq_true rfl | omega | (simp; done) | (simp; omega) | (dsimp only; omega)) (by first | exact Nat.le_of_ble_eq_true rfl | omega | (simp; done) | (simp; omega) | (dsimp only; omega)) (by first | exact Nat.le_of_ble_eq_true rfl | omega | (simp; done) | (simp; omega) | (dsimp only; omega)) (fun x hx => by cases List.mem_singleton.mp hx; exact Or.inr md) rfl ?_
  rintro v h5 nw K5 hnw5 ⟨rfl, rfl⟩
  dsimp only [Option.toList, List.cons_append, List.nil_append]
  replace S : StrAt Z h5 a t us := (S.cells (fun c hc => E4.2 _ _ hc) (fun c hc => E4.2 _ _ hc)).cells (fun c hc => K5.2.1 _ _ hc (fun q => hsd (List.mem_singleton.mp q))) (fun c hc => K5.2.1 _ _ hc (fun q => htd (List.mem_singleton.mp q)))
  refine WP.astore (pc' := 154) at_152 rfl rfl rfl rfl rfl ?_
  dsimp only [List.set]
  refine WP.aload (pc' := 156) at_154 rfl rfl rfl ?_
  refine WP.aload (pc' := 158) at_156 rfl rfl rfl ?_
  refine WP.know fun OZ _ _ => ?_
  refine WP.callS (pc' := 161) (con_WH hw B.sl B.se S) (hw _ (List.mem_of_getElem? (i := 53) rfl)) (hw _ (List.mem_of_getElem? (i := 54) rfl)) (hw _ (List.mem_of_getElem? (i := 55) rfl)) (hw _ (List.mem_of_getElem? (i := 56) rfl)) at_158 (by decide) pdx11 rfl rfl rfl (by first | exact Nat.le_of_ble_eq_true rfl | omega | (simp; done) | (simp; omega) | (dsimp only; omega)) (by first | exact Nat.le_of_ble_eq_true rfl | omega | (simp; done) | (simp; omega) | (dsimp only; omega)) (by first | exact Nat.le_of_ble_eq_true rfl | omega | (simp; done) | (simp; omega) | (dsimp only; omega)) (by first | exact Nat.le_of_ble_eq_true rfl | omega | (simp; done) | (simp; omega) | (dsimp only; omega)) (fun _ hx => nomatch hx) rfl ?_
  rintro v h6 nw K6 hnw6 ⟨rfl, hv⟩
  replace S := S.cells (fun c hc => K6.2.1 _ _ hc nin0) (fun c hc => K6.2.1 _ _ hc nin0)
  refine WP.know fun O _ _ => ?_
  have P := B.pe.ext O
  have El := B.el.ext O
  have Fo := B.fo.ext O
  rcases hcase with ⟨rfl, hu⟩ | ⟨hnn, hu⟩
  · obtain rfl : v = some (.ref em) := by
      rcases hv with q | q
      · exact q.2
      · exact absurd hu q.1
    dsimp only [Option.toList, List.cons_append, List.nil_append]
    refine WP.astore (pc' := 163) at_161 rfl rfl rfl rfl rfl ?_
    dsimp only [List.set]
    refine WP.callS (pc' := 166) (con_EM hw B.se) (hw _ (List.mem_of_getElem? (i := 77) rfl)) (hw _ (List.mem_of_getElem? (i := 78) rfl)) (hw _ (List.mem_of_getElem? (i := 55) rfl)) (hw _ (List.mem_of_getElem? (i := 79) rfl)) at_163 (by decide) pdx12 rfl rfl rfl (by first | exact Nat.le_of_ble_eq_true rfl | omega | (simp; done) | (simp; omega) | (dsimp only; omega)) (by first | exact Nat.le_of_ble_eq_true rfl | omega | (simp; done) | (simp; omega) | (dsimp only; omega)) (by first | exact Nat.le_of_ble_eq_true rfl | omega | (simp; done) | (simp; omega) | (dsimp only; omega)) (by first | exact Nat.le_of_ble_eq_true rfl | omega | (simp; done) | (simp; omega) | (dsimp only; omega)) (fun _ hx => nomatch hx) rfl ?_
    rintro v h7 nw K7 hnw7 ⟨rfl, rfl, rfl⟩
    dsimp only [Option.toList, List.cons_append, List.nil_append]
    refine WP.astore (pc' := 168) at_166 rfl rfl rfl rfl rfl ?_
    dsimp only [List.set]
    refine WP.iload (pc' := 170) at_168 rfl rfl ?_
    refine WP.ifF (pc' := 173) at_170 rfl rfl ?_
    refine WP.aload (pc' := 175) at_173 rfl rfl rfl ?_
    refine WP.aload (pc' := 177) at_175 rfl rfl rfl ?_
    refine WP.acmp (pc' := 180) at_177 rfl rfl true (decide_eq_true rfl) (by decide) (by decide) ?_
    refine WP.aload (pc' := 182) at_180 rfl rfl rfl ?_
    refine WP.callV (pc' := 185) (con_VIE hw P (B.er.ext O) (B.fv.ext O) (B.at_.ext O)) P.1 (hw _ (List.mem_of_getElem? (i := 111) rfl)) (hw _ (List.mem_of_getElem? (i := 112) rfl)) (fun s hs => notFace_of_selects (args := #[]) (mv hs (hw _ (List.mem_of_getElem? (i := 114) rfl)))) (hw _ (List.mem_of_getElem? (i := 114) rfl)) (hw _ (List.mem_of_getElem? (i := 113) rfl)) (hw _ (List.mem_of_getElem? (i := 55) rfl)) (hw _ (List.mem_of_getElem? (i := 115) rfl)) at_182 (by decide) pdx5 rfl rfl rfl (by first | exact Nat.le_of_ble_eq_true rfl | omega | (simp; done) | (simp; omega) | (dsimp only; omega)) (by first | exact Nat.le_of_ble_eq_true rfl | omega | (simp; done) | (simp; omega) | (dsimp only; omega)) (by first | exact Nat.le_of_ble_eq_true rfl | omega | (simp; done) | (simp; omega) | (dsimp only; omega)) (by first | exact Nat.le_of_ble_eq_true rfl | omega | (simp; done) | (simp; omega) | (dsimp only; omega)) (fun _ hx => nomatch hx) rfl ?_
    rintro v h7 nw K7 hnw7 ⟨rfl, rfl, rfl⟩
    dsimp only [Option.toList, List.cons_append, List.nil_append]
    rw [if_pos rfl]
    refine WP.ifF (pc' := 188) at_185 rfl (show ¬ (1 : Int32) = 0 by decide) ?_
    refine WP.aload (pc' := 190) at_188 rfl rfl rfl ?_
    refine WP.callV (pc' := 193) (con_RAW hw P) P.1 (hw _ (List.mem_of_getElem? (i := 101) rfl)) (hw _ (List.mem_of_getElem? (i := 102) rfl)) (fun s hs => notFace_of_selects (args := #[]) (mv hs (hw _ (List.mem_of_getElem? (i := 104) rfl)))) (hw _ (List.mem_of_getElem? (i := 104) rfl)) (hw _ (List.mem_of_getElem? (i := 103) rfl)) (hw _ (List.mem_of_getElem? (i := 55) rfl)) (hw _ (List.mem_of_getElem? (i := 105) rfl)) at_190 (by decide) pdx13 rfl rfl rfl (by first | exact Nat.le_of_ble_eq_true rfl | omega | (simp; done) | (simp; omega) | (dsimp only; omega)) (by first | exact Nat.le_of_ble_eq_true rfl | omega | (simp; done) | (simp; omega) | (dsimp only; omega)) (by first | exact Nat.le_of_ble_eq_true rfl | omega | (simp; done) | (simp; omega) | (dsimp only; omega)) (by first | exact Nat.le_of_ble_eq_true rfl | omega | (simp; done) | (simp; omega) | (dsimp only; omega)) (fun _ hx => nomatch hx) rfl ?_
    rintro v h7 nw K7 hnw7 ⟨rfl, rfl, rfl⟩
    dsimp only [Option.toList, List.cons_append, List.nil_append]
    refine WP.callV (pc' := 196) (con_ISE hw (B.fv.ext O) (B.at_.ext O)) (B.er.ext O) (hw _ (List.mem_of_getElem? (i := 130) rfl)) (hw _ (List.mem_of_getElem? (i := 58) rfl)) (fun s hs => notFace_of_selects (args := #[]) (mv hs (hw _ (List.mem_of_getElem? (i := 60) rfl)))) (hw _ (List.mem_of_getElem? (i := 60) rfl)) (hw _ (List.mem_of_getElem? (i := 59) rfl)) (hw _ (List.mem_of_getElem? (i := 3) rfl)) (hw _ (List.mem_of_getElem? (i := 61) rfl)) at_193 (by decide) pdx5 rfl rfl rfl (by first | exact Nat.le_of_ble_eq_true rfl | omega | (simp; done) | (simp; omega) | (dsimp only; omega)) (by first | exact Nat.le_of_ble_eq_true rfl | omega | (simp; done) | (simp; omega) | (dsimp only; omega)) (by first | exact Nat.le_of_ble_eq_true rfl | omega | (simp; done) | (simp; omega) | (dsimp only; omega)) (by first | exact Nat.le_of_ble_eq_true rfl | omega | (simp; done) | (simp; omega) | (dsimp only; omega)) (fun _ hx => nomatch hx) rfl ?_
    rintro v h7 nw K7 hnw7 ⟨rfl, rfl, rfl⟩
    dsimp only [Option.toList, List.cons_append, List.nil_append]
    rw [if_pos rfl]
    refine WP.ifF (pc' := 199) at_196 rfl (show ¬ (1 : Int32) = 0 by decide) ?_
    refine WP.aload (pc' := 201) at_199 rfl rfl rfl ?_
    refine WP.callV (pc' := 204) (con_DLS hw rfl P) P.1 (hw _ (List.mem_of_getElem? (i := 116) rfl)) (hw _ (List.mem_of_getElem? (i := 117) rfl)) (fun s hs => notFace_of_selects (args := #[]) (mv hs (hw _ (List.mem_of_getElem? (i := 119) rfl)))) (hw _ (List.mem_of_getElem? (i := 119) rfl)) (hw _ (List.mem_of_getElem? (i := 118) rfl)) (hw _ (List.mem_of_getElem? (i := 55) rfl)) (hw _ (List.mem_of_getElem? (i := 120) rfl)) at_201 (by decide) pdx14 rfl rfl rfl (by first | exact Nat.le_of_ble_eq_true rfl | omega | (simp; done) | (simp; omega) | (dsimp only; omega)) (by first | exact Nat.le_of_ble_eq_true rfl | omega | (simp; done) | (simp; omega) | (dsimp only; omega)) (by first | exact Nat.le_of_ble_eq_true rfl | omega | (simp; done) | (simp; omega) | (dsimp only; omega)) (by first | exact Nat.le_of_ble_eq_true rfl | omega | (simp; done) | (simp; omega) | (dsimp only; omega)) (fun _ hx => nomatch hx) rfl ?_
    rintro v h7 nw K7 hnw7 ⟨rfl, rfl, rfl⟩
    dsimp only [Option.toList, List.cons_append, List.nil_append]
    refine WP.ifnonnullF (pc' := 207) at_204 rfl ?_
    refine WP.aload (pc' := 209) at_207 rfl rfl rfl ?_
    refine WP.callV (pc' := 212) (con_DEP hw P El Fo) P.1 (hw _ (List.mem_of_getElem? (i := 121) rfl)) (hw _ (List.mem_of_getElem? (i := 122) rfl)) (fun s hs => notFace_of_selects (args := #[]) (mv hs (hw _ (List.mem_of_getElem? (i := 124) rfl)))) (hw _ (List.mem_of_getElem? (i := 124) rfl)) (hw _ (List.mem_of_getElem? (i := 123) rfl)) (hw _ (List.mem_of_getElem? (i := 55) rfl)) (hw _ (List.mem_of_getElem? (i := 125) rfl)) at_209 (by decide) pdx7 rfl rfl rfl (by first | exact Nat.le_of_ble_eq_true rfl | omega | (simp; done) | (simp; omega) | (dsimp only; omega)) (by first | exact Nat.le_of_ble_eq_true rfl | omega | (simp; done) | (simp; omega) | (dsimp only; omega)) (by first | exact Nat.le_of_ble_eq_true rfl | omega | (simp; done) | (simp; omega) | (dsimp only; omega)) (by first | exact Nat.le_of_ble_eq_true rfl | omega | (simp; done) | (simp; omega) | (dsimp only; omega)) (fun _ hx => nomatch hx) rfl ?_
    rintro v h7 nw K7 hnw7 ⟨rfl, rfl, rfl⟩
    dsimp only [Option.toList, List.cons_append, List.nil_append]
    refine WP.iconst (pc' := 213) (x := 2) at_212 (by decide) rfl ?_
    refine WP.icmpF (pc' := 216) at_213 rfl rfl ?_
    refine WP.iconst (pc' := 217) (x := 1) at_216 (by decide) rfl ?_
    refine WP.goto (pc' := 221) at_217 (by decide) (by decide) ?_
    exact WP.ireturn (nw := []) at_221 rfl (by simp) rfl rfl (fun _ hx => nomatch hx) (fun x hx => List.mem_cons_of_mem _ (List.mem_cons_of_mem _ (hmn x hx))) (Nat.le_of_ble_eq_true rfl) (Nat.le_of_ble_eq_true rfl)
  · obtain ⟨o, rfl, ho, Po⟩ : ∃ o, v = some (.ref o) ∧ h5.size ≤ o ∧ V2 Z h6 o a (.ref d) l := by
      rcases hv with q | q
      · exact absurd q.1 hu
      · exact q.2
    have hoe : ¬ o = em := fun q => by
      have h1 := B.pe.1.lt
      have h2 : Z.heap.size ≤ h5.size := Nat.le_trans (OZ : Ext Z.heap h5).1 (Nat.le_refl _)
      exact absurd (Nat.lt_of_lt_of_le h1 h2) (Nat.not_lt.mpr (q ▸ ho))
    obtain ⟨e1, v1, c1, b1⟩ := S.open
    dsimp only [Option.toList, List.cons_append, List.nil_append]
    refine WP.astore (pc' := 163) at_161 rfl rfl rfl rfl rfl ?_
    dsimp only [List.set]
    refine WP.callS (pc' := 166) (con_EM hw B.se) (hw _ (List.mem_of_getElem? (i := 77) rfl)) (hw _ (List.mem_of_getElem? (i := 78) rfl)) (hw _ (List.mem_of_getElem? (i := 55) rfl)) (hw _ (List.mem_of_getElem? (i := 79) rfl)) at_163 (by decide) pdx12 rfl rfl rfl (by first | exact Nat.le_of_ble_eq_true rfl | omega | (simp; done) | (simp; omega) | (dsimp only; omega)) (by first | exact Nat.le_of_ble_eq_true rfl | omega | (simp; done) | (simp; omega) | (dsimp only; omega)) (by first | exact Nat.le_of_ble_eq_true rfl | omega | (simp; done) | (simp; omega) | (dsimp only; omega)) (by first | exact Nat.le_of_ble_eq_true rfl | omega | (simp; done) | (simp; omega) | (dsimp only; omega)) (fun _ hx => nomatch hx) rfl ?_
    rintro v h7 nw K7 hnw7 ⟨rfl, rfl, rfl⟩
    dsimp only [Option.toList, List.cons_append, List.nil_append]
    refine WP.astore (pc' := 168) at_166 rfl rfl rfl rfl rfl ?_
    dsimp only [List.set]
    refine WP.iload (pc' := 170) at_168 rfl rfl ?_
    refine WP.ifT (pc' := 222) at_170 (by decide) (by decide) hnn ?_
    refine WP.aload (pc' := 224) at_222 rfl rfl rfl ?_
    refine WP.iconst (pc' := 225) (x := 1) at_224 (by decide) rfl ?_
    refine WP.callV (pc' := 228) (con_CMP hw B.se (by decide) Po El Fo) Po.1 (hw _ (List.mem_of_getElem? (i := 82) rfl)) (hw _ (List.mem_of_getElem? (i := 83) rfl)) (fun s hs => notFace_of_selects (args := #[]) (mv hs (hw _ (List.mem_of_getElem? (i := 85) rfl)))) (hw _ (List.mem_of_getElem? (i := 85) rfl)) (hw _ (List.mem_of_getElem? (i := 84) rfl)) (hw _ (List.mem_of_getElem? (i := 55) rfl)) (hw _ (List.mem_of_getElem? (i := 86) rfl)) at_225 (by decide) pdx15 rfl rfl rfl (by first | exact Nat.le_of_ble_eq_true rfl | omega | (simp; done) | (simp; omega) | (dsimp only; omega)) (by first | exact Nat.le_of_ble_eq_true rfl | omega | (simp; done) | (simp; omega) | (dsimp only; omega)) (by first | exact Nat.le_of_ble_eq_true rfl | omega | (simp; done) | (simp; omega) | (dsimp only; omega)) (by first | exact Nat.le_of_ble_eq_true rfl | omega | (simp; done) | (simp; omega) | (dsimp only; omega)) (fun _ hx => nomatch hx) rfl ?_
    rintro v h7 nw K7 hnw7 ⟨rfl, rfl, rfl⟩
    dsimp only [Option.toList, List.cons_append, List.nil_append]
    rw [if_pos rfl]
    refine WP.astore (pc' := 230) at_228 rfl rfl rfl rfl rfl ?_
    dsimp only [List.set]
    refine WP.aload (pc' := 232) at_230 rfl rfl rfl ?_
    refine WP.iload (pc' := 234) at_232 rfl rfl ?_
    refine WP.callV (pc' := 237) (con_CMP hw B.se (m_ge n).1 Po El Fo) Po.1 (hw _ (List.mem_of_getElem? (i := 82) rfl)) (hw _ (List.mem_of_getElem? (i := 83) rfl)) (fun s hs => notFace_of_selects (args := #[]) (mv hs (hw _ (List.mem_of_getElem? (i := 85) rfl)))) (hw _ (List.mem_of_getElem? (i := 85) rfl)) (hw _ (List.mem_of_getElem? (i := 84) rfl)) (hw _ (List.mem_of_getElem? (i := 55) rfl)) (hw _ (List.mem_of_getElem? (i := 86) rfl)) at_234 (by decide) pdx15 rfl rfl rfl (by first | exact Nat.le_of_ble_eq_true rfl | omega | (simp; done) | (simp; omega) | (dsimp only; omega)) (by first | exact Nat.le_of_ble_eq_true rfl | omega | (simp; done) | (simp; omega) | (dsimp only; omega)) (by first | exact Nat.le_of_ble_eq_true rfl | omega | (simp; done) | (simp; omega) | (dsimp only; omega)) (by first | exact Nat.le_of_ble_eq_true rfl | omega | (simp; done) | (simp; omega) | (dsimp only; omega)) (fun _ hx => nomatch hx) rfl ?_
    rintro v h7 nw K7 hnw7 ⟨rfl, rfl, rfl⟩
    dsimp only [Option.toList, List.cons_append, List.nil_append]
    rw [if_neg (m_ge n).2]
    refine WP.astore (pc' := 239) at_237 rfl rfl rfl rfl rfl ?_
    dsimp only [List.set]
    refine WP.aload (pc' := 241) at_239 rfl rfl rfl ?_
    refine WP.aload (pc' := 243) at_241 rfl rfl rfl ?_
    refine WP.acmp (pc' := 246) at_243 rfl rfl false (decide_eq_false fun q => hoe (Value.ref.inj q)) (by decide) (by decide) ?_
    refine WP.aload (pc' := 248) at_246 rfl rfl rfl ?_
    refine WP.callV (pc' := 251) (con_RAW hw Po) Po.1 (hw _ (List.mem_of_getElem? (i := 101) rfl)) (hw _ (List.mem_of_getElem? (i := 102) rfl)) (fun s hs => notFace_of_selects (args := #[]) (mv hs (hw _ (List.mem_of_getElem? (i := 104) rfl)))) (hw _ (List.mem_of_getElem? (i := 104) rfl)) (hw _ (List.mem_of_getElem? (i := 103) rfl)) (hw _ (List.mem_of_getElem? (i := 55) rfl)) (hw _ (List.mem_of_getElem? (i := 105) rfl)) at_248 (by decide) pdx13 rfl rfl rfl (by first | exact Nat.le_of_ble_eq_true rfl | omega | (simp; done) | (simp; omega) | (dsimp only; omega)) (by first | exact Nat.le_of_ble_eq_true rfl | omega | (simp; done) | (simp; omega) | (dsimp only; omega)) (by first | exact Nat.le_of_ble_eq_true rfl | omega | (simp; done) | (simp; omega) | (dsimp only; omega)) (by first | exact Nat.le_of_ble_eq_true rfl | omega | (simp; done) | (simp; omega) | (dsimp only; omega)) (fun _ hx => nomatch hx) rfl ?_
    rintro v h7 nw K7 hnw7 ⟨rfl, rfl, rfl⟩
    dsimp only [Option.toList, List.cons_append, List.nil_append]
    refine WP.aload (pc' := 253) at_251 rfl rfl rfl ?_
    refine WP.callV (pc' := 256) (con_EQs) e1 (hw _ (List.mem_of_getElem? (i := 106) rfl)) (hw _ (List.mem_of_getElem? (i := 107) rfl)) (fun s hs => notFace_of_selects (args := #[]) (mv hs (hw _ (List.mem_of_getElem? (i := 109) rfl)))) (hw _ (List.mem_of_getElem? (i := 109) rfl)) (hw _ (List.mem_of_getElem? (i := 108) rfl)) (hw _ (List.mem_of_getElem? (i := 3) rfl)) (hw _ (List.mem_of_getElem? (i := 110) rfl)) at_253 (by decide) pdx16 rfl rfl rfl (by first | exact Nat.le_of_ble_eq_true rfl | omega | (simp; done) | (simp; omega) | (dsimp only; omega)) (by first | exact Nat.le_of_ble_eq_true rfl | omega | (simp; done) | (simp; omega) | (dsimp only; omega)) (by first | exact Nat.le_of_ble_eq_true rfl | omega | (simp; done) | (simp; omega) | (dsimp only; omega)) (by first | exact Nat.le_of_ble_eq_true rfl | omega | (simp; done) | (simp; omega) | (dsimp only; omega)) (fun _ hx => nomatch hx) rfl ?_
    rintro v h7 nw K7 hnw7 ⟨rfl, rfl, rfl⟩
    dsimp only [Option.toList, List.cons_append, List.nil_append]
    refine WP.ifF (pc' := 259) at_256 rfl (show ¬ (1 : Int32) = 0 by decide) ?_
    refine WP.aload (pc' := 261) at_259 rfl rfl rfl ?_
    refine WP.callV (pc' := 264) (con_VIE hw Po e1 v1 b1) Po.1 (hw _ (List.mem_of_getElem? (i := 111) rfl)) (hw _ (List.mem_of_getElem? (i := 112) rfl)) (fun s hs => notFace_of_selects (args := #[]) (mv hs (hw _ (List.mem_of_getElem? (i := 114) rfl)))) (hw _ (List.mem_of_getElem? (i := 114) rfl)) (hw _ (List.mem_of_getElem? (i := 113) rfl)) (hw _ (List.mem_of_getElem? (i := 55) rfl)) (hw _ (List.mem_of_getElem? (i := 115) rfl)) at_261 (by decide) pdx5 rfl rfl rfl (by first | exact Nat.le_of_ble_eq_true rfl | omega | (simp; done) | (simp; omega) | (dsimp only; omega)) (by first | exact Nat.le_of_ble_eq_true rfl | omega | (simp; done) | (simp; omega) | (dsimp only; omega)) (by first | exact Nat.le_of_ble_eq_true rfl | omega | (simp; done) | (simp; omega) | (dsimp only; omega)) (by first | exact Nat.le_of_ble_eq_true rfl | omega | (simp; done) | (simp; omega) | (dsimp only; omega)) (fun _ hx => nomatch hx) rfl ?_
    rintro v h7 nw K7 hnw7 ⟨rfl, rfl, rfl⟩
    dsimp only [Option.toList, List.cons_append, List.nil_append]
    rw [if_neg (fun q => hu (byt_nil.mp q))]
    refine WP.ifF (pc' := 267) at_264 rfl rfl ?_
    refine WP.aload (pc' := 269) at_267 rfl rfl rfl ?_
    refine WP.callV (pc' := 272) (con_DLS hw rfl Po) Po.1 (hw _ (List.mem_of_getElem? (i := 116) rfl)) (hw _ (List.mem_of_getElem? (i := 117) rfl)) (fun s hs => notFace_of_selects (args := #[]) (mv hs (hw _ (List.mem_of_getElem? (i := 119) rfl)))) (hw _ (List.mem_of_getElem? (i := 119) rfl)) (hw _ (List.mem_of_getElem? (i := 118) rfl)) (hw _ (List.mem_of_getElem? (i := 55) rfl)) (hw _ (List.mem_of_getElem? (i := 120) rfl)) at_269 (by decide) pdx14 rfl rfl rfl (by first | exact Nat.le_of_ble_eq_true rfl | omega | (simp; done) | (simp; omega) | (dsimp only; omega)) (by first | exact Nat.le_of_ble_eq_true rfl | omega | (simp; done) | (simp; omega) | (dsimp only; omega)) (by first | exact Nat.le_of_ble_eq_true rfl | omega | (simp; done) | (simp; omega) | (dsimp only; omega)) (by first | exact Nat.le_of_ble_eq_true rfl | omega | (simp; done) | (simp; omega) | (dsimp only; omega)) (fun _ hx => nomatch hx) rfl ?_
    rintro v h7 nw K7 hnw7 ⟨rfl, rfl, rfl⟩
    dsimp only [Option.toList, List.cons_append, List.nil_append]
    refine WP.aload (pc' := 274) at_272 rfl rfl rfl ?_
    refine WP.acmp (pc' := 277) at_274 rfl rfl true (decide_eq_true rfl) (by decide) (by decide) ?_
    refine WP.aload (pc' := 279) at_277 rfl rfl rfl ?_
    refine WP.callV (pc' := 282) (con_DEP hw Po El Fo) Po.1 (hw _ (List.mem_of_getElem? (i := 121) rfl)) (hw _ (List.mem_of_getElem? (i := 122) rfl)) (fun s hs => notFace_of_selects (args := #[]) (mv hs (hw _ (List.mem_of_getElem? (i := 124) rfl)))) (hw _ (List.mem_of_getElem? (i := 124) rfl)) (hw _ (List.mem_of_getElem? (i := 123) rfl)) (hw _ (List.mem_of_getElem? (i := 55) rfl)) (hw _ (List.mem_of_getElem? (i := 125) rfl)) at_279 (by decide) pdx7 rfl rfl rfl (by first | exact Nat.le_of_ble_eq_true rfl | omega | (simp; done) | (simp; omega) | (dsimp only; omega)) (by first | exact Nat.le_of_ble_eq_true rfl | omega | (simp; done) | (simp; omega) | (dsimp only; omega)) (by first | exact Nat.le_of_ble_eq_true rfl | omega | (simp; done) | (simp; omega) | (dsimp only; omega)) (by first | exact Nat.le_of_ble_eq_true rfl | omega | (simp; done) | (simp; omega) | (dsimp only; omega)) (fun _ hx => nomatch hx) rfl ?_
    rintro v h7 nw K7 hnw7 ⟨rfl, rfl, rfl⟩
    dsimp only [Option.toList, List.cons_append, List.nil_append]
    refine WP.iconst (pc' := 283) (x := 2) at_282 (by decide) rfl ?_
    refine WP.icmpF (pc' := 286) at_283 rfl rfl ?_
    refine WP.aload (pc' := 288) at_286 rfl rfl rfl ?_
    refine WP.aload (pc' := 290) at_288 rfl rfl rfl ?_
    refine WP.acmp (pc' := 293) at_290 rfl rfl true (decide_eq_true rfl) (by decide) (by decide) ?_
    refine WP.aload (pc' := 295) at_293 rfl rfl rfl ?_
    refine WP.aload (pc' := 297) at_295 rfl rfl rfl ?_
    refine WP.acmp (pc' := 300) at_297 rfl rfl true (decide_eq_true rfl) (by decide) (by decide) ?_
    refine WP.iconst (pc' := 301) (x := 1) at_300 (by decide) rfl ?_
    refine WP.goto (pc' := 305) at_301 (by decide) (by decide) ?_
    exact WP.ireturn (nw := []) at_305 rfl (by simp) rfl rfl (fun _ hx => nomatch hx) (fun x hx => List.mem_cons_of_mem _ (List.mem_cons_of_mem _ (hmn x hx))) (Nat.le_of_ble_eq_true rfl) (Nat.le_of_ble_eq_true rfl)
theorem and3 (x : Int32) : x &&& 3 = 0 ∨ x &&& 3 = 1 ∨ x &&& 3 = 2 ∨ x &&& 3 = 3 := by
  have m := c_mask x 3 2 (by decide) (by decide)
  have e : (x &&& 3).toInt = 0 ∨ (x &&& 3).toInt = 1 ∨ (x &&& 3).toInt = 2 ∨ (x &&& 3).toInt = 3 := by omega
  rcases e with e | e | e | e
  · exact Or.inl (Int32.toInt_inj.mp e)
  · exact Or.inr (Or.inl (Int32.toInt_inj.mp e))
  · exact Or.inr (Or.inr (Or.inl (Int32.toInt_inj.mp e)))
  · exact Or.inr (Or.inr (Or.inr (Int32.toInt_inj.mp e)))
set_option maxRecDepth 65536 in
set_option maxHeartbeats 40000000 in
theorem con_LAW (hw : ∀ d ∈ tables_1, d.before a0 Z = true) {cz : Int32} (hc : Compact Z cz) {l em re te : Addr} (B : Beg Z l em re te) {a b c len n : Int32} :
    Con x code maxLocals ret room_1 Z LT tables_1 #[.int a, .int b, .int c, .int len, .int n] h [] mine (fun v h' nw => v = some (.int 1)) := by
  refine Con.of pnLAW (Ls := [.val (.int a), .val (.int b), .val (.int c), .val (.int len), .val (.int n), .unset, .unset, .unset, .unset, .unset, .unset, .unset, .unset, .unset, .unset, .unset, .unset, .unset, .unset, .unset, .unset]) (fun m => by first | (simp [entryFrame, mkF, argsToLocals, Value.category]; done) | (simp [entryFrame, mkF, argsToLocals, Value.category, maxLocals]; done) | rfl) ?_
  refine WP.iloadN (pc' := 1) at_0 rfl rfl ?_
  refine WP.sipush (pc' := 4) (x := 255) at_1 (by decide) rfl ?_
  refine WP.iand (pc' := 5) at_4 rfl ?_
  refine WP.i2c (pc' := 6) at_5 rfl ?_
  refine WP.istore (pc' := 8) at_6 rfl rfl rfl ?_
  dsimp only [List.set]
  refine WP.iloadN (pc' := 9) at_8 rfl rfl ?_
  refine WP.sipush (pc' := 12) (x := 255) at_9 (by decide) rfl ?_
  refine WP.iand (pc' := 13) at_12 rfl ?_
  refine WP.i2c (pc' := 14) at_13 rfl ?_
  refine WP.istore (pc' := 16) at_14 rfl rfl rfl ?_
  dsimp only [List.set]
  refine WP.iloadN (pc' := 17) at_16 rfl rfl ?_
  refine WP.sipush (pc' := 20) (x := 255) at_17 (by decide) rfl ?_
  refine WP.iand (pc' := 21) at_20 rfl ?_
  refine WP.i2c (pc' := 22) at_21 rfl ?_
  refine WP.istore (pc' := 24) at_22 rfl rfl rfl ?_
  dsimp only [List.set]
  refine WP.iconst (pc' := 25) (x := 0) at_24 (by decide) rfl ?_
  refine WP.newarray (pc' := 27) (N := 0) at_25 (hw _ (List.mem_of_getElem? (i := 0) rfl)) rfl (by decide) (by first | exact Nat.le_of_ble_eq_true rfl | omega | (simp; done) | (simp; omega) | (dsimp only; omega)) (by first | exact Nat.le_of_ble_eq_true rfl | omega | (simp; done) | (simp; omega) | (dsimp only; omega)) (by first | exact Nat.le_of_ble_eq_true rfl | omega | (simp; done) | (simp; omega) | (dsimp only; omega)) rfl ?_
  intro h1 q0 eq0 nq0 mq0 E1 A0
  replace A0 : ArI Z h1 q0 .char (([] : List UInt16).map chv) := A0
  refine WP.astore (pc' := 29) at_27 rfl rfl rfl rfl rfl ?_
  dsimp only [List.set]
  refine WP.iconst (pc' := 30) (x := 1) at_29 (by decide) rfl ?_
  refine WP.newarray (pc' := 32) (N := 1) at_30 (hw _ (List.mem_of_getElem? (i := 0) rfl)) rfl (by decide) (by first | exact Nat.le_of_ble_eq_true rfl | omega | (simp; done) | (simp; omega) | (dsimp only; omega)) (by first | exact Nat.le_of_ble_eq_true rfl | omega | (simp; done) | (simp; omega) | (dsimp only; omega)) (by first | exact Nat.le_of_ble_eq_true rfl | omega | (simp; done) | (simp; omega) | (dsimp only; omega)) rfl ?_
  intro h2 q1 eq1 nq1 mq1 E2 A1
  replace A0 := A0.ext E2
  refine WP.dup (pc' := 33) at_32 rfl rfl ?_
  refine WP.iconst (pc' := 34) (x := 0) at_33 (by decide) rfl ?_
  refine WP.iload (pc' := 36) at_34 rfl rfl ?_
  refine WP.castore (pc' := 37) (i := 0) at_36 A1 (by decide) (by simp) (List.mem_cons_self ..) (Or.inr mq1) rfl ?_
  intro h3 W3 A1
  replace A1 : ArI Z h3 q1 .char ([cu (a &&& 255)].map chv) := by
    have z : ArI Z h3 q1 .char [nar .char (chv (cu (a &&& 255)))] := A1
    rw [chv_nar] at z; exact z
  have n01 : q0 ≠ q1 := fun q => nq1 (q ▸ List.mem_cons_self ..)
  replace A0 := A0.other W3 n01
  refine WP.astore (pc' := 39) at_37 rfl rfl rfl rfl rfl ?_
  dsimp only [List.set]
  refine WP.iconst (pc' := 40) (x := 2) at_39 (by decide) rfl ?_
  refine WP.newarray (pc' := 42) (N := 2) at_40 (hw _ (List.mem_of_getElem? (i := 0) rfl)) rfl (by decide) (by first | exact Nat.le_of_ble_eq_true rfl | omega | (simp; done) | (simp; omega) | (dsimp only; omega)) (by first | exact Nat.le_of_ble_eq_true rfl | omega | (simp; done) | (simp; omega) | (dsimp only; omega)) (by first | exact Nat.le_of_ble_eq_true rfl | omega | (simp; done) | (simp; omega) | (dsimp only; omega)) rfl ?_
  intro h4 q2 eq2 nq2 mq2 E4 A2
  replace A0 := A0.ext E4
  replace A1 := A1.ext E4
  have n12 : q1 ≠ q2 := fun q => nq2 (q ▸ List.mem_cons_self ..)
  have n02 : q0 ≠ q2 := fun q => nq2 (q ▸ List.mem_cons_of_mem _ (List.mem_cons_self ..))
  refine WP.dup (pc' := 43) at_42 rfl rfl ?_
  refine WP.iconst (pc' := 44) (x := 0) at_43 (by decide) rfl ?_
  refine WP.iload (pc' := 46) at_44 rfl rfl ?_
  refine WP.castore (pc' := 47) (i := 0) at_46 A2 (by decide) (by simp) (List.mem_cons_self ..) (Or.inr mq2) rfl ?_
  intro h5 W5 A2
  replace A0 := A0.other W5 n02
  replace A1 := A1.other W5 n12
  refine WP.dup (pc' := 48) at_47 rfl rfl ?_
  refine WP.iconst (pc' := 49) (x := 1) at_48 (by decide) rfl ?_
  refine WP.iload (pc' := 51) at_49 rfl rfl ?_
  refine WP.castore (pc' := 52) (i := 1) at_51 A2 (by decide) (by simp) (List.mem_cons_self ..) (Or.inr mq2) rfl ?_
  intro h6 W6 A2
  replace A0 := A0.other W6 n02
  replace A1 := A1.other W6 n12
  replace A2 : ArI Z h6 q2 .char ([cu (a &&& 255), cu (b &&& 255)].map chv) := by
    have z : ArI Z h6 q2 .char [nar .char (chv (cu (a &&& 255))), nar .char (chv (cu (b &&& 255)))] := A2
    rw [chv_nar, chv_nar] at z; exact z
  refine WP.astore (pc' := 54) at_52 rfl rfl rfl rfl rfl ?_
  dsimp only [List.set]
  refine WP.iconst (pc' := 55) (x := 3) at_54 (by decide) rfl ?_
  refine WP.newarray (pc' := 57) (N := 3) at_55 (hw _ (List.mem_of_getElem? (i := 0) rfl)) rfl (by decide) (by first | exact Nat.le_of_ble_eq_true rfl | omega | (simp; done) | (simp; omega) | (dsimp only; omega)) (by first | exact Nat.le_of_ble_eq_true rfl | omega | (simp; done) | (simp; omega) | (dsimp only; omega)) (by first | exact Nat.le_of_ble_eq_true rfl | omega | (simp; done) | (simp; omega) | (dsimp only; omega)) rfl ?_
  intro h7 q3 eq3 nq3 mq3 E7 A3
  replace A0 := A0.ext E7
  replace A1 := A1.ext E7
  replace A2 := A2.ext E7
  have n23 : q2 ≠ q3 := fun q => nq3 (q ▸ List.mem_cons_self ..)
  have n13 : q1 ≠ q3 := fun q => nq3 (q ▸ List.mem_cons_of_mem _ (List.mem_cons_self ..))
  have n03 : q0 ≠ q3 := fun q => nq3 (q ▸ List.mem_cons_of_mem _ (List.mem_cons_of_mem _ (List.mem_cons_self ..)))
  refine WP.dup (pc' := 58) at_57 rfl rfl ?_
  refine WP.iconst (pc' := 59) (x := 0) at_58 (by decide) rfl ?_
  refine WP.iload (pc' := 61) at_59 rfl rfl ?_
  refine WP.castore (pc' := 62) (i := 0) at_61 A3 (by decide) (by simp) (List.mem_cons_self ..) (Or.inr mq3) rfl ?_
  intro h8 W8 A3
  refine WP.dup (pc' := 63) at_62 rfl rfl ?_
  refine WP.iconst (pc' := 64) (x := 1) at_63 (by decide) rfl ?_
  refine WP.iload (pc' := 66) at_64 rfl rfl ?_
  refine WP.castore (pc' := 67) (i := 1) at_66 A3 (by decide) (by simp) (List.mem_cons_self ..) (Or.inr mq3) rfl ?_
  intro h9 W9 A3
  refine WP.dup (pc' := 68) at_67 rfl rfl ?_
  refine WP.iconst (pc' := 69) (x := 2) at_68 (by decide) rfl ?_
  refine WP.iload (pc' := 71) at_69 rfl rfl ?_
  refine WP.castore (pc' := 72) (i := 2) at_71 A3 (by decide) (by simp) (List.mem_cons_self ..) (Or.inr mq3) rfl ?_
  intro h10 W10 A3
  replace A3 : ArI Z h10 q3 .char ([cu (a &&& 255), cu (b &&& 255), cu (c &&& 255)].map chv) := by
    have z : ArI Z h10 q3 .char [nar .char (chv (cu (a &&& 255))), nar .char (chv (cu (b &&& 255))), nar .char (chv (cu (c &&& 255)))] := A3
    rw [chv_nar, chv_nar, chv_nar] at z; exact z
  replace A0 := ((A0.other W8 n03).other W9 n03).other W10 n03
  replace A1 := ((A1.other W8 n13).other W9 n13).other W10 n13
  replace A2 := ((A2.other W8 n23).other W9 n23).other W10 n23
  refine WP.astore (pc' := 74) at_72 rfl rfl rfl rfl rfl ?_
  dsimp only [List.set]
  refine WP.iloadN (pc' := 75) at_74 rfl rfl ?_
  refine WP.iconst (pc' := 76) (x := 3) at_75 (by decide) rfl ?_
  refine WP.iand (pc' := 77) at_76 rfl ?_
  refine WP.istore (pc' := 79) at_77 rfl rfl rfl ?_
  dsimp only [List.set]
  refine WP.iload (pc' := 81) at_79 rfl rfl ?_
  have hmn : ∀ x ∈ mine, x ∈ q3 :: q2 :: q1 :: q0 :: mine := fun x hx => List.mem_cons_of_mem _ (List.mem_cons_of_mem _ (List.mem_cons_of_mem _ (List.mem_cons_of_mem _ hx)))
  rcases and3 len with e | e | e | e
  · refine WP.ifF (pc' := 84) at_81 rfl e ?_
    refine WP.aload (pc' := 86) at_84 rfl rfl rfl ?_
    refine WP.goto (pc' := 113) at_86 (by decide) (by decide) ?_
    exact tail_LAW hw hc B rfl hmn A0 (by simp) (Or.inl ⟨e, rfl⟩)
  · refine WP.ifT (pc' := 89) at_81 (by decide) (by decide) (show ¬ (len &&& 3) = 0 by rw [e]; decide) ?_
    refine WP.iload (pc' := 91) at_89 rfl rfl ?_
    refine WP.iconst (pc' := 92) (x := 1) at_91 (by decide) rfl ?_
    refine WP.icmpF (pc' := 95) at_92 rfl e ?_
    refine WP.aload (pc' := 97) at_95 rfl rfl rfl ?_
    refine WP.goto (pc' := 113) at_97 (by decide) (by decide) ?_
    exact tail_LAW hw hc B (by simp [lat, lat_cu]) hmn A1 (by simp) (Or.inr ⟨by rw [e]; decide, by simp⟩)
  · refine WP.ifT (pc' := 89) at_81 (by decide) (by decide) (show ¬ (len &&& 3) = 0 by rw [e]; decide) ?_
    refine WP.iload (pc' := 91) at_89 rfl rfl ?_
    refine WP.iconst (pc' := 92) (x := 1) at_91 (by decide) rfl ?_
    refine WP.icmpT (pc' := 100) at_92 (by decide) (by decide) (show ¬ (len &&& 3) = 1 by rw [e]; decide) ?_
    refine WP.iload (pc' := 102) at_100 rfl rfl ?_
    refine WP.iconst (pc' := 103) (x := 2) at_102 (by decide) rfl ?_
    refine WP.icmpF (pc' := 106) at_103 rfl e ?_
    refine WP.aload (pc' := 108) at_106 rfl rfl rfl ?_
    refine WP.goto (pc' := 113) at_108 (by decide) (by decide) ?_
    exact tail_LAW hw hc B (by simp [lat, lat_cu]) hmn A2 (by simp) (Or.inr ⟨by rw [e]; decide, by simp⟩)
  · refine WP.ifT (pc' := 89) at_81 (by decide) (by decide) (show ¬ (len &&& 3) = 0 by rw [e]; decide) ?_
    refine WP.iload (pc' := 91) at_89 rfl rfl ?_
    refine WP.iconst (pc' := 92) (x := 1) at_91 (by decide) rfl ?_
    refine WP.icmpT (pc' := 100) at_92 (by decide) (by decide) (show ¬ (len &&& 3) = 1 by rw [e]; decide) ?_
    refine WP.iload (pc' := 102) at_100 rfl rfl ?_
    refine WP.iconst (pc' := 103) (x := 2) at_102 (by decide) rfl ?_
    refine WP.icmpT (pc' := 111) at_103 (by decide) (by decide) (show ¬ (len &&& 3) = 2 by rw [e]; decide) ?_
    refine WP.aload (pc' := 113) at_111 rfl rfl rfl ?_
    exact tail_LAW hw hc B (by simp [lat, lat_cu]) hmn A3 (by simp) (Or.inr ⟨by rw [e]; decide, by simp⟩)
end LawBodies
set_option maxRecDepth 65536 in
set_option maxHeartbeats 40000000 in
theorem comes_1 {Post : Tables → Env → Array Value → State → Outcome → State → Prop} (hpost : ∀ tb e args s v u, (limb_1_1.after args s (.returned v) u = true ∧ limb_1_2.after args s (.returned v) u = true ∧ True) → ReturnedEndW s (.returned v) u (Jvm.fieldLocs frame_1_writes args s ++ Jvm.arrayLocs frame_1_arrays args s ++ Jvm.staticLocs frame_1_statics s) 32 1152 → Post tb e args s (.returned v) u) :
    ArmFor flags0 classFile x code maxLocals ret World_1 tables_1 room_1 Calls_1 rest_1 Pre_1 Post := by
  intro l hfl _ _ p e ha hc1 hk s m args below hf hA hF happ hP
  obtain ⟨hcalls, hrest, hpre⟩ := hP
  obtain ⟨-, -, -, hnamed, -, -, -, hat⟩ := (Spec.applies_iff hf).mp happ
  obtain ⟨hg, hn⟩ := and_e (Cond.before_iff.mp (show (Jvm.Cond.and given_1 narrow_1).before args s = true from hpre))
  obtain ⟨g1, g2⟩ := and_e hg
  obtain ⟨g3, g4⟩ := and_e g2
  obtain ⟨g5, g6⟩ := and_e g4
  obtain ⟨g7, g8⟩ := and_e g6
  obtain ⟨g9, g10⟩ := and_e g8
  obtain ⟨w0, w1, w2, w3, w4, rfl⟩ : ∃ w0 w1 w2 w3 w4 : Value, args = #[w0, w1, w2, w3, w4] := by
    have hs : args.size = 5 := by simpa [Cond.value, given_1] using g1
    obtain ⟨L⟩ := args
    match L, hs with
    | [w0, w1, w2, w3, w4], _ => exact ⟨w0, w1, w2, w3, w4, rfl⟩
  have hw := fun d (hd : d ∈ tables_1) => atoms_spec (ws := Jvm.Cond.code x code maxLocals ret :: tables_1) hat d (List.mem_cons_of_mem _ hd)
  have hfit : Fit s := fun {y c} hc i hi => by
    obtain ⟨ha, rfl⟩ := Array.getElem?_eq_some_iff.mp hc
    have q := List.all_eq_true.mp ((Array.all_eq_true_iff_forall_mem.mp hF) _ (Array.getElem_mem ha)) i (List.mem_range.mpr hi)
    simpa [Array.getElem?_eq_getElem hi] using q
  obtain ⟨hsets, hown0⟩ := atoms_of _ (rest_1_c_eq ▸ (show rest_1_c.before _ s = true from hrest))
  obtain ⟨i0, ei0⟩ := is_v g3
  obtain rfl : w0 = (.int i0) := Option.some.inj ei0
  obtain ⟨i1, ei1⟩ := is_v g5
  obtain rfl : w1 = (.int i1) := Option.some.inj ei1
  obtain ⟨i2, ei2⟩ := is_v g7
  obtain rfl : w2 = (.int i2) := Option.some.inj ei2
  obtain ⟨i3, ei3⟩ := is_v g9
  obtain rfl : w3 = (.int i3) := Option.some.inj ei3
  obtain ⟨i4, ei4⟩ := is_v g10
  obtain rfl : w4 = (.int i4) := Option.some.inj ei4
  have wS := atoms hw
  have hcw : Jvm.Lit.compactW.before _ s = true := (hsets _ (List.mem_of_getElem? (i := 2) rfl))
  have hlink : Links s LT := fun q hq => by
    simp only [LT, List.mem_cons, List.not_mem_nil, or_false] at hq
    rcases hq with rfl
    · exact ⟨_, (hw _ (List.mem_of_getElem? (i := 127) rfl))⟩
  have hheld : ∀ q ∈ LT, ConstHeldL s q.1 q.2.1 := fun q hq => by
    have hh : ∀ p ∈ consts_1, Jvm.Lit.constHeld s p.1 p.2 := hcalls.1
    simp only [LT, List.mem_cons, List.not_mem_nil, or_false] at hq
    rcases hq with rfl
    · exact heldStart (hh (_, _) (by simp [consts_1])) (hw _ (List.mem_of_getElem? (i := 127) rfl)) (by decide) hcw (hw _ (List.mem_of_getElem? (i := 19) rfl)) (hw _ (List.mem_of_getElem? (i := 2) rfl))
  have hinv := inv_start hlink hheld
  obtain ⟨cz, Scz, ecz⟩ := sta_int (hsets _ (List.mem_of_getElem? (i := 1) rfl)) (hsets _ (List.mem_of_getElem? (i := 0) rfl))
  have hcz : Compact s cz := ⟨Scz, sta_nz ecz hcw⟩
  obtain ⟨n1, hn⟩ := and_e hn
  obtain ⟨n2, hn⟩ := and_e hn
  obtain ⟨n3, hn⟩ := and_e hn
  obtain ⟨n4, hn⟩ := and_e hn
  obtain ⟨n5, hn⟩ := and_e hn
  obtain ⟨n6, hn⟩ := and_e hn
  obtain ⟨n7, n8⟩ := and_e hn
  obtain ⟨lv, sl, el, evl⟩ := sta_ref (Cond.before_iff.mpr n1) (Or.inr ⟨(hw _ (List.mem_of_getElem? (i := 65) rfl)), (hw _ (List.mem_of_getElem? (i := 66) rfl))⟩)
  obtain ⟨em, se, ee, eve⟩ := sta_ref (Cond.before_iff.mpr n2) (Or.inr ⟨(hw _ (List.mem_of_getElem? (i := 55) rfl)), (hw _ (List.mem_of_getElem? (i := 81) rfl))⟩)
  have fo := fld_int evl (Cond.before_iff.mpr n3)
  obtain ⟨re, fr, er, evr⟩ := fld_ref eve n4
  obtain ⟨te, ft, at0⟩ := fld_arr0 evr n5 n6
  have fd := fld_null eve (Cond.before_iff.mpr n7)
  have fl := fld_same eve evl n8
  obtain ⟨n, o, h1, h2, h3, v, locs, nw, rfl, hq, N, -, -, -, rfl⟩ := (con_LAW hw hcz ⟨sl, se, el, fo, ⟨ee, fr, fd, fl⟩, er, ft, at0⟩ : Con x code maxLocals ret room_1 s LT tables_1 _ s.heap [] [] _) l p e ha hc1 hk s m _ below hf ((Spec.applies_iff_loose hf).mp happ).1 ⟨rfl, rfl, hinv⟩ trivial
  refine ⟨n, _, h1, h2, h3, hpost _ _ _ _ _ _ ⟨Cond.after_iff.mpr rfl, Cond.after_iff.mpr (eq_i res_at (Term.int_eval (1)) rfl), trivial⟩ ⟨hq.1, hq.2.1, hq.2.2.1, (hq.2.2.2.sift fun y hy => Or.inr (N y hy)).mono (by decide) (by decide)⟩⟩
theorem main_1_1 : Claimed_1_1 := comes_1 fun _ _ _ _ _ _ h hF => ⟨h.1, hF⟩
theorem main_1_2 : Claimed_1_2 := comes_1 fun _ _ _ _ _ _ h hF => ⟨h.2.1, hF⟩
end Jvm.Pilot.@@N@@
namespace Jvm.Pilot.@@N@@
open Jvm Jvm.ClassFile Sem Op Lib Jvm.Free Jvm.Stand Jvm.Pilot.@@N@@.Jvm.D
/-! MADE BY PROGRAM (witnessworld.py) out of the Statement's table words and the real class files: 24 classes; the members and pool entries that the words name. The judged class is class 1, her method 1. -/
namespace start1
open Jvm.ClassFile
def u (s : String) : CpInfo := .utf8 (stringToUtf16 s)
/-- a pool by its gaps: so many unusable entries, then the entry; so many at the end -/
def gap : Nat → List CpInfo → List CpInfo
  | 0, r => r
  | n + 1, r => .unusable :: gap n r
def poolList (es : List (Nat × CpInfo)) (last : Nat) : List CpInfo := es.foldr (fun e r => gap e.1 (e.2 :: r)) (gap last [])
def pool (es : List (Nat × CpInfo)) (last : Nat) : Array CpInfo := ⟨poolList es last⟩
def fileOf (pool : Array CpInfo) (this : Nat) (attrs : Array Attribute := #[]) (ms : Array MethodInfo := #[]) (fl : Nat := 33) (sup : Nat := 0) (ifs : Array Nat := #[]) (fds : Array FieldInfo := #[]) : ClassFile where
  minorVersion := 0
  majorVersion := 65
  constantPool := pool
  accessFlags := fl
  thisClass := this
  superClass := sup
  interfaces := ifs
  fields := fds
  methods := ms
  attributes := attrs
def plain (name : String) (sup : Option ClassId) : Class where
  name := name
  kind := .ordinary
  loader := none
  accessFlags := 33
  super := sup
  interfaces := #[]
  cf := none
  fields := #[]
  methods := #[]
  instanceTypes := #[]
  staticTypes := #[]
  resolved := #[]
  callSites := []
  init := .initialized
  statics := none
  mirror := none

def pool0 : Array CpInfo := pool [(5, u "<init>"), (0, u "()V"), (1, .class_ 10), (1, u "java/lang/Object")] 113

def k0c0 : Code := { maxStack := 0, maxLocals := 1, code := object_method_1_code, exceptionTable := #[], attributes := #[] }
def k0m0 : Method := { name := "<init>", desc := "()V", sig := { parameters := [], returnType := none }, accessFlags := 1, code := some k0c0 }
/-- java/lang/Object -/
def k0 : Class := { plain "java/lang/Object" none with
  accessFlags := 33
  interfaces := #[]
  cf := some (fileOf pool0 8 #[] #[{ accessFlags := 1, nameIndex := 5, descriptorIndex := 6, attributes := #[] }] 33 0 #[] #[])
  fields := #[]
  methods := #[k0m0]
  instanceTypes := #[]
  staticTypes := #[]
  resolved := Array.replicate 124 none
  statics := none }

def pool1 : Array CpInfo := pool [(2, .class_ 4), (1, u "java/lang/Object"), (0, u "<init>"), (0, u "()V"), (0, .class_ 8), (0, u "java/lang/String"), (0, .methodref 7 10), (0, .nameAndType 5 11), (0, u "([C)V"), (0, .integer 65535), (0, .class_ 14), (0, u "com/example/causeway_health/causewayhealth/convert/Delimiters"), (0, .methodref 13 16), (0, .nameAndType 5 17), (0, u "(CCCCC)V"), (0, .methodref 19 20), (0, .class_ 21), (0, .nameAndType 22 23), (0, u "com/example/causeway_health/causewayhealth/convert/V2Value"), (0, u "whole"), (0, u "(Ljava/lang/String;Lcom/example/causeway_health/causewayhealth/convert/Delimiters;)Lcom/example/causeway_health/causewayhealth/convert/V2Value;"), (0, .methodref 19 25), (0, .nameAndType 26 27), (0, u "empty"), (0, u "()Lcom/example/causeway_health/causewayhealth/convert/V2Value;"), (0, .methodref 19 29), (0, .nameAndType 30 31), (0, u "isEmpty"), (0, u "()Z"), (0, .methodref 19 33), (0, .nameAndType 34 35), (0, u "raw"), (0, u "()Ljava/lang/String;"), (0, .methodref 7 29), (0, .methodref 19 38), (0, .nameAndType 39 40), (0, u "delimiters"), (0, u "()Lcom/example/causeway_health/causewayhealth/convert/Delimiters;"), (0, .methodref 19 42), (0, .nameAndType 43 44), (0, u "depth"), (0, u "()I"), (0, .methodref 19 46), (0, .nameAndType 47 48), (0, u "component"), (0, u "(I)Lcom/example/causeway_health/causewayhealth/convert/V2Value;"), (0, .methodref 7 50), (0, .nameAndType 51 52), (0, u "equals"), (0, u "(Ljava/lang/Object;)Z"), (0, .class_ 54), (0, u "com/example/causeway_health/causewayhealth/convert/V2ValueWholePinLaw"), (2, u "law"), (0, u "(IIIII)Z")] 5

def k1m0 : Method := { name := "<init>", desc := "()V", sig := { parameters := [], returnType := none }, accessFlags := 1, code := none }
def k1c1 : Code := { maxStack := 7, maxLocals := 21, code := code, exceptionTable := #[], attributes := #[] }
def k1m1 : Method := { name := "law", desc := "(IIIII)Z", sig := { parameters := [.int, .int, .int, .int, .int], returnType := some .boolean }, accessFlags := 9, code := some k1c1 }
/-- com/example/causeway_health/causewayhealth/convert/V2ValueWholePinLaw -/
def k1 : Class := { plain "com/example/causeway_health/causewayhealth/convert/V2ValueWholePinLaw" (some 0) with
  accessFlags := 49
  interfaces := #[]
  cf := some (fileOf pool1 53 #[] #[{ accessFlags := 1, nameIndex := 5, descriptorIndex := 6, attributes := #[] }, { accessFlags := 9, nameIndex := 57, descriptorIndex := 58, attributes := #[] }] 49 2 #[] #[])
  fields := #[]
  methods := #[k1m0, k1m1]
  instanceTypes := #[]
  staticTypes := #[]
  resolved := Array.replicate 64 none
  statics := none }

def pool2 : Array CpInfo := pool [(1, .class_ 2), (0, u "java/io/Serializable"), (0, .class_ 4), (0, u "java/lang/Object")] 2

/-- java/io/Serializable -/
def k2 : Class := { plain "java/io/Serializable" (some 0) with
  accessFlags := 1537
  interfaces := #[]
  cf := some (fileOf pool2 1 #[] #[] 1537 3 #[] #[])
  fields := #[]
  methods := #[]
  instanceTypes := #[]
  staticTypes := #[]
  resolved := Array.replicate 7 none
  statics := none }

def pool3 : Array CpInfo := pool [(1, .class_ 2), (0, u "java/lang/Comparable"), (0, .class_ 4), (0, u "java/lang/Object")] 7

/-- java/lang/Comparable -/
def k3 : Class := { plain "java/lang/Comparable" (some 0) with
  accessFlags := 1537
  interfaces := #[]
  cf := some (fileOf pool3 1 #[] #[] 1537 3 #[] #[])
  fields := #[]
  methods := #[]
  instanceTypes := #[]
  staticTypes := #[]
  resolved := Array.replicate 12 none
  statics := none }

def pool4 : Array CpInfo := pool [(2, .class_ 4), (1, u "java/lang/CharSequence"), (42, .class_ 48), (0, u "java/lang/CharSequence$1CodePointIterator"), (10, .class_ 60), (0, u "java/lang/CharSequence$1CharIterator"), (5, .class_ 67), (0, u "java/lang/Object")] 63

/-- java/lang/CharSequence -/
def k4 : Class := { plain "java/lang/CharSequence" (some 0) with
  accessFlags := 1537
  interfaces := #[]
  cf := some (fileOf pool4 2 #[.nestMembers #[47, 59]] #[] 1537 66 #[] #[])
  fields := #[]
  methods := #[]
  instanceTypes := #[]
  staticTypes := #[]
  resolved := Array.replicate 131 none
  statics := none }

def pool5 : Array CpInfo := pool [(1, .class_ 2), (0, u "java/lang/constant/Constable"), (0, .class_ 4), (0, u "java/lang/Object")] 6

/-- java/lang/constant/Constable -/
def k5 : Class := { plain "java/lang/constant/Constable" (some 0) with
  accessFlags := 1537
  interfaces := #[]
  cf := some (fileOf pool5 1 #[] #[] 1537 3 #[] #[])
  fields := #[]
  methods := #[]
  instanceTypes := #[]
  staticTypes := #[]
  resolved := Array.replicate 11 none
  statics := none }

def pool6 : Array CpInfo := pool [(1, .class_ 2), (0, u "java/lang/constant/ConstantDesc"), (0, .class_ 4), (0, u "java/lang/Object")] 32

/-- java/lang/constant/ConstantDesc -/
def k6 : Class := { plain "java/lang/constant/ConstantDesc" (some 0) with
  accessFlags := 1537
  interfaces := #[]
  cf := some (fileOf pool6 1 #[] #[] 1537 3 #[] #[])
  fields := #[]
  methods := #[]
  instanceTypes := #[]
  staticTypes := #[]
  resolved := Array.replicate 37 none
  statics := none }

def pool7 : Array CpInfo := pool [(1, .methodref 2 3), (0, .class_ 4), (0, .nameAndType 5 6), (0, u "java/lang/Object"), (0, u "<init>"), (0, u "()V"), (0, .string 8), (0, u ""), (0, .fieldref 10 11), (0, .class_ 12), (0, .nameAndType 13 14), (0, u "java/lang/String"), (0, u "value"), (0, u "[B"), (0, .fieldref 10 16), (0, .nameAndType 17 18), (0, u "coder"), (0, u "B"), (2, u "hash"), (0, u "I"), (2, u "hashIsZero"), (0, u "Z"), (0, .methodref 10 28), (0, .nameAndType 5 29), (0, u "([CIILjava/lang/Void;)V"), (8, .fieldref 10 39), (0, .nameAndType 40 26), (0, u "COMPACT_STRINGS"), (1, .class_ 44), (1, u "java/lang/StringUTF16"), (0, u "compress"), (1, .methodref 42 48), (0, .nameAndType 49 50), (0, u "coderFromArrayLen"), (0, u "([BI)B"), (91, u "()Z"), (34, .methodref 42 178), (0, .nameAndType 45 179), (0, u "([CII)[B"), (363, u "equals"), (29, u "(Ljava/lang/Object;)Z"), (1, .class_ 576), (0, u "java/lang/CharSequence"), (22, u "CASE_INSENSITIVE_ORDER"), (0, u "Ljava/util/Comparator;"), (91, u "isEmpty"), (317, u "([C)V"), (90, u "serialPersistentFields"), (0, u "[Ljava/io/ObjectStreamField;"), (0, .class_ 1104), (0, u "java/lang/String$CaseInsensitiveComparator"), (1, .class_ 1107), (0, u "java/io/Serializable"), (0, .class_ 1109), (0, u "java/lang/Comparable"), (0, .class_ 1111), (0, u "java/lang/constant/Constable"), (0, .class_ 1113), (0, u "java/lang/constant/ConstantDesc"), (2, u "serialVersionUID"), (0, u "J"), (3, u "REPL"), (0, u "C"), (2, u "LATIN1"), (1, u "UTF16")] 323

def k7m0 : Method := { name := "<init>", desc := "()V", sig := { parameters := [], returnType := none }, accessFlags := 1, code := none }
def k7c1 : Code := { maxStack := 5, maxLocals := 2, code := jdk_42_method_3_code, exceptionTable := #[], attributes := #[] }
def k7m1 : Method := { name := "<init>", desc := "([C)V", sig := { parameters := [(.array .char)], returnType := none }, accessFlags := 1, code := some k7c1 }
def k7c2 : Code := { maxStack := 1, maxLocals := 1, code := jdk_42_method_55_code, exceptionTable := #[], attributes := #[] }
def k7m2 : Method := { name := "isEmpty", desc := "()Z", sig := { parameters := [], returnType := some .boolean }, accessFlags := 1, code := some k7c2 }
def k7c3 : Code := { maxStack := 2, maxLocals := 3, code := jdk_42_method_66_code, exceptionTable := #[], attributes := #[] }
def k7m3 : Method := { name := "equals", desc := "(Ljava/lang/Object;)Z", sig := { parameters := [(.object "java/lang/Object")], returnType := some .boolean }, accessFlags := 1, code := some k7c3 }
def k7c4 : Code := { maxStack := 4, maxLocals := 6, code := jdk_42_method_149_code, exceptionTable := #[], attributes := #[] }
def k7m4 : Method := { name := "<init>", desc := "([CIILjava/lang/Void;)V", sig := { parameters := [(.array .char), .int, .int, (.object "java/lang/Void")], returnType := none }, accessFlags := 2, code := some k7c4 }
/-- java/lang/String -/
def k7 : Class := { plain "java/lang/String" (some 0) with
  accessFlags := 49
  interfaces := #[2, 3, 4, 5, 6]
  cf := some (fileOf pool7 10 #[.nestMembers #[1103]] #[{ accessFlags := 1, nameIndex := 5, descriptorIndex := 6, attributes := #[] }, { accessFlags := 1, nameIndex := 5, descriptorIndex := 1010, attributes := #[] }, { accessFlags := 1, nameIndex := 692, descriptorIndex := 142, attributes := #[] }, { accessFlags := 1, nameIndex := 543, descriptorIndex := 573, attributes := #[] }, { accessFlags := 2, nameIndex := 5, descriptorIndex := 29, attributes := #[] }] 49 2 #[1106, 1108, 575, 1110, 1112] #[{ accessFlags := 18, nameIndex := 13, descriptorIndex := 14, attributes := #[] }, { accessFlags := 18, nameIndex := 17, descriptorIndex := 18, attributes := #[] }, { accessFlags := 2, nameIndex := 21, descriptorIndex := 22, attributes := #[] }, { accessFlags := 2, nameIndex := 25, descriptorIndex := 26, attributes := #[] }, { accessFlags := 26, nameIndex := 1116, descriptorIndex := 1117, attributes := #[] }, { accessFlags := 24, nameIndex := 40, descriptorIndex := 26, attributes := #[] }, { accessFlags := 26, nameIndex := 1101, descriptorIndex := 1102, attributes := #[] }, { accessFlags := 26, nameIndex := 1121, descriptorIndex := 1122, attributes := #[] }, { accessFlags := 25, nameIndex := 599, descriptorIndex := 600, attributes := #[] }, { accessFlags := 24, nameIndex := 1125, descriptorIndex := 18, attributes := #[] }, { accessFlags := 24, nameIndex := 1127, descriptorIndex := 18, attributes := #[] }])
  fields := #[{ name := "value", type := (.array .byte), accessFlags := 18, slot := 0, constantValue := 0 }, { name := "coder", type := .byte, accessFlags := 18, slot := 1, constantValue := 0 }, { name := "hash", type := .int, accessFlags := 2, slot := 2, constantValue := 0 }, { name := "hashIsZero", type := .boolean, accessFlags := 2, slot := 3, constantValue := 0 }, { name := "serialVersionUID", type := .long, accessFlags := 26, slot := 0, constantValue := 0 }, { name := "COMPACT_STRINGS", type := .boolean, accessFlags := 24, slot := 1, constantValue := 0 }, { name := "serialPersistentFields", type := (.array (.object "java/io/ObjectStreamField")), accessFlags := 26, slot := 2, constantValue := 0 }, { name := "REPL", type := .char, accessFlags := 26, slot := 3, constantValue := 0 }, { name := "CASE_INSENSITIVE_ORDER", type := (.object "java/util/Comparator"), accessFlags := 25, slot := 4, constantValue := 0 }, { name := "LATIN1", type := .byte, accessFlags := 24, slot := 5, constantValue := 0 }, { name := "UTF16", type := .byte, accessFlags := 24, slot := 6, constantValue := 0 }]
  methods := #[k7m0, k7m1, k7m2, k7m3, k7m4]
  instanceTypes := #[(.array .byte), .byte, .int, .boolean]
  staticTypes := #[.long, .boolean, (.array (.object "java/io/ObjectStreamField")), .char, (.object "java/util/Comparator"), .byte, .byte]
  resolved := Array.replicate 1451 none
  statics := some 0 }

def pool8 : Array CpInfo := pool [(6, .class_ 8), (1, u "java/lang/Object"), (0, u "<init>"), (0, u "()V"), (1, .class_ 14), (1, u "java/lang/StringUTF16"), (31, u "$assertionsDisabled"), (0, u "Z"), (13, u "HI_BYTE_SHIFT"), (0, u "I"), (2, u "LO_BYTE_SHIFT"), (49, .methodref 12 116), (0, .nameAndType 117 118), (0, u "compress"), (0, u "([CI[BII)I"), (3, u "([CII)[B"), (138, u "coderFromArrayLen"), (0, u "([BI)B"), (106, .class_ 371), (1, u "java/lang/StringUTF16$LinesSpliterator"), (58, u "MAX_LENGTH"), (196, .class_ 628), (0, u "java/lang/StringUTF16$CodePointsSpliterator"), (0, .class_ 630), (0, u "java/lang/StringUTF16$CharsSpliterator")] 4

def k8m0 : Method := { name := "<init>", desc := "()V", sig := { parameters := [], returnType := none }, accessFlags := 0, code := none }
def k8c1 : Code := { maxStack := 2, maxLocals := 2, code := jdk_52_method_15_code, exceptionTable := #[], attributes := #[] }
def k8m1 : Method := { name := "coderFromArrayLen", desc := "([BI)B", sig := { parameters := [(.array .byte), .int], returnType := some .byte }, accessFlags := 8, code := some k8c1 }
def k8c2 : Code := { maxStack := 5, maxLocals := 6, code := jdk_52_method_16_code, exceptionTable := #[], attributes := #[] }
def k8m2 : Method := { name := "compress", desc := "([CII)[B", sig := { parameters := [(.array .char), .int, .int], returnType := some (.array .byte) }, accessFlags := 9, code := some k8c2 }
def k8c3 : Code := { maxStack := 3, maxLocals := 7, code := jdk_52_method_21_code, exceptionTable := #[], attributes := #[] }
def k8m3 : Method := { name := "compress", desc := "([CI[BII)I", sig := { parameters := [(.array .char), .int, (.array .byte), .int, .int], returnType := some .int }, accessFlags := 9, code := some k8c3 }
/-- java/lang/StringUTF16 -/
def k8 : Class := { plain "java/lang/StringUTF16" (some 0) with
  accessFlags := 48
  interfaces := #[]
  cf := some (fileOf pool8 12 #[.nestMembers #[627, 629, 369]] #[{ accessFlags := 0, nameIndex := 9, descriptorIndex := 10, attributes := #[] }, { accessFlags := 8, nameIndex := 261, descriptorIndex := 262, attributes := #[] }, { accessFlags := 9, nameIndex := 117, descriptorIndex := 122, attributes := #[] }, { accessFlags := 9, nameIndex := 117, descriptorIndex := 118, attributes := #[] }] 48 6 #[] #[{ accessFlags := 26, nameIndex := 61, descriptorIndex := 62, attributes := #[] }, { accessFlags := 26, nameIndex := 65, descriptorIndex := 62, attributes := #[] }, { accessFlags := 24, nameIndex := 430, descriptorIndex := 62, attributes := #[] }, { accessFlags := 4120, nameIndex := 46, descriptorIndex := 47, attributes := #[] }])
  fields := #[{ name := "HI_BYTE_SHIFT", type := .int, accessFlags := 26, slot := 0, constantValue := 0 }, { name := "LO_BYTE_SHIFT", type := .int, accessFlags := 26, slot := 1, constantValue := 0 }, { name := "MAX_LENGTH", type := .int, accessFlags := 24, slot := 2, constantValue := 0 }, { name := "$assertionsDisabled", type := .boolean, accessFlags := 4120, slot := 3, constantValue := 0 }]
  methods := #[k8m0, k8m1, k8m2, k8m3]
  instanceTypes := #[]
  staticTypes := #[.int, .int, .int, .boolean]
  resolved := Array.replicate 635 none
  statics := none }

def pool9 : Array CpInfo := pool [(1, .methodref 2 3), (0, .class_ 4), (0, .nameAndType 5 6), (0, u "java/lang/Object"), (0, u "<init>"), (0, u "()V"), (0, .class_ 8), (0, u "java/lang/Record")] 13

def k9c0 : Code := { maxStack := 1, maxLocals := 1, code := jdk_30_method_1_code, exceptionTable := #[], attributes := #[] }
def k9m0 : Method := { name := "<init>", desc := "()V", sig := { parameters := [], returnType := none }, accessFlags := 4, code := some k9c0 }
/-- java/lang/Record -/
def k9 : Class := { plain "java/lang/Record" (some 0) with
  accessFlags := 1057
  interfaces := #[]
  cf := some (fileOf pool9 7 #[] #[{ accessFlags := 4, nameIndex := 5, descriptorIndex := 6, attributes := #[] }] 1057 2 #[] #[])
  fields := #[]
  methods := #[k9m0]
  instanceTypes := #[]
  staticTypes := #[]
  resolved := Array.replicate 22 none
  statics := none }

def pool10 : Array CpInfo := pool [(1, .methodref 2 3), (0, .class_ 4), (0, .nameAndType 5 6), (0, u "java/lang/Record"), (0, u "<init>"), (0, u "()V"), (0, .fieldref 8 9), (0, .class_ 10), (0, .nameAndType 11 12), (0, u "com/example/causeway_health/causewayhealth/convert/Delimiters"), (0, u "field"), (0, u "C"), (0, .fieldref 8 14), (0, .nameAndType 15 12), (0, u "component"), (0, .fieldref 8 17), (0, .nameAndType 18 12), (0, u "repetition"), (0, .fieldref 8 20), (0, .nameAndType 21 12), (0, u "escape"), (0, .fieldref 8 23), (0, .nameAndType 24 12), (0, u "subcomponent"), (46, u "(CCCCC)V"), (40, u "ESCAPE_LETTERS"), (0, u "Ljava/lang/String;")] 51

def k10c0 : Code := { maxStack := 2, maxLocals := 6, code := prog_18_method_1_code, exceptionTable := #[], attributes := #[] }
def k10m0 : Method := { name := "<init>", desc := "(CCCCC)V", sig := { parameters := [.char, .char, .char, .char, .char], returnType := none }, accessFlags := 1, code := some k10c0 }
/-- com/example/causeway_health/causewayhealth/convert/Delimiters -/
def k10 : Class := { plain "com/example/causeway_health/causewayhealth/convert/Delimiters" (some 9) with
  accessFlags := 49
  interfaces := #[]
  cf := some (fileOf pool10 8 #[] #[{ accessFlags := 1, nameIndex := 5, descriptorIndex := 71, attributes := #[] }] 49 2 #[] #[{ accessFlags := 18, nameIndex := 11, descriptorIndex := 12, attributes := #[] }, { accessFlags := 18, nameIndex := 15, descriptorIndex := 12, attributes := #[] }, { accessFlags := 18, nameIndex := 18, descriptorIndex := 12, attributes := #[] }, { accessFlags := 18, nameIndex := 21, descriptorIndex := 12, attributes := #[] }, { accessFlags := 18, nameIndex := 24, descriptorIndex := 12, attributes := #[] }, { accessFlags := 26, nameIndex := 112, descriptorIndex := 113, attributes := #[] }])
  fields := #[{ name := "field", type := .char, accessFlags := 18, slot := 0, constantValue := 0 }, { name := "component", type := .char, accessFlags := 18, slot := 1, constantValue := 0 }, { name := "repetition", type := .char, accessFlags := 18, slot := 2, constantValue := 0 }, { name := "escape", type := .char, accessFlags := 18, slot := 3, constantValue := 0 }, { name := "subcomponent", type := .char, accessFlags := 18, slot := 4, constantValue := 0 }, { name := "ESCAPE_LETTERS", type := (.object "java/lang/String"), accessFlags := 26, slot := 0, constantValue := 0 }]
  methods := #[k10m0]
  instanceTypes := #[.char, .char, .char, .char, .char]
  staticTypes := #[(.object "java/lang/String")]
  resolved := Array.replicate 165 none
  statics := none }

def pool11 : Array CpInfo := pool [(1, .methodref 2 3), (0, .class_ 4), (0, .nameAndType 5 6), (0, u "java/lang/Object"), (0, u "<init>"), (0, u "()V"), (0, .fieldref 8 9), (0, .class_ 10), (0, .nameAndType 11 12), (0, u "com/example/causeway_health/causewayhealth/convert/V2Value"), (0, u "raw"), (0, u "Ljava/lang/String;"), (0, .fieldref 8 14), (0, .nameAndType 15 16), (0, u "delimiters"), (0, u "Lcom/example/causeway_health/causewayhealth/convert/Delimiters;"), (0, .fieldref 8 18), (0, .nameAndType 19 20), (0, u "level"), (0, u "Lcom/example/causeway_health/causewayhealth/convert/V2Value$Level;"), (3, .methodref 25 26), (0, .class_ 27), (0, .nameAndType 28 29), (0, u "java/lang/String"), (0, u "isEmpty"), (0, u "()Z"), (25, .fieldref 8 56), (0, .nameAndType 57 58), (0, u "EMPTY"), (0, u "Lcom/example/causeway_health/causewayhealth/convert/V2Value;"), (1, .class_ 62), (1, u "com/example/causeway_health/causewayhealth/convert/V2Value$Level"), (1, .methodref 8 65), (0, .nameAndType 5 66), (0, u "(Ljava/lang/String;Lcom/example/causeway_health/causewayhealth/convert/Delimiters;Lcom/example/causeway_health/causewayhealth/convert/V2Value$Level;)V"), (8, .fieldref 60 76), (0, .nameAndType 77 20), (0, u "SUBCOMPONENT"), (4, .methodref 60 83), (0, .nameAndType 84 85), (0, u "ordinal"), (0, u "()I"), (9, .methodref 60 96), (0, .nameAndType 97 98), (0, u "below"), (0, u "()Lcom/example/causeway_health/causewayhealth/convert/V2Value$Level;"), (0, .fieldref 8 100), (0, .nameAndType 101 102), (0, u "components"), (0, u "[Lcom/example/causeway_health/causewayhealth/convert/V2Value;"), (2, u "component"), (20, u "()Ljava/lang/String;"), (11, u "whole"), (0, u "(Ljava/lang/String;Lcom/example/causeway_health/causewayhealth/convert/Delimiters;)Lcom/example/causeway_health/causewayhealth/convert/V2Value;"), (0, u "empty"), (0, u "()Lcom/example/causeway_health/causewayhealth/convert/V2Value;"), (0, u "depth"), (0, u "()Lcom/example/causeway_health/causewayhealth/convert/Delimiters;"), (0, u "(I)Lcom/example/causeway_health/causewayhealth/convert/V2Value;")] 24

def k11c0 : Code := { maxStack := 2, maxLocals := 4, code := prog_45_method_1_code, exceptionTable := #[], attributes := #[] }
def k11m0 : Method := { name := "<init>", desc := "(Ljava/lang/String;Lcom/example/causeway_health/causewayhealth/convert/Delimiters;Lcom/example/causeway_health/causewayhealth/convert/V2Value$Level;)V", sig := { parameters := [(.object "java/lang/String"), (.object "com/example/causeway_health/causewayhealth/convert/Delimiters"), (.object "com/example/causeway_health/causewayhealth/convert/V2Value$Level")], returnType := none }, accessFlags := 2, code := some k11c0 }
def k11c1 : Code := { maxStack := 5, maxLocals := 2, code := prog_45_method_3_code, exceptionTable := #[], attributes := #[] }
def k11m1 : Method := { name := "whole", desc := "(Ljava/lang/String;Lcom/example/causeway_health/causewayhealth/convert/Delimiters;)Lcom/example/causeway_health/causewayhealth/convert/V2Value;", sig := { parameters := [(.object "java/lang/String"), (.object "com/example/causeway_health/causewayhealth/convert/Delimiters")], returnType := some (.object "com/example/causeway_health/causewayhealth/convert/V2Value") }, accessFlags := 8, code := some k11c1 }
def k11c2 : Code := { maxStack := 1, maxLocals := 0, code := prog_45_method_4_code, exceptionTable := #[], attributes := #[] }
def k11m2 : Method := { name := "empty", desc := "()Lcom/example/causeway_health/causewayhealth/convert/V2Value;", sig := { parameters := [], returnType := some (.object "com/example/causeway_health/causewayhealth/convert/V2Value") }, accessFlags := 8, code := some k11c2 }
def k11c3 : Code := { maxStack := 1, maxLocals := 1, code := prog_45_method_5_code, exceptionTable := #[], attributes := #[] }
def k11m3 : Method := { name := "raw", desc := "()Ljava/lang/String;", sig := { parameters := [], returnType := some (.object "java/lang/String") }, accessFlags := 1, code := some k11c3 }
def k11c4 : Code := { maxStack := 1, maxLocals := 1, code := prog_45_method_7_code, exceptionTable := #[], attributes := #[] }
def k11m4 : Method := { name := "isEmpty", desc := "()Z", sig := { parameters := [], returnType := some .boolean }, accessFlags := 1, code := some k11c4 }
def k11c5 : Code := { maxStack := 1, maxLocals := 1, code := prog_45_method_8_code, exceptionTable := #[], attributes := #[] }
def k11m5 : Method := { name := "depth", desc := "()I", sig := { parameters := [], returnType := some .int }, accessFlags := 0, code := some k11c5 }
def k11c6 : Code := { maxStack := 1, maxLocals := 1, code := prog_45_method_9_code, exceptionTable := #[], attributes := #[] }
def k11m6 : Method := { name := "delimiters", desc := "()Lcom/example/causeway_health/causewayhealth/convert/Delimiters;", sig := { parameters := [], returnType := some (.object "com/example/causeway_health/causewayhealth/convert/Delimiters") }, accessFlags := 0, code := some k11c6 }
def k11c7 : Code := { maxStack := 7, maxLocals := 9, code := prog_45_method_10_code, exceptionTable := #[], attributes := #[] }
def k11m7 : Method := { name := "component", desc := "(I)Lcom/example/causeway_health/causewayhealth/convert/V2Value;", sig := { parameters := [.int], returnType := some (.object "com/example/causeway_health/causewayhealth/convert/V2Value") }, accessFlags := 1, code := some k11c7 }
/-- com/example/causeway_health/causewayhealth/convert/V2Value -/
def k11 : Class := { plain "com/example/causeway_health/causewayhealth/convert/V2Value" (some 0) with
  accessFlags := 49
  interfaces := #[]
  cf := some (fileOf pool11 8 #[.nestMembers #[60]] #[{ accessFlags := 2, nameIndex := 5, descriptorIndex := 66, attributes := #[] }, { accessFlags := 8, nameIndex := 138, descriptorIndex := 139, attributes := #[] }, { accessFlags := 8, nameIndex := 140, descriptorIndex := 141, attributes := #[] }, { accessFlags := 1, nameIndex := 11, descriptorIndex := 126, attributes := #[] }, { accessFlags := 1, nameIndex := 28, descriptorIndex := 29, attributes := #[] }, { accessFlags := 0, nameIndex := 142, descriptorIndex := 85, attributes := #[] }, { accessFlags := 0, nameIndex := 15, descriptorIndex := 143, attributes := #[] }, { accessFlags := 1, nameIndex := 105, descriptorIndex := 144, attributes := #[] }] 49 2 #[] #[{ accessFlags := 26, nameIndex := 57, descriptorIndex := 58, attributes := #[] }, { accessFlags := 18, nameIndex := 11, descriptorIndex := 12, attributes := #[] }, { accessFlags := 18, nameIndex := 15, descriptorIndex := 16, attributes := #[] }, { accessFlags := 18, nameIndex := 19, descriptorIndex := 20, attributes := #[] }, { accessFlags := 66, nameIndex := 101, descriptorIndex := 102, attributes := #[] }])
  fields := #[{ name := "EMPTY", type := (.object "com/example/causeway_health/causewayhealth/convert/V2Value"), accessFlags := 26, slot := 0, constantValue := 0 }, { name := "raw", type := (.object "java/lang/String"), accessFlags := 18, slot := 0, constantValue := 0 }, { name := "delimiters", type := (.object "com/example/causeway_health/causewayhealth/convert/Delimiters"), accessFlags := 18, slot := 1, constantValue := 0 }, { name := "level", type := (.object "com/example/causeway_health/causewayhealth/convert/V2Value$Level"), accessFlags := 18, slot := 2, constantValue := 0 }, { name := "components", type := (.array (.object "com/example/causeway_health/causewayhealth/convert/V2Value")), accessFlags := 66, slot := 3, constantValue := 0 }]
  methods := #[k11m0, k11m1, k11m2, k11m3, k11m4, k11m5, k11m6, k11m7]
  instanceTypes := #[(.object "java/lang/String"), (.object "com/example/causeway_health/causewayhealth/convert/Delimiters"), (.object "com/example/causeway_health/causewayhealth/convert/V2Value$Level"), (.array (.object "com/example/causeway_health/causewayhealth/convert/V2Value"))]
  staticTypes := #[(.object "com/example/causeway_health/causewayhealth/convert/V2Value")]
  resolved := Array.replicate 169 none
  statics := some 1 }

def pool12 : Array CpInfo := pool [(2, .class_ 4), (1, u "java/lang/Enum"), (0, u "name"), (0, u "Ljava/lang/String;"), (0, .fieldref 2 8), (0, .nameAndType 9 10), (0, u "ordinal"), (0, u "I"), (1, .class_ 14), (1, u "java/lang/Object"), (4, u "hash"), (86, .class_ 108), (1, u "java/lang/Enum$EnumDesc"), (2, .class_ 112), (0, u "java/lang/constant/Constable"), (0, .class_ 114), (0, u "java/lang/Comparable"), (0, .class_ 116), (0, u "java/io/Serializable"), (9, u "()I")] 77

def k12c0 : Code := { maxStack := 1, maxLocals := 1, code := jdk_37_method_2_code, exceptionTable := #[], attributes := #[] }
def k12m0 : Method := { name := "ordinal", desc := "()I", sig := { parameters := [], returnType := some .int }, accessFlags := 17, code := some k12c0 }
/-- java/lang/Enum -/
def k12 : Class := { plain "java/lang/Enum" (some 0) with
  accessFlags := 1057
  interfaces := #[5, 3, 2]
  cf := some (fileOf pool12 2 #[.nestMembers #[106]] #[{ accessFlags := 17, nameIndex := 9, descriptorIndex := 126, attributes := #[] }] 1057 12 #[111, 113, 115] #[{ accessFlags := 18, nameIndex := 5, descriptorIndex := 6, attributes := #[] }, { accessFlags := 18, nameIndex := 9, descriptorIndex := 10, attributes := #[] }, { accessFlags := 2, nameIndex := 19, descriptorIndex := 10, attributes := #[] }])
  fields := #[{ name := "name", type := (.object "java/lang/String"), accessFlags := 18, slot := 0, constantValue := 0 }, { name := "ordinal", type := .int, accessFlags := 18, slot := 1, constantValue := 0 }, { name := "hash", type := .int, accessFlags := 2, slot := 2, constantValue := 0 }]
  methods := #[k12m0]
  instanceTypes := #[(.object "java/lang/String"), .int, .int]
  staticTypes := #[]
  resolved := Array.replicate 204 none
  statics := none }

def pool13 : Array CpInfo := pool [(1, .class_ 2), (0, u "com/example/causeway_health/causewayhealth/convert/V2Value$Level"), (2, u "REPETITION"), (0, u "Lcom/example/causeway_health/causewayhealth/convert/V2Value$Level;"), (2, u "COMPONENT"), (2, u "SUBCOMPONENT"), (2, u "$VALUES"), (0, u "[Lcom/example/causeway_health/causewayhealth/convert/V2Value$Level;"), (6, .class_ 25), (1, u "java/lang/Enum"), (6, .methodref 1 33), (0, .nameAndType 34 35), (0, u "ordinal"), (0, u "()I"), (20, u "below"), (0, u "()Lcom/example/causeway_health/causewayhealth/convert/V2Value$Level;"), (6, .class_ 65), (0, u "com/example/causeway_health/causewayhealth/convert/V2Value")] 2

def k13c0 : Code := { maxStack := 4, maxLocals := 1, code := prog_46_method_4_code, exceptionTable := #[], attributes := #[] }
def k13m0 : Method := { name := "below", desc := "()Lcom/example/causeway_health/causewayhealth/convert/V2Value$Level;", sig := { parameters := [], returnType := some (.object "com/example/causeway_health/causewayhealth/convert/V2Value$Level") }, accessFlags := 0, code := some k13c0 }
/-- com/example/causeway_health/causewayhealth/convert/V2Value$Level -/
def k13 : Class := { plain "com/example/causeway_health/causewayhealth/convert/V2Value$Level" (some 12) with
  accessFlags := 16432
  interfaces := #[]
  cf := some (fileOf pool13 1 #[.nestHost 64] #[{ accessFlags := 0, nameIndex := 56, descriptorIndex := 57, attributes := #[] }] 16432 23 #[] #[{ accessFlags := 16409, nameIndex := 5, descriptorIndex := 6, attributes := #[] }, { accessFlags := 16409, nameIndex := 9, descriptorIndex := 6, attributes := #[] }, { accessFlags := 16409, nameIndex := 12, descriptorIndex := 6, attributes := #[] }, { accessFlags := 4122, nameIndex := 15, descriptorIndex := 16, attributes := #[] }])
  fields := #[{ name := "REPETITION", type := (.object "com/example/causeway_health/causewayhealth/convert/V2Value$Level"), accessFlags := 16409, slot := 0, constantValue := 0 }, { name := "COMPONENT", type := (.object "com/example/causeway_health/causewayhealth/convert/V2Value$Level"), accessFlags := 16409, slot := 1, constantValue := 0 }, { name := "SUBCOMPONENT", type := (.object "com/example/causeway_health/causewayhealth/convert/V2Value$Level"), accessFlags := 16409, slot := 2, constantValue := 0 }, { name := "$VALUES", type := (.array (.object "com/example/causeway_health/causewayhealth/convert/V2Value$Level")), accessFlags := 4122, slot := 3, constantValue := 0 }]
  methods := #[k13m0]
  instanceTypes := #[(.object "java/lang/String"), .int, .int]
  staticTypes := #[(.object "com/example/causeway_health/causewayhealth/convert/V2Value$Level"), (.object "com/example/causeway_health/causewayhealth/convert/V2Value$Level"), (.object "com/example/causeway_health/causewayhealth/convert/V2Value$Level"), (.array (.object "com/example/causeway_health/causewayhealth/convert/V2Value$Level"))]
  resolved := Array.replicate 68 none
  statics := some 2 }

def pool14 : Array CpInfo := pool [(4, .class_ 6), (1, u "java/lang/Object"), (0, u "<init>"), (0, u "()V"), (5, .class_ 16), (1, u "java/lang/StringLatin1"), (104, u "$assertionsDisabled"), (0, u "Z"), (98, .class_ 223), (1, u "java/lang/StringLatin1$LinesSpliterator"), (166, .class_ 391), (0, u "java/lang/StringLatin1$CharsSpliterator")] 3

def k14m0 : Method := { name := "<init>", desc := "()V", sig := { parameters := [], returnType := none }, accessFlags := 0, code := none }
/-- java/lang/StringLatin1 -/
def k14 : Class := { plain "java/lang/StringLatin1" (some 0) with
  accessFlags := 48
  interfaces := #[]
  cf := some (fileOf pool14 14 #[.nestMembers #[390, 221]] #[{ accessFlags := 0, nameIndex := 7, descriptorIndex := 8, attributes := #[] }] 48 4 #[] #[{ accessFlags := 4120, nameIndex := 121, descriptorIndex := 122, attributes := #[] }])
  fields := #[{ name := "$assertionsDisabled", type := .boolean, accessFlags := 4120, slot := 0, constantValue := 0 }]
  methods := #[k14m0]
  instanceTypes := #[]
  staticTypes := #[.boolean]
  resolved := Array.replicate 395 none
  statics := none }

def pool15 : Array CpInfo := pool [(2, .class_ 4), (1, u "java/lang/Object"), (0, u "<init>"), (0, u "()V"), (17, .class_ 26), (1, u "jdk/internal/util/Preconditions"), (28, .class_ 56), (0, u "jdk/internal/util/Preconditions$4"), (57, .class_ 115), (0, u "jdk/internal/util/Preconditions$1"), (7, u "SIOOBE_FORMATTER"), (0, u "Ljava/util/function/BiFunction;"), (0, .class_ 126), (0, u "jdk/internal/util/Preconditions$2"), (3, u "AIOOBE_FORMATTER"), (0, .class_ 132), (0, u "jdk/internal/util/Preconditions$3"), (3, u "IOOBE_FORMATTER")] 57

def k15m0 : Method := { name := "<init>", desc := "()V", sig := { parameters := [], returnType := none }, accessFlags := 1, code := none }
/-- jdk/internal/util/Preconditions -/
def k15 : Class := { plain "jdk/internal/util/Preconditions" (some 0) with
  accessFlags := 33
  interfaces := #[]
  cf := some (fileOf pool15 24 #[.nestMembers #[55, 131, 125, 114]] #[{ accessFlags := 1, nameIndex := 5, descriptorIndex := 6, attributes := #[] }] 33 2 #[] #[{ accessFlags := 25, nameIndex := 123, descriptorIndex := 124, attributes := #[] }, { accessFlags := 25, nameIndex := 130, descriptorIndex := 124, attributes := #[] }, { accessFlags := 25, nameIndex := 136, descriptorIndex := 124, attributes := #[] }])
  fields := #[{ name := "SIOOBE_FORMATTER", type := (.object "java/util/function/BiFunction"), accessFlags := 25, slot := 0, constantValue := 0 }, { name := "AIOOBE_FORMATTER", type := (.object "java/util/function/BiFunction"), accessFlags := 25, slot := 1, constantValue := 0 }, { name := "IOOBE_FORMATTER", type := (.object "java/util/function/BiFunction"), accessFlags := 25, slot := 2, constantValue := 0 }]
  methods := #[k15m0]
  instanceTypes := #[]
  staticTypes := #[(.object "java/util/function/BiFunction"), (.object "java/util/function/BiFunction"), (.object "java/util/function/BiFunction")]
  resolved := Array.replicate 194 none
  statics := some 3 }

def pool16 : Array CpInfo := pool [(9, u "<init>"), (6, .class_ 18), (1, u "java/lang/Object"), (0, u "()V"), (1, .class_ 23), (1, u "jdk/internal/util/ArraysSupport"), (0, u "LOG2_ARRAY_LONG_INDEX_SCALE"), (0, u "I"), (2, u "U"), (0, u "Ljdk/internal/misc/Unsafe;"), (8, u "BIG_ENDIAN"), (0, u "Z"), (8, u "LOG2_BYTE_BIT_SIZE"), (4, u "LOG2_ARRAY_INT_INDEX_SCALE"), (54, u "JLA"), (0, u "Ljdk/internal/access/JavaLangAccess;"), (11, u "LOG2_ARRAY_BOOLEAN_INDEX_SCALE"), (9, u "LOG2_ARRAY_BYTE_INDEX_SCALE"), (5, u "LOG2_ARRAY_CHAR_INDEX_SCALE"), (5, u "LOG2_ARRAY_SHORT_INDEX_SCALE"), (18, u "LOG2_ARRAY_FLOAT_INDEX_SCALE"), (24, u "LOG2_ARRAY_DOUBLE_INDEX_SCALE"), (89, u "T_BOOLEAN"), (2, u "T_CHAR"), (1, u "T_FLOAT"), (1, u "T_DOUBLE"), (1, u "T_BYTE"), (1, u "T_SHORT"), (1, u "T_INT"), (1, u "T_LONG"), (1, u "SOFT_MAX_ARRAY_LENGTH")] 83

def k16m0 : Method := { name := "<init>", desc := "()V", sig := { parameters := [], returnType := none }, accessFlags := 2, code := none }
/-- jdk/internal/util/ArraysSupport -/
def k16 : Class := { plain "jdk/internal/util/ArraysSupport" (some 0) with
  accessFlags := 33
  interfaces := #[]
  cf := some (fileOf pool16 21 #[] #[{ accessFlags := 2, nameIndex := 9, descriptorIndex := 19, attributes := #[] }] 33 16 #[] #[{ accessFlags := 24, nameIndex := 28, descriptorIndex := 29, attributes := #[] }, { accessFlags := 26, nameIndex := 38, descriptorIndex := 39, attributes := #[] }, { accessFlags := 25, nameIndex := 121, descriptorIndex := 25, attributes := #[] }, { accessFlags := 25, nameIndex := 131, descriptorIndex := 25, attributes := #[] }, { accessFlags := 25, nameIndex := 137, descriptorIndex := 25, attributes := #[] }, { accessFlags := 25, nameIndex := 143, descriptorIndex := 25, attributes := #[] }, { accessFlags := 25, nameIndex := 53, descriptorIndex := 25, attributes := #[] }, { accessFlags := 25, nameIndex := 24, descriptorIndex := 25, attributes := #[] }, { accessFlags := 25, nameIndex := 162, descriptorIndex := 25, attributes := #[] }, { accessFlags := 25, nameIndex := 187, descriptorIndex := 25, attributes := #[] }, { accessFlags := 26, nameIndex := 48, descriptorIndex := 25, attributes := #[] }, { accessFlags := 25, nameIndex := 277, descriptorIndex := 25, attributes := #[] }, { accessFlags := 25, nameIndex := 280, descriptorIndex := 25, attributes := #[] }, { accessFlags := 25, nameIndex := 282, descriptorIndex := 25, attributes := #[] }, { accessFlags := 25, nameIndex := 284, descriptorIndex := 25, attributes := #[] }, { accessFlags := 25, nameIndex := 286, descriptorIndex := 25, attributes := #[] }, { accessFlags := 25, nameIndex := 288, descriptorIndex := 25, attributes := #[] }, { accessFlags := 25, nameIndex := 290, descriptorIndex := 25, attributes := #[] }, { accessFlags := 25, nameIndex := 292, descriptorIndex := 25, attributes := #[] }, { accessFlags := 26, nameIndex := 108, descriptorIndex := 109, attributes := #[] }, { accessFlags := 25, nameIndex := 294, descriptorIndex := 25, attributes := #[] }])
  fields := #[{ name := "U", type := (.object "jdk/internal/misc/Unsafe"), accessFlags := 24, slot := 0, constantValue := 0 }, { name := "BIG_ENDIAN", type := .boolean, accessFlags := 26, slot := 1, constantValue := 0 }, { name := "LOG2_ARRAY_BOOLEAN_INDEX_SCALE", type := .int, accessFlags := 25, slot := 2, constantValue := 0 }, { name := "LOG2_ARRAY_BYTE_INDEX_SCALE", type := .int, accessFlags := 25, slot := 3, constantValue := 0 }, { name := "LOG2_ARRAY_CHAR_INDEX_SCALE", type := .int, accessFlags := 25, slot := 4, constantValue := 0 }, { name := "LOG2_ARRAY_SHORT_INDEX_SCALE", type := .int, accessFlags := 25, slot := 5, constantValue := 0 }, { name := "LOG2_ARRAY_INT_INDEX_SCALE", type := .int, accessFlags := 25, slot := 6, constantValue := 0 }, { name := "LOG2_ARRAY_LONG_INDEX_SCALE", type := .int, accessFlags := 25, slot := 7, constantValue := 0 }, { name := "LOG2_ARRAY_FLOAT_INDEX_SCALE", type := .int, accessFlags := 25, slot := 8, constantValue := 0 }, { name := "LOG2_ARRAY_DOUBLE_INDEX_SCALE", type := .int, accessFlags := 25, slot := 9, constantValue := 0 }, { name := "LOG2_BYTE_BIT_SIZE", type := .int, accessFlags := 26, slot := 10, constantValue := 0 }, { name := "T_BOOLEAN", type := .int, accessFlags := 25, slot := 11, constantValue := 0 }, { name := "T_CHAR", type := .int, accessFlags := 25, slot := 12, constantValue := 0 }, { name := "T_FLOAT", type := .int, accessFlags := 25, slot := 13, constantValue := 0 }, { name := "T_DOUBLE", type := .int, accessFlags := 25, slot := 14, constantValue := 0 }, { name := "T_BYTE", type := .int, accessFlags := 25, slot := 15, constantValue := 0 }, { name := "T_SHORT", type := .int, accessFlags := 25, slot := 16, constantValue := 0 }, { name := "T_INT", type := .int, accessFlags := 25, slot := 17, constantValue := 0 }, { name := "T_LONG", type := .int, accessFlags := 25, slot := 18, constantValue := 0 }, { name := "JLA", type := (.object "jdk/internal/access/JavaLangAccess"), accessFlags := 26, slot := 19, constantValue := 0 }, { name := "SOFT_MAX_ARRAY_LENGTH", type := .int, accessFlags := 25, slot := 20, constantValue := 0 }]
  methods := #[k16m0]
  instanceTypes := #[]
  staticTypes := #[(.object "jdk/internal/misc/Unsafe"), .boolean, .int, .int, .int, .int, .int, .int, .int, .int, .int, .int, .int, .int, .int, .int, .int, .int, .int, (.object "jdk/internal/access/JavaLangAccess"), .int]
  resolved := Array.replicate 378 none
  statics := none }

def pool17 : Array CpInfo := pool [(1, u "java/lang/Cloneable"), (0, .class_ 1), (0, u "java/lang/Object"), (0, .class_ 3)] 3

/-- java/lang/Cloneable -/
def k17 : Class := { plain "java/lang/Cloneable" (some 0) with
  accessFlags := 1537
  interfaces := #[]
  cf := some (fileOf pool17 2 #[] #[] 1537 4 #[] #[])
  fields := #[]
  methods := #[]
  instanceTypes := #[]
  staticTypes := #[]
  resolved := Array.replicate 8 none
  statics := none }

/-- the primitive byte -/
def k18 : Class := { plain "byte" none with kind := .primitive 'B', accessFlags := 0x411 }
/-- [B -/
def k19 : Class := { plain "[B" (some 0) with kind := .array 18 .byte, interfaces := #[17, 2], accessFlags := 1041 }

/-- the primitive char -/
def k20 : Class := { plain "char" none with kind := .primitive 'C', accessFlags := 0x411 }
/-- [C -/
def k21 : Class := { plain "[C" (some 0) with kind := .array 20 .char, interfaces := #[17, 2], accessFlags := 1041 }

/-- the primitive int -/
def k22 : Class := { plain "int" none with kind := .primitive 'I', accessFlags := 0x411 }
/-- [I -/
def k23 : Class := { plain "[I" (some 0) with kind := .array 22 .int, interfaces := #[17, 2], accessFlags := 1041 }

def heap : Heap := #[{ cls := 7, slots := #[.long 0, .int 1, .null, .int 0, .null, .int 0, .int 0], vm := .statics 7 },
  { cls := 11, slots := #[.ref 7], vm := .statics 11 },
  { cls := 13, slots := #[.null, .null, .ref 4, .null], vm := .statics 13 },
  { cls := 15, slots := #[.null, .null, .null], vm := .statics 15 },
  { cls := 13, slots := #[.null, .int 2, .int 0], vm := .none },
  { cls := 19, slots := #[], vm := .none },
  { cls := 7, slots := #[.ref 5, .int 0, .int 0, .int 0], vm := .none },
  { cls := 11, slots := #[.ref 6, .null, .ref 4, .null], vm := .none }]
def classes : Array Class := #[k0, k1, k2, k3, k4, k5, k6, k7, k8, k9, k10, k11, k12, k13, k14, k15, k16, k17, k18, k19, k20, k21, k22, k23]
def interned : List (Array UInt16 × Addr) := []
def slotsUsed : Nat := 26
def theMethod : MethodId := ⟨1, 1⟩
def args0 : Array Value := #[.int 65, .int 66, .int 67, .int 2, .int 5]
def aboutOver (below : List Frame) : State where
  vm := { classes := classes, interned := interned.toArray }
  heap := heap
  slotsUsed := slotsUsed
  threads := #[{ frames := .invoking theMethod args0 :: below }]
def below0 : List Frame := [.native { method := ⟨0, 0⟩, args := #[] }]
def about1 : State := aboutOver below0
def p0 : Program := .bare "" "" ""
def e0 : Env := launch0.env 0 0 0
theorem w_frames : about1.frames = Frame.invoking theMethod args0 :: below0 := rfl
set_option maxRecDepth 65536 in
theorem w_args : argsFit about1.vm theMethod args0 = true := by decide +kernel
set_option maxRecDepth 65536 in
theorem w_heap : heapFits about1 = true := by decide +kernel
set_option maxRecDepth 65536 in
theorem w_runnable : about1.curStatus? = some .runnable := by decide +kernel
set_option maxRecDepth 65536 in
theorem w_alone : about1.alone = true := by decide +kernel
set_option maxRecDepth 65536 in
theorem w_named : about1.methodNamed? x = some theMethod := by decide +kernel
set_option maxRecDepth 65536 in
theorem w_hears : about1.hears theMethod below0 = true := by decide +kernel
set_option maxRecDepth 65536 in
theorem w_ripe : about1.ripe theMethod args0 below0 = true := by decide +kernel
theorem w_running : about1.status = .running := rfl
set_option maxRecDepth 65536 in
theorem w_room : about1.hasRoom e0.platform room_1 = true :=
  launch0.hasRoom_least _ room_1 (by decide +kernel) (by decide +kernel) (by decide +kernel) (by decide +kernel) (by decide +kernel) (by decide +kernel)
theorem allAtoms_all (ts : List Jvm.Cond) (a : Array Jvm.Value) (st : Jvm.State) : (allAtoms ts).before a st = ts.all (fun c => c.before a st) := by
  induction ts with
  | nil => rfl
  | cons c t ih =>
    show (Jvm.Cond.and c (allAtoms t)).before a st = _
    rw [Jvm.Cond.before_and, ih, List.all_cons]
def words1 : List Jvm.Cond := Jvm.Cond.code x code maxLocals ret :: tables_1
/-- a 'code' word, met by the world's own term for the bytes: nothing is compared byte by byte -/
theorem code_word {y : MethodName} {bytes : ByteArray} {mx : Nat} {rt : Option FieldType} {a : Array Value} {s : State} {m : MethodId} {meth : Method} {c : Code} (h1 : s.methodNamed? y = some m) (h2 : s.vm.method? m = some meth) (h3 : meth.code = some c) (h4 : c.code = bytes)
    (h5 : (c.maxLocals == mx && c.exceptionTable.isEmpty && decide (c.maxStack ≤ mostOperands) && decide (meth.sig.returnType = rt) && !meth.locks && decide (parseMethodDescriptor y.desc = some meth.sig)) = true) : (Jvm.Cond.code y bytes mx rt).before a s = true := by
  simp only [Bool.and_eq_true, beq_iff_eq, Bool.not_eq_true', decide_eq_true_eq] at h5
  obtain ⟨⟨⟨⟨⟨g1, g2⟩, g3⟩, g4⟩, g5⟩, g6⟩ := h5
  simp [Cond.before, Cond.holds, Cond.value, h1, h2, h3, h4, g1, g2, g3, g4, g5, g6]
def isCode : Jvm.Cond → Bool
  | .code _ _ _ _ => true
  | _ => false
theorem all_split {L : List Jvm.Cond} {P : Jvm.Cond → Bool} (h1 : L.all (fun c => isCode c || P c) = true) (h2 : ∀ c ∈ L.filter isCode, P c = true) : L.all P = true := by
  refine List.all_eq_true.mpr fun c hc => ?_
  have h := List.all_eq_true.mp h1 c hc
  rcases Bool.eq_false_or_eq_true (isCode c) with hi | hi
  · exact h2 c (List.mem_filter.mpr ⟨hc, hi⟩)
  · simpa [hi] using h
set_option maxRecDepth 65536 in
theorem w_c0 : (Jvm.Cond.code x code maxLocals ret).before args0 about1 = true := code_word (m := ⟨1, 1⟩) (meth := k1m1) (c := k1c1) (by decide +kernel) rfl rfl rfl (by decide +kernel)
set_option maxRecDepth 65536 in
theorem w_c1 : (Jvm.Cond.code ({ cls := "java/lang/String", name := "<init>", desc := "([C)V" } : Jvm.MethodName) jdk_42_method_3_code (2 : Nat) (Option.none : Option Jvm.ClassFile.FieldType)).before args0 about1 = true := code_word (m := ⟨7, 1⟩) (meth := k7m1) (c := k7c1) (by decide +kernel) rfl rfl rfl (by decide +kernel)
set_option maxRecDepth 65536 in
theorem w_c2 : (Jvm.Cond.code ({ cls := "java/lang/String", name := "<init>", desc := "([CIILjava/lang/Void;)V" } : Jvm.MethodName) jdk_42_method_149_code (6 : Nat) (Option.none : Option Jvm.ClassFile.FieldType)).before args0 about1 = true := code_word (m := ⟨7, 4⟩) (meth := k7m4) (c := k7c4) (by decide +kernel) rfl rfl rfl (by decide +kernel)
set_option maxRecDepth 65536 in
theorem w_c3 : (Jvm.Cond.code ({ cls := "java/lang/Object", name := "<init>", desc := "()V" } : Jvm.MethodName) object_method_1_code (1 : Nat) (Option.none : Option Jvm.ClassFile.FieldType)).before args0 about1 = true := code_word (m := ⟨0, 0⟩) (meth := k0m0) (c := k0c0) (by decide +kernel) rfl rfl rfl (by decide +kernel)
set_option maxRecDepth 65536 in
theorem w_c4 : (Jvm.Cond.code ({ cls := "java/lang/StringUTF16", name := "compress", desc := "([CII)[B" } : Jvm.MethodName) jdk_52_method_16_code (6 : Nat) (Option.some (Jvm.ClassFile.FieldType.array Jvm.ClassFile.FieldType.byte))).before args0 about1 = true := code_word (m := ⟨8, 2⟩) (meth := k8m2) (c := k8c2) (by decide +kernel) rfl rfl rfl (by decide +kernel)
set_option maxRecDepth 65536 in
theorem w_c5 : (Jvm.Cond.code ({ cls := "java/lang/StringUTF16", name := "compress", desc := "([CI[BII)I" } : Jvm.MethodName) jdk_52_method_21_code (7 : Nat) (Option.some Jvm.ClassFile.FieldType.int)).before args0 about1 = true := code_word (m := ⟨8, 3⟩) (meth := k8m3) (c := k8c3) (by decide +kernel) rfl rfl rfl (by decide +kernel)
set_option maxRecDepth 65536 in
theorem w_c6 : (Jvm.Cond.code ({ cls := "java/lang/StringUTF16", name := "coderFromArrayLen", desc := "([BI)B" } : Jvm.MethodName) jdk_52_method_15_code (2 : Nat) (Option.some Jvm.ClassFile.FieldType.byte)).before args0 about1 = true := code_word (m := ⟨8, 1⟩) (meth := k8m1) (c := k8c1) (by decide +kernel) rfl rfl rfl (by decide +kernel)
set_option maxRecDepth 65536 in
theorem w_c7 : (Jvm.Cond.code ({ cls := "com/example/causeway_health/causewayhealth/convert/Delimiters", name := "<init>", desc := "(CCCCC)V" } : Jvm.MethodName) prog_18_method_1_code (6 : Nat) (Option.none : Option Jvm.ClassFile.FieldType)).before args0 about1 = true := code_word (m := ⟨10, 0⟩) (meth := k10m0) (c := k10c0) (by decide +kernel) rfl rfl rfl (by decide +kernel)
set_option maxRecDepth 65536 in
theorem w_c8 : (Jvm.Cond.code ({ cls := "java/lang/Record", name := "<init>", desc := "()V" } : Jvm.MethodName) jdk_30_method_1_code (1 : Nat) (Option.none : Option Jvm.ClassFile.FieldType)).before args0 about1 = true := code_word (m := ⟨9, 0⟩) (meth := k9m0) (c := k9c0) (by decide +kernel) rfl rfl rfl (by decide +kernel)
set_option maxRecDepth 65536 in
theorem w_c9 : (Jvm.Cond.code ({ cls := "com/example/causeway_health/causewayhealth/convert/V2Value", name := "whole", desc := "(Ljava/lang/String;Lcom/example/causeway_health/causewayhealth/convert/Delimiters;)Lcom/example/causeway_health/causewayhealth/convert/V2Value;" } : Jvm.MethodName) prog_45_method_3_code (2 : Nat) (Option.some (Jvm.ClassFile.FieldType.object "com/example/causeway_health/causewayhealth/convert/V2Value"))).before args0 about1 = true := code_word (m := ⟨11, 1⟩) (meth := k11m1) (c := k11c1) (by decide +kernel) rfl rfl rfl (by decide +kernel)
set_option maxRecDepth 65536 in
theorem w_c10 : (Jvm.Cond.code ({ cls := "java/lang/String", name := "isEmpty", desc := "()Z" } : Jvm.MethodName) jdk_42_method_55_code (1 : Nat) (Option.some Jvm.ClassFile.FieldType.boolean)).before args0 about1 = true := code_word (m := ⟨7, 2⟩) (meth := k7m2) (c := k7c2) (by decide +kernel) rfl rfl rfl (by decide +kernel)
set_option maxRecDepth 65536 in
theorem w_c11 : (Jvm.Cond.code ({ cls := "com/example/causeway_health/causewayhealth/convert/V2Value", name := "<init>", desc := "(Ljava/lang/String;Lcom/example/causeway_health/causewayhealth/convert/Delimiters;Lcom/example/causeway_health/causewayhealth/convert/V2Value$Level;)V" } : Jvm.MethodName) prog_45_method_1_code (4 : Nat) (Option.none : Option Jvm.ClassFile.FieldType)).before args0 about1 = true := code_word (m := ⟨11, 0⟩) (meth := k11m0) (c := k11c0) (by decide +kernel) rfl rfl rfl (by decide +kernel)
set_option maxRecDepth 65536 in
theorem w_c12 : (Jvm.Cond.code ({ cls := "com/example/causeway_health/causewayhealth/convert/V2Value", name := "empty", desc := "()Lcom/example/causeway_health/causewayhealth/convert/V2Value;" } : Jvm.MethodName) prog_45_method_4_code (0 : Nat) (Option.some (Jvm.ClassFile.FieldType.object "com/example/causeway_health/causewayhealth/convert/V2Value"))).before args0 about1 = true := code_word (m := ⟨11, 2⟩) (meth := k11m2) (c := k11c2) (by decide +kernel) rfl rfl rfl (by decide +kernel)
set_option maxRecDepth 65536 in
theorem w_c13 : (Jvm.Cond.code ({ cls := "com/example/causeway_health/causewayhealth/convert/V2Value", name := "component", desc := "(I)Lcom/example/causeway_health/causewayhealth/convert/V2Value;" } : Jvm.MethodName) prog_45_method_10_code (9 : Nat) (Option.some (Jvm.ClassFile.FieldType.object "com/example/causeway_health/causewayhealth/convert/V2Value"))).before args0 about1 = true := code_word (m := ⟨11, 7⟩) (meth := k11m7) (c := k11c7) (by decide +kernel) rfl rfl rfl (by decide +kernel)
set_option maxRecDepth 65536 in
theorem w_c14 : (Jvm.Cond.code ({ cls := "com/example/causeway_health/causewayhealth/convert/V2Value$Level", name := "below", desc := "()Lcom/example/causeway_health/causewayhealth/convert/V2Value$Level;" } : Jvm.MethodName) prog_46_method_4_code (1 : Nat) (Option.some (Jvm.ClassFile.FieldType.object "com/example/causeway_health/causewayhealth/convert/V2Value$Level"))).before args0 about1 = true := code_word (m := ⟨13, 0⟩) (meth := k13m0) (c := k13c0) (by decide +kernel) rfl rfl rfl (by decide +kernel)
set_option maxRecDepth 65536 in
theorem w_c15 : (Jvm.Cond.code ({ cls := "java/lang/Enum", name := "ordinal", desc := "()I" } : Jvm.MethodName) jdk_37_method_2_code (1 : Nat) (Option.some Jvm.ClassFile.FieldType.int)).before args0 about1 = true := code_word (m := ⟨12, 0⟩) (meth := k12m0) (c := k12c0) (by decide +kernel) rfl rfl rfl (by decide +kernel)
set_option maxRecDepth 65536 in
theorem w_c16 : (Jvm.Cond.code ({ cls := "com/example/causeway_health/causewayhealth/convert/V2Value", name := "raw", desc := "()Ljava/lang/String;" } : Jvm.MethodName) prog_45_method_5_code (1 : Nat) (Option.some (Jvm.ClassFile.FieldType.object "java/lang/String"))).before args0 about1 = true := code_word (m := ⟨11, 3⟩) (meth := k11m3) (c := k11c3) (by decide +kernel) rfl rfl rfl (by decide +kernel)
set_option maxRecDepth 65536 in
theorem w_c17 : (Jvm.Cond.code ({ cls := "java/lang/String", name := "equals", desc := "(Ljava/lang/Object;)Z" } : Jvm.MethodName) jdk_42_method_66_code (3 : Nat) (Option.some Jvm.ClassFile.FieldType.boolean)).before args0 about1 = true := code_word (m := ⟨7, 3⟩) (meth := k7m3) (c := k7c3) (by decide +kernel) rfl rfl rfl (by decide +kernel)
set_option maxRecDepth 65536 in
theorem w_c18 : (Jvm.Cond.code ({ cls := "com/example/causeway_health/causewayhealth/convert/V2Value", name := "isEmpty", desc := "()Z" } : Jvm.MethodName) prog_45_method_7_code (1 : Nat) (Option.some Jvm.ClassFile.FieldType.boolean)).before args0 about1 = true := code_word (m := ⟨11, 4⟩) (meth := k11m4) (c := k11c4) (by decide +kernel) rfl rfl rfl (by decide +kernel)
set_option maxRecDepth 65536 in
theorem w_c19 : (Jvm.Cond.code ({ cls := "com/example/causeway_health/causewayhealth/convert/V2Value", name := "delimiters", desc := "()Lcom/example/causeway_health/causewayhealth/convert/Delimiters;" } : Jvm.MethodName) prog_45_method_9_code (1 : Nat) (Option.some (Jvm.ClassFile.FieldType.object "com/example/causeway_health/causewayhealth/convert/Delimiters"))).before args0 about1 = true := code_word (m := ⟨11, 6⟩) (meth := k11m6) (c := k11c6) (by decide +kernel) rfl rfl rfl (by decide +kernel)
set_option maxRecDepth 65536 in
theorem w_c20 : (Jvm.Cond.code ({ cls := "com/example/causeway_health/causewayhealth/convert/V2Value", name := "depth", desc := "()I" } : Jvm.MethodName) prog_45_method_8_code (1 : Nat) (Option.some Jvm.ClassFile.FieldType.int)).before args0 about1 = true := code_word (m := ⟨11, 5⟩) (meth := k11m5) (c := k11c5) (by decide +kernel) rfl rfl rfl (by decide +kernel)
def codes1 : List Jvm.Cond := [Jvm.Cond.code x code maxLocals ret, Jvm.Cond.code ({ cls := "java/lang/String", name := "<init>", desc := "([C)V" } : Jvm.MethodName) jdk_42_method_3_code (2 : Nat) (Option.none : Option Jvm.ClassFile.FieldType), Jvm.Cond.code ({ cls := "java/lang/String", name := "<init>", desc := "([CIILjava/lang/Void;)V" } : Jvm.MethodName) jdk_42_method_149_code (6 : Nat) (Option.none : Option Jvm.ClassFile.FieldType), Jvm.Cond.code ({ cls := "java/lang/Object", name := "<init>", desc := "()V" } : Jvm.MethodName) object_method_1_code (1 : Nat) (Option.none : Option Jvm.ClassFile.FieldType), Jvm.Cond.code ({ cls := "java/lang/StringUTF16", name := "compress", desc := "([CII)[B" } : Jvm.MethodName) jdk_52_method_16_code (6 : Nat) (Option.some (Jvm.ClassFile.FieldType.array Jvm.ClassFile.FieldType.byte)), Jvm.Cond.code ({ cls := "java/lang/StringUTF16", name := "compress", desc := "([CI[BII)I" } : Jvm.MethodName) jdk_52_method_21_code (7 : Nat) (Option.some Jvm.ClassFile.FieldType.int), Jvm.Cond.code ({ cls := "java/lang/StringUTF16", name := "coderFromArrayLen", desc := "([BI)B" } : Jvm.MethodName) jdk_52_method_15_code (2 : Nat) (Option.some Jvm.ClassFile.FieldType.byte), Jvm.Cond.code ({ cls := "com/example/causeway_health/causewayhealth/convert/Delimiters", name := "<init>", desc := "(CCCCC)V" } : Jvm.MethodName) prog_18_method_1_code (6 : Nat) (Option.none : Option Jvm.ClassFile.FieldType), Jvm.Cond.code ({ cls := "java/lang/Record", name := "<init>", desc := "()V" } : Jvm.MethodName) jdk_30_method_1_code (1 : Nat) (Option.none : Option Jvm.ClassFile.FieldType), Jvm.Cond.code ({ cls := "com/example/causeway_health/causewayhealth/convert/V2Value", name := "whole", desc := "(Ljava/lang/String;Lcom/example/causeway_health/causewayhealth/convert/Delimiters;)Lcom/example/causeway_health/causewayhealth/convert/V2Value;" } : Jvm.MethodName) prog_45_method_3_code (2 : Nat) (Option.some (Jvm.ClassFile.FieldType.object "com/example/causeway_health/causewayhealth/convert/V2Value")), Jvm.Cond.code ({ cls := "java/lang/String", name := "isEmpty", desc := "()Z" } : Jvm.MethodName) jdk_42_method_55_code (1 : Nat) (Option.some Jvm.ClassFile.FieldType.boolean), Jvm.Cond.code ({ cls := "com/example/causeway_health/causewayhealth/convert/V2Value", name := "<init>", desc := "(Ljava/lang/String;Lcom/example/causeway_health/causewayhealth/convert/Delimiters;Lcom/example/causeway_health/causewayhealth/convert/V2Value$Level;)V" } : Jvm.MethodName) prog_45_method_1_code (4 : Nat) (Option.none : Option Jvm.ClassFile.FieldType), Jvm.Cond.code ({ cls := "com/example/causeway_health/causewayhealth/convert/V2Value", name := "empty", desc := "()Lcom/example/causeway_health/causewayhealth/convert/V2Value;" } : Jvm.MethodName) prog_45_method_4_code (0 : Nat) (Option.some (Jvm.ClassFile.FieldType.object "com/example/causeway_health/causewayhealth/convert/V2Value")), Jvm.Cond.code ({ cls := "com/example/causeway_health/causewayhealth/convert/V2Value", name := "component", desc := "(I)Lcom/example/causeway_health/causewayhealth/convert/V2Value;" } : Jvm.MethodName) prog_45_method_10_code (9 : Nat) (Option.some (Jvm.ClassFile.FieldType.object "com/example/causeway_health/causewayhealth/convert/V2Value")), Jvm.Cond.code ({ cls := "com/example/causeway_health/causewayhealth/convert/V2Value$Level", name := "below", desc := "()Lcom/example/causeway_health/causewayhealth/convert/V2Value$Level;" } : Jvm.MethodName) prog_46_method_4_code (1 : Nat) (Option.some (Jvm.ClassFile.FieldType.object "com/example/causeway_health/causewayhealth/convert/V2Value$Level")), Jvm.Cond.code ({ cls := "java/lang/Enum", name := "ordinal", desc := "()I" } : Jvm.MethodName) jdk_37_method_2_code (1 : Nat) (Option.some Jvm.ClassFile.FieldType.int), Jvm.Cond.code ({ cls := "com/example/causeway_health/causewayhealth/convert/V2Value", name := "raw", desc := "()Ljava/lang/String;" } : Jvm.MethodName) prog_45_method_5_code (1 : Nat) (Option.some (Jvm.ClassFile.FieldType.object "java/lang/String")), Jvm.Cond.code ({ cls := "java/lang/String", name := "equals", desc := "(Ljava/lang/Object;)Z" } : Jvm.MethodName) jdk_42_method_66_code (3 : Nat) (Option.some Jvm.ClassFile.FieldType.boolean), Jvm.Cond.code ({ cls := "com/example/causeway_health/causewayhealth/convert/V2Value", name := "isEmpty", desc := "()Z" } : Jvm.MethodName) prog_45_method_7_code (1 : Nat) (Option.some Jvm.ClassFile.FieldType.boolean), Jvm.Cond.code ({ cls := "com/example/causeway_health/causewayhealth/convert/V2Value", name := "delimiters", desc := "()Lcom/example/causeway_health/causewayhealth/convert/Delimiters;" } : Jvm.MethodName) prog_45_method_9_code (1 : Nat) (Option.some (Jvm.ClassFile.FieldType.object "com/example/causeway_health/causewayhealth/convert/Delimiters")), Jvm.Cond.code ({ cls := "com/example/causeway_health/causewayhealth/convert/V2Value", name := "depth", desc := "()I" } : Jvm.MethodName) prog_45_method_8_code (1 : Nat) (Option.some Jvm.ClassFile.FieldType.int)]
set_option maxRecDepth 65536 in
theorem codes_eq : words1.filter isCode = codes1 := rfl
theorem w_codes : ∀ c ∈ words1.filter isCode, c.before args0 about1 = true := by
  rw [codes_eq]
  intro c hc
  simp only [codes1, List.mem_cons, List.not_mem_nil, or_false] at hc
  rcases hc with rfl | rfl | rfl | rfl | rfl | rfl | rfl | rfl | rfl | rfl | rfl | rfl | rfl | rfl | rfl | rfl | rfl | rfl | rfl | rfl | rfl
  · exact w_c0
  · exact w_c1
  · exact w_c2
  · exact w_c3
  · exact w_c4
  · exact w_c5
  · exact w_c6
  · exact w_c7
  · exact w_c8
  · exact w_c9
  · exact w_c10
  · exact w_c11
  · exact w_c12
  · exact w_c13
  · exact w_c14
  · exact w_c15
  · exact w_c16
  · exact w_c17
  · exact w_c18
  · exact w_c19
  · exact w_c20
set_option maxRecDepth 65536 in
theorem w_t1 : (words1.take 24).all (fun c => isCode c || c.before args0 about1) = true := by decide +kernel
set_option maxRecDepth 65536 in
theorem w_t2 : ((words1.drop 24).take 24).all (fun c => isCode c || c.before args0 about1) = true := by decide +kernel
set_option maxRecDepth 65536 in
theorem w_t3 : (((words1.drop 24).drop 24).take 24).all (fun c => isCode c || c.before args0 about1) = true := by decide +kernel
set_option maxRecDepth 65536 in
theorem w_t4 : ((((words1.drop 24).drop 24).drop 24).take 24).all (fun c => isCode c || c.before args0 about1) = true := by decide +kernel
set_option maxRecDepth 65536 in
theorem w_t5 : (((((words1.drop 24).drop 24).drop 24).drop 24).take 24).all (fun c => isCode c || c.before args0 about1) = true := by decide +kernel
set_option maxRecDepth 65536 in
theorem w_t6 : (((((words1.drop 24).drop 24).drop 24).drop 24).drop 24).all (fun c => isCode c || c.before args0 about1) = true := by decide +kernel
theorem w_tables : (allAtoms (Jvm.Cond.code x code maxLocals ret :: tables_1)).before args0 about1 = true := by
  rw [allAtoms_all]
  show words1.all (fun c => c.before args0 about1) = true
  refine all_split ?_ w_codes
  rw [← List.take_append_drop 24 words1, List.all_append, w_t1, ← List.take_append_drop 24 (words1.drop 24), List.all_append, w_t2, ← List.take_append_drop 24 ((words1.drop 24).drop 24), List.all_append, w_t3, ← List.take_append_drop 24 (((words1.drop 24).drop 24).drop 24), List.all_append, w_t4, ← List.take_append_drop 24 ((((words1.drop 24).drop 24).drop 24).drop 24), List.all_append, w_t5, w_t6]
  rfl
set_option maxRecDepth 65536 in
theorem w_rest : rest_1_c.before args0 about1 = true := by decide +kernel
set_option maxRecDepth 65536 in
theorem w_case : (Jvm.Cond.and given_1 narrow_1).before args0 about1 = true := by decide +kernel
set_option maxRecDepth 65536 in
theorem w_consts : constsHeld consts_1 about1 := Jvm.Lit.constsHeldB_iff.mp (by decide +kernel)
theorem w_applies : (headSpec (Jvm.Cond.code x code maxLocals ret :: tables_1) room_1).applies x e0.platform about1 = true :=
  (Spec.applies_iff w_frames).mpr ⟨w_running, w_runnable, w_alone, w_named, w_hears, w_ripe, w_room, w_tables⟩
theorem atStart : AtStart classFile x code maxLocals ret World_1 tables_1 room_1 Calls_1 rest_1 Pre_1 launch0 p0 e0 about1 theMethod args0 below0 :=
  ⟨lists_1, trivial, launch0.admits_env _ _ _, launch0.least_env, fairChoices_fair.cas, fairChoices_fair.clock, w_frames, w_args, w_heap, w_applies, ⟨w_consts, trivial⟩, w_rest, w_case⟩
end start1
theorem witness_1 : WitnessClaimed_1 := ⟨start1.p0, start1.e0, start1.about1, start1.theMethod, start1.args0, start1.below0, start1.atStart⟩
end Jvm.Pilot.@@N@@
