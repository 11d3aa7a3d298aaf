import JvmDerived
import JvmDerived.Pilot.@@N@@Statement
import JvmDerived.Pilot.@@N@@Code
set_option linter.unusedVariables false
set_option linter.unusedSimpArgs false
namespace Jvm.OwnW
open Jvm Jvm.ClassFile Sem Op Lib Jvm.Free Jvm.Stand Jvm.LawKit Jvm.RoadKit Bundle
open Jvm.Free.SB Jvm.Free.SBG
abbrev Lits := List (String × Nat × String)
def wst (Z : State) (vm : Vm) (h : Heap) : State := { Z with vm := vm, heap := h }
/-- a compact String with these units, her two cells outside 'mine' -/
def SlM (W : State) (a : Addr) (units : Array UInt16) (mine : List Addr) : Prop :=
  ∃ (q : SQ) (cS : ClassId), q.sa = a ∧ Sl q cS W ∧ (∃ kS : Class, W.vm.classes[cS]? = some kS ∧ kS.kind = .ordinary ∧ q.sC.slots.size = kS.instanceTypes.size) ∧ W.vm.findClass "[B" = some q.SA.cls ∧ q.SA.slots = stringBytes units ∧ q.sa ∉ mine ∧ q.sd ∉ mine
def KH (Z : State) (L : Lits) (vm : Vm) (h : Heap) (mine : List Addr) : Prop :=
  ∀ q ∈ L, ∀ (c : ClassId) (k : Class) (cf : ClassFile) (i : Nat) (units : Array UInt16) (a : Addr), vm.findClass q.1 = some c → vm.classes[c]? = some k → k.cf = some cf →
    cf.constantPool[q.2.1]? = some (.string i) → cf.constantPool[i]? = some (.utf8 units) →
    (k.resolved[q.2.1]? = some (some (.string a)) ∨ (k.resolved[q.2.1]? = some none ∧ vm.interned.find? (fun p => p.1 == units) = some (units, a))) → SlM (wst Z vm h) a units mine
def Links (Z : State) (L : Lits) : Prop := ∀ q ∈ L, ∃ a0 : Array Value, (Jvm.Cond.stringLink q.1 q.2.1 q.2.2).before a0 Z = true
def Inv (Z : State) (L : Lits) (vm : Vm) (h : Heap) (mine : List Addr) : Prop :=
  Z.Warmed39 vm ∧ Ext Z.heap h ∧ (∀ x ∈ mine, Z.heap.size ≤ x ∧ x < h.size) ∧ Links Z L ∧ KH Z L vm h mine
theorem SlM.go {Z : State} {vm vm' : Vm} {h h' : Heap} {a : Addr} {u : Array UInt16} {mine mine' : List Addr} (S : SlM (wst Z vm h) a u mine) (hal : vm.Alike vm')
    (hk : ∀ x c, h[x]? = some c → x ∉ mine → h'[x]? = some c) (hm : ∀ x ∈ mine', x ∈ mine ∨ h.size ≤ x) : SlM (wst Z vm' h') a u mine' := by
  obtain ⟨q, cS, h1, h2, ⟨kS, k1, k2, k3⟩, h4, h5, h6, h7⟩ := S
  obtain ⟨kS', hk', ek⟩ := hal.2.2 _ _ k1
  have c1 : h[q.sa]? = some q.sC := h2.1.1
  have c2 : h[q.sd]? = some q.SA := h2.1.2.2.2.2.2.2.2.2.2.1
  refine ⟨q, cS, h1, h2.carry (U' := wst Z vm' h') hal (hk _ _ c1 h6) (hk _ _ c2 h7), ⟨kS', hk', by rw [ek]; exact k2, by rw [ek]; exact k3⟩, by rw [show (wst Z vm' h').vm.findClass "[B" = vm.findClass "[B" from hal.findClass _ _]; exact h4, h5, fun hx => ?_, fun hx => ?_⟩
  · rcases hm _ hx with q1 | q1
    · exact h6 q1
    · exact absurd (Array.getElem?_eq_some_iff.mp c1).1 (Nat.not_lt.mpr q1)
  · rcases hm _ hx with q1 | q1
    · exact h7 q1
    · exact absurd (Array.getElem?_eq_some_iff.mp c2).1 (Nat.not_lt.mpr q1)
theorem KH.go {Z : State} {L : Lits} {vm vm' : Vm} {h h' : Heap} {mine mine' : List Addr} {U : State} (K : KH Z L vm h mine) (hZ : Z.Warmed39 vm) (hL : Links Z L) (hU : U.vm = vm) (hW : U.WarmedH vm')
    (hk : ∀ x c, h[x]? = some c → x ∉ mine → h'[x]? = some c) (hm : ∀ x ∈ mine', x ∈ mine ∨ h.size ≤ x) : KH Z L vm' h' mine' := by
  subst hU
  have hal : U.vm.Alike vm' := hW.alike
  intro q hq c k' cf i units a hc hk' hcf hp hu hor
  have hcU : U.vm.findClass q.1 = some c := by rw [← hal.findClass]; exact hc
  have hcZ : Z.vm.findClass q.1 = some c := by rw [← hZ.alike.findClass]; exact hcU
  obtain ⟨a0, w⟩ := hL q hq
  obtain ⟨kZ, cf0, i0, units0, hkZ, hcfZ, hp0, hu0, hnm, htext, -⟩ := Cond.stringLink_spec hcZ w
  obtain ⟨kU, hkU, ekU⟩ := hZ.alike.2.2 _ _ hkZ
  obtain ⟨k'', hk'', hke, -, ee, -⟩ := hW.wide.2.2.2 c kU hkU
  cases hk'.symm.trans hk''
  have hcfU : kU.cf = some cf := by
    have : k'.cf = kU.cf := by rw [hke]
    rw [← this]; exact hcf
  have hcf0 : kU.cf = some cf0 := by rw [ekU]; exact hcfZ
  cases hcfU.symm.trans hcf0
  have hint : vm'.interned = U.vm.interned := hW.interned_eq
  have key : SlM (wst Z U.vm h) a units mine := by
    refine K q hq c kU cf i units a hcU hkU hcfU hp hu ?_
    obtain ⟨k3, hk3, -, -, ee3, -⟩ := hW.2.2 c kU hkU
    cases hk'.symm.trans hk3
    rcases ee3 q.2.1 with e0 | ⟨hop, r, e1, hr⟩
    · rcases hor with h0 | ⟨h0, hf⟩
      · exact Or.inl (e0 ▸ h0)
      · exact Or.inr ⟨e0 ▸ h0, by rw [← hint]; exact hf⟩
    · exfalso
      cases r <;> simp [State.rightAt, hkU, hcfU, hnm] at hr
  exact key.go hal hk hm
theorem KH.mono {Z : State} {L : Lits} {vm : Vm} {h : Heap} {mine mine' : List Addr} (K : KH Z L vm h mine) (hm : ∀ x ∈ mine', x ∈ mine) : KH Z L vm h mine' :=
  fun q hq c k cf i units a h1 h2 h3 h4 h5 h6 => by
    obtain ⟨s, cS, r1, r2, r3, r4, r5, r6, r7⟩ := K q hq c k cf i units a h1 h2 h3 h4 h5 h6
    exact ⟨s, cS, r1, r2, r3, r4, r5, fun hx => r6 (hm _ hx), fun hx => r7 (hm _ hx)⟩
theorem Inv.mono {Z : State} {L : Lits} {vm : Vm} {h : Heap} {mine mine' : List Addr} (I : Inv Z L vm h mine) (hm : ∀ x ∈ mine', x ∈ mine) : Inv Z L vm h mine' :=
  ⟨I.1, I.2.1, fun x hx => I.2.2.1 x (hm x hx), I.2.2.2.1, I.2.2.2.2.mono hm⟩
/-- the invariant over a step that warms the tables and moves the heap outside what is frozen -/
theorem Inv.go {Z : State} {L : Lits} {vm vm' : Vm} {h h' : Heap} {mine mine' : List Addr} {U : State} (I : Inv Z L vm h mine) (hU : U.vm = vm) (hW : U.WarmedH vm') (hs : h.size ≤ h'.size)
    (hk : ∀ x c, h[x]? = some c → x ∉ mine → h'[x]? = some c) (hm : ∀ x ∈ mine', x ∈ mine ∨ (h.size ≤ x ∧ x < h'.size)) : Inv Z L vm' h' mine' := by
  refine ⟨State.Warmed39.trans (t := U) (hU ▸ I.1) hW.wide, ⟨Nat.le_trans I.2.1.1 hs, fun a c hc => hk _ _ (I.2.1.2 a c hc) fun hx => ?_⟩, fun x hx => ?_, I.2.2.2.1, I.2.2.2.2.go I.1 I.2.2.2.1 hU hW hk fun x hx => (hm x hx).imp id (·.1)⟩
  · exact absurd (Array.getElem?_eq_some_iff.mp hc).1 (Nat.not_lt.mpr (I.2.2.1 _ hx).1)
  · rcases hm x hx with q | q
    · exact ⟨(I.2.2.1 x q).1, Nat.lt_of_lt_of_le (I.2.2.1 x q).2 hs⟩
    · exact ⟨Nat.le_trans I.2.1.1 q.1, q.2⟩
def Bdy (p : Program) (s : State) (m : MethodId) (meth : Method) (c : Code) (own : String) (code : ByteArray) (maxL : Nat) (ret : Option FieldType) (nm : String) : Prop :=
  p.tables.exec = Jvm.exec ∧ c.code = code ∧ c.maxLocals = maxL ∧ s.vm.findClass own = some m.cls ∧ meth.sig.returnType = ret ∧ meth.locks = false ∧ meth.name = nm
def St (p : Program) (l : Launch) (e : Env) (R : Room) (s : State) (m : MethodId) (args : Array Value) (below : List Frame) (meth : Method) (c : Code) (Z : State) (L : Lits) (h0 : Heap) (ws : List Addr) (T : State) (locs : List Loc) (ce sl : Nat) (mine : List Addr) : Prop :=
  Stand p l e R (s.setVm T.vm) m args below meth c T locs ce sl ∧ s.Since T.vm T.heap.size ∧ Fr Z.heap.size locs ∧ Keep h0 T.heap ws ∧ Inv Z L T.vm T.heap mine
def Fini (p : Program) (l : Launch) (e : Env) (R : Room) (s : State) (below : List Frame) (Z : State) (L : Lits) (h0 : Heap) (ws mine0 : List Addr) (Q : Option Value → Heap → List Addr → Prop) (start : State) : Prop :=
  ∃ (s₂ : State) (v : Option Value) (locs : List Loc) (nw : List Addr), Steps p.tables e below start s₂ ∧ s₂.status = .running ∧ Ended s₂ below (.returned v) ∧ ReturnedEndW s (.returned v) s₂ locs R.cells R.slots ∧ Fr Z.heap.size locs ∧ Keep h0 s₂.heap ws ∧ (∀ x ∈ nw, h0.size ≤ x) ∧ Inv Z L s₂.vm s₂.heap (nw ++ mine0) ∧ Q v s₂.heap nw
def WP (own : String) (code : ByteArray) (maxL : Nat) (ret : Option FieldType) (nm : String) (R : Room) (Z : State) (L : Lits) (h0 : Heap) (ws mine0 : List Addr) (Q : Option Value → Heap → List Addr → Prop) (mine : List Addr) (ce sl : Nat) (h : Heap) (pc : Nat) (Ls : List Slot) (st : List Value) : Prop :=
  ∀ (p : Program) (l : Launch) (e : Env) (s : State) (m : MethodId) (args : Array Value) (below : List Frame) (meth : Method) (c : Code), Bdy p s m meth c own code maxL ret nm →
    ∀ (T : State) (locs : List Loc), St p l e R s m args below meth c Z L h0 ws T locs ce sl mine → T.heap = h → Fini p l e R s below Z L h0 ws mine0 Q (T.setTop (mkF m pc Ls.toArray st))
section Basic
variable {p : Program} {l : Launch} {e : Env} {R : Room} {s : State} {m : MethodId} {args : Array Value} {below : List Frame} {meth : Method} {c : Code} {Z : State} {L : Lits} {h0 h h' : Heap} {ws mine0 mine mine' : List Addr} {T T' : State} {locs locs' : List Loc} {ce sl ce' sl' : Nat}
  {own : String} {code : ByteArray} {maxL : Nat} {ret : Option FieldType} {nm : String} {Q : Option Value → Heap → List Addr → Prop}
theorem Fini.step {a b : State} (F : Fini p l e R s below Z L h0 ws mine0 Q b) (k : ∀ target, Steps p.tables e below b target → Steps p.tables e below a target) : Fini p l e R s below Z L h0 ws mine0 Q a := by
  obtain ⟨s₂, v, lo, nw, r1, r⟩ := F
  exact ⟨s₂, v, lo, nw, k _ r1, r⟩
theorem St.hown (X : St p l e R s m args below meth c Z L h0 ws T locs ce sl mine) (B : Bdy p s m meth c own code maxL ret nm) : (s.setVm T.vm).vm.findClass own = some m.cls := by
  rw [show (s.setVm T.vm).vm = T.vm from rfl, X.2.1.1.alike.findClass]; exact B.2.2.2.1
theorem St.warm (X : St p l e R s m args below meth c Z L h0 ws T locs ce sl mine) : Z.Warmed39 (s.setVm T.vm).vm := X.2.2.2.2.1
/-- a step of the library's, over the base at hand: re-based -/
theorem St.rebase (X : St p l e R s m args below meth c Z L h0 ws T locs ce sl mine) (Y : Stand p l e R (s.setVm T.vm) m args below meth c T' locs' ce' sl') (hF : Fr Z.heap.size locs') (hs : T.heap.size ≤ T'.heap.size)
    (hk : ∀ x c, T.heap[x]? = some c → x ∉ mine → T'.heap[x]? = some c) (hm : ∀ x ∈ mine', x ∈ mine ∨ (T.heap.size ≤ x ∧ x < T'.heap.size)) (K : Keep h0 T'.heap ws) : St p l e R s m args below meth c Z L h0 ws T' locs' ce' sl' mine' :=
  ⟨Y.retabled Y.warmed.wide, X.2.1.trans (Y.warmed.since T'.heap.size) hs, hF, K, X.2.2.2.2.go (U := s.setVm T.vm) rfl Y.warmed hs hk hm⟩
theorem St.same (X : St p l e R s m args below meth c Z L h0 ws T locs ce sl mine) (Y : Stand p l e R (s.setVm T.vm) m args below meth c T' locs ce sl) (hh : T'.heap = T.heap) : St p l e R s m args below meth c Z L h0 ws T' locs ce sl mine :=
  X.rebase Y X.2.2.1 (by rw [hh]; exact Nat.le_refl _) (fun x c hc _ => by rw [hh]; exact hc) (fun x hx => Or.inl hx) (by rw [hh]; exact X.2.2.2.1)
theorem WP.pure1 {pc pc' : Nat} {Ls Ls' : List Slot} {st st' : List Value} (k : WP own code maxL ret nm R Z L h0 ws mine0 Q mine ce sl h pc' Ls' st')
    (hstep : ∀ (p : Program) (e : Env) (below : List Frame) (T : State) (m : MethodId) (c : Code) (target : State), At T m c below → p.tables.exec = Jvm.exec → c.code = code → Steps p.tables e below (T.setTop (mkF m pc' Ls'.toArray st')) target → Steps p.tables e below (T.setTop (mkF m pc Ls.toArray st)) target) :
    WP own code maxL ret nm R Z L h0 ws mine0 Q mine ce sl h pc Ls st := by
  intro p l e s m args below meth c B T locs X hT
  exact (k p l e s m args below meth c B T locs X hT).step fun t => hstep p e below T m c t X.1.here B.1 B.2.1
/-- what the invariant says here -/
theorem WP.know {pc : Nat} {Ls : List Slot} {st : List Value} (k : Ext Z.heap h → Keep h0 h ws → (∀ x ∈ mine, Z.heap.size ≤ x ∧ x < h.size) → WP own code maxL ret nm R Z L h0 ws mine0 Q mine ce sl h pc Ls st) : WP own code maxL ret nm R Z L h0 ws mine0 Q mine ce sl h pc Ls st := by
  intro p l e s m args below meth c B T locs X hT
  subst hT
  exact k X.2.2.2.2.2.1 X.2.2.2.1 X.2.2.2.2.2.2.1 p l e s m args below meth c B T locs X rfl
theorem WP.freeze {pc : Nat} {Ls : List Slot} {st : List Value} (k : WP own code maxL ret nm R Z L h0 ws mine0 Q mine' ce sl h pc Ls st) (hm : ∀ x ∈ mine', x ∈ mine) : WP own code maxL ret nm R Z L h0 ws mine0 Q mine ce sl h pc Ls st := by
  intro p l e s m args below meth c B T locs X hT
  exact k p l e s m args below meth c B T locs ⟨X.1, X.2.1, X.2.2.1, X.2.2.2.1, X.2.2.2.2.mono hm⟩ hT
theorem WP.post {Q' : Option Value → Heap → List Addr → Prop} {pc : Nat} {Ls : List Slot} {st : List Value} (k : WP own code maxL ret nm R Z L h0 ws mine0 Q mine ce sl h pc Ls st) (hq : ∀ v h nw, Q v h nw → Q' v h nw) : WP own code maxL ret nm R Z L h0 ws mine0 Q' mine ce sl h pc Ls st := by
  intro p l e s m args below meth c B T locs X hT
  obtain ⟨s₂, v, lo, nw, r1, r2, r3, r4, r5, r6, r7, r8, r9⟩ := k p l e s m args below meth c B T locs X hT
  exact ⟨s₂, v, lo, nw, r1, r2, r3, r4, r5, r6, r7, r8, hq _ _ _ r9⟩
theorem WP.more {pc : Nat} {Ls : List Slot} {st : List Value} (k : WP own code maxL ret nm R Z L h0 ws mine0 Q mine ce' sl' h pc Ls st) (hc : ce ≤ ce') (hs : sl ≤ sl') : WP own code maxL ret nm R Z L h0 ws mine0 Q mine ce sl h pc Ls st := by
  intro p l e s m args below meth c B T locs X hT
  exact k p l e s m args below meth c B T locs ⟨X.1.mono hc hs, X.2⟩ hT
end Basic
end Jvm.OwnW
namespace Jvm.OwnW
open Jvm Jvm.ClassFile Sem Op Lib Jvm.Free Jvm.Stand Jvm.LawKit Jvm.RoadKit Bundle
section Plain
variable {R : Room} {Z : State} {L : Lits} {h0 h : Heap} {ws mine0 mine : List Addr} {ce sl : Nat} {own : String} {code : ByteArray} {maxL : Nat} {ret : Option FieldType} {nm : String} {Q : Option Value → Heap → List Addr → Prop} {pc pc' : Nat} {Ls : List Slot} {rest : List Value}
def one : Option Slot → Bool
  | some .unset => true
  | some (.val v) => v.category == 1
  | _ => false
theorem one_spec {o : Option Slot} (h : one o = true) : ∃ x, o = some x ∧ (x = .unset ∨ ∃ w, x = .val w ∧ w.category = 1) := by
  rcases o with _ | (_ | _ | v)
  · simp [one] at h
  · exact ⟨_, rfl, Or.inl rfl⟩
  · simp [one] at h
  · exact ⟨_, rfl, Or.inr ⟨v, rfl, by simpa [one] using h⟩⟩
theorem sto1 {Ls Ls' : List Slot} {k : Nat} {v : Value} (ho : one Ls[k]? = true) (hv : v.category = 1) (he : Ls.set k (.val v) = Ls') : storeLocals Ls.toArray k v = some Ls'.toArray := by
  obtain ⟨x, h1, h2⟩ := one_spec ho
  rw [XS.store1 (o := x) (by simpa using h1) h2 hv, ← he]
  simp
theorem sto2 {Ls Ls' : List Slot} {k : Nat} {x : Int64} (ho : one Ls[k]? = true) (ho' : one Ls[k+1]? = true) (he : (Ls.set k (.val (.long x))).set (k + 1) .second = Ls') : storeLocals Ls.toArray k (.long x) = some Ls'.toArray := by
  obtain ⟨y, h1, h2⟩ := one_spec ho
  obtain ⟨z, g1, g2⟩ := one_spec ho'
  subst he
  have k1 : k < Ls.length := (List.getElem?_eq_some_iff.mp h1).1
  have k2 : k + 1 < Ls.length := (List.getElem?_eq_some_iff.mp g1).1
  have e1 : Ls[k] = y := (List.getElem?_eq_some_iff.mp h1).2
  have e2 : Ls[k+1] = z := (List.getElem?_eq_some_iff.mp g1).2
  have hlc : (Value.long x).category = 2 := rfl
  rcases h2 with rfl | ⟨w, rfl, hw⟩ <;> rcases g2 with rfl | ⟨w', rfl, hw'⟩ <;> simp [storeLocals, storeSelf, setAt, hlc, k1, k2, e1, e2, *]
theorem sto2L {Ls Ls' : List Slot} {k : Nat} {x y : Int64} (ho : Ls[k]? = some (.val (.long y))) (ho' : Ls[k+1]? = some .second) (he : Ls.set k (.val (.long x)) = Ls') : storeLocals Ls.toArray k (.long x) = some Ls'.toArray := by
  subst he
  have k1 : k < Ls.length := (List.getElem?_eq_some_iff.mp ho).1
  have k2 : k + 1 < Ls.length := (List.getElem?_eq_some_iff.mp ho').1
  have e1 : Ls[k] = .val (.long y) := (List.getElem?_eq_some_iff.mp ho).2
  have e2 : Ls[k+1] = .second := (List.getElem?_eq_some_iff.mp ho').2
  have : ((Ls.set (k+1) .unset).set k (.val (.long x))).set (k+1) .second = Ls.set k (.val (.long x)) := by
    have this : Ls.set (k+1) .second = Ls := by rw [← e2]; exact List.set_getElem_self _
    rw [List.set_comm _ _ (by omega), List.set_set, this]
  have hlc : ∀ z : Int64, (Value.long z).category = 2 := fun _ => rfl
  simp [storeLocals, storeSelf, setAt, hlc, k1, k2, e1, e2, this]

theorem WP.aloadN {k : Fin 4} {v : Value} (hd : decode code pc = .ok (.aload_n k, 1)) (hl : Ls[k.val]? = some (.val v)) (hv : v.isRef = true) (hp : pc + 1 = pc') (K : WP own code maxL ret nm R Z L h0 ws mine0 Q mine ce sl h pc' Ls (v :: rest)) : WP own code maxL ret nm R Z L h0 ws mine0 Q mine ce sl h pc Ls (rest) := by
  subst hp; exact K.pure1 fun p e below T m c t h hx hc hr => XS.aloadN h hx rfl (hb hc hd) (by simpa using hl) hv hr
theorem WP.iloadN {k : Fin 4} {v : Int32} (hd : decode code pc = .ok (.iload_n k, 1)) (hl : Ls[k.val]? = some (.val (.int v))) (hp : pc + 1 = pc') (K : WP own code maxL ret nm R Z L h0 ws mine0 Q mine ce sl h pc' Ls (.int v :: rest)) : WP own code maxL ret nm R Z L h0 ws mine0 Q mine ce sl h pc Ls (rest) := by
  subst hp; exact K.pure1 fun p e below T m c t h hx hc hr => XS.iloadN h hx rfl (hb hc hd) (by simpa using hl) hr
theorem WP.lloadN {k : Fin 4} {v : Int64} (hd : decode code pc = .ok (.lload_n k, 1)) (hl : Ls[k.val]? = some (.val (.long v))) (hp : pc + 1 = pc') (K : WP own code maxL ret nm R Z L h0 ws mine0 Q mine ce sl h pc' Ls (.long v :: rest)) : WP own code maxL ret nm R Z L h0 ws mine0 Q mine ce sl h pc Ls (rest) := by
  subst hp; exact K.pure1 fun p e below T m c t h hx hc hr => XS.lloadN h hx rfl (hb hc hd) (by simpa using hl) hr
theorem WP.istoreN {k : Fin 4} {x : Int32} {Ls' : List Slot} (hd : decode code pc = .ok (.istore_n k, 1)) (ho : one Ls[k.val]? = true) (he : Ls.set k.val (.val (.int x)) = Ls') (hp : pc + 1 = pc') (K : WP own code maxL ret nm R Z L h0 ws mine0 Q mine ce sl h pc' Ls' (rest)) : WP own code maxL ret nm R Z L h0 ws mine0 Q mine ce sl h pc Ls (.int x :: rest) := by
  subst hp; exact K.pure1 fun p e below T m c t h hx hc hr => XS.istoreN h hx rfl (hb hc hd) rfl (sto1 ho rfl he) hr
theorem WP.astoreN {k : Fin 4} {x : Value} {Ls' : List Slot} (hd : decode code pc = .ok (.astore_n k, 1)) (hv : x.isRef = true) (hc1 : x.category = 1) (ho : one Ls[k.val]? = true) (he : Ls.set k.val (.val x) = Ls') (hp : pc + 1 = pc') (K : WP own code maxL ret nm R Z L h0 ws mine0 Q mine ce sl h pc' Ls' (rest)) : WP own code maxL ret nm R Z L h0 ws mine0 Q mine ce sl h pc Ls (x :: rest) := by
  subst hp; exact K.pure1 fun p e below T m c t h hx hc hr => XS.astoreN h hx rfl (hb hc hd) rfl hv (sto1 ho hc1 he) hr
theorem WP.lstoreN {k : Fin 4} {x : Int64} {Ls' : List Slot} (hd : decode code pc = .ok (.lstore_n k, 1)) (ho : one Ls[k.val]? = true) (ho' : one Ls[k.val+1]? = true) (he : (Ls.set k.val (.val (.long x))).set (k.val + 1) .second = Ls') (hp : pc + 1 = pc') (K : WP own code maxL ret nm R Z L h0 ws mine0 Q mine ce sl h pc' Ls' (rest)) : WP own code maxL ret nm R Z L h0 ws mine0 Q mine ce sl h pc Ls (.long x :: rest) := by
  subst hp; exact K.pure1 fun p e below T m c t h hx hc hr => XS.lstoreN h hx rfl (hb hc hd) rfl (sto2 ho ho' he) hr
theorem WP.lstoreLN {k : Fin 4} {x y : Int64} {Ls' : List Slot} (hd : decode code pc = .ok (.lstore_n k, 1)) (ho : Ls[k.val]? = some (.val (.long y))) (ho' : Ls[k.val+1]? = some .second) (he : Ls.set k.val (.val (.long x)) = Ls') (hp : pc + 1 = pc') (K : WP own code maxL ret nm R Z L h0 ws mine0 Q mine ce sl h pc' Ls' (rest)) : WP own code maxL ret nm R Z L h0 ws mine0 Q mine ce sl h pc Ls (.long x :: rest) := by
  subst hp; exact K.pure1 fun p e below T m c t h hx hc hr => XS.lstoreN h hx rfl (hb hc hd) rfl (sto2L ho ho' he) hr
theorem WP.aload {k : Nat} {v : Value} (hd : decode code pc = .ok (.aload k, 2)) (hl : Ls[k]? = some (.val v)) (hv : v.isRef = true) (hp : pc + 2 = pc') (K : WP own code maxL ret nm R Z L h0 ws mine0 Q mine ce sl h pc' Ls (v :: rest)) : WP own code maxL ret nm R Z L h0 ws mine0 Q mine ce sl h pc Ls (rest) := by
  subst hp; exact K.pure1 fun p e below T m c t h hx hc hr => XS.aload h hx rfl (hb hc hd) (by simpa using hl) hv hr
theorem WP.iload {k : Nat} {v : Int32} (hd : decode code pc = .ok (.iload k, 2)) (hl : Ls[k]? = some (.val (.int v))) (hp : pc + 2 = pc') (K : WP own code maxL ret nm R Z L h0 ws mine0 Q mine ce sl h pc' Ls (.int v :: rest)) : WP own code maxL ret nm R Z L h0 ws mine0 Q mine ce sl h pc Ls (rest) := by
  subst hp; exact K.pure1 fun p e below T m c t h hx hc hr => XS.iload h hx rfl (hb hc hd) (by simpa using hl) hr
theorem WP.lload {k : Nat} {v : Int64} (hd : decode code pc = .ok (.lload k, 2)) (hl : Ls[k]? = some (.val (.long v))) (hp : pc + 2 = pc') (K : WP own code maxL ret nm R Z L h0 ws mine0 Q mine ce sl h pc' Ls (.long v :: rest)) : WP own code maxL ret nm R Z L h0 ws mine0 Q mine ce sl h pc Ls (rest) := by
  subst hp; exact K.pure1 fun p e below T m c t h hx hc hr => XS.lload h hx rfl (hb hc hd) (by simpa using hl) hr
theorem WP.istore {k : Nat} {x : Int32} {Ls' : List Slot} (hd : decode code pc = .ok (.istore k, 2)) (ho : one Ls[k]? = true) (he : Ls.set k (.val (.int x)) = Ls') (hp : pc + 2 = pc') (K : WP own code maxL ret nm R Z L h0 ws mine0 Q mine ce sl h pc' Ls' (rest)) : WP own code maxL ret nm R Z L h0 ws mine0 Q mine ce sl h pc Ls (.int x :: rest) := by
  subst hp; exact K.pure1 fun p e below T m c t h hx hc hr => XS.istore h hx rfl (hb hc hd) rfl (sto1 ho rfl he) hr
theorem WP.astore {k : Nat} {x : Value} {Ls' : List Slot} (hd : decode code pc = .ok (.astore k, 2)) (hv : x.isRef = true) (hc1 : x.category = 1) (ho : one Ls[k]? = true) (he : Ls.set k (.val x) = Ls') (hp : pc + 2 = pc') (K : WP own code maxL ret nm R Z L h0 ws mine0 Q mine ce sl h pc' Ls' (rest)) : WP own code maxL ret nm R Z L h0 ws mine0 Q mine ce sl h pc Ls (x :: rest) := by
  subst hp; exact K.pure1 fun p e below T m c t h hx hc hr => XS.astore h hx rfl (hb hc hd) rfl hv (sto1 ho hc1 he) hr
theorem WP.lstore {k : Nat} {x : Int64} {Ls' : List Slot} (hd : decode code pc = .ok (.lstore k, 2)) (ho : one Ls[k]? = true) (ho' : one Ls[k+1]? = true) (he : (Ls.set k (.val (.long x))).set (k + 1) .second = Ls') (hp : pc + 2 = pc') (K : WP own code maxL ret nm R Z L h0 ws mine0 Q mine ce sl h pc' Ls' (rest)) : WP own code maxL ret nm R Z L h0 ws mine0 Q mine ce sl h pc Ls (.long x :: rest) := by
  subst hp; exact K.pure1 fun p e below T m c t h hx hc hr => XS.lstore h hx rfl (hb hc hd) rfl (sto2 ho ho' he) hr
theorem WP.lstoreL {k : Nat} {x y : Int64} {Ls' : List Slot} (hd : decode code pc = .ok (.lstore k, 2)) (ho : Ls[k]? = some (.val (.long y))) (ho' : Ls[k+1]? = some .second) (he : Ls.set k (.val (.long x)) = Ls') (hp : pc + 2 = pc') (K : WP own code maxL ret nm R Z L h0 ws mine0 Q mine ce sl h pc' Ls' (rest)) : WP own code maxL ret nm R Z L h0 ws mine0 Q mine ce sl h pc Ls (.long x :: rest) := by
  subst hp; exact K.pure1 fun p e below T m c t h hx hc hr => XS.lstore h hx rfl (hb hc hd) rfl (sto2L ho ho' he) hr
theorem WP.iconst {i : Int} {x : Int32} (hd : decode code pc = .ok (.iconst i, 1)) (hx1 : Int32.ofInt i = x) (hp : pc + 1 = pc') (K : WP own code maxL ret nm R Z L h0 ws mine0 Q mine ce sl h pc' Ls (.int x :: rest)) : WP own code maxL ret nm R Z L h0 ws mine0 Q mine ce sl h pc Ls (rest) := by
  subst hp; exact K.pure1 fun p e below T m c t h hx hc hr => XS.iconst h hx rfl (hb hc hd) (by rw [hx1]; exact hr)
theorem WP.bipush {i : Int} {x : Int32} (hd : decode code pc = .ok (.bipush i, 2)) (hx1 : (Int8.ofInt i).toInt32 = x) (hp : pc + 2 = pc') (K : WP own code maxL ret nm R Z L h0 ws mine0 Q mine ce sl h pc' Ls (.int x :: rest)) : WP own code maxL ret nm R Z L h0 ws mine0 Q mine ce sl h pc Ls (rest) := by
  subst hp; exact K.pure1 fun p e below T m c t h hx hc hr => XS.bipush h hx rfl (hb hc hd) (by rw [hx1]; exact hr)
theorem WP.sipush {i : Int} {x : Int32} (hd : decode code pc = .ok (.sipush i, 3)) (hx1 : (Int16.ofInt i).toInt32 = x) (hp : pc + 3 = pc') (K : WP own code maxL ret nm R Z L h0 ws mine0 Q mine ce sl h pc' Ls (.int x :: rest)) : WP own code maxL ret nm R Z L h0 ws mine0 Q mine ce sl h pc Ls (rest) := by
  subst hp; exact K.pure1 fun p e below T m c t h hx hc hr => XS.sipush h hx rfl (hb hc hd) (by rw [hx1]; exact hr)
theorem WP.aconstNull  (hd : decode code pc = .ok (.aconst_null, 1))  (hp : pc + 1 = pc') (K : WP own code maxL ret nm R Z L h0 ws mine0 Q mine ce sl h pc' Ls (.null :: rest)) : WP own code maxL ret nm R Z L h0 ws mine0 Q mine ce sl h pc Ls (rest) := by
  subst hp; exact K.pure1 fun p e below T m c t h hx hc hr => XS.aconstNull h hx rfl (hb hc hd) hr
theorem WP.iadd {x y : Int32} (hd : decode code pc = .ok (.iadd, 1))  (hp : pc + 1 = pc') (K : WP own code maxL ret nm R Z L h0 ws mine0 Q mine ce sl h pc' Ls (.int (x + y) :: rest)) : WP own code maxL ret nm R Z L h0 ws mine0 Q mine ce sl h pc Ls (.int y :: .int x :: rest) := by
  subst hp; exact K.pure1 fun p e below T m c t h hx hc hr => XS.iadd h hx rfl (hb hc hd) rfl hr
theorem WP.isub {x y : Int32} (hd : decode code pc = .ok (.isub, 1))  (hp : pc + 1 = pc') (K : WP own code maxL ret nm R Z L h0 ws mine0 Q mine ce sl h pc' Ls (.int (x - y) :: rest)) : WP own code maxL ret nm R Z L h0 ws mine0 Q mine ce sl h pc Ls (.int y :: .int x :: rest) := by
  subst hp; exact K.pure1 fun p e below T m c t h hx hc hr => XS.isub h hx rfl (hb hc hd) rfl hr
theorem WP.imul {x y : Int32} (hd : decode code pc = .ok (.imul, 1))  (hp : pc + 1 = pc') (K : WP own code maxL ret nm R Z L h0 ws mine0 Q mine ce sl h pc' Ls (.int (x * y) :: rest)) : WP own code maxL ret nm R Z L h0 ws mine0 Q mine ce sl h pc Ls (.int y :: .int x :: rest) := by
  subst hp; exact K.pure1 fun p e below T m c t h hx hc hr => XS.imul h hx rfl (hb hc hd) rfl hr
theorem WP.iand {x y : Int32} (hd : decode code pc = .ok (.iand, 1))  (hp : pc + 1 = pc') (K : WP own code maxL ret nm R Z L h0 ws mine0 Q mine ce sl h pc' Ls (.int (x &&& y) :: rest)) : WP own code maxL ret nm R Z L h0 ws mine0 Q mine ce sl h pc Ls (.int y :: .int x :: rest) := by
  subst hp; exact K.pure1 fun p e below T m c t h hx hc hr => XS.iand h hx rfl (hb hc hd) rfl hr
theorem WP.ior {x y : Int32} (hd : decode code pc = .ok (.ior, 1))  (hp : pc + 1 = pc') (K : WP own code maxL ret nm R Z L h0 ws mine0 Q mine ce sl h pc' Ls (.int (x ||| y) :: rest)) : WP own code maxL ret nm R Z L h0 ws mine0 Q mine ce sl h pc Ls (.int y :: .int x :: rest) := by
  subst hp; exact K.pure1 fun p e below T m c t h hx hc hr => XS.ior h hx rfl (hb hc hd) rfl hr
theorem WP.ixor {x y : Int32} (hd : decode code pc = .ok (.ixor, 1))  (hp : pc + 1 = pc') (K : WP own code maxL ret nm R Z L h0 ws mine0 Q mine ce sl h pc' Ls (.int (x ^^^ y) :: rest)) : WP own code maxL ret nm R Z L h0 ws mine0 Q mine ce sl h pc Ls (.int y :: .int x :: rest) := by
  subst hp; exact K.pure1 fun p e below T m c t h hx hc hr => XS.ixor h hx rfl (hb hc hd) rfl hr
theorem WP.ishl {x y : Int32} (hd : decode code pc = .ok (.ishl, 1))  (hp : pc + 1 = pc') (K : WP own code maxL ret nm R Z L h0 ws mine0 Q mine ce sl h pc' Ls (.int (x <<< (y &&& 31)) :: rest)) : WP own code maxL ret nm R Z L h0 ws mine0 Q mine ce sl h pc Ls (.int y :: .int x :: rest) := by
  subst hp; exact K.pure1 fun p e below T m c t h hx hc hr => XS.ishl h hx rfl (hb hc hd) rfl hr
theorem WP.ishr {x y : Int32} (hd : decode code pc = .ok (.ishr, 1))  (hp : pc + 1 = pc') (K : WP own code maxL ret nm R Z L h0 ws mine0 Q mine ce sl h pc' Ls (.int (x >>> (y &&& 31)) :: rest)) : WP own code maxL ret nm R Z L h0 ws mine0 Q mine ce sl h pc Ls (.int y :: .int x :: rest) := by
  subst hp; exact K.pure1 fun p e below T m c t h hx hc hr => XS.ishr h hx rfl (hb hc hd) rfl hr
theorem WP.iushr {x y : Int32} (hd : decode code pc = .ok (.iushr, 1))  (hp : pc + 1 = pc') (K : WP own code maxL ret nm R Z L h0 ws mine0 Q mine ce sl h pc' Ls (.int ((x.toUInt32 >>> (y &&& 31).toUInt32).toInt32) :: rest)) : WP own code maxL ret nm R Z L h0 ws mine0 Q mine ce sl h pc Ls (.int y :: .int x :: rest) := by
  subst hp; exact K.pure1 fun p e below T m c t h hx hc hr => XS.iushr h hx rfl (hb hc hd) rfl hr
theorem WP.ladd {x y : Int64} (hd : decode code pc = .ok (.ladd, 1))  (hp : pc + 1 = pc') (K : WP own code maxL ret nm R Z L h0 ws mine0 Q mine ce sl h pc' Ls (.long (x + y) :: rest)) : WP own code maxL ret nm R Z L h0 ws mine0 Q mine ce sl h pc Ls (.long y :: .long x :: rest) := by
  subst hp; exact K.pure1 fun p e below T m c t h hx hc hr => XS.ladd h hx rfl (hb hc hd) rfl hr
theorem WP.lsub {x y : Int64} (hd : decode code pc = .ok (.lsub, 1))  (hp : pc + 1 = pc') (K : WP own code maxL ret nm R Z L h0 ws mine0 Q mine ce sl h pc' Ls (.long (x - y) :: rest)) : WP own code maxL ret nm R Z L h0 ws mine0 Q mine ce sl h pc Ls (.long y :: .long x :: rest) := by
  subst hp; exact K.pure1 fun p e below T m c t h hx hc hr => XS.lsub h hx rfl (hb hc hd) rfl hr
theorem WP.lmul {x y : Int64} (hd : decode code pc = .ok (.lmul, 1))  (hp : pc + 1 = pc') (K : WP own code maxL ret nm R Z L h0 ws mine0 Q mine ce sl h pc' Ls (.long (x * y) :: rest)) : WP own code maxL ret nm R Z L h0 ws mine0 Q mine ce sl h pc Ls (.long y :: .long x :: rest) := by
  subst hp; exact K.pure1 fun p e below T m c t h hx hc hr => XS.lmul h hx rfl (hb hc hd) rfl hr
theorem WP.land {x y : Int64} (hd : decode code pc = .ok (.land, 1))  (hp : pc + 1 = pc') (K : WP own code maxL ret nm R Z L h0 ws mine0 Q mine ce sl h pc' Ls (.long (x &&& y) :: rest)) : WP own code maxL ret nm R Z L h0 ws mine0 Q mine ce sl h pc Ls (.long y :: .long x :: rest) := by
  subst hp; exact K.pure1 fun p e below T m c t h hx hc hr => XS.land h hx rfl (hb hc hd) rfl hr
theorem WP.lor {x y : Int64} (hd : decode code pc = .ok (.lor, 1))  (hp : pc + 1 = pc') (K : WP own code maxL ret nm R Z L h0 ws mine0 Q mine ce sl h pc' Ls (.long (x ||| y) :: rest)) : WP own code maxL ret nm R Z L h0 ws mine0 Q mine ce sl h pc Ls (.long y :: .long x :: rest) := by
  subst hp; exact K.pure1 fun p e below T m c t h hx hc hr => XS.lor h hx rfl (hb hc hd) rfl hr
theorem WP.lxor {x y : Int64} (hd : decode code pc = .ok (.lxor, 1))  (hp : pc + 1 = pc') (K : WP own code maxL ret nm R Z L h0 ws mine0 Q mine ce sl h pc' Ls (.long (x ^^^ y) :: rest)) : WP own code maxL ret nm R Z L h0 ws mine0 Q mine ce sl h pc Ls (.long y :: .long x :: rest) := by
  subst hp; exact K.pure1 fun p e below T m c t h hx hc hr => XS.lxor h hx rfl (hb hc hd) rfl hr
theorem WP.lshl {x : Int64} {y : Int32} (hd : decode code pc = .ok (.lshl, 1))  (hp : pc + 1 = pc') (K : WP own code maxL ret nm R Z L h0 ws mine0 Q mine ce sl h pc' Ls (.long (x <<< (y &&& 0x3f).toInt64) :: rest)) : WP own code maxL ret nm R Z L h0 ws mine0 Q mine ce sl h pc Ls (.int y :: .long x :: rest) := by
  subst hp; exact K.pure1 fun p e below T m c t h hx hc hr => XS.lshl h hx rfl (hb hc hd) rfl hr
theorem WP.lshr {x : Int64} {y : Int32} (hd : decode code pc = .ok (.lshr, 1))  (hp : pc + 1 = pc') (K : WP own code maxL ret nm R Z L h0 ws mine0 Q mine ce sl h pc' Ls (.long (x >>> (y &&& 0x3f).toInt64) :: rest)) : WP own code maxL ret nm R Z L h0 ws mine0 Q mine ce sl h pc Ls (.int y :: .long x :: rest) := by
  subst hp; exact K.pure1 fun p e below T m c t h hx hc hr => XS.lshr h hx rfl (hb hc hd) rfl hr
theorem WP.lushr {x : Int64} {y : Int32} (hd : decode code pc = .ok (.lushr, 1))  (hp : pc + 1 = pc') (K : WP own code maxL ret nm R Z L h0 ws mine0 Q mine ce sl h pc' Ls (.long ((x.toUInt64 >>> (y &&& 0x3f).toInt64.toUInt64).toInt64) :: rest)) : WP own code maxL ret nm R Z L h0 ws mine0 Q mine ce sl h pc Ls (.int y :: .long x :: rest) := by
  subst hp; exact K.pure1 fun p e below T m c t h hx hc hr => XS.lushr h hx rfl (hb hc hd) rfl hr
theorem WP.idiv {x y : Int32} (hd : decode code pc = .ok (.idiv, 1)) (hy : y ≠ 0) (hp : pc + 1 = pc') (K : WP own code maxL ret nm R Z L h0 ws mine0 Q mine ce sl h pc' Ls (.int (x / y) :: rest)) : WP own code maxL ret nm R Z L h0 ws mine0 Q mine ce sl h pc Ls (.int y :: .int x :: rest) := by
  subst hp; exact K.pure1 fun p e below T m c t h hx hc hr => XS.idiv h hx rfl (hb hc hd) rfl hy hr
theorem WP.irem {x y : Int32} (hd : decode code pc = .ok (.irem, 1)) (hy : y ≠ 0) (hp : pc + 1 = pc') (K : WP own code maxL ret nm R Z L h0 ws mine0 Q mine ce sl h pc' Ls (.int (x % y) :: rest)) : WP own code maxL ret nm R Z L h0 ws mine0 Q mine ce sl h pc Ls (.int y :: .int x :: rest) := by
  subst hp; exact K.pure1 fun p e below T m c t h hx hc hr => XS.irem h hx rfl (hb hc hd) rfl hy (by rw [irem_eq_mod]; exact hr)
theorem WP.ldiv {x y : Int64} (hd : decode code pc = .ok (.ldiv, 1)) (hy : y ≠ 0) (hp : pc + 1 = pc') (K : WP own code maxL ret nm R Z L h0 ws mine0 Q mine ce sl h pc' Ls (.long (x / y) :: rest)) : WP own code maxL ret nm R Z L h0 ws mine0 Q mine ce sl h pc Ls (.long y :: .long x :: rest) := by
  subst hp; exact K.pure1 fun p e below T m c t h hx hc hr => XS.ldiv h hx rfl (hb hc hd) rfl hy hr
theorem WP.lrem {x y : Int64} (hd : decode code pc = .ok (.lrem, 1)) (hy : y ≠ 0) (hp : pc + 1 = pc') (K : WP own code maxL ret nm R Z L h0 ws mine0 Q mine ce sl h pc' Ls (.long (x % y) :: rest)) : WP own code maxL ret nm R Z L h0 ws mine0 Q mine ce sl h pc Ls (.long y :: .long x :: rest) := by
  subst hp; exact K.pure1 fun p e below T m c t h hx hc hr => XS.lrem h hx rfl (hb hc hd) rfl hy (by rw [lrem_mod]; exact hr)
theorem WP.ineg {x : Int32} (hd : decode code pc = .ok (.ineg, 1))  (hp : pc + 1 = pc') (K : WP own code maxL ret nm R Z L h0 ws mine0 Q mine ce sl h pc' Ls (.int (-x) :: rest)) : WP own code maxL ret nm R Z L h0 ws mine0 Q mine ce sl h pc Ls (.int x :: rest) := by
  subst hp; exact K.pure1 fun p e below T m c t h hx hc hr => XS.ineg h hx rfl (hb hc hd) rfl hr
theorem WP.lneg {x : Int64} (hd : decode code pc = .ok (.lneg, 1))  (hp : pc + 1 = pc') (K : WP own code maxL ret nm R Z L h0 ws mine0 Q mine ce sl h pc' Ls (.long (-x) :: rest)) : WP own code maxL ret nm R Z L h0 ws mine0 Q mine ce sl h pc Ls (.long x :: rest) := by
  subst hp; exact K.pure1 fun p e below T m c t h hx hc hr => XS.lneg h hx rfl (hb hc hd) rfl hr
theorem WP.i2b {x : Int32} (hd : decode code pc = .ok (.i2b, 1))  (hp : pc + 1 = pc') (K : WP own code maxL ret nm R Z L h0 ws mine0 Q mine ce sl h pc' Ls (.int x.toInt8.toInt32 :: rest)) : WP own code maxL ret nm R Z L h0 ws mine0 Q mine ce sl h pc Ls (.int x :: rest) := by
  subst hp; exact K.pure1 fun p e below T m c t h hx hc hr => XS.i2b h hx rfl (hb hc hd) rfl hr
theorem WP.i2s {x : Int32} (hd : decode code pc = .ok (.i2s, 1))  (hp : pc + 1 = pc') (K : WP own code maxL ret nm R Z L h0 ws mine0 Q mine ce sl h pc' Ls (.int x.toInt16.toInt32 :: rest)) : WP own code maxL ret nm R Z L h0 ws mine0 Q mine ce sl h pc Ls (.int x :: rest) := by
  subst hp; exact K.pure1 fun p e below T m c t h hx hc hr => XS.i2s h hx rfl (hb hc hd) rfl hr
theorem WP.i2c {x : Int32} (hd : decode code pc = .ok (.i2c, 1))  (hp : pc + 1 = pc') (K : WP own code maxL ret nm R Z L h0 ws mine0 Q mine ce sl h pc' Ls (.int x.toUInt32.toUInt16.toUInt32.toInt32 :: rest)) : WP own code maxL ret nm R Z L h0 ws mine0 Q mine ce sl h pc Ls (.int x :: rest) := by
  subst hp; exact K.pure1 fun p e below T m c t h hx hc hr => XS.i2c h hx rfl (hb hc hd) rfl hr
theorem WP.i2l {x : Int32} (hd : decode code pc = .ok (.i2l, 1))  (hp : pc + 1 = pc') (K : WP own code maxL ret nm R Z L h0 ws mine0 Q mine ce sl h pc' Ls (.long x.toInt64 :: rest)) : WP own code maxL ret nm R Z L h0 ws mine0 Q mine ce sl h pc Ls (.int x :: rest) := by
  subst hp; exact K.pure1 fun p e below T m c t h hx hc hr => XS.i2l h hx rfl (hb hc hd) rfl hr
theorem WP.l2i {x : Int64} (hd : decode code pc = .ok (.l2i, 1))  (hp : pc + 1 = pc') (K : WP own code maxL ret nm R Z L h0 ws mine0 Q mine ce sl h pc' Ls (.int x.toInt32 :: rest)) : WP own code maxL ret nm R Z L h0 ws mine0 Q mine ce sl h pc Ls (.long x :: rest) := by
  subst hp; exact K.pure1 fun p e below T m c t h hx hc hr => XS.l2i h hx rfl (hb hc hd) rfl hr
theorem WP.lcmp {x y : Int64} (hd : decode code pc = .ok (.lcmp, 1))  (hp : pc + 1 = pc') (K : WP own code maxL ret nm R Z L h0 ws mine0 Q mine ce sl h pc' Ls (.int (lcmpW x y) :: rest)) : WP own code maxL ret nm R Z L h0 ws mine0 Q mine ce sl h pc Ls (.long y :: .long x :: rest) := by
  subst hp; exact K.pure1 fun p e below T m c t h hx hc hr => XS.lcmp h hx rfl (hb hc hd) rfl hr
theorem WP.lconst {k : Fin 2} {x : Int64} (hd : decode code pc = .ok (.lconst k, 1)) (hx1 : Int64.ofNat k.val = x) (hp : pc + 1 = pc') (K : WP own code maxL ret nm R Z L h0 ws mine0 Q mine ce sl h pc' Ls (.long x :: rest)) : WP own code maxL ret nm R Z L h0 ws mine0 Q mine ce sl h pc Ls (rest) := by
  subst hp; exact K.pure1 fun p e below T m c t h hx hc hr => XS.lconst h hx rfl (hb hc hd) (by rw [← hx1] at hr; simpa using hr)
theorem WP.dup {v : Value} (hd : decode code pc = .ok (.dup, 1)) (hc1 : v.category = 1) (hp : pc + 1 = pc') (K : WP own code maxL ret nm R Z L h0 ws mine0 Q mine ce sl h pc' Ls (v :: v :: rest)) : WP own code maxL ret nm R Z L h0 ws mine0 Q mine ce sl h pc Ls (v :: rest) := by
  subst hp; exact K.pure1 fun p e below T m c t h hx hc hr => XS.dup h hx rfl (hb hc hd) rfl hc1 hr
theorem WP.pop {v : Value} (hd : decode code pc = .ok (.pop, 1)) (hc1 : v.category = 1) (hp : pc + 1 = pc') (K : WP own code maxL ret nm R Z L h0 ws mine0 Q mine ce sl h pc' Ls (rest)) : WP own code maxL ret nm R Z L h0 ws mine0 Q mine ce sl h pc Ls (v :: rest) := by
  subst hp; exact K.pure1 fun p e below T m c t h hx hc hr => XS.pop h hx rfl (hb hc hd) rfl hc1 hr
theorem WP.swap {v w : Value} (hd : decode code pc = .ok (.swap, 1)) (hc1 : v.category = 1) (hc2 : w.category = 1) (hp : pc + 1 = pc') (K : WP own code maxL ret nm R Z L h0 ws mine0 Q mine ce sl h pc' Ls (w :: v :: rest)) : WP own code maxL ret nm R Z L h0 ws mine0 Q mine ce sl h pc Ls (v :: w :: rest) := by
  subst hp; exact K.pure1 fun p e below T m c t h hx hc hr => XS.swap h hx rfl (hb hc hd) rfl hc1 hc2 hr
theorem WP.dupX1 {v w : Value} (hd : decode code pc = .ok (.dup_x1, 1)) (hc1 : v.category = 1) (hc2 : w.category = 1) (hp : pc + 1 = pc') (K : WP own code maxL ret nm R Z L h0 ws mine0 Q mine ce sl h pc' Ls (v :: w :: v :: rest)) : WP own code maxL ret nm R Z L h0 ws mine0 Q mine ce sl h pc Ls (v :: w :: rest) := by
  subst hp; exact K.pure1 fun p e below T m c t h hx hc hr => XS.dupX1 h hx rfl (hb hc hd) rfl hc1 hc2 hr
theorem WP.iinc {k : Nat} {i : Int} {x y : Int32} {Ls' : List Slot} (hd : decode code pc = .ok (.iinc k i, 3)) (hl : Ls[k]? = some (.val (.int x))) (hy : x + Int32.ofInt i = y) (he : Ls.set k (.val (.int y)) = Ls') (hp : pc + 3 = pc') (K : WP own code maxL ret nm R Z L h0 ws mine0 Q mine ce sl h pc' Ls' (rest)) : WP own code maxL ret nm R Z L h0 ws mine0 Q mine ce sl h pc Ls (rest) := by
  subst hp; exact K.pure1 fun p e below T m c t h hx hc hr => XS.iinc h hx rfl (hb hc hd) (by simpa using hl) (sto1 (by rw [hl]; rfl) rfl (by rw [hy]; exact he)) hr
theorem WP.goto {o : Int} (hd : decode code pc = .ok (.goto o, 3)) (ho : 0 ≤ (pc : Int) + o) (hp : ((pc : Int) + o).toNat = pc') (K : WP own code maxL ret nm R Z L h0 ws mine0 Q mine ce sl h pc' Ls rest) : WP own code maxL ret nm R Z L h0 ws mine0 Q mine ce sl h pc Ls rest := 
  K.pure1 fun p e below T m c t h hx hc hr => XS.goto h hx rfl rfl (hb hc hd) ho hp hr
def cndT (cd : ClassFile.Cond) (x y : Int32) : Prop := match cd with
  | .eq => x = y | .ne => ¬ x = y | .lt => x < y | .ge => ¬ x < y | .gt => y < x | .le => ¬ y < x
def cndF (cd : ClassFile.Cond) (x y : Int32) : Prop := match cd with
  | .eq => ¬ x = y | .ne => x = y | .lt => ¬ x < y | .ge => x < y | .gt => ¬ y < x | .le => y < x
theorem cnd_t {cd : ClassFile.Cond} {x y : Int32} (h : cndT cd x y) : if_icmp.holds cd x y = true := by
  cases cd
  · exact (teq h).1
  · exact (feq h).2
  · exact (tlt h).1
  · exact (flt h).2.1
  · exact (tlt h).2.2.1
  · exact (flt h).2.2.2
theorem cnd_f {cd : ClassFile.Cond} {x y : Int32} (h : cndF cd x y) : if_icmp.holds cd x y = false := by
  cases cd
  · exact (feq h).1
  · exact (teq h).2
  · exact (flt h).1
  · exact (tlt h).2.1
  · exact (flt h).2.2.1
  · exact (tlt h).2.2.2
theorem cnd_or (cd : ClassFile.Cond) (x y : Int32) : cndT cd x y ∨ cndF cd x y := by
  cases cd <;> simp only [cndT, cndF] <;> first | exact Classical.em _ | exact (Classical.em _).symm
theorem WP.icmpT {cd : ClassFile.Cond} {o : Int} {x y : Int32} (hd : decode code pc = .ok (.if_icmp cd o, 3)) (ho : 0 ≤ (pc : Int) + o) (hp : ((pc : Int) + o).toNat = pc') (hc1 : cndT cd x y) (K : WP own code maxL ret nm R Z L h0 ws mine0 Q mine ce sl h pc' Ls rest) : WP own code maxL ret nm R Z L h0 ws mine0 Q mine ce sl h pc Ls (.int y :: .int x :: rest) :=
  K.pure1 fun p e below T m c t h hx hc hr => XS.icmpYes h hx rfl rfl (hb hc hd) rfl (cnd_t hc1) ho hp hr
theorem WP.icmpF {cd : ClassFile.Cond} {o : Int} {x y : Int32} (hd : decode code pc = .ok (.if_icmp cd o, 3)) (hp : pc + 3 = pc') (hc1 : cndF cd x y) (K : WP own code maxL ret nm R Z L h0 ws mine0 Q mine ce sl h pc' Ls rest) : WP own code maxL ret nm R Z L h0 ws mine0 Q mine ce sl h pc Ls (.int y :: .int x :: rest) := by
  subst hp; exact K.pure1 fun p e below T m c t h hx hc hr => XS.icmpNo h hx rfl (hb hc hd) rfl (cnd_f hc1) hr
theorem WP.icmp {cd : ClassFile.Cond} {o : Int} {x y : Int32} {pc2 : Nat} (hd : decode code pc = .ok (.if_icmp cd o, 3)) (ho : 0 ≤ (pc : Int) + o) (hp : ((pc : Int) + o).toNat = pc') (hp2 : pc + 3 = pc2) (K1 : cndT cd x y → WP own code maxL ret nm R Z L h0 ws mine0 Q mine ce sl h pc' Ls rest) (K2 : cndF cd x y → WP own code maxL ret nm R Z L h0 ws mine0 Q mine ce sl h pc2 Ls rest) : WP own code maxL ret nm R Z L h0 ws mine0 Q mine ce sl h pc Ls (.int y :: .int x :: rest) := by
  rcases cnd_or cd x y with q | q
  · exact WP.icmpT hd ho hp q (K1 q)
  · exact WP.icmpF hd hp2 q (K2 q)
theorem WP.ifT {cd : ClassFile.Cond} {o : Int} {x : Int32} (hd : decode code pc = .ok (.ifCond cd o, 3)) (ho : 0 ≤ (pc : Int) + o) (hp : ((pc : Int) + o).toNat = pc') (hc1 : cndT cd x 0) (K : WP own code maxL ret nm R Z L h0 ws mine0 Q mine ce sl h pc' Ls rest) : WP own code maxL ret nm R Z L h0 ws mine0 Q mine ce sl h pc Ls (.int x :: rest) :=
  K.pure1 fun p e below T m c t h hx hc hr => XS.ifYes h hx rfl rfl (hb hc hd) rfl ((if0 _ _).trans (cnd_t hc1)) ho hp hr
theorem WP.ifF {cd : ClassFile.Cond} {o : Int} {x : Int32} (hd : decode code pc = .ok (.ifCond cd o, 3)) (hp : pc + 3 = pc') (hc1 : cndF cd x 0) (K : WP own code maxL ret nm R Z L h0 ws mine0 Q mine ce sl h pc' Ls rest) : WP own code maxL ret nm R Z L h0 ws mine0 Q mine ce sl h pc Ls (.int x :: rest) := by
  subst hp; exact K.pure1 fun p e below T m c t h hx hc hr => XS.ifNo h hx rfl (hb hc hd) rfl ((if0 _ _).trans (cnd_f hc1)) hr
theorem WP.ifC {cd : ClassFile.Cond} {o : Int} {x : Int32} {pc2 : Nat} (hd : decode code pc = .ok (.ifCond cd o, 3)) (ho : 0 ≤ (pc : Int) + o) (hp : ((pc : Int) + o).toNat = pc') (hp2 : pc + 3 = pc2) (K1 : cndT cd x 0 → WP own code maxL ret nm R Z L h0 ws mine0 Q mine ce sl h pc' Ls rest) (K2 : cndF cd x 0 → WP own code maxL ret nm R Z L h0 ws mine0 Q mine ce sl h pc2 Ls rest) : WP own code maxL ret nm R Z L h0 ws mine0 Q mine ce sl h pc Ls (.int x :: rest) := by
  rcases cnd_or cd x 0 with q | q
  · exact WP.ifT hd ho hp q (K1 q)
  · exact WP.ifF hd hp2 q (K2 q)
theorem WP.ifnullT {o : Int} (hd : decode code pc = .ok (.ifnull o, 3)) (ho : 0 ≤ (pc : Int) + o) (hp : ((pc : Int) + o).toNat = pc') (K : WP own code maxL ret nm R Z L h0 ws mine0 Q mine ce sl h pc' Ls rest) : WP own code maxL ret nm R Z L h0 ws mine0 Q mine ce sl h pc Ls (.null :: rest) :=
  K.pure1 fun p e below T m c t h hx hc hr => XS.ifnullYes h hx rfl rfl (hb hc hd) rfl ho hp hr
theorem WP.ifnullF {o : Int} {a : Addr} (hd : decode code pc = .ok (.ifnull o, 3)) (hp : pc + 3 = pc') (K : WP own code maxL ret nm R Z L h0 ws mine0 Q mine ce sl h pc' Ls rest) : WP own code maxL ret nm R Z L h0 ws mine0 Q mine ce sl h pc Ls (.ref a :: rest) := by
  subst hp; exact K.pure1 fun p e below T m c t h hx hc hr => XS.ifnullNo h hx rfl (hb hc hd) rfl hr
theorem WP.ifnonnullT {o : Int} {a : Addr} (hd : decode code pc = .ok (.ifnonnull o, 3)) (ho : 0 ≤ (pc : Int) + o) (hp : ((pc : Int) + o).toNat = pc') (K : WP own code maxL ret nm R Z L h0 ws mine0 Q mine ce sl h pc' Ls rest) : WP own code maxL ret nm R Z L h0 ws mine0 Q mine ce sl h pc Ls (.ref a :: rest) :=
  K.pure1 fun p e below T m c t h hx hc hr => XS.ifnonnullYes h hx rfl rfl (hb hc hd) rfl ho hp hr
theorem WP.ifnonnullF {o : Int} (hd : decode code pc = .ok (.ifnonnull o, 3)) (hp : pc + 3 = pc') (K : WP own code maxL ret nm R Z L h0 ws mine0 Q mine ce sl h pc' Ls rest) : WP own code maxL ret nm R Z L h0 ws mine0 Q mine ce sl h pc Ls (.null :: rest) := by
  subst hp; exact K.pure1 fun p e below T m c t h hx hc hr => XS.ifnonnullNo h hx rfl (hb hc hd) rfl hr
theorem WP.acmp {cd : ACond} {o : Int} {x y : Value} (hd : decode code pc = .ok (.if_acmp cd o, 3)) (h1 : x.isRef = true) (h2 : y.isRef = true) (same : Bool) (hq : decide (x = y) = same) (ho : 0 ≤ (pc : Int) + o) (hp : pc' = if acV cd same = true then ((pc : Int) + o).toNat else pc + 3) (K : WP own code maxL ret nm R Z L h0 ws mine0 Q mine ce sl h pc' Ls rest) : WP own code maxL ret nm R Z L h0 ws mine0 Q mine ce sl h pc Ls (y :: x :: rest) := by
  intro p l e s m args below meth c B T locs X hT
  exact (K p l e s m args below meth c B T locs X hT).step fun t hr => Jvm.RoadKit.acmp X.1 B.1 rfl h1 h2 rfl (hb B.2.1 hd) rfl hq ho hp hr
end Plain
end Jvm.OwnW
namespace Jvm.OwnW
open Jvm Jvm.ClassFile Sem Op Lib Jvm.Free Jvm.Stand Jvm.LawKit Jvm.RoadKit Bundle
/-- an array of ints, chars, bytes or booleans with these components -/
def ArI (Z : State) (h : Heap) (a : Addr) (ty : FieldType) (xs : List Int32) : Prop := ∃ c : Cell, Arr Z h a c ty ∧ c.slots = (xs.map Value.int).toArray ∧ xs.length < 2 ^ 31
section Ar
variable {Z : State} {h h' : Heap} {a b : Addr} {ty : FieldType} {xs : List Int32} {ws : List Addr}
theorem ArI.lt (A : ArI Z h a ty xs) : a < h.size := by obtain ⟨c, A, -⟩ := A; exact A.lt
theorem ArI.len (A : ArI Z h a ty xs) : xs.length < 2 ^ 31 := by obtain ⟨c, -, -, r⟩ := A; exact r
theorem ArI.ext (A : ArI Z h a ty xs) (E : Ext h h') : ArI Z h' a ty xs := by obtain ⟨c, A, r⟩ := A; exact ⟨c, A.ext E, r⟩
theorem ArI.other {sl : Nat} {v : Value} (A : ArI Z h a ty xs) (W : Wr h h' b sl v) (q : a ≠ b) : ArI Z h' a ty xs := by obtain ⟨c, A, r⟩ := A; exact ⟨c, A.other W q, r⟩
theorem ArI.cell (A : ArI Z h a ty xs) (hk : ∀ c, h[a]? = some c → h'[a]? = some c) : ArI Z h' a ty xs := by obtain ⟨c, A, r⟩ := A; exact ⟨c, ⟨hk _ A.1, A.2⟩, r⟩
theorem ArI.keep (A : ArI Z h a ty xs) (K : Keep h h' ws) (q : a ∉ ws) : ArI Z h' a ty xs := A.cell fun c hc => K.2.1 a c hc q
theorem ArI.set {i : Nat} {x : Int32} (A : ArI Z h a ty xs) (W : Wr h h' a i (.int x)) : ArI Z h' a ty (xs.set i x) := by
  obtain ⟨c, A, r1, r2⟩ := A
  refine ⟨_, A.same W, ?_, by simpa using r2⟩
  show c.slots.setIfInBounds i (.int x) = _
  rw [r1]; simp [List.map_set]
theorem nat_clamp {j : Int32} {i : Nat} (hj : j.toInt = (i : Int)) : j.toNatClampNeg = i := by simp [Int32.toNatClampNeg, hj]
theorem ArI.inb {c : Cell} {j : Int32} {i : Nat} (r : c.slots = (xs.map Value.int).toArray) (hj : j.toInt = (i : Int)) (hi : i < xs.length) : ¬ (j < 0 ∨ c.slots.size ≤ j.toNatClampNeg) := by
  rw [nat_clamp hj, r]
  rw [Int32.lt_iff_toInt_lt, hj]
  simp; omega
end Ar
section Heap
variable {R : Room} {Z : State} {L : Lits} {h0 h : Heap} {ws mine0 mine : List Addr} {ce sl : Nat} {own : String} {code : ByteArray} {maxL : Nat} {ret : Option FieldType} {nm : String} {Q : Option Value → Heap → List Addr → Prop} {pc pc' : Nat} {Ls : List Slot} {rest : List Value} {a0 : Array Value} {a : Addr}
theorem WP.getfield {R0 O n d host : String} {idx : Nat} {v : Value} (hd : decode code pc = .ok (.getfield idx, 3)) (w : (Jvm.Cond.fieldLink own idx R0 n d).before a0 Z = true ∨ (Jvm.Cond.fieldLinkNest own idx R0 n d host).before a0 Z = true) (via : Via Z R0 O n d) (F : Fld Z h a O n d v) (hp : pc + 3 = pc')
    (K : WP own code maxL ret nm R Z L h0 ws mine0 Q mine ce sl h pc' Ls (v :: rest)) : WP own code maxL ret nm R Z L h0 ws mine0 Q mine ce sl h pc Ls (.ref a :: rest) := by
  intro p l e s m args below meth c B T locs X hT
  subst hp
  obtain ⟨T', Y, eT, st⟩ := getF X.1 B.1 X.warm (X.hown B) w via hT F (g := mkF m pc Ls.toArray (.ref a :: rest)) rfl rfl (hb B.2.1 hd)
  exact (K p l e s m args below meth c B T' locs (X.same Y (eT.trans hT.symm)) eT).step st
theorem WP.getstatic {R0 O n d host : String} {idx : Nat} {v : Value} (hd : decode code pc = .ok (.getstatic idx, 3)) (w : (Jvm.Cond.fieldLink own idx R0 n d).before a0 Z = true ∨ (Jvm.Cond.fieldLinkNest own idx R0 n d host).before a0 Z = true) (via : Via Z R0 O n d) (F : Sta Z Z.heap O n d v) (hp : pc + 3 = pc')
    (K : WP own code maxL ret nm R Z L h0 ws mine0 Q mine ce sl h pc' Ls (v :: rest)) : WP own code maxL ret nm R Z L h0 ws mine0 Q mine ce sl h pc Ls rest := by
  intro p l e s m args below meth c B T locs X hT
  subst hp
  have F' : Sta Z h O n d v := F.ext (hT ▸ X.2.2.2.2.2.1)
  obtain ⟨T', Y, eT, st⟩ := getS2 X.1 B.1 X.warm (X.hown B) w via hT F' (g := mkF m pc Ls.toArray rest) rfl (hb B.2.1 hd)
  exact (K p l e s m args below meth c B T' locs (X.same Y (eT.trans hT.symm)) eT).step st
theorem WP.putfield {R0 O n d host C : String} {idx kk : Nat} {ty : FieldType} {v old : Value} (hd : decode code pc = .ok (.putfield idx, 3)) (w : (Jvm.Cond.fieldLink own idx R0 n d).before a0 Z = true ∨ (Jvm.Cond.fieldLinkNest own idx R0 n d host).before a0 Z = true) (via : Via Z R0 O n d) (F : Fld Z h a O n d old) (E : Exa Z h a C)
    (La : (Jvm.Cond.lays C O n d).before a0 Z = true ∨ ((Jvm.Cond.laysFinal C O n d).before a0 Z = true ∧ own = O ∧ nm = "<init>")) (wi : (Jvm.Cond.instantiable C kk).before a0 Z = true) (hty : parseFieldDescriptor d = some ty) (hn : narrow ty v = v) (hf : fits ty v = true) (hm : a ∈ mine) (hw : a ∈ ws ∨ h0.size ≤ a) (hp : pc + 3 = pc')
    (K : ∀ h', Wr h h' a (Jvm.RoadKit.slotOf Z O n d) v → Fld Z h' a O n d v → Exa Z h' a C → WP own code maxL ret nm R Z L h0 ws mine0 Q mine ce sl h' pc' Ls rest) : WP own code maxL ret nm R Z L h0 ws mine0 Q mine ce sl h pc Ls (v :: .ref a :: rest) := by
  intro p l e s m args below meth c B T locs X hT
  subst hp
  obtain ⟨T', h', Y, eT, W, st⟩ := putF X.1 B.1 X.warm (X.hown B) w via hT F E (La.imp id fun q => ⟨q.1, q.2.1, B.2.2.2.2.2.2.trans q.2.2⟩) wi hty hn hf (g := mkF m pc Ls.toArray (v :: .ref a :: rest)) rfl rfl (hb B.2.1 hd)
  subst hT
  subst eT
  refine (K _ W (F.same W) (E.wr W) p l e s m args below meth c B T' _ (X.rebase Y (Fr.snoc Y X.2.2.1 (X.2.2.2.2.2.2.1 _ hm).1) (by rw [W.size]; exact Nat.le_refl _) (fun x c hc hx => ?_) (fun x hx => Or.inl hx) (X.2.2.2.1.wr W hw)) rfl).step st
  obtain ⟨c', q1, -, -, -, q5, -⟩ := wr_at W hc
  rw [← q5 fun q => hx (q ▸ hm)]; exact q1
theorem WP.new {C : String} {idx n : Nat} (hd : decode code pc = .ok (.new idx, 3)) (w : (Jvm.Cond.classLink own idx C).before a0 Z = true) (wi : (Jvm.Cond.instantiable C n).before a0 Z = true) (wz : (Jvm.Cond.initialized C).before a0 Z = true) (hc : ce + 1 ≤ R.cells) (hl : sl + n ≤ R.slots) (hp : pc + 3 = pc')
    (K : ∀ h' a, a = h.size → a ∉ mine → h0.size ≤ a → Ext h h' → Exa Z h' a C → (∀ {O nm d : String} {ty : FieldType}, Laid Z a0 C O nm d → parseFieldDescriptor d = some ty → Fld Z h' a O nm d (defaultValue ty)) → WP own code maxL ret nm R Z L h0 ws mine0 Q (a :: mine) (ce + 1) (sl + n) h' pc' Ls (.ref a :: rest)) : WP own code maxL ret nm R Z L h0 ws mine0 Q mine ce sl h pc Ls rest := by
  intro p l e s m args below meth c B T locs X hT
  subst hp
  obtain ⟨T', h', Y, eT, E, A, D, -, st⟩ := newO X.1 B.1 X.warm (X.hown B) w wi wz hT (g := mkF m pc Ls.toArray rest) rfl (hb B.2.1 hd) hc hl
  subst hT
  subst eT
  refine (K _ _ rfl (fun hx => absurd (X.2.2.2.2.2.2.1 _ hx).2 (Nat.lt_irrefl _)) X.2.2.2.1.1 E A D p l e s m args below meth c B T' _ (X.rebase Y X.2.2.1 E.1 (fun x c hc hx => E.2 _ _ hc) (fun x hx => ?_) (X.2.2.2.1.ext E)) rfl).step st
  rcases List.mem_cons.mp hx with rfl | hx
  · exact Or.inr ⟨Nat.le_refl _, A.lt⟩
  · exact Or.inl hx
theorem WP.newarray {aty : ArrayType} {n : Int32} {N : Nat} (hd : decode code pc = .ok (.newarray aty, 2)) (w : (Jvm.Cond.arrayClass (newarray.typeOf aty)).before a0 Z = true) (hdv : defaultValue (newarray.typeOf aty) = .int 0) (hn : n.toInt = (N : Int)) (hb1 : N * 8 ≤ 536870912) (hc : ce + 1 ≤ R.cells) (hl : sl + N ≤ R.slots) (hp : pc + 2 = pc')
    (K : ∀ h' a, a = h.size → a ∉ mine → h0.size ≤ a → Ext h h' → ArI Z h' a (newarray.typeOf aty) (List.replicate N 0) → WP own code maxL ret nm R Z L h0 ws mine0 Q (a :: mine) (ce + 1) (sl + N) h' pc' Ls (.ref a :: rest)) : WP own code maxL ret nm R Z L h0 ws mine0 Q mine ce sl h pc Ls (.int n :: rest) := by
  intro p l e s m args below meth c B T locs X hT
  subst hp
  obtain ⟨T', h', cA, Y, eT, E, A, st⟩ := newP X.1 B.1 X.warm w hT (g := mkF m pc Ls.toArray (.int n :: rest)) rfl (hb B.2.1 hd) rfl (by rw [Int32.lt_iff_toInt_lt, hn]; simp) (cap := N) (by rw [nat_clamp hn]; exact Nat.le_refl _) hb1 hc hl
  subst hT
  subst eT
  have A' : ArI Z T'.heap T.heap.size (newarray.typeOf aty) (List.replicate N 0) := ⟨_, A, by simp [newA, nat_clamp hn, hdv], by simp; omega⟩
  refine (K _ _ rfl (fun hx => absurd (X.2.2.2.2.2.2.1 _ hx).2 (Nat.lt_irrefl _)) X.2.2.2.1.1 E A' p l e s m args below meth c B T' _ (X.rebase Y X.2.2.1 E.1 (fun x c hc hx => E.2 _ _ hc) (fun x hx => ?_) (X.2.2.2.1.ext E)) rfl).step st
  rcases List.mem_cons.mp hx with rfl | hx
  · exact Or.inr ⟨Nat.le_refl _, A.lt⟩
  · exact Or.inl hx
theorem wr_mine {h h' : Heap} {a : Addr} {sl : Nat} {v : Value} {mine : List Addr} (W : Wr h h' a sl v) (hm : a ∈ mine) : ∀ x c, h[x]? = some c → x ∉ mine → h'[x]? = some c := fun x c hc hx => by
  obtain ⟨c', q1, -, -, -, q5, -⟩ := wr_at W hc
  rw [← q5 fun q => hx (q ▸ hm)]; exact q1
theorem WP.castore {xs : List Int32} {i : Nat} {j x : Int32} (hd : decode code pc = .ok (.castore, 1)) (A : ArI Z h a .char xs) (hj : j.toInt = (i : Int)) (hi : i < xs.length) (hm : a ∈ mine) (hw : a ∈ ws ∨ h0.size ≤ a) (hp : pc + 1 = pc')
    (K : ∀ h', Wr h h' a i (.int (nar .char x)) → ArI Z h' a .char (xs.set i (nar .char x)) → WP own code maxL ret nm R Z L h0 ws mine0 Q mine ce sl h' pc' Ls rest) : WP own code maxL ret nm R Z L h0 ws mine0 Q mine ce sl h pc Ls (.int x :: .int j :: .ref a :: rest) := by
  intro p l e s m args below meth c B T locs X hT
  subst hp
  obtain ⟨cl, A', r1, r2⟩ := id A
  obtain ⟨T', h', Y, eT, W, st⟩ := stC X.1 B.1 X.warm hT A' (ArI.inb r1 hj hi) (g := mkF m pc Ls.toArray (.int x :: .int j :: .ref a :: rest)) rfl rfl (hb B.2.1 hd)
  rw [nat_clamp hj] at W Y
  subst hT
  subst eT
  exact (K _ W (A.set W) p l e s m args below meth c B T' _ (X.rebase Y (Fr.snoc Y X.2.2.1 (X.2.2.2.2.2.2.1 _ hm).1) (by rw [W.size]; exact Nat.le_refl _) (wr_mine W hm) (fun x hx => Or.inl hx) (X.2.2.2.1.wr W hw)) rfl).step st
theorem WP.bastore {xs : List Int32} {i : Nat} {j x : Int32} (hd : decode code pc = .ok (.bastore, 1)) (A : ArI Z h a .byte xs) (hj : j.toInt = (i : Int)) (hi : i < xs.length) (hm : a ∈ mine) (hw : a ∈ ws ∨ h0.size ≤ a) (hp : pc + 1 = pc')
    (K : ∀ h', Wr h h' a i (.int (nar .byte x)) → ArI Z h' a .byte (xs.set i (nar .byte x)) → WP own code maxL ret nm R Z L h0 ws mine0 Q mine ce sl h' pc' Ls rest) : WP own code maxL ret nm R Z L h0 ws mine0 Q mine ce sl h pc Ls (.int x :: .int j :: .ref a :: rest) := by
  intro p l e s m args below meth c B T locs X hT
  subst hp
  obtain ⟨cl, A', r1, r2⟩ := id A
  obtain ⟨T', h', Y, eT, W, st⟩ := stB X.1 B.1 X.warm hT A' (ArI.inb r1 hj hi) (g := mkF m pc Ls.toArray (.int x :: .int j :: .ref a :: rest)) rfl rfl (hb B.2.1 hd)
  rw [nat_clamp hj] at W Y
  subst hT
  subst eT
  exact (K _ W (A.set W) p l e s m args below meth c B T' _ (X.rebase Y (Fr.snoc Y X.2.2.1 (X.2.2.2.2.2.2.1 _ hm).1) (by rw [W.size]; exact Nat.le_refl _) (wr_mine W hm) (fun x hx => Or.inl hx) (X.2.2.2.1.wr W hw)) rfl).step st
theorem WP.iastore {xs : List Int32} {i : Nat} {j x : Int32} (hd : decode code pc = .ok (.iastore, 1)) (A : ArI Z h a .int xs) (hj : j.toInt = (i : Int)) (hi : i < xs.length) (hm : a ∈ mine) (hw : a ∈ ws ∨ h0.size ≤ a) (hp : pc + 1 = pc')
    (K : ∀ h', Wr h h' a i (.int x) → ArI Z h' a .int (xs.set i x) → WP own code maxL ret nm R Z L h0 ws mine0 Q mine ce sl h' pc' Ls rest) : WP own code maxL ret nm R Z L h0 ws mine0 Q mine ce sl h pc Ls (.int x :: .int j :: .ref a :: rest) := by
  intro p l e s m args below meth c B T locs X hT
  subst hp
  obtain ⟨cl, A', r1, r2⟩ := id A
  obtain ⟨T', h', Y, eT, W, st⟩ := stI X.1 B.1 X.warm hT A' (ArI.inb r1 hj hi) (g := mkF m pc Ls.toArray (.int x :: .int j :: .ref a :: rest)) rfl rfl (hb B.2.1 hd)
  rw [nat_clamp hj] at W Y
  subst hT
  subst eT
  exact (K _ W (A.set W) p l e s m args below meth c B T' _ (X.rebase Y (Fr.snoc Y X.2.2.1 (X.2.2.2.2.2.2.1 _ hm).1) (by rw [W.size]; exact Nat.le_refl _) (wr_mine W hm) (fun x hx => Or.inl hx) (X.2.2.2.1.wr W hw)) rfl).step st
theorem ArI.at {Z : State} {xs : List Int32} {c : Cell} {j x : Int32} {i : Nat} (r : c.slots = (xs.map Value.int).toArray) (hj : j.toInt = (i : Int)) (hx : xs[i]? = some x) : c.slots[j.toNatClampNeg]? = some (.int x) := by
  rw [nat_clamp hj, r]; simp [hx]
theorem lt_of_some {xs : List Int32} {i : Nat} {x : Int32} (h : xs[i]? = some x) : i < xs.length := (List.getElem?_eq_some_iff.mp h).1
theorem WP.caload {xs : List Int32} {i : Nat} {j x : Int32} (hd : decode code pc = .ok (.caload, 1)) (A : ArI Z h a .char xs) (hj : j.toInt = (i : Int)) (hx : xs[i]? = some x) (hp : pc + 1 = pc')
    (K : WP own code maxL ret nm R Z L h0 ws mine0 Q mine ce sl h pc' Ls (.int x :: rest)) : WP own code maxL ret nm R Z L h0 ws mine0 Q mine ce sl h pc Ls (.int j :: .ref a :: rest) := by
  intro p l e s m args below meth c B T locs X hT
  subst hp
  obtain ⟨cl, A', r1, r2⟩ := A
  exact (K p l e s m args below meth c B T locs X hT).step fun t hr => X.1.caload B.1 (j := j) (v := .int x) (by rw [hT]; exact A'.1) (State.isArrayOf_alike X.warm.alike A'.2.1) A'.2.2 (ArI.inb r1 hj (lt_of_some hx)) (ArI.at (Z := Z) r1 hj hx) (g := mkF m pc Ls.toArray (.int j :: .ref a :: rest)) rfl rfl (hb B.2.1 hd) _ hr
theorem WP.baload {xs : List Int32} {i : Nat} {j x : Int32} (hd : decode code pc = .ok (.baload, 1)) (A : ArI Z h a .byte xs) (hj : j.toInt = (i : Int)) (hx : xs[i]? = some x) (hp : pc + 1 = pc')
    (K : WP own code maxL ret nm R Z L h0 ws mine0 Q mine ce sl h pc' Ls (.int x :: rest)) : WP own code maxL ret nm R Z L h0 ws mine0 Q mine ce sl h pc Ls (.int j :: .ref a :: rest) := by
  intro p l e s m args below meth c B T locs X hT
  subst hp
  obtain ⟨cl, A', r1, r2⟩ := A
  exact (K p l e s m args below meth c B T locs X hT).step fun t hr => X.1.baloadBytes B.1 (j := j) (v := .int x) (by rw [hT]; exact A'.1) (State.isArrayOf_alike X.warm.alike A'.2.1) A'.2.2 (ArI.inb r1 hj (lt_of_some hx)) (ArI.at (Z := Z) r1 hj hx) (g := mkF m pc Ls.toArray (.int j :: .ref a :: rest)) rfl rfl (hb B.2.1 hd) _ hr
theorem WP.iaload {xs : List Int32} {i : Nat} {j x : Int32} (hd : decode code pc = .ok (.iaload, 1)) (A : ArI Z h a .int xs) (hj : j.toInt = (i : Int)) (hx : xs[i]? = some x) (hp : pc + 1 = pc')
    (K : WP own code maxL ret nm R Z L h0 ws mine0 Q mine ce sl h pc' Ls (.int x :: rest)) : WP own code maxL ret nm R Z L h0 ws mine0 Q mine ce sl h pc Ls (.int j :: .ref a :: rest) := by
  intro p l e s m args below meth c B T locs X hT
  subst hp
  obtain ⟨cl, A', r1, r2⟩ := A
  exact (K p l e s m args below meth c B T locs X hT).step fun t hr => X.1.iaload B.1 (j := j) (v := .int x) (by rw [hT]; exact A'.1) (State.isArrayOf_alike X.warm.alike A'.2.1) A'.2.2 (ArI.inb r1 hj (lt_of_some hx)) (ArI.at (Z := Z) r1 hj hx) (g := mkF m pc Ls.toArray (.int j :: .ref a :: rest)) rfl rfl (hb B.2.1 hd) _ hr
theorem WP.arraylength {ty : FieldType} {xs : List Int32} {n : Int32} (hd : decode code pc = .ok (.arraylength, 1)) (A : ArI Z h a ty xs) (hn : Int32.ofNat xs.length = n) (hp : pc + 1 = pc')
    (K : WP own code maxL ret nm R Z L h0 ws mine0 Q mine ce sl h pc' Ls (.int n :: rest)) : WP own code maxL ret nm R Z L h0 ws mine0 Q mine ce sl h pc Ls (.ref a :: rest) := by
  intro p l e s m args below meth c B T locs X hT
  subst hp
  obtain ⟨cl, A', r1, r2⟩ := A
  have hsz : cl.slots.size.toInt32 = n := by rw [r1, ← hn]; simp
  exact (K p l e s m args below meth c B T locs X hT).step fun t hr => X.1.arraylength B.1 (by rw [hT]; exact A'.1) (State.isArrayOf_alike X.warm.alike A'.2.1) (g := mkF m pc Ls.toArray (.ref a :: rest)) rfl rfl (hb B.2.1 hd) _ (by rw [hsz]; exact hr)
theorem WP.checkcast {K' : String} {idx : Nat} (hd : decode code pc = .ok (.checkcast idx, 3)) (w : (Jvm.Cond.classLink own idx K').before a0 Z = true) (F : Ins Z h a K' true) (hp : pc + 3 = pc')
    (K : WP own code maxL ret nm R Z L h0 ws mine0 Q mine ce sl h pc' Ls (.ref a :: rest)) : WP own code maxL ret nm R Z L h0 ws mine0 Q mine ce sl h pc Ls (.ref a :: rest) := by
  intro p l e s m args below meth c B T locs X hT
  subst hp
  obtain ⟨T', Y, eT, st⟩ := castY X.1 B.1 X.warm (X.hown B) w hT F (g := mkF m pc Ls.toArray (.ref a :: rest)) rfl rfl (hb B.2.1 hd)
  exact (K p l e s m args below meth c B T' locs (X.same Y (eT.trans hT.symm)) eT).step st
theorem WP.checkcastNull {idx : Nat} (hd : decode code pc = .ok (.checkcast idx, 3)) (hp : pc + 3 = pc')
    (K : WP own code maxL ret nm R Z L h0 ws mine0 Q mine ce sl h pc' Ls (.null :: rest)) : WP own code maxL ret nm R Z L h0 ws mine0 Q mine ce sl h pc Ls (.null :: rest) := by
  intro p l e s m args below meth c B T locs X hT
  subst hp
  exact (K p l e s m args below meth c B T locs X hT).step fun t hr => X.1.checkcastNull B.1 (g := mkF m pc Ls.toArray (.null :: rest)) rfl rfl (hb B.2.1 hd) _ hr
theorem WP.instanceofY {K' : String} {idx : Nat} (hd : decode code pc = .ok (.instanceof idx, 3)) (w : (Jvm.Cond.classLink own idx K').before a0 Z = true) (F : Ins Z h a K' true) (hp : pc + 3 = pc')
    (K : WP own code maxL ret nm R Z L h0 ws mine0 Q mine ce sl h pc' Ls (.int 1 :: rest)) : WP own code maxL ret nm R Z L h0 ws mine0 Q mine ce sl h pc Ls (.ref a :: rest) := by
  intro p l e s m args below meth c B T locs X hT
  subst hp
  obtain ⟨T', Y, eT, st⟩ := instY X.1 B.1 X.warm (X.hown B) w hT F (g := mkF m pc Ls.toArray (.ref a :: rest)) rfl rfl (hb B.2.1 hd)
  exact (K p l e s m args below meth c B T' locs (X.same Y (eT.trans hT.symm)) eT).step st
theorem WP.ldcInt {idx : Nat} {v : Int32} (hd : decode code pc = .ok (.ldc idx, 2)) (w : (Jvm.Cond.constant own idx v).before a0 Z = true) (hp : pc + 2 = pc')
    (K : WP own code maxL ret nm R Z L h0 ws mine0 Q mine ce sl h pc' Ls (.int v :: rest)) : WP own code maxL ret nm R Z L h0 ws mine0 Q mine ce sl h pc Ls rest := by
  intro p l e s m args below meth c B T locs X hT
  subst hp
  exact (K p l e s m args below meth c B T locs X hT).step fun t hr => X.1.ldcInt B.1 (X.hown B) (mv X.warm w) (g := mkF m pc Ls.toArray rest) rfl (hb B.2.1 hd) _ hr
theorem WP.ldc2Long {idx : Nat} {v : Int64} (hd : decode code pc = .ok (.ldc2_w idx, 3)) (w : (Jvm.Cond.constantLong own idx v).before a0 Z = true) (hp : pc + 3 = pc')
    (K : WP own code maxL ret nm R Z L h0 ws mine0 Q mine ce sl h pc' Ls (.long v :: rest)) : WP own code maxL ret nm R Z L h0 ws mine0 Q mine ce sl h pc Ls rest := by
  intro p l e s m args below meth c B T locs X hT
  subst hp
  exact (K p l e s m args below meth c B T locs X hT).step fun t hr => X.1.ldc2Long B.1 (X.hown B) (mv X.warm w) (g := mkF m pc Ls.toArray rest) rfl (hb B.2.1 hd) _ hr
theorem WP.initObj {idx : Nat} {W : Nat} (hd : decode code pc = .ok (.invokespecial idx, 3)) (w1 : (Jvm.Cond.methodLink own idx Lib.objectInit).before a0 Z = true) (w2 : (Jvm.Cond.instanceMethod Lib.objectInit).before a0 Z = true) (w3 : (Jvm.Cond.code Lib.objectInit ⟨#[0xb1]⟩ 1 none).before a0 Z = true)
    (hLs : Ls.length = maxL) (hf : 1 ≤ R.frames) (hW : (rest.map fun v => v.category).sum ≤ W) (hl : W + 12 ≤ R.locals) (hp : pc + 3 = pc')
    (K : WP own code maxL ret nm R Z L h0 ws mine0 Q mine ce sl h pc' Ls rest) : WP own code maxL ret nm R Z L h0 ws mine0 Q mine ce sl h pc Ls (.ref a :: rest) := by
  intro p l e s m args below meth c B T locs X hT
  subst hp
  obtain ⟨T', Y, eT, st⟩ := initO X.1 B.1 X.warm (X.hown B) w1 w2 w3 hT (g := mkF m pc Ls.toArray (.ref a :: rest)) rfl (by simp [hLs, B.2.2.1]) rfl (hb B.2.1 hd) hf (W := W) (by simpa using hW) hl
  exact (K p l e s m args below meth c B T' locs (X.same Y (eT.trans hT.symm)) eT).step st
/-- the end of a walk -/
theorem WP.leave {v : Option Value} {st : List Value} {nw : List Addr} (hv : ret = none → v = none) (hq : Q v h nw) (hn : ∀ x ∈ nw, x ∈ mine ∧ h0.size ≤ x) (hm : ∀ x ∈ mine0, x ∈ mine) (hc : ce ≤ R.cells) (hs : sl ≤ R.slots)
    (hstep : ∀ (p : Program) (l : Launch) (e : Env) (s : State) (m : MethodId) (args : Array Value) (below : List Frame) (meth : Method) (c : Code) (T : State) (locs : List Loc), Bdy p s m meth c own code maxL ret nm → Stand p l e R (s.setVm T.vm) m args below meth c T locs ce sl → ∀ fs, (∀ (f : JFrame) (acts : List Action), f.method = m → f.locked = none → f.entered = [] → (doReturn e (T.setTop f) acts v).1 = T.setFrames fs) → Steps p.tables e below (T.setTop (mkF m pc Ls.toArray st)) (T.setFrames fs)) :
    WP own code maxL ret nm R Z L h0 ws mine0 Q mine ce sl h pc Ls st := by
  intro p l e s m args below meth c B T locs X hT
  have hlk : meth.locks = false := B.2.2.2.2.2.1
  obtain ⟨fs, h1, h2, h3, h4⟩ := X.1.leaveW X.2.1 (Nat.le_refl _) (v := v) (fun q => hv (B.2.2.2.2.1.symm.trans q)) hlk
  subst hT
  refine ⟨T.setFrames fs, v, locs, nw, hstep p l e s m args below meth c T locs B X.1 fs h1, h2, h3, ⟨h4.1, h4.2.1, h4.2.2.1, h4.2.2.2.mono hc hs⟩, X.2.2.1, X.2.2.2.1, fun x hx => (hn x hx).2, X.2.2.2.2.mono (fun x hx => ?_), hq⟩
  rcases List.mem_append.mp hx with q | q
  · exact (hn x q).1
  · exact hm x q
theorem WP.vret {nw : List Addr} (hd : decode code pc = .ok (.return_, 1)) (hret : ret = none) (hq : Q none h nw) (hn : ∀ x ∈ nw, x ∈ mine ∧ h0.size ≤ x) (hm : ∀ x ∈ mine0, x ∈ mine) (hc : ce ≤ R.cells) (hs : sl ≤ R.slots) : WP own code maxL ret nm R Z L h0 ws mine0 Q mine ce sl h pc Ls [] :=
  WP.leave (fun _ => rfl) hq hn hm hc hs fun p l e s m args below meth c T locs B X fs hr => X.returnOut B.1 (B.2.2.2.2.1.trans hret) (hb B.2.1 hd) hr
theorem WP.areturn {v : Value} {t : FieldType} {nw : List Addr} (hd : decode code pc = .ok (.areturn, 1)) (hret : ret = some t) (ht : t.isReference = true) (hv : v.isRef = true) (hq : Q (some v) h nw) (hn : ∀ x ∈ nw, x ∈ mine ∧ h0.size ≤ x) (hm : ∀ x ∈ mine0, x ∈ mine) (hc : ce ≤ R.cells) (hs : sl ≤ R.slots) : WP own code maxL ret nm R Z L h0 ws mine0 Q mine ce sl h pc Ls [v] :=
  WP.leave (fun q => by rw [hret] at q; cases q) hq hn hm hc hs fun p l e s m args below meth c T locs B X fs hr => X.areturnOut B.1 hv (B.2.2.2.2.1.trans hret) ht (hb B.2.1 hd) hr
theorem WP.ireturn {x : Int32} {t : FieldType} {nw : List Addr} (hd : decode code pc = .ok (.ireturn, 1)) (hret : ret = some t) (ht : t = .int ∨ t = .boolean ∨ t = .byte ∨ t = .char ∨ t = .short) (hx : narrow t (.int x) = .int x) (hq : Q (some (.int x)) h nw) (hn : ∀ x ∈ nw, x ∈ mine ∧ h0.size ≤ x) (hm : ∀ x ∈ mine0, x ∈ mine) (hc : ce ≤ R.cells) (hs : sl ≤ R.slots) : WP own code maxL ret nm R Z L h0 ws mine0 Q mine ce sl h pc Ls [.int x] :=
  WP.leave (fun q => by rw [hret] at q; cases q) hq hn hm hc hs fun p l e s m args below meth c T locs B X fs hr => X.ireturnOut B.1 (B.2.2.2.2.1.trans hret) hx ht (hb B.2.1 hd) hr
end Heap
/-- a method's contract: these arguments, this heap, this 'mine'; it writes of the old cells only ws -/
def Con (y : MethodName) (code : ByteArray) (maxL : Nat) (ret : Option FieldType) (R : Room) (Z : State) (L : Lits) (cs : List Jvm.Cond) (as : Array Value) (h : Heap) (ws mine : List Addr) (Q : Option Value → Heap → List Addr → Prop) : Prop :=
  ∀ l : Launch, MetFree l y (head1 (Jvm.Cond.code y code maxL ret :: cs) R) (fun a U => a = as ∧ U.heap = h ∧ Inv Z L U.vm U.heap mine) (fun _ _ _ _ _ => True)
    (fun _ U o U' => ∃ (v : Option Value) (locs : List Loc) (nw : List Addr), o = .returned v ∧ ReturnedEndW U o U' locs R.cells R.slots ∧ Fr Z.heap.size locs ∧ Keep h U'.heap ws ∧ (∀ x ∈ nw, h.size ≤ x) ∧ Inv Z L U'.vm U'.heap (nw ++ mine) ∧ Q v U'.heap nw)
theorem Con.of {y : MethodName} {code : ByteArray} {maxL : Nat} {ret : Option FieldType} {R : Room} {Z : State} {L : Lits} {cs : List Jvm.Cond} {as : Array Value} {h : Heap} {ws mine : List Addr} {Q : Option Value → Heap → List Addr → Prop} {Ls : List Slot}
    (hx : plainFor y = true) (hef : ∀ m, entryFrame m as maxL = mkF m 0 Ls.toArray []) (K : WP y.cls code maxL ret y.name R Z L h ws mine Q mine 0 0 h 0 Ls []) : Con y code maxL ret R Z L cs as h ws mine Q := by
  intro l
  refine MetFree.of_bodySF hx hisR ?_
  intro p e s m args below meth c s₁ Bd hml hP _
  obtain ⟨rfl, hh, hI⟩ := hP
  have X0 : Stand p l e R s m args below meth c s₁ [] 0 0 := Stand.of_body Bd
  have e0 : s₁.heap = h := by rw [← hh, Bd.state]; rfl
  have ev : s₁.vm = s.vm := by rw [Bd.state]; rfl
  have hB : Bdy p s m meth c y.cls code maxL ret y.name := ⟨Bd.exec, Bd.bytes, hml, findClass_of_methodNamed Bd.named, Bd.returns, Bd.notSynchronized, (name_of_methodNamed Bd.named Bd.method).1⟩
  have hX : St p l e R s m args below meth c Z L h ws s₁ [] 0 0 mine := by
    refine ⟨X0.retabled X0.warmed.wide, X0.warmed.since _, Fr.nil _, by rw [e0]; exact Keep.refl _ _, ?_⟩
    rw [ev, e0, ← hh]; exact hI
  obtain ⟨s₂, v, lo, nw, r1, r2, r3, r4, r5, r6, r7, r8, r9⟩ := K p l e s m args below meth c hB s₁ [] hX e0
  exact ⟨s₂, _, by rw [hef]; exact r1, r2, r3, v, lo, nw, rfl, r4, r5, r6, r7, r8, r9⟩
section Call
variable {R R' : Room} {Z : State} {L : Lits} {h0 h : Heap} {ws ws' mine0 mine : List Addr} {ce sl : Nat} {own : String} {code : ByteArray} {maxL : Nat} {ret : Option FieldType} {nm : String} {Q : Option Value → Heap → List Addr → Prop} {pc pc' : Nat} {Ls : List Slot} {rest argsL : List Value} {a0 : Array Value} {a : Addr}
  {y z : MethodName} {cb : ByteArray} {mL : Nat} {rt : Option FieldType} {Q' : Option Value → Heap → List Addr → Prop} {idx : Nat} {as : Array Value}
theorem Con.back {p : Program} {l : Launch} {e : Env} {below : List Frame} {s : State} {sargs : Array Value} {len W : Nat} (C : Con y cb mL rt R' Z L [] as h ws' mine Q') (hZ : Z.Warmed39 s.vm) (wc : (Jvm.Cond.code y cb mL rt).before a0 Z = true) (wz : (Jvm.Cond.initialized y.cls).before a0 Z = true) (hf : R'.frames + 1 ≤ R.frames) (hl : W + (mL + 11) + R'.locals ≤ R.locals) :
    BackS l R p e below s sargs y len W (fun A b => b = as ∧ A.U.heap = h ∧ Inv Z L A.U.vm A.U.heap mine ∧ A.cells + R'.cells ≤ R.cells ∧ A.slots + R'.slots ≤ R.slots)
      (fun A _ v B => ∃ L' nw, B.locs = A.locs ++ L' ∧ B.cells = A.cells + R'.cells ∧ B.slots = A.slots + R'.slots ∧ Fr Z.heap.size L' ∧ Keep h B.U.heap ws' ∧ (∀ x ∈ nw, h.size ≤ x) ∧ Inv Z L B.U.vm B.U.heap (nw ++ mine) ∧ Q' v B.U.heap nw) :=
  BackS.of_freeW (bytes := cb) (maxL := mL) (ret := rt) (E := fun _ _ o t L1 k n => k = R'.cells ∧ n = R'.slots ∧ ∃ v nw, o = .returned v ∧ Fr Z.heap.size L1 ∧ Keep h t.heap ws' ∧ (∀ x ∈ nw, h.size ≤ x) ∧ Inv Z L t.vm t.heap (nw ++ mine) ∧ Q' v t.heap nw) (C l) hf hl
    (fun m meth c A b Y hp => have hU : Z.Warmed39 A.U.vm := wtrans hZ Y.warmed
      ⟨by show (Jvm.Cond.and _ .tt).before b A.U = true; rw [Cond.before_and, mv hU wc]; rfl, mv hU wc, mv hU wz, hp.2.2.2.1, hp.2.2.2.2⟩)
    (fun m meth c A b g mk Y hp => ⟨hp.1, hp.2.1, hp.2.2.1⟩) (fun _ _ _ _ _ _ _ _ _ => trivial)
    (fun _ _ _ _ ⟨v, L1, nw, h1, h2, h3, h4, h5, h6, h7⟩ => ⟨L1, _, _, h2, rfl, rfl, v, nw, h1, h3, h4, h5, h6, h7⟩)
    (fun m meth c A b g mk v t L1 k n Y hp _ _ ⟨e1, e2, v', nw, e3, e4, e5, e6, e7, e8⟩ => by cases e3; subst e1 e2; exact ⟨L1, nw, rfl, rfl, rfl, e4, e5, e6, e7, e8⟩)
theorem St.called {p : Program} {l : Launch} {e : Env} {s : State} {m : MethodId} {args : Array Value} {below : List Frame} {meth : Method} {c : Code} {T : State} {locs : List Loc} {B : Pt} {nw : List Addr} {L' : List Loc} {ce' sl' : Nat}
    (X : St p l e R s m args below meth c Z L h0 ws T locs ce sl mine) (hT : T.heap = h) (Y : Stand p l e R ((s.setVm T.vm).setVm B.U.vm) m args below meth c B.U B.locs B.cells B.slots) (hS : (s.setVm T.vm).Since B.U.vm B.U.heap.size) (hg : T.heap.size ≤ B.U.heap.size)
    (q1 : B.locs = locs ++ L') (q2 : B.cells = ce') (q3 : B.slots = sl') (q4 : Fr Z.heap.size L') (q5 : Keep h B.U.heap ws') (q7 : Inv Z L B.U.vm B.U.heap (nw ++ mine)) (hw : ∀ x ∈ ws', x ∈ ws ∨ h0.size ≤ x) : St p l e R s m args below meth c Z L h0 ws B.U (locs ++ L') ce' sl' (nw ++ mine) := by
  subst hT q2 q3
  exact ⟨q1 ▸ Y, X.2.1.trans hS hg, X.2.2.1.app q4, X.2.2.2.1.trans q5 hw, q7⟩
theorem WP.callS (C : Con y cb mL rt R' Z L [] argsL.toArray h ws' mine Q') (wl : (Jvm.Cond.methodLink own idx y).before a0 Z = true) (wst : (Jvm.Cond.static y).before a0 Z = true) (wz : (Jvm.Cond.initialized y.cls).before a0 Z = true) (wc : (Jvm.Cond.code y cb mL rt).before a0 Z = true)
    (hd : decode code pc = .ok (.invokestatic idx, 3)) (hy : y.cls ≠ "java/lang/invoke/MethodHandle" ∧ y.cls ≠ "java/lang/invoke/VarHandle") {sig : MethodDescriptor} (hsig : parseMethodDescriptor y.desc = some sig) (hlen : argsL.length = sig.parameters.length) {st : List Value} (hst : st = argsL.reverse ++ rest) (hLs : Ls.length = maxL)
    (hf : R'.frames + 1 ≤ R.frames) (hl : (rest.map fun v => v.category).sum + (mL + 11) + R'.locals ≤ R.locals) (hc : ce + R'.cells ≤ R.cells) (hs : sl + R'.slots ≤ R.slots) (hw : ∀ x ∈ ws', x ∈ ws ∨ h0.size ≤ x) (hp : pc + 3 = pc')
    (K : ∀ v h' nw, Keep h h' ws' → (∀ x ∈ nw, h.size ≤ x) → Q' v h' nw → WP own code maxL ret nm R Z L h0 ws mine0 Q (nw ++ mine) (ce + R'.cells) (sl + R'.slots) h' pc' Ls (v.toList ++ rest)) :
    WP own code maxL ret nm R Z L h0 ws mine0 Q mine ce sl h pc Ls st := by
  intro p l e s m args below meth c B T locs X hT
  subst hp hst
  obtain ⟨v, vm₁, Bp, hW, Y, hS, hg, ⟨L', nw, q1, q2, q3, q4, q5, q6, q7, q8⟩, st⟩ := callSS X.1 B.1 (X.hown B) (mv X.warm wl) (mv X.warm wst) (mv X.warm wz) (mv X.warm wc) hy (C.back X.warm wc wz hf hl) (g := mkF m pc Ls.toArray (argsL.reverse ++ rest)) rfl (by simp [hLs, B.2.2.1]) (argsL := argsL) (rest := rest) (fun sg h => by rw [hsig] at h; cases h; exact hlen) rfl (by simp) (hb B.2.1 hd)
    (fun vm₁ hv => ⟨rfl, hT, by show Inv Z L vm₁ T.heap mine; exact X.2.2.2.2.go (U := s.setVm T.vm) rfl hv (Nat.le_refl _) (fun _ _ hc _ => hc) (fun _ hx => Or.inl hx), hc, hs⟩)
  exact (K v Bp.U.heap nw q5 q6 q8 p l e s m args below meth c B Bp.U _ (X.called hT Y hS hg q1 q2 q3 q4 q5 q7 hw) rfl).step fun t hr => st.trans hr
theorem WP.callSp (C : Con y cb mL none R' Z L [] (.ref a :: argsL).toArray h ws' mine Q') (hy1 : y.name = "<init>") (wl : (Jvm.Cond.methodLink own idx y).before a0 Z = true) (wi : (Jvm.Cond.instanceMethod y).before a0 Z = true) (wz : (Jvm.Cond.initialized y.cls).before a0 Z = true) (wc : (Jvm.Cond.code y cb mL none).before a0 Z = true)
    (hd : decode code pc = .ok (.invokespecial idx, 3)) (hy : y.cls ≠ "java/lang/invoke/MethodHandle" ∧ y.cls ≠ "java/lang/invoke/VarHandle") {sig : MethodDescriptor} (hsig : parseMethodDescriptor y.desc = some sig) (hlen : argsL.length = sig.parameters.length) {st : List Value} (hst : st = argsL.reverse ++ .ref a :: rest) (hLs : Ls.length = maxL)
    (hf : R'.frames + 1 ≤ R.frames) (hl : (rest.map fun v => v.category).sum + (mL + 11) + R'.locals ≤ R.locals) (hc : ce + R'.cells ≤ R.cells) (hs : sl + R'.slots ≤ R.slots) (hw : ∀ x ∈ ws', x ∈ ws ∨ h0.size ≤ x) (hp : pc + 3 = pc')
    (K : ∀ v h' nw, Keep h h' ws' → (∀ x ∈ nw, h.size ≤ x) → Q' v h' nw → WP own code maxL ret nm R Z L h0 ws mine0 Q (nw ++ mine) (ce + R'.cells) (sl + R'.slots) h' pc' Ls (v.toList ++ rest)) :
    WP own code maxL ret nm R Z L h0 ws mine0 Q mine ce sl h pc Ls st := by
  intro p l e s m args below meth c B T locs X hT
  subst hp hst
  obtain ⟨v, vm₁, Bp, hW, Y, hS, hg, ⟨L', nw, q1, q2, q3, q4, q5, q6, q7, q8⟩, st⟩ := X.1.specialBackS B.1 hy1 (X.hown B) (mv X.warm wl) (mv X.warm wi) (mv X.warm wc) hy (C.back X.warm wc wz hf hl) (g := mkF m pc Ls.toArray (argsL.reverse ++ .ref a :: rest)) rfl (by simp [hLs, B.2.2.1]) (Steps.refl _) (a := a) (argsL := argsL) (rest := rest) (fun sg h => by rw [hsig] at h; cases h; exact hlen) rfl (by simp) (hb B.2.1 hd)
    (fun vm₁ hv => ⟨rfl, hT, by show Inv Z L vm₁ T.heap mine; exact X.2.2.2.2.go (U := s.setVm T.vm) rfl hv (Nat.le_refl _) (fun _ _ hc _ => hc) (fun _ hx => Or.inl hx), hc, hs⟩)
  exact (K v Bp.U.heap nw q5 q6 q8 p l e s m args below meth c B Bp.U _ (X.called hT Y hS hg q1 q2 q3 q4 q5 q7 hw) rfl).step fun t hr => st.trans hr
theorem WP.callV {Cl : String} (C : Con z cb mL rt R' Z L [] (.ref a :: argsL).toArray h ws' mine Q') (E : Exa Z h a Cl) (wl : (Jvm.Cond.methodLink own idx y).before a0 Z = true) (wd : (Jvm.Cond.declares y).before a0 Z = true) (hnf : ∀ s : State, Z.Warmed39 s.vm → NotFace s y) (wsel : (Jvm.Cond.selects Cl y z).before a0 Z = true) (wi : (Jvm.Cond.instanceMethod z).before a0 Z = true) (wz : (Jvm.Cond.initialized z.cls).before a0 Z = true) (wc : (Jvm.Cond.code z cb mL rt).before a0 Z = true)
    (hd : decode code pc = .ok (.invokevirtual idx, 3)) (hy : y.cls ≠ "java/lang/invoke/MethodHandle" ∧ y.cls ≠ "java/lang/invoke/VarHandle") {sig : MethodDescriptor} (hsig : parseMethodDescriptor y.desc = some sig) (hlen : argsL.length = sig.parameters.length) {st : List Value} (hst : st = argsL.reverse ++ .ref a :: rest) (hLs : Ls.length = maxL)
    (hf : R'.frames + 1 ≤ R.frames) (hl : (rest.map fun v => v.category).sum + (mL + 11) + R'.locals ≤ R.locals) (hc : ce + R'.cells ≤ R.cells) (hs : sl + R'.slots ≤ R.slots) (hw : ∀ x ∈ ws', x ∈ ws ∨ h0.size ≤ x) (hp : pc + 3 = pc')
    (K : ∀ v h' nw, Keep h h' ws' → (∀ x ∈ nw, h.size ≤ x) → Q' v h' nw → WP own code maxL ret nm R Z L h0 ws mine0 Q (nw ++ mine) (ce + R'.cells) (sl + R'.slots) h' pc' Ls (v.toList ++ rest)) :
    WP own code maxL ret nm R Z L h0 ws mine0 Q mine ce sl h pc Ls st := by
  intro p l e s m args below meth c B T locs X hT
  subst hp hst
  obtain ⟨cq, kq, qa, qb, qc⟩ := isOf (s := s.setVm T.vm) X.warm hT E
  obtain ⟨v, vm₁, Bp, hW, Y, hS, hg, ⟨L', nw, q1, q2, q3, q4, q5, q6, q7, q8⟩, st⟩ := X.1.virtualBackS B.1 (X.hown B) (mv X.warm wl) (mv X.warm wd) (hnf _ X.warm) (mv X.warm wsel) (mv X.warm wi) hy (C.back X.warm wc wz hf hl) qa qc (g := mkF m pc Ls.toArray (argsL.reverse ++ .ref a :: rest)) rfl (by simp [hLs, B.2.2.1]) (Steps.refl _) (argsL := argsL) (rest := rest) (fun sg h => by rw [hsig] at h; cases h; exact hlen) rfl (by simp) (hb B.2.1 hd)
    (fun vm₁ hv => ⟨rfl, hT, by show Inv Z L vm₁ T.heap mine; exact X.2.2.2.2.go (U := s.setVm T.vm) rfl hv (Nat.le_refl _) (fun _ _ hc _ => hc) (fun _ hx => Or.inl hx), hc, hs⟩)
  exact (K v Bp.U.heap nw q5 q6 q8 p l e s m args below meth c B Bp.U _ (X.called hT Y hS hg q1 q2 q3 q4 q5 q7 hw) rfl).step fun t hr => st.trans hr
theorem WP.callI {Cl : String} {count : Nat} (C : Con z cb mL rt R' Z L [] (.ref a :: argsL).toArray h ws' mine Q') (E : Exa Z h a Cl) (wl : (Jvm.Cond.methodLink own idx y).before a0 Z = true) (wd : (Jvm.Cond.declares y).before a0 Z = true) (wif : (Jvm.Cond.interfaceMethod y.cls y.cls y.name y.desc).before a0 Z = true) (wsel : (Jvm.Cond.selects Cl y z).before a0 Z = true) (wi : (Jvm.Cond.instanceMethod z).before a0 Z = true) (wpub : (Jvm.Cond.publicMethod z).before a0 Z = true) (wun : (Jvm.Cond.unhidden Cl y.name y.desc).before a0 Z = true) (wca : (Jvm.Cond.castable Cl y.cls).before a0 Z = true) (wz : (Jvm.Cond.initialized z.cls).before a0 Z = true) (wc : (Jvm.Cond.code z cb mL rt).before a0 Z = true)
    (hd : decode code pc = .ok (.invokeinterface idx count, 5)) (hy : y.cls ≠ "java/lang/invoke/MethodHandle" ∧ y.cls ≠ "java/lang/invoke/VarHandle") {sig : MethodDescriptor} (hsig : parseMethodDescriptor y.desc = some sig) (hlen : argsL.length = sig.parameters.length) {st : List Value} (hst : st = argsL.reverse ++ .ref a :: rest) (hLs : Ls.length = maxL)
    (hf : R'.frames + 1 ≤ R.frames) (hl : (rest.map fun v => v.category).sum + (mL + 11) + R'.locals ≤ R.locals) (hc : ce + R'.cells ≤ R.cells) (hs : sl + R'.slots ≤ R.slots) (hw : ∀ x ∈ ws', x ∈ ws ∨ h0.size ≤ x) (hp : pc + 5 = pc')
    (K : ∀ v h' nw, Keep h h' ws' → (∀ x ∈ nw, h.size ≤ x) → Q' v h' nw → WP own code maxL ret nm R Z L h0 ws mine0 Q (nw ++ mine) (ce + R'.cells) (sl + R'.slots) h' pc' Ls (v.toList ++ rest)) :
    WP own code maxL ret nm R Z L h0 ws mine0 Q mine ce sl h pc Ls st := by
  intro p l e s m args below meth c B T locs X hT
  subst hp hst
  obtain ⟨cq, kq, qa, qb, qc⟩ := isOf (s := s.setVm T.vm) X.warm hT E
  obtain ⟨v, vm₁, Bp, hW, Y, hS, hg, ⟨L', nw, q1, q2, q3, q4, q5, q6, q7, q8⟩, st⟩ := X.1.interfaceBackS B.1 (X.hown B) (mv X.warm wl) (mv X.warm wd) (mv X.warm wif (by simp [Cond.onTables, Cond.keepsFace, Cond.keeps, Cond.steady, Cond.faceAtom, hy.1, hy.2])) (mv X.warm wsel) (mv X.warm wi) (mv X.warm wpub) (mv X.warm wun) (mv X.warm wca) hy (C.back X.warm wc wz hf hl) qa qb qc (g := mkF m pc Ls.toArray (argsL.reverse ++ .ref a :: rest)) rfl (by simp [hLs, B.2.2.1]) (Steps.refl _) (argsL := argsL) (rest := rest) (fun sg h => by rw [hsig] at h; cases h; exact hlen) rfl (by simp) (hb B.2.1 hd)
    (fun vm₁ hv => ⟨rfl, hT, by show Inv Z L vm₁ T.heap mine; exact X.2.2.2.2.go (U := s.setVm T.vm) rfl hv (Nat.le_refl _) (fun _ _ hc _ => hc) (fun _ hx => Or.inl hx), hc, hs⟩)
  exact (K v Bp.U.heap nw q5 q6 q8 p l e s m args below meth c B Bp.U _ (X.called hT Y hS hg q1 q2 q3 q4 q5 q7 hw) rfl).step fun t hr => st.trans hr
end Call
end Jvm.OwnW
namespace Jvm.OwnW
open Jvm Jvm.ClassFile Sem Op Lib Jvm.Free Jvm.Stand Jvm.LawKit Jvm.RoadKit Bundle
open Jvm.Free.SB Jvm.Free.SBG
abbrev ST : String := "java/lang/String"
/-- a char as an int -/
def chv (u : UInt16) : Int32 := u.toUInt32.toInt32
/-- a char's low byte, its high byte, as signed bytes -/
def lo8 (u : UInt16) : Int32 := u.toUInt8.toInt8.toInt32
def hi8 (u : UInt16) : Int32 := (u >>> 8).toUInt8.toInt8.toInt32
def lat (us : List UInt16) : Bool := us.all (· < 256)
def b16 (us : List UInt16) : List Int32 := us.flatMap fun u => [lo8 u, hi8 u]
def StrAt (Z : State) (h : Heap) (a t : Addr) (us : List UInt16) : Prop :=
  Exa Z h a ST ∧ Fld Z h a ST "value" "[B" (.ref t) ∧ ((lat us = true ∧ Fld Z h a ST "coder" "B" (.int 0) ∧ ArI Z h t .byte (us.map lo8)) ∨ (lat us = false ∧ Fld Z h a ST "coder" "B" (.int 1) ∧ ArI Z h t .byte (b16 us)))
/-- a finished String: none of her two cells is written any more -/
def FStr (Z : State) (h : Heap) (mine : List Addr) (a : Addr) (us : List UInt16) : Prop := ∃ t, StrAt Z h a t us ∧ a ∉ mine ∧ t ∉ mine
section Frozen
variable {Z : State} {h h' : Heap} {mine mine' ws nw : List Addr} {a t : Addr} {us : List UInt16} {C n d : String} {v : Value}
theorem exa_cell (E : Exa Z h a C) (hk : ∀ c, h[a]? = some c → h'[a]? = some c) : Exa Z h' a C := by obtain ⟨c, k, h1, r⟩ := E; exact ⟨c, k, hk _ h1, r⟩
theorem fld_cell (F : Fld Z h a C n d v) (hk : ∀ c, h[a]? = some c → h'[a]? = some c) : Fld Z h' a C n d v := by obtain ⟨c, cf, k, i, f, h1, r⟩ := F; exact ⟨c, cf, k, i, f, hk _ h1, r⟩
theorem StrAt.cells (S : StrAt Z h a t us) (hk : ∀ c, h[a]? = some c → h'[a]? = some c) (hk' : ∀ c, h[t]? = some c → h'[t]? = some c) : StrAt Z h' a t us :=
  ⟨exa_cell S.1 hk, fld_cell S.2.1 hk, S.2.2.imp (fun q => ⟨q.1, fld_cell q.2.1 hk, q.2.2.cell hk'⟩) fun q => ⟨q.1, fld_cell q.2.1 hk, q.2.2.cell hk'⟩⟩
theorem StrAt.lt (S : StrAt Z h a t us) : a < h.size ∧ t < h.size := ⟨S.1.lt, by rcases S.2.2 with q | q <;> exact q.2.2.lt⟩
/-- over a step that keeps what is outside 'mine' -/
theorem FStr.go (S : FStr Z h mine a us) (hk : ∀ x c, h[x]? = some c → x ∉ mine → h'[x]? = some c) (hm : ∀ x ∈ mine', x ∈ mine ∨ h.size ≤ x) : FStr Z h' mine' a us := by
  obtain ⟨t, S, h1, h2⟩ := S
  refine ⟨t, S.cells (fun c hc => hk _ _ hc h1) (fun c hc => hk _ _ hc h2), fun q => ?_, fun q => ?_⟩
  · rcases hm _ q with r | r
    · exact h1 r
    · exact absurd S.lt.1 (Nat.not_lt.mpr r)
  · rcases hm _ q with r | r
    · exact h2 r
    · exact absurd S.lt.2 (Nat.not_lt.mpr r)
theorem FStr.ext (S : FStr Z h mine a us) (E : Ext h h') : FStr Z h' mine a us := S.go (fun x c hc _ => E.2 x c hc) fun x hx => Or.inl hx
/-- over 'new', which makes b one's own -/
theorem FStr.new {b : Addr} (S : FStr Z h mine a us) (E : Ext h h') (hb : b = h.size) : FStr Z h' (b :: mine) a us := S.go (fun x c hc _ => E.2 x c hc) fun x hx => by
  rcases List.mem_cons.mp hx with rfl | hx
  · exact Or.inr (Nat.le_of_eq hb.symm)
  · exact Or.inl hx
theorem FStr.wr {b : Addr} {sl : Nat} (S : FStr Z h mine a us) (W : Wr h h' b sl v) (hb : b ∈ mine) : FStr Z h' mine a us := S.go (wr_mine W hb) fun x hx => Or.inl hx
/-- over a call -/
theorem FStr.call (S : FStr Z h mine a us) (K : Keep h h' ws) (hw : ∀ x ∈ ws, x ∈ mine) (hn : ∀ x ∈ nw, h.size ≤ x) : FStr Z h' (nw ++ mine) a us :=
  S.go (fun x c hc hx => K.2.1 x c hc fun q => hx (hw x q)) fun x hx => (List.mem_append.mp hx).elim (fun q => Or.inr (hn x q)) Or.inl
theorem FStr.mono (S : FStr Z h mine a us) (hm : ∀ x ∈ mine', x ∈ mine) : FStr Z h mine' a us := by
  obtain ⟨t, S, h1, h2⟩ := S; exact ⟨t, S, fun q => h1 (hm _ q), fun q => h2 (hm _ q)⟩
theorem FStr.exa (S : FStr Z h mine a us) : Exa Z h a ST := by obtain ⟨t, S, -⟩ := S; exact S.1
end Frozen
theorem lat_units {units : Array UInt16} (h : units.all (· < 256) = true) : lat units.toList = true := by simpa [lat] using h
theorem SlM.fstr {Z : State} {vm : Vm} {h : Heap} {a : Addr} {units : Array UInt16} {mine : List Addr} (hZ : Z.Warmed39 vm) (S : SlM (wst Z vm h) a units mine) (hl : units.all (· < 256) = true) : FStr Z h mine a units.toList := by
  have hal : Z.vm.Alike vm := hZ.alike
  obtain ⟨q, cS, rfl, ⟨⟨s1, s2, s3, ⟨cv, kv, iv, s4, s4'⟩, ⟨cc, kc, ic, s5, s5'⟩, s6, s7, s8, s9, s10, s11, s12, s13, s14, s15, s16⟩, hfS, hcS⟩, ⟨kS, k1, k2, k3⟩, hB, hbyt, n1, n2⟩ := S
  obtain ⟨kv', z4⟩ := ff_back (U := wst Z vm h) hal s4
  obtain ⟨kc', z5⟩ := ff_back (U := wst Z vm h) hal s5
  have hfZ : Z.vm.findClass ST = some q.sC.cls := by rw [← hal.findClass, hcS]; exact hfS
  obtain ⟨kz, hkz, -⟩ := Vm.findClass_spec hfZ
  obtain ⟨kz', hkz', ekz⟩ := hal.2.2 _ _ hkz
  have ekS : kz' = kS := Option.some.inj (hkz'.symm.trans (hcS ▸ k1))
  obtain ⟨hst, k9, hk9, comp, hkind9⟩ := s11
  have hBZ : Z.vm.findClass "[B" = some q.SA.cls := by rw [← hal.findClass]; exact hB
  obtain ⟨kb, hkb, -⟩ := Vm.findClass_spec hBZ
  obtain ⟨kb', hkb', ekb⟩ := hal.2.2 _ _ hkb
  have ek9 : k9 = kb' := Option.some.inj (hk9.symm.trans hkb')
  have hAZ : Z.isArrayOf q.SA .byte := ⟨hst, kb, hkb, comp, by rw [ek9, ekb] at hkind9; exact hkind9⟩
  have hsl : q.SA.slots = ((units.toList.map lo8).map Value.int).toArray := by
    rw [hbyt, SBG.stringBytes_lat hl]
    apply Array.toList_inj.mp
    simp [List.map_map, Function.comp_def, byteValue, lo8]
  have hlen : (units.toList.map lo8).length < 2 ^ 31 := by
    have : q.SA.slots.size = (units.toList.map lo8).length := by rw [hsl]; simp
    rw [← this, s13]; exact s14
  exact ⟨q.sd, ⟨⟨q.sC, kz, s1, hfZ, hkz, s3, fun ho => by rw [k3, ← ekS, ekz]⟩, ⟨q.sC, cv, kv', iv, q.fSV, s1, z4, s6, s2, s3, by rw [← hal.assignable]; exact s4', s8⟩,
    Or.inl ⟨lat_units hl, ⟨q.sC, cc, kc', ic, q.fSC, s1, z5, s7, s2, s3, by rw [← hal.assignable]; exact s5', s9⟩, ⟨q.SA, ⟨s10, hAZ, s12⟩, hsl, hlen⟩⟩⟩, n1, n2⟩
/-- the state at hand as an invocation's start -/
def anew (T : State) (m : MethodId) (args : Array Value) (below : List Frame) : State := T.setFrames (.invoking m args :: below)
theorem stand_anew {p : Program} {l : Launch} {e : Env} {R : Room} {s : State} {m : MethodId} {args : Array Value} {below : List Frame} {meth : Method} {c : Code} {T : State} {locs : List Loc} {cells slots : Nat}
    (X : Stand p l e R s m args below meth c T locs cells slots) (hv : s.vm = T.vm) (hc : cells ≤ R.cells) (hs : slots ≤ R.slots) :
    Stand p l e { frames := R.frames, locals := R.locals, cells := R.cells - cells, slots := R.slots - slots } (anew T m args below) m args below meth c T [] 0 0 := by
  obtain ⟨g₀, hfr⟩ := X.frames_eq
  have hcur : T.cur < T.threads.size := State.cur_lt_of_frames hfr
  have hF : (anew T m args below).frames = .invoking m args :: below := State.frames_setFrames _ hcur
  have hm1 : (anew T m args below).vm.method? m = some meth := by show T.vm.method? m = _; rw [← hv]; exact X.method
  have hlim : e.platform.stackLimits (anew T m args below).me = e.platform.stackLimits s.me := by rw [anew, State.stackLimits_setFrames]; exact X.limits
  have hby : (anew T m args below).me.stackBytes = s.me.stackBytes := by rw [anew, State.stackBytes_setFrames]; exact X.bytes
  have hroom : (anew T m args below).hasRoom e.platform { frames := R.frames, locals := R.locals, cells := R.cells - cells, slots := R.slots - slots } = true := by
    have h := X.room
    simp only [State.hasRoom, Bool.and_eq_true, decide_eq_true_eq] at h
    rw [State.localsInUse_invoking X.frames X.method X.code, X.frames] at h
    simp only [State.hasRoom, Bool.and_eq_true, decide_eq_true_eq, hF, hlim, hby, State.localsInUse_invoking hF hm1 X.code]
    have hh := X.heapSize
    have hu := X.used
    refine ⟨⟨⟨h.1.1.1, ?_⟩, ?_⟩, X.book⟩
    · have := h.1.1.2
      show T.heap.size + (R.cells - cells) ≤ _; omega
    · have := h.1.2
      show T.slotsUsed + (R.slots - slots) ≤ _; omega
  obtain ⟨t, ht, -⟩ := State.frames_cons hF
  obtain ⟨t', ht', -⟩ := State.frames_cons hfr
  have hcur' : (anew T m args below).cur < (anew T m args below).threads.size := State.cur_lt_of_frames hF
  have hback : T = (anew T m args below).setFrames T.frames := by
    rw [anew, State.setFrames_setFrames, State.setFrames_self ht']
  have hhears : (anew T m args below).hears m below = true := by
    have h := X.hears
    have e1 : (anew T m args below).hears m below = (s.setVm T.vm).hears m below := by
      rcases below with _ | ⟨f, r⟩
      · rfl
      · cases f <;> rfl
    rw [e1, ← hv]; exact h
  refine ⟨X.admits, X.cas, X.clock, hF, hroom, hhears, hm1, X.code, X.here, X.tail, State.WarmedH.refl _, by rw [hlim]; exact X.limits, by rw [hby]; exact X.bytes, ?_⟩
  have h1 := (State.sameButNew.refl (anew T m args below) ht).setFrames T.frames hcur'
  rw [← hback] at h1
  exact h1
theorem find_push {A : Array (Array UInt16 × Addr)} {u u1 : Array UInt16} {b a1 : Addr} (h : (A.push (u1, a1)).find? (fun p => p.1 == u) = some (u, b)) : A.find? (fun p => p.1 == u) = some (u, b) ∨ (A.find? (fun p => p.1 == u) = none ∧ u1 = u ∧ a1 = b) := by
  rw [Array.find?_push] at h
  cases hf : A.find? (fun p => p.1 == u) with
  | some x => rw [hf] at h; left; simpa using h
  | none =>
    rw [hf] at h
    right
    by_cases e : u1 == u
    · simp [e] at h; exact ⟨rfl, h.1, h.2⟩
    · simp [e] at h
theorem text_inj {u u' : Array UInt16} {text : String} (ht : ∀ c ∈ text.toList, c.toNat < 256) (h : utf16ToString? u = some text) (h' : utf16ToString? u' = some text) : u = u' :=
  Array.toList_inj.mp ((Jvm.ClassFile.units_of_text h ht).trans (Jvm.ClassFile.units_of_text h' ht).symm)
def txt (s : String) : List UInt16 := s.toList.map fun c => c.toNat.toUInt16
/-- a load that changes the tables: the held constants, behind -/
theorem KH.load {Z T T₂ : State} {L : Lits} {mine : List Addr} {own text : String} {idx : Nat} {a : Addr} {k k₂ : Class} {co : ClassId} {lo : Nat} {U : State} (hU : U.vm = T.vm)
    (K : KH Z L T.vm T.heap mine) (hZ : Z.Warmed39 T.vm) (hL : Links Z L) (hq : (own, idx, text) ∈ L) (hmine : ∀ x ∈ mine, x < T.heap.size) (ht : ∀ c ∈ text.toList, c.toNat < 256) (hW : U.Warmed39 T₂.vm) (E : Ext T.heap T₂.heap)
    (hco : T.vm.findClass own = some co) (hko : T.vm.classes[co]? = some k) (hopen : k.resolved[idx]? = some none) (hk₂ : T₂.vm.classes[co]? = some k₂) (hres : k₂.resolved[idx]? = some (some (.string a)))
    (hone : T.Interned1 T₂) (hint : T₂.vm.interned = T.vm.interned ∨ ∃ (units : Array UInt16) (a' : Addr), utf16ToString? units = some text ∧ T₂.vm.interned = T.vm.interned.push (units, a'))
    (hin : ∃ units : Array UInt16, utf16ToString? units = some text ∧ SlIn lo T.heap.size T₂ a units) (hlo : lo = T.heap.size) : KH Z L T₂.vm T₂.heap mine ∧ ∃ units : Array UInt16, utf16ToString? units = some text ∧ SlM (wst Z T₂.vm T₂.heap) a units mine := by
  have hal : T.vm.Alike T₂.vm := hU ▸ hW.alike
  -- the entry of the loaded constant
  obtain ⟨a0, w⟩ := hL _ hq
  have hcoZ : Z.vm.findClass own = some co := by rw [← hZ.alike.findClass]; exact hco
  obtain ⟨kZ, cfo, io, uo, hkZ, hcfZ, hpo, huo, hnmo, htexto, -⟩ := Cond.stringLink_spec hcoZ w
  obtain ⟨kT, hkT, ekT⟩ := hZ.alike.2.2 _ _ hkZ
  cases hko.symm.trans hkT
  have hcfo : k.cf = some cfo := by rw [ekT]; exact hcfZ
  have hfo : T₂.vm.interned.find? (fun p => p.1 == uo) = some (uo, a) := by
    obtain ⟨k3, hk3, -, -, ee, -⟩ := hW.2.2.2 co k (by rw [hU]; exact hko)
    cases hk₂.symm.trans hk3
    rcases ee idx with e0 | ⟨hop, r, e1, hr | ⟨a3, t3, si, us, rfl, -, q3, q4, q5⟩⟩
    · rw [hres, hopen] at e0; cases e0
    · exfalso
      cases r <;> simp [State.rightAt, hU, hko, hcfo, hnmo] at hr
    · rw [hcfo] at q3 q4
      have e3 : si = io := by have := q3.symm.trans hpo; simpa using this
      subst e3
      have e4 : us = uo := by simpa [ConstantPool.utf8?, huo] using q4.symm
      subst e4
      have ea : a3 = a := by have := e1.symm.trans hres; simpa using this
      subst ea
      exact q5
  -- who is found behind was found ahead, or is the one just made
  have fresh : ∀ (u : Array UInt16) (b : Addr), T₂.vm.interned.find? (fun p => p.1 == u) = some (u, b) → T.vm.interned.find? (fun p => p.1 == u) = some (u, b) ∨ (SlM (wst Z T₂.vm T₂.heap) b u mine) := fun u b hf => by
    rcases hint with e | ⟨u1, a1, ht1, e⟩
    · left; rw [← e]; exact hf
    · rw [e] at hf
      rcases find_push hf with q | ⟨q0, rfl, rfl⟩
      · exact Or.inl q
      · right
        have eu : u1 = uo := text_inj ht ht1 htexto
        subst eu
        have ea : a1 = a := by
          rw [e] at hfo
          rcases find_push hfo with q | ⟨-, -, q⟩
          · rw [q0] at q; cases q
          · exact q
        subst ea
        obtain ⟨units, hut, q, cS, r1, r2, ⟨kS, r3, r4, r5⟩, r6, r7, r8⟩ := hin
        have eu : units = u1 := text_inj ht hut ht1
        subst eu
        have hge : T.heap.size ≤ a1 := by
          rcases hone.2 with e' | ⟨u2, a2, e2, g1, -⟩
          · rw [e] at e'
            have := congrArg Array.size e'
            simp at this
          · rw [e] at e2
            have e3 := congrArg (fun z => z.back?) e2
            simp at e3
            rw [e3.2]; exact g1
        have hloc : T.heap.size ≤ q.sa ∧ T.heap.size ≤ q.sd := by
          rcases r8 with ⟨g1, g2⟩ | g
          · rw [r1, hlo] at g1; exact absurd g1 (Nat.not_lt.mpr hge)
          · exact g
        exact ⟨q, cS, r1, r2.carry (U' := wst Z T₂.vm T₂.heap) (Vm.Alike.refl _) r2.1.1 r2.1.2.2.2.2.2.2.2.2.2.1, ⟨kS, r3, r4, r5⟩, r6, r7, fun hx => absurd (hmine _ hx) (Nat.not_lt.mpr hloc.1), fun hx => absurd (hmine _ hx) (Nat.not_lt.mpr hloc.2)⟩
  have ride : ∀ (b : Addr) (u : Array UInt16), SlM (wst Z T.vm T.heap) b u mine → SlM (wst Z T₂.vm T₂.heap) b u mine := fun b u S => S.go hal (fun x c hc _ => E.2 x c hc) fun x hx => Or.inl hx
  have new : KH Z L T₂.vm T₂.heap mine := by
    intro q hq c k' cf i units b hc hk' hcf hp hu hor
    have hcT : T.vm.findClass q.1 = some c := by rw [← hal.findClass]; exact hc
    have hcZ : Z.vm.findClass q.1 = some c := by rw [← hZ.alike.findClass]; exact hcT
    obtain ⟨a1, w1⟩ := hL q hq
    obtain ⟨kZ1, cf0, i0, units0, hkZ1, hcfZ1, hp0, hu0, hnm, -, -⟩ := Cond.stringLink_spec hcZ w1
    obtain ⟨kU, hkU, ekU⟩ := hZ.alike.2.2 _ _ hkZ1
    obtain ⟨k'', hk'', hke, -, ee, -⟩ := hW.2.2.2 c kU (by rw [hU]; exact hkU)
    cases hk'.symm.trans hk''
    have hcf0 : kU.cf = some cf0 := by rw [ekU]; exact hcfZ1
    have hcfU : kU.cf = some cf := by
      have : k'.cf = kU.cf := by rw [hke]
      rw [← this]; exact hcf
    cases hcfU.symm.trans hcf0
    rcases ee q.2.1 with e0 | ⟨hop, r, e1, hr | ⟨a3, t3, si, us, rfl, -, q3, q4, q5⟩⟩
    · rcases hor with h0 | ⟨h0, hf⟩
      · exact ride _ _ (K q hq c kU cf i units b hcT hkU hcfU hp hu (Or.inl (e0 ▸ h0)))
      · rcases fresh _ _ hf with hf' | S
        · exact ride _ _ (K q hq c kU cf i units b hcT hkU hcfU hp hu (Or.inr ⟨e0 ▸ h0, hf'⟩))
        · exact S
    · exfalso
      cases r <;> simp [State.rightAt, hU, hkU, hcfU, hnm] at hr
    · rw [hcfU] at q3 q4
      have e3 : si = i := by have := q3.symm.trans hp; simpa using this
      subst e3
      have e4 : us = units := by simpa [ConstantPool.utf8?, hu] using q4.symm
      subst e4
      rcases hor with h0 | ⟨h0, -⟩
      · have ea : a3 = b := by have := e1.symm.trans h0; simpa using this
        subst ea
        rcases fresh _ _ q5 with hf' | S
        · exact ride _ _ (K q hq c kU cf si us a3 hcT hkU hcfU hp hu (Or.inr ⟨hop, hf'⟩))
        · exact S
      · have := e1.symm.trans h0; simp at this
  refine ⟨new, uo, htexto, ?_⟩
  obtain ⟨k4, hk4, ek4⟩ := hal.2.2 _ _ hko
  cases hk₂.symm.trans hk4
  exact new _ hq co k₂ cfo io uo a (by rw [hal.findClass]; exact hco) hk₂ (by rw [ek4]; exact hcfo) hpo huo (Or.inl hres)
section Ldc
variable {R : Room} {Z : State} {L : Lits} {h0 h : Heap} {ws mine0 mine : List Addr} {ce sl : Nat} {own : String} {code : ByteArray} {maxL : Nat} {ret : Option FieldType} {nm : String} {Q : Option Value → Heap → List Addr → Prop} {pc pc' : Nat} {Ls : List Slot} {rest : List Value} {a0 : Array Value} {a : Addr}
theorem WP.ldcS {idx n : Nat} {text : String} (hd : decode code pc = .ok (.ldc idx, 2)) (hq : (own, idx, text) ∈ L) (wS : ∀ a ∈ Bundle.stringAtoms, a.before a0 Z = true) (ht : ∀ c ∈ text.toList, c.toNat < 256) (hn : 4 * text.toList.length ≤ n) (hbig : n ≤ 536870912) (hc : ce + 2 ≤ R.cells) (hs : sl + (n + 4) ≤ R.slots) (hp : pc + 2 = pc')
    (K : ∀ h' a, Ext h h' → FStr Z h' mine a (txt text) → WP own code maxL ret nm R Z L h0 ws mine0 Q mine (ce + 2) (sl + (n + 4)) h' pc' Ls (.ref a :: rest)) : WP own code maxL ret nm R Z L h0 ws mine0 Q mine ce sl h pc Ls rest := by
  intro p l e s m args below meth c B T locs X hT
  subst hp
  subst hT
  have hZ : Z.Warmed39 T.vm := X.warm
  obtain ⟨a1, w⟩ := X.2.2.2.2.2.2.2.1 _ hq
  have hown : T.vm.findClass own = some m.cls := X.hown B
  have hL := X.2.2.2.2.2.2.2.1
  have hK := X.2.2.2.2.2.2.2.2
  have wT : (Jvm.Cond.stringLink own idx text).before args (anew T m args below) = true := mvS (s := anew T m args below) (vm0 := T.vm) hZ w
  obtain ⟨k, cf, i, units, hk, hcf, hcp, hu, hnm, hdec, hres⟩ := Cond.stringLink_spec (s := anew T m args below) (show (anew T m args below).vm.findClass own = some m.cls from hown) wT
  have hk : T.vm.classes[m.cls]? = some k := hk
  rcases hres with hopen | ⟨a, hr⟩
  · have Y0 := stand_anew X.1 rfl (Nat.le_trans (Nat.le_add_right _ _) hc) (Nat.le_trans (Nat.le_add_right _ _) hs)
    have hheld : ConstHeldL (anew T m args below) own idx := by
      intro c1 k1 cf1 i1 u1 b1 g1 g2 g3 g4 g5 g6
      obtain ⟨q, cS, r1, r2, ⟨kS, r3, r4, r5⟩, r6, r7, -⟩ := hK _ hq c1 k1 cf1 i1 u1 b1 g1 g2 g3 g4 g5 g6
      exact ⟨q, cS, r1, r2.carry (U' := anew T m args below) (Vm.Alike.refl _) r2.1.1 r2.1.2.2.2.2.2.2.2.2.2.1, ⟨kS, r3, r4, r5⟩, r6, r7⟩
    obtain ⟨a, T₂, Y, hS', ⟨k₂, hk₂, hres₂⟩, hb', hone, hint, hin, st⟩ := Y0.ldcColdF (fun b cl hb => hb) B.1 (own := own) (show (anew T m args below).vm.findClass own = some m.cls from hown) wT (fun d hd => by
        have q := wS d hd
        simp only [Bundle.stringAtoms, List.mem_cons, List.not_mem_nil, or_false] at hd
        rcases hd with rfl | rfl | rfl | rfl | rfl | rfl | rfl
        · exact mv (s := anew T m args below) hZ q
        · exact mv (s := anew T m args below) hZ q
        · exact mvA (s := anew T m args below) hZ q
        · exact mv (s := anew T m args below) hZ q
        · exact mv (s := anew T m args below) hZ q
        · exact mv (s := anew T m args below) hZ q
        · exact mv (s := anew T m args below) hZ q) hheld (fun units hu => Jvm.ClassFile.lat_of_text hu ht) (g := mkF m pc Ls.toArray rest) rfl (hb B.2.1 hd) hn hbig (by show 0 + 2 ≤ R.cells - ce; omega) (by show 0 + (n + 4) ≤ R.slots - sl; omega)
    have E : Ext T.heap T₂.heap := ext_of hb'
    have hW : (s.setVm T.vm).Warmed39 T₂.vm := hS'.1
    obtain ⟨hKn, u2, hu2, hSl⟩ := KH.load (T := T) (U := s.setVm T.vm) rfl hK hZ hL hq (fun x hx => (X.2.2.2.2.2.2.1 x hx).2) ht hW E hown hk hopen hk₂ hres₂ hone hint hin rfl
    have hZ2 : Z.Warmed39 T₂.vm := State.Warmed39.trans (t := s.setVm T.vm) hZ hW
    have F : FStr Z T₂.heap mine a (txt text) := by
      have := hSl.fstr hZ2 (Jvm.ClassFile.lat_of_text hu2 ht)
      rw [Jvm.ClassFile.units_of_text hu2 ht] at this
      exact this
    obtain ⟨g₀, hfr⟩ := X.1.frames_eq
    obtain ⟨t', ht', -⟩ := State.frames_cons hfr
    have hcur : T.cur < T.threads.size := State.cur_lt_of_frames hfr
    have Z1 := X.1.retabled hW
    have hsame : (T.setVm T₂.vm).sameButNew (T₂.setVm T₂.vm) [] 2 (n + 4) := by
      have h1 : ((T.setVm T₂.vm).setFrames (.invoking m args :: below)).sameButNew (T₂.setVm T₂.vm) [] (0 + 2) (0 + (n + 4)) := Y.same
      rw [Nat.zero_add, Nat.zero_add] at h1
      obtain ⟨e1, e2⟩ := h1
      rw [State.setFrames_setFrames] at e1
      exact ⟨e1, e2⟩
    have Z2 := Z1.moved (T₂ := T₂) Y.here Y.tail (Y.limits.trans (by rw [show (anew T m args below).setVm T₂.vm = (T.setVm T₂.vm).setFrames (.invoking m args :: below) from rfl, State.stackLimits_setFrames])) (Y.bytes.trans (by rw [show (anew T m args below).setVm T₂.vm = (T.setVm T₂.vm).setFrames (.invoking m args :: below) from rfl, State.stackBytes_setFrames])) (State.WarmedH.refl _) hsame
    rw [List.append_nil] at Z2
    have hB2 : (s.setVm T.vm).Booked T₂.vm T₂.heap.size := fun j pr hj hpr => by
      obtain ⟨b1, b2⟩ := hS'.2 j pr hj hpr
      exact ⟨Nat.le_trans X.1.same.2.1 b1, b2⟩
    refine (K T₂.heap a E F p l e s m args below meth c B T₂ locs ⟨Z2, X.2.1.trans ⟨hW, hB2⟩ E.1, X.2.2.1, X.2.2.2.1.ext E, hZ2, ⟨Nat.le_trans X.2.2.2.2.2.1.1 E.1, fun b cl hb => E.2 _ _ (X.2.2.2.2.2.1.2 b cl hb)⟩, fun x hx => ⟨(X.2.2.2.2.2.2.1 x hx).1, Nat.lt_of_lt_of_le (X.2.2.2.2.2.2.1 x hx).2 E.1⟩, hL, hKn⟩ rfl).step st
  · have hSl := hK _ hq m.cls k cf i units a hown hk hcf hcp hu (Or.inl hr)
    have F : FStr Z T.heap mine a (txt text) := by
      have := hSl.fstr hZ (Jvm.ClassFile.lat_of_text hdec ht)
      rw [Jvm.ClassFile.units_of_text hdec ht] at this
      exact this
    have Lt : Lit (s.setVm T.vm) own idx a := by
      simp [Lit, State.resolvedAt?, hown, hk, hr]
    refine (K T.heap a ⟨Nat.le_refl _, fun _ _ hc => hc⟩ F p l e s m args below meth c B T locs ⟨X.1.mono (by omega) (by omega), X.2⟩ rfl).step ?_
    exact ldcAgain (s := s) (vm0 := T.vm) X.1 B.1 hZ hown w Lt (g := mkF m pc Ls.toArray rest) rfl (hb B.2.1 hd)
end Ldc
end Jvm.OwnW
namespace Jvm.OwnW
open Jvm Jvm.ClassFile Sem Op Lib Jvm.Free Jvm.Stand Jvm.LawKit Jvm.RoadKit Bundle
theorem ext_trans {h h' h'' : Heap} (A : Ext h h') (B : Ext h' h'') : Ext h h'' := ⟨Nat.le_trans A.1 B.1, fun a c hc => B.2 a c (A.2 a c hc)⟩
theorem ext_wr {h h' h'' : Heap} {a : Addr} {sl : Nat} {v : Value} (A : Ext h h') (W : Wr h' h'' a sl v) (ha : h.size ≤ a) : Ext h h'' := ⟨by rw [W.size]; exact A.1, fun x c hc => by
  obtain ⟨c', q1, -, -, -, q5, -⟩ := wr_at W (A.2 x c hc)
  rw [← q5 fun q => by subst q; exact absurd (Array.getElem?_eq_some_iff.mp hc).1 (Nat.not_lt.mpr ha)]; exact q1⟩
theorem ext_keep {h h' h'' : Heap} {ws : List Addr} (A : Ext h h') (K : Keep h' h'' ws) (ha : ∀ x ∈ ws, h.size ≤ x) : Ext h h'' := ⟨Nat.le_trans A.1 K.1, fun x c hc => K.2.1 x c (A.2 x c hc) fun q => absurd (Array.getElem?_eq_some_iff.mp hc).1 (Nat.not_lt.mpr (ha x q))⟩
theorem keep_ext {h h' : Heap} (K : Keep h h' []) : Ext h h' := ⟨K.1, fun x c hc => K.2.1 x c hc nin0⟩
theorem n32_toInt {i : Nat} (h : i < 2 ^ 31) : (Int32.ofNat i).toInt = (i : Int) := Int32.toInt_ofNat_small h
theorem n32_lt {i n : Nat} (hi : i < 2 ^ 31) (hn : n < 2 ^ 31) : Int32.ofNat i < Int32.ofNat n ↔ i < n := by
  rw [Int32.lt_iff_toInt_lt, n32_toInt hi, n32_toInt hn]; omega
theorem n32_eq {i n : Nat} (hi : i < 2 ^ 31) (hn : n < 2 ^ 31) : Int32.ofNat i = Int32.ofNat n ↔ i = n := by
  rw [← Int32.toInt_inj, n32_toInt hi, n32_toInt hn]; omega
theorem n32_add (i k : Nat) : Int32.ofNat i + Int32.ofNat k = Int32.ofNat (i + k) := by simp [Int32.ofNat_add]
theorem n32_succ (i : Nat) : Int32.ofNat i + 1 = Int32.ofNat (i + 1) := n32_add i 1
theorem chv_toInt (u : UInt16) : (chv u).toInt = (u.toNat : Int) := by
  have hu := u.toNat_lt
  have : (chv u) = Int32.ofNat u.toNat := by
    apply Int32.toBitVec_inj.mp
    apply BitVec.eq_of_toNat_eq
    simp [chv]
  rw [this, n32_toInt (by omega)]
theorem chv_inj {u v : UInt16} (h : chv u = chv v) : u = v := by
  have := congrArg Int32.toInt h
  rw [chv_toInt, chv_toInt] at this
  exact UInt16.toNat_inj.mp (by omega)
theorem chv_gt (u : UInt16) : (255 : Int32) < chv u ↔ ¬ u < 256 := by
  rw [Int32.lt_iff_toInt_lt, chv_toInt, UInt16.lt_iff_toNat_lt]
  show (255 : Int) < _ ↔ ¬ _ < 256
  omega
theorem chv_nar (u : UInt16) : nar .char (chv u) = chv u := by
  show (chv u).toUInt32.toUInt16.toUInt32.toInt32 = chv u
  simp [chv]
theorem chv_lo8 (u : UInt16) : nar .byte (chv u) = lo8 u := by
  have e : (chv u).toInt8 = u.toUInt8.toInt8 := by
    apply Int8.toBitVec_inj.mp
    simp [chv]
    rw [BitVec.signExtend_eq_setWidth_of_le _ (by decide), BitVec.setWidth_setWidth_of_le _ (by decide)]
  show (chv u).toInt8.toInt32 = u.toUInt8.toInt8.toInt32
  rw [e]
theorem nar_i2b (x : Int32) : nar .byte (x.toInt8.toInt32) = x.toInt8.toInt32 := by
  show (x.toInt8.toInt32).toInt8.toInt32 = _
  simp
theorem lat_iff (us : List UInt16) : lat us = true ↔ ∀ (i : Nat) (u : UInt16), us[i]? = some u → u < 256 := by
  simp only [lat, List.all_eq_true, decide_eq_true_eq]
  constructor
  · intro h i u hu; exact h u (List.mem_of_getElem? hu)
  · intro h u hu
    obtain ⟨i, hi⟩ := List.getElem?_of_mem hu
    exact h i u hi
end Jvm.OwnW
namespace Jvm.OwnW
open Jvm Jvm.ClassFile Sem Op Lib Jvm.Free Jvm.Stand Jvm.LawKit Jvm.RoadKit Bundle
theorem ArI.ne {Z : State} {h : Heap} {a b : Addr} {ty ty' : FieldType} {xs ys : List Int32} (A : ArI Z h a ty xs) (B : ArI Z h b ty' ys) (hne : ty ≠ ty') : a ≠ b := fun e => by
  subst e
  obtain ⟨c, A, -⟩ := A
  obtain ⟨c', B, -⟩ := B
  cases A.1.symm.trans B.1
  obtain ⟨-, k, hk, comp, hkind⟩ := A.2.1
  obtain ⟨-, k', hk', comp', hkind'⟩ := B.2.1
  cases hk.symm.trans hk'
  rw [hkind] at hkind'
  cases hkind'
  exact hne rfl
theorem ArI.uniq {Z : State} {h : Heap} {a : Addr} {ty ty' : FieldType} {xs ys : List Int32} (A : ArI Z h a ty xs) (B : ArI Z h a ty' ys) : xs = ys := by
  obtain ⟨c, A, r, -⟩ := A
  obtain ⟨c', B, r', -⟩ := B
  cases A.1.symm.trans B.1
  rw [r] at r'
  have := congrArg Array.toList r'
  simp only [List.toList_toArray] at this
  exact List.map_inj_right (fun _ _ h => Value.int.inj h) |>.mp this
theorem Fld.uniq {Z : State} {h : Heap} {a : Addr} {C n d : String} {v w : Value} (F : Fld Z h a C n d v) (G : Fld Z h a C n d w) : v = w := by
  obtain ⟨c, cf, k, i, f, h1, h2, -, -, -, -, h7⟩ := F
  obtain ⟨c', cf', k', i', f', g1, g2, -, -, -, -, g7⟩ := G
  cases h1.symm.trans g1
  cases h2.symm.trans g2
  exact Option.some.inj (h7.symm.trans g7)
theorem lo8_toInt (u : UInt16) : (lo8 u).toInt = if u.toNat % 256 < 128 then ((u.toNat % 256 : Nat) : Int) else ((u.toNat % 256 : Nat) : Int) - 256 := by
  have h := c_i2b (chv u)
  have e : (chv u).toInt8.toInt32 = lo8 u := chv_lo8 u
  rw [e, chv_toInt] at h
  split <;> omega
theorem hi8_chv (u : UInt16) : hi8 u = (chv u >>> ((8 : Int32) &&& 31)).toInt8.toInt32 := by
  have e : (chv u >>> ((8 : Int32) &&& 31)) = chv (u >>> 8) := by
    apply Int32.toInt_inj.mp
    rw [c_ishr _ _ 8 (by decide), chv_toInt, chv_toInt, UInt16.toNat_shiftRight]
    simp [Nat.shiftRight_eq_div_pow]
  rw [e]
  exact (chv_lo8 _).symm
theorem hi8_toInt (u : UInt16) : (hi8 u).toInt = if u.toNat / 256 < 128 then ((u.toNat / 256 : Nat) : Int) else ((u.toNat / 256 : Nat) : Int) - 256 := by
  have hu := u.toNat_lt
  have e : hi8 u = lo8 (u >>> 8) := rfl
  have e2 : (u >>> 8).toNat = u.toNat / 256 := by
    rw [UInt16.toNat_shiftRight]; simp [Nat.shiftRight_eq_div_pow]
  rw [e, lo8_toInt, e2, Nat.mod_eq_of_lt (by omega)]
theorem chv_shr0 (u : UInt16) : (chv u >>> ((0 : Int32) &&& 31)).toInt8.toInt32 = lo8 u := by
  have e : (chv u >>> ((0 : Int32) &&& 31)) = chv u := by
    apply Int32.toInt_inj.mp
    rw [c_ishr _ _ 0 (by decide)]; simp
  rw [e]; exact chv_lo8 u
/-- StringUTF16.getChar's sum -/
theorem getChar_val (u : UInt16) : (((lo8 u &&& 255) <<< ((0 : Int32) &&& 31)) ||| ((hi8 u &&& 255) <<< ((8 : Int32) &&& 31))).toUInt32.toUInt16.toUInt32.toInt32 = chv u := by
  have hu := u.toNat_lt
  have m1 := c_mask (lo8 u) 255 8 (by decide) (by decide)
  have m2 := c_mask (hi8 u) 255 8 (by decide) (by decide)
  have s1 := c_ishl (lo8 u &&& 255) 0 0 (by decide)
  have s2 := c_ishl (hi8 u &&& 255) 8 8 (by decide)
  have l1 := lo8_toInt u
  have l2 := hi8_toInt u
  generalize e1 : (lo8 u &&& 255) <<< ((0 : Int32) &&& 31) = A at *
  generalize e2 : (hi8 u &&& 255) <<< ((8 : Int32) &&& 31) = Bv at *
  have r1 := rng32 A
  have r2 := rng32 Bv
  have k1 : (lo8 u &&& 255).toInt = (u.toNat % 256 : Nat) := by rw [m1, l1]; split <;> omega
  have k2 : (hi8 u &&& 255).toInt = (u.toNat / 256 : Nat) := by rw [m2, l2]; split <;> omega
  rw [k1] at s1
  rw [k2] at s2
  have q := c_or' A Bv 8 (by decide) 256 (by decide) (by omega) (by omega) (by omega)
  have c := c_i2c (A ||| Bv)
  apply Int32.toInt_inj.mp
  rw [chv_toInt]
  have r3 := rng32 (A ||| Bv)
  omega
theorem n32_shl1 {i : Nat} (h : 2 * i < 2 ^ 31) : Int32.ofNat i <<< ((1 : Int32) &&& 31) = Int32.ofNat (2 * i) := by
  have s := c_ishl (Int32.ofNat i) 1 1 (by decide)
  apply Int32.toInt_inj.mp
  rw [n32_toInt h]
  rw [n32_toInt (by omega)] at s
  have r := rng32 (Int32.ofNat i <<< ((1 : Int32) &&& 31))
  omega
theorem b16_len (us : List UInt16) : (b16 us).length = 2 * us.length := by
  induction us with
  | nil => rfl
  | cons u us ih => simp only [b16, List.flatMap_cons, List.length_append, List.length_cons, List.length_nil] at ih ⊢; omega
theorem b16_app (us vs : List UInt16) : b16 (us ++ vs) = b16 us ++ b16 vs := by simp [b16]
theorem b16_get {us : List UInt16} {i : Nat} {u : UInt16} (h : us[i]? = some u) : (b16 us)[2 * i]? = some (lo8 u) ∧ (b16 us)[2 * i + 1]? = some (hi8 u) := by
  have hi : i < us.length := (List.getElem?_eq_some_iff.mp h).1
  have e : us = us.take i ++ u :: us.drop (i + 1) := by
    have hg : us[i] = u := (List.getElem?_eq_some_iff.mp h).2
    rw [← hg, List.getElem_cons_drop, List.take_append_drop]
  have hl : (b16 (us.take i)).length = 2 * i := by rw [b16_len, List.length_take]; omega
  have e2 : b16 us = b16 (us.take i) ++ (lo8 u :: hi8 u :: b16 (us.drop (i + 1))) := by
    conv => lhs; rw [e, b16_app]
    simp [b16]
  rw [e2]
  constructor
  · rw [List.getElem?_append_right (by omega), hl]; simp
  · rw [List.getElem?_append_right (by omega), hl, show 2 * i + 1 - 2 * i = 1 by omega]; simp
theorem lo8_inj {u v : UInt16} (hu : u < 256) (hv : v < 256) (h : lo8 u = lo8 v) : u = v := by
  have := congrArg Int32.toInt h
  rw [lo8_toInt, lo8_toInt] at this
  rw [UInt16.lt_iff_toNat_lt] at hu hv
  have h1 : u.toNat < 256 := hu
  have h2 : v.toNat < 256 := hv
  apply UInt16.toNat_inj.mp
  split at this <;> split at this <;> omega
theorem pair_inj {u v : UInt16} (h1 : lo8 u = lo8 v) (h2 : hi8 u = hi8 v) : u = v := by
  have a1 := congrArg Int32.toInt h1
  have a2 := congrArg Int32.toInt h2
  rw [lo8_toInt, lo8_toInt] at a1
  rw [hi8_toInt, hi8_toInt] at a2
  have b1 := u.toNat_lt
  have b2 := v.toNat_lt
  apply UInt16.toNat_inj.mp
  split at a1 <;> split at a1 <;> split at a2 <;> split at a2 <;> omega
theorem b16_inj : ∀ {us vs : List UInt16}, b16 us = b16 vs → us = vs
  | [], [], _ => rfl
  | [], v :: vs, h => by simp [b16] at h
  | u :: us, [], h => by simp [b16] at h
  | u :: us, v :: vs, h => by
    simp only [b16, List.flatMap_cons, List.cons_append, List.nil_append, List.cons.injEq] at h
    rw [pair_inj h.1 h.2.1, b16_inj (us := us) (vs := vs) h.2.2]
theorem lo8s_inj : ∀ {us vs : List UInt16}, lat us = true → lat vs = true → us.map lo8 = vs.map lo8 → us = vs
  | [], [], _, _, _ => rfl
  | [], v :: vs, _, _, h => by simp at h
  | u :: us, [], _, _, h => by simp at h
  | u :: us, v :: vs, h1, h2, h => by
    simp only [lat, List.all_cons, Bool.and_eq_true, decide_eq_true_eq] at h1 h2
    simp only [List.map_cons, List.cons.injEq] at h
    rw [lo8_inj h1.1 h2.1 h.1, lo8s_inj (us := us) (vs := vs) h1.2 h2.2 h.2]
theorem take_set {α : Type} {xs : List α} {ys : List α} {i : Nat} {x : α} (h1 : xs.length = i) (h2 : i < xs.length + ys.length) : (xs ++ ys).set i x = xs ++ x :: ys.drop 1 := by
  subst h1
  rw [List.set_append_right _ _ (Nat.le_refl _), Nat.sub_self]
  cases ys with
  | nil => simp at h2
  | cons y ys => rfl
theorem take_succ' {us : List UInt16} {i : Nat} {u : UInt16} (h : us[i]? = some u) : us.take (i + 1) = us.take i ++ [u] := by
  rw [List.take_add_one, h]; rfl
end Jvm.OwnW
namespace Jvm.OwnW
open Jvm Jvm.ClassFile Sem Op Lib Jvm.Free Jvm.Stand Jvm.LawKit Jvm.RoadKit Bundle
def cod (us : List UInt16) : Int32 := if lat us = true then 0 else 1
def byt (us : List UInt16) : List Int32 := if lat us = true then us.map lo8 else b16 us
theorem StrAt.open {Z : State} {h : Heap} {a t : Addr} {us : List UInt16} (S : StrAt Z h a t us) : Exa Z h a ST ∧ Fld Z h a ST "value" "[B" (.ref t) ∧ Fld Z h a ST "coder" "B" (.int (cod us)) ∧ ArI Z h t .byte (byt us) := by
  obtain ⟨h1, h2, h3⟩ := S
  refine ⟨h1, h2, ?_⟩
  rcases h3 with ⟨q, r⟩ | ⟨q, r⟩
  · simpa [cod, byt, q] using r
  · simpa [cod, byt, q] using r
theorem StrAt.mk {Z : State} {h : Heap} {a t : Addr} {us : List UInt16} (h1 : Exa Z h a ST) (h2 : Fld Z h a ST "value" "[B" (.ref t)) (h3 : Fld Z h a ST "coder" "B" (.int (cod us))) (h4 : ArI Z h t .byte (byt us)) : StrAt Z h a t us := by
  refine ⟨h1, h2, ?_⟩
  cases hl : lat us
  · exact Or.inr ⟨rfl, by simpa [cod, hl] using h3, by simpa [byt, hl] using h4⟩
  · exact Or.inl ⟨rfl, by simpa [cod, hl] using h3, by simpa [byt, hl] using h4⟩
theorem str_inj {us vs : List UInt16} (hc : cod us = cod vs) (hb : byt us = byt vs) : us = vs := by
  unfold cod at hc
  unfold byt at hb
  cases h1 : lat us <;> cases h2 : lat vs <;> simp [h1, h2] at hc hb
  · exact b16_inj hb
  · exact lo8s_inj h1 h2 hb
theorem StrAt.uniq {Z : State} {h : Heap} {a t t' : Addr} {us vs : List UInt16} (S : StrAt Z h a t us) (S' : StrAt Z h a t' vs) : us = vs := by
  obtain ⟨-, v1, c1, b1⟩ := S.open
  obtain ⟨-, v2, c2, b2⟩ := S'.open
  have e1 : t = t' := Value.ref.inj (Fld.uniq v1 v2)
  subst e1
  exact str_inj (Value.int.inj (Fld.uniq c1 c2)) (ArI.uniq b1 b2)
theorem byt_lt {Z : State} {h : Heap} {t : Addr} {us : List UInt16} (A : ArI Z h t .byte (byt us)) : us.length < 2 ^ 31 := by
  have := A.len
  unfold byt at this
  split at this
  · simpa using this
  · rw [b16_len] at this; omega
end Jvm.OwnW
namespace Jvm.OwnW
open Jvm Jvm.ClassFile Sem Op Lib Jvm.Free Jvm.Stand Jvm.LawKit Jvm.RoadKit Bundle
theorem n32_half {i : Nat} (h : 2 * i < 2 ^ 31) : Int32.ofNat (2 * i) >>> ((1 : Int32) &&& 31) = Int32.ofNat i := by
  apply Int32.toInt_inj.mp
  rw [c_ishr _ _ 1 (by decide), n32_toInt h, n32_toInt (by omega)]
  omega
theorem n32_sub {i k : Nat} (h : k ≤ i) (hi : i < 2 ^ 31) : Int32.ofNat i - Int32.ofNat k = Int32.ofNat (i - k) := by
  have d := c_isub (Int32.ofNat i) (Int32.ofNat k)
  have r := rng32 (Int32.ofNat i - Int32.ofNat k)
  apply Int32.toInt_inj.mp
  rw [n32_toInt (by omega)]
  rw [n32_toInt hi, n32_toInt (by omega)] at d
  omega
theorem lo8_and (u : UInt16) (h : u < 256) : (lo8 u &&& 255) = chv u := by
  have m1 := c_mask (lo8 u) 255 8 (by decide) (by decide)
  have l1 := lo8_toInt u
  rw [UInt16.lt_iff_toNat_lt] at h
  have h1 : u.toNat < 256 := h
  apply Int32.toInt_inj.mp
  rw [m1, chv_toInt, l1]
  split <;> omega
theorem chv_i2c (u : UInt16) : (chv u).toUInt32.toUInt16.toUInt32.toInt32 = chv u := chv_nar u
theorem cod_lat {us : List UInt16} (h : lat us = true) : cod us = 0 := if_pos h
theorem cod_utf {us : List UInt16} (h : lat us = false) : cod us = 1 := if_neg (by rw [h]; decide)
theorem byt_lat {us : List UInt16} (h : lat us = true) : byt us = us.map lo8 := if_pos h
theorem byt_utf {us : List UInt16} (h : lat us = false) : byt us = b16 us := if_neg (by rw [h]; decide)
theorem mem_lo8 {us : List UInt16} {c : UInt16} (hl : lat us = true) (hc : c < 256) : lo8 c ∈ us.map lo8 ↔ c ∈ us := by
  constructor
  · intro h
    obtain ⟨u, hu, e⟩ := List.mem_map.mp h
    have : u < 256 := by simp only [lat, List.all_eq_true, decide_eq_true_eq] at hl; exact hl u hu
    rw [← lo8_inj this hc e]; exact hu
  · exact fun h => List.mem_map_of_mem h
end Jvm.OwnW
namespace Jvm.OwnW
open Jvm Jvm.ClassFile Sem Op Lib Jvm.Free Jvm.Stand Jvm.LawKit Jvm.RoadKit Bundle
section Start
variable {s : State} {args : Array Value} {C n d : String} {x : Int32}
theorem sta_eq (w : (Jvm.Cond.eq (.static C n d) (.int x)).before args s = true) (wi : (Jvm.Cond.initializedFor C n d).before args s = true) : Sta s s.heap C n d (.int x) :=
  Sta.start (args := args) (Cond.eq_int w rfl) (Or.inl wi)
theorem sta_int (w : (Jvm.Cond.isInt (.static C n d)).before args s = true) (wi : (Jvm.Cond.initializedFor C n d).before args s = true) : ∃ z, Sta s s.heap C n d (.int z) ∧ (Term.static C n d).eval args s none [] s = some (.int z) := by
  obtain ⟨z, e⟩ := is_v (Cond.before_iff.mp w)
  exact ⟨z, Sta.start e (Or.inl wi), e⟩
theorem sta_nz {z : Int32} (e : (Term.static C n d).eval args s none [] s = some (.int z)) (w : (Jvm.Cond.not (.eq (.static C n d) (.int 0))).before args s = true) : ¬ z = 0 := fun q => by
  have h := not_v (Cond.before_iff.mp w)
  subst q
  have h2 : (Jvm.Cond.eq (Term.static C n d) (.int 0)).value args s none s [] = some true := eq_i e rfl rfl
  rw [h2] at h; cases h
theorem sta_ref {K : String} (w : (Jvm.Cond.exactly (.static C n d) K).before args s = true) (wi : (Jvm.Cond.initializedFor C n d).before args s = true ∨ ((Jvm.Cond.initialized C).before args s = true ∧ (Jvm.Cond.laysStatic C n d).before args s = true)) : ∃ a, Sta s s.heap C n d (.ref a) ∧ Exa s s.heap a K ∧ (Term.static C n d).eval args s none [] s = some (.ref a) := by
  obtain ⟨a, e⟩ := exa_v (Cond.before_iff.mp w)
  exact ⟨a, Sta.start e wi, Exa.start e (Cond.before_iff.mp w), e⟩
theorem fld_null {t : Term} {a : Addr} (e : t.eval args s none [] s = some (.ref a)) (w : (Jvm.Cond.eq (.field t C n d) .null).before args s = true) : Fld s s.heap a C n d .null :=
  Fld.start (by have := null_v (Cond.before_iff.mp w); rw [fld_at e] at this; exact this)
theorem fld_int {t : Term} {a : Addr} (e : t.eval args s none [] s = some (.ref a)) (w : (Jvm.Cond.eq (.field t C n d) (.int x)).before args s = true) : Fld s s.heap a C n d (.int x) :=
  Fld.start (by have := Cond.eq_int w rfl; rw [fld_at e] at this; exact this)
theorem sta_any {ty : FieldType} (hf : Fit s) (w : (Jvm.Cond.laysStatic C n d).before args s = true) (wz : (Jvm.Cond.initialized C).before args s = true) (ht : parseFieldDescriptor d = some ty) : ∃ v, Sta s s.heap C n d v ∧ fits ty v = true := by
  obtain ⟨v, e, f⟩ := static_fit hf w ht
  exact ⟨v, Sta.start e (Or.inr ⟨wz, w⟩), f⟩
theorem kh_start {L : Lits} (h : ∀ q ∈ L, ConstHeldL s q.1 q.2.1) : KH s L s.vm s.heap [] := fun q hq c k cf i units a h1 h2 h3 h4 h5 h6 => by
  obtain ⟨sq, cS, r1, r2, r3, r4, r5⟩ := h q hq c k cf i units a h1 h2 h3 h4 h5 h6
  exact ⟨sq, cS, r1, r2, r3, r4, r5, List.not_mem_nil, List.not_mem_nil⟩
theorem inv_start {L : Lits} (hl : Links s L) (h : ∀ q ∈ L, ConstHeldL s q.1 q.2.1) : Inv s L s.vm s.heap [] :=
  ⟨State.Warmed39.refl s, ⟨Nat.le_refl _, fun _ _ q => q⟩, fun _ q => (nomatch q), hl, kh_start h⟩
end Start
end Jvm.OwnW
namespace Jvm.OwnW
open Jvm Jvm.ClassFile Sem Op Lib Jvm.Free Jvm.Stand Jvm.LawKit Jvm.RoadKit Bundle
section More
variable {R R' : Room} {Z : State} {L : Lits} {h0 h h' : Heap} {ws ws' mine0 mine : List Addr} {ce sl : Nat} {own : String} {code : ByteArray} {maxL : Nat} {ret : Option FieldType} {nm : String} {Q : Option Value → Heap → List Addr → Prop} {pc pc' : Nat} {Ls : List Slot} {rest argsL : List Value} {a0 : Array Value} {a : Addr}
  {y z : MethodName} {cb : ByteArray} {mL : Nat} {rt : Option FieldType} {Q' : Option Value → Heap → List Addr → Prop} {idx : Nat} {as : Array Value}
theorem WP.tsw {dflt low high : Int} {offs : Array Int} {len : Nat} {o : Int} {i : Int32} (hd : decode code pc = .ok (.tableswitch dflt low high offs, len)) (hin : ¬ (i.toInt < low ∨ i.toInt > high)) (hoff : offs[(i.toInt - low).toNat]? = some o) (ho : 0 ≤ (pc : Int) + o) (hp : ((pc : Int) + o).toNat = pc')
    (K : WP own code maxL ret nm R Z L h0 ws mine0 Q mine ce sl h pc' Ls rest) : WP own code maxL ret nm R Z L h0 ws mine0 Q mine ce sl h pc Ls (.int i :: rest) :=
  K.pure1 fun p e below T m c t h hx hc hr => XS.tswIn h hx rfl rfl (hb hc hd) rfl hin hoff ho hp hr
theorem WP.tswD {dflt low high : Int} {offs : Array Int} {len : Nat} {i : Int32} (hd : decode code pc = .ok (.tableswitch dflt low high offs, len)) (hout : i.toInt < low ∨ i.toInt > high) (ho : 0 ≤ (pc : Int) + dflt) (hp : ((pc : Int) + dflt).toNat = pc')
    (K : WP own code maxL ret nm R Z L h0 ws mine0 Q mine ce sl h pc' Ls rest) : WP own code maxL ret nm R Z L h0 ws mine0 Q mine ce sl h pc Ls (.int i :: rest) :=
  K.pure1 fun p e below T m c t h hx hc hr => XS.tswOut h hx rfl rfl (hb hc hd) rfl hout ho hp hr
/-- invokevirtual of a method that a superclass declares -/
theorem WP.callVU {Cl owner : String} (C : Con z cb mL rt R' Z L [] (.ref a :: argsL).toArray h ws' mine Q') (E : Exa Z h a Cl) (wl : (Jvm.Cond.methodLink own idx y).before a0 Z = true) (wsm : (Jvm.Cond.sameMethod y.cls owner y.name y.desc).before a0 Z = true) (wd : (Jvm.Cond.declares ⟨owner, y.name, y.desc⟩).before a0 Z = true) (wsel : (Jvm.Cond.selects Cl y z).before a0 Z = true) (wi : (Jvm.Cond.instanceMethod z).before a0 Z = true) (wz : (Jvm.Cond.initialized z.cls).before a0 Z = true) (wc : (Jvm.Cond.code z cb mL rt).before a0 Z = true)
    (hd : decode code pc = .ok (.invokevirtual idx, 3)) (hy : owner ≠ "java/lang/invoke/MethodHandle" ∧ owner ≠ "java/lang/invoke/VarHandle") {sig : MethodDescriptor} (hsig : parseMethodDescriptor y.desc = some sig) (hlen : argsL.length = sig.parameters.length) {st : List Value} (hst : st = argsL.reverse ++ .ref a :: rest) (hLs : Ls.length = maxL)
    (hf : R'.frames + 1 ≤ R.frames) (hl : (rest.map fun v => v.category).sum + (mL + 11) + R'.locals ≤ R.locals) (hc : ce + R'.cells ≤ R.cells) (hs : sl + R'.slots ≤ R.slots) (hw : ∀ x ∈ ws', x ∈ ws ∨ h0.size ≤ x) (hp : pc + 3 = pc')
    (K : ∀ v h' nw, Keep h h' ws' → (∀ x ∈ nw, h.size ≤ x) → Q' v h' nw → WP own code maxL ret nm R Z L h0 ws mine0 Q (nw ++ mine) (ce + R'.cells) (sl + R'.slots) h' pc' Ls (v.toList ++ rest)) :
    WP own code maxL ret nm R Z L h0 ws mine0 Q mine ce sl h pc Ls st := by
  intro p l e s m args below meth c B T locs X hT
  subst hp hst
  obtain ⟨cq, kq, qa, qb, qc⟩ := isOf (s := s.setVm T.vm) X.warm hT E
  obtain ⟨v, vm₁, Bp, hW, Y, hS, hg, ⟨L', nw, q1, q2, q3, q4, q5, q6, q7, q8⟩, st⟩ := virtualBackUpS X.1 B.1 (X.hown B) (mv X.warm wl) (mv X.warm wsm) (mv X.warm wd) hy (mv X.warm wsel) (mv X.warm wi) (C.back X.warm wc wz hf hl) qa qc (g := mkF m pc Ls.toArray (argsL.reverse ++ .ref a :: rest)) rfl (by simp [hLs, B.2.2.1]) (Steps.refl _) (argsL := argsL) (rest := rest) (fun sg h => by rw [hsig] at h; cases h; exact hlen) rfl (by simp) (hb B.2.1 hd)
    (fun vm₁ hv => ⟨rfl, hT, by show Inv Z L vm₁ T.heap mine; exact X.2.2.2.2.go (U := s.setVm T.vm) rfl hv (Nat.le_refl _) (fun _ _ hc _ => hc) (fun _ hx => Or.inl hx), hc, hs⟩)
  exact (K v Bp.U.heap nw q5 q6 q8 p l e s m args below meth c B Bp.U _ (X.called hT Y hS hg q1 q2 q3 q4 q5 q7 hw) rfl).step fun t hr => st.trans hr
/-- invokevirtual of a private method -/
theorem WP.callP {n : Nat} (C : Con y cb mL rt R' Z L [] (.ref a :: argsL).toArray h ws' mine Q') (F : ∃ c : Cell, h[a]? = some c ∧ ∀ q, c.vm ≠ .statics q) (wl : (Jvm.Cond.methodLink own idx y).before a0 Z = true) (wi : (Jvm.Cond.instanceMethod y).before a0 Z = true) (wp : (Jvm.Cond.privateMethod y).before a0 Z = true) (win : (Jvm.Cond.instantiable y.cls n).before a0 Z = true) (wz : (Jvm.Cond.initialized y.cls).before a0 Z = true) (wc : (Jvm.Cond.code y cb mL rt).before a0 Z = true)
    (hd : decode code pc = .ok (.invokevirtual idx, 3)) (hy : y.cls ≠ "java/lang/invoke/MethodHandle" ∧ y.cls ≠ "java/lang/invoke/VarHandle") {sig : MethodDescriptor} (hsig : parseMethodDescriptor y.desc = some sig) (hlen : argsL.length = sig.parameters.length) {st : List Value} (hst : st = argsL.reverse ++ .ref a :: rest) (hLs : Ls.length = maxL)
    (hf : R'.frames + 1 ≤ R.frames) (hl : (rest.map fun v => v.category).sum + (mL + 11) + R'.locals ≤ R.locals) (hc : ce + R'.cells ≤ R.cells) (hs : sl + R'.slots ≤ R.slots) (hw : ∀ x ∈ ws', x ∈ ws ∨ h0.size ≤ x) (hp : pc + 3 = pc')
    (K : ∀ v h' nw, Keep h h' ws' → (∀ x ∈ nw, h.size ≤ x) → Q' v h' nw → WP own code maxL ret nm R Z L h0 ws mine0 Q (nw ++ mine) (ce + R'.cells) (sl + R'.slots) h' pc' Ls (v.toList ++ rest)) :
    WP own code maxL ret nm R Z L h0 ws mine0 Q mine ce sl h pc Ls st := by
  intro p l e s m args below meth c B T locs X hT
  subst hp hst
  obtain ⟨cl, hcl, hst⟩ := F
  have win' := mv (args := args) X.warm win
  obtain ⟨ci, ki, hci, hki, -, hab, -⟩ := Cond.instantiable_spec (first := s.setVm T.vm) (o := none) (idx := []) win'
  have hni : ki.isInterface = false := (Bool.or_eq_false_iff.mp hab).1
  have hpv : (s.setVm T.vm).PrivateAt y := Cond.privateMethod_at (args := args) (mvP X.warm wp)
  obtain ⟨v, vm₁, Bp, hW, Y, hS, hg, ⟨L', nw, q1, q2, q3, q4, q5, q6, q7, q8⟩, st⟩ := privateBackS X.1 B.1 (X.hown B) (mv X.warm wl) (mv X.warm wi) (selects_self_of_private hci hki hni hpv (mv X.warm wi) hy) hpv (mv X.warm wc) hy (C.back X.warm wc wz hf hl) (g := mkF m pc Ls.toArray (argsL.reverse ++ .ref a :: rest)) rfl (by simp [hLs, B.2.2.1]) (Steps.refl _) (a := a) (cell := cl) (by rw [hT]; exact hcl) hst (argsL := argsL) (rest := rest) (fun sg h => by rw [hsig] at h; cases h; exact hlen) rfl (by simp) (hb B.2.1 hd)
    (fun vm₁ hv => ⟨rfl, hT, by show Inv Z L vm₁ T.heap mine; exact X.2.2.2.2.go (U := s.setVm T.vm) rfl hv (Nat.le_refl _) (fun _ _ hc _ => hc) (fun _ hx => Or.inl hx), hc, hs⟩)
  exact (K v Bp.U.heap nw q5 q6 q8 p l e s m args below meth c B Bp.U _ (X.called hT Y hS hg q1 q2 q3 q4 q5 q7 hw) rfl).step fun t hr => st.trans hr
end More
section Facts
variable {Z : State} {h h' : Heap} {a b : Addr} {C n d : String} {v w : Value} {sl : Nat} {args : Array Value} {t u : Term}
/-- after a write the field still has some value -/
theorem fld_some (F : ∃ v, Fld Z h b C n d v) (W : Wr h h' a sl w) : ∃ v', Fld Z h' b C n d v' := by
  obtain ⟨v, F⟩ := F
  by_cases e : b = a
  · subst e
    by_cases q : Jvm.RoadKit.slotOf Z C n d = sl
    · subst q; exact ⟨w, F.same W⟩
    · exact ⟨v, F.other W (Or.inr q)⟩
  · exact ⟨v, F.other W (Or.inl e)⟩
theorem fld_ref {K : String} (e : t.eval args Z none [] Z = some (.ref a)) (w : (Jvm.Cond.exactly (.field t C n d) K).value args Z none Z [] = some true) : ∃ b, Fld Z Z.heap a C n d (.ref b) ∧ Exa Z Z.heap b K ∧ (Term.field t C n d).eval args Z none [] Z = some (.ref b) := by
  obtain ⟨b, eb⟩ := exa_v w
  exact ⟨b, Fld.start (by rw [← fld_at e]; exact eb), Exa.start eb w, eb⟩
theorem len_lt {c : Cell} (e : t.eval args Z none [] Z = some (.ref a)) (e2 : Z.arrayAt? a = some c) (el : (Term.length t).eval args Z none [] Z = some v) : c.slots.size < 2 ^ 31 := by
  simp only [Term.eval, Option.bind_eq_bind, e, Option.bind_some, e2] at el
  split at el
  · assumption
  · cases el
theorem fld_arr0 {ty : FieldType} (e : t.eval args Z none [] Z = some (.ref a)) (w : (Jvm.Cond.arrayOf (.field t C n d) ty).value args Z none Z [] = some true) (wl : (Jvm.Cond.eq (.length (.field t C n d)) (.int 0)).value args Z none Z [] = some true) : ∃ b, Fld Z Z.heap a C n d (.ref b) ∧ ArI Z Z.heap b ty [] := by
  obtain ⟨b, eb⟩ := arr_v w
  obtain ⟨c, A⟩ := Arr.start eb w
  have el := Cond.eq_int (Cond.before_iff.mpr wl) rfl
  obtain ⟨b', c', e1, e2, e3⟩ := Term.length_spec el
  cases eb.symm.trans e1
  have ec : c' = c := by
    have := Arr.fin (Vm.Alike.refl _) A
    rw [this] at e2; exact (Option.some.inj e2).symm
  subst ec
  have hb : c'.slots.size < 2 ^ 31 := by
    exact len_lt eb e2 el
  have hz : c'.slots.size = 0 := by
    have q : Int32.ofNat c'.slots.size = Int32.ofNat 0 := (Value.int.inj e3).symm
    exact (n32_eq hb (by omega)).mp q
  refine ⟨b, Fld.start (by rw [← fld_at e]; exact eb), c', A, ?_, by simp⟩
  simpa using hz
theorem fld_same (e : t.eval args Z none [] Z = some (.ref a)) (eu : u.eval args Z none [] Z = some (.ref b)) (w : (Jvm.Cond.eq (.field t C n d) u).value args Z none Z [] = some true) : Fld Z Z.heap a C n d (.ref b) := by
  refine Fld.start ?_
  rw [← fld_at e]
  cases hf : (Term.field t C n d).eval args Z none [] Z with
  | none => simp [Cond.value, hf] at w
  | some x => cases x <;> simp [Cond.value, hf, eu] at w; rw [w]
/-- a static that holds a reference -/
theorem sta_isref (w : (Jvm.Cond.isRef (.static C n d)).before args Z = true) (wi : (Jvm.Cond.initializedFor C n d).before args Z = true) : ∃ v, Sta Z Z.heap C n d v ∧ v.isRef = true := by
  obtain ⟨v, e, hv⟩ := isR_v (Cond.before_iff.mp w)
  exact ⟨v, Sta.start e (Or.inl wi), hv⟩
end Facts
/-- cs with us laid over it from k on -/
def ovr (cs : List Int32) (k : Nat) (us : List UInt16) : List Int32 := cs.take k ++ us.map chv ++ cs.drop (k + us.length)
theorem ovr_len {cs : List Int32} {k : Nat} {us : List UInt16} (h : k + us.length ≤ cs.length) : (ovr cs k us).length = cs.length := by
  simp [ovr, List.length_take, List.length_drop]; omega
theorem ovr_nil {cs : List Int32} {k : Nat} : ovr cs k [] = cs := by simp [ovr]
theorem ovr_set {cs : List Int32} {k i : Nat} {us : List UInt16} {u : UInt16} (hu : us[i]? = some u) (h : k + us.length ≤ cs.length) : (ovr cs k (us.take i)).set (k + i) (chv u) = ovr cs k (us.take (i + 1)) := by
  have hi : i < us.length := (List.getElem?_eq_some_iff.mp hu).1
  have l1 : (cs.take k ++ (us.take i).map chv).length = k + i := by simp [List.length_take]; omega
  unfold ovr
  rw [take_set l1 (by rw [l1]; simp [List.length_take, List.length_drop]; omega), take_succ' hu]
  have l2 : (us.take i ++ [u]).length = i + 1 := by simp [List.length_take]; omega
  have l3 : (us.take i).length = i := by simp [List.length_take]; omega
  rw [l2, l3]
  simp [List.drop_drop, Nat.add_assoc]
theorem ovr_get {cs : List Int32} {k i : Nat} {us : List UInt16} (h : k + us.length ≤ cs.length) : (ovr cs k us)[i]? = if i < k then cs[i]? else if i < k + us.length then (us[i - k]?).map chv else cs[i]? := by
  unfold ovr
  have lk : (cs.take k).length = k := by simp [List.length_take]; omega
  split
  · rename_i q
    rw [List.append_assoc, List.getElem?_append_left (by rw [lk]; exact q), List.getElem?_take_of_lt q]
  · rename_i q
    split
    · rename_i q2
      rw [List.append_assoc, List.getElem?_append_right (by rw [lk]; omega), List.getElem?_append_left (by rw [lk]; simp; omega), lk]; simp
    · rename_i q2
      rw [List.getElem?_append_right (by simp [lk]; omega), List.getElem?_drop]
      congr 1
      simp [lk]; omega
/-- us stands in bs from off on -/
def SubC (bs : List Int32) (off : Nat) (us : List UInt16) : Prop := off + us.length ≤ bs.length ∧ ∀ (i : Nat) (u : UInt16), us[i]? = some u → bs[off + i]? = some (chv u)
theorem SubC.full (us : List UInt16) : SubC (us.map chv) 0 us := ⟨by simp, fun i u hu => by simp [hu]⟩
section Copy
variable {Z : State} {h : Heap} {a b : Addr} {ty : FieldType} {xs ys : List Int32}
theorem ArI.arv (A : ArI Z h a ty xs) (hf : ∀ x ∈ xs, fits ty (.int x) = true) : ∃ k, Arv Z h a k ty (Int32.ofNat xs.length) (xs.map Value.int) (.int 0) := by
  obtain ⟨c, A', r1, r2⟩ := A
  have hs : c.slots.size = xs.length := by rw [r1]; simp
  refine ⟨c.cls, c, A', rfl, by rw [hs, nat_clamp (n32_toInt r2)], ?_, fun k hk => ?_, fun i hi => ?_⟩
  · rw [Int32.lt_iff_toInt_lt, n32_toInt r2]; simp
  · rw [r1]
    have : k < xs.length := hs ▸ hk
    simp [List.getD_eq_getElem?_getD, this]
  · have hi' : i < xs.length := hs ▸ hi
    simp [List.getD_eq_getElem?_getD, hi']
    exact hf _ (List.getElem_mem hi')
theorem ArI.ofArv {k : ClassId} {n : Int32} {dd : Value} (A : Arv Z h a k ty n (xs.map Value.int) dd) (hn : n.toNatClampNeg = xs.length) (hl : xs.length < 2 ^ 31) : ArI Z h a ty xs := by
  obtain ⟨c, A', -, hs, -, hH, -⟩ := A
  refine ⟨c, A', ?_, hl⟩
  rw [hn] at hs
  apply Array.ext_getElem?
  intro i
  by_cases hi : i < c.slots.size
  · rw [hH i hi]
    have hi' : i < xs.length := hs ▸ hi
    simp [List.getD_eq_getElem?_getD, hi']
  · rw [Array.getElem?_eq_none (by omega), Array.getElem?_eq_none (by simp; omega)]
variable {R : Room} {L : Lits} {h0 : Heap} {ws mine0 mine : List Addr} {ce sl : Nat} {own : String} {code : ByteArray} {maxL : Nat} {ret : Option FieldType} {nm : String} {Q : Option Value → Heap → List Addr → Prop} {pc pc' : Nat} {Ls : List Slot} {rest : List Value} {a0 : Array Value} {idx : Nat}
theorem WP.arraycopy {i j n : Nat} {W : Nat} {sp dp nn : Int32} (w1 : (Jvm.Cond.methodLink own idx Jvm.Stand.acN).before a0 Z = true) (w2 : (Jvm.Cond.native Jvm.Stand.acN).before a0 Z = true) (w3 : (Jvm.Cond.static Jvm.Stand.acN).before a0 Z = true) (w4 : (Jvm.Cond.initialized "java/lang/System").before a0 Z = true) (hd : decode code pc = .ok (.invokestatic idx, 3))
    (A : ArI Z h a ty xs) (B : ArI Z h b ty ys) (hty : refKind ty = false) (hfx : ∀ x ∈ xs, fits ty (.int x) = true) (hfy : ∀ y ∈ ys, fits ty (.int y) = true) (hsp : sp.toInt = (i : Int)) (hdp : dp.toInt = (j : Int)) (hnn : nn.toInt = (n : Int)) (h1 : i + n ≤ xs.length) (h2 : j + n ≤ ys.length)
    (hm : b ∈ mine) (hw : b ∈ ws ∨ h0.size ≤ b) (hLs : Ls.length = maxL) (hf : 1 ≤ R.frames) (hW : (rest.map fun v => v.category).sum ≤ W) (hl : W + (nativeFrameWords "java/lang/System" "arraycopy" 5 + 11) ≤ R.locals) (hp : pc + 3 = pc')
    (K : ∀ h', Keep h h' [b] → ArI Z h' b ty (ys.take j ++ (xs.drop i).take n ++ ys.drop (j + n)) → WP own code maxL ret nm R Z L h0 ws mine0 Q mine ce sl h' pc' Ls rest) : WP own code maxL ret nm R Z L h0 ws mine0 Q mine ce sl h pc Ls (.int nn :: .int dp :: .ref b :: .int sp :: .ref a :: rest) := by
  intro p l e s m args below meth c B' T locs X hT
  subst hp
  obtain ⟨ka, A'⟩ := A.arv hfx
  obtain ⟨kb, Bv⟩ := B.arv hfy
  have ci := nat_clamp hsp
  have cj := nat_clamp hdp
  have cn := nat_clamp hnn
  have cx := nat_clamp (n32_toInt A.len)
  have cy := nat_clamp (n32_toInt B.len)
  have nn0 : ∀ {x : Int32} {k : Nat}, x.toInt = (k : Int) → ¬ x < 0 := fun {x k} q r => by rw [Int32.lt_iff_toInt_lt, q] at r; simp at r; omega
  obtain ⟨T', h', L', Y, eT, N, Kp, Cv, st⟩ := cpA (us := ((xs.drop i).take n).map Value.int) X.1 B'.1 X.warm (X.hown B') w1 w2 w3 w4 hT A' Bv (Or.inl ⟨rfl, hty⟩) (nn0 hsp) (nn0 hdp) (nn0 hnn) (by rw [ci, cn, cx]; exact h1) (by rw [cj, cn, cy]; exact h2)
    (by
      rw [ci, cn]
      apply List.ext_getElem?
      intro k
      by_cases hk : k < n
      · have : i + k < xs.length := by omega
        simp [List.getD_eq_getElem?_getD, hk, List.getElem?_take, List.getElem?_drop, this]
      · simp [hk, List.getElem?_take])
    (by rw [cj, cn]; simp; exact h2) X.2.2.1 (X.2.2.2.2.2.2.1 _ hm).1 (g := mkF m pc Ls.toArray (.int nn :: .int dp :: .ref b :: .int sp :: .ref a :: rest)) rfl (by simp [hLs, B'.2.2.1]) rfl (hb B'.2.1 hd) hf (W := W) (by simpa using hW) hl
  rw [cj, cn] at Cv
  have C : ArI Z h' b ty (ys.take j ++ (xs.drop i).take n ++ ys.drop (j + n)) := by
    have e : (ys.map Value.int).take j ++ ((xs.drop i).take n).map Value.int ++ (ys.map Value.int).drop (j + n) = (ys.take j ++ (xs.drop i).take n ++ ys.drop (j + n)).map Value.int := by simp [List.map_take, List.map_drop]
    rw [e] at Cv
    have hlen : (ys.take j ++ (xs.drop i).take n ++ ys.drop (j + n)).length = ys.length := by simp [List.length_take, List.length_drop]; omega
    exact ArI.ofArv Cv (by rw [cy, hlen]) (by rw [hlen]; exact B.len)
  subst hT
  subst eT
  refine (K _ Kp C p l e s m args below meth c B' T' _ (X.rebase Y N Kp.1 (fun x c hc hx => Kp.2.1 _ _ hc (fun q => hx ((List.mem_singleton.mp q) ▸ hm))) (fun x hx => Or.inl hx) (X.2.2.2.1.trans Kp (fun x hx => by cases List.mem_singleton.mp hx; exact hw))) rfl).step st
end Copy
section Chars
variable {R : Room} {Z : State} {L : Lits} {h0 h : Heap} {ws mine0 mine : List Addr} {ce sl : Nat} {own : String} {code : ByteArray} {maxL : Nat} {ret : Option FieldType} {nm : String} {Q : Option Value → Heap → List Addr → Prop} {pc pc' : Nat} {Ls : List Slot} {rest : List Value} {a : Addr}
/-- castore of whatever: some unit stands there -/
theorem WP.castoreU {xs : List Int32} {i : Nat} {j x : Int32} (hd : decode code pc = .ok (.castore, 1)) (A : ArI Z h a .char xs) (hj : j.toInt = (i : Int)) (hi : i < xs.length) (hm : a ∈ mine) (hw : a ∈ ws ∨ h0.size ≤ a) (hp : pc + 1 = pc')
    (K : ∀ h' u, Wr h h' a i (.int (chv u)) → ArI Z h' a .char (xs.set i (chv u)) → WP own code maxL ret nm R Z L h0 ws mine0 Q mine ce sl h' pc' Ls rest) : WP own code maxL ret nm R Z L h0 ws mine0 Q mine ce sl h pc Ls (.int x :: .int j :: .ref a :: rest) :=
  WP.castore hd A hj hi hm hw hp fun h' W A' => K h' x.toUInt32.toUInt16 W A'
theorem chv_fits (u : UInt16) : fits .char (.int (chv u)) = true := by
  have e := chv_toInt u
  have l : u.toNat < 65536 := u.toNat_lt
  simp only [fits, Bool.and_eq_true, decide_eq_true_eq, Int32.le_iff_toInt_le]
  have e0 : (0 : Int32).toInt = 0 := rfl
  have e1 : (65535 : Int32).toInt = 65535 := rfl
  omega
theorem ovr_fits {cs : List Int32} {k : Nat} {us : List UInt16} (h : ∀ x ∈ cs, fits .char (.int x) = true) : ∀ x ∈ ovr cs k us, fits .char (.int x) = true := fun x hx => by
  unfold ovr at hx
  rcases List.mem_append.mp hx with hx | hx
  · rcases List.mem_append.mp hx with hx | hx
    · exact h x (List.mem_of_mem_take hx)
    · obtain ⟨u, -, rfl⟩ := List.mem_map.mp hx; exact chv_fits u
  · exact h x (List.mem_of_mem_drop hx)
end Chars
end Jvm.OwnW
namespace Jvm.OwnW
open Jvm Jvm.ClassFile Sem Op Lib Jvm.Free Jvm.Stand Jvm.LawKit Jvm.RoadKit Bundle
/-- the class called so is there and no interface -/
def NI (s : State) (cls : String) : Prop := ∃ (c : ClassId) (k : Class), s.vm.findClass cls = some c ∧ s.vm.classes[c]? = some k ∧ k.isInterface = false
theorem ni_sel {s : State} {args : Array Value} {C : String} {x y : MethodName} (w : (Jvm.Cond.selects C x y).before args s = true) : NI s y.cls := by
  obtain ⟨c2, r2, m2, q1, q2, q3, q4, kP, hkP, hkPi⟩ := Cond.selects_spec (first := s) (o := none) (idx := []) w
  exact ⟨_, kP, findClass_of_methodNamed q3, hkP, hkPi⟩
theorem same_self {s : State} {args : Array Value} {y : MethodName} (hn : NI s y.cls) (wi : (Jvm.Cond.instanceMethod y).before args s = true) (hy : y.cls ≠ "java/lang/invoke/MethodHandle" ∧ y.cls ≠ "java/lang/invoke/VarHandle") : (Jvm.Cond.sameMethod y.cls y.cls y.name y.desc).before args s = true := by
  obtain ⟨c, k, hc, hk, hni⟩ := hn
  obtain ⟨mk, methM, hnamed, hmethM, -, -⟩ := Cond.instanceMethod_spec wi
  have hfound : s.methodFound? y.cls y.name y.desc = some mk := State.methodFound?_of_named hnamed hy
  simp [Cond.before, Cond.holds, Cond.value, hc, hk, hni, hfound, hnamed]
theorem nf_ni {s : State} {y : MethodName} (h : NI s y.cls) : NotFace s y := fun r0 h0 => by
  obtain ⟨c, k, hc, hk, hni⟩ := h
  cases (findClass_of_methodNamed h0).symm.trans hc
  exact ⟨k, hk, hni⟩
section More
variable {R R' : Room} {Z : State} {L : Lits} {h0 h h' : Heap} {ws ws' mine0 mine : List Addr} {ce sl : Nat} {own : String} {code : ByteArray} {maxL : Nat} {ret : Option FieldType} {nm : String} {Q : Option Value → Heap → List Addr → Prop} {pc pc' : Nat} {Ls : List Slot} {rest argsL : List Value} {a0 : Array Value} {a : Addr}
  {y z : MethodName} {cb : ByteArray} {mL : Nat} {rt : Option FieldType} {Q' : Option Value → Heap → List Addr → Prop} {idx : Nat} {as : Array Value}
/-- invokevirtual of a private method of a class that need not be instantiable -/
theorem WP.callPn (C : Con y cb mL rt R' Z L [] (.ref a :: argsL).toArray h ws' mine Q') (F : ∃ c : Cell, h[a]? = some c ∧ ∀ q, c.vm ≠ .statics q) (wl : (Jvm.Cond.methodLink own idx y).before a0 Z = true) (wi : (Jvm.Cond.instanceMethod y).before a0 Z = true) (wp : (Jvm.Cond.privateMethod y).before a0 Z = true) (hni : ∀ s : State, Z.Warmed39 s.vm → NI s y.cls) (wz : (Jvm.Cond.initialized y.cls).before a0 Z = true) (wc : (Jvm.Cond.code y cb mL rt).before a0 Z = true)
    (hd : decode code pc = .ok (.invokevirtual idx, 3)) (hy : y.cls ≠ "java/lang/invoke/MethodHandle" ∧ y.cls ≠ "java/lang/invoke/VarHandle") {sig : MethodDescriptor} (hsig : parseMethodDescriptor y.desc = some sig) (hlen : argsL.length = sig.parameters.length) {st : List Value} (hst : st = argsL.reverse ++ .ref a :: rest) (hLs : Ls.length = maxL)
    (hf : R'.frames + 1 ≤ R.frames) (hl : (rest.map fun v => v.category).sum + (mL + 11) + R'.locals ≤ R.locals) (hc : ce + R'.cells ≤ R.cells) (hs : sl + R'.slots ≤ R.slots) (hw : ∀ x ∈ ws', x ∈ ws ∨ h0.size ≤ x) (hp : pc + 3 = pc')
    (K : ∀ v h' nw, Keep h h' ws' → (∀ x ∈ nw, h.size ≤ x) → Q' v h' nw → WP own code maxL ret nm R Z L h0 ws mine0 Q (nw ++ mine) (ce + R'.cells) (sl + R'.slots) h' pc' Ls (v.toList ++ rest)) :
    WP own code maxL ret nm R Z L h0 ws mine0 Q mine ce sl h pc Ls st := by
  intro p l e s m args below meth c B T locs X hT
  subst hp hst
  obtain ⟨cl, hcl, hst⟩ := F
  obtain ⟨ci, ki, hci, hki, hni⟩ := hni (s.setVm T.vm) X.warm
  have hpv : (s.setVm T.vm).PrivateAt y := Cond.privateMethod_at (args := args) (mvP X.warm wp)
  obtain ⟨v, vm₁, Bp, hW, Y, hS, hg, ⟨L', nw, q1, q2, q3, q4, q5, q6, q7, q8⟩, st⟩ := privateBackS X.1 B.1 (X.hown B) (mv X.warm wl) (mv X.warm wi) (selects_self_of_private hci hki hni hpv (mv X.warm wi) hy) hpv (mv X.warm wc) hy (C.back X.warm wc wz hf hl) (g := mkF m pc Ls.toArray (argsL.reverse ++ .ref a :: rest)) rfl (by simp [hLs, B.2.2.1]) (Steps.refl _) (a := a) (cell := cl) (by rw [hT]; exact hcl) hst (argsL := argsL) (rest := rest) (fun sg h => by rw [hsig] at h; cases h; exact hlen) rfl (by simp) (hb B.2.1 hd)
    (fun vm₁ hv => ⟨rfl, hT, by show Inv Z L vm₁ T.heap mine; exact X.2.2.2.2.go (U := s.setVm T.vm) rfl hv (Nat.le_refl _) (fun _ _ hc _ => hc) (fun _ hx => Or.inl hx), hc, hs⟩)
  exact (K v Bp.U.heap nw q5 q6 q8 p l e s m args below meth c B Bp.U _ (X.called hT Y hS hg q1 q2 q3 q4 q5 q7 hw) rfl).step fun t hr => st.trans hr
/-- invokespecial of the superclass's method -/
theorem WP.callSup {Cl : String} (C : Con y cb mL rt R' Z L [] (.ref a :: argsL).toArray h ws' mine Q') (E : Exa Z h a Cl) (wl : (Jvm.Cond.methodLink own idx y).before a0 Z = true) (wi : (Jvm.Cond.instanceMethod y).before a0 Z = true) (wsu : (Jvm.Cond.superclass own y.cls).before a0 Z = true) (hni : NI Z y.cls) (hnn : y.name ≠ "<init>") (wz : (Jvm.Cond.initialized y.cls).before a0 Z = true) (wc : (Jvm.Cond.code y cb mL rt).before a0 Z = true)
    (hd : decode code pc = .ok (.invokespecial idx, 3)) (hy : y.cls ≠ "java/lang/invoke/MethodHandle" ∧ y.cls ≠ "java/lang/invoke/VarHandle") {sig : MethodDescriptor} (hsig : parseMethodDescriptor y.desc = some sig) (hlen : argsL.length = sig.parameters.length) {st : List Value} (hst : st = argsL.reverse ++ .ref a :: rest) (hLs : Ls.length = maxL)
    (hf : R'.frames + 1 ≤ R.frames) (hl : (rest.map fun v => v.category).sum + (mL + 11) + R'.locals ≤ R.locals) (hc : ce + R'.cells ≤ R.cells) (hs : sl + R'.slots ≤ R.slots) (hw : ∀ x ∈ ws', x ∈ ws ∨ h0.size ≤ x) (hp : pc + 3 = pc')
    (K : ∀ v h' nw, Keep h h' ws' → (∀ x ∈ nw, h.size ≤ x) → Q' v h' nw → WP own code maxL ret nm R Z L h0 ws mine0 Q (nw ++ mine) (ce + R'.cells) (sl + R'.slots) h' pc' Ls (v.toList ++ rest)) :
    WP own code maxL ret nm R Z L h0 ws mine0 Q mine ce sl h pc Ls st := by
  intro p l e s m args below meth c B T locs X hT
  subst hp hst
  obtain ⟨v, vm₁, Bp, hW, Y, hS, hg, ⟨L', nw, q1, q2, q3, q4, q5, q6, q7, q8⟩, st⟩ := superBackS X.1 B.1 X.warm (X.hown B) wl (same_self hni wi hy) wi wsu hnn (C.back X.warm wc wz hf hl) hT (Ins.self E) (g := mkF m pc Ls.toArray (argsL.reverse ++ .ref a :: rest)) rfl (by simp [hLs, B.2.2.1]) wc (argsL := argsL) (rest := rest) (fun sg h => by rw [hsig] at h; cases h; exact hlen) rfl (by simp) (hb B.2.1 hd)
    (fun vm₁ hv => ⟨rfl, hT, by show Inv Z L vm₁ T.heap mine; exact X.2.2.2.2.go (U := s.setVm T.vm) rfl hv (Nat.le_refl _) (fun _ _ hc _ => hc) (fun _ hx => Or.inl hx), hc, hs⟩)
  exact (K v Bp.U.heap nw q5 q6 q8 p l e s m args below meth c B Bp.U _ (X.called hT Y hS hg q1 q2 q3 q4 q5 q7 hw) rfl).step fun t hr => st.trans hr
/-- newarray, the new array's exact class said -/
theorem WP.newarrayE {aty : ArrayType} {n : Int32} {N : Nat} {ad : String} (hd : decode code pc = .ok (.newarray aty, 2)) (w : (Jvm.Cond.arrayClass (newarray.typeOf aty)).before a0 Z = true) (had : "[" ++ (newarray.typeOf aty).toString = ad) (hdv : defaultValue (newarray.typeOf aty) = .int 0) (hn : n.toInt = (N : Int)) (hb1 : N * 8 ≤ 536870912) (hc : ce + 1 ≤ R.cells) (hl : sl + N ≤ R.slots) (hp : pc + 2 = pc')
    (K : ∀ h' a, a = h.size → a ∉ mine → h0.size ≤ a → Ext h h' → ArI Z h' a (newarray.typeOf aty) (List.replicate N 0) → Exa Z h' a ad → WP own code maxL ret nm R Z L h0 ws mine0 Q (a :: mine) (ce + 1) (sl + N) h' pc' Ls (.ref a :: rest)) : WP own code maxL ret nm R Z L h0 ws mine0 Q mine ce sl h pc Ls (.int n :: rest) := by
  intro p l e s m args below meth c B T locs X hT
  subst hp
  obtain ⟨T', h', cA, Y, eT, E, A, Ex, st⟩ := newPE X.1 B.1 X.warm w hT (g := mkF m pc Ls.toArray (.int n :: rest)) rfl (hb B.2.1 hd) rfl (by rw [Int32.lt_iff_toInt_lt, hn]; simp) (cap := N) (by rw [nat_clamp hn]; exact Nat.le_refl _) hb1 hc hl had
  subst hT
  subst eT
  have A' : ArI Z T'.heap T.heap.size (newarray.typeOf aty) (List.replicate N 0) := ⟨_, A, by simp [newA, nat_clamp hn, hdv], by simp; omega⟩
  refine (K _ _ rfl (fun hx => absurd (X.2.2.2.2.2.2.1 _ hx).2 (Nat.lt_irrefl _)) X.2.2.2.1.1 E A' Ex p l e s m args below meth c B T' _ (X.rebase Y X.2.2.1 E.1 (fun x c hc hx => E.2 _ _ hc) (fun x hx => ?_) (X.2.2.2.1.ext E)) rfl).step st
  rcases List.mem_cons.mp hx with rfl | hx
  · exact Or.inr ⟨Nat.le_refl _, A.lt⟩
  · exact Or.inl hx
theorem fitc {xs : List Int32} {cl : Cell} {ty : FieldType} (A : Arr Z h a cl ty) (r : cl.slots = (xs.map Value.int).toArray) (hf : ∀ x ∈ xs, fits ty (.int x) = true) : FitC Z cl := fun i v hv => by
  obtain ⟨hs, k, hk, comp, hkind⟩ := A.2.1
  rw [r] at hv
  have hv' : (xs.map Value.int)[i]? = some v := by simpa using hv
  obtain ⟨x, hx, rfl⟩ := List.mem_map.mp (List.mem_of_getElem? hv')
  simp [State.fitsSlot, State.slotType?, hk, hkind, hf x hx]
/-- clone of an array -/
theorem WP.clone {ad : String} {ty : FieldType} {xs : List Int32} {N : Nat} (w1 : (Jvm.Cond.methodLink own idx ⟨ad, "clone", "()Ljava/lang/Object;"⟩).before a0 Z = true) (w2 : (Jvm.Cond.sameMethod ad "java/lang/Object" "clone" "()Ljava/lang/Object;").before a0 Z = true) (w3 : (Jvm.Cond.native ⟨"java/lang/Object", "clone", "()Ljava/lang/Object;"⟩).before a0 Z = true)
    (w4 : (Jvm.Cond.instanceMethod ⟨"java/lang/Object", "clone", "()Ljava/lang/Object;"⟩).before a0 Z = true) (w5 : (Jvm.Cond.selects ad ⟨ad, "clone", "()Ljava/lang/Object;"⟩ ⟨"java/lang/Object", "clone", "()Ljava/lang/Object;"⟩).before a0 Z = true) (w6 : (Jvm.Cond.castable ad "java/lang/Cloneable").before a0 Z = true)
    (hd : decode code pc = .ok (.invokevirtual idx, 3)) (A : ArI Z h a ty xs) (E : Exa Z h a ad) (hfx : ∀ x ∈ xs, fits ty (.int x) = true) (hLs : Ls.length = maxL) (hf : 1 ≤ R.frames) {W : Nat} (hW : (rest.map fun v => v.category).sum ≤ W) (hlo : W + 14 ≤ R.locals) (hN : xs.length ≤ N) (hc : ce + 1 ≤ R.cells) (hl : sl + N ≤ R.slots) (hp : pc + 3 = pc')
    (K : ∀ h' b, b = h.size → b ∉ mine → h0.size ≤ b → Ext h h' → ArI Z h' b ty xs → Exa Z h' b ad → WP own code maxL ret nm R Z L h0 ws mine0 Q (b :: mine) (ce + 1) (sl + N) h' pc' Ls (.ref b :: rest)) : WP own code maxL ret nm R Z L h0 ws mine0 Q mine ce sl h pc Ls (.ref a :: rest) := by
  intro p l e s m args below meth c B T locs X hT
  subst hp
  obtain ⟨cl, A', r1, r2⟩ := A
  obtain ⟨T', h', Y, eT, E', A2, E2, st⟩ := cloneA X.1 B.1 X.warm (X.hown B) w1 w2 w3 w4 w5 w6 hT A' E (fitc A' r1 hfx) (g := mkF m pc Ls.toArray (.ref a :: rest)) rfl (by simp [hLs, B.2.2.1]) rfl (hb B.2.1 hd) hf (W := W) (by simpa using hW) hlo (cap := N) (by rw [r1]; simpa using hN) hc hl
  subst hT
  subst eT
  have A3 : ArI Z T'.heap T.heap.size ty xs := ⟨_, A2, r1, r2⟩
  refine (K _ _ rfl (fun hx => absurd (X.2.2.2.2.2.2.1 _ hx).2 (Nat.lt_irrefl _)) X.2.2.2.1.1 E' A3 E2 p l e s m args below meth c B T' _ (X.rebase Y X.2.2.1 E'.1 (fun x c hc hx => E'.2 _ _ hc) (fun x hx => ?_) (X.2.2.2.1.ext E')) rfl).step st
  rcases List.mem_cons.mp hx with rfl | hx
  · exact Or.inr ⟨Nat.le_refl _, A2.lt⟩
  · exact Or.inl hx
theorem lsw {tb : Tables} [Ours tb] {e : Env} {below : List Frame} {T target : State} {m : MethodId} {c : Code} {g : JFrame} (h : At T m c below) (hx : tb.exec = Jvm.exec) (hg : g.method = m) {dflt : Int} {pairs : Array (Int × Int)} {len : Nat} {o : Int} {pc0 pc' : Nat} (hpc : g.pc = pc0) (hd : decode c.code g.pc = .ok (.lookupswitch dflt pairs, len)) {i : Int32} {rest : List Value} (hs : g.stack = .int i :: rest)
    (hord : (pairs.toList.zip (pairs.toList.drop 1)).all (fun (a, next) => a.1 < next.1) = true) {k : Int} (hoff : pairs.find? (fun x => x.fst == i.toInt) = some (k, o)) (ho : 0 ≤ (pc0 : Int) + o) (hp : ((pc0 : Int) + o).toNat = pc')
    (hr : Steps tb e below (T.setTop { g with pc := pc', stack := rest }) target) : Steps tb e below (T.setTop g) target := by
  subst hg hpc hp
  jvm_step h [h.top, hx, hd, hs, hoff, ho, lookupswitch.wp_whole]
  exact ⟨by simpa using hord, hr⟩
theorem WP.lsw {dflt : Int} {pairs : Array (Int × Int)} {len : Nat} {o : Int} {i : Int32} (hd : decode code pc = .ok (.lookupswitch dflt pairs, len)) (hord : (pairs.toList.zip (pairs.toList.drop 1)).all (fun (a, next) => a.1 < next.1) = true) {k : Int} (hoff : pairs.find? (fun x => x.fst == i.toInt) = some (k, o)) (ho : 0 ≤ (pc : Int) + o) (hp : ((pc : Int) + o).toNat = pc')
    (K : WP own code maxL ret nm R Z L h0 ws mine0 Q mine ce sl h pc' Ls rest) : WP own code maxL ret nm R Z L h0 ws mine0 Q mine ce sl h pc Ls (.int i :: rest) :=
  K.pure1 fun p e below T m c t h hx hc hr => Jvm.OwnW.lsw h hx rfl rfl (hb hc hd) rfl hord hoff ho hp hr
end More
end Jvm.OwnW
namespace Jvm.Pilot.@@N@@
open Jvm Jvm.ClassFile Sem Op Lib Jvm.Free Jvm.Stand Jvm.LawKit Jvm.RoadKit Bundle Jvm.Pilot.@@N@@.Jvm.D Jvm.OwnW
def LT : Lits := [("java/lang/String", 7, ""), ("com/example/causeway_health/causewayhealth/convert/Delimiters", 99, "FSTRE")]
theorem pdx0 : parseMethodDescriptor "(I)I" = some ⟨[.int], some .int⟩ := by decide +kernel
theorem pdx1 : parseMethodDescriptor "([BII)V" = some ⟨[(.array .byte), .int, .int], none⟩ := by decide +kernel
theorem pdx2 : parseMethodDescriptor "(I)[B" = some ⟨[.int], some (.array .byte)⟩ := by decide +kernel
theorem pdx3 : parseMethodDescriptor "([CI[BII)I" = some ⟨[(.array .char), .int, (.array .byte), .int, .int], some .int⟩ := by decide +kernel
theorem pdx4 : parseMethodDescriptor "([CII)[B" = some ⟨[(.array .char), .int, .int], some (.array .byte)⟩ := by decide +kernel
theorem pdx5 : parseMethodDescriptor "([BI)C" = some ⟨[(.array .byte), .int], some .char⟩ := by decide +kernel
theorem pdx6 : parseMethodDescriptor "([BI)B" = some ⟨[(.array .byte), .int], some .byte⟩ := by decide +kernel
theorem pdx7 : parseMethodDescriptor "([CIILjava/lang/Void;)V" = some ⟨[(.array .char), .int, .int, (.object "java/lang/Void")], none⟩ := by decide +kernel
theorem atoms {Z : State} {a0 : Array Value} (hw : ∀ d ∈ tables_1, d.before a0 Z = true) : ∀ a ∈ Bundle.stringAtoms, a.before a0 Z = true := by
  intro a ha
  simp only [Bundle.stringAtoms, Bundle.sN, List.mem_cons, List.not_mem_nil, or_false] at ha
  rcases ha with rfl | rfl | rfl | rfl | rfl | rfl | rfl
  all_goals first | exact (hw _ (List.mem_of_getElem? (i := 6) rfl)) | exact (hw _ (List.mem_of_getElem? (i := 7) rfl)) | exact (hw _ (List.mem_of_getElem? (i := 20) rfl)) | exact (hw _ (List.mem_of_getElem? (i := 21) rfl)) | exact (hw _ (List.mem_of_getElem? (i := 22) rfl)) | exact (hw _ (List.mem_of_getElem? (i := 23) rfl)) | exact (hw _ (List.mem_of_getElem? (i := 24) rfl))
def Compact (Z : State) (cz : Int32) : Prop := Sta Z Z.heap "java/lang/String" "COMPACT_STRINGS" "Z" (.int cz) ∧ ¬ cz = 0
def U16 (Z : State) : Prop := Sta Z Z.heap "java/lang/StringUTF16" "$assertionsDisabled" "Z" (.int 1) ∧ Sta Z Z.heap "java/lang/StringUTF16" "HI_BYTE_SHIFT" "I" (.int 0) ∧ Sta Z Z.heap "java/lang/StringUTF16" "LO_BYTE_SHIFT" "I" (.int 8)
abbrev HuA (Z : State) (us : List UInt16) : Prop := U16 Z
abbrev Hu (Z : State) (us : List UInt16) : Prop := HuA Z us
theorem Hu.a {Z : State} {us : List UInt16} (h : Hu Z us) : HuA Z us := h
def cu (x : Int32) : UInt16 := x.toUInt32.toUInt16
theorem lat_cu (a : Int32) : cu (a &&& 255) < 256 := by
  have m := c_mask a 255 8 (by decide) (by decide)
  have e := chv_toInt (cu (a &&& 255))
  have q := c_i2c (a &&& 255)
  rw [show ((a &&& 255).toUInt32.toUInt16.toUInt32.toInt32) = chv (cu (a &&& 255)) from rfl] at q
  rw [UInt16.lt_iff_toNat_lt]
  show _ < 256
  omega
abbrev R0 : Room := { frames := 0, cells := 0, slots := 0, locals := 0 }
section JdkStr
variable {Z : State} {a0 : Array Value} {h : Heap} {mine : List Addr}

theorem dCP5_0 : decode jdk_52_method_21_code 0 = .ok (.iconst 0, 1) := by decide +kernel
theorem dCP5_1 : decode jdk_52_method_21_code 1 = .ok (.istore 5, 2) := by decide +kernel
theorem dCP5_3 : decode jdk_52_method_21_code 3 = .ok (.iload 5, 2) := by decide +kernel
theorem dCP5_5 : decode jdk_52_method_21_code 5 = .ok (.iload 4, 2) := by decide +kernel
theorem dCP5_7 : decode jdk_52_method_21_code 7 = .ok (.if_icmp .ge 37, 3) := by decide +kernel
theorem dCP5_10 : decode jdk_52_method_21_code 10 = .ok (.aload_n 0, 1) := by decide +kernel
theorem dCP5_11 : decode jdk_52_method_21_code 11 = .ok (.iload_n 1, 1) := by decide +kernel
theorem dCP5_12 : decode jdk_52_method_21_code 12 = .ok (.caload, 1) := by decide +kernel
theorem dCP5_13 : decode jdk_52_method_21_code 13 = .ok (.istore 6, 2) := by decide +kernel
theorem dCP5_15 : decode jdk_52_method_21_code 15 = .ok (.iload 6, 2) := by decide +kernel
theorem dCP5_17 : decode jdk_52_method_21_code 17 = .ok (.sipush 255, 3) := by decide +kernel
theorem dCP5_20 : decode jdk_52_method_21_code 20 = .ok (.if_icmp .le 6, 3) := by decide +kernel
theorem dCP5_23 : decode jdk_52_method_21_code 23 = .ok (.iload 5, 2) := by decide +kernel
theorem dCP5_25 : decode jdk_52_method_21_code 25 = .ok (.ireturn, 1) := by decide +kernel
theorem dCP5_26 : decode jdk_52_method_21_code 26 = .ok (.aload_n 2, 1) := by decide +kernel
theorem dCP5_27 : decode jdk_52_method_21_code 27 = .ok (.iload_n 3, 1) := by decide +kernel
theorem dCP5_28 : decode jdk_52_method_21_code 28 = .ok (.iload 6, 2) := by decide +kernel
theorem dCP5_30 : decode jdk_52_method_21_code 30 = .ok (.i2b, 1) := by decide +kernel
theorem dCP5_31 : decode jdk_52_method_21_code 31 = .ok (.bastore, 1) := by decide +kernel
theorem dCP5_32 : decode jdk_52_method_21_code 32 = .ok (.iinc 1 1, 3) := by decide +kernel
theorem dCP5_35 : decode jdk_52_method_21_code 35 = .ok (.iinc 3 1, 3) := by decide +kernel
theorem dCP5_38 : decode jdk_52_method_21_code 38 = .ok (.iinc 5 1, 3) := by decide +kernel
theorem dCP5_41 : decode jdk_52_method_21_code 41 = .ok (.goto (-38), 3) := by decide +kernel
theorem dCP5_44 : decode jdk_52_method_21_code 44 = .ok (.iload 4, 2) := by decide +kernel
theorem dCP5_46 : decode jdk_52_method_21_code 46 = .ok (.ireturn, 1) := by decide +kernel
theorem pnCP5 : plainFor (⟨"java/lang/StringUTF16", "compress", "([CI[BII)I"⟩ : MethodName) = true := plainFor_of_name (by first | (simp [plainName, overriddenIn]; done) | decide +kernel)
set_option maxRecDepth 65536 in
set_option maxHeartbeats 40000000 in
theorem loop_CP5 {us : List UInt16} {xs : List Int32} {b d : Addr} {bs : List Int32} {off : Nat} (hx : xs.length = us.length) (hsub : SubC bs off us) (hbl : bs.length < 2 ^ 31) (hn : us.length < 2 ^ 31) (hm : d ∈ mine) (hbd : b ≠ d) :
    ∀ (r i : Nat), i + r = us.length → ∀ (h' : Heap) (o : Slot), one (some o) = true → ArI Z h' b .char bs → ArI Z h' d .byte ((us.take i).map lo8 ++ xs.drop i) → (∀ (j : Nat) (u : UInt16), j < i → us[j]? = some u → u < 256) →
    WP "java/lang/StringUTF16" jdk_52_method_21_code 7 (some .int) "compress" R0 Z LT h [d] mine (fun v h' nw => nw = [] ∧ ((lat us = true ∧ v = some (.int (Int32.ofNat us.length)) ∧ ArI Z h' d .byte (us.map lo8)) ∨ (lat us = false ∧ ∃ (k : Nat) (u : UInt16), us[k]? = some u ∧ ¬ u < 256 ∧ v = some (.int (Int32.ofNat k))))) mine 0 0 h' 3 [.val (.ref b), .val (.int (Int32.ofNat (off + i))), .val (.ref d), .val (.int (Int32.ofNat i)), .val (.int (Int32.ofNat us.length)), .val (.int (Int32.ofNat i)), o] [] := by
  intro r
  induction r with
  | zero =>
    intro i hi h' o ho A D hlt
    obtain rfl : i = us.length := by omega
    refine WP.iload (pc' := 5) dCP5_3 rfl rfl ?_
    refine WP.iload (pc' := 7) dCP5_5 rfl rfl ?_
    refine WP.icmpT (pc' := 44) dCP5_7 (by decide) (by decide) (fun q => Nat.lt_irrefl _ ((n32_lt hn hn).mp q)) ?_
    refine WP.iload (pc' := 46) dCP5_44 rfl rfl ?_
    refine WP.ireturn dCP5_46 rfl (Or.inl rfl) rfl ⟨rfl, Or.inl ⟨(lat_iff us).mpr fun j u hu => hlt j u (List.getElem?_eq_some_iff.mp hu).1 hu, rfl, ?_⟩⟩ (fun _ hx => nomatch hx) (fun _ hx => hx) (Nat.le_refl _) (Nat.le_refl _)
    have e : (us.take us.length).map lo8 ++ xs.drop us.length = us.map lo8 := by rw [List.take_length, ← hx, List.drop_length, List.append_nil]
    rw [e] at D; exact D
  | succ r ih =>
    intro i hi h' o ho A D hlt
    have hil : i < us.length := by omega
    obtain ⟨u, hu⟩ : ∃ u, us[i]? = some u := ⟨us[i], List.getElem?_eq_getElem hil⟩
    have hi31 : i < 2 ^ 31 := by omega
    have hoff := hsub.1
    refine WP.iload (pc' := 5) dCP5_3 rfl rfl ?_
    refine WP.iload (pc' := 7) dCP5_5 rfl rfl ?_
    refine WP.icmpF (pc' := 10) dCP5_7 rfl ((n32_lt hi31 hn).mpr hil) ?_
    refine WP.aloadN (pc' := 11) dCP5_10 rfl rfl rfl ?_
    refine WP.iloadN (pc' := 12) dCP5_11 rfl rfl ?_
    refine WP.caload (pc' := 13) dCP5_12 A (n32_toInt (by omega)) (x := chv u) (hsub.2 i u hu) rfl ?_
    refine WP.istore (pc' := 15) dCP5_13 ho rfl rfl ?_
    dsimp only [List.set]
    refine WP.iload (pc' := 17) dCP5_15 rfl rfl ?_
    refine WP.sipush (pc' := 20) (x := 255) dCP5_17 (by decide) rfl ?_
    by_cases h256 : u < 256
    · refine WP.icmpT (pc' := 26) dCP5_20 (by decide) (by decide) (fun q => (chv_gt u).mp q h256) ?_
      refine WP.aloadN (pc' := 27) dCP5_26 rfl rfl rfl ?_
      refine WP.iloadN (pc' := 28) dCP5_27 rfl rfl ?_
      refine WP.iload (pc' := 30) dCP5_28 rfl rfl ?_
      refine WP.i2b (pc' := 31) dCP5_30 rfl ?_
      refine WP.bastore (pc' := 32) dCP5_31 D (n32_toInt hi31) (by simp; omega) hm (Or.inl (List.mem_singleton.mpr rfl)) rfl ?_
      intro h2 W D2
      refine WP.iinc (pc' := 35) dCP5_32 rfl rfl rfl rfl ?_
      dsimp only [List.set]
      refine WP.iinc (pc' := 38) dCP5_35 rfl rfl rfl rfl ?_
      dsimp only [List.set]
      refine WP.iinc (pc' := 41) dCP5_38 rfl rfl rfl rfl ?_
      dsimp only [List.set]
      refine WP.goto (pc' := 3) dCP5_41 (by decide) (by decide) ?_
      have e1 : nar .byte ((chv u).toInt8.toInt32) = lo8 u := by rw [nar_i2b]; exact chv_lo8 u
      rw [e1, take_set (by simp; omega) (by simp; omega), List.drop_drop] at D2
      have e2 : (us.take (i + 1)).map lo8 ++ xs.drop (i + 1) = (us.take i).map lo8 ++ lo8 u :: xs.drop (i + 1) := by rw [take_succ' hu]; simp
      rw [show Int32.ofNat i + Int32.ofInt 1 = Int32.ofNat (i + 1) from n32_succ i, show Int32.ofNat (off + i) + Int32.ofInt 1 = Int32.ofNat (off + (i + 1)) from n32_succ (off + i)]
      refine ih (i + 1) (by omega) h2 _ rfl (A.other W hbd) (by rw [e2]; exact D2) fun j v hj hv => ?_
      rcases Nat.lt_succ_iff_lt_or_eq.mp hj with q | rfl
      · exact hlt j v q hv
      · cases hu.symm.trans hv; exact h256
    · refine WP.icmpF (pc' := 23) dCP5_20 rfl ((chv_gt u).mpr h256) ?_
      refine WP.iload (pc' := 25) dCP5_23 rfl rfl ?_
      refine WP.ireturn dCP5_25 rfl (Or.inl rfl) rfl ⟨rfl, Or.inr ⟨?_, i, u, hu, h256, rfl⟩⟩ (fun _ hx => nomatch hx) (fun _ hx => hx) (Nat.le_refl _) (Nat.le_refl _)
      exact Bool.eq_false_iff.mpr fun q => h256 ((lat_iff us).mp q i u hu)

set_option maxRecDepth 65536 in
set_option maxHeartbeats 40000000 in
theorem con_CP5 {us : List UInt16} {xs bs : List Int32} {off : Nat} {b d : Addr} (hsub : SubC bs off us) (A : ArI Z h b .char bs) (D : ArI Z h d .byte xs) (hx : xs.length = us.length) (hm : d ∈ mine) :
    Con (⟨"java/lang/StringUTF16", "compress", "([CI[BII)I"⟩ : MethodName) jdk_52_method_21_code 7 (some .int) R0 Z LT [] #[.ref b, .int (Int32.ofNat off), .ref d, .int 0, .int (Int32.ofNat us.length)] h [d] mine (fun v h' nw => nw = [] ∧ ((lat us = true ∧ v = some (.int (Int32.ofNat us.length)) ∧ ArI Z h' d .byte (us.map lo8)) ∨ (lat us = false ∧ ∃ (k : Nat) (u : UInt16), us[k]? = some u ∧ ¬ u < 256 ∧ v = some (.int (Int32.ofNat k))))) := by
  refine Con.of pnCP5 (Ls := [.val (.ref b), .val (.int (Int32.ofNat off)), .val (.ref d), .val (.int 0), .val (.int (Int32.ofNat us.length)), .unset, .unset]) (fun m => by first | (simp [entryFrame, mkF, argsToLocals, Value.category]; done) | (simp [entryFrame, mkF, argsToLocals, Value.category, maxLocals]; done) | rfl) ?_
  refine WP.iconst (pc' := 1) (x := 0) dCP5_0 (by decide) rfl ?_
  refine WP.istore (pc' := 3) dCP5_1 rfl rfl rfl ?_
  dsimp only [List.set]
  have hn : us.length < 2 ^ 31 := by have := A.len; have := hsub.1; omega
  exact loop_CP5 hx hsub A.len hn hm (A.ne D (by decide)) us.length 0 (by omega) h .unset rfl A (by simpa using D) (fun j u hj => absurd hj (Nat.not_lt_zero _))
theorem dNBL_0 : decode jdk_52_method_3_code 0 = .ok (.iload_n 0, 1) := by decide +kernel
theorem dNBL_1 : decode jdk_52_method_3_code 1 = .ok (.ifCond .ge 11, 3) := by decide +kernel
theorem dNBL_4 : decode jdk_52_method_3_code 4 = .ok (.new 17, 3) := by decide +kernel
theorem dNBL_7 : decode jdk_52_method_3_code 7 = .ok (.dup, 1) := by decide +kernel
theorem dNBL_8 : decode jdk_52_method_3_code 8 = .ok (.invokespecial 19, 3) := by decide +kernel
theorem dNBL_11 : decode jdk_52_method_3_code 11 = .ok (.athrow, 1) := by decide +kernel
theorem dNBL_12 : decode jdk_52_method_3_code 12 = .ok (.iload_n 0, 1) := by decide +kernel
theorem dNBL_13 : decode jdk_52_method_3_code 13 = .ok (.ldc 20, 2) := by decide +kernel
theorem dNBL_15 : decode jdk_52_method_3_code 15 = .ok (.if_icmp .lt 40, 3) := by decide +kernel
theorem dNBL_18 : decode jdk_52_method_3_code 18 = .ok (.new 21, 3) := by decide +kernel
theorem dNBL_21 : decode jdk_52_method_3_code 21 = .ok (.dup, 1) := by decide +kernel
theorem dNBL_22 : decode jdk_52_method_3_code 22 = .ok (.new 23, 3) := by decide +kernel
theorem dNBL_25 : decode jdk_52_method_3_code 25 = .ok (.dup, 1) := by decide +kernel
theorem dNBL_26 : decode jdk_52_method_3_code 26 = .ok (.invokespecial 25, 3) := by decide +kernel
theorem dNBL_29 : decode jdk_52_method_3_code 29 = .ok (.ldc 26, 2) := by decide +kernel
theorem dNBL_31 : decode jdk_52_method_3_code 31 = .ok (.invokevirtual 28, 3) := by decide +kernel
theorem dNBL_34 : decode jdk_52_method_3_code 34 = .ok (.iload_n 0, 1) := by decide +kernel
theorem dNBL_35 : decode jdk_52_method_3_code 35 = .ok (.invokevirtual 32, 3) := by decide +kernel
theorem dNBL_38 : decode jdk_52_method_3_code 38 = .ok (.ldc 35, 2) := by decide +kernel
theorem dNBL_40 : decode jdk_52_method_3_code 40 = .ok (.invokevirtual 28, 3) := by decide +kernel
theorem dNBL_43 : decode jdk_52_method_3_code 43 = .ok (.ldc 20, 2) := by decide +kernel
theorem dNBL_45 : decode jdk_52_method_3_code 45 = .ok (.invokevirtual 32, 3) := by decide +kernel
theorem dNBL_48 : decode jdk_52_method_3_code 48 = .ok (.invokevirtual 37, 3) := by decide +kernel
theorem dNBL_51 : decode jdk_52_method_3_code 51 = .ok (.invokespecial 41, 3) := by decide +kernel
theorem dNBL_54 : decode jdk_52_method_3_code 54 = .ok (.athrow, 1) := by decide +kernel
theorem dNBL_55 : decode jdk_52_method_3_code 55 = .ok (.iload_n 0, 1) := by decide +kernel
theorem dNBL_56 : decode jdk_52_method_3_code 56 = .ok (.iconst 1, 1) := by decide +kernel
theorem dNBL_57 : decode jdk_52_method_3_code 57 = .ok (.ishl, 1) := by decide +kernel
theorem dNBL_58 : decode jdk_52_method_3_code 58 = .ok (.ireturn, 1) := by decide +kernel
theorem pnNBL : plainFor (⟨"java/lang/StringUTF16", "newBytesLength", "(I)I"⟩ : MethodName) = true := plainFor_of_name (by first | (simp [plainName, overriddenIn]; done) | decide +kernel)
set_option maxRecDepth 65536 in
set_option maxHeartbeats 40000000 in
theorem con_NBL (hw : ∀ d ∈ tables_1, d.before a0 Z = true) {n : Nat} (hn : n < 1073741823) : Con (⟨"java/lang/StringUTF16", "newBytesLength", "(I)I"⟩ : MethodName) jdk_52_method_3_code 1 (some .int) R0 Z LT [] #[.int (Int32.ofNat n)] h [] mine (fun v h' nw => nw = [] ∧ v = some (.int (Int32.ofNat (2 * n))) ∧ h' = h) := by
  refine Con.of pnNBL (Ls := [.val (.int (Int32.ofNat n))]) (fun m => by first | (simp [entryFrame, mkF, argsToLocals, Value.category]; done) | (simp [entryFrame, mkF, argsToLocals, Value.category, maxLocals]; done) | rfl) ?_
  refine WP.iloadN (pc' := 1) dNBL_0 rfl rfl ?_
  refine WP.ifT (pc' := 12) dNBL_1 (by decide) (by decide) (fun q => by rw [Int32.lt_iff_toInt_lt, n32_toInt (by omega)] at q; simp at q; omega) ?_
  refine WP.iloadN (pc' := 13) dNBL_12 rfl rfl ?_
  refine WP.ldcInt (pc' := 15) dNBL_13 (hw _ (List.mem_of_getElem? (i := 249) rfl)) rfl ?_
  refine WP.icmpT (pc' := 55) dNBL_15 (by decide) (by decide) (show _ < _ by rw [Int32.lt_iff_toInt_lt, n32_toInt (by omega)]; show (n : Int) < 1073741823; omega) ?_
  refine WP.iloadN (pc' := 56) dNBL_55 rfl rfl ?_
  refine WP.iconst (pc' := 57) (x := 1) dNBL_56 (by decide) rfl ?_
  refine WP.ishl (pc' := 58) dNBL_57 rfl ?_
  rw [n32_shl1 (by omega)]
  exact WP.ireturn dNBL_58 rfl (Or.inl rfl) rfl ⟨rfl, rfl, rfl⟩ (fun _ hx => nomatch hx) (fun _ hx => hx) (Nat.le_refl _) (Nat.le_refl _)
theorem dNBF_0 : decode jdk_52_method_2_code 0 = .ok (.iload_n 0, 1) := by decide +kernel
theorem dNBF_1 : decode jdk_52_method_2_code 1 = .ok (.invokestatic 11, 3) := by decide +kernel
theorem dNBF_4 : decode jdk_52_method_2_code 4 = .ok (.newarray .byte, 2) := by decide +kernel
theorem dNBF_6 : decode jdk_52_method_2_code 6 = .ok (.areturn, 1) := by decide +kernel
theorem pnNBF : plainFor (⟨"java/lang/StringUTF16", "newBytesFor", "(I)[B"⟩ : MethodName) = true := plainFor_of_name (by first | (simp [plainName, overriddenIn]; done) | decide +kernel)
set_option maxRecDepth 65536 in
set_option maxHeartbeats 40000000 in
theorem con_NBF (hw : ∀ d ∈ tables_1, d.before a0 Z = true) {n : Nat} (hn : n ≤ 33554432) : Con (⟨"java/lang/StringUTF16", "newBytesFor", "(I)[B"⟩ : MethodName) jdk_52_method_2_code 1 (some (.array .byte)) { frames := 1, cells := 1, slots := 2 * n, locals := 12 } Z LT [] #[.int (Int32.ofNat n)] h [] mine (fun v h' nw => ∃ t, v = some (.ref t) ∧ nw = [t] ∧ t = h.size ∧ Ext h h' ∧ ArI Z h' t .byte (List.replicate (2 * n) 0)) := by
  refine Con.of pnNBF (Ls := [.val (.int (Int32.ofNat n))]) (fun m => by first | (simp [entryFrame, mkF, argsToLocals, Value.category]; done) | (simp [entryFrame, mkF, argsToLocals, Value.category, maxLocals]; done) | rfl) ?_
  refine WP.iloadN (pc' := 1) dNBF_0 rfl rfl ?_
  refine WP.callS (pc' := 4) (con_NBL hw (by omega)) (hw _ (List.mem_of_getElem? (i := 246) rfl)) (hw _ (List.mem_of_getElem? (i := 247) rfl)) (hw _ (List.mem_of_getElem? (i := 152) rfl)) (hw _ (List.mem_of_getElem? (i := 248) rfl)) dNBF_1 (by decide) pdx0 rfl rfl rfl (by first | exact Nat.le_of_ble_eq_true rfl | omega | (simp; done) | (simp; omega) | (dsimp only; omega)) (by first | exact Nat.le_of_ble_eq_true rfl | omega | (simp; done) | (simp; omega) | (dsimp only; omega)) (by first | exact Nat.le_of_ble_eq_true rfl | omega | (simp; done) | (simp; omega) | (dsimp only; omega)) (by first | exact Nat.le_of_ble_eq_true rfl | omega | (simp; done) | (simp; omega) | (dsimp only; omega)) (fun _ hx => nomatch hx) rfl ?_
  rintro v h' nw K1 hnw ⟨rfl, rfl, rfl⟩
  dsimp only [Option.toList, List.cons_append, List.nil_append]
  refine WP.newarray (pc' := 6) (N := (2 * n)) dNBF_4 (hw _ (List.mem_of_getElem? (i := 20) rfl)) rfl (n32_toInt (by omega)) (by first | exact Nat.le_of_ble_eq_true rfl | omega | (simp; done) | (simp; omega) | (dsimp only; omega)) (by first | exact Nat.le_of_ble_eq_true rfl | omega | (simp; done) | (simp; omega) | (dsimp only; omega)) (by first | exact Nat.le_of_ble_eq_true rfl | omega | (simp; done) | (simp; omega) | (dsimp only; omega)) rfl ?_
  intro h2 t ht htm ht0 E A
  refine WP.areturn dNBF_6 rfl rfl rfl ⟨t, rfl, rfl, ht, E, A⟩ (fun x hx => ?_) (fun x hx => List.mem_cons_of_mem _ hx) (by dsimp only; omega) (by dsimp only; omega)
  cases List.mem_singleton.mp hx
  exact ⟨List.mem_cons_self .., ht0⟩
theorem dPC_0 : decode jdk_52_method_4_code 0 = .ok (.getstatic 44, 3) := by decide +kernel
theorem dPC_3 : decode jdk_52_method_4_code 3 = .ok (.ifCond .ne 25, 3) := by decide +kernel
theorem dPC_6 : decode jdk_52_method_4_code 6 = .ok (.iload_n 1, 1) := by decide +kernel
theorem dPC_7 : decode jdk_52_method_4_code 7 = .ok (.ifCond .lt 11, 3) := by decide +kernel
theorem dPC_10 : decode jdk_52_method_4_code 10 = .ok (.iload_n 1, 1) := by decide +kernel
theorem dPC_11 : decode jdk_52_method_4_code 11 = .ok (.aload_n 0, 1) := by decide +kernel
theorem dPC_12 : decode jdk_52_method_4_code 12 = .ok (.invokestatic 48, 3) := by decide +kernel
theorem dPC_15 : decode jdk_52_method_4_code 15 = .ok (.if_icmp .lt 13, 3) := by decide +kernel
theorem dPC_18 : decode jdk_52_method_4_code 18 = .ok (.new 52, 3) := by decide +kernel
theorem dPC_21 : decode jdk_52_method_4_code 21 = .ok (.dup, 1) := by decide +kernel
theorem dPC_22 : decode jdk_52_method_4_code 22 = .ok (.ldc 54, 2) := by decide +kernel
theorem dPC_24 : decode jdk_52_method_4_code 24 = .ok (.invokespecial 56, 3) := by decide +kernel
theorem dPC_27 : decode jdk_52_method_4_code 27 = .ok (.athrow, 1) := by decide +kernel
theorem dPC_28 : decode jdk_52_method_4_code 28 = .ok (.iload_n 1, 1) := by decide +kernel
theorem dPC_29 : decode jdk_52_method_4_code 29 = .ok (.iconst 1, 1) := by decide +kernel
theorem dPC_30 : decode jdk_52_method_4_code 30 = .ok (.ishl, 1) := by decide +kernel
theorem dPC_31 : decode jdk_52_method_4_code 31 = .ok (.istore_n 1, 1) := by decide +kernel
theorem dPC_32 : decode jdk_52_method_4_code 32 = .ok (.aload_n 0, 1) := by decide +kernel
theorem dPC_33 : decode jdk_52_method_4_code 33 = .ok (.iload_n 1, 1) := by decide +kernel
theorem dPC_34 : decode jdk_52_method_4_code 34 = .ok (.iinc 1 1, 3) := by decide +kernel
theorem dPC_37 : decode jdk_52_method_4_code 37 = .ok (.iload_n 2, 1) := by decide +kernel
theorem dPC_38 : decode jdk_52_method_4_code 38 = .ok (.getstatic 59, 3) := by decide +kernel
theorem dPC_41 : decode jdk_52_method_4_code 41 = .ok (.ishr, 1) := by decide +kernel
theorem dPC_42 : decode jdk_52_method_4_code 42 = .ok (.i2b, 1) := by decide +kernel
theorem dPC_43 : decode jdk_52_method_4_code 43 = .ok (.bastore, 1) := by decide +kernel
theorem dPC_44 : decode jdk_52_method_4_code 44 = .ok (.aload_n 0, 1) := by decide +kernel
theorem dPC_45 : decode jdk_52_method_4_code 45 = .ok (.iload_n 1, 1) := by decide +kernel
theorem dPC_46 : decode jdk_52_method_4_code 46 = .ok (.iload_n 2, 1) := by decide +kernel
theorem dPC_47 : decode jdk_52_method_4_code 47 = .ok (.getstatic 63, 3) := by decide +kernel
theorem dPC_50 : decode jdk_52_method_4_code 50 = .ok (.ishr, 1) := by decide +kernel
theorem dPC_51 : decode jdk_52_method_4_code 51 = .ok (.i2b, 1) := by decide +kernel
theorem dPC_52 : decode jdk_52_method_4_code 52 = .ok (.bastore, 1) := by decide +kernel
theorem dPC_53 : decode jdk_52_method_4_code 53 = .ok (.return_, 1) := by decide +kernel
theorem pnPC : plainFor (⟨"java/lang/StringUTF16", "putChar", "([BII)V"⟩ : MethodName) = true := plainFor_of_name (by first | (simp [plainName, overriddenIn]; done) | decide +kernel)
set_option maxRecDepth 65536 in
set_option maxHeartbeats 40000000 in
theorem con_PC (hw : ∀ d ∈ tables_1, d.before a0 Z = true) (hu : U16 Z) {d : Addr} {xs : List Int32} {i : Nat} {u : UInt16} (D : ArI Z h d .byte xs) (hi : 2 * i + 1 < xs.length) (hm : d ∈ mine) : Con (⟨"java/lang/StringUTF16", "putChar", "([BII)V"⟩ : MethodName) jdk_52_method_4_code 3 none R0 Z LT [] #[.ref d, .int (Int32.ofNat i), .int (chv u)] h [d] mine (fun v h' nw => nw = [] ∧ v = none ∧ ArI Z h' d .byte ((xs.set (2 * i) (lo8 u)).set (2 * i + 1) (hi8 u))) := by
  have hl := D.len
  refine Con.of pnPC (Ls := [.val (.ref d), .val (.int (Int32.ofNat i)), .val (.int (chv u))]) (fun m => by first | (simp [entryFrame, mkF, argsToLocals, Value.category]; done) | (simp [entryFrame, mkF, argsToLocals, Value.category, maxLocals]; done) | rfl) ?_
  refine WP.getstatic (pc' := 3) (host := "") dPC_0 (Or.inl (hw _ (List.mem_of_getElem? (i := 253) rfl))) Via.refl hu.1 rfl ?_
  refine WP.ifT (pc' := 28) dPC_3 (by decide) (by decide) (show ¬ (1 : Int32) = 0 by decide) ?_
  refine WP.iloadN (pc' := 29) dPC_28 rfl rfl ?_
  refine WP.iconst (pc' := 30) (x := 1) dPC_29 (by decide) rfl ?_
  refine WP.ishl (pc' := 31) dPC_30 rfl ?_
  rw [n32_shl1 (by omega)]
  refine WP.istoreN (pc' := 32) dPC_31 rfl rfl rfl ?_
  dsimp only [List.set]
  refine WP.aloadN (pc' := 33) dPC_32 rfl rfl rfl ?_
  refine WP.iloadN (pc' := 34) dPC_33 rfl rfl ?_
  refine WP.iinc (pc' := 37) dPC_34 rfl rfl rfl rfl ?_
  dsimp only [List.set]
  refine WP.iloadN (pc' := 38) dPC_37 rfl rfl ?_
  rw [show Int32.ofNat (2 * i) + Int32.ofInt 1 = Int32.ofNat (2 * i + 1) from n32_succ _]
  refine WP.getstatic (pc' := 41) (host := "") dPC_38 (Or.inl (hw _ (List.mem_of_getElem? (i := 254) rfl))) Via.refl hu.2.1 rfl ?_
  refine WP.ishr (pc' := 42) dPC_41 rfl ?_
  refine WP.i2b (pc' := 43) dPC_42 rfl ?_
  refine WP.bastore (pc' := 44) dPC_43 D (n32_toInt (by omega)) (by omega) hm (Or.inl (List.mem_singleton.mpr rfl)) rfl ?_
  intro h2 W D2
  refine WP.aloadN (pc' := 45) dPC_44 rfl rfl rfl ?_
  refine WP.iloadN (pc' := 46) dPC_45 rfl rfl ?_
  refine WP.iloadN (pc' := 47) dPC_46 rfl rfl ?_
  refine WP.getstatic (pc' := 50) (host := "") dPC_47 (Or.inl (hw _ (List.mem_of_getElem? (i := 255) rfl))) Via.refl hu.2.2 rfl ?_
  refine WP.ishr (pc' := 51) dPC_50 rfl ?_
  refine WP.i2b (pc' := 52) dPC_51 rfl ?_
  refine WP.bastore (pc' := 53) dPC_52 D2 (n32_toInt (by omega)) (by simp; omega) hm (Or.inl (List.mem_singleton.mpr rfl)) rfl ?_
  intro h3 W3 D3
  rw [nar_i2b, nar_i2b, chv_shr0, ← hi8_chv] at D3
  exact WP.vret dPC_53 rfl ⟨rfl, rfl, D3⟩ (fun _ hx => nomatch hx) (fun _ hx => hx) (Nat.le_refl _) (Nat.le_refl _)
theorem dGC_0 : decode jdk_52_method_5_code 0 = .ok (.getstatic 44, 3) := by decide +kernel
theorem dGC_3 : decode jdk_52_method_5_code 3 = .ok (.ifCond .ne 25, 3) := by decide +kernel
theorem dGC_6 : decode jdk_52_method_5_code 6 = .ok (.iload_n 1, 1) := by decide +kernel
theorem dGC_7 : decode jdk_52_method_5_code 7 = .ok (.ifCond .lt 11, 3) := by decide +kernel
theorem dGC_10 : decode jdk_52_method_5_code 10 = .ok (.iload_n 1, 1) := by decide +kernel
theorem dGC_11 : decode jdk_52_method_5_code 11 = .ok (.aload_n 0, 1) := by decide +kernel
theorem dGC_12 : decode jdk_52_method_5_code 12 = .ok (.invokestatic 48, 3) := by decide +kernel
theorem dGC_15 : decode jdk_52_method_5_code 15 = .ok (.if_icmp .lt 13, 3) := by decide +kernel
theorem dGC_18 : decode jdk_52_method_5_code 18 = .ok (.new 52, 3) := by decide +kernel
theorem dGC_21 : decode jdk_52_method_5_code 21 = .ok (.dup, 1) := by decide +kernel
theorem dGC_22 : decode jdk_52_method_5_code 22 = .ok (.ldc 54, 2) := by decide +kernel
theorem dGC_24 : decode jdk_52_method_5_code 24 = .ok (.invokespecial 56, 3) := by decide +kernel
theorem dGC_27 : decode jdk_52_method_5_code 27 = .ok (.athrow, 1) := by decide +kernel
theorem dGC_28 : decode jdk_52_method_5_code 28 = .ok (.iload_n 1, 1) := by decide +kernel
theorem dGC_29 : decode jdk_52_method_5_code 29 = .ok (.iconst 1, 1) := by decide +kernel
theorem dGC_30 : decode jdk_52_method_5_code 30 = .ok (.ishl, 1) := by decide +kernel
theorem dGC_31 : decode jdk_52_method_5_code 31 = .ok (.istore_n 1, 1) := by decide +kernel
theorem dGC_32 : decode jdk_52_method_5_code 32 = .ok (.aload_n 0, 1) := by decide +kernel
theorem dGC_33 : decode jdk_52_method_5_code 33 = .ok (.iload_n 1, 1) := by decide +kernel
theorem dGC_34 : decode jdk_52_method_5_code 34 = .ok (.iinc 1 1, 3) := by decide +kernel
theorem dGC_37 : decode jdk_52_method_5_code 37 = .ok (.baload, 1) := by decide +kernel
theorem dGC_38 : decode jdk_52_method_5_code 38 = .ok (.sipush 255, 3) := by decide +kernel
theorem dGC_41 : decode jdk_52_method_5_code 41 = .ok (.iand, 1) := by decide +kernel
theorem dGC_42 : decode jdk_52_method_5_code 42 = .ok (.getstatic 59, 3) := by decide +kernel
theorem dGC_45 : decode jdk_52_method_5_code 45 = .ok (.ishl, 1) := by decide +kernel
theorem dGC_46 : decode jdk_52_method_5_code 46 = .ok (.aload_n 0, 1) := by decide +kernel
theorem dGC_47 : decode jdk_52_method_5_code 47 = .ok (.iload_n 1, 1) := by decide +kernel
theorem dGC_48 : decode jdk_52_method_5_code 48 = .ok (.baload, 1) := by decide +kernel
theorem dGC_49 : decode jdk_52_method_5_code 49 = .ok (.sipush 255, 3) := by decide +kernel
theorem dGC_52 : decode jdk_52_method_5_code 52 = .ok (.iand, 1) := by decide +kernel
theorem dGC_53 : decode jdk_52_method_5_code 53 = .ok (.getstatic 63, 3) := by decide +kernel
theorem dGC_56 : decode jdk_52_method_5_code 56 = .ok (.ishl, 1) := by decide +kernel
theorem dGC_57 : decode jdk_52_method_5_code 57 = .ok (.ior, 1) := by decide +kernel
theorem dGC_58 : decode jdk_52_method_5_code 58 = .ok (.i2c, 1) := by decide +kernel
theorem dGC_59 : decode jdk_52_method_5_code 59 = .ok (.ireturn, 1) := by decide +kernel
theorem pnGC : plainFor (⟨"java/lang/StringUTF16", "getChar", "([BI)C"⟩ : MethodName) = true := plainFor_of_name (by first | (simp [plainName, overriddenIn]; done) | decide +kernel)
theorem narrow_chv (u : UInt16) : narrow .char (.int (chv u)) = .int (chv u) := congrArg Value.int (chv_nar u)
set_option maxRecDepth 65536 in
set_option maxHeartbeats 40000000 in
theorem con_GC (hw : ∀ d ∈ tables_1, d.before a0 Z = true) (hu : U16 Z) {d : Addr} {us : List UInt16} {i : Nat} {u : UInt16} (D : ArI Z h d .byte (b16 us)) (hi : us[i]? = some u) : Con (⟨"java/lang/StringUTF16", "getChar", "([BI)C"⟩ : MethodName) jdk_52_method_5_code 2 (some .char) R0 Z LT [] #[.ref d, .int (Int32.ofNat i)] h [] mine (fun v h' nw => nw = [] ∧ v = some (.int (chv u)) ∧ h' = h) := by
  have hl := D.len
  rw [b16_len] at hl
  have hil : i < us.length := (List.getElem?_eq_some_iff.mp hi).1
  refine Con.of pnGC (Ls := [.val (.ref d), .val (.int (Int32.ofNat i))]) (fun m => by first | (simp [entryFrame, mkF, argsToLocals, Value.category]; done) | (simp [entryFrame, mkF, argsToLocals, Value.category, maxLocals]; done) | rfl) ?_
  refine WP.getstatic (pc' := 3) (host := "") dGC_0 (Or.inl (hw _ (List.mem_of_getElem? (i := 253) rfl))) Via.refl hu.1 rfl ?_
  refine WP.ifT (pc' := 28) dGC_3 (by decide) (by decide) (show ¬ (1 : Int32) = 0 by decide) ?_
  refine WP.iloadN (pc' := 29) dGC_28 rfl rfl ?_
  refine WP.iconst (pc' := 30) (x := 1) dGC_29 (by decide) rfl ?_
  refine WP.ishl (pc' := 31) dGC_30 rfl ?_
  rw [n32_shl1 (by omega)]
  refine WP.istoreN (pc' := 32) dGC_31 rfl rfl rfl ?_
  dsimp only [List.set]
  refine WP.aloadN (pc' := 33) dGC_32 rfl rfl rfl ?_
  refine WP.iloadN (pc' := 34) dGC_33 rfl rfl ?_
  refine WP.iinc (pc' := 37) dGC_34 rfl rfl rfl rfl ?_
  dsimp only [List.set]
  rw [show Int32.ofNat (2 * i) + Int32.ofInt 1 = Int32.ofNat (2 * i + 1) from n32_succ _]
  refine WP.baload (pc' := 38) dGC_37 D (n32_toInt (by omega)) (b16_get hi).1 rfl ?_
  refine WP.sipush (pc' := 41) (x := 255) dGC_38 (by decide) rfl ?_
  refine WP.iand (pc' := 42) dGC_41 rfl ?_
  refine WP.getstatic (pc' := 45) (host := "") dGC_42 (Or.inl (hw _ (List.mem_of_getElem? (i := 254) rfl))) Via.refl hu.2.1 rfl ?_
  refine WP.ishl (pc' := 46) dGC_45 rfl ?_
  refine WP.aloadN (pc' := 47) dGC_46 rfl rfl rfl ?_
  refine WP.iloadN (pc' := 48) dGC_47 rfl rfl ?_
  refine WP.baload (pc' := 49) dGC_48 D (n32_toInt (by omega)) (b16_get hi).2 rfl ?_
  refine WP.sipush (pc' := 52) (x := 255) dGC_49 (by decide) rfl ?_
  refine WP.iand (pc' := 53) dGC_52 rfl ?_
  refine WP.getstatic (pc' := 56) (host := "") dGC_53 (Or.inl (hw _ (List.mem_of_getElem? (i := 255) rfl))) Via.refl hu.2.2 rfl ?_
  refine WP.ishl (pc' := 57) dGC_56 rfl ?_
  refine WP.ior (pc' := 58) dGC_57 rfl ?_
  refine WP.i2c (pc' := 59) dGC_58 rfl ?_
  rw [getChar_val]
  exact WP.ireturn dGC_59 rfl (by simp) (narrow_chv u) ⟨rfl, rfl, rfl⟩ (fun _ hx => nomatch hx) (fun _ hx => hx) (Nat.le_refl _) (Nat.le_refl _)
theorem dTB3_0 : decode jdk_52_method_14_code 0 = .ok (.iload_n 2, 1) := by decide +kernel
theorem dTB3_1 : decode jdk_52_method_14_code 1 = .ok (.invokestatic 107, 3) := by decide +kernel
theorem dTB3_4 : decode jdk_52_method_14_code 4 = .ok (.astore_n 3, 1) := by decide +kernel
theorem dTB3_5 : decode jdk_52_method_14_code 5 = .ok (.iconst 0, 1) := by decide +kernel
theorem dTB3_6 : decode jdk_52_method_14_code 6 = .ok (.istore 4, 2) := by decide +kernel
theorem dTB3_8 : decode jdk_52_method_14_code 8 = .ok (.iload 4, 2) := by decide +kernel
theorem dTB3_10 : decode jdk_52_method_14_code 10 = .ok (.iload_n 2, 1) := by decide +kernel
theorem dTB3_11 : decode jdk_52_method_14_code 11 = .ok (.if_icmp .ge 21, 3) := by decide +kernel
theorem dTB3_14 : decode jdk_52_method_14_code 14 = .ok (.aload_n 3, 1) := by decide +kernel
theorem dTB3_15 : decode jdk_52_method_14_code 15 = .ok (.iload 4, 2) := by decide +kernel
theorem dTB3_17 : decode jdk_52_method_14_code 17 = .ok (.aload_n 0, 1) := by decide +kernel
theorem dTB3_18 : decode jdk_52_method_14_code 18 = .ok (.iload_n 1, 1) := by decide +kernel
theorem dTB3_19 : decode jdk_52_method_14_code 19 = .ok (.caload, 1) := by decide +kernel
theorem dTB3_20 : decode jdk_52_method_14_code 20 = .ok (.invokestatic 111, 3) := by decide +kernel
theorem dTB3_23 : decode jdk_52_method_14_code 23 = .ok (.iinc 1 1, 3) := by decide +kernel
theorem dTB3_26 : decode jdk_52_method_14_code 26 = .ok (.iinc 4 1, 3) := by decide +kernel
theorem dTB3_29 : decode jdk_52_method_14_code 29 = .ok (.goto (-21), 3) := by decide +kernel
theorem dTB3_32 : decode jdk_52_method_14_code 32 = .ok (.aload_n 3, 1) := by decide +kernel
theorem dTB3_33 : decode jdk_52_method_14_code 33 = .ok (.areturn, 1) := by decide +kernel
theorem pnTB3 : plainFor (⟨"java/lang/StringUTF16", "toBytes", "([CII)[B"⟩ : MethodName) = true := plainFor_of_name (by first | (simp [plainName, overriddenIn]; done) | decide +kernel)
set_option maxRecDepth 65536 in
set_option maxHeartbeats 40000000 in
theorem loop_TB3 (hw : ∀ d ∈ tables_1, d.before a0 Z = true) (hu : U16 Z) {us : List UInt16} {b d : Addr} {N : Nat} {bs : List Int32} {off : Nat} (hsub : SubC bs off us) (hbl : bs.length < 2 ^ 31) (hn : 2 * us.length < 2 ^ 31) (hm : d ∈ mine) (hbd : b ≠ d) (hd0 : h.size ≤ d) {mine1 : List Addr} (hm1 : ∀ x ∈ mine1, x ∈ mine) {Q : Option Value → Heap → List Addr → Prop} (hq : ∀ h', ArI Z h' d .byte (b16 us) → Q (some (.ref d)) h' []) :
    ∀ (r i : Nat), i + r = us.length → ∀ (h' : Heap), ArI Z h' b .char bs → ArI Z h' d .byte (b16 (us.take i) ++ List.replicate (2 * r) 0) →
    WP "java/lang/StringUTF16" jdk_52_method_14_code 5 (some (.array .byte)) "toBytes" { frames := 2, cells := 1, slots := 2 * us.length, locals := 24 } Z LT h [] mine1 Q mine 1 (2 * us.length) h' 8 [.val (.ref b), .val (.int (Int32.ofNat (off + i))), .val (.int (Int32.ofNat us.length)), .val (.ref d), .val (.int (Int32.ofNat i))] [] := by
  intro r
  induction r with
  | zero =>
    intro i hi h' A D
    obtain rfl : i = us.length := by omega
    refine WP.iload (pc' := 10) dTB3_8 rfl rfl ?_
    refine WP.iloadN (pc' := 11) dTB3_10 rfl rfl ?_
    refine WP.icmpT (pc' := 32) dTB3_11 (by decide) (by decide) (fun q => Nat.lt_irrefl _ ((n32_lt (by omega) (by omega)).mp q)) ?_
    refine WP.aloadN (pc' := 33) dTB3_32 rfl rfl rfl ?_
    refine WP.areturn dTB3_33 rfl rfl rfl (hq h' (by simpa using D)) (fun _ hx => nomatch hx) hm1 (Nat.le_refl _) (Nat.le_refl _)
  | succ r ih =>
    intro i hi h' A D
    have hil : i < us.length := by omega
    have hoff := hsub.1
    obtain ⟨u, hu2⟩ : ∃ u, us[i]? = some u := ⟨us[i], List.getElem?_eq_getElem hil⟩
    refine WP.iload (pc' := 10) dTB3_8 rfl rfl ?_
    refine WP.iloadN (pc' := 11) dTB3_10 rfl rfl ?_
    refine WP.icmpF (pc' := 14) dTB3_11 rfl ((n32_lt (by omega) (by omega)).mpr hil) ?_
    refine WP.aloadN (pc' := 15) dTB3_14 rfl rfl rfl ?_
    refine WP.iload (pc' := 17) dTB3_15 rfl rfl ?_
    refine WP.aloadN (pc' := 18) dTB3_17 rfl rfl rfl ?_
    refine WP.iloadN (pc' := 19) dTB3_18 rfl rfl ?_
    refine WP.caload (pc' := 20) dTB3_19 A (n32_toInt (by omega)) (x := chv u) (hsub.2 i u hu2) rfl ?_
    have hlen : (b16 (us.take i)).length = 2 * i := by rw [b16_len, List.length_take]; omega
    refine WP.callS (pc' := 23) (con_PC hw hu D (by simp [hlen]; omega) hm) (hw _ (List.mem_of_getElem? (i := 250) rfl)) (hw _ (List.mem_of_getElem? (i := 251) rfl)) (hw _ (List.mem_of_getElem? (i := 152) rfl)) (hw _ (List.mem_of_getElem? (i := 252) rfl)) dTB3_20 (by decide) pdx1 rfl rfl rfl (by first | exact Nat.le_of_ble_eq_true rfl | omega | (simp; done) | (simp; omega) | (dsimp only; omega)) (by first | exact Nat.le_of_ble_eq_true rfl | omega | (simp; done) | (simp; omega) | (dsimp only; omega)) (by first | exact Nat.le_of_ble_eq_true rfl | omega | (simp; done) | (simp; omega) | (dsimp only; omega)) (by first | exact Nat.le_of_ble_eq_true rfl | omega | (simp; done) | (simp; omega) | (dsimp only; omega)) (fun x hx => by cases List.mem_singleton.mp hx; exact Or.inr hd0) rfl ?_
    rintro v h2 nw K hnw ⟨rfl, rfl, D2⟩
    dsimp only [Option.toList, List.nil_append]
    refine WP.iinc (pc' := 26) dTB3_23 rfl rfl rfl rfl ?_
    dsimp only [List.set]
    refine WP.iinc (pc' := 29) dTB3_26 rfl rfl rfl rfl ?_
    dsimp only [List.set]
    refine WP.goto (pc' := 8) dTB3_29 (by decide) (by decide) ?_
    rw [show Int32.ofNat i + Int32.ofInt 1 = Int32.ofNat (i + 1) from n32_succ i, show Int32.ofNat (off + i) + Int32.ofInt 1 = Int32.ofNat (off + (i + 1)) from n32_succ (off + i)]
    have e : (((b16 (us.take i) ++ List.replicate (2 * (r + 1)) (0 : Int32)).set (2 * i) (lo8 u)).set (2 * i + 1) (hi8 u)) = b16 (us.take (i + 1)) ++ List.replicate (2 * r) 0 := by
      rw [take_set hlen (by simp [hlen]), show 2 * (r + 1) = 2 * r + 1 + 1 by omega, List.replicate_succ, List.replicate_succ, List.drop_succ_cons, List.drop_zero]
      rw [show b16 (us.take i) ++ lo8 u :: (0 : Int32) :: List.replicate (2 * r) 0 = (b16 (us.take i) ++ [lo8 u]) ++ ((0 : Int32) :: List.replicate (2 * r) 0) by simp]
      rw [take_set (by simp [hlen]) (by simp [hlen]), take_succ' hu2, b16_app]
      simp [b16]
    rw [e] at D2
    exact ih (i + 1) (by omega) h2 (A.keep K (fun q => hbd (List.mem_singleton.mp q))) D2
set_option maxRecDepth 65536 in
set_option maxHeartbeats 40000000 in
theorem con_TB3 (hw : ∀ d ∈ tables_1, d.before a0 Z = true) (hu : U16 Z) {us : List UInt16} {b : Addr} {bs : List Int32} {off : Nat} (hsub : SubC bs off us) (hn : us.length ≤ 33554432) (A : ArI Z h b .char bs) : Con (⟨"java/lang/StringUTF16", "toBytes", "([CII)[B"⟩ : MethodName) jdk_52_method_14_code 5 (some (.array .byte)) { frames := 2, cells := 1, slots := 2 * us.length, locals := 24 } Z LT [] #[.ref b, .int (Int32.ofNat off), .int (Int32.ofNat us.length)] h [] mine (fun v h' nw => nw = [] ∧ ∃ t, v = some (.ref t) ∧ h.size ≤ t ∧ ArI Z h' t .byte (b16 us)) := by
  refine Con.of pnTB3 (Ls := [.val (.ref b), .val (.int (Int32.ofNat off)), .val (.int (Int32.ofNat us.length)), .unset, .unset]) (fun m => by first | (simp [entryFrame, mkF, argsToLocals, Value.category]; done) | (simp [entryFrame, mkF, argsToLocals, Value.category, maxLocals]; done) | rfl) ?_
  refine WP.iloadN (pc' := 1) dTB3_0 rfl rfl ?_
  refine WP.callS (pc' := 4) (con_NBF hw hn) (hw _ (List.mem_of_getElem? (i := 243) rfl)) (hw _ (List.mem_of_getElem? (i := 244) rfl)) (hw _ (List.mem_of_getElem? (i := 152) rfl)) (hw _ (List.mem_of_getElem? (i := 245) rfl)) dTB3_1 (by decide) pdx2 rfl rfl rfl (by first | exact Nat.le_of_ble_eq_true rfl | omega | (simp; done) | (simp; omega) | (dsimp only; omega)) (by first | exact Nat.le_of_ble_eq_true rfl | omega | (simp; done) | (simp; omega) | (dsimp only; omega)) (by first | exact Nat.le_of_ble_eq_true rfl | omega | (simp; done) | (simp; omega) | (dsimp only; omega)) (by first | exact Nat.le_of_ble_eq_true rfl | omega | (simp; done) | (simp; omega) | (dsimp only; omega)) (fun _ hx => nomatch hx) rfl ?_
  rintro v h2 nw K1 hnw ⟨t, rfl, rfl, ht, E, D⟩
  dsimp only [Option.toList, List.cons_append, List.nil_append]
  refine WP.astoreN (pc' := 5) dTB3_4 rfl rfl rfl rfl rfl ?_
  dsimp only [List.set]
  refine WP.iconst (pc' := 6) (x := 0) dTB3_5 (by decide) rfl ?_
  refine WP.istore (pc' := 8) dTB3_6 rfl rfl rfl ?_
  dsimp only [List.set]
  refine WP.more (ce' := 1) (sl' := 2 * us.length) ?_ (by simp) (by simp)
  exact loop_TB3 (N := 0) hw hu hsub A.len (by omega) (List.mem_cons_self ..) (Nat.ne_of_lt (Nat.lt_of_lt_of_le A.lt (Nat.le_of_eq ht.symm))) (Nat.le_of_eq ht.symm) (fun x hx => List.mem_cons_of_mem _ hx) (fun h' D => ⟨rfl, t, rfl, Nat.le_of_eq ht.symm, D⟩) us.length 0 (by omega) h2 (A.ext E) (by simpa [b16] using D)
theorem dCL_0 : decode jdk_52_method_15_code 0 = .ok (.iload_n 1, 1) := by decide +kernel
theorem dCL_1 : decode jdk_52_method_15_code 1 = .ok (.aload_n 0, 1) := by decide +kernel
theorem dCL_2 : decode jdk_52_method_15_code 2 = .ok (.arraylength, 1) := by decide +kernel
theorem dCL_3 : decode jdk_52_method_15_code 3 = .ok (.isub, 1) := by decide +kernel
theorem dCL_4 : decode jdk_52_method_15_code 4 = .ok (.bipush 31, 2) := by decide +kernel
theorem dCL_6 : decode jdk_52_method_15_code 6 = .ok (.iushr, 1) := by decide +kernel
theorem dCL_7 : decode jdk_52_method_15_code 7 = .ok (.i2b, 1) := by decide +kernel
theorem dCL_8 : decode jdk_52_method_15_code 8 = .ok (.ireturn, 1) := by decide +kernel
theorem pnCL : plainFor (⟨"java/lang/StringUTF16", "coderFromArrayLen", "([BI)B"⟩ : MethodName) = true := plainFor_of_name (by first | (simp [plainName, overriddenIn]; done) | decide +kernel)
set_option maxRecDepth 65536 in
set_option maxHeartbeats 40000000 in
theorem con_CL {us : List UInt16} {t : Addr} {xs : List Int32} (T : ArI Z h t .byte xs) (hn : us.length < 2 ^ 31) (ht : (lat us = true ∧ xs = us.map lo8) ∨ (lat us = false ∧ xs = b16 us)) : Con (⟨"java/lang/StringUTF16", "coderFromArrayLen", "([BI)B"⟩ : MethodName) jdk_52_method_15_code 2 (some .byte) R0 Z LT [] #[.ref t, .int (Int32.ofNat us.length)] h [] mine (fun v h' nw => nw = [] ∧ v = some (.int (if lat us = true then 0 else 1)) ∧ h' = h) := by
  have hl := T.len
  refine Con.of pnCL (Ls := [.val (.ref t), .val (.int (Int32.ofNat us.length))]) (fun m => by first | (simp [entryFrame, mkF, argsToLocals, Value.category]; done) | (simp [entryFrame, mkF, argsToLocals, Value.category, maxLocals]; done) | rfl) ?_
  refine WP.iloadN (pc' := 1) dCL_0 rfl rfl ?_
  refine WP.aloadN (pc' := 2) dCL_1 rfl rfl rfl ?_
  refine WP.arraylength (pc' := 3) dCL_2 T rfl rfl ?_
  refine WP.isub (pc' := 4) dCL_3 rfl ?_
  refine WP.bipush (pc' := 6) (x := 31) dCL_4 (by decide) rfl ?_
  refine WP.iushr (pc' := 7) dCL_6 rfl ?_
  refine WP.i2b (pc' := 8) dCL_7 rfl ?_
  have e : ((Int32.ofNat us.length - Int32.ofNat xs.length).toUInt32 >>> ((31 : Int32) &&& 31).toUInt32).toInt32.toInt8.toInt32 = if lat us = true then 0 else 1 := by
    have s := c_iushr (Int32.ofNat us.length - Int32.ofNat xs.length) 31 31 (by decide) (by decide)
    have d := c_isub (Int32.ofNat us.length) (Int32.ofNat xs.length)
    have r := rng32 (Int32.ofNat us.length - Int32.ofNat xs.length)
    rw [n32_toInt hn, n32_toInt hl] at d
    have b := c_i2b ((Int32.ofNat us.length - Int32.ofNat xs.length).toUInt32 >>> ((31 : Int32) &&& 31).toUInt32).toInt32
    rcases ht with ⟨h1, rfl⟩ | ⟨h1, rfl⟩
    · rw [if_pos h1]
      simp only [List.length_map] at *
      apply Int32.toInt_inj.mp
      show _ = (0 : Int)
      omega
    · rw [if_neg (by rw [h1]; decide)]
      rw [b16_len] at *
      have : 0 < us.length := by
        rcases us with _ | ⟨u, us⟩
        · cases h1
        · simp
      apply Int32.toInt_inj.mp
      show _ = (1 : Int)
      omega
  rw [e]
  exact WP.ireturn dCL_8 rfl (by simp) (by split <;> rfl) ⟨rfl, rfl, rfl⟩ (fun _ hx => nomatch hx) (fun _ hx => hx) (Nat.le_refl _) (Nat.le_refl _)
theorem dCP3_0 : decode jdk_52_method_16_code 0 = .ok (.iload_n 2, 1) := by decide +kernel
theorem dCP3_1 : decode jdk_52_method_16_code 1 = .ok (.newarray .byte, 2) := by decide +kernel
theorem dCP3_3 : decode jdk_52_method_16_code 3 = .ok (.astore_n 3, 1) := by decide +kernel
theorem dCP3_4 : decode jdk_52_method_16_code 4 = .ok (.aload_n 0, 1) := by decide +kernel
theorem dCP3_5 : decode jdk_52_method_16_code 5 = .ok (.iload_n 1, 1) := by decide +kernel
theorem dCP3_6 : decode jdk_52_method_16_code 6 = .ok (.aload_n 3, 1) := by decide +kernel
theorem dCP3_7 : decode jdk_52_method_16_code 7 = .ok (.iconst 0, 1) := by decide +kernel
theorem dCP3_8 : decode jdk_52_method_16_code 8 = .ok (.iload_n 2, 1) := by decide +kernel
theorem dCP3_9 : decode jdk_52_method_16_code 9 = .ok (.invokestatic 115, 3) := by decide +kernel
theorem dCP3_12 : decode jdk_52_method_16_code 12 = .ok (.istore 4, 2) := by decide +kernel
theorem dCP3_14 : decode jdk_52_method_16_code 14 = .ok (.iload 4, 2) := by decide +kernel
theorem dCP3_16 : decode jdk_52_method_16_code 16 = .ok (.iload_n 2, 1) := by decide +kernel
theorem dCP3_17 : decode jdk_52_method_16_code 17 = .ok (.if_icmp .eq 40, 3) := by decide +kernel
theorem dCP3_20 : decode jdk_52_method_16_code 20 = .ok (.aload_n 0, 1) := by decide +kernel
theorem dCP3_21 : decode jdk_52_method_16_code 21 = .ok (.iload_n 1, 1) := by decide +kernel
theorem dCP3_22 : decode jdk_52_method_16_code 22 = .ok (.iload_n 2, 1) := by decide +kernel
theorem dCP3_23 : decode jdk_52_method_16_code 23 = .ok (.invokestatic 119, 3) := by decide +kernel
theorem dCP3_26 : decode jdk_52_method_16_code 26 = .ok (.astore 5, 2) := by decide +kernel
theorem dCP3_28 : decode jdk_52_method_16_code 28 = .ok (.aload 5, 2) := by decide +kernel
theorem dCP3_30 : decode jdk_52_method_16_code 30 = .ok (.iload 4, 2) := by decide +kernel
theorem dCP3_32 : decode jdk_52_method_16_code 32 = .ok (.invokestatic 71, 3) := by decide +kernel
theorem dCP3_35 : decode jdk_52_method_16_code 35 = .ok (.sipush 255, 3) := by decide +kernel
theorem dCP3_38 : decode jdk_52_method_16_code 38 = .ok (.if_icmp .gt 16, 3) := by decide +kernel
theorem dCP3_41 : decode jdk_52_method_16_code 41 = .ok (.aload 5, 2) := by decide +kernel
theorem dCP3_43 : decode jdk_52_method_16_code 43 = .ok (.iconst 0, 1) := by decide +kernel
theorem dCP3_44 : decode jdk_52_method_16_code 44 = .ok (.aload_n 3, 1) := by decide +kernel
theorem dCP3_45 : decode jdk_52_method_16_code 45 = .ok (.iconst 0, 1) := by decide +kernel
theorem dCP3_46 : decode jdk_52_method_16_code 46 = .ok (.iload_n 2, 1) := by decide +kernel
theorem dCP3_47 : decode jdk_52_method_16_code 47 = .ok (.invokestatic 123, 3) := by decide +kernel
theorem dCP3_50 : decode jdk_52_method_16_code 50 = .ok (.iload_n 2, 1) := by decide +kernel
theorem dCP3_51 : decode jdk_52_method_16_code 51 = .ok (.if_icmp .eq 6, 3) := by decide +kernel
theorem dCP3_54 : decode jdk_52_method_16_code 54 = .ok (.aload 5, 2) := by decide +kernel
theorem dCP3_56 : decode jdk_52_method_16_code 56 = .ok (.areturn, 1) := by decide +kernel
theorem dCP3_57 : decode jdk_52_method_16_code 57 = .ok (.aload_n 3, 1) := by decide +kernel
theorem dCP3_58 : decode jdk_52_method_16_code 58 = .ok (.areturn, 1) := by decide +kernel
theorem pnCP3 : plainFor (⟨"java/lang/StringUTF16", "compress", "([CII)[B"⟩ : MethodName) = true := plainFor_of_name (by first | (simp [plainName, overriddenIn]; done) | decide +kernel)
set_option maxRecDepth 65536 in
set_option maxHeartbeats 40000000 in
theorem con_CP3 (hw : ∀ d ∈ tables_1, d.before a0 Z = true) {us : List UInt16} (hu : HuA Z us) {b : Addr} {N : Nat} {bs : List Int32} {off : Nat} (hsub : SubC bs off us) (hN : us.length ≤ N) (hn : N ≤ 33554432) (A : ArI Z h b .char bs) : Con (⟨"java/lang/StringUTF16", "compress", "([CII)[B"⟩ : MethodName) jdk_52_method_16_code 6 (some (.array .byte)) { frames := 3, cells := 2, slots := 3 * N, locals := 40 } Z LT [] #[.ref b, .int (Int32.ofNat off), .int (Int32.ofNat us.length)] h [] mine (fun v h' nw => nw = [] ∧ ∃ t, v = some (.ref t) ∧ h.size ≤ t ∧ ((lat us = true ∧ ArI Z h' t .byte (us.map lo8)) ∨ (lat us = false ∧ ArI Z h' t .byte (b16 us)))) := by
  refine Con.of pnCP3 (Ls := [.val (.ref b), .val (.int (Int32.ofNat off)), .val (.int (Int32.ofNat us.length)), .unset, .unset, .unset]) (fun m => by first | (simp [entryFrame, mkF, argsToLocals, Value.category]; done) | (simp [entryFrame, mkF, argsToLocals, Value.category, maxLocals]; done) | rfl) ?_
  refine WP.iloadN (pc' := 1) dCP3_0 rfl rfl ?_
  refine WP.newarray (pc' := 3) (N := us.length) dCP3_1 (hw _ (List.mem_of_getElem? (i := 20) rfl)) rfl (n32_toInt (by omega)) (by first | exact Nat.le_of_ble_eq_true rfl | omega | (simp; done) | (simp; omega) | (dsimp only; omega)) (by first | exact Nat.le_of_ble_eq_true rfl | omega | (simp; done) | (simp; omega) | (dsimp only; omega)) (by first | exact Nat.le_of_ble_eq_true rfl | omega | (simp; done) | (simp; omega) | (dsimp only; omega)) rfl ?_
  intro h1 t ht htm ht0 E D
  refine WP.astoreN (pc' := 4) dCP3_3 rfl rfl rfl rfl rfl ?_
  dsimp only [List.set]
  refine WP.aloadN (pc' := 5) dCP3_4 rfl rfl rfl ?_
  refine WP.iloadN (pc' := 6) dCP3_5 rfl rfl ?_
  refine WP.aloadN (pc' := 7) dCP3_6 rfl rfl rfl ?_
  refine WP.iconst (pc' := 8) (x := 0) dCP3_7 (by decide) rfl ?_
  refine WP.iloadN (pc' := 9) dCP3_8 rfl rfl ?_
  refine WP.callS (pc' := 12) (con_CP5 hsub (A.ext E) D (by simp) (List.mem_cons_self ..)) (hw _ (List.mem_of_getElem? (i := 154) rfl)) (hw _ (List.mem_of_getElem? (i := 155) rfl)) (hw _ (List.mem_of_getElem? (i := 152) rfl)) (hw _ (List.mem_of_getElem? (i := 156) rfl)) dCP3_9 (by decide) pdx3 rfl rfl rfl (by first | exact Nat.le_of_ble_eq_true rfl | omega | (simp; done) | (simp; omega) | (dsimp only; omega)) (by first | exact Nat.le_of_ble_eq_true rfl | omega | (simp; done) | (simp; omega) | (dsimp only; omega)) (by first | exact Nat.le_of_ble_eq_true rfl | omega | (simp; done) | (simp; omega) | (dsimp only; omega)) (by first | exact Nat.le_of_ble_eq_true rfl | omega | (simp; done) | (simp; omega) | (dsimp only; omega)) (fun x hx => by cases List.mem_singleton.mp hx; exact Or.inr ht0) rfl ?_
  rintro v h2 nw K hnw ⟨rfl, hq⟩
  rcases hq with ⟨hl, rfl, D2⟩ | ⟨hl, k, u, hk, hu256, rfl⟩
  · dsimp only [Option.toList, List.cons_append, List.nil_append]
    refine WP.istore (pc' := 14) dCP3_12 rfl rfl rfl ?_
    dsimp only [List.set]
    refine WP.iload (pc' := 16) dCP3_14 rfl rfl ?_
    refine WP.iloadN (pc' := 17) dCP3_16 rfl rfl ?_
    refine WP.icmpT (pc' := 57) dCP3_17 (by decide) (by decide) rfl ?_
    refine WP.aloadN (pc' := 58) dCP3_57 rfl rfl rfl ?_
    exact WP.areturn dCP3_58 rfl rfl rfl ⟨rfl, t, rfl, ht0, Or.inl ⟨hl, D2⟩⟩ (fun _ hx => nomatch hx) (fun x hx => List.mem_cons_of_mem _ hx) (by dsimp only; omega) (by dsimp only; omega)
  · have hkl : k < us.length := (List.getElem?_eq_some_iff.mp hk).1
    dsimp only [Option.toList, List.cons_append, List.nil_append]
    refine WP.istore (pc' := 14) dCP3_12 rfl rfl rfl ?_
    dsimp only [List.set]
    refine WP.iload (pc' := 16) dCP3_14 rfl rfl ?_
    refine WP.iloadN (pc' := 17) dCP3_16 rfl rfl ?_
    refine WP.icmpF (pc' := 20) dCP3_17 rfl (fun q => by rw [n32_eq (by omega) (by omega)] at q; omega) ?_
    refine WP.aloadN (pc' := 21) dCP3_20 rfl rfl rfl ?_
    refine WP.iloadN (pc' := 22) dCP3_21 rfl rfl ?_
    refine WP.iloadN (pc' := 23) dCP3_22 rfl rfl ?_
    have A2 : ArI Z h2 b .char bs := (A.ext E).keep K (fun q => by cases List.mem_singleton.mp q; exact absurd A.lt (Nat.not_lt.mpr ht0))
    refine WP.callS (pc' := 26) (con_TB3 hw hu hsub (by omega) A2) (hw _ (List.mem_of_getElem? (i := 240) rfl)) (hw _ (List.mem_of_getElem? (i := 241) rfl)) (hw _ (List.mem_of_getElem? (i := 152) rfl)) (hw _ (List.mem_of_getElem? (i := 242) rfl)) dCP3_23 (by decide) pdx4 rfl rfl rfl (by first | exact Nat.le_of_ble_eq_true rfl | omega | (simp; done) | (simp; omega) | (dsimp only; omega)) (by first | exact Nat.le_of_ble_eq_true rfl | omega | (simp; done) | (simp; omega) | (dsimp only; omega)) (by first | exact Nat.le_of_ble_eq_true rfl | omega | (simp; done) | (simp; omega) | (dsimp only; omega)) (by first | exact Nat.le_of_ble_eq_true rfl | omega | (simp; done) | (simp; omega) | (dsimp only; omega)) (fun _ hx => nomatch hx) rfl ?_
    rintro v h3 nw K3 hnw3 ⟨rfl, t2, rfl, ht2, D3⟩
    dsimp only [Option.toList, List.cons_append, List.nil_append]
    refine WP.astore (pc' := 28) dCP3_26 rfl rfl rfl rfl rfl ?_
    dsimp only [List.set]
    refine WP.aload (pc' := 30) dCP3_28 rfl rfl rfl ?_
    refine WP.iload (pc' := 32) dCP3_30 rfl rfl ?_
    refine WP.callS (pc' := 35) (con_GC hw hu D3 hk) (hw _ (List.mem_of_getElem? (i := 256) rfl)) (hw _ (List.mem_of_getElem? (i := 257) rfl)) (hw _ (List.mem_of_getElem? (i := 152) rfl)) (hw _ (List.mem_of_getElem? (i := 258) rfl)) dCP3_32 (by decide) pdx5 rfl rfl rfl (by first | exact Nat.le_of_ble_eq_true rfl | omega | (simp; done) | (simp; omega) | (dsimp only; omega)) (by first | exact Nat.le_of_ble_eq_true rfl | omega | (simp; done) | (simp; omega) | (dsimp only; omega)) (by first | exact Nat.le_of_ble_eq_true rfl | omega | (simp; done) | (simp; omega) | (dsimp only; omega)) (by first | exact Nat.le_of_ble_eq_true rfl | omega | (simp; done) | (simp; omega) | (dsimp only; omega)) (fun _ hx => nomatch hx) rfl ?_
    rintro v h4 nw K4 hnw4 ⟨rfl, rfl, rfl⟩
    dsimp only [Option.toList, List.cons_append, List.nil_append]
    refine WP.sipush (pc' := 38) (x := 255) dCP3_35 (by decide) rfl ?_
    refine WP.icmpT (pc' := 54) dCP3_38 (by decide) (by decide) ((chv_gt u).mpr hu256) ?_
    refine WP.aload (pc' := 56) dCP3_54 rfl rfl rfl ?_
    refine WP.areturn dCP3_56 rfl rfl rfl ⟨rfl, t2, rfl, ?_, Or.inr ⟨hl, D3⟩⟩ (fun _ hx => nomatch hx) (fun x hx => List.mem_cons_of_mem _ hx) (by dsimp only; omega) (by dsimp only; omega)
    exact Nat.le_trans (Nat.le_trans E.1 K.1) ht2
theorem dSI4_0 : decode jdk_42_method_149_code 0 = .ok (.aload_n 0, 1) := by decide +kernel
theorem dSI4_1 : decode jdk_42_method_149_code 1 = .ok (.invokespecial 1, 3) := by decide +kernel
theorem dSI4_4 : decode jdk_42_method_149_code 4 = .ok (.iload_n 3, 1) := by decide +kernel
theorem dSI4_5 : decode jdk_42_method_149_code 5 = .ok (.ifCond .ne 22, 3) := by decide +kernel
theorem dSI4_8 : decode jdk_42_method_149_code 8 = .ok (.aload_n 0, 1) := by decide +kernel
theorem dSI4_9 : decode jdk_42_method_149_code 9 = .ok (.ldc 7, 2) := by decide +kernel
theorem dSI4_11 : decode jdk_42_method_149_code 11 = .ok (.getfield 9, 3) := by decide +kernel
theorem dSI4_14 : decode jdk_42_method_149_code 14 = .ok (.putfield 9, 3) := by decide +kernel
theorem dSI4_17 : decode jdk_42_method_149_code 17 = .ok (.aload_n 0, 1) := by decide +kernel
theorem dSI4_18 : decode jdk_42_method_149_code 18 = .ok (.ldc 7, 2) := by decide +kernel
theorem dSI4_20 : decode jdk_42_method_149_code 20 = .ok (.getfield 15, 3) := by decide +kernel
theorem dSI4_23 : decode jdk_42_method_149_code 23 = .ok (.putfield 15, 3) := by decide +kernel
theorem dSI4_26 : decode jdk_42_method_149_code 26 = .ok (.return_, 1) := by decide +kernel
theorem dSI4_27 : decode jdk_42_method_149_code 27 = .ok (.getstatic 38, 3) := by decide +kernel
theorem dSI4_30 : decode jdk_42_method_149_code 30 = .ok (.ifCond .eq 28, 3) := by decide +kernel
theorem dSI4_33 : decode jdk_42_method_149_code 33 = .ok (.aload_n 1, 1) := by decide +kernel
theorem dSI4_34 : decode jdk_42_method_149_code 34 = .ok (.iload_n 2, 1) := by decide +kernel
theorem dSI4_35 : decode jdk_42_method_149_code 35 = .ok (.iload_n 3, 1) := by decide +kernel
theorem dSI4_36 : decode jdk_42_method_149_code 36 = .ok (.invokestatic 177, 3) := by decide +kernel
theorem dSI4_39 : decode jdk_42_method_149_code 39 = .ok (.astore 5, 2) := by decide +kernel
theorem dSI4_41 : decode jdk_42_method_149_code 41 = .ok (.aload_n 0, 1) := by decide +kernel
theorem dSI4_42 : decode jdk_42_method_149_code 42 = .ok (.aload 5, 2) := by decide +kernel
theorem dSI4_44 : decode jdk_42_method_149_code 44 = .ok (.iload_n 3, 1) := by decide +kernel
theorem dSI4_45 : decode jdk_42_method_149_code 45 = .ok (.invokestatic 47, 3) := by decide +kernel
theorem dSI4_48 : decode jdk_42_method_149_code 48 = .ok (.putfield 15, 3) := by decide +kernel
theorem dSI4_51 : decode jdk_42_method_149_code 51 = .ok (.aload_n 0, 1) := by decide +kernel
theorem dSI4_52 : decode jdk_42_method_149_code 52 = .ok (.aload 5, 2) := by decide +kernel
theorem dSI4_54 : decode jdk_42_method_149_code 54 = .ok (.putfield 9, 3) := by decide +kernel
theorem dSI4_57 : decode jdk_42_method_149_code 57 = .ok (.return_, 1) := by decide +kernel
theorem dSI4_58 : decode jdk_42_method_149_code 58 = .ok (.aload_n 0, 1) := by decide +kernel
theorem dSI4_59 : decode jdk_42_method_149_code 59 = .ok (.iconst 1, 1) := by decide +kernel
theorem dSI4_60 : decode jdk_42_method_149_code 60 = .ok (.putfield 15, 3) := by decide +kernel
theorem dSI4_63 : decode jdk_42_method_149_code 63 = .ok (.aload_n 0, 1) := by decide +kernel
theorem dSI4_64 : decode jdk_42_method_149_code 64 = .ok (.aload_n 1, 1) := by decide +kernel
theorem dSI4_65 : decode jdk_42_method_149_code 65 = .ok (.iload_n 2, 1) := by decide +kernel
theorem dSI4_66 : decode jdk_42_method_149_code 66 = .ok (.iload_n 3, 1) := by decide +kernel
theorem dSI4_67 : decode jdk_42_method_149_code 67 = .ok (.invokestatic 180, 3) := by decide +kernel
theorem dSI4_70 : decode jdk_42_method_149_code 70 = .ok (.putfield 9, 3) := by decide +kernel
theorem dSI4_73 : decode jdk_42_method_149_code 73 = .ok (.return_, 1) := by decide +kernel
theorem pnSI4 : plainFor (⟨"java/lang/String", "<init>", "([CIILjava/lang/Void;)V"⟩ : MethodName) = true := plainFor_of_name (by first | (simp [plainName, overriddenIn]; done) | decide +kernel)
set_option maxRecDepth 65536 in
set_option maxHeartbeats 40000000 in
theorem con_SI4 (hw : ∀ d ∈ tables_1, d.before a0 Z = true) {cz : Int32} (hc : Compact Z cz) {us : List UInt16} (hu : Hu Z us) {a b : Addr} {N : Nat} {bs : List Int32} {off : Nat} (hsub : SubC bs off us) (hN : us.length ≤ N) (hn : N ≤ 33554432) (E : Exa Z h a ST) (FV : Fld Z h a ST "value" "[B" .null) (FC : Fld Z h a ST "coder" "B" (.int 0)) (A : ArI Z h b .char bs) (hm : a ∈ mine) :
    Con (⟨"java/lang/String", "<init>", "([CIILjava/lang/Void;)V"⟩ : MethodName) jdk_42_method_149_code 6 none { frames := 4, cells := 4, slots := 3 * N + 8, locals := 57 } Z LT [] #[.ref a, .ref b, .int (Int32.ofNat off), .int (Int32.ofNat us.length), .null] h [a] mine (fun v h' nw => nw = [] ∧ v = none ∧ ∃ t, StrAt Z h' a t us ∧ t ∉ mine) := by
  have hl : us.length < 2 ^ 31 := by have := A.len; have := hsub.1; omega
  refine Con.of pnSI4 (Ls := [.val (.ref a), .val (.ref b), .val (.int (Int32.ofNat off)), .val (.int (Int32.ofNat us.length)), .val .null, .unset]) (fun m => by first | (simp [entryFrame, mkF, argsToLocals, Value.category]; done) | (simp [entryFrame, mkF, argsToLocals, Value.category, maxLocals]; done) | rfl) ?_
  refine WP.know fun _ _ hmine => ?_
  refine WP.aloadN (pc' := 1) dSI4_0 rfl rfl rfl ?_
  refine WP.initObj (pc' := 4) (W := 0) dSI4_1 (hw _ (List.mem_of_getElem? (i := 16) rfl)) (hw _ (List.mem_of_getElem? (i := 17) rfl)) (hw _ (List.mem_of_getElem? (i := 18) rfl)) rfl (by first | exact Nat.le_of_ble_eq_true rfl | omega | (simp; done) | (simp; omega) | (dsimp only; omega)) (by first | exact Nat.le_of_ble_eq_true rfl | omega | (simp; done) | (simp; omega) | (dsimp only; omega)) (by first | exact Nat.le_of_ble_eq_true rfl | omega | (simp; done) | (simp; omega) | (dsimp only; omega)) rfl ?_
  refine WP.iloadN (pc' := 5) dSI4_4 rfl rfl ?_
  rcases Nat.eq_zero_or_pos us.length with h0 | h0
  · obtain rfl : us = [] := List.eq_nil_of_length_eq_zero h0
    refine WP.ifF (pc' := 8) dSI4_5 rfl rfl ?_
    refine WP.aloadN (pc' := 9) dSI4_8 rfl rfl rfl ?_
    refine WP.ldcS (pc' := 11) (text := "") (n := 0) dSI4_9 (by decide) (atoms hw) (by decide) (by decide) (by decide) (by first | exact Nat.le_of_ble_eq_true rfl | omega | (simp; done) | (simp; omega) | (dsimp only; omega)) (by first | exact Nat.le_of_ble_eq_true rfl | omega | (simp; done) | (simp; omega) | (dsimp only; omega)) rfl ?_
    intro h1 q1 E1 S1
    obtain ⟨t1, S1, hq1, ht1⟩ := S1
    obtain ⟨-, V1, h1c⟩ := id S1
    have hne1 : q1 ≠ a := fun q => hq1 (q ▸ hm)
    refine WP.getfield (pc' := 14) (host := "") dSI4_11 (Or.inl (hw _ (List.mem_of_getElem? (i := 25) rfl))) Via.refl V1 rfl ?_
    refine WP.putfield (pc' := 17) (host := "") dSI4_14 (Or.inl (hw _ (List.mem_of_getElem? (i := 25) rfl))) Via.refl (FV.ext E1) (E.ext E1) (Or.inr ⟨(hw _ (List.mem_of_getElem? (i := 21) rfl)), rfl, rfl⟩) (hw _ (List.mem_of_getElem? (i := 6) rfl)) (ty := (.array .byte)) (by decide) rfl rfl hm (Or.inl (List.mem_singleton.mpr rfl)) rfl ?_
    intro h2 W2 V2 E2
    refine WP.aloadN (pc' := 18) dSI4_17 rfl rfl rfl ?_
    refine WP.ldcS (pc' := 20) (text := "") (n := 0) dSI4_18 (by decide) (atoms hw) (by decide) (by decide) (by decide) (by first | exact Nat.le_of_ble_eq_true rfl | omega | (simp; done) | (simp; omega) | (dsimp only; omega)) (by first | exact Nat.le_of_ble_eq_true rfl | omega | (simp; done) | (simp; omega) | (dsimp only; omega)) rfl ?_
    intro h3 q3 E3 S3
    obtain ⟨t3, S3, hq3, ht3⟩ := S3
    have C3 : Fld Z h3 q3 ST "coder" "B" (.int 0) := by
      rcases S3.2.2 with q | q
      · exact q.2.1
      · exact absurd q.1 (by decide)
    refine WP.getfield (pc' := 23) (host := "") dSI4_20 (Or.inl (hw _ (List.mem_of_getElem? (i := 26) rfl))) Via.refl C3 rfl ?_
    have sne : Jvm.RoadKit.slotOf Z ST "value" "[B" ≠ Jvm.RoadKit.slotOf Z ST "coder" "B" := slot_ne (Or.inr (hw _ (List.mem_of_getElem? (i := 21) rfl))) (Or.inr (hw _ (List.mem_of_getElem? (i := 22) rfl))) (by decide) (t := .array .byte) (t' := .byte) (by decide) (by decide)
    have FC2 : Fld Z h3 a ST "coder" "B" (.int 0) := ((FC.ext E1).other W2 (Or.inr (Ne.symm sne))).ext E3
    refine WP.putfield (pc' := 26) (host := "") dSI4_23 (Or.inl (hw _ (List.mem_of_getElem? (i := 26) rfl))) Via.refl FC2 (E2.ext E3) (Or.inr ⟨(hw _ (List.mem_of_getElem? (i := 22) rfl)), rfl, rfl⟩) (hw _ (List.mem_of_getElem? (i := 6) rfl)) (ty := .byte) (by decide) rfl rfl hm (Or.inl (List.mem_singleton.mpr rfl)) rfl ?_
    intro h4 W4 C4 E4
    have S1' : StrAt Z h4 q1 t1 [] := (((S1.cells (fun c hc => by have := wr_at W2 hc; obtain ⟨c', g1, -, -, -, g5, -⟩ := this; rw [← g5 hne1]; exact g1) (fun c hc => by obtain ⟨c', g1, -, -, -, g5, -⟩ := wr_at W2 hc; rw [← g5 (fun q => ht1 (q ▸ hm))]; exact g1)).cells (fun c hc => E3.2 _ _ hc) (fun c hc => E3.2 _ _ hc)).cells (fun c hc => by obtain ⟨c', g1, -, -, -, g5, -⟩ := wr_at W4 hc; rw [← g5 hne1]; exact g1) (fun c hc => by obtain ⟨c', g1, -, -, -, g5, -⟩ := wr_at W4 hc; rw [← g5 (fun q => ht1 (q ▸ hm))]; exact g1))
    refine WP.vret dSI4_26 rfl ⟨rfl, rfl, t1, ⟨E4, (V2.ext E3).other W4 (Or.inr sne), Or.inl ⟨rfl, C4, ?_⟩⟩, ht1⟩ (fun _ hx => nomatch hx) (fun _ hx => hx) (by dsimp only; omega) (by dsimp only; omega)
    rcases S1'.2.2 with q | q
    · exact q.2.2
    · exact absurd q.1 (by decide)
  · refine WP.ifT (pc' := 27) dSI4_5 (by decide) (by decide) (fun q => by rw [show (0 : Int32) = Int32.ofNat 0 from rfl, n32_eq hl (by omega)] at q; omega) ?_
    refine WP.getstatic (pc' := 30) (host := "") dSI4_27 (Or.inl (hw _ (List.mem_of_getElem? (i := 67) rfl))) Via.refl hc.1 rfl ?_
    refine WP.ifF (pc' := 33) dSI4_30 rfl hc.2 ?_
    refine WP.aloadN (pc' := 34) dSI4_33 rfl rfl rfl ?_
    refine WP.iloadN (pc' := 35) dSI4_34 rfl rfl ?_
    refine WP.iloadN (pc' := 36) dSI4_35 rfl rfl ?_
    refine WP.callS (pc' := 39) (con_CP3 hw hu.a hsub hN hn A) (hw _ (List.mem_of_getElem? (i := 150) rfl)) (hw _ (List.mem_of_getElem? (i := 151) rfl)) (hw _ (List.mem_of_getElem? (i := 152) rfl)) (hw _ (List.mem_of_getElem? (i := 153) rfl)) dSI4_36 (by decide) pdx4 rfl rfl rfl (by first | exact Nat.le_of_ble_eq_true rfl | omega | (simp; done) | (simp; omega) | (dsimp only; omega)) (by first | exact Nat.le_of_ble_eq_true rfl | omega | (simp; done) | (simp; omega) | (dsimp only; omega)) (by first | exact Nat.le_of_ble_eq_true rfl | omega | (simp; done) | (simp; omega) | (dsimp only; omega)) (by first | exact Nat.le_of_ble_eq_true rfl | omega | (simp; done) | (simp; omega) | (dsimp only; omega)) (fun _ hx => nomatch hx) rfl ?_
    rintro v h1 nw K1 hnw ⟨rfl, t, rfl, ht, hT⟩
    dsimp only [Option.toList, List.cons_append, List.nil_append]
    refine WP.astore (pc' := 41) dSI4_39 rfl rfl rfl rfl rfl ?_
    dsimp only [List.set]
    refine WP.aloadN (pc' := 42) dSI4_41 rfl rfl rfl ?_
    refine WP.aload (pc' := 44) dSI4_42 rfl rfl rfl ?_
    refine WP.iloadN (pc' := 45) dSI4_44 rfl rfl ?_
    obtain ⟨xs, T, hxs⟩ : ∃ xs, ArI Z h1 t .byte xs ∧ ((lat us = true ∧ xs = us.map lo8) ∨ (lat us = false ∧ xs = b16 us)) := by
      rcases hT with ⟨q1, q2⟩ | ⟨q1, q2⟩
      · exact ⟨_, q2, Or.inl ⟨q1, rfl⟩⟩
      · exact ⟨_, q2, Or.inr ⟨q1, rfl⟩⟩
    have hta : t ≠ a := fun q => absurd E.lt (Nat.not_lt.mpr (q ▸ ht))
    refine WP.callS (pc' := 48) (con_CL T hl hxs) (hw _ (List.mem_of_getElem? (i := 157) rfl)) (hw _ (List.mem_of_getElem? (i := 158) rfl)) (hw _ (List.mem_of_getElem? (i := 152) rfl)) (hw _ (List.mem_of_getElem? (i := 159) rfl)) dSI4_45 (by decide) pdx6 rfl rfl rfl (by first | exact Nat.le_of_ble_eq_true rfl | omega | (simp; done) | (simp; omega) | (dsimp only; omega)) (by first | exact Nat.le_of_ble_eq_true rfl | omega | (simp; done) | (simp; omega) | (dsimp only; omega)) (by first | exact Nat.le_of_ble_eq_true rfl | omega | (simp; done) | (simp; omega) | (dsimp only; omega)) (by first | exact Nat.le_of_ble_eq_true rfl | omega | (simp; done) | (simp; omega) | (dsimp only; omega)) (fun _ hx => nomatch hx) rfl ?_
    rintro v h2 nw K2 hnw2 ⟨rfl, rfl, rfl⟩
    dsimp only [Option.toList, List.cons_append, List.nil_append]
    have E1 := E.keep K1
    refine WP.putfield (pc' := 51) (host := "") dSI4_48 (Or.inl (hw _ (List.mem_of_getElem? (i := 26) rfl))) Via.refl (FC.keep K1 nin0) E1 (Or.inr ⟨(hw _ (List.mem_of_getElem? (i := 22) rfl)), rfl, rfl⟩) (hw _ (List.mem_of_getElem? (i := 6) rfl)) (ty := .byte) (by decide) (by split <;> rfl) (by split <;> rfl) hm (Or.inl (List.mem_singleton.mpr rfl)) rfl ?_
    intro h3 W3 C3 E3
    refine WP.aloadN (pc' := 52) dSI4_51 rfl rfl rfl ?_
    refine WP.aload (pc' := 54) dSI4_52 rfl rfl rfl ?_
    have sne : Jvm.RoadKit.slotOf Z ST "value" "[B" ≠ Jvm.RoadKit.slotOf Z ST "coder" "B" := slot_ne (Or.inr (hw _ (List.mem_of_getElem? (i := 21) rfl))) (Or.inr (hw _ (List.mem_of_getElem? (i := 22) rfl))) (by decide) (t := .array .byte) (t' := .byte) (by decide) (by decide)
    refine WP.putfield (pc' := 57) (host := "") dSI4_54 (Or.inl (hw _ (List.mem_of_getElem? (i := 25) rfl))) Via.refl ((FV.keep K1 nin0).other W3 (Or.inr sne)) E3 (Or.inr ⟨(hw _ (List.mem_of_getElem? (i := 21) rfl)), rfl, rfl⟩) (hw _ (List.mem_of_getElem? (i := 6) rfl)) (ty := (.array .byte)) (by decide) rfl rfl hm (Or.inl (List.mem_singleton.mpr rfl)) rfl ?_
    intro h4 W4 V4 E4
    refine WP.vret dSI4_57 rfl ⟨rfl, rfl, t, ⟨E4, V4, ?_⟩, fun q => ?_⟩ (fun _ hx => nomatch hx) (fun _ hx => hx) (by dsimp only; omega) (by dsimp only; omega)
    · have T4 : ArI Z h4 t .byte xs := (T.other W3 hta).other W4 hta
      rcases hxs with ⟨q1, rfl⟩ | ⟨q1, rfl⟩
      · rw [if_pos q1] at C3
        exact Or.inl ⟨q1, C3.other W4 (Or.inr (Ne.symm sne)), T4⟩
      · rw [if_neg (by rw [q1]; decide)] at C3
        exact Or.inr ⟨q1, C3.other W4 (Or.inr (Ne.symm sne)), T4⟩
    · exact absurd (hmine t q).2 (Nat.not_lt.mpr ht)
theorem dSI1_0 : decode jdk_42_method_3_code 0 = .ok (.aload_n 0, 1) := by decide +kernel
theorem dSI1_1 : decode jdk_42_method_3_code 1 = .ok (.aload_n 1, 1) := by decide +kernel
theorem dSI1_2 : decode jdk_42_method_3_code 2 = .ok (.iconst 0, 1) := by decide +kernel
theorem dSI1_3 : decode jdk_42_method_3_code 3 = .ok (.aload_n 1, 1) := by decide +kernel
theorem dSI1_4 : decode jdk_42_method_3_code 4 = .ok (.arraylength, 1) := by decide +kernel
theorem dSI1_5 : decode jdk_42_method_3_code 5 = .ok (.aconst_null, 1) := by decide +kernel
theorem dSI1_6 : decode jdk_42_method_3_code 6 = .ok (.invokespecial 27, 3) := by decide +kernel
theorem dSI1_9 : decode jdk_42_method_3_code 9 = .ok (.return_, 1) := by decide +kernel
theorem pnSI1 : plainFor (⟨"java/lang/String", "<init>", "([C)V"⟩ : MethodName) = true := plainFor_of_name (by first | (simp [plainName, overriddenIn]; done) | decide +kernel)
set_option maxRecDepth 65536 in
set_option maxHeartbeats 40000000 in
theorem con_SI1 (hw : ∀ d ∈ tables_1, d.before a0 Z = true) {cz : Int32} (hc : Compact Z cz) {us : List UInt16} (hu : Hu Z us) {a b : Addr} {N : Nat} (hN : us.length ≤ N) (hn : N ≤ 33554432) (E : Exa Z h a ST) (FV : Fld Z h a ST "value" "[B" .null) (FC : Fld Z h a ST "coder" "B" (.int 0)) (A : ArI Z h b .char (us.map chv)) (hm : a ∈ mine) :
    Con (⟨"java/lang/String", "<init>", "([C)V"⟩ : MethodName) jdk_42_method_3_code 2 none { frames := 5, cells := 4, slots := 3 * N + 8, locals := 74 } Z LT [] #[.ref a, .ref b] h [a] mine (fun v h' nw => nw = [] ∧ v = none ∧ ∃ t, StrAt Z h' a t us ∧ t ∉ mine) := by
  refine Con.of pnSI1 (Ls := [.val (.ref a), .val (.ref b)]) (fun m => by first | (simp [entryFrame, mkF, argsToLocals, Value.category]; done) | (simp [entryFrame, mkF, argsToLocals, Value.category, maxLocals]; done) | rfl) ?_
  refine WP.aloadN (pc' := 1) dSI1_0 rfl rfl rfl ?_
  refine WP.aloadN (pc' := 2) dSI1_1 rfl rfl rfl ?_
  refine WP.iconst (pc' := 3) (x := 0) dSI1_2 (by decide) rfl ?_
  refine WP.aloadN (pc' := 4) dSI1_3 rfl rfl rfl ?_
  refine WP.arraylength (pc' := 5) dSI1_4 A (n := Int32.ofNat us.length) (by simp) rfl ?_
  refine WP.aconstNull (pc' := 6) dSI1_5 rfl ?_
  refine WP.callSp (pc' := 9) (con_SI4 (off := 0) hw hc hu (SubC.full us) hN hn E FV FC A hm) rfl (hw _ (List.mem_of_getElem? (i := 12) rfl)) (hw _ (List.mem_of_getElem? (i := 13) rfl)) (hw _ (List.mem_of_getElem? (i := 7) rfl)) (hw _ (List.mem_of_getElem? (i := 15) rfl)) dSI1_6 (by decide) pdx7 rfl rfl rfl (by first | exact Nat.le_of_ble_eq_true rfl | omega | (simp; done) | (simp; omega) | (dsimp only; omega)) (by first | exact Nat.le_of_ble_eq_true rfl | omega | (simp; done) | (simp; omega) | (dsimp only; omega)) (by first | exact Nat.le_of_ble_eq_true rfl | omega | (simp; done) | (simp; omega) | (dsimp only; omega)) (by first | exact Nat.le_of_ble_eq_true rfl | omega | (simp; done) | (simp; omega) | (dsimp only; omega)) (fun x hx => Or.inl hx) rfl ?_
  rintro v h1 nw K1 hnw ⟨rfl, rfl, t, S, ht⟩
  dsimp only [Option.toList, List.nil_append]
  exact WP.vret dSI1_9 rfl ⟨rfl, rfl, t, S, ht⟩ (fun _ hx => nomatch hx) (fun _ hx => hx) (by dsimp only; omega) (by dsimp only; omega)
end JdkStr
end Jvm.Pilot.@@N@@

namespace Jvm.Pilot.@@N@@
open Jvm Jvm.ClassFile Sem Op Lib Jvm.Free Jvm.Stand Jvm.LawKit Jvm.RoadKit Bundle Jvm.Pilot.@@N@@.Jvm.D Jvm.OwnW

section JdkCod
variable {Z : State} {a0 : Array Value} {h : Heap} {mine : List Addr}
theorem dCO_0 : decode jdk_42_method_152_code 0 = .ok (.getstatic 38, 3) := by decide +kernel
theorem dCO_3 : decode jdk_42_method_152_code 3 = .ok (.ifCond .eq 10, 3) := by decide +kernel
theorem dCO_6 : decode jdk_42_method_152_code 6 = .ok (.aload_n 0, 1) := by decide +kernel
theorem dCO_7 : decode jdk_42_method_152_code 7 = .ok (.getfield 15, 3) := by decide +kernel
theorem dCO_10 : decode jdk_42_method_152_code 10 = .ok (.goto 4, 3) := by decide +kernel
theorem dCO_13 : decode jdk_42_method_152_code 13 = .ok (.iconst 1, 1) := by decide +kernel
theorem dCO_14 : decode jdk_42_method_152_code 14 = .ok (.ireturn, 1) := by decide +kernel
theorem pnCO : plainFor (⟨"java/lang/String", "coder", "()B"⟩ : MethodName) = true := plainFor_of_name (by first | (simp [plainName, overriddenIn]; done) | decide +kernel)
set_option maxRecDepth 65536 in
set_option maxHeartbeats 40000000 in
theorem con_CO (hw : ∀ d ∈ tables_1, d.before a0 Z = true) {cz : Int32} (hc : Compact Z cz) {a t : Addr} {us : List UInt16} (S : StrAt Z h a t us) : Con (⟨"java/lang/String", "coder", "()B"⟩ : MethodName) jdk_42_method_152_code 1 (some .byte) R0 Z LT [] #[.ref a] h [] mine (fun v h' nw => nw = [] ∧ v = some (.int (cod us)) ∧ h' = h) := by
  obtain ⟨e1, v1, c1, b1⟩ := S.open
  refine Con.of pnCO (Ls := [.val (.ref a)]) (fun m => by first | (simp [entryFrame, mkF, argsToLocals, Value.category]; done) | (simp [entryFrame, mkF, argsToLocals, Value.category, maxLocals]; done) | rfl) ?_
  refine WP.getstatic (pc' := 3) (host := "") dCO_0 (Or.inl (hw _ (List.mem_of_getElem? (i := 67) rfl))) Via.refl hc.1 rfl ?_
  refine WP.ifF (pc' := 6) dCO_3 rfl hc.2 ?_
  refine WP.aloadN (pc' := 7) dCO_6 rfl rfl rfl ?_
  refine WP.getfield (pc' := 10) (host := "") dCO_7 (Or.inl (hw _ (List.mem_of_getElem? (i := 26) rfl))) Via.refl c1 rfl ?_
  refine WP.goto (pc' := 14) dCO_10 (by decide) (by decide) ?_
  exact WP.ireturn dCO_14 rfl (by simp) (by unfold cod; split <;> rfl) ⟨rfl, rfl, rfl⟩ (fun _ hx => nomatch hx) (fun _ hx => hx) (Nat.le_refl _) (Nat.le_refl _)
theorem dIL_0 : decode jdk_42_method_154_code 0 = .ok (.getstatic 38, 3) := by decide +kernel
theorem dIL_3 : decode jdk_42_method_154_code 3 = .ok (.ifCond .eq 14, 3) := by decide +kernel
theorem dIL_6 : decode jdk_42_method_154_code 6 = .ok (.aload_n 0, 1) := by decide +kernel
theorem dIL_7 : decode jdk_42_method_154_code 7 = .ok (.getfield 15, 3) := by decide +kernel
theorem dIL_10 : decode jdk_42_method_154_code 10 = .ok (.ifCond .ne 7, 3) := by decide +kernel
theorem dIL_13 : decode jdk_42_method_154_code 13 = .ok (.iconst 1, 1) := by decide +kernel
theorem dIL_14 : decode jdk_42_method_154_code 14 = .ok (.goto 4, 3) := by decide +kernel
theorem dIL_17 : decode jdk_42_method_154_code 17 = .ok (.iconst 0, 1) := by decide +kernel
theorem dIL_18 : decode jdk_42_method_154_code 18 = .ok (.ireturn, 1) := by decide +kernel
theorem pnIL : plainFor (⟨"java/lang/String", "isLatin1", "()Z"⟩ : MethodName) = true := plainFor_of_name (by first | (simp [plainName, overriddenIn]; done) | decide +kernel)
set_option maxRecDepth 65536 in
set_option maxHeartbeats 40000000 in
theorem con_IL (hw : ∀ d ∈ tables_1, d.before a0 Z = true) {cz : Int32} (hc : Compact Z cz) {a t : Addr} {us : List UInt16} (S : StrAt Z h a t us) : Con (⟨"java/lang/String", "isLatin1", "()Z"⟩ : MethodName) jdk_42_method_154_code 1 (some .boolean) R0 Z LT [] #[.ref a] h [] mine (fun v h' nw => nw = [] ∧ v = some (.int (if lat us = true then 1 else 0)) ∧ h' = h) := by
  obtain ⟨e1, v1, c1, b1⟩ := S.open
  refine Con.of pnIL (Ls := [.val (.ref a)]) (fun m => by first | (simp [entryFrame, mkF, argsToLocals, Value.category]; done) | (simp [entryFrame, mkF, argsToLocals, Value.category, maxLocals]; done) | rfl) ?_
  refine WP.getstatic (pc' := 3) (host := "") dIL_0 (Or.inl (hw _ (List.mem_of_getElem? (i := 67) rfl))) Via.refl hc.1 rfl ?_
  refine WP.ifF (pc' := 6) dIL_3 rfl hc.2 ?_
  refine WP.aloadN (pc' := 7) dIL_6 rfl rfl rfl ?_
  refine WP.getfield (pc' := 10) (host := "") dIL_7 (Or.inl (hw _ (List.mem_of_getElem? (i := 26) rfl))) Via.refl c1 rfl ?_
  cases hl : lat us
  · rw [cod_utf hl]
    refine WP.ifT (pc' := 17) dIL_10 (by decide) (by decide) (show ¬ (1 : Int32) = 0 by decide) ?_
    refine WP.iconst (pc' := 18) (x := 0) dIL_17 (by decide) rfl ?_
    exact WP.ireturn dIL_18 rfl (by simp) rfl ⟨rfl, rfl, rfl⟩ (fun _ hx => nomatch hx) (fun _ hx => hx) (Nat.le_refl _) (Nat.le_refl _)
  · rw [cod_lat hl]
    refine WP.ifF (pc' := 13) dIL_10 rfl rfl ?_
    refine WP.iconst (pc' := 14) (x := 1) dIL_13 (by decide) rfl ?_
    refine WP.goto (pc' := 18) dIL_14 (by decide) (by decide) ?_
    exact WP.ireturn dIL_18 rfl (by simp) rfl ⟨rfl, rfl, rfl⟩ (fun _ hx => nomatch hx) (fun _ hx => hx) (Nat.le_refl _) (Nat.le_refl _)
theorem dUL_0 : decode jdk_52_method_6_code 0 = .ok (.aload_n 0, 1) := by decide +kernel
theorem dUL_1 : decode jdk_52_method_6_code 1 = .ok (.arraylength, 1) := by decide +kernel
theorem dUL_2 : decode jdk_52_method_6_code 2 = .ok (.iconst 1, 1) := by decide +kernel
theorem dUL_3 : decode jdk_52_method_6_code 3 = .ok (.ishr, 1) := by decide +kernel
theorem dUL_4 : decode jdk_52_method_6_code 4 = .ok (.ireturn, 1) := by decide +kernel
theorem pnUL : plainFor (⟨"java/lang/StringUTF16", "length", "([B)I"⟩ : MethodName) = true := plainFor_of_name (by first | (simp [plainName, overriddenIn]; done) | decide +kernel)
set_option maxRecDepth 65536 in
set_option maxHeartbeats 40000000 in
theorem con_UL {t : Addr} {us : List UInt16} (T : ArI Z h t .byte (b16 us)) : Con (⟨"java/lang/StringUTF16", "length", "([B)I"⟩ : MethodName) jdk_52_method_6_code 1 (some .int) R0 Z LT [] #[.ref t] h [] mine (fun v h' nw => nw = [] ∧ v = some (.int (Int32.ofNat us.length)) ∧ h' = h) := by
  have hl := T.len
  rw [b16_len] at hl
  refine Con.of pnUL (Ls := [.val (.ref t)]) (fun m => by first | (simp [entryFrame, mkF, argsToLocals, Value.category]; done) | (simp [entryFrame, mkF, argsToLocals, Value.category, maxLocals]; done) | rfl) ?_
  refine WP.aloadN (pc' := 1) dUL_0 rfl rfl rfl ?_
  refine WP.arraylength (pc' := 2) dUL_1 T (n := Int32.ofNat (2 * us.length)) (by rw [b16_len]) rfl ?_
  refine WP.iconst (pc' := 3) (x := 1) dUL_2 (by decide) rfl ?_
  refine WP.ishr (pc' := 4) dUL_3 rfl ?_
  rw [n32_half (by omega)]
  exact WP.ireturn dUL_4 rfl (by simp) rfl ⟨rfl, rfl, rfl⟩ (fun _ hx => nomatch hx) (fun _ hx => hx) (Nat.le_refl _) (Nat.le_refl _)
end JdkCod
end Jvm.Pilot.@@N@@

namespace Jvm.Pilot.@@N@@
open Jvm Jvm.ClassFile Sem Op Lib Jvm.Free Jvm.Stand Jvm.LawKit Jvm.RoadKit Bundle Jvm.Pilot.@@N@@.Jvm.D Jvm.OwnW
theorem pdx8 : parseMethodDescriptor "()B" = some ⟨[], some .byte⟩ := by decide +kernel
theorem pdx9 : parseMethodDescriptor "(IILjava/util/function/BiFunction;)I" = some ⟨[.int, .int, (.object "java/util/function/BiFunction")], some .int⟩ := by decide +kernel
theorem pdx10 : parseMethodDescriptor "(II)V" = some ⟨[.int, .int], none⟩ := by decide +kernel
theorem pdx11 : parseMethodDescriptor "([B)I" = some ⟨[(.array .byte)], some .int⟩ := by decide +kernel
theorem pdx12 : parseMethodDescriptor "(I[B)V" = some ⟨[.int, (.array .byte)], none⟩ := by decide +kernel
theorem pdx13 : parseMethodDescriptor "()Z" = some ⟨[], some .boolean⟩ := by decide +kernel
def Fmt (Z : State) (vf : Value) : Prop := Sta Z Z.heap "jdk/internal/util/Preconditions" "SIOOBE_FORMATTER" "Ljava/util/function/BiFunction;" vf ∧ vf.isRef = true
theorem n32_nn {i : Nat} (h : i < 2 ^ 31) : ¬ Int32.ofNat i < 0 := fun q => by rw [Int32.lt_iff_toInt_lt, n32_toInt h] at q; simp at q; omega
theorem n32_or3 {i j k : Nat} (hi : i < 2 ^ 31) (hj : j < 2 ^ 31) (hk : k < 2 ^ 31) : ¬ ((Int32.ofNat i ||| Int32.ofNat j) ||| Int32.ofNat k) < 0 := fun q => by
  rw [Int32.lt_iff_toInt_lt] at q
  have h1 := (c_orS (Int32.ofNat i) (Int32.ofNat j)).1
  have h2 := (c_orS (Int32.ofNat i ||| Int32.ofNat j) (Int32.ofNat k)).1
  rw [n32_toInt hi, n32_toInt hj] at h1
  rw [n32_toInt hk] at h2
  have h3 := h2 (h1 (by omega) (by omega)) (by omega)
  have e0 : (0 : Int32).toInt = 0 := rfl
  omega
theorem i32_sub0 (x : Int32) : x - 0 = x := by simp
theorem len_shr {us : List UInt16} (h : (byt us).length < 2 ^ 31) : Int32.ofNat (byt us).length >>> (cod us &&& 31) = Int32.ofNat us.length := by
  cases hl : lat us
  · rw [cod_utf hl, byt_utf hl] at *
    rw [b16_len] at *
    exact n32_half h
  · rw [cod_lat hl, byt_lat hl] at *
    have s := c_ishr (Int32.ofNat (us.map lo8).length) 0 0 (by decide)
    apply Int32.toInt_inj.mp
    rw [s]; simp
section JdkChr
variable {Z : State} {a0 : Array Value} {h : Heap} {mine : List Addr}
theorem dLEN_0 : decode jdk_42_method_54_code 0 = .ok (.aload_n 0, 1) := by decide +kernel
theorem dLEN_1 : decode jdk_42_method_54_code 1 = .ok (.getfield 9, 3) := by decide +kernel
theorem dLEN_4 : decode jdk_42_method_54_code 4 = .ok (.arraylength, 1) := by decide +kernel
theorem dLEN_5 : decode jdk_42_method_54_code 5 = .ok (.aload_n 0, 1) := by decide +kernel
theorem dLEN_6 : decode jdk_42_method_54_code 6 = .ok (.invokevirtual 335, 3) := by decide +kernel
theorem dLEN_9 : decode jdk_42_method_54_code 9 = .ok (.ishr, 1) := by decide +kernel
theorem dLEN_10 : decode jdk_42_method_54_code 10 = .ok (.ireturn, 1) := by decide +kernel
theorem pnLEN : plainFor (⟨"java/lang/String", "length", "()I"⟩ : MethodName) = true := plainFor_of_name (by first | (simp [plainName, overriddenIn]; done) | decide +kernel)
set_option maxRecDepth 65536 in
set_option maxHeartbeats 40000000 in
theorem con_LEN (hw : ∀ d ∈ tables_1, d.before a0 Z = true) {cz : Int32} (hc : Compact Z cz) {a t : Addr} {us : List UInt16} (S : StrAt Z h a t us) : Con (⟨"java/lang/String", "length", "()I"⟩ : MethodName) jdk_42_method_54_code 1 (some .int) { frames := 1, cells := 0, slots := 0, locals := 13 } Z LT [] #[.ref a] h [] mine (fun v h' nw => nw = [] ∧ v = some (.int (Int32.ofNat us.length)) ∧ h' = h) := by
  obtain ⟨e1, v1, c1, b1⟩ := S.open
  refine Con.of pnLEN (Ls := [.val (.ref a)]) (fun m => by first | (simp [entryFrame, mkF, argsToLocals, Value.category]; done) | (simp [entryFrame, mkF, argsToLocals, Value.category, maxLocals]; done) | rfl) ?_
  refine WP.aloadN (pc' := 1) dLEN_0 rfl rfl rfl ?_
  refine WP.getfield (pc' := 4) (host := "") dLEN_1 (Or.inl (hw _ (List.mem_of_getElem? (i := 25) rfl))) Via.refl v1 rfl ?_
  refine WP.arraylength (pc' := 5) dLEN_4 b1 rfl rfl ?_
  refine WP.aloadN (pc' := 6) dLEN_5 rfl rfl rfl ?_
  refine WP.callV (pc' := 9) (con_CO hw hc S) e1 (hw _ (List.mem_of_getElem? (i := 62) rfl)) (hw _ (List.mem_of_getElem? (i := 63) rfl)) (fun s hs => notFace_of_selects (args := #[]) (mv hs (hw _ (List.mem_of_getElem? (i := 65) rfl)))) (hw _ (List.mem_of_getElem? (i := 65) rfl)) (hw _ (List.mem_of_getElem? (i := 64) rfl)) (hw _ (List.mem_of_getElem? (i := 7) rfl)) (hw _ (List.mem_of_getElem? (i := 66) rfl)) dLEN_6 (by decide) pdx8 rfl rfl rfl (by first | exact Nat.le_of_ble_eq_true rfl | omega | (simp; done) | (simp; omega) | (dsimp only; omega)) (by first | exact Nat.le_of_ble_eq_true rfl | omega | (simp; done) | (simp; omega) | (dsimp only; omega)) (by first | exact Nat.le_of_ble_eq_true rfl | omega | (simp; done) | (simp; omega) | (dsimp only; omega)) (by first | exact Nat.le_of_ble_eq_true rfl | omega | (simp; done) | (simp; omega) | (dsimp only; omega)) (fun _ hx => nomatch hx) rfl ?_
  rintro v h' nw K hnw ⟨rfl, rfl, rfl⟩
  dsimp only [Option.toList, List.cons_append, List.nil_append]
  refine WP.ishr (pc' := 10) dLEN_9 rfl ?_
  rw [len_shr b1.len]
  exact WP.ireturn dLEN_10 rfl (by simp) rfl ⟨rfl, rfl, rfl⟩ (fun _ hx => nomatch hx) (fun _ hx => hx) (by first | exact Nat.le_of_ble_eq_true rfl | omega) (by first | exact Nat.le_of_ble_eq_true rfl | omega)
theorem dPCI_0 : decode jdk_41_method_11_code 0 = .ok (.iload_n 0, 1) := by decide +kernel
theorem dPCI_1 : decode jdk_41_method_11_code 1 = .ok (.ifCond .lt 8, 3) := by decide +kernel
theorem dPCI_4 : decode jdk_41_method_11_code 4 = .ok (.iload_n 0, 1) := by decide +kernel
theorem dPCI_5 : decode jdk_41_method_11_code 5 = .ok (.iload_n 1, 1) := by decide +kernel
theorem dPCI_6 : decode jdk_41_method_11_code 6 = .ok (.if_icmp .lt 10, 3) := by decide +kernel
theorem dPCI_9 : decode jdk_41_method_11_code 9 = .ok (.aload_n 2, 1) := by decide +kernel
theorem dPCI_10 : decode jdk_41_method_11_code 10 = .ok (.iload_n 0, 1) := by decide +kernel
theorem dPCI_11 : decode jdk_41_method_11_code 11 = .ok (.iload_n 1, 1) := by decide +kernel
theorem dPCI_12 : decode jdk_41_method_11_code 12 = .ok (.invokestatic 95, 3) := by decide +kernel
theorem dPCI_15 : decode jdk_41_method_11_code 15 = .ok (.athrow, 1) := by decide +kernel
theorem dPCI_16 : decode jdk_41_method_11_code 16 = .ok (.iload_n 0, 1) := by decide +kernel
theorem dPCI_17 : decode jdk_41_method_11_code 17 = .ok (.ireturn, 1) := by decide +kernel
theorem pnPCI : plainFor (⟨"jdk/internal/util/Preconditions", "checkIndex", "(IILjava/util/function/BiFunction;)I"⟩ : MethodName) = true := plainFor_of_name (by first | (simp [plainName, overriddenIn]; done) | decide +kernel)
set_option maxRecDepth 65536 in
set_option maxHeartbeats 40000000 in
theorem con_PCI {vf : Value} (hf : Fmt Z vf) {i n : Nat} (hi : i < n) (hn : n < 2 ^ 31) : Con (⟨"jdk/internal/util/Preconditions", "checkIndex", "(IILjava/util/function/BiFunction;)I"⟩ : MethodName) jdk_41_method_11_code 3 (some .int) R0 Z LT [] #[.int (Int32.ofNat i), .int (Int32.ofNat n), vf] h [] mine (fun v h' nw => nw = [] ∧ v = some (.int (Int32.ofNat i)) ∧ h' = h) := by
  refine Con.of pnPCI (Ls := [.val (.int (Int32.ofNat i)), .val (.int (Int32.ofNat n)), .val vf]) (fun m => by rcases ref_cases hf.2 with rfl | ⟨q, rfl⟩ <;> simp [entryFrame, mkF, argsToLocals, Value.category]) ?_
  refine WP.iloadN (pc' := 1) dPCI_0 rfl rfl ?_
  refine WP.ifF (pc' := 4) dPCI_1 rfl (n32_nn (by omega)) ?_
  refine WP.iloadN (pc' := 5) dPCI_4 rfl rfl ?_
  refine WP.iloadN (pc' := 6) dPCI_5 rfl rfl ?_
  refine WP.icmpT (pc' := 16) dPCI_6 (by decide) (by decide) ((n32_lt (by omega) hn).mpr hi) ?_
  refine WP.iloadN (pc' := 17) dPCI_16 rfl rfl ?_
  exact WP.ireturn dPCI_17 rfl (by simp) rfl ⟨rfl, rfl, rfl⟩ (fun _ hx => nomatch hx) (fun _ hx => hx) (by first | exact Nat.le_of_ble_eq_true rfl | omega) (by first | exact Nat.le_of_ble_eq_true rfl | omega)
theorem dCI_0 : decode jdk_42_method_155_code 0 = .ok (.iload_n 0, 1) := by decide +kernel
theorem dCI_1 : decode jdk_42_method_155_code 1 = .ok (.iload_n 1, 1) := by decide +kernel
theorem dCI_2 : decode jdk_42_method_155_code 2 = .ok (.getstatic 1053, 3) := by decide +kernel
theorem dCI_5 : decode jdk_42_method_155_code 5 = .ok (.invokestatic 1059, 3) := by decide +kernel
theorem dCI_8 : decode jdk_42_method_155_code 8 = .ok (.pop, 1) := by decide +kernel
theorem dCI_9 : decode jdk_42_method_155_code 9 = .ok (.return_, 1) := by decide +kernel
theorem pnCI : plainFor (⟨"java/lang/String", "checkIndex", "(II)V"⟩ : MethodName) = true := plainFor_of_name (by first | (simp [plainName, overriddenIn]; done) | decide +kernel)
set_option maxRecDepth 65536 in
set_option maxHeartbeats 40000000 in
theorem con_CI (hw : ∀ d ∈ tables_1, d.before a0 Z = true) {vf : Value} (hf : Fmt Z vf) {i n : Nat} (hi : i < n) (hn : n < 2 ^ 31) : Con (⟨"java/lang/String", "checkIndex", "(II)V"⟩ : MethodName) jdk_42_method_155_code 2 none { frames := 1, cells := 0, slots := 0, locals := 14 } Z LT [] #[.int (Int32.ofNat i), .int (Int32.ofNat n)] h [] mine (fun v h' nw => nw = [] ∧ v = none ∧ h' = h) := by
  refine Con.of pnCI (Ls := [.val (.int (Int32.ofNat i)), .val (.int (Int32.ofNat n))]) (fun m => by first | (simp [entryFrame, mkF, argsToLocals, Value.category]; done) | (simp [entryFrame, mkF, argsToLocals, Value.category, maxLocals]; done) | rfl) ?_
  refine WP.iloadN (pc' := 1) dCI_0 rfl rfl ?_
  refine WP.iloadN (pc' := 2) dCI_1 rfl rfl ?_
  refine WP.getstatic (pc' := 5) (host := "") dCI_2 (Or.inl (hw _ (List.mem_of_getElem? (i := 235) rfl))) Via.refl hf.1 rfl ?_
  refine WP.callS (pc' := 8) (con_PCI hf hi hn) (hw _ (List.mem_of_getElem? (i := 237) rfl)) (hw _ (List.mem_of_getElem? (i := 238) rfl)) (hw _ (List.mem_of_getElem? (i := 236) rfl)) (hw _ (List.mem_of_getElem? (i := 239) rfl)) dCI_5 (by decide) pdx9 rfl rfl rfl (by first | exact Nat.le_of_ble_eq_true rfl | omega | (simp; done) | (simp; omega) | (dsimp only; omega)) (by first | exact Nat.le_of_ble_eq_true rfl | omega | (simp; done) | (simp; omega) | (dsimp only; omega)) (by first | exact Nat.le_of_ble_eq_true rfl | omega | (simp; done) | (simp; omega) | (dsimp only; omega)) (by first | exact Nat.le_of_ble_eq_true rfl | omega | (simp; done) | (simp; omega) | (dsimp only; omega)) (fun _ hx => nomatch hx) rfl ?_
  rintro v h' nw K hnw ⟨rfl, rfl, rfl⟩
  dsimp only [Option.toList, List.cons_append, List.nil_append]
  refine WP.pop (pc' := 9) dCI_8 rfl rfl ?_
  exact WP.vret dCI_9 rfl ⟨rfl, rfl, rfl⟩ (fun _ hx => nomatch hx) (fun _ hx => hx) (by first | exact Nat.le_of_ble_eq_true rfl | omega) (by first | exact Nat.le_of_ble_eq_true rfl | omega)
theorem dLCA_0 : decode jdk_43_method_2_code 0 = .ok (.iload_n 1, 1) := by decide +kernel
theorem dLCA_1 : decode jdk_43_method_2_code 1 = .ok (.aload_n 0, 1) := by decide +kernel
theorem dLCA_2 : decode jdk_43_method_2_code 2 = .ok (.arraylength, 1) := by decide +kernel
theorem dLCA_3 : decode jdk_43_method_2_code 3 = .ok (.invokestatic 9, 3) := by decide +kernel
theorem dLCA_6 : decode jdk_43_method_2_code 6 = .ok (.aload_n 0, 1) := by decide +kernel
theorem dLCA_7 : decode jdk_43_method_2_code 7 = .ok (.iload_n 1, 1) := by decide +kernel
theorem dLCA_8 : decode jdk_43_method_2_code 8 = .ok (.baload, 1) := by decide +kernel
theorem dLCA_9 : decode jdk_43_method_2_code 9 = .ok (.sipush 255, 3) := by decide +kernel
theorem dLCA_12 : decode jdk_43_method_2_code 12 = .ok (.iand, 1) := by decide +kernel
theorem dLCA_13 : decode jdk_43_method_2_code 13 = .ok (.i2c, 1) := by decide +kernel
theorem dLCA_14 : decode jdk_43_method_2_code 14 = .ok (.ireturn, 1) := by decide +kernel
theorem pnLCA : plainFor (⟨"java/lang/StringLatin1", "charAt", "([BI)C"⟩ : MethodName) = true := plainFor_of_name (by first | (simp [plainName, overriddenIn]; done) | decide +kernel)
set_option maxRecDepth 65536 in
set_option maxHeartbeats 40000000 in
theorem con_LCA (hw : ∀ d ∈ tables_1, d.before a0 Z = true) {vf : Value} (hf : Fmt Z vf) {t : Addr} {us : List UInt16} {i : Nat} {u : UInt16} (hl : lat us = true) (T : ArI Z h t .byte (us.map lo8)) (hu : us[i]? = some u) : Con (⟨"java/lang/StringLatin1", "charAt", "([BI)C"⟩ : MethodName) jdk_43_method_2_code 2 (some .char) { frames := 2, cells := 0, slots := 0, locals := 27 } Z LT [] #[.ref t, .int (Int32.ofNat i)] h [] mine (fun v h' nw => nw = [] ∧ v = some (.int (chv u)) ∧ h' = h) := by
  have hil : i < us.length := (List.getElem?_eq_some_iff.mp hu).1
  have hn : us.length < 2 ^ 31 := by simpa using T.len
  refine Con.of pnLCA (Ls := [.val (.ref t), .val (.int (Int32.ofNat i))]) (fun m => by first | (simp [entryFrame, mkF, argsToLocals, Value.category]; done) | (simp [entryFrame, mkF, argsToLocals, Value.category, maxLocals]; done) | rfl) ?_
  refine WP.iloadN (pc' := 1) dLCA_0 rfl rfl ?_
  refine WP.aloadN (pc' := 2) dLCA_1 rfl rfl rfl ?_
  refine WP.arraylength (pc' := 3) dLCA_2 T (n := Int32.ofNat us.length) (by simp) rfl ?_
  refine WP.callS (pc' := 6) (con_CI hw hf hil hn) (hw _ (List.mem_of_getElem? (i := 232) rfl)) (hw _ (List.mem_of_getElem? (i := 233) rfl)) (hw _ (List.mem_of_getElem? (i := 7) rfl)) (hw _ (List.mem_of_getElem? (i := 234) rfl)) dLCA_3 (by decide) pdx10 rfl rfl rfl (by first | exact Nat.le_of_ble_eq_true rfl | omega | (simp; done) | (simp; omega) | (dsimp only; omega)) (by first | exact Nat.le_of_ble_eq_true rfl | omega | (simp; done) | (simp; omega) | (dsimp only; omega)) (by first | exact Nat.le_of_ble_eq_true rfl | omega | (simp; done) | (simp; omega) | (dsimp only; omega)) (by first | exact Nat.le_of_ble_eq_true rfl | omega | (simp; done) | (simp; omega) | (dsimp only; omega)) (fun _ hx => nomatch hx) rfl ?_
  rintro v h' nw K hnw ⟨rfl, rfl, rfl⟩
  dsimp only [Option.toList, List.nil_append]
  refine WP.aloadN (pc' := 7) dLCA_6 rfl rfl rfl ?_
  refine WP.iloadN (pc' := 8) dLCA_7 rfl rfl ?_
  refine WP.baload (pc' := 9) dLCA_8 T (n32_toInt (by omega)) (x := lo8 u) (by simp [hu]) rfl ?_
  refine WP.sipush (pc' := 12) (x := 255) dLCA_9 (by decide) rfl ?_
  refine WP.iand (pc' := 13) dLCA_12 rfl ?_
  refine WP.i2c (pc' := 14) dLCA_13 rfl ?_
  rw [lo8_and u ((lat_iff us).mp hl i u hu), chv_i2c]
  exact WP.ireturn dLCA_14 rfl (by simp) (congrArg Value.int (chv_nar u)) ⟨rfl, rfl, rfl⟩ (fun _ hx => nomatch hx) (fun _ hx => hx) (by first | exact Nat.le_of_ble_eq_true rfl | omega) (by first | exact Nat.le_of_ble_eq_true rfl | omega)
theorem dUCI_0 : decode jdk_52_method_91_code 0 = .ok (.iload_n 0, 1) := by decide +kernel
theorem dUCI_1 : decode jdk_52_method_91_code 1 = .ok (.aload_n 1, 1) := by decide +kernel
theorem dUCI_2 : decode jdk_52_method_91_code 2 = .ok (.invokestatic 48, 3) := by decide +kernel
theorem dUCI_5 : decode jdk_52_method_91_code 5 = .ok (.invokestatic 414, 3) := by decide +kernel
theorem dUCI_8 : decode jdk_52_method_91_code 8 = .ok (.return_, 1) := by decide +kernel
theorem pnUCI : plainFor (⟨"java/lang/StringUTF16", "checkIndex", "(I[B)V"⟩ : MethodName) = true := plainFor_of_name (by first | (simp [plainName, overriddenIn]; done) | decide +kernel)
set_option maxRecDepth 65536 in
set_option maxHeartbeats 40000000 in
theorem con_UCI (hw : ∀ d ∈ tables_1, d.before a0 Z = true) {vf : Value} (hf : Fmt Z vf) {t : Addr} {us : List UInt16} {i : Nat} (T : ArI Z h t .byte (b16 us)) (hi : i < us.length) : Con (⟨"java/lang/StringUTF16", "checkIndex", "(I[B)V"⟩ : MethodName) jdk_52_method_91_code 2 none { frames := 2, cells := 0, slots := 0, locals := 27 } Z LT [] #[.int (Int32.ofNat i), .ref t] h [] mine (fun v h' nw => nw = [] ∧ v = none ∧ h' = h) := by
  have hn : us.length < 2 ^ 31 := by have := T.len; rw [b16_len] at this; omega
  refine Con.of pnUCI (Ls := [.val (.int (Int32.ofNat i)), .val (.ref t)]) (fun m => by first | (simp [entryFrame, mkF, argsToLocals, Value.category]; done) | (simp [entryFrame, mkF, argsToLocals, Value.category, maxLocals]; done) | rfl) ?_
  refine WP.iloadN (pc' := 1) dUCI_0 rfl rfl ?_
  refine WP.aloadN (pc' := 2) dUCI_1 rfl rfl rfl ?_
  refine WP.callS (pc' := 5) (con_UL T) (hw _ (List.mem_of_getElem? (i := 268) rfl)) (hw _ (List.mem_of_getElem? (i := 269) rfl)) (hw _ (List.mem_of_getElem? (i := 152) rfl)) (hw _ (List.mem_of_getElem? (i := 270) rfl)) dUCI_2 (by decide) pdx11 rfl rfl rfl (by first | exact Nat.le_of_ble_eq_true rfl | omega | (simp; done) | (simp; omega) | (dsimp only; omega)) (by first | exact Nat.le_of_ble_eq_true rfl | omega | (simp; done) | (simp; omega) | (dsimp only; omega)) (by first | exact Nat.le_of_ble_eq_true rfl | omega | (simp; done) | (simp; omega) | (dsimp only; omega)) (by first | exact Nat.le_of_ble_eq_true rfl | omega | (simp; done) | (simp; omega) | (dsimp only; omega)) (fun _ hx => nomatch hx) rfl ?_
  rintro v h' nw K hnw ⟨rfl, rfl, rfl⟩
  dsimp only [Option.toList, List.cons_append, List.nil_append]
  refine WP.callS (pc' := 8) (con_CI hw hf hi hn) (hw _ (List.mem_of_getElem? (i := 295) rfl)) (hw _ (List.mem_of_getElem? (i := 233) rfl)) (hw _ (List.mem_of_getElem? (i := 7) rfl)) (hw _ (List.mem_of_getElem? (i := 234) rfl)) dUCI_5 (by decide) pdx10 rfl rfl rfl (by first | exact Nat.le_of_ble_eq_true rfl | omega | (simp; done) | (simp; omega) | (dsimp only; omega)) (by first | exact Nat.le_of_ble_eq_true rfl | omega | (simp; done) | (simp; omega) | (dsimp only; omega)) (by first | exact Nat.le_of_ble_eq_true rfl | omega | (simp; done) | (simp; omega) | (dsimp only; omega)) (by first | exact Nat.le_of_ble_eq_true rfl | omega | (simp; done) | (simp; omega) | (dsimp only; omega)) (fun _ hx => nomatch hx) rfl ?_
  rintro v h' nw K hnw ⟨rfl, rfl, rfl⟩
  dsimp only [Option.toList, List.nil_append]
  exact WP.vret dUCI_8 rfl ⟨rfl, rfl, rfl⟩ (fun _ hx => nomatch hx) (fun _ hx => hx) (by first | exact Nat.le_of_ble_eq_true rfl | omega) (by first | exact Nat.le_of_ble_eq_true rfl | omega)
theorem dUCA_0 : decode jdk_52_method_83_code 0 = .ok (.iload_n 1, 1) := by decide +kernel
theorem dUCA_1 : decode jdk_52_method_83_code 1 = .ok (.aload_n 0, 1) := by decide +kernel
theorem dUCA_2 : decode jdk_52_method_83_code 2 = .ok (.invokestatic 67, 3) := by decide +kernel
theorem dUCA_5 : decode jdk_52_method_83_code 5 = .ok (.aload_n 0, 1) := by decide +kernel
theorem dUCA_6 : decode jdk_52_method_83_code 6 = .ok (.iload_n 1, 1) := by decide +kernel
theorem dUCA_7 : decode jdk_52_method_83_code 7 = .ok (.invokestatic 71, 3) := by decide +kernel
theorem dUCA_10 : decode jdk_52_method_83_code 10 = .ok (.ireturn, 1) := by decide +kernel
theorem pnUCA : plainFor (⟨"java/lang/StringUTF16", "charAt", "([BI)C"⟩ : MethodName) = true := plainFor_of_name (by first | (simp [plainName, overriddenIn]; done) | decide +kernel)
set_option maxRecDepth 65536 in
set_option maxHeartbeats 40000000 in
theorem con_UCA (hw : ∀ d ∈ tables_1, d.before a0 Z = true) (hu16 : U16 Z) {vf : Value} (hf : Fmt Z vf) {t : Addr} {us : List UInt16} {i : Nat} {u : UInt16} (T : ArI Z h t .byte (b16 us)) (hu : us[i]? = some u) : Con (⟨"java/lang/StringUTF16", "charAt", "([BI)C"⟩ : MethodName) jdk_52_method_83_code 2 (some .char) { frames := 3, cells := 0, slots := 0, locals := 40 } Z LT [] #[.ref t, .int (Int32.ofNat i)] h [] mine (fun v h' nw => nw = [] ∧ v = some (.int (chv u)) ∧ h' = h) := by
  refine Con.of pnUCA (Ls := [.val (.ref t), .val (.int (Int32.ofNat i))]) (fun m => by first | (simp [entryFrame, mkF, argsToLocals, Value.category]; done) | (simp [entryFrame, mkF, argsToLocals, Value.category, maxLocals]; done) | rfl) ?_
  refine WP.iloadN (pc' := 1) dUCA_0 rfl rfl ?_
  refine WP.aloadN (pc' := 2) dUCA_1 rfl rfl rfl ?_
  refine WP.callS (pc' := 5) (con_UCI hw hf T (List.getElem?_eq_some_iff.mp hu).1) (hw _ (List.mem_of_getElem? (i := 292) rfl)) (hw _ (List.mem_of_getElem? (i := 293) rfl)) (hw _ (List.mem_of_getElem? (i := 152) rfl)) (hw _ (List.mem_of_getElem? (i := 294) rfl)) dUCA_2 (by decide) pdx12 rfl rfl rfl (by first | exact Nat.le_of_ble_eq_true rfl | omega | (simp; done) | (simp; omega) | (dsimp only; omega)) (by first | exact Nat.le_of_ble_eq_true rfl | omega | (simp; done) | (simp; omega) | (dsimp only; omega)) (by first | exact Nat.le_of_ble_eq_true rfl | omega | (simp; done) | (simp; omega) | (dsimp only; omega)) (by first | exact Nat.le_of_ble_eq_true rfl | omega | (simp; done) | (simp; omega) | (dsimp only; omega)) (fun _ hx => nomatch hx) rfl ?_
  rintro v h' nw K hnw ⟨rfl, rfl, rfl⟩
  dsimp only [Option.toList, List.nil_append]
  refine WP.aloadN (pc' := 6) dUCA_5 rfl rfl rfl ?_
  refine WP.iloadN (pc' := 7) dUCA_6 rfl rfl ?_
  refine WP.callS (pc' := 10) (con_GC hw hu16 T hu) (hw _ (List.mem_of_getElem? (i := 256) rfl)) (hw _ (List.mem_of_getElem? (i := 257) rfl)) (hw _ (List.mem_of_getElem? (i := 152) rfl)) (hw _ (List.mem_of_getElem? (i := 258) rfl)) dUCA_7 (by decide) pdx5 rfl rfl rfl (by first | exact Nat.le_of_ble_eq_true rfl | omega | (simp; done) | (simp; omega) | (dsimp only; omega)) (by first | exact Nat.le_of_ble_eq_true rfl | omega | (simp; done) | (simp; omega) | (dsimp only; omega)) (by first | exact Nat.le_of_ble_eq_true rfl | omega | (simp; done) | (simp; omega) | (dsimp only; omega)) (by first | exact Nat.le_of_ble_eq_true rfl | omega | (simp; done) | (simp; omega) | (dsimp only; omega)) (fun _ hx => nomatch hx) rfl ?_
  rintro v h' nw K hnw ⟨rfl, rfl, rfl⟩
  dsimp only [Option.toList, List.cons_append, List.nil_append]
  exact WP.ireturn dUCA_10 rfl (by simp) (congrArg Value.int (chv_nar u)) ⟨rfl, rfl, rfl⟩ (fun _ hx => nomatch hx) (fun _ hx => hx) (by first | exact Nat.le_of_ble_eq_true rfl | omega) (by first | exact Nat.le_of_ble_eq_true rfl | omega)
theorem dCA_0 : decode jdk_42_method_56_code 0 = .ok (.aload_n 0, 1) := by decide +kernel
theorem dCA_1 : decode jdk_42_method_56_code 1 = .ok (.invokevirtual 492, 3) := by decide +kernel
theorem dCA_4 : decode jdk_42_method_56_code 4 = .ok (.ifCond .eq 12, 3) := by decide +kernel
theorem dCA_7 : decode jdk_42_method_56_code 7 = .ok (.aload_n 0, 1) := by decide +kernel
theorem dCA_8 : decode jdk_42_method_56_code 8 = .ok (.getfield 9, 3) := by decide +kernel
theorem dCA_11 : decode jdk_42_method_56_code 11 = .ok (.iload_n 1, 1) := by decide +kernel
theorem dCA_12 : decode jdk_42_method_56_code 12 = .ok (.invokestatic 495, 3) := by decide +kernel
theorem dCA_15 : decode jdk_42_method_56_code 15 = .ok (.ireturn, 1) := by decide +kernel
theorem dCA_16 : decode jdk_42_method_56_code 16 = .ok (.aload_n 0, 1) := by decide +kernel
theorem dCA_17 : decode jdk_42_method_56_code 17 = .ok (.getfield 9, 3) := by decide +kernel
theorem dCA_20 : decode jdk_42_method_56_code 20 = .ok (.iload_n 1, 1) := by decide +kernel
theorem dCA_21 : decode jdk_42_method_56_code 21 = .ok (.invokestatic 498, 3) := by decide +kernel
theorem dCA_24 : decode jdk_42_method_56_code 24 = .ok (.ireturn, 1) := by decide +kernel
theorem pnCA : plainFor (⟨"java/lang/String", "charAt", "(I)C"⟩ : MethodName) = true := plainFor_of_name (by first | (simp [plainName, overriddenIn]; done) | decide +kernel)
set_option maxRecDepth 65536 in
set_option maxHeartbeats 40000000 in
theorem con_CA (hw : ∀ d ∈ tables_1, d.before a0 Z = true) {cz : Int32} (hc : Compact Z cz) (hu16 : U16 Z) {vf : Value} (hf : Fmt Z vf) {a t : Addr} {us : List UInt16} {i : Nat} {u : UInt16} (S : StrAt Z h a t us) (hu : us[i]? = some u) : Con (⟨"java/lang/String", "charAt", "(I)C"⟩ : MethodName) jdk_42_method_56_code 2 (some .char) { frames := 4, cells := 0, slots := 0, locals := 53 } Z LT [] #[.ref a, .int (Int32.ofNat i)] h [] mine (fun v h' nw => nw = [] ∧ v = some (.int (chv u)) ∧ h' = h) := by
  obtain ⟨e1, v1, c1, b1⟩ := S.open
  refine Con.of pnCA (Ls := [.val (.ref a), .val (.int (Int32.ofNat i))]) (fun m => by first | (simp [entryFrame, mkF, argsToLocals, Value.category]; done) | (simp [entryFrame, mkF, argsToLocals, Value.category, maxLocals]; done) | rfl) ?_
  refine WP.aloadN (pc' := 1) dCA_0 rfl rfl rfl ?_
  refine WP.callV (pc' := 4) (con_IL hw hc S) e1 (hw _ (List.mem_of_getElem? (i := 88) rfl)) (hw _ (List.mem_of_getElem? (i := 89) rfl)) (fun s hs => notFace_of_selects (args := #[]) (mv hs (hw _ (List.mem_of_getElem? (i := 91) rfl)))) (hw _ (List.mem_of_getElem? (i := 91) rfl)) (hw _ (List.mem_of_getElem? (i := 90) rfl)) (hw _ (List.mem_of_getElem? (i := 7) rfl)) (hw _ (List.mem_of_getElem? (i := 92) rfl)) dCA_1 (by decide) pdx13 rfl rfl rfl (by first | exact Nat.le_of_ble_eq_true rfl | omega | (simp; done) | (simp; omega) | (dsimp only; omega)) (by first | exact Nat.le_of_ble_eq_true rfl | omega | (simp; done) | (simp; omega) | (dsimp only; omega)) (by first | exact Nat.le_of_ble_eq_true rfl | omega | (simp; done) | (simp; omega) | (dsimp only; omega)) (by first | exact Nat.le_of_ble_eq_true rfl | omega | (simp; done) | (simp; omega) | (dsimp only; omega)) (fun _ hx => nomatch hx) rfl ?_
  rintro v h' nw K hnw ⟨rfl, rfl, rfl⟩
  dsimp only [Option.toList, List.cons_append, List.nil_append]
  cases hl : lat us
  · rw [if_neg (by decide)]
    rw [byt_utf hl] at b1
    refine WP.ifT (pc' := 16) dCA_4 (by decide) (by decide) rfl ?_
    refine WP.aloadN (pc' := 17) dCA_16 rfl rfl rfl ?_
    refine WP.getfield (pc' := 20) (host := "") dCA_17 (Or.inl (hw _ (List.mem_of_getElem? (i := 25) rfl))) Via.refl v1 rfl ?_
    refine WP.iloadN (pc' := 21) dCA_20 rfl rfl ?_
    refine WP.callS (pc' := 24) (con_UCA hw hu16 hf b1 hu) (hw _ (List.mem_of_getElem? (i := 298) rfl)) (hw _ (List.mem_of_getElem? (i := 299) rfl)) (hw _ (List.mem_of_getElem? (i := 152) rfl)) (hw _ (List.mem_of_getElem? (i := 300) rfl)) dCA_21 (by decide) pdx5 rfl rfl rfl (by first | exact Nat.le_of_ble_eq_true rfl | omega | (simp; done) | (simp; omega) | (dsimp only; omega)) (by first | exact Nat.le_of_ble_eq_true rfl | omega | (simp; done) | (simp; omega) | (dsimp only; omega)) (by first | exact Nat.le_of_ble_eq_true rfl | omega | (simp; done) | (simp; omega) | (dsimp only; omega)) (by first | exact Nat.le_of_ble_eq_true rfl | omega | (simp; done) | (simp; omega) | (dsimp only; omega)) (fun _ hx => nomatch hx) rfl ?_
    rintro v h' nw K hnw ⟨rfl, rfl, rfl⟩
    dsimp only [Option.toList, List.cons_append, List.nil_append]
    exact WP.ireturn dCA_24 rfl (by simp) (congrArg Value.int (chv_nar u)) ⟨rfl, rfl, rfl⟩ (fun _ hx => nomatch hx) (fun _ hx => hx) (by first | exact Nat.le_of_ble_eq_true rfl | omega) (by first | exact Nat.le_of_ble_eq_true rfl | omega)
  · rw [if_pos rfl]
    rw [byt_lat hl] at b1
    refine WP.ifF (pc' := 7) dCA_4 rfl (show ¬ (1 : Int32) = 0 by decide) ?_
    refine WP.aloadN (pc' := 8) dCA_7 rfl rfl rfl ?_
    refine WP.getfield (pc' := 11) (host := "") dCA_8 (Or.inl (hw _ (List.mem_of_getElem? (i := 25) rfl))) Via.refl v1 rfl ?_
    refine WP.iloadN (pc' := 12) dCA_11 rfl rfl ?_
    refine WP.callS (pc' := 15) (con_LCA hw hf hl b1 hu) (hw _ (List.mem_of_getElem? (i := 229) rfl)) (hw _ (List.mem_of_getElem? (i := 230) rfl)) (hw _ (List.mem_of_getElem? (i := 95) rfl)) (hw _ (List.mem_of_getElem? (i := 231) rfl)) dCA_12 (by decide) pdx5 rfl rfl rfl (by first | exact Nat.le_of_ble_eq_true rfl | omega | (simp; done) | (simp; omega) | (dsimp only; omega)) (by first | exact Nat.le_of_ble_eq_true rfl | omega | (simp; done) | (simp; omega) | (dsimp only; omega)) (by first | exact Nat.le_of_ble_eq_true rfl | omega | (simp; done) | (simp; omega) | (dsimp only; omega)) (by first | exact Nat.le_of_ble_eq_true rfl | omega | (simp; done) | (simp; omega) | (dsimp only; omega)) (fun _ hx => nomatch hx) rfl ?_
    rintro v h' nw K hnw ⟨rfl, rfl, rfl⟩
    dsimp only [Option.toList, List.cons_append, List.nil_append]
    exact WP.ireturn dCA_15 rfl (by simp) (congrArg Value.int (chv_nar u)) ⟨rfl, rfl, rfl⟩ (fun _ hx => nomatch hx) (fun _ hx => hx) (by first | exact Nat.le_of_ble_eq_true rfl | omega) (by first | exact Nat.le_of_ble_eq_true rfl | omega)
end JdkChr
end Jvm.Pilot.@@N@@

namespace Jvm.Pilot.@@N@@
open Jvm Jvm.ClassFile Sem Op Lib Jvm.Free Jvm.Stand Jvm.LawKit Jvm.RoadKit Bundle Jvm.Pilot.@@N@@.Jvm.D Jvm.OwnW
theorem pdx14 : parseMethodDescriptor "(IIILjava/util/function/BiFunction;)I" = some ⟨[.int, .int, .int, (.object "java/util/function/BiFunction")], some .int⟩ := by decide +kernel
theorem pdx15 : parseMethodDescriptor "(III)I" = some ⟨[.int, .int, .int], some .int⟩ := by decide +kernel
theorem pdx16 : parseMethodDescriptor "(II[B)V" = some ⟨[.int, .int, (.array .byte)], none⟩ := by decide +kernel
section JdkGch
variable {Z : State} {a0 : Array Value} {h : Heap} {mine : List Addr}
theorem dFS_0 : decode jdk_41_method_13_code 0 = .ok (.iload_n 2, 1) := by decide +kernel
theorem dFS_1 : decode jdk_41_method_13_code 1 = .ok (.iload_n 0, 1) := by decide +kernel
theorem dFS_2 : decode jdk_41_method_13_code 2 = .ok (.ior, 1) := by decide +kernel
theorem dFS_3 : decode jdk_41_method_13_code 3 = .ok (.iload_n 1, 1) := by decide +kernel
theorem dFS_4 : decode jdk_41_method_13_code 4 = .ok (.ior, 1) := by decide +kernel
theorem dFS_5 : decode jdk_41_method_13_code 5 = .ok (.ifCond .lt 10, 3) := by decide +kernel
theorem dFS_8 : decode jdk_41_method_13_code 8 = .ok (.iload_n 1, 1) := by decide +kernel
theorem dFS_9 : decode jdk_41_method_13_code 9 = .ok (.iload_n 2, 1) := by decide +kernel
theorem dFS_10 : decode jdk_41_method_13_code 10 = .ok (.iload_n 0, 1) := by decide +kernel
theorem dFS_11 : decode jdk_41_method_13_code 11 = .ok (.isub, 1) := by decide +kernel
theorem dFS_12 : decode jdk_41_method_13_code 12 = .ok (.if_icmp .le 11, 3) := by decide +kernel
theorem dFS_15 : decode jdk_41_method_13_code 15 = .ok (.aload_n 3, 1) := by decide +kernel
theorem dFS_16 : decode jdk_41_method_13_code 16 = .ok (.iload_n 0, 1) := by decide +kernel
theorem dFS_17 : decode jdk_41_method_13_code 17 = .ok (.iload_n 1, 1) := by decide +kernel
theorem dFS_18 : decode jdk_41_method_13_code 18 = .ok (.iload_n 2, 1) := by decide +kernel
theorem dFS_19 : decode jdk_41_method_13_code 19 = .ok (.invokestatic 103, 3) := by decide +kernel
theorem dFS_22 : decode jdk_41_method_13_code 22 = .ok (.athrow, 1) := by decide +kernel
theorem dFS_23 : decode jdk_41_method_13_code 23 = .ok (.iload_n 0, 1) := by decide +kernel
theorem dFS_24 : decode jdk_41_method_13_code 24 = .ok (.ireturn, 1) := by decide +kernel
theorem pnFS : plainFor (⟨"jdk/internal/util/Preconditions", "checkFromIndexSize", "(IIILjava/util/function/BiFunction;)I"⟩ : MethodName) = true := plainFor_of_name (by first | (simp [plainName, overriddenIn]; done) | decide +kernel)
set_option maxRecDepth 65536 in
set_option maxHeartbeats 40000000 in
theorem con_FS {vf : Value} (hf : Fmt Z vf) {i k n : Nat} (hik : i + k ≤ n) (hn : n < 2 ^ 31) : Con (⟨"jdk/internal/util/Preconditions", "checkFromIndexSize", "(IIILjava/util/function/BiFunction;)I"⟩ : MethodName) jdk_41_method_13_code 4 (some .int) R0 Z LT [] #[.int (Int32.ofNat i), .int (Int32.ofNat k), .int (Int32.ofNat n), vf] h [] mine (fun v h' nw => nw = [] ∧ v = some (.int (Int32.ofNat i)) ∧ h' = h) := by
  refine Con.of pnFS (Ls := [.val (.int (Int32.ofNat i)), .val (.int (Int32.ofNat k)), .val (.int (Int32.ofNat n)), .val vf]) (fun m => by rcases ref_cases hf.2 with rfl | ⟨q, rfl⟩ <;> simp [entryFrame, mkF, argsToLocals, Value.category]) ?_
  refine WP.iloadN (pc' := 1) dFS_0 rfl rfl ?_
  refine WP.iloadN (pc' := 2) dFS_1 rfl rfl ?_
  refine WP.ior (pc' := 3) dFS_2 rfl ?_
  refine WP.iloadN (pc' := 4) dFS_3 rfl rfl ?_
  refine WP.ior (pc' := 5) dFS_4 rfl ?_
  refine WP.ifF (pc' := 8) dFS_5 rfl (n32_or3 (by omega) (by omega) (by omega)) ?_
  refine WP.iloadN (pc' := 9) dFS_8 rfl rfl ?_
  refine WP.iloadN (pc' := 10) dFS_9 rfl rfl ?_
  refine WP.iloadN (pc' := 11) dFS_10 rfl rfl ?_
  refine WP.isub (pc' := 12) dFS_11 rfl ?_
  rw [n32_sub (by omega) hn]
  refine WP.icmpT (pc' := 23) dFS_12 (by decide) (by decide) (fun q => by have := (n32_lt (by omega) (by omega)).mp q; omega) ?_
  refine WP.iloadN (pc' := 24) dFS_23 rfl rfl ?_
  exact WP.ireturn dFS_24 rfl (by simp) rfl ⟨rfl, rfl, rfl⟩ (fun _ hx => nomatch hx) (fun _ hx => hx) (by first | exact Nat.le_of_ble_eq_true rfl | omega) (by first | exact Nat.le_of_ble_eq_true rfl | omega)
theorem dOC_0 : decode jdk_42_method_157_code 0 = .ok (.iload_n 0, 1) := by decide +kernel
theorem dOC_1 : decode jdk_42_method_157_code 1 = .ok (.iload_n 1, 1) := by decide +kernel
theorem dOC_2 : decode jdk_42_method_157_code 2 = .ok (.iload_n 2, 1) := by decide +kernel
theorem dOC_3 : decode jdk_42_method_157_code 3 = .ok (.getstatic 1053, 3) := by decide +kernel
theorem dOC_6 : decode jdk_42_method_157_code 6 = .ok (.invokestatic 1065, 3) := by decide +kernel
theorem dOC_9 : decode jdk_42_method_157_code 9 = .ok (.ireturn, 1) := by decide +kernel
theorem pnOC : plainFor (⟨"java/lang/String", "checkBoundsOffCount", "(III)I"⟩ : MethodName) = true := plainFor_of_name (by first | (simp [plainName, overriddenIn]; done) | decide +kernel)
set_option maxRecDepth 65536 in
set_option maxHeartbeats 40000000 in
theorem con_OC (hw : ∀ d ∈ tables_1, d.before a0 Z = true) {vf : Value} (hf : Fmt Z vf) {i k n : Nat} (hik : i + k ≤ n) (hn : n < 2 ^ 31) : Con (⟨"java/lang/String", "checkBoundsOffCount", "(III)I"⟩ : MethodName) jdk_42_method_157_code 3 (some .int) { frames := 1, cells := 0, slots := 0, locals := 15 } Z LT [] #[.int (Int32.ofNat i), .int (Int32.ofNat k), .int (Int32.ofNat n)] h [] mine (fun v h' nw => nw = [] ∧ v = some (.int (Int32.ofNat i)) ∧ h' = h) := by
  refine Con.of pnOC (Ls := [.val (.int (Int32.ofNat i)), .val (.int (Int32.ofNat k)), .val (.int (Int32.ofNat n))]) (fun m => by first | (simp [entryFrame, mkF, argsToLocals, Value.category]; done) | (simp [entryFrame, mkF, argsToLocals, Value.category, maxLocals]; done) | rfl) ?_
  refine WP.iloadN (pc' := 1) dOC_0 rfl rfl ?_
  refine WP.iloadN (pc' := 2) dOC_1 rfl rfl ?_
  refine WP.iloadN (pc' := 3) dOC_2 rfl rfl ?_
  refine WP.getstatic (pc' := 6) (host := "") dOC_3 (Or.inl (hw _ (List.mem_of_getElem? (i := 235) rfl))) Via.refl hf.1 rfl ?_
  refine WP.callS (pc' := 9) (con_FS hf hik hn) (hw _ (List.mem_of_getElem? (i := 274) rfl)) (hw _ (List.mem_of_getElem? (i := 275) rfl)) (hw _ (List.mem_of_getElem? (i := 236) rfl)) (hw _ (List.mem_of_getElem? (i := 276) rfl)) dOC_6 (by decide) pdx14 rfl rfl rfl (by first | exact Nat.le_of_ble_eq_true rfl | omega | (simp; done) | (simp; omega) | (dsimp only; omega)) (by first | exact Nat.le_of_ble_eq_true rfl | omega | (simp; done) | (simp; omega) | (dsimp only; omega)) (by first | exact Nat.le_of_ble_eq_true rfl | omega | (simp; done) | (simp; omega) | (dsimp only; omega)) (by first | exact Nat.le_of_ble_eq_true rfl | omega | (simp; done) | (simp; omega) | (dsimp only; omega)) (fun _ hx => nomatch hx) rfl ?_
  rintro v h' nw K hnw ⟨rfl, rfl, rfl⟩
  dsimp only [Option.toList, List.cons_append, List.nil_append]
  exact WP.ireturn dOC_9 rfl (by simp) rfl ⟨rfl, rfl, rfl⟩ (fun _ hx => nomatch hx) (fun _ hx => hx) (by first | exact Nat.le_of_ble_eq_true rfl | omega) (by first | exact Nat.le_of_ble_eq_true rfl | omega)
theorem dUOC_0 : decode jdk_52_method_94_code 0 = .ok (.iload_n 0, 1) := by decide +kernel
theorem dUOC_1 : decode jdk_52_method_94_code 1 = .ok (.iload_n 1, 1) := by decide +kernel
theorem dUOC_2 : decode jdk_52_method_94_code 2 = .ok (.aload_n 2, 1) := by decide +kernel
theorem dUOC_3 : decode jdk_52_method_94_code 3 = .ok (.invokestatic 48, 3) := by decide +kernel
theorem dUOC_6 : decode jdk_52_method_94_code 6 = .ok (.invokestatic 419, 3) := by decide +kernel
theorem dUOC_9 : decode jdk_52_method_94_code 9 = .ok (.pop, 1) := by decide +kernel
theorem dUOC_10 : decode jdk_52_method_94_code 10 = .ok (.return_, 1) := by decide +kernel
theorem pnUOC : plainFor (⟨"java/lang/StringUTF16", "checkBoundsOffCount", "(II[B)V"⟩ : MethodName) = true := plainFor_of_name (by first | (simp [plainName, overriddenIn]; done) | decide +kernel)
set_option maxRecDepth 65536 in
set_option maxHeartbeats 40000000 in
theorem con_UOC (hw : ∀ d ∈ tables_1, d.before a0 Z = true) {vf : Value} (hf : Fmt Z vf) {t : Addr} {us : List UInt16} {i k : Nat} (T : ArI Z h t .byte (b16 us)) (hik : i + k ≤ us.length) : Con (⟨"java/lang/StringUTF16", "checkBoundsOffCount", "(II[B)V"⟩ : MethodName) jdk_52_method_94_code 3 none { frames := 2, cells := 0, slots := 0, locals := 29 } Z LT [] #[.int (Int32.ofNat i), .int (Int32.ofNat k), .ref t] h [] mine (fun v h' nw => nw = [] ∧ v = none ∧ h' = h) := by
  have hn : us.length < 2 ^ 31 := by have := T.len; rw [b16_len] at this; omega
  refine Con.of pnUOC (Ls := [.val (.int (Int32.ofNat i)), .val (.int (Int32.ofNat k)), .val (.ref t)]) (fun m => by first | (simp [entryFrame, mkF, argsToLocals, Value.category]; done) | (simp [entryFrame, mkF, argsToLocals, Value.category, maxLocals]; done) | rfl) ?_
  refine WP.iloadN (pc' := 1) dUOC_0 rfl rfl ?_
  refine WP.iloadN (pc' := 2) dUOC_1 rfl rfl ?_
  refine WP.aloadN (pc' := 3) dUOC_2 rfl rfl rfl ?_
  refine WP.callS (pc' := 6) (con_UL T) (hw _ (List.mem_of_getElem? (i := 268) rfl)) (hw _ (List.mem_of_getElem? (i := 269) rfl)) (hw _ (List.mem_of_getElem? (i := 152) rfl)) (hw _ (List.mem_of_getElem? (i := 270) rfl)) dUOC_3 (by decide) pdx11 rfl rfl rfl (by first | exact Nat.le_of_ble_eq_true rfl | omega | (simp; done) | (simp; omega) | (dsimp only; omega)) (by first | exact Nat.le_of_ble_eq_true rfl | omega | (simp; done) | (simp; omega) | (dsimp only; omega)) (by first | exact Nat.le_of_ble_eq_true rfl | omega | (simp; done) | (simp; omega) | (dsimp only; omega)) (by first | exact Nat.le_of_ble_eq_true rfl | omega | (simp; done) | (simp; omega) | (dsimp only; omega)) (fun _ hx => nomatch hx) rfl ?_
  rintro v h' nw K hnw ⟨rfl, rfl, rfl⟩
  dsimp only [Option.toList, List.cons_append, List.nil_append]
  refine WP.callS (pc' := 9) (con_OC hw hf hik hn) (hw _ (List.mem_of_getElem? (i := 271) rfl)) (hw _ (List.mem_of_getElem? (i := 272) rfl)) (hw _ (List.mem_of_getElem? (i := 7) rfl)) (hw _ (List.mem_of_getElem? (i := 273) rfl)) dUOC_6 (by decide) pdx15 rfl rfl rfl (by first | exact Nat.le_of_ble_eq_true rfl | omega | (simp; done) | (simp; omega) | (dsimp only; omega)) (by first | exact Nat.le_of_ble_eq_true rfl | omega | (simp; done) | (simp; omega) | (dsimp only; omega)) (by first | exact Nat.le_of_ble_eq_true rfl | omega | (simp; done) | (simp; omega) | (dsimp only; omega)) (by first | exact Nat.le_of_ble_eq_true rfl | omega | (simp; done) | (simp; omega) | (dsimp only; omega)) (fun _ hx => nomatch hx) rfl ?_
  rintro v h' nw K hnw ⟨rfl, rfl, rfl⟩
  dsimp only [Option.toList, List.cons_append, List.nil_append]
  refine WP.pop (pc' := 10) dUOC_9 rfl rfl ?_
  exact WP.vret dUOC_10 rfl ⟨rfl, rfl, rfl⟩ (fun _ hx => nomatch hx) (fun _ hx => hx) (by first | exact Nat.le_of_ble_eq_true rfl | omega) (by first | exact Nat.le_of_ble_eq_true rfl | omega)
theorem dINF_0 : decode jdk_43_method_49_code 0 = .ok (.iconst 0, 1) := by decide +kernel
theorem dINF_1 : decode jdk_43_method_49_code 1 = .ok (.istore 5, 2) := by decide +kernel
theorem dINF_3 : decode jdk_43_method_49_code 3 = .ok (.iload 5, 2) := by decide +kernel
theorem dINF_5 : decode jdk_43_method_49_code 5 = .ok (.iload 4, 2) := by decide +kernel
theorem dINF_7 : decode jdk_43_method_49_code 7 = .ok (.if_icmp .ge 26, 3) := by decide +kernel
theorem dINF_10 : decode jdk_43_method_49_code 10 = .ok (.aload_n 2, 1) := by decide +kernel
theorem dINF_11 : decode jdk_43_method_49_code 11 = .ok (.iload_n 3, 1) := by decide +kernel
theorem dINF_12 : decode jdk_43_method_49_code 12 = .ok (.iinc 3 1, 3) := by decide +kernel
theorem dINF_15 : decode jdk_43_method_49_code 15 = .ok (.aload_n 0, 1) := by decide +kernel
theorem dINF_16 : decode jdk_43_method_49_code 16 = .ok (.iload_n 1, 1) := by decide +kernel
theorem dINF_17 : decode jdk_43_method_49_code 17 = .ok (.iinc 1 1, 3) := by decide +kernel
theorem dINF_20 : decode jdk_43_method_49_code 20 = .ok (.baload, 1) := by decide +kernel
theorem dINF_21 : decode jdk_43_method_49_code 21 = .ok (.sipush 255, 3) := by decide +kernel
theorem dINF_24 : decode jdk_43_method_49_code 24 = .ok (.iand, 1) := by decide +kernel
theorem dINF_25 : decode jdk_43_method_49_code 25 = .ok (.i2c, 1) := by decide +kernel
theorem dINF_26 : decode jdk_43_method_49_code 26 = .ok (.castore, 1) := by decide +kernel
theorem dINF_27 : decode jdk_43_method_49_code 27 = .ok (.iinc 5 1, 3) := by decide +kernel
theorem dINF_30 : decode jdk_43_method_49_code 30 = .ok (.goto (-27), 3) := by decide +kernel
theorem dINF_33 : decode jdk_43_method_49_code 33 = .ok (.return_, 1) := by decide +kernel
theorem pnINF : plainFor (⟨"java/lang/StringLatin1", "inflate", "([BI[CII)V"⟩ : MethodName) = true := plainFor_of_name (by first | (simp [plainName, overriddenIn]; done) | decide +kernel)
set_option maxRecDepth 65536 in
set_option maxHeartbeats 40000000 in
theorem loop_INF {us : List UInt16} {cs : List Int32} {t d : Addr} {k : Nat} (hlat : lat us = true) (hk : k + us.length ≤ cs.length) (hcs : cs.length < 2 ^ 31) (hm : d ∈ mine) (htd : t ≠ d) :
    ∀ (r i : Nat), i + r = us.length → ∀ (h' : Heap), ArI Z h' t .byte (us.map lo8) → ArI Z h' d .char (ovr cs k (us.take i)) →
    WP "java/lang/StringLatin1" jdk_43_method_49_code 6 none "inflate" R0 Z LT h [d] mine (fun v h' nw => nw = [] ∧ v = none ∧ ArI Z h' d .char (ovr cs k us)) mine 0 0 h' 3 [.val (.ref t), .val (.int (Int32.ofNat i)), .val (.ref d), .val (.int (Int32.ofNat (k + i))), .val (.int (Int32.ofNat us.length)), .val (.int (Int32.ofNat i))] [] := by
  intro r
  induction r with
  | zero =>
    intro i hi h' T D
    obtain rfl : i = us.length := by omega
    refine WP.iload (pc' := 5) dINF_3 rfl rfl ?_
    refine WP.iload (pc' := 7) dINF_5 rfl rfl ?_
    refine WP.icmpT (pc' := 33) dINF_7 (by decide) (by decide) (fun q => Nat.lt_irrefl _ ((n32_lt (by omega) (by omega)).mp q)) ?_
    rw [List.take_length] at D
    exact WP.vret dINF_33 rfl ⟨rfl, rfl, D⟩ (fun _ hx => nomatch hx) (fun _ hx => hx) (by first | exact Nat.le_of_ble_eq_true rfl | omega) (by first | exact Nat.le_of_ble_eq_true rfl | omega)
  | succ r ih =>
    intro i hi h' T D
    have hil : i < us.length := by omega
    obtain ⟨u, hu⟩ : ∃ u, us[i]? = some u := ⟨us[i], List.getElem?_eq_getElem hil⟩
    refine WP.iload (pc' := 5) dINF_3 rfl rfl ?_
    refine WP.iload (pc' := 7) dINF_5 rfl rfl ?_
    refine WP.icmpF (pc' := 10) dINF_7 rfl ((n32_lt (by omega) (by omega)).mpr hil) ?_
    refine WP.aloadN (pc' := 11) dINF_10 rfl rfl rfl ?_
    refine WP.iloadN (pc' := 12) dINF_11 rfl rfl ?_
    refine WP.iinc (pc' := 15) dINF_12 rfl rfl rfl rfl ?_
    dsimp only [List.set]
    refine WP.aloadN (pc' := 16) dINF_15 rfl rfl rfl ?_
    refine WP.iloadN (pc' := 17) dINF_16 rfl rfl ?_
    refine WP.iinc (pc' := 20) dINF_17 rfl rfl rfl rfl ?_
    dsimp only [List.set]
    refine WP.baload (pc' := 21) dINF_20 T (n32_toInt (by omega)) (x := lo8 u) (by simp [hu]) rfl ?_
    refine WP.sipush (pc' := 24) (x := 255) dINF_21 (by decide) rfl ?_
    refine WP.iand (pc' := 25) dINF_24 rfl ?_
    refine WP.i2c (pc' := 26) dINF_25 rfl ?_
    have hlo : (us.take i).length = i := by simp [List.length_take]; omega
    refine WP.castore (pc' := 27) dINF_26 D (n32_toInt (by omega)) (by rw [ovr_len (by rw [hlo]; omega)]; omega) hm (Or.inl (List.mem_singleton.mpr rfl)) rfl ?_
    intro h2 W D2
    rw [lo8_and u ((lat_iff us).mp hlat i u hu), chv_i2c, chv_nar, ovr_set hu hk] at D2
    refine WP.iinc (pc' := 30) dINF_27 rfl rfl rfl rfl ?_
    dsimp only [List.set]
    refine WP.goto (pc' := 3) dINF_30 (by decide) (by decide) ?_
    rw [show Int32.ofNat i + Int32.ofInt 1 = Int32.ofNat (i + 1) from n32_succ i, show Int32.ofNat (k + i) + Int32.ofInt 1 = Int32.ofNat (k + (i + 1)) from n32_succ (k + i)]
    exact ih (i + 1) (by omega) h2 (T.other W htd) D2
set_option maxRecDepth 65536 in
set_option maxHeartbeats 40000000 in
theorem con_INF {us : List UInt16} {cs : List Int32} {t d : Addr} {k : Nat} (hlat : lat us = true) (hk : k + us.length ≤ cs.length) (hm : d ∈ mine) (T : ArI Z h t .byte (us.map lo8)) (D : ArI Z h d .char cs) : Con (⟨"java/lang/StringLatin1", "inflate", "([BI[CII)V"⟩ : MethodName) jdk_43_method_49_code 6 none R0 Z LT [] #[.ref t, .int 0, .ref d, .int (Int32.ofNat k), .int (Int32.ofNat us.length)] h [d] mine (fun v h' nw => nw = [] ∧ v = none ∧ ArI Z h' d .char (ovr cs k us)) := by
  refine Con.of pnINF (Ls := [.val (.ref t), .val (.int 0), .val (.ref d), .val (.int (Int32.ofNat k)), .val (.int (Int32.ofNat us.length)), .unset]) (fun m => by first | (simp [entryFrame, mkF, argsToLocals, Value.category]; done) | (simp [entryFrame, mkF, argsToLocals, Value.category, maxLocals]; done) | rfl) ?_
  refine WP.iconst (pc' := 1) (x := 0) dINF_0 (by decide) rfl ?_
  refine WP.istore (pc' := 3) dINF_1 rfl rfl rfl ?_
  dsimp only [List.set]
  exact loop_INF hlat hk D.len hm (T.ne D (by decide)) us.length 0 (by omega) h T (by rw [List.take_zero, ovr_nil]; exact D)
theorem dUGC_0 : decode jdk_52_method_26_code 0 = .ok (.iload_n 1, 1) := by decide +kernel
theorem dUGC_1 : decode jdk_52_method_26_code 1 = .ok (.iload_n 2, 1) := by decide +kernel
theorem dUGC_2 : decode jdk_52_method_26_code 2 = .ok (.if_icmp .ge 11, 3) := by decide +kernel
theorem dUGC_5 : decode jdk_52_method_26_code 5 = .ok (.iload_n 1, 1) := by decide +kernel
theorem dUGC_6 : decode jdk_52_method_26_code 6 = .ok (.iload_n 2, 1) := by decide +kernel
theorem dUGC_7 : decode jdk_52_method_26_code 7 = .ok (.iload_n 1, 1) := by decide +kernel
theorem dUGC_8 : decode jdk_52_method_26_code 8 = .ok (.isub, 1) := by decide +kernel
theorem dUGC_9 : decode jdk_52_method_26_code 9 = .ok (.aload_n 0, 1) := by decide +kernel
theorem dUGC_10 : decode jdk_52_method_26_code 10 = .ok (.invokestatic 173, 3) := by decide +kernel
theorem dUGC_13 : decode jdk_52_method_26_code 13 = .ok (.iload_n 1, 1) := by decide +kernel
theorem dUGC_14 : decode jdk_52_method_26_code 14 = .ok (.istore 5, 2) := by decide +kernel
theorem dUGC_16 : decode jdk_52_method_26_code 16 = .ok (.iload 5, 2) := by decide +kernel
theorem dUGC_18 : decode jdk_52_method_26_code 18 = .ok (.iload_n 2, 1) := by decide +kernel
theorem dUGC_19 : decode jdk_52_method_26_code 19 = .ok (.if_icmp .ge 22, 3) := by decide +kernel
theorem dUGC_22 : decode jdk_52_method_26_code 22 = .ok (.aload_n 3, 1) := by decide +kernel
theorem dUGC_23 : decode jdk_52_method_26_code 23 = .ok (.iload 4, 2) := by decide +kernel
theorem dUGC_25 : decode jdk_52_method_26_code 25 = .ok (.iinc 4 1, 3) := by decide +kernel
theorem dUGC_28 : decode jdk_52_method_26_code 28 = .ok (.aload_n 0, 1) := by decide +kernel
theorem dUGC_29 : decode jdk_52_method_26_code 29 = .ok (.iload 5, 2) := by decide +kernel
theorem dUGC_31 : decode jdk_52_method_26_code 31 = .ok (.invokestatic 71, 3) := by decide +kernel
theorem dUGC_34 : decode jdk_52_method_26_code 34 = .ok (.castore, 1) := by decide +kernel
theorem dUGC_35 : decode jdk_52_method_26_code 35 = .ok (.iinc 5 1, 3) := by decide +kernel
theorem dUGC_38 : decode jdk_52_method_26_code 38 = .ok (.goto (-22), 3) := by decide +kernel
theorem dUGC_41 : decode jdk_52_method_26_code 41 = .ok (.return_, 1) := by decide +kernel
theorem pnUGC : plainFor (⟨"java/lang/StringUTF16", "getChars", "([BII[CI)V"⟩ : MethodName) = true := plainFor_of_name (by first | (simp [plainName, overriddenIn]; done) | decide +kernel)
set_option maxRecDepth 65536 in
set_option maxHeartbeats 40000000 in
theorem loop_UGC (hw : ∀ d ∈ tables_1, d.before a0 Z = true) (hu16 : U16 Z) {us : List UInt16} {cs : List Int32} {t d : Addr} {k : Nat} (hk : k + us.length ≤ cs.length) (hcs : cs.length < 2 ^ 31) (hm : d ∈ mine) (htd : t ≠ d) :
    ∀ (r i : Nat), i + r = us.length → ∀ (h' : Heap), ArI Z h' t .byte (b16 us) → ArI Z h' d .char (ovr cs k (us.take i)) →
    WP "java/lang/StringUTF16" jdk_52_method_26_code 6 none "getChars" { frames := 3, cells := 0, slots := 0, locals := 43 } Z LT h [d] mine (fun v h' nw => nw = [] ∧ v = none ∧ ArI Z h' d .char (ovr cs k us)) mine 0 0 h' 16 [.val (.ref t), .val (.int 0), .val (.int (Int32.ofNat us.length)), .val (.ref d), .val (.int (Int32.ofNat (k + i))), .val (.int (Int32.ofNat i))] [] := by
  intro r
  induction r with
  | zero =>
    intro i hi h' T D
    obtain rfl : i = us.length := by omega
    refine WP.iload (pc' := 18) dUGC_16 rfl rfl ?_
    refine WP.iloadN (pc' := 19) dUGC_18 rfl rfl ?_
    refine WP.icmpT (pc' := 41) dUGC_19 (by decide) (by decide) (fun q => Nat.lt_irrefl _ ((n32_lt (by omega) (by omega)).mp q)) ?_
    rw [List.take_length] at D
    exact WP.vret dUGC_41 rfl ⟨rfl, rfl, D⟩ (fun _ hx => nomatch hx) (fun _ hx => hx) (by first | exact Nat.le_of_ble_eq_true rfl | omega) (by first | exact Nat.le_of_ble_eq_true rfl | omega)
  | succ r ih =>
    intro i hi h' T D
    have hil : i < us.length := by omega
    obtain ⟨u, hu⟩ : ∃ u, us[i]? = some u := ⟨us[i], List.getElem?_eq_getElem hil⟩
    refine WP.iload (pc' := 18) dUGC_16 rfl rfl ?_
    refine WP.iloadN (pc' := 19) dUGC_18 rfl rfl ?_
    refine WP.icmpF (pc' := 22) dUGC_19 rfl ((n32_lt (by omega) (by omega)).mpr hil) ?_
    refine WP.aloadN (pc' := 23) dUGC_22 rfl rfl rfl ?_
    refine WP.iload (pc' := 25) dUGC_23 rfl rfl ?_
    refine WP.iinc (pc' := 28) dUGC_25 rfl rfl rfl rfl ?_
    dsimp only [List.set]
    refine WP.aloadN (pc' := 29) dUGC_28 rfl rfl rfl ?_
    refine WP.iload (pc' := 31) dUGC_29 rfl rfl ?_
    refine WP.callS (pc' := 34) (con_GC hw hu16 T hu) (hw _ (List.mem_of_getElem? (i := 256) rfl)) (hw _ (List.mem_of_getElem? (i := 257) rfl)) (hw _ (List.mem_of_getElem? (i := 152) rfl)) (hw _ (List.mem_of_getElem? (i := 258) rfl)) dUGC_31 (by decide) pdx5 rfl rfl rfl (by first | exact Nat.le_of_ble_eq_true rfl | omega | (simp; done) | (simp; omega) | (dsimp only; omega)) (by first | exact Nat.le_of_ble_eq_true rfl | omega | (simp; done) | (simp; omega) | (dsimp only; omega)) (by first | exact Nat.le_of_ble_eq_true rfl | omega | (simp; done) | (simp; omega) | (dsimp only; omega)) (by first | exact Nat.le_of_ble_eq_true rfl | omega | (simp; done) | (simp; omega) | (dsimp only; omega)) (fun _ hx => nomatch hx) rfl ?_
    rintro v h1 nw K hnw ⟨rfl, rfl, rfl⟩
    dsimp only [Option.toList, List.cons_append, List.nil_append]
    have hlo : (us.take i).length = i := by simp [List.length_take]; omega
    refine WP.castore (pc' := 35) dUGC_34 D (n32_toInt (by omega)) (by rw [ovr_len (by rw [hlo]; omega)]; omega) hm (Or.inl (List.mem_singleton.mpr rfl)) rfl ?_
    intro h2 W D2
    rw [chv_nar, ovr_set hu hk] at D2
    refine WP.iinc (pc' := 38) dUGC_35 rfl rfl rfl rfl ?_
    dsimp only [List.set]
    refine WP.goto (pc' := 16) dUGC_38 (by decide) (by decide) ?_
    rw [show Int32.ofNat i + Int32.ofInt 1 = Int32.ofNat (i + 1) from n32_succ i, show Int32.ofNat (k + i) + Int32.ofInt 1 = Int32.ofNat (k + (i + 1)) from n32_succ (k + i)]
    exact ih (i + 1) (by omega) h2 (T.other W htd) D2
set_option maxRecDepth 65536 in
set_option maxHeartbeats 40000000 in
theorem con_UGC (hw : ∀ d ∈ tables_1, d.before a0 Z = true) (hu16 : U16 Z) {vf : Value} (hf : Fmt Z vf) {us : List UInt16} {cs : List Int32} {t d : Addr} {k : Nat} (hpos : 0 < us.length) (hk : k + us.length ≤ cs.length) (hm : d ∈ mine) (T : ArI Z h t .byte (b16 us)) (D : ArI Z h d .char cs) : Con (⟨"java/lang/StringUTF16", "getChars", "([BII[CI)V"⟩ : MethodName) jdk_52_method_26_code 6 none { frames := 3, cells := 0, slots := 0, locals := 43 } Z LT [] #[.ref t, .int 0, .int (Int32.ofNat us.length), .ref d, .int (Int32.ofNat k)] h [d] mine (fun v h' nw => nw = [] ∧ v = none ∧ ArI Z h' d .char (ovr cs k us)) := by
  have hcs := D.len
  refine Con.of pnUGC (Ls := [.val (.ref t), .val (.int 0), .val (.int (Int32.ofNat us.length)), .val (.ref d), .val (.int (Int32.ofNat k)), .unset]) (fun m => by first | (simp [entryFrame, mkF, argsToLocals, Value.category]; done) | (simp [entryFrame, mkF, argsToLocals, Value.category, maxLocals]; done) | rfl) ?_
  refine WP.iloadN (pc' := 1) dUGC_0 rfl rfl ?_
  refine WP.iloadN (pc' := 2) dUGC_1 rfl rfl ?_
  refine WP.icmpF (pc' := 5) dUGC_2 rfl ((n32_lt (i := 0) (by omega) (by omega)).mpr hpos) ?_
  refine WP.iloadN (pc' := 6) dUGC_5 rfl rfl ?_
  refine WP.iloadN (pc' := 7) dUGC_6 rfl rfl ?_
  refine WP.iloadN (pc' := 8) dUGC_7 rfl rfl ?_
  refine WP.isub (pc' := 9) dUGC_8 rfl ?_
  refine WP.aloadN (pc' := 10) dUGC_9 rfl rfl rfl ?_
  rw [i32_sub0]
  refine WP.callS (pc' := 13) (con_UOC hw hf (i := 0) (k := us.length) T (by omega)) (hw _ (List.mem_of_getElem? (i := 265) rfl)) (hw _ (List.mem_of_getElem? (i := 266) rfl)) (hw _ (List.mem_of_getElem? (i := 152) rfl)) (hw _ (List.mem_of_getElem? (i := 267) rfl)) dUGC_10 (by decide) pdx16 rfl rfl rfl (by first | exact Nat.le_of_ble_eq_true rfl | omega | (simp; done) | (simp; omega) | (dsimp only; omega)) (by first | exact Nat.le_of_ble_eq_true rfl | omega | (simp; done) | (simp; omega) | (dsimp only; omega)) (by first | exact Nat.le_of_ble_eq_true rfl | omega | (simp; done) | (simp; omega) | (dsimp only; omega)) (by first | exact Nat.le_of_ble_eq_true rfl | omega | (simp; done) | (simp; omega) | (dsimp only; omega)) (fun _ hx => nomatch hx) rfl ?_
  rintro v h1 nw K hnw ⟨rfl, rfl, rfl⟩
  dsimp only [Option.toList, List.nil_append]
  refine WP.iloadN (pc' := 14) dUGC_13 rfl rfl ?_
  refine WP.istore (pc' := 16) dUGC_14 rfl rfl rfl ?_
  dsimp only [List.set]
  exact loop_UGC hw hu16 hk hcs hm (T.ne D (by decide)) us.length 0 (by omega) _ T (by rw [List.take_zero, ovr_nil]; exact D)
end JdkGch
end Jvm.Pilot.@@N@@

namespace Jvm.Pilot.@@N@@
open Jvm Jvm.ClassFile Sem Op Lib Jvm.Free Jvm.Stand Jvm.LawKit Jvm.RoadKit Bundle Jvm.Pilot.@@N@@.Jvm.D Jvm.OwnW

section JdkCpy
variable {Z : State} {a0 : Array Value} {h : Heap} {mine : List Addr}
theorem dMAX_0 : decode jdk_29_method_65_code 0 = .ok (.iload_n 0, 1) := by decide +kernel
theorem dMAX_1 : decode jdk_29_method_65_code 1 = .ok (.iload_n 1, 1) := by decide +kernel
theorem dMAX_2 : decode jdk_29_method_65_code 2 = .ok (.if_icmp .lt 7, 3) := by decide +kernel
theorem dMAX_5 : decode jdk_29_method_65_code 5 = .ok (.iload_n 0, 1) := by decide +kernel
theorem dMAX_6 : decode jdk_29_method_65_code 6 = .ok (.goto 4, 3) := by decide +kernel
theorem dMAX_9 : decode jdk_29_method_65_code 9 = .ok (.iload_n 1, 1) := by decide +kernel
theorem dMAX_10 : decode jdk_29_method_65_code 10 = .ok (.ireturn, 1) := by decide +kernel
theorem pnMAX : plainFor (⟨"java/lang/Math", "max", "(II)I"⟩ : MethodName) = true := by decide +kernel
set_option maxRecDepth 65536 in
set_option maxHeartbeats 40000000 in
theorem con_MAX {i j : Nat} (hi : i < 2 ^ 31) (hj : j < 2 ^ 31) : Con (⟨"java/lang/Math", "max", "(II)I"⟩ : MethodName) jdk_29_method_65_code 2 (some .int) R0 Z LT [] #[.int (Int32.ofNat i), .int (Int32.ofNat j)] h [] mine (fun v h' nw => nw = [] ∧ v = some (.int (Int32.ofNat (max i j))) ∧ h' = h) := by
  refine Con.of pnMAX (Ls := [.val (.int (Int32.ofNat i)), .val (.int (Int32.ofNat j))]) (fun m => by first | (simp [entryFrame, mkF, argsToLocals, Value.category]; done) | (simp [entryFrame, mkF, argsToLocals, Value.category, maxLocals]; done) | rfl) ?_
  refine WP.iloadN (pc' := 1) dMAX_0 rfl rfl ?_
  refine WP.iloadN (pc' := 2) dMAX_1 rfl rfl ?_
  by_cases q : i < j
  · refine WP.icmpT (pc' := 9) dMAX_2 (by decide) (by decide) ((n32_lt hi hj).mpr q) ?_
    refine WP.iloadN (pc' := 10) dMAX_9 rfl rfl ?_
    exact WP.ireturn dMAX_10 rfl (by simp) rfl ⟨rfl, by rw [Nat.max_eq_right (by omega)], rfl⟩ (fun _ hx => nomatch hx) (fun _ hx => hx) (by first | exact Nat.le_of_ble_eq_true rfl | omega) (by first | exact Nat.le_of_ble_eq_true rfl | omega)
  · refine WP.icmpF (pc' := 5) dMAX_2 rfl (fun r => q ((n32_lt hi hj).mp r)) ?_
    refine WP.iloadN (pc' := 6) dMAX_5 rfl rfl ?_
    refine WP.goto (pc' := 10) dMAX_6 (by decide) (by decide) ?_
    exact WP.ireturn dMAX_10 rfl (by simp) rfl ⟨rfl, by rw [Nat.max_eq_left (by omega)], rfl⟩ (fun _ hx => nomatch hx) (fun _ hx => hx) (by first | exact Nat.le_of_ble_eq_true rfl | omega) (by first | exact Nat.le_of_ble_eq_true rfl | omega)
theorem dMIN_0 : decode jdk_29_method_69_code 0 = .ok (.iload_n 0, 1) := by decide +kernel
theorem dMIN_1 : decode jdk_29_method_69_code 1 = .ok (.iload_n 1, 1) := by decide +kernel
theorem dMIN_2 : decode jdk_29_method_69_code 2 = .ok (.if_icmp .gt 7, 3) := by decide +kernel
theorem dMIN_5 : decode jdk_29_method_69_code 5 = .ok (.iload_n 0, 1) := by decide +kernel
theorem dMIN_6 : decode jdk_29_method_69_code 6 = .ok (.goto 4, 3) := by decide +kernel
theorem dMIN_9 : decode jdk_29_method_69_code 9 = .ok (.iload_n 1, 1) := by decide +kernel
theorem dMIN_10 : decode jdk_29_method_69_code 10 = .ok (.ireturn, 1) := by decide +kernel
theorem pnMIN : plainFor (⟨"java/lang/Math", "min", "(II)I"⟩ : MethodName) = true := by decide +kernel
set_option maxRecDepth 65536 in
set_option maxHeartbeats 40000000 in
theorem con_MIN {i j : Nat} (hi : i < 2 ^ 31) (hj : j < 2 ^ 31) : Con (⟨"java/lang/Math", "min", "(II)I"⟩ : MethodName) jdk_29_method_69_code 2 (some .int) R0 Z LT [] #[.int (Int32.ofNat i), .int (Int32.ofNat j)] h [] mine (fun v h' nw => nw = [] ∧ v = some (.int (Int32.ofNat (min i j))) ∧ h' = h) := by
  refine Con.of pnMIN (Ls := [.val (.int (Int32.ofNat i)), .val (.int (Int32.ofNat j))]) (fun m => by first | (simp [entryFrame, mkF, argsToLocals, Value.category]; done) | (simp [entryFrame, mkF, argsToLocals, Value.category, maxLocals]; done) | rfl) ?_
  refine WP.iloadN (pc' := 1) dMIN_0 rfl rfl ?_
  refine WP.iloadN (pc' := 2) dMIN_1 rfl rfl ?_
  by_cases q : j < i
  · refine WP.icmpT (pc' := 9) dMIN_2 (by decide) (by decide) ((n32_lt hj hi).mpr q) ?_
    refine WP.iloadN (pc' := 10) dMIN_9 rfl rfl ?_
    exact WP.ireturn dMIN_10 rfl (by simp) rfl ⟨rfl, by rw [Nat.min_eq_right (by omega)], rfl⟩ (fun _ hx => nomatch hx) (fun _ hx => hx) (by first | exact Nat.le_of_ble_eq_true rfl | omega) (by first | exact Nat.le_of_ble_eq_true rfl | omega)
  · refine WP.icmpF (pc' := 5) dMIN_2 rfl (fun r => q ((n32_lt hj hi).mp r)) ?_
    refine WP.iloadN (pc' := 6) dMIN_5 rfl rfl ?_
    refine WP.goto (pc' := 10) dMIN_6 (by decide) (by decide) ?_
    exact WP.ireturn dMIN_10 rfl (by simp) rfl ⟨rfl, by rw [Nat.min_eq_left (by omega)], rfl⟩ (fun _ hx => nomatch hx) (fun _ hx => hx) (by first | exact Nat.le_of_ble_eq_true rfl | omega) (by first | exact Nat.le_of_ble_eq_true rfl | omega)
end JdkCpy
end Jvm.Pilot.@@N@@

namespace Jvm.Pilot.@@N@@
open Jvm Jvm.ClassFile Sem Op Lib Jvm.Free Jvm.Stand Jvm.LawKit Jvm.RoadKit Bundle Jvm.Pilot.@@N@@.Jvm.D Jvm.OwnW
theorem pdx17 : parseMethodDescriptor "(II)I" = some ⟨[.int, .int], some .int⟩ := by decide +kernel
theorem pdx18 : parseMethodDescriptor "([BII)[B" = some ⟨[(.array .byte), .int, .int], some (.array .byte)⟩ := by decide +kernel
section JdkCpb
variable {Z : State} {a0 : Array Value} {h : Heap} {mine : List Addr}
theorem dCKL_0 : decode jdk_65_method_131_code 0 = .ok (.iload_n 1, 1) := by decide +kernel
theorem dCKL_1 : decode jdk_65_method_131_code 1 = .ok (.iload_n 0, 1) := by decide +kernel
theorem dCKL_2 : decode jdk_65_method_131_code 2 = .ok (.if_icmp .ge 35, 3) := by decide +kernel
theorem dCKL_5 : decode jdk_65_method_131_code 5 = .ok (.new 43, 3) := by decide +kernel
theorem dCKL_8 : decode jdk_65_method_131_code 8 = .ok (.dup, 1) := by decide +kernel
theorem dCKL_9 : decode jdk_65_method_131_code 9 = .ok (.new 45, 3) := by decide +kernel
theorem dCKL_12 : decode jdk_65_method_131_code 12 = .ok (.dup, 1) := by decide +kernel
theorem dCKL_13 : decode jdk_65_method_131_code 13 = .ok (.invokespecial 47, 3) := by decide +kernel
theorem dCKL_16 : decode jdk_65_method_131_code 16 = .ok (.iload_n 0, 1) := by decide +kernel
theorem dCKL_17 : decode jdk_65_method_131_code 17 = .ok (.invokevirtual 54, 3) := by decide +kernel
theorem dCKL_20 : decode jdk_65_method_131_code 20 = .ok (.ldc_w 337, 3) := by decide +kernel
theorem dCKL_23 : decode jdk_65_method_131_code 23 = .ok (.invokevirtual 50, 3) := by decide +kernel
theorem dCKL_26 : decode jdk_65_method_131_code 26 = .ok (.iload_n 1, 1) := by decide +kernel
theorem dCKL_27 : decode jdk_65_method_131_code 27 = .ok (.invokevirtual 54, 3) := by decide +kernel
theorem dCKL_30 : decode jdk_65_method_131_code 30 = .ok (.invokevirtual 61, 3) := by decide +kernel
theorem dCKL_33 : decode jdk_65_method_131_code 33 = .ok (.invokespecial 65, 3) := by decide +kernel
theorem dCKL_36 : decode jdk_65_method_131_code 36 = .ok (.athrow, 1) := by decide +kernel
theorem dCKL_37 : decode jdk_65_method_131_code 37 = .ok (.return_, 1) := by decide +kernel
theorem pnCKL : plainFor (⟨"java/util/Arrays", "checkLength", "(II)V"⟩ : MethodName) = true := plainFor_of_name (by first | (simp [plainName, overriddenIn]; done) | decide +kernel)
set_option maxRecDepth 65536 in
set_option maxHeartbeats 40000000 in
theorem con_CKL {i j : Nat} (hij : i ≤ j) (hj : j < 2 ^ 31) : Con (⟨"java/util/Arrays", "checkLength", "(II)V"⟩ : MethodName) jdk_65_method_131_code 2 none R0 Z LT [] #[.int (Int32.ofNat i), .int (Int32.ofNat j)] h [] mine (fun v h' nw => nw = [] ∧ v = none ∧ h' = h) := by
  refine Con.of pnCKL (Ls := [.val (.int (Int32.ofNat i)), .val (.int (Int32.ofNat j))]) (fun m => by first | (simp [entryFrame, mkF, argsToLocals, Value.category]; done) | (simp [entryFrame, mkF, argsToLocals, Value.category, maxLocals]; done) | rfl) ?_
  refine WP.iloadN (pc' := 1) dCKL_0 rfl rfl ?_
  refine WP.iloadN (pc' := 2) dCKL_1 rfl rfl ?_
  refine WP.icmpT (pc' := 37) dCKL_2 (by decide) (by decide) (fun q => by have := (n32_lt (by omega) (by omega)).mp q; omega) ?_
  exact WP.vret dCKL_37 rfl ⟨rfl, rfl, rfl⟩ (fun _ hx => nomatch hx) (fun _ hx => hx) (by first | exact Nat.le_of_ble_eq_true rfl | omega) (by first | exact Nat.le_of_ble_eq_true rfl | omega)
theorem dCRB_0 : decode jdk_65_method_133_code 0 = .ok (.iload_n 1, 1) := by decide +kernel
theorem dCRB_1 : decode jdk_65_method_133_code 1 = .ok (.iload_n 2, 1) := by decide +kernel
theorem dCRB_2 : decode jdk_65_method_133_code 2 = .ok (.invokestatic 343, 3) := by decide +kernel
theorem dCRB_5 : decode jdk_65_method_133_code 5 = .ok (.iload_n 2, 1) := by decide +kernel
theorem dCRB_6 : decode jdk_65_method_133_code 6 = .ok (.iload_n 1, 1) := by decide +kernel
theorem dCRB_7 : decode jdk_65_method_133_code 7 = .ok (.isub, 1) := by decide +kernel
theorem dCRB_8 : decode jdk_65_method_133_code 8 = .ok (.istore_n 3, 1) := by decide +kernel
theorem dCRB_9 : decode jdk_65_method_133_code 9 = .ok (.iload_n 3, 1) := by decide +kernel
theorem dCRB_10 : decode jdk_65_method_133_code 10 = .ok (.newarray .byte, 2) := by decide +kernel
theorem dCRB_12 : decode jdk_65_method_133_code 12 = .ok (.astore 4, 2) := by decide +kernel
theorem dCRB_14 : decode jdk_65_method_133_code 14 = .ok (.aload_n 0, 1) := by decide +kernel
theorem dCRB_15 : decode jdk_65_method_133_code 15 = .ok (.iload_n 1, 1) := by decide +kernel
theorem dCRB_16 : decode jdk_65_method_133_code 16 = .ok (.aload 4, 2) := by decide +kernel
theorem dCRB_18 : decode jdk_65_method_133_code 18 = .ok (.iconst 0, 1) := by decide +kernel
theorem dCRB_19 : decode jdk_65_method_133_code 19 = .ok (.aload_n 0, 1) := by decide +kernel
theorem dCRB_20 : decode jdk_65_method_133_code 20 = .ok (.arraylength, 1) := by decide +kernel
theorem dCRB_21 : decode jdk_65_method_133_code 21 = .ok (.iload_n 1, 1) := by decide +kernel
theorem dCRB_22 : decode jdk_65_method_133_code 22 = .ok (.isub, 1) := by decide +kernel
theorem dCRB_23 : decode jdk_65_method_133_code 23 = .ok (.iload_n 3, 1) := by decide +kernel
theorem dCRB_24 : decode jdk_65_method_133_code 24 = .ok (.invokestatic 304, 3) := by decide +kernel
theorem dCRB_27 : decode jdk_65_method_133_code 27 = .ok (.invokestatic 150, 3) := by decide +kernel
theorem dCRB_30 : decode jdk_65_method_133_code 30 = .ok (.aload 4, 2) := by decide +kernel
theorem dCRB_32 : decode jdk_65_method_133_code 32 = .ok (.areturn, 1) := by decide +kernel
theorem pnCRB : plainFor (⟨"java/util/Arrays", "copyOfRangeByte", "([BII)[B"⟩ : MethodName) = true := plainFor_of_name (by first | (simp [plainName, overriddenIn]; done) | decide +kernel)
set_option maxRecDepth 65536 in
set_option maxHeartbeats 40000000 in
theorem con_CRB (hw : ∀ d ∈ tables_1, d.before a0 Z = true) {c : Addr} {cs : List Int32} {i j N : Nat} (hij : i ≤ j) (hj : j ≤ cs.length) (hN : j - i ≤ N) (hn : N ≤ 67108864) (A : ArI Z h c .byte cs) (hfc : ∀ x ∈ cs, fits .byte (.int x) = true) : Con (⟨"java/util/Arrays", "copyOfRangeByte", "([BII)[B"⟩ : MethodName) jdk_65_method_133_code 5 (some (.array .byte)) { frames := 1, cells := 1, slots := N, locals := 18 } Z LT [] #[.ref c, .int (Int32.ofNat i), .int (Int32.ofNat j)] h [] mine (fun v h' nw => ∃ t, nw = [t] ∧ v = some (.ref t) ∧ ArI Z h' t .byte ((cs.drop i).take (j - i)) ∧ Exa Z h' t "[B") := by
  have hl := A.len
  refine Con.of pnCRB (Ls := [.val (.ref c), .val (.int (Int32.ofNat i)), .val (.int (Int32.ofNat j)), .unset, .unset]) (fun m => by first | (simp [entryFrame, mkF, argsToLocals, Value.category]; done) | (simp [entryFrame, mkF, argsToLocals, Value.category, maxLocals]; done) | rfl) ?_
  refine WP.iloadN (pc' := 1) dCRB_0 rfl rfl ?_
  refine WP.iloadN (pc' := 2) dCRB_1 rfl rfl ?_
  refine WP.callS (pc' := 5) (con_CKL hij (by omega)) (hw _ (List.mem_of_getElem? (i := 221) rfl)) (hw _ (List.mem_of_getElem? (i := 222) rfl)) (hw _ (List.mem_of_getElem? (i := 135) rfl)) (hw _ (List.mem_of_getElem? (i := 223) rfl)) dCRB_2 (by decide) pdx10 rfl rfl rfl (by first | exact Nat.le_of_ble_eq_true rfl | omega | (simp; done) | (simp; omega) | (dsimp only; omega)) (by first | exact Nat.le_of_ble_eq_true rfl | omega | (simp; done) | (simp; omega) | (dsimp only; omega)) (by first | exact Nat.le_of_ble_eq_true rfl | omega | (simp; done) | (simp; omega) | (dsimp only; omega)) (by first | exact Nat.le_of_ble_eq_true rfl | omega | (simp; done) | (simp; omega) | (dsimp only; omega)) (fun _ hx => nomatch hx) rfl ?_
  rintro v h1 nw K hnw ⟨rfl, rfl, rfl⟩
  dsimp only [Option.toList, List.nil_append]
  refine WP.iloadN (pc' := 6) dCRB_5 rfl rfl ?_
  refine WP.iloadN (pc' := 7) dCRB_6 rfl rfl ?_
  refine WP.isub (pc' := 8) dCRB_7 rfl ?_
  rw [n32_sub hij (by omega)]
  refine WP.istoreN (pc' := 9) dCRB_8 rfl rfl rfl ?_
  dsimp only [List.set]
  refine WP.iloadN (pc' := 10) dCRB_9 rfl rfl ?_
  refine WP.newarrayE (pc' := 12) (N := (j - i)) (ad := "[B") dCRB_10 (hw _ (List.mem_of_getElem? (i := 20) rfl)) (by decide) rfl (n32_toInt (by omega)) (by first | exact Nat.le_of_ble_eq_true rfl | omega | (simp; done) | (simp; omega) | (dsimp only; omega)) (by first | exact Nat.le_of_ble_eq_true rfl | omega | (simp; done) | (simp; omega) | (dsimp only; omega)) (by first | exact Nat.le_of_ble_eq_true rfl | omega | (simp; done) | (simp; omega) | (dsimp only; omega)) rfl ?_
  intro h1 t et nt mt E1 B X
  refine WP.astore (pc' := 14) dCRB_12 rfl rfl rfl rfl rfl ?_
  dsimp only [List.set]
  refine WP.aloadN (pc' := 15) dCRB_14 rfl rfl rfl ?_
  refine WP.iloadN (pc' := 16) dCRB_15 rfl rfl ?_
  refine WP.aload (pc' := 18) dCRB_16 rfl rfl rfl ?_
  refine WP.iconst (pc' := 19) (x := 0) dCRB_18 (by decide) rfl ?_
  refine WP.aloadN (pc' := 20) dCRB_19 rfl rfl rfl ?_
  refine WP.arraylength (pc' := 21) dCRB_20 (A.ext E1) rfl rfl ?_
  refine WP.iloadN (pc' := 22) dCRB_21 rfl rfl ?_
  refine WP.isub (pc' := 23) dCRB_22 rfl ?_
  rw [n32_sub (by omega) hl]
  refine WP.iloadN (pc' := 24) dCRB_23 rfl rfl ?_
  refine WP.callS (pc' := 27) (con_MIN (by omega) (by omega)) (hw _ (List.mem_of_getElem? (i := 211) rfl)) (hw _ (List.mem_of_getElem? (i := 212) rfl)) (hw _ (List.mem_of_getElem? (i := 204) rfl)) (hw _ (List.mem_of_getElem? (i := 213) rfl)) dCRB_24 (by decide) pdx17 rfl rfl rfl (by first | exact Nat.le_of_ble_eq_true rfl | omega | (simp; done) | (simp; omega) | (dsimp only; omega)) (by first | exact Nat.le_of_ble_eq_true rfl | omega | (simp; done) | (simp; omega) | (dsimp only; omega)) (by first | exact Nat.le_of_ble_eq_true rfl | omega | (simp; done) | (simp; omega) | (dsimp only; omega)) (by first | exact Nat.le_of_ble_eq_true rfl | omega | (simp; done) | (simp; omega) | (dsimp only; omega)) (fun _ hx => nomatch hx) rfl ?_
  rintro v h2 nw K hnw ⟨rfl, rfl, rfl⟩
  dsimp only [Option.toList, List.cons_append, List.nil_append]
  rw [Nat.min_eq_right (by omega)]
  refine WP.arraycopy (pc' := 30) (i := i) (j := 0) (n := j - i) (W := 0) (hw _ (List.mem_of_getElem? (i := 214) rfl)) (hw _ (List.mem_of_getElem? (i := 217) rfl)) (hw _ (List.mem_of_getElem? (i := 215) rfl)) (hw _ (List.mem_of_getElem? (i := 216) rfl)) dCRB_27 (A.ext E1) B rfl hfc (fun y hy => by rw [List.eq_of_mem_replicate hy]; rfl) (n32_toInt (by omega)) (by decide) (n32_toInt (by omega)) (by omega) (by simp) (List.mem_cons_self ..) (Or.inr mt) rfl (Nat.le_of_ble_eq_true rfl) (by simp) (show 0 + (nativeFrameWords "java/lang/System" "arraycopy" 5 + 11) ≤ 18 by decide) rfl ?_
  intro h3 K3 C
  refine WP.aload (pc' := 32) dCRB_30 rfl rfl rfl ?_
  refine WP.areturn (nw := [t]) dCRB_32 rfl rfl rfl ⟨t, rfl, rfl, ?_, X.keep K3⟩ (fun x hx => ?_) (fun x hx => List.mem_cons_of_mem _ hx) (by dsimp only; omega) (by dsimp only; omega)
  · simpa using C
  · cases List.mem_singleton.mp hx; exact ⟨List.mem_cons_self .., mt⟩
theorem dCRG_0 : decode jdk_65_method_132_code 0 = .ok (.iload_n 1, 1) := by decide +kernel
theorem dCRG_1 : decode jdk_65_method_132_code 1 = .ok (.ifCond .ne 9, 3) := by decide +kernel
theorem dCRG_4 : decode jdk_65_method_132_code 4 = .ok (.iload_n 2, 1) := by decide +kernel
theorem dCRG_5 : decode jdk_65_method_132_code 5 = .ok (.aload_n 0, 1) := by decide +kernel
theorem dCRG_6 : decode jdk_65_method_132_code 6 = .ok (.arraylength, 1) := by decide +kernel
theorem dCRG_7 : decode jdk_65_method_132_code 7 = .ok (.if_icmp .eq 10, 3) := by decide +kernel
theorem dCRG_10 : decode jdk_65_method_132_code 10 = .ok (.aload_n 0, 1) := by decide +kernel
theorem dCRG_11 : decode jdk_65_method_132_code 11 = .ok (.iload_n 1, 1) := by decide +kernel
theorem dCRG_12 : decode jdk_65_method_132_code 12 = .ok (.iload_n 2, 1) := by decide +kernel
theorem dCRG_13 : decode jdk_65_method_132_code 13 = .ok (.invokestatic 339, 3) := by decide +kernel
theorem dCRG_16 : decode jdk_65_method_132_code 16 = .ok (.areturn, 1) := by decide +kernel
theorem dCRG_17 : decode jdk_65_method_132_code 17 = .ok (.aload_n 0, 1) := by decide +kernel
theorem dCRG_18 : decode jdk_65_method_132_code 18 = .ok (.invokevirtual 310, 3) := by decide +kernel
theorem dCRG_21 : decode jdk_65_method_132_code 21 = .ok (.checkcast 311, 3) := by decide +kernel
theorem dCRG_24 : decode jdk_65_method_132_code 24 = .ok (.areturn, 1) := by decide +kernel
theorem pnCRG : plainFor (⟨"java/util/Arrays", "copyOfRange", "([BII)[B"⟩ : MethodName) = true := plainFor_of_name (by first | (simp [plainName, overriddenIn]; done) | decide +kernel)
set_option maxRecDepth 65536 in
set_option maxHeartbeats 40000000 in
theorem con_CRG (hw : ∀ d ∈ tables_1, d.before a0 Z = true) {c : Addr} {cs : List Int32} {i j N : Nat} (hij : i ≤ j) (hj : j ≤ cs.length) (hN : j - i ≤ N) (hn : N ≤ 67108864) (A : ArI Z h c .byte cs) (X : Exa Z h c "[B") (hfc : ∀ x ∈ cs, fits .byte (.int x) = true) : Con (⟨"java/util/Arrays", "copyOfRange", "([BII)[B"⟩ : MethodName) jdk_65_method_132_code 3 (some (.array .byte)) { frames := 2, cells := 1, slots := N, locals := 34 } Z LT [] #[.ref c, .int (Int32.ofNat i), .int (Int32.ofNat j)] h [] mine (fun v h' nw => ∃ t, nw = [t] ∧ v = some (.ref t) ∧ ArI Z h' t .byte ((cs.drop i).take (j - i)) ∧ Exa Z h' t "[B") := by
  have hl := A.len
  refine Con.of pnCRG (Ls := [.val (.ref c), .val (.int (Int32.ofNat i)), .val (.int (Int32.ofNat j))]) (fun m => by first | (simp [entryFrame, mkF, argsToLocals, Value.category]; done) | (simp [entryFrame, mkF, argsToLocals, Value.category, maxLocals]; done) | rfl) ?_
  refine WP.iloadN (pc' := 1) dCRG_0 rfl rfl ?_
  by_cases h0 : i = 0 ∧ j = cs.length
  · obtain ⟨rfl, rfl⟩ := h0
    refine WP.ifF (pc' := 4) dCRG_1 rfl rfl ?_
    refine WP.iloadN (pc' := 5) dCRG_4 rfl rfl ?_
    refine WP.aloadN (pc' := 6) dCRG_5 rfl rfl rfl ?_
    refine WP.arraylength (pc' := 7) dCRG_6 A rfl rfl ?_
    refine WP.icmpT (pc' := 17) dCRG_7 (by decide) (by decide) rfl ?_
    refine WP.aloadN (pc' := 18) dCRG_17 rfl rfl rfl ?_
    refine WP.clone (pc' := 21) (N := N) (W := 0) (hw _ (List.mem_of_getElem? (i := 137) rfl)) (hw _ (List.mem_of_getElem? (i := 138) rfl)) (hw _ (List.mem_of_getElem? (i := 142) rfl)) (hw _ (List.mem_of_getElem? (i := 140) rfl)) (hw _ (List.mem_of_getElem? (i := 141) rfl)) (hw _ (List.mem_of_getElem? (i := 143) rfl)) dCRG_18 A X hfc rfl (by first | exact Nat.le_of_ble_eq_true rfl | omega | (simp; done) | (simp; omega) | (dsimp only; omega)) (by simp) (by first | exact Nat.le_of_ble_eq_true rfl | omega | (simp; done) | (simp; omega) | (dsimp only; omega)) (by omega) (by first | exact Nat.le_of_ble_eq_true rfl | omega | (simp; done) | (simp; omega) | (dsimp only; omega)) (by first | exact Nat.le_of_ble_eq_true rfl | omega | (simp; done) | (simp; omega) | (dsimp only; omega)) rfl ?_
    intro h1 t et nt mt E1 B X1
    refine WP.checkcast (pc' := 24) dCRG_21 (hw _ (List.mem_of_getElem? (i := 144) rfl)) (Ins.self X1) rfl ?_
    refine WP.areturn (nw := [t]) dCRG_24 rfl rfl rfl ⟨t, rfl, rfl, by simpa using B, X1⟩ (fun x hx => ?_) (fun x hx => List.mem_cons_of_mem _ hx) (by dsimp only; omega) (by dsimp only; omega)
    cases List.mem_singleton.mp hx; exact ⟨List.mem_cons_self .., mt⟩
  · have go : WP "java/util/Arrays" jdk_65_method_132_code 3 (some (.array .byte)) "copyOfRange" { frames := 2, cells := 1, slots := N, locals := 34 } Z LT h [] mine (fun v h' nw => ∃ t, nw = [t] ∧ v = some (.ref t) ∧ ArI Z h' t .byte ((cs.drop i).take (j - i)) ∧ Exa Z h' t "[B") mine 0 0 h 10 [.val (.ref c), .val (.int (Int32.ofNat i)), .val (.int (Int32.ofNat j))] [] := by
      refine WP.aloadN (pc' := 11) dCRG_10 rfl rfl rfl ?_
      refine WP.iloadN (pc' := 12) dCRG_11 rfl rfl ?_
      refine WP.iloadN (pc' := 13) dCRG_12 rfl rfl ?_
      refine WP.callS (pc' := 16) (con_CRB hw hij hj hN hn A hfc) (hw _ (List.mem_of_getElem? (i := 218) rfl)) (hw _ (List.mem_of_getElem? (i := 219) rfl)) (hw _ (List.mem_of_getElem? (i := 135) rfl)) (hw _ (List.mem_of_getElem? (i := 220) rfl)) dCRG_13 (by decide) pdx18 rfl rfl rfl (by first | exact Nat.le_of_ble_eq_true rfl | omega | (simp; done) | (simp; omega) | (dsimp only; omega)) (by first | exact Nat.le_of_ble_eq_true rfl | omega | (simp; done) | (simp; omega) | (dsimp only; omega)) (by first | exact Nat.le_of_ble_eq_true rfl | omega | (simp; done) | (simp; omega) | (dsimp only; omega)) (by first | exact Nat.le_of_ble_eq_true rfl | omega | (simp; done) | (simp; omega) | (dsimp only; omega)) (fun _ hx => nomatch hx) rfl ?_
      rintro v h1 nw K hnw ⟨t, rfl, rfl, B, X1⟩
      dsimp only [Option.toList, List.cons_append, List.nil_append]
      refine WP.areturn (nw := [t]) dCRG_16 rfl rfl rfl ⟨t, rfl, rfl, B, X1⟩ (fun x hx => ?_) (fun x hx => List.mem_cons_of_mem _ hx) (by dsimp only; omega) (by dsimp only; omega)
      cases List.mem_singleton.mp hx; exact ⟨List.mem_cons_self .., hnw _ (by simp)⟩
    by_cases hi : i = 0
    · subst hi
      refine WP.ifF (pc' := 4) dCRG_1 rfl rfl ?_
      refine WP.iloadN (pc' := 5) dCRG_4 rfl rfl ?_
      refine WP.aloadN (pc' := 6) dCRG_5 rfl rfl rfl ?_
      refine WP.arraylength (pc' := 7) dCRG_6 A rfl rfl ?_
      refine WP.icmpF (pc' := 10) dCRG_7 rfl (fun q => h0 ⟨rfl, (n32_eq (by omega) hl).mp q⟩) ?_
      exact go
    · refine WP.ifT (pc' := 10) dCRG_1 (by decide) (by decide) (fun q => hi ((n32_eq (n := 0) (by omega) (by omega)).mp q)) ?_
      exact go
theorem dCPB_0 : decode jdk_65_method_121_code 0 = .ok (.iload_n 1, 1) := by decide +kernel
theorem dCPB_1 : decode jdk_65_method_121_code 1 = .ok (.aload_n 0, 1) := by decide +kernel
theorem dCPB_2 : decode jdk_65_method_121_code 2 = .ok (.arraylength, 1) := by decide +kernel
theorem dCPB_3 : decode jdk_65_method_121_code 3 = .ok (.if_icmp .ne 11, 3) := by decide +kernel
theorem dCPB_6 : decode jdk_65_method_121_code 6 = .ok (.aload_n 0, 1) := by decide +kernel
theorem dCPB_7 : decode jdk_65_method_121_code 7 = .ok (.invokevirtual 310, 3) := by decide +kernel
theorem dCPB_10 : decode jdk_65_method_121_code 10 = .ok (.checkcast 311, 3) := by decide +kernel
theorem dCPB_13 : decode jdk_65_method_121_code 13 = .ok (.areturn, 1) := by decide +kernel
theorem dCPB_14 : decode jdk_65_method_121_code 14 = .ok (.iload_n 1, 1) := by decide +kernel
theorem dCPB_15 : decode jdk_65_method_121_code 15 = .ok (.newarray .byte, 2) := by decide +kernel
theorem dCPB_17 : decode jdk_65_method_121_code 17 = .ok (.astore_n 2, 1) := by decide +kernel
theorem dCPB_18 : decode jdk_65_method_121_code 18 = .ok (.aload_n 0, 1) := by decide +kernel
theorem dCPB_19 : decode jdk_65_method_121_code 19 = .ok (.iconst 0, 1) := by decide +kernel
theorem dCPB_20 : decode jdk_65_method_121_code 20 = .ok (.aload_n 2, 1) := by decide +kernel
theorem dCPB_21 : decode jdk_65_method_121_code 21 = .ok (.iconst 0, 1) := by decide +kernel
theorem dCPB_22 : decode jdk_65_method_121_code 22 = .ok (.aload_n 0, 1) := by decide +kernel
theorem dCPB_23 : decode jdk_65_method_121_code 23 = .ok (.arraylength, 1) := by decide +kernel
theorem dCPB_24 : decode jdk_65_method_121_code 24 = .ok (.iload_n 1, 1) := by decide +kernel
theorem dCPB_25 : decode jdk_65_method_121_code 25 = .ok (.invokestatic 304, 3) := by decide +kernel
theorem dCPB_28 : decode jdk_65_method_121_code 28 = .ok (.invokestatic 150, 3) := by decide +kernel
theorem dCPB_31 : decode jdk_65_method_121_code 31 = .ok (.aload_n 2, 1) := by decide +kernel
theorem dCPB_32 : decode jdk_65_method_121_code 32 = .ok (.areturn, 1) := by decide +kernel
theorem pnCPB : plainFor (⟨"java/util/Arrays", "copyOf", "([BI)[B"⟩ : MethodName) = true := plainFor_of_name (by first | (simp [plainName, overriddenIn]; done) | decide +kernel)
set_option maxRecDepth 65536 in
set_option maxHeartbeats 40000000 in
theorem con_CPB (hw : ∀ d ∈ tables_1, d.before a0 Z = true) {c : Addr} {cs : List Int32} {n N : Nat} (hlt : cs.length < n) (hN : n ≤ N) (hn : N ≤ 67108864) (A : ArI Z h c .byte cs) (hfc : ∀ x ∈ cs, fits .byte (.int x) = true) : Con (⟨"java/util/Arrays", "copyOf", "([BI)[B"⟩ : MethodName) jdk_65_method_121_code 3 (some (.array .byte)) { frames := 1, cells := 1, slots := N, locals := 18 } Z LT [] #[.ref c, .int (Int32.ofNat n)] h [] mine (fun v h' nw => ∃ t, nw = [t] ∧ v = some (.ref t) ∧ ArI Z h' t .byte (cs ++ List.replicate (n - cs.length) 0) ∧ Exa Z h' t "[B") := by
  refine Con.of pnCPB (Ls := [.val (.ref c), .val (.int (Int32.ofNat n)), .unset]) (fun m => by first | (simp [entryFrame, mkF, argsToLocals, Value.category]; done) | (simp [entryFrame, mkF, argsToLocals, Value.category, maxLocals]; done) | rfl) ?_
  refine WP.iloadN (pc' := 1) dCPB_0 rfl rfl ?_
  refine WP.aloadN (pc' := 2) dCPB_1 rfl rfl rfl ?_
  refine WP.arraylength (pc' := 3) dCPB_2 A rfl rfl ?_
  refine WP.icmpT (pc' := 14) dCPB_3 (by decide) (by decide) (fun q => by have := (n32_eq (by omega) A.len).mp q; omega) ?_
  refine WP.iloadN (pc' := 15) dCPB_14 rfl rfl ?_
  refine WP.newarrayE (pc' := 17) (N := n) (ad := "[B") dCPB_15 (hw _ (List.mem_of_getElem? (i := 20) rfl)) (by decide) rfl (n32_toInt (by omega)) (by first | exact Nat.le_of_ble_eq_true rfl | omega | (simp; done) | (simp; omega) | (dsimp only; omega)) (by first | exact Nat.le_of_ble_eq_true rfl | omega | (simp; done) | (simp; omega) | (dsimp only; omega)) (by first | exact Nat.le_of_ble_eq_true rfl | omega | (simp; done) | (simp; omega) | (dsimp only; omega)) rfl ?_
  intro h1 t et nt mt E1 B X
  refine WP.astoreN (pc' := 18) dCPB_17 rfl rfl rfl rfl rfl ?_
  dsimp only [List.set]
  refine WP.aloadN (pc' := 19) dCPB_18 rfl rfl rfl ?_
  refine WP.iconst (pc' := 20) (x := 0) dCPB_19 (by decide) rfl ?_
  refine WP.aloadN (pc' := 21) dCPB_20 rfl rfl rfl ?_
  refine WP.iconst (pc' := 22) (x := 0) dCPB_21 (by decide) rfl ?_
  refine WP.aloadN (pc' := 23) dCPB_22 rfl rfl rfl ?_
  refine WP.arraylength (pc' := 24) dCPB_23 (A.ext E1) rfl rfl ?_
  refine WP.iloadN (pc' := 25) dCPB_24 rfl rfl ?_
  refine WP.callS (pc' := 28) (con_MIN A.len (by omega)) (hw _ (List.mem_of_getElem? (i := 211) rfl)) (hw _ (List.mem_of_getElem? (i := 212) rfl)) (hw _ (List.mem_of_getElem? (i := 204) rfl)) (hw _ (List.mem_of_getElem? (i := 213) rfl)) dCPB_25 (by decide) pdx17 rfl rfl rfl (by first | exact Nat.le_of_ble_eq_true rfl | omega | (simp; done) | (simp; omega) | (dsimp only; omega)) (by first | exact Nat.le_of_ble_eq_true rfl | omega | (simp; done) | (simp; omega) | (dsimp only; omega)) (by first | exact Nat.le_of_ble_eq_true rfl | omega | (simp; done) | (simp; omega) | (dsimp only; omega)) (by first | exact Nat.le_of_ble_eq_true rfl | omega | (simp; done) | (simp; omega) | (dsimp only; omega)) (fun _ hx => nomatch hx) rfl ?_
  rintro v h2 nw K hnw ⟨rfl, rfl, rfl⟩
  dsimp only [Option.toList, List.cons_append, List.nil_append]
  rw [Nat.min_eq_left (by omega)]
  refine WP.arraycopy (pc' := 31) (i := 0) (j := 0) (n := cs.length) (W := 0) (hw _ (List.mem_of_getElem? (i := 214) rfl)) (hw _ (List.mem_of_getElem? (i := 217) rfl)) (hw _ (List.mem_of_getElem? (i := 215) rfl)) (hw _ (List.mem_of_getElem? (i := 216) rfl)) dCPB_28 (A.ext E1) B rfl hfc (fun y hy => by rw [List.eq_of_mem_replicate hy]; rfl) (by decide) (by decide) (n32_toInt A.len) (by omega) (by simp; omega) (List.mem_cons_self ..) (Or.inr mt) rfl (Nat.le_of_ble_eq_true rfl) (by simp) (show 0 + (nativeFrameWords "java/lang/System" "arraycopy" 5 + 11) ≤ 18 by decide) rfl ?_
  intro h3 K3 C
  refine WP.aloadN (pc' := 32) dCPB_31 rfl rfl rfl ?_
  refine WP.areturn (nw := [t]) dCPB_32 rfl rfl rfl ⟨t, rfl, rfl, ?_, X.keep K3⟩ (fun x hx => ?_) (fun x hx => List.mem_cons_of_mem _ hx) (by dsimp only; omega) (by dsimp only; omega)
  · simpa using C
  · cases List.mem_singleton.mp hx; exact ⟨List.mem_cons_self .., mt⟩
end JdkCpb
end Jvm.Pilot.@@N@@

namespace Jvm.Pilot.@@N@@
open Jvm Jvm.ClassFile Sem Op Lib Jvm.Free Jvm.Stand Jvm.LawKit Jvm.RoadKit Bundle Jvm.Pilot.@@N@@.Jvm.D Jvm.OwnW
theorem pdx19 : parseMethodDescriptor "(I)V" = some ⟨[.int], none⟩ := by decide +kernel
theorem pdx20 : parseMethodDescriptor "([BI)[B" = some ⟨[(.array .byte), .int], some (.array .byte)⟩ := by decide +kernel
section JdkSb
variable {Z : State} {a0 : Array Value} {h : Heap} {mine : List Addr}
abbrev SBN : String := "java/lang/StringBuilder"
abbrev ASBN : String := "java/lang/AbstractStringBuilder"
theorem n32_shl0 (x : Int32) : x <<< ((0 : Int32) &&& 31) = x := by simp
theorem n32_shr0 (x : Int32) : x >>> ((0 : Int32) &&& 31) = x := by
  have s := c_ishr x 0 0 (by decide)
  apply Int32.toInt_inj.mp
  rw [s]; simp
theorem s_vc (hw : ∀ d ∈ tables_1, d.before a0 Z = true) : Jvm.RoadKit.slotOf Z ASBN "value" "[B" ≠ Jvm.RoadKit.slotOf Z ASBN "coder" "B" := slot_ne (Or.inl (hw _ (List.mem_of_getElem? (i := 80) rfl))) (Or.inl (hw _ (List.mem_of_getElem? (i := 82) rfl))) (by decide) (t := .array .byte) (t' := .byte) (by decide) (by decide)
theorem s_vn (hw : ∀ d ∈ tables_1, d.before a0 Z = true) : Jvm.RoadKit.slotOf Z ASBN "value" "[B" ≠ Jvm.RoadKit.slotOf Z ASBN "count" "I" := slot_ne (Or.inl (hw _ (List.mem_of_getElem? (i := 80) rfl))) (Or.inl (hw _ (List.mem_of_getElem? (i := 127) rfl))) (by decide) (t := .array .byte) (t' := .int) (by decide) (by decide)
theorem s_cn (hw : ∀ d ∈ tables_1, d.before a0 Z = true) : Jvm.RoadKit.slotOf Z ASBN "coder" "B" ≠ Jvm.RoadKit.slotOf Z ASBN "count" "I" := slot_ne (Or.inl (hw _ (List.mem_of_getElem? (i := 82) rfl))) (Or.inl (hw _ (List.mem_of_getElem? (i := 127) rfl))) (by decide) (t := .byte) (t' := .int) (by decide) (by decide)
def ML (Z : State) (h : Heap) (b : Addr) : Prop := Fld Z h b ASBN "maybeLatin1" "Z" (.int 0)
theorem ML.keep {h' : Heap} {b : Addr} {ws : List Addr} (M : ML Z h b) (K : Keep h h' ws) (q : b ∉ ws) : ML Z h' b := Fld.keep M K q
theorem ML.ext {h' : Heap} {b : Addr} (M : ML Z h b) (E : Ext h h') : ML Z h' b := Fld.ext E M
theorem ML.ne {h' : Heap} {b x : Addr} {s : Nat} {w : Value} (M : ML Z h b) (W : Wr h h' x s w) (q : b ≠ x) : ML Z h' b := Fld.other W M (Or.inl q)
theorem ML.wv (hw : ∀ d ∈ tables_1, d.before a0 Z = true) {h' : Heap} {b : Addr} {w : Value} (M : ML Z h b) (W : Wr h h' b (Jvm.RoadKit.slotOf Z ASBN "value" "[B") w) : ML Z h' b := Fld.other W M (Or.inr (slot_ne (Or.inl (hw _ (List.mem_of_getElem? (i := 297) rfl))) (Or.inl (hw _ (List.mem_of_getElem? (i := 80) rfl))) (by decide) (t := .boolean) (t' := .array .byte) (by decide) (by decide)))
theorem ML.wc (hw : ∀ d ∈ tables_1, d.before a0 Z = true) {h' : Heap} {b : Addr} {w : Value} (M : ML Z h b) (W : Wr h h' b (Jvm.RoadKit.slotOf Z ASBN "coder" "B") w) : ML Z h' b := Fld.other W M (Or.inr (slot_ne (Or.inl (hw _ (List.mem_of_getElem? (i := 297) rfl))) (Or.inl (hw _ (List.mem_of_getElem? (i := 82) rfl))) (by decide) (t := .boolean) (t' := .byte) (by decide) (by decide)))
theorem ML.wn (hw : ∀ d ∈ tables_1, d.before a0 Z = true) {h' : Heap} {b : Addr} {w : Value} (M : ML Z h b) (W : Wr h h' b (Jvm.RoadKit.slotOf Z ASBN "count" "I") w) : ML Z h' b := Fld.other W M (Or.inr (slot_ne (Or.inl (hw _ (List.mem_of_getElem? (i := 297) rfl))) (Or.inl (hw _ (List.mem_of_getElem? (i := 127) rfl))) (by decide) (t := .boolean) (t' := .int) (by decide) (by decide)))
/-- a StringBuilder with its array, raw -/
def SBr (Z : State) (h : Heap) (b v : Addr) (xs : List Int32) (cc : Int32) (n : Nat) : Prop := Exa Z h b SBN ∧ Fld Z h b ASBN "value" "[B" (.ref v) ∧ Fld Z h b ASBN "coder" "B" (.int cc) ∧ Fld Z h b ASBN "count" "I" (.int (Int32.ofNat n)) ∧ ML Z h b ∧ ArI Z h v .byte xs ∧ Exa Z h v "[B" ∧ b ≠ v ∧ (∀ x ∈ xs, fits .byte (.int x) = true)
theorem SBr.keep {h' : Heap} {b v : Addr} {xs : List Int32} {cc : Int32} {n : Nat} {ws : List Addr} (B : SBr Z h b v xs cc n) (K : Keep h h' ws) (q : b ∉ ws) (r : v ∉ ws) : SBr Z h' b v xs cc n := ⟨B.1.keep K, B.2.1.keep K q, B.2.2.1.keep K q, B.2.2.2.1.keep K q, B.2.2.2.2.1.keep K q, B.2.2.2.2.2.1.keep K r, B.2.2.2.2.2.2.1.keep K, B.2.2.2.2.2.2.2⟩
theorem dASI_0 : decode jdk_68_method_2_code 0 = .ok (.aload_n 0, 1) := by decide +kernel
theorem dASI_1 : decode jdk_68_method_2_code 1 = .ok (.invokespecial 3, 3) := by decide +kernel
theorem dASI_4 : decode jdk_68_method_2_code 4 = .ok (.getstatic 18, 3) := by decide +kernel
theorem dASI_7 : decode jdk_68_method_2_code 7 = .ok (.ifCond .eq 18, 3) := by decide +kernel
theorem dASI_10 : decode jdk_68_method_2_code 10 = .ok (.aload_n 0, 1) := by decide +kernel
theorem dASI_11 : decode jdk_68_method_2_code 11 = .ok (.iload_n 1, 1) := by decide +kernel
theorem dASI_12 : decode jdk_68_method_2_code 12 = .ok (.newarray .byte, 2) := by decide +kernel
theorem dASI_14 : decode jdk_68_method_2_code 14 = .ok (.putfield 15, 3) := by decide +kernel
theorem dASI_17 : decode jdk_68_method_2_code 17 = .ok (.aload_n 0, 1) := by decide +kernel
theorem dASI_18 : decode jdk_68_method_2_code 18 = .ok (.iconst 0, 1) := by decide +kernel
theorem dASI_19 : decode jdk_68_method_2_code 19 = .ok (.putfield 22, 3) := by decide +kernel
theorem dASI_22 : decode jdk_68_method_2_code 22 = .ok (.goto 16, 3) := by decide +kernel
theorem dASI_25 : decode jdk_68_method_2_code 25 = .ok (.aload_n 0, 1) := by decide +kernel
theorem dASI_26 : decode jdk_68_method_2_code 26 = .ok (.iload_n 1, 1) := by decide +kernel
theorem dASI_27 : decode jdk_68_method_2_code 27 = .ok (.invokestatic 26, 3) := by decide +kernel
theorem dASI_30 : decode jdk_68_method_2_code 30 = .ok (.putfield 15, 3) := by decide +kernel
theorem dASI_33 : decode jdk_68_method_2_code 33 = .ok (.aload_n 0, 1) := by decide +kernel
theorem dASI_34 : decode jdk_68_method_2_code 34 = .ok (.iconst 1, 1) := by decide +kernel
theorem dASI_35 : decode jdk_68_method_2_code 35 = .ok (.putfield 22, 3) := by decide +kernel
theorem dASI_38 : decode jdk_68_method_2_code 38 = .ok (.return_, 1) := by decide +kernel
theorem pnASI : plainFor (⟨"java/lang/AbstractStringBuilder", "<init>", "(I)V"⟩ : MethodName) = true := plainFor_of_name (by first | (simp [plainName, overriddenIn]; done) | decide +kernel)
set_option maxRecDepth 65536 in
set_option maxHeartbeats 40000000 in
theorem con_ASI (hw : ∀ d ∈ tables_1, d.before a0 Z = true) {cz : Int32} (hc : Compact Z cz) {b : Addr} {C : Nat} (hC : C ≤ 67108864) (E : Exa Z h b SBN) (F1 : Fld Z h b ASBN "value" "[B" .null) (F2 : Fld Z h b ASBN "coder" "B" (.int 0)) (F3 : Fld Z h b ASBN "count" "I" (.int 0)) (M : ML Z h b) (hm : b ∈ mine) : Con (⟨"java/lang/AbstractStringBuilder", "<init>", "(I)V"⟩ : MethodName) jdk_68_method_2_code 2 none { frames := 1, cells := 1, slots := C, locals := 12 } Z LT [] #[.ref b, .int (Int32.ofNat C)] h [b] mine (fun v h' nw => ∃ t, nw = [t] ∧ v = none ∧ SBr Z h' b t (List.replicate C 0) 0 0) := by
  have ws : b ∈ [b] ∨ h.size ≤ b := Or.inl (List.mem_singleton.mpr rfl)
  refine Con.of pnASI (Ls := [.val (.ref b), .val (.int (Int32.ofNat C))]) (fun m => by first | (simp [entryFrame, mkF, argsToLocals, Value.category]; done) | (simp [entryFrame, mkF, argsToLocals, Value.category, maxLocals]; done) | rfl) ?_
  refine WP.aloadN (pc' := 1) dASI_0 rfl rfl rfl ?_
  refine WP.initObj (pc' := 4) (W := 0) dASI_1 (hw _ (List.mem_of_getElem? (i := 77) rfl)) (hw _ (List.mem_of_getElem? (i := 17) rfl)) (hw _ (List.mem_of_getElem? (i := 18) rfl)) rfl (by first | exact Nat.le_of_ble_eq_true rfl | omega | (simp; done) | (simp; omega) | (dsimp only; omega)) (by first | exact Nat.le_of_ble_eq_true rfl | omega | (simp; done) | (simp; omega) | (dsimp only; omega)) (by first | exact Nat.le_of_ble_eq_true rfl | omega | (simp; done) | (simp; omega) | (dsimp only; omega)) rfl ?_
  refine WP.getstatic (pc' := 7) (host := "") dASI_4 (Or.inl (hw _ (List.mem_of_getElem? (i := 78) rfl))) Via.refl hc.1 rfl ?_
  refine WP.ifF (pc' := 10) dASI_7 rfl hc.2 ?_
  refine WP.aloadN (pc' := 11) dASI_10 rfl rfl rfl ?_
  refine WP.iloadN (pc' := 12) dASI_11 rfl rfl ?_
  refine WP.newarrayE (pc' := 14) (N := C) (ad := "[B") dASI_12 (hw _ (List.mem_of_getElem? (i := 20) rfl)) (by decide) rfl (n32_toInt (by omega)) (by first | exact Nat.le_of_ble_eq_true rfl | omega | (simp; done) | (simp; omega) | (dsimp only; omega)) (by first | exact Nat.le_of_ble_eq_true rfl | omega | (simp; done) | (simp; omega) | (dsimp only; omega)) (by first | exact Nat.le_of_ble_eq_true rfl | omega | (simp; done) | (simp; omega) | (dsimp only; omega)) rfl ?_
  intro h1 t et nt mt E1 A X
  have nbt : b ≠ t := fun q => nt (q ▸ hm)
  refine WP.putfield (pc' := 17) (host := "") dASI_14 (Or.inl (hw _ (List.mem_of_getElem? (i := 79) rfl))) Via.refl (F1.ext E1) (E.ext E1) (Or.inl (hw _ (List.mem_of_getElem? (i := 80) rfl))) (hw _ (List.mem_of_getElem? (i := 55) rfl)) (ty := (.array .byte)) (by decide) rfl rfl (List.mem_cons_of_mem _ hm) ws rfl ?_
  intro h2 W2 G2 E2
  refine WP.aloadN (pc' := 18) dASI_17 rfl rfl rfl ?_
  refine WP.iconst (pc' := 19) (x := 0) dASI_18 (by decide) rfl ?_
  refine WP.putfield (pc' := 22) (host := "") dASI_19 (Or.inl (hw _ (List.mem_of_getElem? (i := 81) rfl))) Via.refl ((F2.ext E1).other W2 (Or.inr (Ne.symm (s_vc hw)))) E2 (Or.inl (hw _ (List.mem_of_getElem? (i := 82) rfl))) (hw _ (List.mem_of_getElem? (i := 55) rfl)) (ty := .byte) (by decide) rfl rfl (List.mem_cons_of_mem _ hm) ws rfl ?_
  intro h3 W3 G3 E3
  refine WP.goto (pc' := 38) dASI_22 (by decide) (by decide) ?_
  refine WP.vret (nw := [t]) dASI_38 rfl ⟨t, rfl, rfl, E3, G2.other W3 (Or.inr (s_vc hw)), G3, ((F3.ext E1).other W2 (Or.inr (Ne.symm (s_vn hw)))).other W3 (Or.inr (Ne.symm (s_cn hw))), ((M.ext E1).wv hw W2).wc hw W3, (A.other W2 (Ne.symm nbt)).other W3 (Ne.symm nbt), (X.wr W2).wr W3, nbt, fun x hx => by rw [List.eq_of_mem_replicate hx]; rfl⟩ (fun x hx => ?_) (fun x hx => List.mem_cons_of_mem _ hx) (by dsimp only; omega) (by dsimp only; omega)
  cases List.mem_singleton.mp hx; exact ⟨List.mem_cons_self .., mt⟩
theorem dSBI_0 : decode jdk_67_method_2_code 0 = .ok (.aload_n 0, 1) := by decide +kernel
theorem dSBI_1 : decode jdk_67_method_2_code 1 = .ok (.iload_n 1, 1) := by decide +kernel
theorem dSBI_2 : decode jdk_67_method_2_code 2 = .ok (.invokespecial 1, 3) := by decide +kernel
theorem dSBI_5 : decode jdk_67_method_2_code 5 = .ok (.return_, 1) := by decide +kernel
theorem pnSBI : plainFor (⟨"java/lang/StringBuilder", "<init>", "(I)V"⟩ : MethodName) = true := plainFor_of_name (by first | (simp [plainName, overriddenIn]; done) | decide +kernel)
set_option maxRecDepth 65536 in
set_option maxHeartbeats 40000000 in
theorem con_SBI (hw : ∀ d ∈ tables_1, d.before a0 Z = true) {cz : Int32} (hc : Compact Z cz) {b : Addr} {C : Nat} (hC : C ≤ 67108864) (E : Exa Z h b SBN) (F1 : Fld Z h b ASBN "value" "[B" .null) (F2 : Fld Z h b ASBN "coder" "B" (.int 0)) (F3 : Fld Z h b ASBN "count" "I" (.int 0)) (M : ML Z h b) (hm : b ∈ mine) : Con (⟨"java/lang/StringBuilder", "<init>", "(I)V"⟩ : MethodName) jdk_67_method_2_code 2 none { frames := 2, cells := 1, slots := C, locals := 25 } Z LT [] #[.ref b, .int (Int32.ofNat C)] h [b] mine (fun v h' nw => ∃ t, nw = [t] ∧ v = none ∧ SBr Z h' b t (List.replicate C 0) 0 0) := by
  refine Con.of pnSBI (Ls := [.val (.ref b), .val (.int (Int32.ofNat C))]) (fun m => by first | (simp [entryFrame, mkF, argsToLocals, Value.category]; done) | (simp [entryFrame, mkF, argsToLocals, Value.category, maxLocals]; done) | rfl) ?_
  refine WP.aloadN (pc' := 1) dSBI_0 rfl rfl rfl ?_
  refine WP.iloadN (pc' := 2) dSBI_1 rfl rfl ?_
  refine WP.callSp (pc' := 5) (con_ASI hw hc hC E F1 F2 F3 M hm) rfl (hw _ (List.mem_of_getElem? (i := 71) rfl)) (hw _ (List.mem_of_getElem? (i := 72) rfl)) (hw _ (List.mem_of_getElem? (i := 75) rfl)) (hw _ (List.mem_of_getElem? (i := 76) rfl)) dSBI_2 (by decide) pdx19 rfl rfl rfl (by first | exact Nat.le_of_ble_eq_true rfl | omega | (simp; done) | (simp; omega) | (dsimp only; omega)) (by first | exact Nat.le_of_ble_eq_true rfl | omega | (simp; done) | (simp; omega) | (dsimp only; omega)) (by first | exact Nat.le_of_ble_eq_true rfl | omega | (simp; done) | (simp; omega) | (dsimp only; omega)) (by first | exact Nat.le_of_ble_eq_true rfl | omega | (simp; done) | (simp; omega) | (dsimp only; omega)) (fun x hx => Or.inl hx) rfl ?_
  rintro v h1 nw K hnw ⟨t, rfl, rfl, B⟩
  dsimp only [Option.toList, List.nil_append, List.cons_append]
  refine WP.vret (nw := [t]) dSBI_5 rfl ⟨t, rfl, rfl, B⟩ (fun x hx => ?_) (fun x hx => List.mem_cons_of_mem _ hx) (by dsimp only; omega) (by dsimp only; omega)
  cases List.mem_singleton.mp hx; exact ⟨List.mem_cons_self .., hnw _ (by simp)⟩
theorem dSBL_0 : decode jdk_68_method_68_code 0 = .ok (.getstatic 18, 3) := by decide +kernel
theorem dSBL_3 : decode jdk_68_method_68_code 3 = .ok (.ifCond .eq 14, 3) := by decide +kernel
theorem dSBL_6 : decode jdk_68_method_68_code 6 = .ok (.aload_n 0, 1) := by decide +kernel
theorem dSBL_7 : decode jdk_68_method_68_code 7 = .ok (.getfield 22, 3) := by decide +kernel
theorem dSBL_10 : decode jdk_68_method_68_code 10 = .ok (.ifCond .ne 7, 3) := by decide +kernel
theorem dSBL_13 : decode jdk_68_method_68_code 13 = .ok (.iconst 1, 1) := by decide +kernel
theorem dSBL_14 : decode jdk_68_method_68_code 14 = .ok (.goto 4, 3) := by decide +kernel
theorem dSBL_17 : decode jdk_68_method_68_code 17 = .ok (.iconst 0, 1) := by decide +kernel
theorem dSBL_18 : decode jdk_68_method_68_code 18 = .ok (.ireturn, 1) := by decide +kernel
theorem pnSBL : plainFor (⟨"java/lang/AbstractStringBuilder", "isLatin1", "()Z"⟩ : MethodName) = true := plainFor_of_name (by first | (simp [plainName, overriddenIn]; done) | decide +kernel)
set_option maxRecDepth 65536 in
set_option maxHeartbeats 40000000 in
theorem con_SBL (hw : ∀ d ∈ tables_1, d.before a0 Z = true) {cz : Int32} (hc : Compact Z cz) {b : Addr} {cc : Int32} (F : Fld Z h b ASBN "coder" "B" (.int cc)) : Con (⟨"java/lang/AbstractStringBuilder", "isLatin1", "()Z"⟩ : MethodName) jdk_68_method_68_code 1 (some .boolean) R0 Z LT [] #[.ref b] h [] mine (fun v h' nw => nw = [] ∧ v = some (.int (if cc = 0 then 1 else 0)) ∧ h' = h) := by
  refine Con.of pnSBL (Ls := [.val (.ref b)]) (fun m => by first | (simp [entryFrame, mkF, argsToLocals, Value.category]; done) | (simp [entryFrame, mkF, argsToLocals, Value.category, maxLocals]; done) | rfl) ?_
  refine WP.getstatic (pc' := 3) (host := "") dSBL_0 (Or.inl (hw _ (List.mem_of_getElem? (i := 78) rfl))) Via.refl hc.1 rfl ?_
  refine WP.ifF (pc' := 6) dSBL_3 rfl hc.2 ?_
  refine WP.aloadN (pc' := 7) dSBL_6 rfl rfl rfl ?_
  refine WP.getfield (pc' := 10) (host := "") dSBL_7 (Or.inl (hw _ (List.mem_of_getElem? (i := 81) rfl))) Via.refl F rfl ?_
  by_cases h0 : cc = 0
  · refine WP.ifF (pc' := 13) dSBL_10 rfl h0 ?_
    refine WP.iconst (pc' := 14) (x := 1) dSBL_13 (by decide) rfl ?_
    refine WP.goto (pc' := 18) dSBL_14 (by decide) (by decide) ?_
    exact WP.ireturn dSBL_18 rfl (by simp) rfl ⟨rfl, by rw [if_pos h0], rfl⟩ (fun _ hx => nomatch hx) (fun _ hx => hx) (by first | exact Nat.le_of_ble_eq_true rfl | omega) (by first | exact Nat.le_of_ble_eq_true rfl | omega)
  · refine WP.ifT (pc' := 17) dSBL_10 (by decide) (by decide) h0 ?_
    refine WP.iconst (pc' := 18) (x := 0) dSBL_17 (by decide) rfl ?_
    exact WP.ireturn dSBL_18 rfl (by simp) rfl ⟨rfl, by rw [if_neg h0], rfl⟩ (fun _ hx => nomatch hx) (fun _ hx => hx) (by first | exact Nat.le_of_ble_eq_true rfl | omega) (by first | exact Nat.le_of_ble_eq_true rfl | omega)
theorem dNLN_0 : decode jdk_48_method_27_code 0 = .ok (.iload_n 0, 1) := by decide +kernel
theorem dNLN_1 : decode jdk_48_method_27_code 1 = .ok (.iload_n 1, 1) := by decide +kernel
theorem dNLN_2 : decode jdk_48_method_27_code 2 = .ok (.iload_n 2, 1) := by decide +kernel
theorem dNLN_3 : decode jdk_48_method_27_code 3 = .ok (.invokestatic 194, 3) := by decide +kernel
theorem dNLN_6 : decode jdk_48_method_27_code 6 = .ok (.iadd, 1) := by decide +kernel
theorem dNLN_7 : decode jdk_48_method_27_code 7 = .ok (.istore_n 3, 1) := by decide +kernel
theorem dNLN_8 : decode jdk_48_method_27_code 8 = .ok (.iconst 0, 1) := by decide +kernel
theorem dNLN_9 : decode jdk_48_method_27_code 9 = .ok (.iload_n 3, 1) := by decide +kernel
theorem dNLN_10 : decode jdk_48_method_27_code 10 = .ok (.if_icmp .ge 11, 3) := by decide +kernel
theorem dNLN_13 : decode jdk_48_method_27_code 13 = .ok (.iload_n 3, 1) := by decide +kernel
theorem dNLN_14 : decode jdk_48_method_27_code 14 = .ok (.ldc 200, 2) := by decide +kernel
theorem dNLN_16 : decode jdk_48_method_27_code 16 = .ok (.if_icmp .gt 5, 3) := by decide +kernel
theorem dNLN_19 : decode jdk_48_method_27_code 19 = .ok (.iload_n 3, 1) := by decide +kernel
theorem dNLN_20 : decode jdk_48_method_27_code 20 = .ok (.ireturn, 1) := by decide +kernel
theorem dNLN_21 : decode jdk_48_method_27_code 21 = .ok (.iload_n 0, 1) := by decide +kernel
theorem dNLN_22 : decode jdk_48_method_27_code 22 = .ok (.iload_n 1, 1) := by decide +kernel
theorem dNLN_23 : decode jdk_48_method_27_code 23 = .ok (.invokestatic 201, 3) := by decide +kernel
theorem dNLN_26 : decode jdk_48_method_27_code 26 = .ok (.ireturn, 1) := by decide +kernel
theorem pnNLN : plainFor (⟨"jdk/internal/util/ArraysSupport", "newLength", "(III)I"⟩ : MethodName) = true := plainFor_of_name (by first | (simp [plainName, overriddenIn]; done) | decide +kernel)
set_option maxRecDepth 65536 in
set_option maxHeartbeats 40000000 in
theorem con_NLN (hw : ∀ d ∈ tables_1, d.before a0 Z = true) {i j k : Nat} (hp : 0 < i + max j k) (hb : i + max j k ≤ 2147483639) : Con (⟨"jdk/internal/util/ArraysSupport", "newLength", "(III)I"⟩ : MethodName) jdk_48_method_27_code 4 (some .int) { frames := 1, cells := 0, slots := 0, locals := 14 } Z LT [] #[.int (Int32.ofNat i), .int (Int32.ofNat j), .int (Int32.ofNat k)] h [] mine (fun v h' nw => nw = [] ∧ v = some (.int (Int32.ofNat (i + max j k))) ∧ h' = h) := by
  refine Con.of pnNLN (Ls := [.val (.int (Int32.ofNat i)), .val (.int (Int32.ofNat j)), .val (.int (Int32.ofNat k)), .unset]) (fun m => by first | (simp [entryFrame, mkF, argsToLocals, Value.category]; done) | (simp [entryFrame, mkF, argsToLocals, Value.category, maxLocals]; done) | rfl) ?_
  refine WP.iloadN (pc' := 1) dNLN_0 rfl rfl ?_
  refine WP.iloadN (pc' := 2) dNLN_1 rfl rfl ?_
  refine WP.iloadN (pc' := 3) dNLN_2 rfl rfl ?_
  refine WP.callS (pc' := 6) (con_MAX (i := j) (j := k) (by omega) (by omega)) (hw _ (List.mem_of_getElem? (i := 202) rfl)) (hw _ (List.mem_of_getElem? (i := 203) rfl)) (hw _ (List.mem_of_getElem? (i := 204) rfl)) (hw _ (List.mem_of_getElem? (i := 205) rfl)) dNLN_3 (by decide) pdx17 rfl rfl rfl (by first | exact Nat.le_of_ble_eq_true rfl | omega | (simp; done) | (simp; omega) | (dsimp only; omega)) (by first | exact Nat.le_of_ble_eq_true rfl | omega | (simp; done) | (simp; omega) | (dsimp only; omega)) (by first | exact Nat.le_of_ble_eq_true rfl | omega | (simp; done) | (simp; omega) | (dsimp only; omega)) (by first | exact Nat.le_of_ble_eq_true rfl | omega | (simp; done) | (simp; omega) | (dsimp only; omega)) (fun _ hx => nomatch hx) rfl ?_
  rintro v h1 nw K hnw ⟨rfl, rfl, rfl⟩
  dsimp only [Option.toList, List.cons_append, List.nil_append]
  refine WP.iadd (pc' := 7) dNLN_6 rfl ?_
  rw [n32_add]
  refine WP.istoreN (pc' := 8) dNLN_7 rfl rfl rfl ?_
  dsimp only [List.set]
  refine WP.iconst (pc' := 9) (x := 0) dNLN_8 (by decide) rfl ?_
  refine WP.iloadN (pc' := 10) dNLN_9 rfl rfl ?_
  refine WP.icmpF (pc' := 13) dNLN_10 rfl ((n32_lt (i := 0) (by omega) (by omega)).mpr hp) ?_
  refine WP.iloadN (pc' := 14) dNLN_13 rfl rfl ?_
  refine WP.ldcInt (pc' := 16) dNLN_14 (hw _ (List.mem_of_getElem? (i := 206) rfl)) rfl ?_
  refine WP.icmpF (pc' := 19) dNLN_16 rfl (fun q => by have := (n32_lt (i := 2147483639) (by omega) (by omega)).mp q; omega) ?_
  refine WP.iloadN (pc' := 20) dNLN_19 rfl rfl ?_
  exact WP.ireturn dNLN_20 rfl (by simp) rfl ⟨rfl, rfl, rfl⟩ (fun _ hx => nomatch hx) (fun _ hx => hx) (by first | exact Nat.le_of_ble_eq_true rfl | omega) (by first | exact Nat.le_of_ble_eq_true rfl | omega)
theorem dNCP_0 : decode jdk_68_method_10_code 0 = .ok (.aload_n 0, 1) := by decide +kernel
theorem dNCP_1 : decode jdk_68_method_10_code 1 = .ok (.getfield 15, 3) := by decide +kernel
theorem dNCP_4 : decode jdk_68_method_10_code 4 = .ok (.arraylength, 1) := by decide +kernel
theorem dNCP_5 : decode jdk_68_method_10_code 5 = .ok (.istore_n 2, 1) := by decide +kernel
theorem dNCP_6 : decode jdk_68_method_10_code 6 = .ok (.iload_n 1, 1) := by decide +kernel
theorem dNCP_7 : decode jdk_68_method_10_code 7 = .ok (.aload_n 0, 1) := by decide +kernel
theorem dNCP_8 : decode jdk_68_method_10_code 8 = .ok (.getfield 22, 3) := by decide +kernel
theorem dNCP_11 : decode jdk_68_method_10_code 11 = .ok (.ishl, 1) := by decide +kernel
theorem dNCP_12 : decode jdk_68_method_10_code 12 = .ok (.istore_n 3, 1) := by decide +kernel
theorem dNCP_13 : decode jdk_68_method_10_code 13 = .ok (.iload_n 3, 1) := by decide +kernel
theorem dNCP_14 : decode jdk_68_method_10_code 14 = .ok (.iload_n 2, 1) := by decide +kernel
theorem dNCP_15 : decode jdk_68_method_10_code 15 = .ok (.isub, 1) := by decide +kernel
theorem dNCP_16 : decode jdk_68_method_10_code 16 = .ok (.istore 4, 2) := by decide +kernel
theorem dNCP_18 : decode jdk_68_method_10_code 18 = .ok (.iload_n 2, 1) := by decide +kernel
theorem dNCP_19 : decode jdk_68_method_10_code 19 = .ok (.iload 4, 2) := by decide +kernel
theorem dNCP_21 : decode jdk_68_method_10_code 21 = .ok (.iload_n 2, 1) := by decide +kernel
theorem dNCP_22 : decode jdk_68_method_10_code 22 = .ok (.iconst 2, 1) := by decide +kernel
theorem dNCP_23 : decode jdk_68_method_10_code 23 = .ok (.aload_n 0, 1) := by decide +kernel
theorem dNCP_24 : decode jdk_68_method_10_code 24 = .ok (.getfield 22, 3) := by decide +kernel
theorem dNCP_27 : decode jdk_68_method_10_code 27 = .ok (.ishl, 1) := by decide +kernel
theorem dNCP_28 : decode jdk_68_method_10_code 28 = .ok (.iadd, 1) := by decide +kernel
theorem dNCP_29 : decode jdk_68_method_10_code 29 = .ok (.invokestatic 114, 3) := by decide +kernel
theorem dNCP_32 : decode jdk_68_method_10_code 32 = .ok (.istore 5, 2) := by decide +kernel
theorem dNCP_34 : decode jdk_68_method_10_code 34 = .ok (.iload 5, 2) := by decide +kernel
theorem dNCP_36 : decode jdk_68_method_10_code 36 = .ok (.ldc 39, 2) := by decide +kernel
theorem dNCP_38 : decode jdk_68_method_10_code 38 = .ok (.if_icmp .ne 13, 3) := by decide +kernel
theorem dNCP_41 : decode jdk_68_method_10_code 41 = .ok (.new 120, 3) := by decide +kernel
theorem dNCP_44 : decode jdk_68_method_10_code 44 = .ok (.dup, 1) := by decide +kernel
theorem dNCP_45 : decode jdk_68_method_10_code 45 = .ok (.ldc 122, 2) := by decide +kernel
theorem dNCP_47 : decode jdk_68_method_10_code 47 = .ok (.invokespecial 124, 3) := by decide +kernel
theorem dNCP_50 : decode jdk_68_method_10_code 50 = .ok (.athrow, 1) := by decide +kernel
theorem dNCP_51 : decode jdk_68_method_10_code 51 = .ok (.iload 5, 2) := by decide +kernel
theorem dNCP_53 : decode jdk_68_method_10_code 53 = .ok (.aload_n 0, 1) := by decide +kernel
theorem dNCP_54 : decode jdk_68_method_10_code 54 = .ok (.getfield 22, 3) := by decide +kernel
theorem dNCP_57 : decode jdk_68_method_10_code 57 = .ok (.ishr, 1) := by decide +kernel
theorem dNCP_58 : decode jdk_68_method_10_code 58 = .ok (.ireturn, 1) := by decide +kernel
theorem pnNCP : plainFor (⟨"java/lang/AbstractStringBuilder", "newCapacity", "(I)I"⟩ : MethodName) = true := plainFor_of_name (by first | (simp [plainName, overriddenIn]; done) | decide +kernel)
set_option maxRecDepth 65536 in
set_option maxHeartbeats 40000000 in
theorem con_NCP (hw : ∀ d ∈ tables_1, d.before a0 Z = true) {b v : Addr} {xs : List Int32} {cc : Int32} {n C m : Nat} (B : SBr Z h b v xs cc n) (hcc : (cc = 0 ∧ xs.length = C) ∨ (cc = 1 ∧ xs.length = 2 * C)) (hC : C ≤ 100000000) (hlt : C < m) (hm : m ≤ 2 * C + 2) : Con (⟨"java/lang/AbstractStringBuilder", "newCapacity", "(I)I"⟩ : MethodName) jdk_68_method_10_code 6 (some .int) { frames := 2, cells := 0, slots := 0, locals := 29 } Z LT [] #[.ref b, .int (Int32.ofNat m)] h [] mine (fun v h' nw => nw = [] ∧ v = some (.int (Int32.ofNat (2 * C + 2))) ∧ h' = h) := by
  obtain ⟨E, Fv, Fc, Fn, M, A, X, nbv, hfx⟩ := B
  refine Con.of pnNCP (Ls := [.val (.ref b), .val (.int (Int32.ofNat m)), .unset, .unset, .unset, .unset]) (fun m => by first | (simp [entryFrame, mkF, argsToLocals, Value.category]; done) | (simp [entryFrame, mkF, argsToLocals, Value.category, maxLocals]; done) | rfl) ?_
  refine WP.aloadN (pc' := 1) dNCP_0 rfl rfl rfl ?_
  refine WP.getfield (pc' := 4) (host := "") dNCP_1 (Or.inl (hw _ (List.mem_of_getElem? (i := 79) rfl))) Via.refl Fv rfl ?_
  refine WP.arraylength (pc' := 5) dNCP_4 A rfl rfl ?_
  refine WP.istoreN (pc' := 6) dNCP_5 rfl rfl rfl ?_
  dsimp only [List.set]
  refine WP.iloadN (pc' := 7) dNCP_6 rfl rfl ?_
  refine WP.aloadN (pc' := 8) dNCP_7 rfl rfl rfl ?_
  refine WP.getfield (pc' := 11) (host := "") dNCP_8 (Or.inl (hw _ (List.mem_of_getElem? (i := 81) rfl))) Via.refl Fc rfl ?_
  refine WP.ishl (pc' := 12) dNCP_11 rfl ?_
  rcases hcc with ⟨rfl, hx⟩ | ⟨rfl, hx⟩
  · rw [n32_shl0, hx]
    refine WP.istoreN (pc' := 13) dNCP_12 rfl rfl rfl ?_
    dsimp only [List.set]
    refine WP.iloadN (pc' := 14) dNCP_13 rfl rfl ?_
    refine WP.iloadN (pc' := 15) dNCP_14 rfl rfl ?_
    refine WP.isub (pc' := 16) dNCP_15 rfl ?_
    rw [n32_sub (by omega) (by omega)]
    refine WP.istore (pc' := 18) dNCP_16 rfl rfl rfl ?_
    dsimp only [List.set]
    refine WP.iloadN (pc' := 19) dNCP_18 rfl rfl ?_
    refine WP.iload (pc' := 21) dNCP_19 rfl rfl ?_
    refine WP.iloadN (pc' := 22) dNCP_21 rfl rfl ?_
    refine WP.iconst (pc' := 23) (x := 2) dNCP_22 (by decide) rfl ?_
    refine WP.aloadN (pc' := 24) dNCP_23 rfl rfl rfl ?_
    refine WP.getfield (pc' := 27) (host := "") dNCP_24 (Or.inl (hw _ (List.mem_of_getElem? (i := 81) rfl))) Via.refl Fc rfl ?_
    refine WP.ishl (pc' := 28) dNCP_27 rfl ?_
    rw [n32_shl0]
    refine WP.iadd (pc' := 29) dNCP_28 rfl ?_
    rw [show Int32.ofNat C + 2 = Int32.ofNat (C + 2) from n32_add C 2]
    refine WP.callS (pc' := 32) (con_NLN hw (i := C) (j := m - C) (k := C + 2) (by omega) (by omega)) (hw _ (List.mem_of_getElem? (i := 198) rfl)) (hw _ (List.mem_of_getElem? (i := 199) rfl)) (hw _ (List.mem_of_getElem? (i := 200) rfl)) (hw _ (List.mem_of_getElem? (i := 201) rfl)) dNCP_29 (by decide) pdx15 rfl rfl rfl (by first | exact Nat.le_of_ble_eq_true rfl | omega | (simp; done) | (simp; omega) | (dsimp only; omega)) (by first | exact Nat.le_of_ble_eq_true rfl | omega | (simp; done) | (simp; omega) | (dsimp only; omega)) (by first | exact Nat.le_of_ble_eq_true rfl | omega | (simp; done) | (simp; omega) | (dsimp only; omega)) (by first | exact Nat.le_of_ble_eq_true rfl | omega | (simp; done) | (simp; omega) | (dsimp only; omega)) (fun _ hx => nomatch hx) rfl ?_
    rintro v h1 nw K hnw ⟨rfl, rfl, rfl⟩
    dsimp only [Option.toList, List.cons_append, List.nil_append]
    rw [show C + max (m - C) (C + 2) = 2 * C + 2 by omega]
    refine WP.istore (pc' := 34) dNCP_32 rfl rfl rfl ?_
    dsimp only [List.set]
    refine WP.iload (pc' := 36) dNCP_34 rfl rfl ?_
    refine WP.ldcInt (pc' := 38) dNCP_36 (hw _ (List.mem_of_getElem? (i := 207) rfl)) rfl ?_
    refine WP.icmpT (pc' := 51) dNCP_38 (by decide) (by decide) (fun q => by have := (n32_eq (n := 2147483647) (by omega) (by omega)).mp q; omega) ?_
    refine WP.iload (pc' := 53) dNCP_51 rfl rfl ?_
    refine WP.aloadN (pc' := 54) dNCP_53 rfl rfl rfl ?_
    refine WP.getfield (pc' := 57) (host := "") dNCP_54 (Or.inl (hw _ (List.mem_of_getElem? (i := 81) rfl))) Via.refl Fc rfl ?_
    refine WP.ishr (pc' := 58) dNCP_57 rfl ?_
    rw [n32_shr0]
    exact WP.ireturn dNCP_58 rfl (by simp) rfl ⟨rfl, rfl, rfl⟩ (fun _ hx => nomatch hx) (fun _ hx => hx) (by first | exact Nat.le_of_ble_eq_true rfl | omega) (by first | exact Nat.le_of_ble_eq_true rfl | omega)
  · rw [n32_shl1 (by omega), hx]
    refine WP.istoreN (pc' := 13) dNCP_12 rfl rfl rfl ?_
    dsimp only [List.set]
    refine WP.iloadN (pc' := 14) dNCP_13 rfl rfl ?_
    refine WP.iloadN (pc' := 15) dNCP_14 rfl rfl ?_
    refine WP.isub (pc' := 16) dNCP_15 rfl ?_
    rw [n32_sub (by omega) (by omega)]
    refine WP.istore (pc' := 18) dNCP_16 rfl rfl rfl ?_
    dsimp only [List.set]
    refine WP.iloadN (pc' := 19) dNCP_18 rfl rfl ?_
    refine WP.iload (pc' := 21) dNCP_19 rfl rfl ?_
    refine WP.iloadN (pc' := 22) dNCP_21 rfl rfl ?_
    refine WP.iconst (pc' := 23) (x := 2) dNCP_22 (by decide) rfl ?_
    refine WP.aloadN (pc' := 24) dNCP_23 rfl rfl rfl ?_
    refine WP.getfield (pc' := 27) (host := "") dNCP_24 (Or.inl (hw _ (List.mem_of_getElem? (i := 81) rfl))) Via.refl Fc rfl ?_
    refine WP.ishl (pc' := 28) dNCP_27 rfl ?_
    rw [show (2 : Int32) <<< ((1 : Int32) &&& 31) = 4 by decide]
    refine WP.iadd (pc' := 29) dNCP_28 rfl ?_
    rw [show Int32.ofNat (2 * C) + 4 = Int32.ofNat (2 * C + 4) from n32_add (2 * C) 4]
    refine WP.callS (pc' := 32) (con_NLN hw (i := 2 * C) (j := 2 * m - 2 * C) (k := 2 * C + 4) (by omega) (by omega)) (hw _ (List.mem_of_getElem? (i := 198) rfl)) (hw _ (List.mem_of_getElem? (i := 199) rfl)) (hw _ (List.mem_of_getElem? (i := 200) rfl)) (hw _ (List.mem_of_getElem? (i := 201) rfl)) dNCP_29 (by decide) pdx15 rfl rfl rfl (by first | exact Nat.le_of_ble_eq_true rfl | omega | (simp; done) | (simp; omega) | (dsimp only; omega)) (by first | exact Nat.le_of_ble_eq_true rfl | omega | (simp; done) | (simp; omega) | (dsimp only; omega)) (by first | exact Nat.le_of_ble_eq_true rfl | omega | (simp; done) | (simp; omega) | (dsimp only; omega)) (by first | exact Nat.le_of_ble_eq_true rfl | omega | (simp; done) | (simp; omega) | (dsimp only; omega)) (fun _ hx => nomatch hx) rfl ?_
    rintro v h1 nw K hnw ⟨rfl, rfl, rfl⟩
    dsimp only [Option.toList, List.cons_append, List.nil_append]
    rw [show 2 * C + max (2 * m - 2 * C) (2 * C + 4) = 2 * (2 * C + 2) by omega]
    refine WP.istore (pc' := 34) dNCP_32 rfl rfl rfl ?_
    dsimp only [List.set]
    refine WP.iload (pc' := 36) dNCP_34 rfl rfl ?_
    refine WP.ldcInt (pc' := 38) dNCP_36 (hw _ (List.mem_of_getElem? (i := 207) rfl)) rfl ?_
    refine WP.icmpT (pc' := 51) dNCP_38 (by decide) (by decide) (fun q => by have := (n32_eq (n := 2147483647) (by omega) (by omega)).mp q; omega) ?_
    refine WP.iload (pc' := 53) dNCP_51 rfl rfl ?_
    refine WP.aloadN (pc' := 54) dNCP_53 rfl rfl rfl ?_
    refine WP.getfield (pc' := 57) (host := "") dNCP_54 (Or.inl (hw _ (List.mem_of_getElem? (i := 81) rfl))) Via.refl Fc rfl ?_
    refine WP.ishr (pc' := 58) dNCP_57 rfl ?_
    rw [n32_half (by omega)]
    exact WP.ireturn dNCP_58 rfl (by simp) rfl ⟨rfl, rfl, rfl⟩ (fun _ hx => nomatch hx) (fun _ hx => hx) (by first | exact Nat.le_of_ble_eq_true rfl | omega) (by first | exact Nat.le_of_ble_eq_true rfl | omega)
theorem dECI_0 : decode jdk_68_method_9_code 0 = .ok (.aload_n 0, 1) := by decide +kernel
theorem dECI_1 : decode jdk_68_method_9_code 1 = .ok (.getfield 15, 3) := by decide +kernel
theorem dECI_4 : decode jdk_68_method_9_code 4 = .ok (.arraylength, 1) := by decide +kernel
theorem dECI_5 : decode jdk_68_method_9_code 5 = .ok (.aload_n 0, 1) := by decide +kernel
theorem dECI_6 : decode jdk_68_method_9_code 6 = .ok (.getfield 22, 3) := by decide +kernel
theorem dECI_9 : decode jdk_68_method_9_code 9 = .ok (.ishr, 1) := by decide +kernel
theorem dECI_10 : decode jdk_68_method_9_code 10 = .ok (.istore_n 2, 1) := by decide +kernel
theorem dECI_11 : decode jdk_68_method_9_code 11 = .ok (.iload_n 1, 1) := by decide +kernel
theorem dECI_12 : decode jdk_68_method_9_code 12 = .ok (.iload_n 2, 1) := by decide +kernel
theorem dECI_13 : decode jdk_68_method_9_code 13 = .ok (.isub, 1) := by decide +kernel
theorem dECI_14 : decode jdk_68_method_9_code 14 = .ok (.ifCond .le 24, 3) := by decide +kernel
theorem dECI_17 : decode jdk_68_method_9_code 17 = .ok (.aload_n 0, 1) := by decide +kernel
theorem dECI_18 : decode jdk_68_method_9_code 18 = .ok (.aload_n 0, 1) := by decide +kernel
theorem dECI_19 : decode jdk_68_method_9_code 19 = .ok (.getfield 15, 3) := by decide +kernel
theorem dECI_22 : decode jdk_68_method_9_code 22 = .ok (.aload_n 0, 1) := by decide +kernel
theorem dECI_23 : decode jdk_68_method_9_code 23 = .ok (.iload_n 1, 1) := by decide +kernel
theorem dECI_24 : decode jdk_68_method_9_code 24 = .ok (.invokevirtual 104, 3) := by decide +kernel
theorem dECI_27 : decode jdk_68_method_9_code 27 = .ok (.aload_n 0, 1) := by decide +kernel
theorem dECI_28 : decode jdk_68_method_9_code 28 = .ok (.getfield 22, 3) := by decide +kernel
theorem dECI_31 : decode jdk_68_method_9_code 31 = .ok (.ishl, 1) := by decide +kernel
theorem dECI_32 : decode jdk_68_method_9_code 32 = .ok (.invokestatic 108, 3) := by decide +kernel
theorem dECI_35 : decode jdk_68_method_9_code 35 = .ok (.putfield 15, 3) := by decide +kernel
theorem dECI_38 : decode jdk_68_method_9_code 38 = .ok (.return_, 1) := by decide +kernel
theorem pnECI : plainFor (⟨"java/lang/AbstractStringBuilder", "ensureCapacityInternal", "(I)V"⟩ : MethodName) = true := plainFor_of_name (by first | (simp [plainName, overriddenIn]; done) | decide +kernel)
set_option maxRecDepth 65536 in
set_option maxHeartbeats 40000000 in
theorem con_ECI (hw : ∀ d ∈ tables_1, d.before a0 Z = true) {b v : Addr} {xs : List Int32} {cc : Int32} {n C m N : Nat} (B : SBr Z h b v xs cc n) (hcc : (cc = 0 ∧ xs.length = C) ∨ (cc = 1 ∧ xs.length = 2 * C)) (hN : 4 * C + 4 ≤ N) (hN2 : N ≤ 67108864) (hm : m ≤ 2 * C + 2) (hb : b ∈ mine) : Con (⟨"java/lang/AbstractStringBuilder", "ensureCapacityInternal", "(I)V"⟩ : MethodName) jdk_68_method_9_code 3 none { frames := 3, cells := 1, slots := N, locals := 49 } Z LT [] #[.ref b, .int (Int32.ofNat m)] h [b] mine (fun w h' nw => w = none ∧ ∃ v' C' zs, ((nw = [] ∧ v' = v) ∨ nw = [v']) ∧ SBr Z h' b v' (xs ++ zs) cc n ∧ ((cc = 0 ∧ (xs ++ zs).length = C') ∨ (cc = 1 ∧ (xs ++ zs).length = 2 * C')) ∧ m ≤ C' ∧ ((C' = C) ∨ (C < m ∧ C' = 2 * C + 2))) := by
  have B0 := B
  obtain ⟨E, Fv, Fc, Fn, M, A, X, nbv, hfx⟩ := B
  refine Con.of pnECI (Ls := [.val (.ref b), .val (.int (Int32.ofNat m)), .unset]) (fun m => by first | (simp [entryFrame, mkF, argsToLocals, Value.category]; done) | (simp [entryFrame, mkF, argsToLocals, Value.category, maxLocals]; done) | rfl) ?_
  refine WP.know fun _ _ hmine => ?_
  have hbs := (hmine b hb).2
  refine WP.aloadN (pc' := 1) dECI_0 rfl rfl rfl ?_
  refine WP.getfield (pc' := 4) (host := "") dECI_1 (Or.inl (hw _ (List.mem_of_getElem? (i := 79) rfl))) Via.refl Fv rfl ?_
  refine WP.arraylength (pc' := 5) dECI_4 A rfl rfl ?_
  refine WP.aloadN (pc' := 6) dECI_5 rfl rfl rfl ?_
  refine WP.getfield (pc' := 9) (host := "") dECI_6 (Or.inl (hw _ (List.mem_of_getElem? (i := 81) rfl))) Via.refl Fc rfl ?_
  refine WP.ishr (pc' := 10) dECI_9 rfl ?_
  have hsh : Int32.ofNat xs.length >>> (cc &&& 31) = Int32.ofNat C := by
    rcases hcc with ⟨rfl, hx⟩ | ⟨rfl, hx⟩
    · rw [n32_shr0, hx]
    · rw [hx, n32_half (by omega)]
  rw [hsh]
  refine WP.istoreN (pc' := 11) dECI_10 rfl rfl rfl ?_
  dsimp only [List.set]
  refine WP.iloadN (pc' := 12) dECI_11 rfl rfl ?_
  refine WP.iloadN (pc' := 13) dECI_12 rfl rfl ?_
  refine WP.isub (pc' := 14) dECI_13 rfl ?_
  by_cases hle : m ≤ C
  · have hneg : ¬ 0 < Int32.ofNat m - Int32.ofNat C := fun q => by
      have s := c_isub (Int32.ofNat m) (Int32.ofNat C)
      have r := rng32 (Int32.ofNat m - Int32.ofNat C)
      rw [n32_toInt (by omega), n32_toInt (by omega)] at s
      rw [Int32.lt_iff_toInt_lt] at q
      have e0 : (0 : Int32).toInt = 0 := rfl
      omega
    refine WP.ifT (pc' := 38) dECI_14 (by decide) (by decide) hneg ?_
    exact WP.vret (nw := []) dECI_38 rfl ⟨rfl, v, C, [], Or.inl ⟨rfl, rfl⟩, by rw [List.append_nil]; exact B0, by rw [List.append_nil]; exact hcc, hle, Or.inl rfl⟩ (fun _ hx => nomatch hx) (fun _ hx => hx) (by first | exact Nat.le_of_ble_eq_true rfl | omega) (by first | exact Nat.le_of_ble_eq_true rfl | omega)
  · rw [n32_sub (by omega) (by omega)]
    refine WP.ifF (pc' := 17) dECI_14 rfl ((n32_lt (i := 0) (by omega) (by omega)).mpr (by omega)) ?_
    refine WP.aloadN (pc' := 18) dECI_17 rfl rfl rfl ?_
    refine WP.aloadN (pc' := 19) dECI_18 rfl rfl rfl ?_
    refine WP.getfield (pc' := 22) (host := "") dECI_19 (Or.inl (hw _ (List.mem_of_getElem? (i := 79) rfl))) Via.refl Fv rfl ?_
    refine WP.aloadN (pc' := 23) dECI_22 rfl rfl rfl ?_
    refine WP.iloadN (pc' := 24) dECI_23 rfl rfl ?_
    refine WP.callPn (pc' := 27) (con_NCP hw B0 hcc (by omega) (by omega) hm) E.cell (hw _ (List.mem_of_getElem? (i := 193) rfl)) (hw _ (List.mem_of_getElem? (i := 194) rfl)) (hw _ (List.mem_of_getElem? (i := 195) rfl)) (fun s hs => (ni_sel (y := ({ cls := "java/lang/AbstractStringBuilder", name := "getValue", desc := "()[B" } : Jvm.MethodName)) (args := #[]) (mv hs (hw _ (List.mem_of_getElem? (i := 115) rfl))))) (hw _ (List.mem_of_getElem? (i := 75) rfl)) (hw _ (List.mem_of_getElem? (i := 197) rfl)) dECI_24 (by decide) pdx0 rfl rfl rfl (by first | exact Nat.le_of_ble_eq_true rfl | omega | (simp; done) | (simp; omega) | (dsimp only; omega)) (by first | exact Nat.le_of_ble_eq_true rfl | omega | (simp; done) | (simp; omega) | (dsimp only; omega)) (by first | exact Nat.le_of_ble_eq_true rfl | omega | (simp; done) | (simp; omega) | (dsimp only; omega)) (by first | exact Nat.le_of_ble_eq_true rfl | omega | (simp; done) | (simp; omega) | (dsimp only; omega)) (fun _ hx => nomatch hx) rfl ?_
    rintro w h1 nw K hnw ⟨rfl, rfl, rfl⟩
    dsimp only [Option.toList, List.cons_append, List.nil_append]
    refine WP.aloadN (pc' := 28) dECI_27 rfl rfl rfl ?_
    refine WP.getfield (pc' := 31) (host := "") dECI_28 (Or.inl (hw _ (List.mem_of_getElem? (i := 81) rfl))) Via.refl Fc rfl ?_
    refine WP.ishl (pc' := 32) dECI_31 rfl ?_
    obtain ⟨L, hL, hL2, hL3⟩ : ∃ L, Int32.ofNat (2 * C + 2) <<< (cc &&& 31) = Int32.ofNat L ∧ xs.length < L ∧ L ≤ N ∧ ((cc = 0 ∧ L = 2 * C + 2) ∨ (cc = 1 ∧ L = 2 * (2 * C + 2))) := by
      rcases hcc with ⟨rfl, hx⟩ | ⟨rfl, hx⟩
      · exact ⟨2 * C + 2, n32_shl0 _, by omega, by omega, Or.inl ⟨rfl, rfl⟩⟩
      · exact ⟨2 * (2 * C + 2), n32_shl1 (by omega), by omega, by omega, Or.inr ⟨rfl, rfl⟩⟩
    rw [hL]
    refine WP.callS (pc' := 35) (con_CPB hw (n := L) hL2 hL3.1 hN2 A hfx) (hw _ (List.mem_of_getElem? (i := 208) rfl)) (hw _ (List.mem_of_getElem? (i := 209) rfl)) (hw _ (List.mem_of_getElem? (i := 135) rfl)) (hw _ (List.mem_of_getElem? (i := 210) rfl)) dECI_32 (by decide) pdx20 rfl rfl rfl (by first | exact Nat.le_of_ble_eq_true rfl | omega | (simp; done) | (simp; omega) | (dsimp only; omega)) (by first | exact Nat.le_of_ble_eq_true rfl | omega | (simp; done) | (simp; omega) | (dsimp only; omega)) (by first | exact Nat.le_of_ble_eq_true rfl | omega | (simp; done) | (simp; omega) | (dsimp only; omega)) (by first | exact Nat.le_of_ble_eq_true rfl | omega | (simp; done) | (simp; omega) | (dsimp only; omega)) (fun _ hx => nomatch hx) rfl ?_
    rintro w h1 nw K1 hnw1 ⟨t, rfl, rfl, T, XT⟩
    dsimp only [Option.toList, List.cons_append, List.nil_append]
    have ht := hnw1 t (by simp)
    have nbt : b ≠ t := fun q => absurd hbs (Nat.not_lt.mpr (q ▸ ht))
    refine WP.putfield (pc' := 38) (host := "") dECI_35 (Or.inl (hw _ (List.mem_of_getElem? (i := 79) rfl))) Via.refl (Fv.keep K1 nin0) (E.keep K1) (Or.inl (hw _ (List.mem_of_getElem? (i := 80) rfl))) (hw _ (List.mem_of_getElem? (i := 55) rfl)) (ty := (.array .byte)) (by decide) rfl rfl (List.mem_cons_of_mem _ hb) (Or.inl (List.mem_singleton.mpr rfl)) rfl ?_
    intro h2 W2 G2 E2
    refine WP.vret (nw := [t]) dECI_38 rfl ⟨rfl, t, 2 * C + 2, List.replicate (L - xs.length) 0, Or.inr rfl, ⟨E2, G2, (Fc.keep K1 nin0).other W2 (Or.inr (Ne.symm (s_vc hw))), (Fn.keep K1 nin0).other W2 (Or.inr (Ne.symm (s_vn hw))), (M.keep K1 nin0).wv hw W2, T.other W2 (Ne.symm nbt), XT.wr W2, nbt, fun x hx => ?_⟩, ?_, by omega, Or.inr ⟨by omega, rfl⟩⟩ (fun x hx => ?_) (fun x hx => List.mem_cons_of_mem _ hx) (by dsimp only; omega) (by dsimp only; omega)
    · rcases List.mem_append.mp hx with q | q
      · exact hfx x q
      · rw [List.eq_of_mem_replicate q]; rfl
    · have hl : (xs ++ List.replicate (L - xs.length) (0 : Int32)).length = L := by simp; omega
      rw [hl]
      exact hL3.2
    · cases List.mem_singleton.mp hx; exact ⟨List.mem_cons_self .., ht⟩
end JdkSb
end Jvm.Pilot.@@N@@

namespace Jvm.Pilot.@@N@@
open Jvm Jvm.ClassFile Sem Op Lib Jvm.Free Jvm.Stand Jvm.LawKit Jvm.RoadKit Bundle Jvm.Pilot.@@N@@.Jvm.D Jvm.OwnW
theorem pdx21 : parseMethodDescriptor "([BI[BII)V" = some ⟨[(.array .byte), .int, (.array .byte), .int, .int], none⟩ := by decide +kernel
section JdkSb2
variable {Z : State} {a0 : Array Value} {h : Heap} {mine : List Addr}
set_option maxRecDepth 65536 in
set_option maxHeartbeats 40000000 in
theorem con_NBFE (hw : ∀ d ∈ tables_1, d.before a0 Z = true) {n N : Nat} (hN : 2 * n ≤ N) (hn : N ≤ 67108864) : Con (⟨"java/lang/StringUTF16", "newBytesFor", "(I)[B"⟩ : MethodName) jdk_52_method_2_code 1 (some (.array .byte)) { frames := 1, cells := 1, slots := N, locals := 12 } Z LT [] #[.int (Int32.ofNat n)] h [] mine (fun v h' nw => ∃ t, v = some (.ref t) ∧ nw = [t] ∧ ArI Z h' t .byte (List.replicate (2 * n) 0) ∧ Exa Z h' t "[B") := by
  refine Con.of pnNBF (Ls := [.val (.int (Int32.ofNat n))]) (fun m => by first | (simp [entryFrame, mkF, argsToLocals, Value.category]; done) | (simp [entryFrame, mkF, argsToLocals, Value.category, maxLocals]; done) | rfl) ?_
  refine WP.iloadN (pc' := 1) dNBF_0 rfl rfl ?_
  refine WP.callS (pc' := 4) (con_NBL hw (by omega)) (hw _ (List.mem_of_getElem? (i := 246) rfl)) (hw _ (List.mem_of_getElem? (i := 247) rfl)) (hw _ (List.mem_of_getElem? (i := 152) rfl)) (hw _ (List.mem_of_getElem? (i := 248) rfl)) dNBF_1 (by decide) pdx0 rfl rfl rfl (by first | exact Nat.le_of_ble_eq_true rfl | omega | (simp; done) | (simp; omega) | (dsimp only; omega)) (by first | exact Nat.le_of_ble_eq_true rfl | omega | (simp; done) | (simp; omega) | (dsimp only; omega)) (by first | exact Nat.le_of_ble_eq_true rfl | omega | (simp; done) | (simp; omega) | (dsimp only; omega)) (by first | exact Nat.le_of_ble_eq_true rfl | omega | (simp; done) | (simp; omega) | (dsimp only; omega)) (fun _ hx => nomatch hx) rfl ?_
  rintro v h' nw K1 hnw ⟨rfl, rfl, rfl⟩
  dsimp only [Option.toList, List.cons_append, List.nil_append]
  refine WP.newarrayE (pc' := 6) (N := (2 * n)) (ad := "[B") dNBF_4 (hw _ (List.mem_of_getElem? (i := 20) rfl)) (by decide) rfl (n32_toInt (by omega)) (by first | exact Nat.le_of_ble_eq_true rfl | omega | (simp; done) | (simp; omega) | (dsimp only; omega)) (by first | exact Nat.le_of_ble_eq_true rfl | omega | (simp; done) | (simp; omega) | (dsimp only; omega)) (by first | exact Nat.le_of_ble_eq_true rfl | omega | (simp; done) | (simp; omega) | (dsimp only; omega)) rfl ?_
  intro h2 t ht htm ht0 E A X
  refine WP.areturn (nw := [t]) dNBF_6 rfl rfl rfl ⟨t, rfl, rfl, A, X⟩ (fun x hx => ?_) (fun x hx => List.mem_cons_of_mem _ hx) (by dsimp only; omega) (by dsimp only; omega)
  cases List.mem_singleton.mp hx
  exact ⟨List.mem_cons_self .., ht0⟩
set_option maxRecDepth 65536 in
set_option maxHeartbeats 40000000 in
theorem con_ULg {t : Addr} {xs : List Int32} {C : Nat} (hx : xs.length = 2 * C) (T : ArI Z h t .byte xs) : Con (⟨"java/lang/StringUTF16", "length", "([B)I"⟩ : MethodName) jdk_52_method_6_code 1 (some .int) R0 Z LT [] #[.ref t] h [] mine (fun v h' nw => nw = [] ∧ v = some (.int (Int32.ofNat C)) ∧ h' = h) := by
  have hl := T.len
  refine Con.of pnUL (Ls := [.val (.ref t)]) (fun m => by first | (simp [entryFrame, mkF, argsToLocals, Value.category]; done) | (simp [entryFrame, mkF, argsToLocals, Value.category, maxLocals]; done) | rfl) ?_
  refine WP.aloadN (pc' := 1) dUL_0 rfl rfl rfl ?_
  refine WP.arraylength (pc' := 2) dUL_1 T (n := Int32.ofNat (2 * C)) (by rw [hx]) rfl ?_
  refine WP.iconst (pc' := 3) (x := 1) dUL_2 (by decide) rfl ?_
  refine WP.ishr (pc' := 4) dUL_3 rfl ?_
  rw [n32_half (by omega)]
  exact WP.ireturn dUL_4 rfl (by simp) rfl ⟨rfl, rfl, rfl⟩ (fun _ hx => nomatch hx) (fun _ hx => hx) (by first | exact Nat.le_of_ble_eq_true rfl | omega) (by first | exact Nat.le_of_ble_eq_true rfl | omega)
set_option maxRecDepth 65536 in
set_option maxHeartbeats 40000000 in
theorem con_UCIg (hw : ∀ d ∈ tables_1, d.before a0 Z = true) {vf : Value} (hf : Fmt Z vf) {t : Addr} {xs : List Int32} {i C : Nat} (hx : xs.length = 2 * C) (T : ArI Z h t .byte xs) (hi : i < C) : Con (⟨"java/lang/StringUTF16", "checkIndex", "(I[B)V"⟩ : MethodName) jdk_52_method_91_code 2 none { frames := 2, cells := 0, slots := 0, locals := 27 } Z LT [] #[.int (Int32.ofNat i), .ref t] h [] mine (fun v h' nw => nw = [] ∧ v = none ∧ h' = h) := by
  have hn := T.len
  refine Con.of pnUCI (Ls := [.val (.int (Int32.ofNat i)), .val (.ref t)]) (fun m => by first | (simp [entryFrame, mkF, argsToLocals, Value.category]; done) | (simp [entryFrame, mkF, argsToLocals, Value.category, maxLocals]; done) | rfl) ?_
  refine WP.iloadN (pc' := 1) dUCI_0 rfl rfl ?_
  refine WP.aloadN (pc' := 2) dUCI_1 rfl rfl rfl ?_
  refine WP.callS (pc' := 5) (con_ULg hx T) (hw _ (List.mem_of_getElem? (i := 268) rfl)) (hw _ (List.mem_of_getElem? (i := 269) rfl)) (hw _ (List.mem_of_getElem? (i := 152) rfl)) (hw _ (List.mem_of_getElem? (i := 270) rfl)) dUCI_2 (by decide) pdx11 rfl rfl rfl (by first | exact Nat.le_of_ble_eq_true rfl | omega | (simp; done) | (simp; omega) | (dsimp only; omega)) (by first | exact Nat.le_of_ble_eq_true rfl | omega | (simp; done) | (simp; omega) | (dsimp only; omega)) (by first | exact Nat.le_of_ble_eq_true rfl | omega | (simp; done) | (simp; omega) | (dsimp only; omega)) (by first | exact Nat.le_of_ble_eq_true rfl | omega | (simp; done) | (simp; omega) | (dsimp only; omega)) (fun _ hx => nomatch hx) rfl ?_
  rintro v h' nw K hnw ⟨rfl, rfl, rfl⟩
  dsimp only [Option.toList, List.cons_append, List.nil_append]
  refine WP.callS (pc' := 8) (con_CI hw hf hi (by omega)) (hw _ (List.mem_of_getElem? (i := 295) rfl)) (hw _ (List.mem_of_getElem? (i := 233) rfl)) (hw _ (List.mem_of_getElem? (i := 7) rfl)) (hw _ (List.mem_of_getElem? (i := 234) rfl)) dUCI_5 (by decide) pdx10 rfl rfl rfl (by first | exact Nat.le_of_ble_eq_true rfl | omega | (simp; done) | (simp; omega) | (dsimp only; omega)) (by first | exact Nat.le_of_ble_eq_true rfl | omega | (simp; done) | (simp; omega) | (dsimp only; omega)) (by first | exact Nat.le_of_ble_eq_true rfl | omega | (simp; done) | (simp; omega) | (dsimp only; omega)) (by first | exact Nat.le_of_ble_eq_true rfl | omega | (simp; done) | (simp; omega) | (dsimp only; omega)) (fun _ hx => nomatch hx) rfl ?_
  rintro v h' nw K hnw ⟨rfl, rfl, rfl⟩
  dsimp only [Option.toList, List.nil_append]
  exact WP.vret dUCI_8 rfl ⟨rfl, rfl, rfl⟩ (fun _ hx => nomatch hx) (fun _ hx => hx) (by first | exact Nat.le_of_ble_eq_true rfl | omega) (by first | exact Nat.le_of_ble_eq_true rfl | omega)
set_option maxRecDepth 65536 in
set_option maxHeartbeats 40000000 in
theorem con_UOCg (hw : ∀ d ∈ tables_1, d.before a0 Z = true) {vf : Value} (hf : Fmt Z vf) {t : Addr} {xs : List Int32} {i k C : Nat} (hx : xs.length = 2 * C) (T : ArI Z h t .byte xs) (hik : i + k ≤ C) : Con (⟨"java/lang/StringUTF16", "checkBoundsOffCount", "(II[B)V"⟩ : MethodName) jdk_52_method_94_code 3 none { frames := 2, cells := 0, slots := 0, locals := 29 } Z LT [] #[.int (Int32.ofNat i), .int (Int32.ofNat k), .ref t] h [] mine (fun v h' nw => nw = [] ∧ v = none ∧ h' = h) := by
  have hn := T.len
  refine Con.of pnUOC (Ls := [.val (.int (Int32.ofNat i)), .val (.int (Int32.ofNat k)), .val (.ref t)]) (fun m => by first | (simp [entryFrame, mkF, argsToLocals, Value.category]; done) | (simp [entryFrame, mkF, argsToLocals, Value.category, maxLocals]; done) | rfl) ?_
  refine WP.iloadN (pc' := 1) dUOC_0 rfl rfl ?_
  refine WP.iloadN (pc' := 2) dUOC_1 rfl rfl ?_
  refine WP.aloadN (pc' := 3) dUOC_2 rfl rfl rfl ?_
  refine WP.callS (pc' := 6) (con_ULg hx T) (hw _ (List.mem_of_getElem? (i := 268) rfl)) (hw _ (List.mem_of_getElem? (i := 269) rfl)) (hw _ (List.mem_of_getElem? (i := 152) rfl)) (hw _ (List.mem_of_getElem? (i := 270) rfl)) dUOC_3 (by decide) pdx11 rfl rfl rfl (by first | exact Nat.le_of_ble_eq_true rfl | omega | (simp; done) | (simp; omega) | (dsimp only; omega)) (by first | exact Nat.le_of_ble_eq_true rfl | omega | (simp; done) | (simp; omega) | (dsimp only; omega)) (by first | exact Nat.le_of_ble_eq_true rfl | omega | (simp; done) | (simp; omega) | (dsimp only; omega)) (by first | exact Nat.le_of_ble_eq_true rfl | omega | (simp; done) | (simp; omega) | (dsimp only; omega)) (fun _ hx => nomatch hx) rfl ?_
  rintro v h' nw K hnw ⟨rfl, rfl, rfl⟩
  dsimp only [Option.toList, List.cons_append, List.nil_append]
  refine WP.callS (pc' := 9) (con_OC hw hf hik (by omega)) (hw _ (List.mem_of_getElem? (i := 271) rfl)) (hw _ (List.mem_of_getElem? (i := 272) rfl)) (hw _ (List.mem_of_getElem? (i := 7) rfl)) (hw _ (List.mem_of_getElem? (i := 273) rfl)) dUOC_6 (by decide) pdx15 rfl rfl rfl (by first | exact Nat.le_of_ble_eq_true rfl | omega | (simp; done) | (simp; omega) | (dsimp only; omega)) (by first | exact Nat.le_of_ble_eq_true rfl | omega | (simp; done) | (simp; omega) | (dsimp only; omega)) (by first | exact Nat.le_of_ble_eq_true rfl | omega | (simp; done) | (simp; omega) | (dsimp only; omega)) (by first | exact Nat.le_of_ble_eq_true rfl | omega | (simp; done) | (simp; omega) | (dsimp only; omega)) (fun _ hx => nomatch hx) rfl ?_
  rintro v h' nw K hnw ⟨rfl, rfl, rfl⟩
  dsimp only [Option.toList, List.cons_append, List.nil_append]
  refine WP.pop (pc' := 10) dUOC_9 rfl rfl ?_
  exact WP.vret dUOC_10 rfl ⟨rfl, rfl, rfl⟩ (fun _ hx => nomatch hx) (fun _ hx => hx) (by first | exact Nat.le_of_ble_eq_true rfl | omega) (by first | exact Nat.le_of_ble_eq_true rfl | omega)
theorem dUIF_0 : decode jdk_52_method_86_code 0 = .ok (.iload_n 3, 1) := by decide +kernel
theorem dUIF_1 : decode jdk_52_method_86_code 1 = .ok (.iload 4, 2) := by decide +kernel
theorem dUIF_3 : decode jdk_52_method_86_code 3 = .ok (.aload_n 2, 1) := by decide +kernel
theorem dUIF_4 : decode jdk_52_method_86_code 4 = .ok (.invokestatic 173, 3) := by decide +kernel
theorem dUIF_7 : decode jdk_52_method_86_code 7 = .ok (.iconst 0, 1) := by decide +kernel
theorem dUIF_8 : decode jdk_52_method_86_code 8 = .ok (.istore 5, 2) := by decide +kernel
theorem dUIF_10 : decode jdk_52_method_86_code 10 = .ok (.iload 5, 2) := by decide +kernel
theorem dUIF_12 : decode jdk_52_method_86_code 12 = .ok (.iload 4, 2) := by decide +kernel
theorem dUIF_14 : decode jdk_52_method_86_code 14 = .ok (.if_icmp .ge 27, 3) := by decide +kernel
theorem dUIF_17 : decode jdk_52_method_86_code 17 = .ok (.aload_n 2, 1) := by decide +kernel
theorem dUIF_18 : decode jdk_52_method_86_code 18 = .ok (.iload_n 3, 1) := by decide +kernel
theorem dUIF_19 : decode jdk_52_method_86_code 19 = .ok (.iinc 3 1, 3) := by decide +kernel
theorem dUIF_22 : decode jdk_52_method_86_code 22 = .ok (.aload_n 0, 1) := by decide +kernel
theorem dUIF_23 : decode jdk_52_method_86_code 23 = .ok (.iload_n 1, 1) := by decide +kernel
theorem dUIF_24 : decode jdk_52_method_86_code 24 = .ok (.iinc 1 1, 3) := by decide +kernel
theorem dUIF_27 : decode jdk_52_method_86_code 27 = .ok (.baload, 1) := by decide +kernel
theorem dUIF_28 : decode jdk_52_method_86_code 28 = .ok (.sipush 255, 3) := by decide +kernel
theorem dUIF_31 : decode jdk_52_method_86_code 31 = .ok (.iand, 1) := by decide +kernel
theorem dUIF_32 : decode jdk_52_method_86_code 32 = .ok (.invokestatic 111, 3) := by decide +kernel
theorem dUIF_35 : decode jdk_52_method_86_code 35 = .ok (.iinc 5 1, 3) := by decide +kernel
theorem dUIF_38 : decode jdk_52_method_86_code 38 = .ok (.goto (-28), 3) := by decide +kernel
theorem dUIF_41 : decode jdk_52_method_86_code 41 = .ok (.return_, 1) := by decide +kernel
theorem pnUIF : plainFor (⟨"java/lang/StringUTF16", "inflate", "([BI[BII)V"⟩ : MethodName) = true := plainFor_of_name (by first | (simp [plainName, overriddenIn]; done) | decide +kernel)
set_option maxRecDepth 65536 in
set_option maxHeartbeats 40000000 in
theorem loop_UIF (hw : ∀ d ∈ tables_1, d.before a0 Z = true) (hu16 : U16 Z) {us : List UInt16} {pad : List Int32} {s t : Addr} {C : Nat} (hlat : lat us = true) (hC : us.length ≤ C) (hC2 : 2 * C < 2 ^ 31) (hsl : (us.map lo8 ++ pad).length < 2 ^ 31) (hm : t ∈ mine) (hst : s ≠ t) :
    ∀ (r i : Nat), i + r = us.length → ∀ (h' : Heap), ArI Z h' s .byte (us.map lo8 ++ pad) → ArI Z h' t .byte (b16 (us.take i) ++ List.replicate (2 * (C - i)) 0) →
    WP "java/lang/StringUTF16" jdk_52_method_86_code 6 none "inflate" { frames := 3, cells := 0, slots := 0, locals := 43 } Z LT h [t] mine (fun v h' nw => nw = [] ∧ v = none ∧ ArI Z h' t .byte (b16 us ++ List.replicate (2 * (C - us.length)) 0)) mine 0 0 h' 10 [.val (.ref s), .val (.int (Int32.ofNat i)), .val (.ref t), .val (.int (Int32.ofNat i)), .val (.int (Int32.ofNat us.length)), .val (.int (Int32.ofNat i))] [] := by
  intro r
  induction r with
  | zero =>
    intro i hi h' A D
    obtain rfl : i = us.length := by omega
    refine WP.iload (pc' := 12) dUIF_10 rfl rfl ?_
    refine WP.iload (pc' := 14) dUIF_12 rfl rfl ?_
    refine WP.icmpT (pc' := 41) dUIF_14 (by decide) (by decide) (fun q => Nat.lt_irrefl _ ((n32_lt (by omega) (by omega)).mp q)) ?_
    rw [List.take_length] at D
    exact WP.vret dUIF_41 rfl ⟨rfl, rfl, D⟩ (fun _ hx => nomatch hx) (fun _ hx => hx) (by first | exact Nat.le_of_ble_eq_true rfl | omega) (by first | exact Nat.le_of_ble_eq_true rfl | omega)
  | succ r ih =>
    intro i hi h' A D
    have hil : i < us.length := by omega
    obtain ⟨u, hu2⟩ : ∃ u, us[i]? = some u := ⟨us[i], List.getElem?_eq_getElem hil⟩
    refine WP.iload (pc' := 12) dUIF_10 rfl rfl ?_
    refine WP.iload (pc' := 14) dUIF_12 rfl rfl ?_
    refine WP.icmpF (pc' := 17) dUIF_14 rfl ((n32_lt (by omega) (by omega)).mpr hil) ?_
    refine WP.aloadN (pc' := 18) dUIF_17 rfl rfl rfl ?_
    refine WP.iloadN (pc' := 19) dUIF_18 rfl rfl ?_
    refine WP.iinc (pc' := 22) dUIF_19 rfl rfl rfl rfl ?_
    dsimp only [List.set]
    refine WP.aloadN (pc' := 23) dUIF_22 rfl rfl rfl ?_
    refine WP.iloadN (pc' := 24) dUIF_23 rfl rfl ?_
    refine WP.iinc (pc' := 27) dUIF_24 rfl rfl rfl rfl ?_
    dsimp only [List.set]
    refine WP.baload (pc' := 28) dUIF_27 A (n32_toInt (by omega)) (x := lo8 u) (by rw [List.getElem?_append_left (by simpa using hil)]; simp [hu2]) rfl ?_
    refine WP.sipush (pc' := 31) (x := 255) dUIF_28 (by decide) rfl ?_
    refine WP.iand (pc' := 32) dUIF_31 rfl ?_
    rw [lo8_and u ((lat_iff us).mp hlat i u hu2)]
    have hlen : (b16 (us.take i)).length = 2 * i := by rw [b16_len, List.length_take]; omega
    refine WP.callS (pc' := 35) (con_PC hw hu16 (i := i) (u := u) D (by simp [hlen]; omega) hm) (hw _ (List.mem_of_getElem? (i := 250) rfl)) (hw _ (List.mem_of_getElem? (i := 251) rfl)) (hw _ (List.mem_of_getElem? (i := 152) rfl)) (hw _ (List.mem_of_getElem? (i := 252) rfl)) dUIF_32 (by decide) pdx1 rfl rfl rfl (by first | exact Nat.le_of_ble_eq_true rfl | omega | (simp; done) | (simp; omega) | (dsimp only; omega)) (by first | exact Nat.le_of_ble_eq_true rfl | omega | (simp; done) | (simp; omega) | (dsimp only; omega)) (by first | exact Nat.le_of_ble_eq_true rfl | omega | (simp; done) | (simp; omega) | (dsimp only; omega)) (by first | exact Nat.le_of_ble_eq_true rfl | omega | (simp; done) | (simp; omega) | (dsimp only; omega)) (fun x hx => Or.inl hx) rfl ?_
    rintro v h2 nw K hnw ⟨rfl, rfl, D2⟩
    dsimp only [Option.toList, List.nil_append]
    refine WP.iinc (pc' := 38) dUIF_35 rfl rfl rfl rfl ?_
    dsimp only [List.set]
    refine WP.goto (pc' := 10) dUIF_38 (by decide) (by decide) ?_
    rw [show Int32.ofNat i + Int32.ofInt 1 = Int32.ofNat (i + 1) from n32_succ i]
    have e : (((b16 (us.take i) ++ List.replicate (2 * (C - i)) (0 : Int32)).set (2 * i) (lo8 u)).set (2 * i + 1) (hi8 u)) = b16 (us.take (i + 1)) ++ List.replicate (2 * (C - (i + 1))) 0 := by
      rw [take_set hlen (by simp [hlen]; omega), show 2 * (C - i) = 2 * (C - (i + 1)) + 1 + 1 by omega, List.replicate_succ, List.replicate_succ, List.drop_succ_cons, List.drop_zero]
      rw [show b16 (us.take i) ++ lo8 u :: (0 : Int32) :: List.replicate (2 * (C - (i + 1))) 0 = (b16 (us.take i) ++ [lo8 u]) ++ ((0 : Int32) :: List.replicate (2 * (C - (i + 1))) 0) by simp]
      rw [take_set (by simp [hlen]) (by simp [hlen]), take_succ' hu2, b16_app]
      simp [b16]
    rw [e] at D2
    exact ih (i + 1) (by omega) h2 (A.keep K (fun q => hst (List.mem_singleton.mp q))) D2
set_option maxRecDepth 65536 in
set_option maxHeartbeats 40000000 in
theorem con_UIF (hw : ∀ d ∈ tables_1, d.before a0 Z = true) (hu16 : U16 Z) {vf : Value} (hf : Fmt Z vf) {us : List UInt16} {pad : List Int32} {s t : Addr} {C : Nat} (hlat : lat us = true) (hC : us.length ≤ C) (hm : t ∈ mine) (hst : s ≠ t) (A : ArI Z h s .byte (us.map lo8 ++ pad)) (T : ArI Z h t .byte (List.replicate (2 * C) 0)) : Con (⟨"java/lang/StringUTF16", "inflate", "([BI[BII)V"⟩ : MethodName) jdk_52_method_86_code 6 none { frames := 3, cells := 0, slots := 0, locals := 43 } Z LT [] #[.ref s, .int 0, .ref t, .int 0, .int (Int32.ofNat us.length)] h [t] mine (fun v h' nw => nw = [] ∧ v = none ∧ ArI Z h' t .byte (b16 us ++ List.replicate (2 * (C - us.length)) 0)) := by
  have hl := T.len
  rw [List.length_replicate] at hl
  refine Con.of pnUIF (Ls := [.val (.ref s), .val (.int 0), .val (.ref t), .val (.int 0), .val (.int (Int32.ofNat us.length)), .unset]) (fun m => by first | (simp [entryFrame, mkF, argsToLocals, Value.category]; done) | (simp [entryFrame, mkF, argsToLocals, Value.category, maxLocals]; done) | rfl) ?_
  refine WP.iloadN (pc' := 1) dUIF_0 rfl rfl ?_
  refine WP.iload (pc' := 3) dUIF_1 rfl rfl ?_
  refine WP.aloadN (pc' := 4) dUIF_3 rfl rfl rfl ?_
  refine WP.callS (pc' := 7) (con_UOCg hw hf (i := 0) (k := us.length) (C := C) (by simp) T (by omega)) (hw _ (List.mem_of_getElem? (i := 265) rfl)) (hw _ (List.mem_of_getElem? (i := 266) rfl)) (hw _ (List.mem_of_getElem? (i := 152) rfl)) (hw _ (List.mem_of_getElem? (i := 267) rfl)) dUIF_4 (by decide) pdx16 rfl rfl rfl (by first | exact Nat.le_of_ble_eq_true rfl | omega | (simp; done) | (simp; omega) | (dsimp only; omega)) (by first | exact Nat.le_of_ble_eq_true rfl | omega | (simp; done) | (simp; omega) | (dsimp only; omega)) (by first | exact Nat.le_of_ble_eq_true rfl | omega | (simp; done) | (simp; omega) | (dsimp only; omega)) (by first | exact Nat.le_of_ble_eq_true rfl | omega | (simp; done) | (simp; omega) | (dsimp only; omega)) (fun _ hx => nomatch hx) rfl ?_
  rintro v h1 nw K hnw ⟨rfl, rfl, rfl⟩
  dsimp only [Option.toList, List.nil_append]
  refine WP.iconst (pc' := 8) (x := 0) dUIF_7 (by decide) rfl ?_
  refine WP.istore (pc' := 10) dUIF_8 rfl rfl rfl ?_
  dsimp only [List.set]
  exact loop_UIF hw hu16 hlat hC hl A.len hm hst us.length 0 (by omega) _ A (by simpa [b16] using T)
theorem dLIF_0 : decode jdk_43_method_50_code 0 = .ok (.aload_n 0, 1) := by decide +kernel
theorem dLIF_1 : decode jdk_43_method_50_code 1 = .ok (.iload_n 1, 1) := by decide +kernel
theorem dLIF_2 : decode jdk_43_method_50_code 2 = .ok (.aload_n 2, 1) := by decide +kernel
theorem dLIF_3 : decode jdk_43_method_50_code 3 = .ok (.iload_n 3, 1) := by decide +kernel
theorem dLIF_4 : decode jdk_43_method_50_code 4 = .ok (.iload 4, 2) := by decide +kernel
theorem dLIF_6 : decode jdk_43_method_50_code 6 = .ok (.invokestatic 240, 3) := by decide +kernel
theorem dLIF_9 : decode jdk_43_method_50_code 9 = .ok (.return_, 1) := by decide +kernel
theorem pnLIF : plainFor (⟨"java/lang/StringLatin1", "inflate", "([BI[BII)V"⟩ : MethodName) = true := plainFor_of_name (by first | (simp [plainName, overriddenIn]; done) | decide +kernel)
set_option maxRecDepth 65536 in
set_option maxHeartbeats 40000000 in
theorem con_LIF (hw : ∀ d ∈ tables_1, d.before a0 Z = true) (hu16 : U16 Z) {vf : Value} (hf : Fmt Z vf) {us : List UInt16} {pad : List Int32} {s t : Addr} {C : Nat} (hlat : lat us = true) (hC : us.length ≤ C) (hm : t ∈ mine) (hst : s ≠ t) (A : ArI Z h s .byte (us.map lo8 ++ pad)) (T : ArI Z h t .byte (List.replicate (2 * C) 0)) : Con (⟨"java/lang/StringLatin1", "inflate", "([BI[BII)V"⟩ : MethodName) jdk_43_method_50_code 5 none { frames := 4, cells := 0, slots := 0, locals := 60 } Z LT [] #[.ref s, .int 0, .ref t, .int 0, .int (Int32.ofNat us.length)] h [t] mine (fun v h' nw => nw = [] ∧ v = none ∧ ArI Z h' t .byte (b16 us ++ List.replicate (2 * (C - us.length)) 0)) := by
  refine Con.of pnLIF (Ls := [.val (.ref s), .val (.int 0), .val (.ref t), .val (.int 0), .val (.int (Int32.ofNat us.length))]) (fun m => by first | (simp [entryFrame, mkF, argsToLocals, Value.category]; done) | (simp [entryFrame, mkF, argsToLocals, Value.category, maxLocals]; done) | rfl) ?_
  refine WP.aloadN (pc' := 1) dLIF_0 rfl rfl rfl ?_
  refine WP.iloadN (pc' := 2) dLIF_1 rfl rfl ?_
  refine WP.aloadN (pc' := 3) dLIF_2 rfl rfl rfl ?_
  refine WP.iloadN (pc' := 4) dLIF_3 rfl rfl ?_
  refine WP.iload (pc' := 6) dLIF_4 rfl rfl ?_
  refine WP.callS (pc' := 9) (con_UIF hw hu16 hf hlat hC hm hst A T) (hw _ (List.mem_of_getElem? (i := 286) rfl)) (hw _ (List.mem_of_getElem? (i := 287) rfl)) (hw _ (List.mem_of_getElem? (i := 152) rfl)) (hw _ (List.mem_of_getElem? (i := 288) rfl)) dLIF_6 (by decide) pdx21 rfl rfl rfl (by first | exact Nat.le_of_ble_eq_true rfl | omega | (simp; done) | (simp; omega) | (dsimp only; omega)) (by first | exact Nat.le_of_ble_eq_true rfl | omega | (simp; done) | (simp; omega) | (dsimp only; omega)) (by first | exact Nat.le_of_ble_eq_true rfl | omega | (simp; done) | (simp; omega) | (dsimp only; omega)) (by first | exact Nat.le_of_ble_eq_true rfl | omega | (simp; done) | (simp; omega) | (dsimp only; omega)) (fun x hx => Or.inl hx) rfl ?_
  rintro v h1 nw K hnw ⟨rfl, rfl, D⟩
  dsimp only [Option.toList, List.nil_append]
  exact WP.vret dLIF_9 rfl ⟨rfl, rfl, D⟩ (fun _ hx => nomatch hx) (fun _ hx => hx) (by first | exact Nat.le_of_ble_eq_true rfl | omega) (by first | exact Nat.le_of_ble_eq_true rfl | omega)
theorem lo8_fits (u : UInt16) : fits .byte (.int (lo8 u)) = true := by
  have e := lo8_toInt u
  simp only [fits, Bool.and_eq_true, decide_eq_true_eq, Int32.le_iff_toInt_le]
  have e0 : (-128 : Int32).toInt = -128 := rfl
  have e1 : (127 : Int32).toInt = 127 := rfl
  split at e <;> omega
theorem hi8_fits (u : UInt16) : fits .byte (.int (hi8 u)) = true := by
  have e := hi8_toInt u
  have l : u.toNat < 65536 := u.toNat_lt
  simp only [fits, Bool.and_eq_true, decide_eq_true_eq, Int32.le_iff_toInt_le]
  have e0 : (-128 : Int32).toInt = -128 := rfl
  have e1 : (127 : Int32).toInt = 127 := rfl
  split at e <;> omega
theorem b16_fits {us : List UInt16} : ∀ x ∈ b16 us, fits .byte (.int x) = true := fun x hx => by
  simp only [b16, List.mem_flatMap] at hx
  obtain ⟨u, -, hx⟩ := hx
  rcases List.mem_cons.mp hx with rfl | hx
  · exact lo8_fits u
  · cases List.mem_singleton.mp hx; exact hi8_fits u
theorem lo8s_fits {us : List UInt16} : ∀ x ∈ us.map lo8, fits .byte (.int x) = true := fun x hx => by
  obtain ⟨u, -, rfl⟩ := List.mem_map.mp hx; exact lo8_fits u
theorem app_fits {xs ys : List Int32} (h1 : ∀ x ∈ xs, fits .byte (.int x) = true) (h2 : ∀ x ∈ ys, fits .byte (.int x) = true) : ∀ x ∈ xs ++ ys, fits .byte (.int x) = true := fun x hx => (List.mem_append.mp hx).elim (h1 x) (h2 x)
theorem rep_fits {n : Nat} : ∀ x ∈ List.replicate n (0 : Int32), fits .byte (.int x) = true := fun x hx => by rw [List.eq_of_mem_replicate hx]; rfl
theorem dIFL_0 : decode jdk_68_method_11_code 0 = .ok (.aload_n 0, 1) := by decide +kernel
theorem dIFL_1 : decode jdk_68_method_11_code 1 = .ok (.invokevirtual 83, 3) := by decide +kernel
theorem dIFL_4 : decode jdk_68_method_11_code 4 = .ok (.ifCond .ne 4, 3) := by decide +kernel
theorem dIFL_7 : decode jdk_68_method_11_code 7 = .ok (.return_, 1) := by decide +kernel
theorem dIFL_8 : decode jdk_68_method_11_code 8 = .ok (.aload_n 0, 1) := by decide +kernel
theorem dIFL_9 : decode jdk_68_method_11_code 9 = .ok (.getfield 15, 3) := by decide +kernel
theorem dIFL_12 : decode jdk_68_method_11_code 12 = .ok (.arraylength, 1) := by decide +kernel
theorem dIFL_13 : decode jdk_68_method_11_code 13 = .ok (.invokestatic 26, 3) := by decide +kernel
theorem dIFL_16 : decode jdk_68_method_11_code 16 = .ok (.astore_n 1, 1) := by decide +kernel
theorem dIFL_17 : decode jdk_68_method_11_code 17 = .ok (.aload_n 0, 1) := by decide +kernel
theorem dIFL_18 : decode jdk_68_method_11_code 18 = .ok (.getfield 15, 3) := by decide +kernel
theorem dIFL_21 : decode jdk_68_method_11_code 21 = .ok (.iconst 0, 1) := by decide +kernel
theorem dIFL_22 : decode jdk_68_method_11_code 22 = .ok (.aload_n 1, 1) := by decide +kernel
theorem dIFL_23 : decode jdk_68_method_11_code 23 = .ok (.iconst 0, 1) := by decide +kernel
theorem dIFL_24 : decode jdk_68_method_11_code 24 = .ok (.aload_n 0, 1) := by decide +kernel
theorem dIFL_25 : decode jdk_68_method_11_code 25 = .ok (.getfield 79, 3) := by decide +kernel
theorem dIFL_28 : decode jdk_68_method_11_code 28 = .ok (.invokestatic 125, 3) := by decide +kernel
theorem dIFL_31 : decode jdk_68_method_11_code 31 = .ok (.aload_n 0, 1) := by decide +kernel
theorem dIFL_32 : decode jdk_68_method_11_code 32 = .ok (.aload_n 1, 1) := by decide +kernel
theorem dIFL_33 : decode jdk_68_method_11_code 33 = .ok (.putfield 15, 3) := by decide +kernel
theorem dIFL_36 : decode jdk_68_method_11_code 36 = .ok (.aload_n 0, 1) := by decide +kernel
theorem dIFL_37 : decode jdk_68_method_11_code 37 = .ok (.iconst 1, 1) := by decide +kernel
theorem dIFL_38 : decode jdk_68_method_11_code 38 = .ok (.putfield 22, 3) := by decide +kernel
theorem dIFL_41 : decode jdk_68_method_11_code 41 = .ok (.return_, 1) := by decide +kernel
theorem pnIFL : plainFor (⟨"java/lang/AbstractStringBuilder", "inflate", "()V"⟩ : MethodName) = true := plainFor_of_name (by first | (simp [plainName, overriddenIn]; done) | decide +kernel)
set_option maxRecDepth 65536 in
set_option maxHeartbeats 40000000 in
theorem con_IFL (hw : ∀ d ∈ tables_1, d.before a0 Z = true) {cz : Int32} (hc : Compact Z cz) (hu16 : U16 Z) {vf : Value} (hf : Fmt Z vf) {us : List UInt16} {pad : List Int32} {b v : Addr} {C N : Nat} (hlat : lat us = true) (B : SBr Z h b v (us.map lo8 ++ pad) 0 us.length) (hx : (us.map lo8 ++ pad).length = C) (hN : 2 * C ≤ N) (hN2 : N ≤ 67108864) (hb : b ∈ mine) : Con (⟨"java/lang/AbstractStringBuilder", "inflate", "()V"⟩ : MethodName) jdk_68_method_11_code 2 none { frames := 5, cells := 1, slots := N, locals := 76 } Z LT [] #[.ref b] h [b] mine (fun w h' nw => ∃ t, nw = [t] ∧ w = none ∧ SBr Z h' b t (b16 us ++ List.replicate (2 * (C - us.length)) 0) 1 us.length) := by
  obtain ⟨E, Fv, Fc, Fn, M, A, X, nbv, hfx⟩ := B
  have hC : us.length ≤ C := by rw [← hx]; simp
  refine Con.of pnIFL (Ls := [.val (.ref b), .unset]) (fun m => by first | (simp [entryFrame, mkF, argsToLocals, Value.category]; done) | (simp [entryFrame, mkF, argsToLocals, Value.category, maxLocals]; done) | rfl) ?_
  refine WP.know fun _ _ hmine => ?_
  have hbs := (hmine b hb).2
  refine WP.aloadN (pc' := 1) dIFL_0 rfl rfl rfl ?_
  refine WP.callV (pc' := 4) (con_SBL hw hc Fc) E (hw _ (List.mem_of_getElem? (i := 189) rfl)) (hw _ (List.mem_of_getElem? (i := 129) rfl)) (fun s hs => notFace_of_selects (args := #[]) (mv hs (hw _ (List.mem_of_getElem? (i := 131) rfl)))) (hw _ (List.mem_of_getElem? (i := 131) rfl)) (hw _ (List.mem_of_getElem? (i := 130) rfl)) (hw _ (List.mem_of_getElem? (i := 75) rfl)) (hw _ (List.mem_of_getElem? (i := 132) rfl)) dIFL_1 (by decide) pdx13 rfl rfl rfl (by first | exact Nat.le_of_ble_eq_true rfl | omega | (simp; done) | (simp; omega) | (dsimp only; omega)) (by first | exact Nat.le_of_ble_eq_true rfl | omega | (simp; done) | (simp; omega) | (dsimp only; omega)) (by first | exact Nat.le_of_ble_eq_true rfl | omega | (simp; done) | (simp; omega) | (dsimp only; omega)) (by first | exact Nat.le_of_ble_eq_true rfl | omega | (simp; done) | (simp; omega) | (dsimp only; omega)) (fun _ hx => nomatch hx) rfl ?_
  rintro w h1 nw K hnw ⟨rfl, rfl, rfl⟩
  dsimp only [Option.toList, List.cons_append, List.nil_append]
  rw [if_pos rfl]
  refine WP.ifT (pc' := 8) dIFL_4 (by decide) (by decide) (show ¬ (1 : Int32) = 0 by decide) ?_
  refine WP.aloadN (pc' := 9) dIFL_8 rfl rfl rfl ?_
  refine WP.getfield (pc' := 12) (host := "") dIFL_9 (Or.inl (hw _ (List.mem_of_getElem? (i := 79) rfl))) Via.refl Fv rfl ?_
  refine WP.arraylength (pc' := 13) dIFL_12 A (n := Int32.ofNat C) (by rw [hx]) rfl ?_
  refine WP.callS (pc' := 16) (con_NBFE hw hN hN2) (hw _ (List.mem_of_getElem? (i := 282) rfl)) (hw _ (List.mem_of_getElem? (i := 244) rfl)) (hw _ (List.mem_of_getElem? (i := 152) rfl)) (hw _ (List.mem_of_getElem? (i := 245) rfl)) dIFL_13 (by decide) pdx2 rfl rfl rfl (by first | exact Nat.le_of_ble_eq_true rfl | omega | (simp; done) | (simp; omega) | (dsimp only; omega)) (by first | exact Nat.le_of_ble_eq_true rfl | omega | (simp; done) | (simp; omega) | (dsimp only; omega)) (by first | exact Nat.le_of_ble_eq_true rfl | omega | (simp; done) | (simp; omega) | (dsimp only; omega)) (by first | exact Nat.le_of_ble_eq_true rfl | omega | (simp; done) | (simp; omega) | (dsimp only; omega)) (fun _ hx => nomatch hx) rfl ?_
  rintro w h1 nw K1 hnw1 ⟨t, rfl, rfl, T, XT⟩
  dsimp only [Option.toList, List.cons_append, List.nil_append]
  have ht := hnw1 t (by simp)
  have nbt : b ≠ t := fun q => absurd hbs (Nat.not_lt.mpr (q ▸ ht))
  have nvt : v ≠ t := fun q => absurd A.lt (Nat.not_lt.mpr (q ▸ ht))
  refine WP.astoreN (pc' := 17) dIFL_16 rfl rfl rfl rfl rfl ?_
  dsimp only [List.set]
  refine WP.aloadN (pc' := 18) dIFL_17 rfl rfl rfl ?_
  refine WP.getfield (pc' := 21) (host := "") dIFL_18 (Or.inl (hw _ (List.mem_of_getElem? (i := 79) rfl))) Via.refl (Fv.keep K1 nin0) rfl ?_
  refine WP.iconst (pc' := 22) (x := 0) dIFL_21 (by decide) rfl ?_
  refine WP.aloadN (pc' := 23) dIFL_22 rfl rfl rfl ?_
  refine WP.iconst (pc' := 24) (x := 0) dIFL_23 (by decide) rfl ?_
  refine WP.aloadN (pc' := 25) dIFL_24 rfl rfl rfl ?_
  refine WP.getfield (pc' := 28) (host := "") dIFL_25 (Or.inl (hw _ (List.mem_of_getElem? (i := 126) rfl))) Via.refl (Fn.keep K1 nin0) rfl ?_
  refine WP.callS (pc' := 31) (con_LIF hw hu16 hf hlat hC (List.mem_cons_self ..) nvt (A.keep K1 nin0) T) (hw _ (List.mem_of_getElem? (i := 283) rfl)) (hw _ (List.mem_of_getElem? (i := 284) rfl)) (hw _ (List.mem_of_getElem? (i := 95) rfl)) (hw _ (List.mem_of_getElem? (i := 285) rfl)) dIFL_28 (by decide) pdx21 rfl rfl rfl (by first | exact Nat.le_of_ble_eq_true rfl | omega | (simp; done) | (simp; omega) | (dsimp only; omega)) (by first | exact Nat.le_of_ble_eq_true rfl | omega | (simp; done) | (simp; omega) | (dsimp only; omega)) (by first | exact Nat.le_of_ble_eq_true rfl | omega | (simp; done) | (simp; omega) | (dsimp only; omega)) (by first | exact Nat.le_of_ble_eq_true rfl | omega | (simp; done) | (simp; omega) | (dsimp only; omega)) (fun x hx => by cases List.mem_singleton.mp hx; exact Or.inr ht) rfl ?_
  rintro w h2 nw K2 hnw2 ⟨rfl, rfl, T2⟩
  dsimp only [Option.toList, List.nil_append]
  have nb : b ∉ [t] := fun q => nbt (List.mem_singleton.mp q)
  refine WP.aloadN (pc' := 32) dIFL_31 rfl rfl rfl ?_
  refine WP.aloadN (pc' := 33) dIFL_32 rfl rfl rfl ?_
  refine WP.putfield (pc' := 36) (host := "") dIFL_33 (Or.inl (hw _ (List.mem_of_getElem? (i := 79) rfl))) Via.refl ((Fv.keep K1 nin0).keep K2 nb) ((E.keep K1).keep K2) (Or.inl (hw _ (List.mem_of_getElem? (i := 80) rfl))) (hw _ (List.mem_of_getElem? (i := 55) rfl)) (ty := (.array .byte)) (by decide) rfl rfl (List.mem_cons_of_mem _ hb) (Or.inl (List.mem_singleton.mpr rfl)) rfl ?_
  intro h3 W3 G3 E3
  refine WP.aloadN (pc' := 37) dIFL_36 rfl rfl rfl ?_
  refine WP.iconst (pc' := 38) (x := 1) dIFL_37 (by decide) rfl ?_
  refine WP.putfield (pc' := 41) (host := "") dIFL_38 (Or.inl (hw _ (List.mem_of_getElem? (i := 81) rfl))) Via.refl (((Fc.keep K1 nin0).keep K2 nb).other W3 (Or.inr (Ne.symm (s_vc hw)))) E3 (Or.inl (hw _ (List.mem_of_getElem? (i := 82) rfl))) (hw _ (List.mem_of_getElem? (i := 55) rfl)) (ty := .byte) (by decide) rfl rfl (List.mem_cons_of_mem _ hb) (Or.inl (List.mem_singleton.mpr rfl)) rfl ?_
  intro h4 W4 G4 E4
  refine WP.vret (nw := [t]) dIFL_41 rfl ⟨t, rfl, rfl, E4, G3.other W4 (Or.inr (s_vc hw)), G4, (((Fn.keep K1 nin0).keep K2 nb).other W3 (Or.inr (Ne.symm (s_vn hw)))).other W4 (Or.inr (Ne.symm (s_cn hw))), (((M.keep K1 nin0).keep K2 nb).wv hw W3).wc hw W4, (T2.other W3 (Ne.symm nbt)).other W4 (Ne.symm nbt), ((XT.keep K2).wr W3).wr W4, nbt, app_fits b16_fits rep_fits⟩ (fun x hx => ?_) (fun x hx => List.mem_cons_of_mem _ hx) (by dsimp only; omega) (by dsimp only; omega)
  cases List.mem_singleton.mp hx; exact ⟨List.mem_cons_self .., ht⟩
theorem dPSB_0 : decode jdk_52_method_71_code 0 = .ok (.iload_n 1, 1) := by decide +kernel
theorem dPSB_1 : decode jdk_52_method_71_code 1 = .ok (.aload_n 0, 1) := by decide +kernel
theorem dPSB_2 : decode jdk_52_method_71_code 2 = .ok (.invokestatic 67, 3) := by decide +kernel
theorem dPSB_5 : decode jdk_52_method_71_code 5 = .ok (.aload_n 0, 1) := by decide +kernel
theorem dPSB_6 : decode jdk_52_method_71_code 6 = .ok (.iload_n 1, 1) := by decide +kernel
theorem dPSB_7 : decode jdk_52_method_71_code 7 = .ok (.iload_n 2, 1) := by decide +kernel
theorem dPSB_8 : decode jdk_52_method_71_code 8 = .ok (.invokestatic 111, 3) := by decide +kernel
theorem dPSB_11 : decode jdk_52_method_71_code 11 = .ok (.return_, 1) := by decide +kernel
theorem pnPSB : plainFor (⟨"java/lang/StringUTF16", "putCharSB", "([BII)V"⟩ : MethodName) = true := plainFor_of_name (by first | (simp [plainName, overriddenIn]; done) | decide +kernel)
set_option maxRecDepth 65536 in
set_option maxHeartbeats 40000000 in
theorem con_PSB (hw : ∀ d ∈ tables_1, d.before a0 Z = true) (hu16 : U16 Z) {vf : Value} (hf : Fmt Z vf) {t : Addr} {xs : List Int32} {i C : Nat} {u : UInt16} (hx : xs.length = 2 * C) (T : ArI Z h t .byte xs) (hi : i < C) (hm : t ∈ mine) : Con (⟨"java/lang/StringUTF16", "putCharSB", "([BII)V"⟩ : MethodName) jdk_52_method_71_code 3 none { frames := 3, cells := 0, slots := 0, locals := 40 } Z LT [] #[.ref t, .int (Int32.ofNat i), .int (chv u)] h [t] mine (fun v h' nw => nw = [] ∧ v = none ∧ ArI Z h' t .byte ((xs.set (2 * i) (lo8 u)).set (2 * i + 1) (hi8 u))) := by
  refine Con.of pnPSB (Ls := [.val (.ref t), .val (.int (Int32.ofNat i)), .val (.int (chv u))]) (fun m => by first | (simp [entryFrame, mkF, argsToLocals, Value.category]; done) | (simp [entryFrame, mkF, argsToLocals, Value.category, maxLocals]; done) | rfl) ?_
  refine WP.iloadN (pc' := 1) dPSB_0 rfl rfl ?_
  refine WP.aloadN (pc' := 2) dPSB_1 rfl rfl rfl ?_
  refine WP.callS (pc' := 5) (con_UCIg hw hf hx T hi) (hw _ (List.mem_of_getElem? (i := 292) rfl)) (hw _ (List.mem_of_getElem? (i := 293) rfl)) (hw _ (List.mem_of_getElem? (i := 152) rfl)) (hw _ (List.mem_of_getElem? (i := 294) rfl)) dPSB_2 (by decide) pdx12 rfl rfl rfl (by first | exact Nat.le_of_ble_eq_true rfl | omega | (simp; done) | (simp; omega) | (dsimp only; omega)) (by first | exact Nat.le_of_ble_eq_true rfl | omega | (simp; done) | (simp; omega) | (dsimp only; omega)) (by first | exact Nat.le_of_ble_eq_true rfl | omega | (simp; done) | (simp; omega) | (dsimp only; omega)) (by first | exact Nat.le_of_ble_eq_true rfl | omega | (simp; done) | (simp; omega) | (dsimp only; omega)) (fun _ hx => nomatch hx) rfl ?_
  rintro v h1 nw K hnw ⟨rfl, rfl, rfl⟩
  dsimp only [Option.toList, List.nil_append]
  refine WP.aloadN (pc' := 6) dPSB_5 rfl rfl rfl ?_
  refine WP.iloadN (pc' := 7) dPSB_6 rfl rfl ?_
  refine WP.iloadN (pc' := 8) dPSB_7 rfl rfl ?_
  refine WP.callS (pc' := 11) (con_PC hw hu16 (i := i) (u := u) T (by omega) hm) (hw _ (List.mem_of_getElem? (i := 250) rfl)) (hw _ (List.mem_of_getElem? (i := 251) rfl)) (hw _ (List.mem_of_getElem? (i := 152) rfl)) (hw _ (List.mem_of_getElem? (i := 252) rfl)) dPSB_8 (by decide) pdx1 rfl rfl rfl (by first | exact Nat.le_of_ble_eq_true rfl | omega | (simp; done) | (simp; omega) | (dsimp only; omega)) (by first | exact Nat.le_of_ble_eq_true rfl | omega | (simp; done) | (simp; omega) | (dsimp only; omega)) (by first | exact Nat.le_of_ble_eq_true rfl | omega | (simp; done) | (simp; omega) | (dsimp only; omega)) (by first | exact Nat.le_of_ble_eq_true rfl | omega | (simp; done) | (simp; omega) | (dsimp only; omega)) (fun x hx => Or.inl hx) rfl ?_
  rintro v h1 nw K1 hnw1 ⟨rfl, rfl, D⟩
  dsimp only [Option.toList, List.nil_append]
  exact WP.vret dPSB_11 rfl ⟨rfl, rfl, D⟩ (fun _ hx => nomatch hx) (fun _ hx => hx) (by first | exact Nat.le_of_ble_eq_true rfl | omega) (by first | exact Nat.le_of_ble_eq_true rfl | omega)
end JdkSb2
end Jvm.Pilot.@@N@@

namespace Jvm.Pilot.@@N@@
open Jvm Jvm.ClassFile Sem Op Lib Jvm.Free Jvm.Stand Jvm.LawKit Jvm.RoadKit Bundle Jvm.Pilot.@@N@@.Jvm.D Jvm.OwnW

section JdkVal
variable {Z : State} {a0 : Array Value} {h : Heap} {mine : List Addr}
theorem dCEN_0 : decode jdk_43_method_3_code 0 = .ok (.iload_n 0, 1) := by decide +kernel
theorem dCEN_1 : decode jdk_43_method_3_code 1 = .ok (.sipush 255, 3) := by decide +kernel
theorem dCEN_4 : decode jdk_43_method_3_code 4 = .ok (.if_icmp .gt 7, 3) := by decide +kernel
theorem dCEN_7 : decode jdk_43_method_3_code 7 = .ok (.iconst 1, 1) := by decide +kernel
theorem dCEN_8 : decode jdk_43_method_3_code 8 = .ok (.goto 4, 3) := by decide +kernel
theorem dCEN_11 : decode jdk_43_method_3_code 11 = .ok (.iconst 0, 1) := by decide +kernel
theorem dCEN_12 : decode jdk_43_method_3_code 12 = .ok (.ireturn, 1) := by decide +kernel
theorem pnCEN : plainFor (⟨"java/lang/StringLatin1", "canEncode", "(C)Z"⟩ : MethodName) = true := plainFor_of_name (by first | (simp [plainName, overriddenIn]; done) | decide +kernel)
set_option maxRecDepth 65536 in
set_option maxHeartbeats 40000000 in
theorem con_CEN {u : UInt16} : Con (⟨"java/lang/StringLatin1", "canEncode", "(C)Z"⟩ : MethodName) jdk_43_method_3_code 1 (some .boolean) R0 Z LT [] #[.int (chv u)] h [] mine (fun v h' nw => nw = [] ∧ v = some (.int (if u < 256 then 1 else 0)) ∧ h' = h) := by
  refine Con.of pnCEN (Ls := [.val (.int (chv u))]) (fun m => by first | (simp [entryFrame, mkF, argsToLocals, Value.category]; done) | (simp [entryFrame, mkF, argsToLocals, Value.category, maxLocals]; done) | rfl) ?_
  refine WP.iloadN (pc' := 1) dCEN_0 rfl rfl ?_
  refine WP.sipush (pc' := 4) (x := 255) dCEN_1 (by decide) rfl ?_
  by_cases h256 : u < 256
  · refine WP.icmpF (pc' := 7) dCEN_4 rfl (fun q => (chv_gt u).mp q h256) ?_
    refine WP.iconst (pc' := 8) (x := 1) dCEN_7 (by decide) rfl ?_
    refine WP.goto (pc' := 12) dCEN_8 (by decide) (by decide) ?_
    exact WP.ireturn dCEN_12 rfl (by simp) rfl ⟨rfl, by rw [if_pos h256], rfl⟩ (fun _ hx => nomatch hx) (fun _ hx => hx) (by first | exact Nat.le_of_ble_eq_true rfl | omega) (by first | exact Nat.le_of_ble_eq_true rfl | omega)
  · refine WP.icmpT (pc' := 11) dCEN_4 (by decide) (by decide) ((chv_gt u).mpr h256) ?_
    refine WP.iconst (pc' := 12) (x := 0) dCEN_11 (by decide) rfl ?_
    exact WP.ireturn dCEN_12 rfl (by simp) rfl ⟨rfl, by rw [if_neg h256], rfl⟩ (fun _ hx => nomatch hx) (fun _ hx => hx) (by first | exact Nat.le_of_ble_eq_true rfl | omega) (by first | exact Nat.le_of_ble_eq_true rfl | omega)
end JdkVal
end Jvm.Pilot.@@N@@

namespace Jvm.Pilot.@@N@@
open Jvm Jvm.ClassFile Sem Op Lib Jvm.Free Jvm.Stand Jvm.LawKit Jvm.RoadKit Bundle Jvm.Pilot.@@N@@.Jvm.D Jvm.OwnW
theorem pdx22 : parseMethodDescriptor "(C)Z" = some ⟨[.char], some .boolean⟩ := by decide +kernel
theorem pdx23 : parseMethodDescriptor "()V" = some ⟨[], none⟩ := by decide +kernel
theorem pdx24 : parseMethodDescriptor "(C)Ljava/lang/AbstractStringBuilder;" = some ⟨[.char], some (.object "java/lang/AbstractStringBuilder")⟩ := by decide +kernel
section JdkSb3
variable {Z : State} {a0 : Array Value} {h : Heap} {mine : List Addr}
def wid (us : List UInt16) : Nat := if lat us = true then 1 else 2
/-- a StringBuilder that holds these units, its capacity C -/
def SB (Z : State) (h : Heap) (b v : Addr) (us : List UInt16) (C : Nat) : Prop := ∃ pad, SBr Z h b v (byt us ++ pad) (cod us) us.length ∧ (byt us ++ pad).length = wid us * C
theorem SB.keep {h' : Heap} {b v : Addr} {us : List UInt16} {C : Nat} {ws : List Addr} (B : SB Z h b v us C) (K : Keep h h' ws) (q : b ∉ ws) (r : v ∉ ws) : SB Z h' b v us C := by
  obtain ⟨pad, B, hl⟩ := B
  exact ⟨pad, B.keep K q r, hl⟩
theorem SB.exa {b v : Addr} {us : List UInt16} {C : Nat} (B : SB Z h b v us C) : Exa Z h b SBN := by obtain ⟨pad, B, -⟩ := B; exact B.1
theorem byt_len (us : List UInt16) : (byt us).length = wid us * us.length := by
  unfold byt wid
  split <;> simp [b16_len]
theorem lat_app (us : List UInt16) (u : UInt16) : lat (us ++ [u]) = (lat us && decide (u < 256)) := by simp [lat, List.all_append]
theorem b16_put {us : List UInt16} {pad : List Int32} {u : UInt16} (h : 2 ≤ pad.length) : ((b16 us ++ pad).set (2 * us.length) (lo8 u)).set (2 * us.length + 1) (hi8 u) = b16 (us ++ [u]) ++ pad.drop 2 := by
  rcases pad with _ | ⟨p, _ | ⟨q, pad⟩⟩
  · simp at h
  · simp at h
  · have hl := b16_len us
    rw [take_set hl (by simp [hl]), List.drop_succ_cons, List.drop_zero]
    rw [show b16 us ++ lo8 u :: q :: pad = (b16 us ++ [lo8 u]) ++ (q :: pad) by simp]
    rw [take_set (by simp [hl]) (by simp [hl]), b16_app]
    simp [b16]
theorem lo8_put {us : List UInt16} {pad : List Int32} {u : UInt16} (h : 1 ≤ pad.length) : (us.map lo8 ++ pad).set us.length (lo8 u) = (us ++ [u]).map lo8 ++ pad.drop 1 := by
  rw [take_set (by simp) (by simp; omega)]; simp
theorem dAPC_0 : decode jdk_68_method_31_code 0 = .ok (.aload_n 0, 1) := by decide +kernel
theorem dAPC_1 : decode jdk_68_method_31_code 1 = .ok (.aload_n 0, 1) := by decide +kernel
theorem dAPC_2 : decode jdk_68_method_31_code 2 = .ok (.getfield 79, 3) := by decide +kernel
theorem dAPC_5 : decode jdk_68_method_31_code 5 = .ok (.iconst 1, 1) := by decide +kernel
theorem dAPC_6 : decode jdk_68_method_31_code 6 = .ok (.iadd, 1) := by decide +kernel
theorem dAPC_7 : decode jdk_68_method_31_code 7 = .ok (.invokevirtual 100, 3) := by decide +kernel
theorem dAPC_10 : decode jdk_68_method_31_code 10 = .ok (.aload_n 0, 1) := by decide +kernel
theorem dAPC_11 : decode jdk_68_method_31_code 11 = .ok (.invokevirtual 83, 3) := by decide +kernel
theorem dAPC_14 : decode jdk_68_method_31_code 14 = .ok (.ifCond .eq 31, 3) := by decide +kernel
theorem dAPC_17 : decode jdk_68_method_31_code 17 = .ok (.iload_n 1, 1) := by decide +kernel
theorem dAPC_18 : decode jdk_68_method_31_code 18 = .ok (.invokestatic 191, 3) := by decide +kernel
theorem dAPC_21 : decode jdk_68_method_31_code 21 = .ok (.ifCond .eq 24, 3) := by decide +kernel
theorem dAPC_24 : decode jdk_68_method_31_code 24 = .ok (.aload_n 0, 1) := by decide +kernel
theorem dAPC_25 : decode jdk_68_method_31_code 25 = .ok (.getfield 15, 3) := by decide +kernel
theorem dAPC_28 : decode jdk_68_method_31_code 28 = .ok (.aload_n 0, 1) := by decide +kernel
theorem dAPC_29 : decode jdk_68_method_31_code 29 = .ok (.dup, 1) := by decide +kernel
theorem dAPC_30 : decode jdk_68_method_31_code 30 = .ok (.getfield 79, 3) := by decide +kernel
theorem dAPC_33 : decode jdk_68_method_31_code 33 = .ok (.dup_x1, 1) := by decide +kernel
theorem dAPC_34 : decode jdk_68_method_31_code 34 = .ok (.iconst 1, 1) := by decide +kernel
theorem dAPC_35 : decode jdk_68_method_31_code 35 = .ok (.iadd, 1) := by decide +kernel
theorem dAPC_36 : decode jdk_68_method_31_code 36 = .ok (.putfield 79, 3) := by decide +kernel
theorem dAPC_39 : decode jdk_68_method_31_code 39 = .ok (.iload_n 1, 1) := by decide +kernel
theorem dAPC_40 : decode jdk_68_method_31_code 40 = .ok (.i2b, 1) := by decide +kernel
theorem dAPC_41 : decode jdk_68_method_31_code 41 = .ok (.bastore, 1) := by decide +kernel
theorem dAPC_42 : decode jdk_68_method_31_code 42 = .ok (.goto 33, 3) := by decide +kernel
theorem dAPC_45 : decode jdk_68_method_31_code 45 = .ok (.aload_n 0, 1) := by decide +kernel
theorem dAPC_46 : decode jdk_68_method_31_code 46 = .ok (.invokevirtual 83, 3) := by decide +kernel
theorem dAPC_49 : decode jdk_68_method_31_code 49 = .ok (.ifCond .eq 7, 3) := by decide +kernel
theorem dAPC_52 : decode jdk_68_method_31_code 52 = .ok (.aload_n 0, 1) := by decide +kernel
theorem dAPC_53 : decode jdk_68_method_31_code 53 = .ok (.invokevirtual 195, 3) := by decide +kernel
theorem dAPC_56 : decode jdk_68_method_31_code 56 = .ok (.aload_n 0, 1) := by decide +kernel
theorem dAPC_57 : decode jdk_68_method_31_code 57 = .ok (.getfield 15, 3) := by decide +kernel
theorem dAPC_60 : decode jdk_68_method_31_code 60 = .ok (.aload_n 0, 1) := by decide +kernel
theorem dAPC_61 : decode jdk_68_method_31_code 61 = .ok (.dup, 1) := by decide +kernel
theorem dAPC_62 : decode jdk_68_method_31_code 62 = .ok (.getfield 79, 3) := by decide +kernel
theorem dAPC_65 : decode jdk_68_method_31_code 65 = .ok (.dup_x1, 1) := by decide +kernel
theorem dAPC_66 : decode jdk_68_method_31_code 66 = .ok (.iconst 1, 1) := by decide +kernel
theorem dAPC_67 : decode jdk_68_method_31_code 67 = .ok (.iadd, 1) := by decide +kernel
theorem dAPC_68 : decode jdk_68_method_31_code 68 = .ok (.putfield 79, 3) := by decide +kernel
theorem dAPC_71 : decode jdk_68_method_31_code 71 = .ok (.iload_n 1, 1) := by decide +kernel
theorem dAPC_72 : decode jdk_68_method_31_code 72 = .ok (.invokestatic 197, 3) := by decide +kernel
theorem dAPC_75 : decode jdk_68_method_31_code 75 = .ok (.aload_n 0, 1) := by decide +kernel
theorem dAPC_76 : decode jdk_68_method_31_code 76 = .ok (.areturn, 1) := by decide +kernel
theorem pnAPC : plainFor (⟨"java/lang/AbstractStringBuilder", "append", "(C)Ljava/lang/AbstractStringBuilder;"⟩ : MethodName) = true := plainFor_of_name (by first | (simp [plainName, overriddenIn]; done) | decide +kernel)
set_option maxRecDepth 65536 in
set_option maxHeartbeats 40000000 in
theorem tail_APC (hw : ∀ d ∈ tables_1, d.before a0 Z = true) (hu16 : U16 Z) {vf : Value} (hf : Fmt Z vf) {h1 : Heap} {us : List UInt16} {pad : List Int32} {u : UInt16} {b v t : Addr} {C K : Nat} {mn nw : List Addr} (hl : lat (us ++ [u]) = false) (B : SBr Z h1 b t (b16 us ++ pad) 1 us.length) (hx : (b16 us ++ pad).length = 2 * C) (hlt : us.length < C) (hC : C ≤ 2 * K + 2) (hb : b ∈ mn) (ht : t ∈ mn) (hwt : t ∈ [b, v] ∨ h.size ≤ t) (hnw : ∀ x ∈ nw, x ∈ mn ∧ h.size ≤ x) (hmm : ∀ x ∈ mine, x ∈ mn) (htn : t ∈ nw ++ mine) :
    WP "java/lang/AbstractStringBuilder" jdk_68_method_31_code 2 (some (.object "java/lang/AbstractStringBuilder")) "append" { frames := 6, cells := 2, slots := 12 * K + 16, locals := 89 } Z LT h [b, v] mine (fun w h' nw => w = some (.ref b) ∧ ∃ v' C', v' ∈ nw ++ mine ∧ (v' = v ∨ h.size ≤ v') ∧ SB Z h' b v' (us ++ [u]) C' ∧ C' ≤ 2 * K + 2) mn 2 (12 * K + 16) h1 56 [.val (.ref b), .val (.int (chv u))] [] := by
  obtain ⟨E, Fv, Fc, Fn, M, A, X, nbt, hfx⟩ := B
  have hlb := b16_len us
  refine WP.aloadN (pc' := 57) dAPC_56 rfl rfl rfl ?_
  refine WP.getfield (pc' := 60) (host := "") dAPC_57 (Or.inl (hw _ (List.mem_of_getElem? (i := 79) rfl))) Via.refl Fv rfl ?_
  refine WP.aloadN (pc' := 61) dAPC_60 rfl rfl rfl ?_
  refine WP.dup (pc' := 62) dAPC_61 rfl rfl ?_
  refine WP.getfield (pc' := 65) (host := "") dAPC_62 (Or.inl (hw _ (List.mem_of_getElem? (i := 126) rfl))) Via.refl Fn rfl ?_
  refine WP.dupX1 (pc' := 66) dAPC_65 rfl rfl rfl ?_
  refine WP.iconst (pc' := 67) (x := 1) dAPC_66 (by decide) rfl ?_
  refine WP.iadd (pc' := 68) dAPC_67 rfl ?_
  rw [show Int32.ofNat us.length + 1 = Int32.ofNat (us.length + 1) from n32_succ _]
  refine WP.putfield (pc' := 71) (host := "") dAPC_68 (Or.inl (hw _ (List.mem_of_getElem? (i := 126) rfl))) Via.refl Fn E (Or.inl (hw _ (List.mem_of_getElem? (i := 127) rfl))) (hw _ (List.mem_of_getElem? (i := 55) rfl)) (ty := .int) (by decide) rfl rfl hb (Or.inl (by simp)) rfl ?_
  intro h2 W2 G2 E2
  refine WP.iloadN (pc' := 72) dAPC_71 rfl rfl ?_
  refine WP.callS (pc' := 75) (con_PSB hw hu16 hf (u := u) hx (A.other W2 (Ne.symm nbt)) hlt ht) (hw _ (List.mem_of_getElem? (i := 289) rfl)) (hw _ (List.mem_of_getElem? (i := 290) rfl)) (hw _ (List.mem_of_getElem? (i := 152) rfl)) (hw _ (List.mem_of_getElem? (i := 291) rfl)) dAPC_72 (by decide) pdx1 rfl rfl rfl (by first | exact Nat.le_of_ble_eq_true rfl | omega | (simp; done) | (simp; omega) | (dsimp only; omega)) (by first | exact Nat.le_of_ble_eq_true rfl | omega | (simp; done) | (simp; omega) | (dsimp only; omega)) (by first | exact Nat.le_of_ble_eq_true rfl | omega | (simp; done) | (simp; omega) | (dsimp only; omega)) (by first | exact Nat.le_of_ble_eq_true rfl | omega | (simp; done) | (simp; omega) | (dsimp only; omega)) (fun x hx => by cases List.mem_singleton.mp hx; exact hwt) rfl ?_
  rintro w h3 nw3 K3 hnw3 ⟨rfl, rfl, T⟩
  dsimp only [Option.toList, List.nil_append]
  have nb : b ∉ [t] := fun q => nbt (List.mem_singleton.mp q)
  rw [b16_put (by simp at hx; omega)] at T
  refine WP.aloadN (pc' := 76) dAPC_75 rfl rfl rfl ?_
  refine WP.areturn (nw := nw) dAPC_76 rfl rfl rfl ⟨rfl, t, C, htn, hwt.imp (fun q => (List.mem_cons.mp q).elim (fun z => absurd z.symm nbt) (fun z => List.mem_singleton.mp z)) id, ⟨pad.drop 2, ?_, ?_⟩, hC⟩ hnw hmm (Nat.le_refl _) (Nat.le_refl _)
  · rw [byt_utf hl, cod_utf hl, List.length_append]
    exact ⟨E2.keep K3, (Fv.other W2 (Or.inr (s_vn hw))).keep K3 nb, (Fc.other W2 (Or.inr (s_cn hw))).keep K3 nb, G2.keep K3 nb, (M.wn hw W2).keep K3 nb, T, (X.wr W2).keep K3, nbt, app_fits b16_fits (fun x hx => hfx x (List.mem_append.mpr (Or.inr (List.mem_of_mem_drop hx))))⟩
  · rw [byt_utf hl]
    simp only [List.length_append, List.length_drop, b16_len, wid, hl] at hx ⊢
    simp
    omega
set_option maxRecDepth 65536 in
set_option maxHeartbeats 40000000 in
theorem con_APC (hw : ∀ d ∈ tables_1, d.before a0 Z = true) {cz : Int32} (hc : Compact Z cz) (hu16 : U16 Z) {vf : Value} (hf : Fmt Z vf) {us : List UInt16} {u : UInt16} {b v : Addr} {C K : Nat} (B : SB Z h b v us C) (hn : us.length ≤ K) (hC : C ≤ 2 * K + 2) (hK : K ≤ 4000000) (hb : b ∈ mine) (hv : v ∈ mine) :
    Con (⟨"java/lang/AbstractStringBuilder", "append", "(C)Ljava/lang/AbstractStringBuilder;"⟩ : MethodName) jdk_68_method_31_code 2 (some (.object "java/lang/AbstractStringBuilder")) { frames := 6, cells := 2, slots := 12 * K + 16, locals := 89 } Z LT [] #[.ref b, .int (chv u)] h [b, v] mine (fun w h' nw => w = some (.ref b) ∧ ∃ v' C', v' ∈ nw ++ mine ∧ (v' = v ∨ h.size ≤ v') ∧ SB Z h' b v' (us ++ [u]) C' ∧ C' ≤ 2 * K + 2) := by
  obtain ⟨pad, B, hlen⟩ := B
  have hbl := byt_len us
  refine Con.of pnAPC (Ls := [.val (.ref b), .val (.int (chv u))]) (fun m => by first | (simp [entryFrame, mkF, argsToLocals, Value.category]; done) | (simp [entryFrame, mkF, argsToLocals, Value.category, maxLocals]; done) | rfl) ?_
  refine WP.aloadN (pc' := 1) dAPC_0 rfl rfl rfl ?_
  refine WP.aloadN (pc' := 2) dAPC_1 rfl rfl rfl ?_
  refine WP.getfield (pc' := 5) (host := "") dAPC_2 (Or.inl (hw _ (List.mem_of_getElem? (i := 126) rfl))) Via.refl B.2.2.2.1 rfl ?_
  refine WP.iconst (pc' := 6) (x := 1) dAPC_5 (by decide) rfl ?_
  refine WP.iadd (pc' := 7) dAPC_6 rfl ?_
  rw [show Int32.ofNat us.length + 1 = Int32.ofNat (us.length + 1) from n32_succ _]
  have hle0 : us.length ≤ C := by
    rw [List.length_append, hbl] at hlen
    unfold wid at hlen
    split at hlen <;> omega
  have hcc0 : (cod us = 0 ∧ (byt us ++ pad).length = C) ∨ (cod us = 1 ∧ (byt us ++ pad).length = 2 * C) := by
    unfold wid at hlen
    cases hl : lat us
    · rw [hl] at hlen; exact Or.inr ⟨cod_utf hl, by simpa using hlen⟩
    · rw [hl] at hlen; exact Or.inl ⟨cod_lat hl, by simpa using hlen⟩
  refine WP.callPn (pc' := 10) (con_ECI hw (C := C) (N := 8 * K + 12) B hcc0 (by omega) (by omega) (by omega) hb) B.1.cell (hw _ (List.mem_of_getElem? (i := 184) rfl)) (hw _ (List.mem_of_getElem? (i := 185) rfl)) (hw _ (List.mem_of_getElem? (i := 186) rfl)) (fun s hs => (ni_sel (y := ({ cls := "java/lang/AbstractStringBuilder", name := "getValue", desc := "()[B" } : Jvm.MethodName)) (args := #[]) (mv hs (hw _ (List.mem_of_getElem? (i := 115) rfl))))) (hw _ (List.mem_of_getElem? (i := 75) rfl)) (hw _ (List.mem_of_getElem? (i := 188) rfl)) dAPC_7 (by decide) pdx19 rfl rfl rfl (by first | exact Nat.le_of_ble_eq_true rfl | omega | (simp; done) | (simp; omega) | (dsimp only; omega)) (by first | exact Nat.le_of_ble_eq_true rfl | omega | (simp; done) | (simp; omega) | (dsimp only; omega)) (by first | exact Nat.le_of_ble_eq_true rfl | omega | (simp; done) | (simp; omega) | (dsimp only; omega)) (by first | exact Nat.le_of_ble_eq_true rfl | omega | (simp; done) | (simp; omega) | (dsimp only; omega)) (fun x hx => by cases List.mem_singleton.mp hx; exact Or.inl (by simp)) rfl ?_
  rintro w h1 nw K1 hnw1 ⟨rfl, v', C', zs, hv', B1, hcc, hle, hCC⟩
  dsimp only [Option.toList, List.nil_append]
  have hC' : C' ≤ 2 * K + 2 := by omega
  have hvm : v' ∈ nw ++ mine := by
    rcases hv' with ⟨rfl, rfl⟩ | rfl
    · exact hv
    · simp
  have hvw : v' ∈ [b, v] ∨ h.size ≤ v' := by
    rcases hv' with ⟨rfl, rfl⟩ | rfl
    · exact Or.inl (by simp)
    · exact Or.inr (hnw1 _ (by simp))
  have hbm : b ∈ nw ++ mine := List.mem_append.mpr (Or.inr hb)
  rw [List.append_assoc] at B1 hcc
  refine WP.aloadN (pc' := 11) dAPC_10 rfl rfl rfl ?_
  refine WP.callV (pc' := 14) (con_SBL hw hc B1.2.2.1) B1.1 (hw _ (List.mem_of_getElem? (i := 189) rfl)) (hw _ (List.mem_of_getElem? (i := 129) rfl)) (fun s hs => notFace_of_selects (args := #[]) (mv hs (hw _ (List.mem_of_getElem? (i := 131) rfl)))) (hw _ (List.mem_of_getElem? (i := 131) rfl)) (hw _ (List.mem_of_getElem? (i := 130) rfl)) (hw _ (List.mem_of_getElem? (i := 75) rfl)) (hw _ (List.mem_of_getElem? (i := 132) rfl)) dAPC_11 (by decide) pdx13 rfl rfl rfl (by first | exact Nat.le_of_ble_eq_true rfl | omega | (simp; done) | (simp; omega) | (dsimp only; omega)) (by first | exact Nat.le_of_ble_eq_true rfl | omega | (simp; done) | (simp; omega) | (dsimp only; omega)) (by first | exact Nat.le_of_ble_eq_true rfl | omega | (simp; done) | (simp; omega) | (dsimp only; omega)) (by first | exact Nat.le_of_ble_eq_true rfl | omega | (simp; done) | (simp; omega) | (dsimp only; omega)) (fun _ hx => nomatch hx) rfl ?_
  rintro w h2 nw2 K2 hnw2 ⟨rfl, rfl, rfl⟩
  dsimp only [Option.toList, List.cons_append, List.nil_append]
  cases hl : lat us
  · rw [cod_utf hl, byt_utf hl] at B1
    rw [cod_utf hl, byt_utf hl] at hcc
    rw [cod_utf hl]
    rw [if_neg (by decide)]
    refine WP.ifT (pc' := 45) dAPC_14 (by decide) (by decide) rfl ?_
    refine WP.aloadN (pc' := 46) dAPC_45 rfl rfl rfl ?_
    refine WP.callV (pc' := 49) (con_SBL hw hc B1.2.2.1) B1.1 (hw _ (List.mem_of_getElem? (i := 189) rfl)) (hw _ (List.mem_of_getElem? (i := 129) rfl)) (fun s hs => notFace_of_selects (args := #[]) (mv hs (hw _ (List.mem_of_getElem? (i := 131) rfl)))) (hw _ (List.mem_of_getElem? (i := 131) rfl)) (hw _ (List.mem_of_getElem? (i := 130) rfl)) (hw _ (List.mem_of_getElem? (i := 75) rfl)) (hw _ (List.mem_of_getElem? (i := 132) rfl)) dAPC_46 (by decide) pdx13 rfl rfl rfl (by first | exact Nat.le_of_ble_eq_true rfl | omega | (simp; done) | (simp; omega) | (dsimp only; omega)) (by first | exact Nat.le_of_ble_eq_true rfl | omega | (simp; done) | (simp; omega) | (dsimp only; omega)) (by first | exact Nat.le_of_ble_eq_true rfl | omega | (simp; done) | (simp; omega) | (dsimp only; omega)) (by first | exact Nat.le_of_ble_eq_true rfl | omega | (simp; done) | (simp; omega) | (dsimp only; omega)) (fun _ hx => nomatch hx) rfl ?_
    rintro w h2 nw2 K2 hnw2 ⟨rfl, rfl, rfl⟩
    dsimp only [Option.toList, List.cons_append, List.nil_append]
    rw [if_neg (by decide)]
    refine WP.ifT (pc' := 56) dAPC_49 (by decide) (by decide) rfl ?_
    refine WP.more (ce' := 2) (sl' := 12 * K + 16) ?_ (by omega) (by omega)
    exact tail_APC hw hu16 hf (by rw [lat_app, hl]; rfl) B1 (hcc.elim (fun q => absurd q.1 (by decide)) (fun q => q.2)) (by omega) hC' hbm hvm hvw (fun x hx => ⟨List.mem_append.mpr (Or.inl hx), hnw1 x hx⟩) (fun x hx => List.mem_append.mpr (Or.inr hx)) hvm
  · rw [cod_lat hl, byt_lat hl] at B1
    rw [cod_lat hl, byt_lat hl] at hcc
    rw [cod_lat hl]
    rw [if_pos rfl]
    have hxl : (us.map lo8 ++ (pad ++ zs)).length = C' := hcc.elim (fun q => q.2) (fun q => absurd q.1 (by decide))
    refine WP.ifF (pc' := 17) dAPC_14 rfl (show ¬ (1 : Int32) = 0 by decide) ?_
    refine WP.iloadN (pc' := 18) dAPC_17 rfl rfl ?_
    refine WP.callS (pc' := 21) (con_CEN (u := u)) (hw _ (List.mem_of_getElem? (i := 190) rfl)) (hw _ (List.mem_of_getElem? (i := 191) rfl)) (hw _ (List.mem_of_getElem? (i := 95) rfl)) (hw _ (List.mem_of_getElem? (i := 192) rfl)) dAPC_18 (by decide) pdx22 rfl rfl rfl (by first | exact Nat.le_of_ble_eq_true rfl | omega | (simp; done) | (simp; omega) | (dsimp only; omega)) (by first | exact Nat.le_of_ble_eq_true rfl | omega | (simp; done) | (simp; omega) | (dsimp only; omega)) (by first | exact Nat.le_of_ble_eq_true rfl | omega | (simp; done) | (simp; omega) | (dsimp only; omega)) (by first | exact Nat.le_of_ble_eq_true rfl | omega | (simp; done) | (simp; omega) | (dsimp only; omega)) (fun _ hx => nomatch hx) rfl ?_
    rintro w h2 nw2 K2 hnw2 ⟨rfl, rfl, rfl⟩
    dsimp only [Option.toList, List.cons_append, List.nil_append]
    by_cases h256 : u < 256
    · rw [if_pos h256]
      have hl2 : lat (us ++ [u]) = true := by rw [lat_app, hl]; simp [h256]
      obtain ⟨E, Fv, Fc, Fn, M, A, X, nbt, hfx⟩ := B1
      refine WP.ifF (pc' := 24) dAPC_21 rfl (show ¬ (1 : Int32) = 0 by decide) ?_
      refine WP.aloadN (pc' := 25) dAPC_24 rfl rfl rfl ?_
      refine WP.getfield (pc' := 28) (host := "") dAPC_25 (Or.inl (hw _ (List.mem_of_getElem? (i := 79) rfl))) Via.refl Fv rfl ?_
      refine WP.aloadN (pc' := 29) dAPC_28 rfl rfl rfl ?_
      refine WP.dup (pc' := 30) dAPC_29 rfl rfl ?_
      refine WP.getfield (pc' := 33) (host := "") dAPC_30 (Or.inl (hw _ (List.mem_of_getElem? (i := 126) rfl))) Via.refl Fn rfl ?_
      refine WP.dupX1 (pc' := 34) dAPC_33 rfl rfl rfl ?_
      refine WP.iconst (pc' := 35) (x := 1) dAPC_34 (by decide) rfl ?_
      refine WP.iadd (pc' := 36) dAPC_35 rfl ?_
      rw [show Int32.ofNat us.length + 1 = Int32.ofNat (us.length + 1) from n32_succ _]
      refine WP.putfield (pc' := 39) (host := "") dAPC_36 (Or.inl (hw _ (List.mem_of_getElem? (i := 126) rfl))) Via.refl Fn E (Or.inl (hw _ (List.mem_of_getElem? (i := 127) rfl))) (hw _ (List.mem_of_getElem? (i := 55) rfl)) (ty := .int) (by decide) rfl rfl hbm (Or.inl (by simp)) rfl ?_
      intro h2 W2 G2 E2
      refine WP.iloadN (pc' := 40) dAPC_39 rfl rfl ?_
      refine WP.i2b (pc' := 41) dAPC_40 rfl ?_
      refine WP.bastore (pc' := 42) dAPC_41 (A.other W2 (Ne.symm nbt)) (n32_toInt (by omega)) (by rw [hxl]; omega) hvm hvw rfl ?_
      intro h3 W3 T
      rw [nar_i2b, show (chv u).toInt8.toInt32 = lo8 u from chv_lo8 u, lo8_put (by simp at hxl; simp; omega)] at T
      refine WP.goto (pc' := 75) dAPC_42 (by decide) (by decide) ?_
      refine WP.aloadN (pc' := 76) dAPC_75 rfl rfl rfl ?_
      refine WP.areturn (nw := nw) dAPC_76 rfl rfl rfl ⟨rfl, v', C', hvm, hvw.imp (fun q => (List.mem_cons.mp q).elim (fun z => absurd z.symm nbt) (fun z => List.mem_singleton.mp z)) id, ⟨(pad ++ zs).drop 1, ?_, ?_⟩, hC'⟩ (fun x hx => ⟨List.mem_append.mpr (Or.inl hx), hnw1 x hx⟩) (fun x hx => List.mem_append.mpr (Or.inr hx)) (by dsimp only; omega) (by dsimp only; omega)
      · rw [byt_lat hl2, cod_lat hl2, List.length_append]
        exact ⟨E2.wr W3, (Fv.other W2 (Or.inr (s_vn hw))).other W3 (Or.inl nbt), (Fc.other W2 (Or.inr (s_cn hw))).other W3 (Or.inl nbt), G2.other W3 (Or.inl nbt), (M.wn hw W2).ne W3 nbt, T, (X.wr W2).wr W3, nbt, app_fits lo8s_fits (fun x hx => hfx x (List.mem_append.mpr (Or.inr (List.mem_of_mem_drop hx))))⟩
      · rw [byt_lat hl2]
        simp only [List.length_append, List.length_map, List.length_drop, wid, hl2, List.length_cons, List.length_nil] at hxl ⊢
        simp
        omega
    · rw [if_neg h256]
      refine WP.ifT (pc' := 45) dAPC_21 (by decide) (by decide) rfl ?_
      refine WP.aloadN (pc' := 46) dAPC_45 rfl rfl rfl ?_
      refine WP.callV (pc' := 49) (con_SBL hw hc B1.2.2.1) B1.1 (hw _ (List.mem_of_getElem? (i := 189) rfl)) (hw _ (List.mem_of_getElem? (i := 129) rfl)) (fun s hs => notFace_of_selects (args := #[]) (mv hs (hw _ (List.mem_of_getElem? (i := 131) rfl)))) (hw _ (List.mem_of_getElem? (i := 131) rfl)) (hw _ (List.mem_of_getElem? (i := 130) rfl)) (hw _ (List.mem_of_getElem? (i := 75) rfl)) (hw _ (List.mem_of_getElem? (i := 132) rfl)) dAPC_46 (by decide) pdx13 rfl rfl rfl (by first | exact Nat.le_of_ble_eq_true rfl | omega | (simp; done) | (simp; omega) | (dsimp only; omega)) (by first | exact Nat.le_of_ble_eq_true rfl | omega | (simp; done) | (simp; omega) | (dsimp only; omega)) (by first | exact Nat.le_of_ble_eq_true rfl | omega | (simp; done) | (simp; omega) | (dsimp only; omega)) (by first | exact Nat.le_of_ble_eq_true rfl | omega | (simp; done) | (simp; omega) | (dsimp only; omega)) (fun _ hx => nomatch hx) rfl ?_
      rintro w h2 nw2 K2 hnw2 ⟨rfl, rfl, rfl⟩
      dsimp only [Option.toList, List.cons_append, List.nil_append]
      rw [if_pos rfl]
      refine WP.ifF (pc' := 52) dAPC_49 rfl (show ¬ (1 : Int32) = 0 by decide) ?_
      refine WP.aloadN (pc' := 53) dAPC_52 rfl rfl rfl ?_
      refine WP.callPn (pc' := 56) (con_IFL hw hc hu16 hf (C := C') (N := 4 * K + 4) hl B1 hxl (by omega) (by omega) hbm) B1.1.cell (hw _ (List.mem_of_getElem? (i := 277) rfl)) (hw _ (List.mem_of_getElem? (i := 278) rfl)) (hw _ (List.mem_of_getElem? (i := 279) rfl)) (fun s hs => (ni_sel (y := ({ cls := "java/lang/AbstractStringBuilder", name := "getValue", desc := "()[B" } : Jvm.MethodName)) (args := #[]) (mv hs (hw _ (List.mem_of_getElem? (i := 115) rfl))))) (hw _ (List.mem_of_getElem? (i := 75) rfl)) (hw _ (List.mem_of_getElem? (i := 281) rfl)) dAPC_53 (by decide) pdx23 rfl rfl rfl (by first | exact Nat.le_of_ble_eq_true rfl | omega | (simp; done) | (simp; omega) | (dsimp only; omega)) (by first | exact Nat.le_of_ble_eq_true rfl | omega | (simp; done) | (simp; omega) | (dsimp only; omega)) (by first | exact Nat.le_of_ble_eq_true rfl | omega | (simp; done) | (simp; omega) | (dsimp only; omega)) (by first | exact Nat.le_of_ble_eq_true rfl | omega | (simp; done) | (simp; omega) | (dsimp only; omega)) (fun x hx => by cases List.mem_singleton.mp hx; exact Or.inl (by simp)) rfl ?_
      rintro w h3 nw3 K3 hnw3 ⟨t, rfl, rfl, B3⟩
      dsimp only [Option.toList, List.nil_append, List.cons_append]
      have ht : _ ≤ t := Nat.le_trans K1.1 (hnw3 t (by simp))
      refine WP.more (ce' := 2) (sl' := 12 * K + 16) ?_ (by omega) (by omega)
      exact tail_APC (nw := t :: nw) hw hu16 hf (by rw [lat_app]; simp [h256]) B3 (by simp [b16_len]; omega) (by omega) hC' (List.mem_cons_of_mem _ hbm) (List.mem_cons_self ..) (Or.inr ht) (fun x hx => by
        rcases List.mem_cons.mp hx with rfl | hx
        · exact ⟨List.mem_cons_self .., ht⟩
        · exact ⟨List.mem_cons_of_mem _ (List.mem_append.mpr (Or.inl hx)), hnw1 x hx⟩) (fun x hx => List.mem_cons_of_mem _ (List.mem_append.mpr (Or.inr hx))) (by simp)
theorem dSAP_0 : decode jdk_67_method_14_code 0 = .ok (.aload_n 0, 1) := by decide +kernel
theorem dSAP_1 : decode jdk_67_method_14_code 1 = .ok (.iload_n 1, 1) := by decide +kernel
theorem dSAP_2 : decode jdk_67_method_14_code 2 = .ok (.invokespecial 50, 3) := by decide +kernel
theorem dSAP_5 : decode jdk_67_method_14_code 5 = .ok (.pop, 1) := by decide +kernel
theorem dSAP_6 : decode jdk_67_method_14_code 6 = .ok (.aload_n 0, 1) := by decide +kernel
theorem dSAP_7 : decode jdk_67_method_14_code 7 = .ok (.areturn, 1) := by decide +kernel
theorem pnSAP : plainFor (⟨"java/lang/StringBuilder", "append", "(C)Ljava/lang/StringBuilder;"⟩ : MethodName) = true := plainFor_of_name (by first | (simp [plainName, overriddenIn]; done) | decide +kernel)
set_option maxRecDepth 65536 in
set_option maxHeartbeats 40000000 in
theorem con_SAP (hw : ∀ d ∈ tables_1, d.before a0 Z = true) {cz : Int32} (hc : Compact Z cz) (hu16 : U16 Z) {vf : Value} (hf : Fmt Z vf) {us : List UInt16} {u : UInt16} {b v : Addr} {C K : Nat} (B : SB Z h b v us C) (hn : us.length ≤ K) (hC : C ≤ 2 * K + 2) (hK : K ≤ 4000000) (hb : b ∈ mine) (hv : v ∈ mine) :
    Con (⟨"java/lang/StringBuilder", "append", "(C)Ljava/lang/StringBuilder;"⟩ : MethodName) jdk_67_method_14_code 2 (some (.object "java/lang/StringBuilder")) { frames := 7, cells := 2, slots := 12 * K + 16, locals := 102 } Z LT [] #[.ref b, .int (chv u)] h [b, v] mine (fun w h' nw => w = some (.ref b) ∧ ∃ v' C', v' ∈ nw ++ mine ∧ (v' = v ∨ h.size ≤ v') ∧ SB Z h' b v' (us ++ [u]) C' ∧ C' ≤ 2 * K + 2) := by
  refine Con.of pnSAP (Ls := [.val (.ref b), .val (.int (chv u))]) (fun m => by first | (simp [entryFrame, mkF, argsToLocals, Value.category]; done) | (simp [entryFrame, mkF, argsToLocals, Value.category, maxLocals]; done) | rfl) ?_
  refine WP.aloadN (pc' := 1) dSAP_0 rfl rfl rfl ?_
  refine WP.iloadN (pc' := 2) dSAP_1 rfl rfl ?_
  refine WP.callSup (pc' := 5) (con_APC hw hc hu16 hf (u := u) B hn hC hK hb hv) B.exa (hw _ (List.mem_of_getElem? (i := 180) rfl)) (hw _ (List.mem_of_getElem? (i := 181) rfl)) (hw _ (List.mem_of_getElem? (i := 124) rfl)) (ni_sel (y := ({ cls := "java/lang/AbstractStringBuilder", name := "getValue", desc := "()[B" } : Jvm.MethodName)) (hw _ (List.mem_of_getElem? (i := 115) rfl))) (by decide) (hw _ (List.mem_of_getElem? (i := 75) rfl)) (hw _ (List.mem_of_getElem? (i := 183) rfl)) dSAP_2 (by decide) pdx24 rfl rfl rfl (by first | exact Nat.le_of_ble_eq_true rfl | omega | (simp; done) | (simp; omega) | (dsimp only; omega)) (by first | exact Nat.le_of_ble_eq_true rfl | omega | (simp; done) | (simp; omega) | (dsimp only; omega)) (by first | exact Nat.le_of_ble_eq_true rfl | omega | (simp; done) | (simp; omega) | (dsimp only; omega)) (by first | exact Nat.le_of_ble_eq_true rfl | omega | (simp; done) | (simp; omega) | (dsimp only; omega)) (fun x hx => Or.inl hx) rfl ?_
  rintro w h1 nw K1 hnw1 ⟨rfl, v', C', hv', hz', B1, hC'⟩
  dsimp only [Option.toList, List.nil_append, List.cons_append]
  refine WP.pop (pc' := 6) dSAP_5 rfl rfl ?_
  refine WP.aloadN (pc' := 7) dSAP_6 rfl rfl rfl ?_
  exact WP.areturn (nw := nw) dSAP_7 rfl rfl rfl ⟨rfl, v', C', hv', hz', B1, hC'⟩ (fun x hx => ⟨List.mem_append.mpr (Or.inl hx), hnw1 x hx⟩) (fun x hx => List.mem_append.mpr (Or.inr hx)) (by dsimp only; omega) (by dsimp only; omega)
end JdkSb3
end Jvm.Pilot.@@N@@

namespace Jvm.Pilot.@@N@@
open Jvm Jvm.ClassFile Sem Op Lib Jvm.Free Jvm.Stand Jvm.LawKit Jvm.RoadKit Bundle Jvm.Pilot.@@N@@.Jvm.D Jvm.OwnW
theorem pdx25 : parseMethodDescriptor "()I" = some ⟨[], some .int⟩ := by decide +kernel
theorem pdx26 : parseMethodDescriptor "()[B" = some ⟨[], some (.array .byte)⟩ := by decide +kernel
theorem pdx27 : parseMethodDescriptor "(Ljava/lang/AbstractStringBuilder;Ljava/lang/Void;)V" = some ⟨[(.object "java/lang/AbstractStringBuilder"), (.object "java/lang/Void")], none⟩ := by decide +kernel
theorem pdx28 : parseMethodDescriptor "(Ljava/lang/StringBuilder;)V" = some ⟨[(.object "java/lang/StringBuilder")], none⟩ := by decide +kernel
theorem pdx29 : parseMethodDescriptor "([BI[CII)V" = some ⟨[(.array .byte), .int, (.array .char), .int, .int], none⟩ := by decide +kernel
theorem pdx30 : parseMethodDescriptor "([BII[CI)V" = some ⟨[(.array .byte), .int, .int, (.array .char), .int], none⟩ := by decide +kernel
theorem pdx31 : parseMethodDescriptor "([B)[C" = some ⟨[(.array .byte)], some (.array .char)⟩ := by decide +kernel
section JdkSb4
variable {Z : State} {a0 : Array Value} {h : Heap} {mine : List Addr}
theorem dGV_0 : decode jdk_68_method_64_code 0 = .ok (.aload_n 0, 1) := by decide +kernel
theorem dGV_1 : decode jdk_68_method_64_code 1 = .ok (.getfield 15, 3) := by decide +kernel
theorem dGV_4 : decode jdk_68_method_64_code 4 = .ok (.areturn, 1) := by decide +kernel
theorem pnGV : plainFor (⟨"java/lang/AbstractStringBuilder", "getValue", "()[B"⟩ : MethodName) = true := plainFor_of_name (by first | (simp [plainName, overriddenIn]; done) | decide +kernel)
set_option maxRecDepth 65536 in
set_option maxHeartbeats 40000000 in
theorem con_GV (hw : ∀ d ∈ tables_1, d.before a0 Z = true) {b v : Addr} (F : Fld Z h b ASBN "value" "[B" (.ref v)) : Con (⟨"java/lang/AbstractStringBuilder", "getValue", "()[B"⟩ : MethodName) jdk_68_method_64_code 1 (some (.array .byte)) R0 Z LT [] #[.ref b] h [] mine (fun w h' nw => nw = [] ∧ w = some (.ref v) ∧ h' = h) := by
  refine Con.of pnGV (Ls := [.val (.ref b)]) (fun m => by first | (simp [entryFrame, mkF, argsToLocals, Value.category]; done) | (simp [entryFrame, mkF, argsToLocals, Value.category, maxLocals]; done) | rfl) ?_
  refine WP.aloadN (pc' := 1) dGV_0 rfl rfl rfl ?_
  refine WP.getfield (pc' := 4) (host := "") dGV_1 (Or.inl (hw _ (List.mem_of_getElem? (i := 79) rfl))) Via.refl F rfl ?_
  exact WP.areturn dGV_4 rfl rfl rfl ⟨rfl, rfl, rfl⟩ (fun _ hx => nomatch hx) (fun _ hx => hx) (by first | exact Nat.le_of_ble_eq_true rfl | omega) (by first | exact Nat.le_of_ble_eq_true rfl | omega)
theorem dALN_0 : decode jdk_68_method_6_code 0 = .ok (.aload_n 0, 1) := by decide +kernel
theorem dALN_1 : decode jdk_68_method_6_code 1 = .ok (.getfield 79, 3) := by decide +kernel
theorem dALN_4 : decode jdk_68_method_6_code 4 = .ok (.ireturn, 1) := by decide +kernel
theorem pnALN : plainFor (⟨"java/lang/AbstractStringBuilder", "length", "()I"⟩ : MethodName) = true := plainFor_of_name (by first | (simp [plainName, overriddenIn]; done) | decide +kernel)
set_option maxRecDepth 65536 in
set_option maxHeartbeats 40000000 in
theorem con_ALN (hw : ∀ d ∈ tables_1, d.before a0 Z = true) {b : Addr} {x : Int32} (F : Fld Z h b ASBN "count" "I" (.int x)) : Con (⟨"java/lang/AbstractStringBuilder", "length", "()I"⟩ : MethodName) jdk_68_method_6_code 1 (some .int) R0 Z LT [] #[.ref b] h [] mine (fun w h' nw => nw = [] ∧ w = some (.int x) ∧ h' = h) := by
  refine Con.of pnALN (Ls := [.val (.ref b)]) (fun m => by first | (simp [entryFrame, mkF, argsToLocals, Value.category]; done) | (simp [entryFrame, mkF, argsToLocals, Value.category, maxLocals]; done) | rfl) ?_
  refine WP.aloadN (pc' := 1) dALN_0 rfl rfl rfl ?_
  refine WP.getfield (pc' := 4) (host := "") dALN_1 (Or.inl (hw _ (List.mem_of_getElem? (i := 126) rfl))) Via.refl F rfl ?_
  exact WP.ireturn dALN_4 rfl (by simp) rfl ⟨rfl, rfl, rfl⟩ (fun _ hx => nomatch hx) (fun _ hx => hx) (by first | exact Nat.le_of_ble_eq_true rfl | omega) (by first | exact Nat.le_of_ble_eq_true rfl | omega)
theorem dSLN_0 : decode jdk_67_method_93_code 0 = .ok (.aload_n 0, 1) := by decide +kernel
theorem dSLN_1 : decode jdk_67_method_93_code 1 = .ok (.invokespecial 343, 3) := by decide +kernel
theorem dSLN_4 : decode jdk_67_method_93_code 4 = .ok (.ireturn, 1) := by decide +kernel
theorem pnSLN : plainFor (⟨"java/lang/StringBuilder", "length", "()I"⟩ : MethodName) = true := plainFor_of_name (by first | (simp [plainName, overriddenIn]; done) | decide +kernel)
set_option maxRecDepth 65536 in
set_option maxHeartbeats 40000000 in
theorem con_SLN (hw : ∀ d ∈ tables_1, d.before a0 Z = true) {b : Addr} {x : Int32} (E : Exa Z h b SBN) (F : Fld Z h b ASBN "count" "I" (.int x)) : Con (⟨"java/lang/StringBuilder", "length", "()I"⟩ : MethodName) jdk_67_method_93_code 1 (some .int) { frames := 1, cells := 0, slots := 0, locals := 12 } Z LT [] #[.ref b] h [] mine (fun w h' nw => nw = [] ∧ w = some (.int x) ∧ h' = h) := by
  refine Con.of pnSLN (Ls := [.val (.ref b)]) (fun m => by first | (simp [entryFrame, mkF, argsToLocals, Value.category]; done) | (simp [entryFrame, mkF, argsToLocals, Value.category, maxLocals]; done) | rfl) ?_
  refine WP.aloadN (pc' := 1) dSLN_0 rfl rfl rfl ?_
  refine WP.callSup (pc' := 4) (con_ALN hw F) E (hw _ (List.mem_of_getElem? (i := 123) rfl)) (hw _ (List.mem_of_getElem? (i := 119) rfl)) (hw _ (List.mem_of_getElem? (i := 124) rfl)) (ni_sel (y := ({ cls := "java/lang/AbstractStringBuilder", name := "getValue", desc := "()[B" } : Jvm.MethodName)) (hw _ (List.mem_of_getElem? (i := 115) rfl))) (by decide) (hw _ (List.mem_of_getElem? (i := 75) rfl)) (hw _ (List.mem_of_getElem? (i := 125) rfl)) dSLN_1 (by decide) pdx25 rfl rfl rfl (by first | exact Nat.le_of_ble_eq_true rfl | omega | (simp; done) | (simp; omega) | (dsimp only; omega)) (by first | exact Nat.le_of_ble_eq_true rfl | omega | (simp; done) | (simp; omega) | (dsimp only; omega)) (by first | exact Nat.le_of_ble_eq_true rfl | omega | (simp; done) | (simp; omega) | (dsimp only; omega)) (by first | exact Nat.le_of_ble_eq_true rfl | omega | (simp; done) | (simp; omega) | (dsimp only; omega)) (fun _ hx => nomatch hx) rfl ?_
  rintro w h1 nw K hnw ⟨rfl, rfl, rfl⟩
  dsimp only [Option.toList, List.cons_append, List.nil_append]
  exact WP.ireturn dSLN_4 rfl (by simp) rfl ⟨rfl, rfl, rfl⟩ (fun _ hx => nomatch hx) (fun _ hx => hx) (by first | exact Nat.le_of_ble_eq_true rfl | omega) (by first | exact Nat.le_of_ble_eq_true rfl | omega)
theorem dSIA_0 : decode jdk_42_method_150_code 0 = .ok (.aload_n 0, 1) := by decide +kernel
theorem dSIA_1 : decode jdk_42_method_150_code 1 = .ok (.invokespecial 1, 3) := by decide +kernel
theorem dSIA_4 : decode jdk_42_method_150_code 4 = .ok (.aload_n 1, 1) := by decide +kernel
theorem dSIA_5 : decode jdk_42_method_150_code 5 = .ok (.invokevirtual 552, 3) := by decide +kernel
theorem dSIA_8 : decode jdk_42_method_150_code 8 = .ok (.astore_n 3, 1) := by decide +kernel
theorem dSIA_9 : decode jdk_42_method_150_code 9 = .ok (.aload_n 1, 1) := by decide +kernel
theorem dSIA_10 : decode jdk_42_method_150_code 10 = .ok (.invokevirtual 549, 3) := by decide +kernel
theorem dSIA_13 : decode jdk_42_method_150_code 13 = .ok (.istore 4, 2) := by decide +kernel
theorem dSIA_15 : decode jdk_42_method_150_code 15 = .ok (.aload_n 1, 1) := by decide +kernel
theorem dSIA_16 : decode jdk_42_method_150_code 16 = .ok (.invokevirtual 1047, 3) := by decide +kernel
theorem dSIA_19 : decode jdk_42_method_150_code 19 = .ok (.ifCond .eq 22, 3) := by decide +kernel
theorem dSIA_22 : decode jdk_42_method_150_code 22 = .ok (.aload_n 0, 1) := by decide +kernel
theorem dSIA_23 : decode jdk_42_method_150_code 23 = .ok (.iconst 0, 1) := by decide +kernel
theorem dSIA_24 : decode jdk_42_method_150_code 24 = .ok (.putfield 15, 3) := by decide +kernel
theorem dSIA_27 : decode jdk_42_method_150_code 27 = .ok (.aload_n 0, 1) := by decide +kernel
theorem dSIA_28 : decode jdk_42_method_150_code 28 = .ok (.aload_n 3, 1) := by decide +kernel
theorem dSIA_29 : decode jdk_42_method_150_code 29 = .ok (.iconst 0, 1) := by decide +kernel
theorem dSIA_30 : decode jdk_42_method_150_code 30 = .ok (.iload 4, 2) := by decide +kernel
theorem dSIA_32 : decode jdk_42_method_150_code 32 = .ok (.invokestatic 54, 3) := by decide +kernel
theorem dSIA_35 : decode jdk_42_method_150_code 35 = .ok (.putfield 9, 3) := by decide +kernel
theorem dSIA_38 : decode jdk_42_method_150_code 38 = .ok (.goto 59, 3) := by decide +kernel
theorem dSIA_41 : decode jdk_42_method_150_code 41 = .ok (.getstatic 38, 3) := by decide +kernel
theorem dSIA_44 : decode jdk_42_method_150_code 44 = .ok (.ifCond .eq 35, 3) := by decide +kernel
theorem dSIA_47 : decode jdk_42_method_150_code 47 = .ok (.aload_n 1, 1) := by decide +kernel
theorem dSIA_48 : decode jdk_42_method_150_code 48 = .ok (.getfield 1048, 3) := by decide +kernel
theorem dSIA_51 : decode jdk_42_method_150_code 51 = .ok (.ifCond .eq 28, 3) := by decide +kernel
theorem dSIA_54 : decode jdk_42_method_150_code 54 = .ok (.aload_n 0, 1) := by decide +kernel
theorem dSIA_55 : decode jdk_42_method_150_code 55 = .ok (.aload_n 3, 1) := by decide +kernel
theorem dSIA_56 : decode jdk_42_method_150_code 56 = .ok (.iconst 0, 1) := by decide +kernel
theorem dSIA_57 : decode jdk_42_method_150_code 57 = .ok (.iload 4, 2) := by decide +kernel
theorem dSIA_59 : decode jdk_42_method_150_code 59 = .ok (.invokestatic 1051, 3) := by decide +kernel
theorem dSIA_62 : decode jdk_42_method_150_code 62 = .ok (.putfield 9, 3) := by decide +kernel
theorem dSIA_65 : decode jdk_42_method_150_code 65 = .ok (.aload_n 0, 1) := by decide +kernel
theorem dSIA_66 : decode jdk_42_method_150_code 66 = .ok (.aload_n 0, 1) := by decide +kernel
theorem dSIA_67 : decode jdk_42_method_150_code 67 = .ok (.getfield 9, 3) := by decide +kernel
theorem dSIA_70 : decode jdk_42_method_150_code 70 = .ok (.iload 4, 2) := by decide +kernel
theorem dSIA_72 : decode jdk_42_method_150_code 72 = .ok (.invokestatic 47, 3) := by decide +kernel
theorem dSIA_75 : decode jdk_42_method_150_code 75 = .ok (.putfield 15, 3) := by decide +kernel
theorem dSIA_78 : decode jdk_42_method_150_code 78 = .ok (.return_, 1) := by decide +kernel
theorem dSIA_79 : decode jdk_42_method_150_code 79 = .ok (.aload_n 0, 1) := by decide +kernel
theorem dSIA_80 : decode jdk_42_method_150_code 80 = .ok (.iconst 1, 1) := by decide +kernel
theorem dSIA_81 : decode jdk_42_method_150_code 81 = .ok (.putfield 15, 3) := by decide +kernel
theorem dSIA_84 : decode jdk_42_method_150_code 84 = .ok (.aload_n 0, 1) := by decide +kernel
theorem dSIA_85 : decode jdk_42_method_150_code 85 = .ok (.aload_n 3, 1) := by decide +kernel
theorem dSIA_86 : decode jdk_42_method_150_code 86 = .ok (.iconst 0, 1) := by decide +kernel
theorem dSIA_87 : decode jdk_42_method_150_code 87 = .ok (.iload 4, 2) := by decide +kernel
theorem dSIA_89 : decode jdk_42_method_150_code 89 = .ok (.iconst 1, 1) := by decide +kernel
theorem dSIA_90 : decode jdk_42_method_150_code 90 = .ok (.ishl, 1) := by decide +kernel
theorem dSIA_91 : decode jdk_42_method_150_code 91 = .ok (.invokestatic 54, 3) := by decide +kernel
theorem dSIA_94 : decode jdk_42_method_150_code 94 = .ok (.putfield 9, 3) := by decide +kernel
theorem dSIA_97 : decode jdk_42_method_150_code 97 = .ok (.return_, 1) := by decide +kernel
theorem pnSIA : plainFor (⟨"java/lang/String", "<init>", "(Ljava/lang/AbstractStringBuilder;Ljava/lang/Void;)V"⟩ : MethodName) = true := plainFor_of_name (by first | (simp [plainName, overriddenIn]; done) | decide +kernel)
set_option maxRecDepth 65536 in
set_option maxHeartbeats 40000000 in
theorem con_SIA (hw : ∀ d ∈ tables_1, d.before a0 Z = true) {cz : Int32} (hc : Compact Z cz) {us : List UInt16} {a b v : Addr} {C N : Nat} (B : SB Z h b v us C) (hN : 2 * us.length ≤ N) (hN2 : N ≤ 67108864) (E : Exa Z h a ST) (FV : Fld Z h a ST "value" "[B" .null) (FC : Fld Z h a ST "coder" "B" (.int 0)) (hm : a ∈ mine) (hab : a ≠ b) (hav : a ≠ v) :
    Con (⟨"java/lang/String", "<init>", "(Ljava/lang/AbstractStringBuilder;Ljava/lang/Void;)V"⟩ : MethodName) jdk_42_method_150_code 5 none { frames := 3, cells := 1, slots := N, locals := 50 } Z LT [] #[.ref a, .ref b, .null] h [a] mine (fun w h' nw => nw = [] ∧ w = none ∧ ∃ t, StrAt Z h' a t us ∧ t ∉ mine) := by
  obtain ⟨pad, B, hlen⟩ := B
  obtain ⟨Eb, Fv, Fc, Fn, M, A, X, nbv, hfx⟩ := B
  have hbl := byt_len us
  have ws : a ∈ [a] ∨ h.size ≤ a := Or.inl (List.mem_singleton.mpr rfl)
  have hal := A.len
  rw [List.length_append, hbl] at hal
  have sne : Jvm.RoadKit.slotOf Z ST "value" "[B" ≠ Jvm.RoadKit.slotOf Z ST "coder" "B" := slot_ne (Or.inr (hw _ (List.mem_of_getElem? (i := 21) rfl))) (Or.inr (hw _ (List.mem_of_getElem? (i := 22) rfl))) (by decide) (t := .array .byte) (t' := .byte) (by decide) (by decide)
  refine Con.of pnSIA (Ls := [.val (.ref a), .val (.ref b), .val .null, .unset, .unset]) (fun m => by first | (simp [entryFrame, mkF, argsToLocals, Value.category]; done) | (simp [entryFrame, mkF, argsToLocals, Value.category, maxLocals]; done) | rfl) ?_
  refine WP.know fun _ _ hmine => ?_
  refine WP.aloadN (pc' := 1) dSIA_0 rfl rfl rfl ?_
  refine WP.initObj (pc' := 4) (W := 0) dSIA_1 (hw _ (List.mem_of_getElem? (i := 16) rfl)) (hw _ (List.mem_of_getElem? (i := 17) rfl)) (hw _ (List.mem_of_getElem? (i := 18) rfl)) rfl (by first | exact Nat.le_of_ble_eq_true rfl | omega | (simp; done) | (simp; omega) | (dsimp only; omega)) (by first | exact Nat.le_of_ble_eq_true rfl | omega | (simp; done) | (simp; omega) | (dsimp only; omega)) (by first | exact Nat.le_of_ble_eq_true rfl | omega | (simp; done) | (simp; omega) | (dsimp only; omega)) rfl ?_
  refine WP.aloadN (pc' := 5) dSIA_4 rfl rfl rfl ?_
  refine WP.callV (pc' := 8) (con_GV hw Fv) Eb (hw _ (List.mem_of_getElem? (i := 112) rfl)) (hw _ (List.mem_of_getElem? (i := 113) rfl)) (fun s hs => notFace_of_selects (args := #[]) (mv hs (hw _ (List.mem_of_getElem? (i := 115) rfl)))) (hw _ (List.mem_of_getElem? (i := 115) rfl)) (hw _ (List.mem_of_getElem? (i := 114) rfl)) (hw _ (List.mem_of_getElem? (i := 75) rfl)) (hw _ (List.mem_of_getElem? (i := 116) rfl)) dSIA_5 (by decide) pdx26 rfl rfl rfl (by first | exact Nat.le_of_ble_eq_true rfl | omega | (simp; done) | (simp; omega) | (dsimp only; omega)) (by first | exact Nat.le_of_ble_eq_true rfl | omega | (simp; done) | (simp; omega) | (dsimp only; omega)) (by first | exact Nat.le_of_ble_eq_true rfl | omega | (simp; done) | (simp; omega) | (dsimp only; omega)) (by first | exact Nat.le_of_ble_eq_true rfl | omega | (simp; done) | (simp; omega) | (dsimp only; omega)) (fun _ hx => nomatch hx) rfl ?_
  rintro w h1 nw K hnw ⟨rfl, rfl, rfl⟩
  dsimp only [Option.toList, List.cons_append, List.nil_append]
  refine WP.astoreN (pc' := 9) dSIA_8 rfl rfl rfl rfl rfl ?_
  dsimp only [List.set]
  refine WP.aloadN (pc' := 10) dSIA_9 rfl rfl rfl ?_
  refine WP.callV (pc' := 13) (con_SLN hw Eb Fn) Eb (hw _ (List.mem_of_getElem? (i := 117) rfl)) (hw _ (List.mem_of_getElem? (i := 118) rfl)) (fun s hs => nf_ni (ni_sel (y := ({ cls := "java/lang/AbstractStringBuilder", name := "getValue", desc := "()[B" } : Jvm.MethodName)) (args := #[]) (mv hs (hw _ (List.mem_of_getElem? (i := 115) rfl))))) (hw _ (List.mem_of_getElem? (i := 120) rfl)) (hw _ (List.mem_of_getElem? (i := 121) rfl)) (hw _ (List.mem_of_getElem? (i := 56) rfl)) (hw _ (List.mem_of_getElem? (i := 122) rfl)) dSIA_10 (by decide) pdx25 rfl rfl rfl (by first | exact Nat.le_of_ble_eq_true rfl | omega | (simp; done) | (simp; omega) | (dsimp only; omega)) (by first | exact Nat.le_of_ble_eq_true rfl | omega | (simp; done) | (simp; omega) | (dsimp only; omega)) (by first | exact Nat.le_of_ble_eq_true rfl | omega | (simp; done) | (simp; omega) | (dsimp only; omega)) (by first | exact Nat.le_of_ble_eq_true rfl | omega | (simp; done) | (simp; omega) | (dsimp only; omega)) (fun _ hx => nomatch hx) rfl ?_
  rintro w h1 nw K hnw ⟨rfl, rfl, rfl⟩
  dsimp only [Option.toList, List.cons_append, List.nil_append]
  refine WP.istore (pc' := 15) dSIA_13 rfl rfl rfl ?_
  dsimp only [List.set]
  refine WP.aloadN (pc' := 16) dSIA_15 rfl rfl rfl ?_
  refine WP.callV (pc' := 19) (con_SBL hw hc Fc) Eb (hw _ (List.mem_of_getElem? (i := 128) rfl)) (hw _ (List.mem_of_getElem? (i := 129) rfl)) (fun s hs => notFace_of_selects (args := #[]) (mv hs (hw _ (List.mem_of_getElem? (i := 131) rfl)))) (hw _ (List.mem_of_getElem? (i := 131) rfl)) (hw _ (List.mem_of_getElem? (i := 130) rfl)) (hw _ (List.mem_of_getElem? (i := 75) rfl)) (hw _ (List.mem_of_getElem? (i := 132) rfl)) dSIA_16 (by decide) pdx13 rfl rfl rfl (by first | exact Nat.le_of_ble_eq_true rfl | omega | (simp; done) | (simp; omega) | (dsimp only; omega)) (by first | exact Nat.le_of_ble_eq_true rfl | omega | (simp; done) | (simp; omega) | (dsimp only; omega)) (by first | exact Nat.le_of_ble_eq_true rfl | omega | (simp; done) | (simp; omega) | (dsimp only; omega)) (by first | exact Nat.le_of_ble_eq_true rfl | omega | (simp; done) | (simp; omega) | (dsimp only; omega)) (fun _ hx => nomatch hx) rfl ?_
  rintro w h1 nw K hnw ⟨rfl, rfl, rfl⟩
  dsimp only [Option.toList, List.cons_append, List.nil_append]
  cases hl : lat us
  · have hw2 : wid us = 2 := by unfold wid; rw [hl]; rfl
    rw [cod_utf hl] at *
    rw [if_neg (by decide)]
    refine WP.ifT (pc' := 41) dSIA_19 (by decide) (by decide) rfl ?_
    refine WP.getstatic (pc' := 44) (host := "") dSIA_41 (Or.inl (hw _ (List.mem_of_getElem? (i := 67) rfl))) Via.refl hc.1 rfl ?_
    refine WP.ifF (pc' := 47) dSIA_44 rfl hc.2 ?_
    refine WP.aloadN (pc' := 48) dSIA_47 rfl rfl rfl ?_
    refine WP.getfield (pc' := 51) (host := "") dSIA_48 (Or.inl (hw _ (List.mem_of_getElem? (i := 296) rfl))) Via.refl M rfl ?_
    refine WP.ifT (pc' := 79) dSIA_51 (by decide) (by decide) rfl ?_
    refine WP.aloadN (pc' := 80) dSIA_79 rfl rfl rfl ?_
    refine WP.iconst (pc' := 81) (x := 1) dSIA_80 (by decide) rfl ?_
    refine WP.putfield (pc' := 84) (host := "") dSIA_81 (Or.inl (hw _ (List.mem_of_getElem? (i := 26) rfl))) Via.refl FC E (Or.inr ⟨(hw _ (List.mem_of_getElem? (i := 22) rfl)), rfl, rfl⟩) (hw _ (List.mem_of_getElem? (i := 6) rfl)) (ty := .byte) (by decide) rfl rfl hm ws rfl ?_
    intro h2 W2 G2 E2
    refine WP.aloadN (pc' := 85) dSIA_84 rfl rfl rfl ?_
    refine WP.aloadN (pc' := 86) dSIA_85 rfl rfl rfl ?_
    refine WP.iconst (pc' := 87) (x := 0) dSIA_86 (by decide) rfl ?_
    refine WP.iload (pc' := 89) dSIA_87 rfl rfl ?_
    refine WP.iconst (pc' := 90) (x := 1) dSIA_89 (by decide) rfl ?_
    refine WP.ishl (pc' := 91) dSIA_90 rfl ?_
    rw [n32_shl1 (by omega)]
    refine WP.callS (pc' := 94) (con_CRG hw (i := 0) (j := 2 * us.length) (N := N) (by omega) (by rw [List.length_append, hbl, hw2]; omega) (by omega) hN2 (A.other W2 (Ne.symm hav)) (X.wr W2) hfx) (hw _ (List.mem_of_getElem? (i := 133) rfl)) (hw _ (List.mem_of_getElem? (i := 134) rfl)) (hw _ (List.mem_of_getElem? (i := 135) rfl)) (hw _ (List.mem_of_getElem? (i := 136) rfl)) dSIA_91 (by decide) pdx18 rfl rfl rfl (by first | exact Nat.le_of_ble_eq_true rfl | omega | (simp; done) | (simp; omega) | (dsimp only; omega)) (by first | exact Nat.le_of_ble_eq_true rfl | omega | (simp; done) | (simp; omega) | (dsimp only; omega)) (by first | exact Nat.le_of_ble_eq_true rfl | omega | (simp; done) | (simp; omega) | (dsimp only; omega)) (by first | exact Nat.le_of_ble_eq_true rfl | omega | (simp; done) | (simp; omega) | (dsimp only; omega)) (fun _ hx => nomatch hx) rfl ?_
    rintro w h3 nw K3 hnw3 ⟨t, rfl, rfl, T, -⟩
    dsimp only [Option.toList, List.cons_append, List.nil_append]
    have ht := hnw3 t (by simp)
    have hta : t ≠ a := fun q => absurd E2.lt (Nat.not_lt.mpr (q ▸ ht))
    refine WP.putfield (pc' := 97) (host := "") dSIA_94 (Or.inl (hw _ (List.mem_of_getElem? (i := 25) rfl))) Via.refl ((FV.other W2 (Or.inr sne)).keep K3 nin0) (E2.keep K3) (Or.inr ⟨(hw _ (List.mem_of_getElem? (i := 21) rfl)), rfl, rfl⟩) (hw _ (List.mem_of_getElem? (i := 6) rfl)) (ty := (.array .byte)) (by decide) rfl rfl (List.mem_cons_of_mem _ hm) ws rfl ?_
    intro h4 W4 G4 E4
    have eT : ((byt us ++ pad).drop 0).take (2 * us.length - 0) = b16 us := by
      rw [List.drop_zero, Nat.sub_zero, byt_utf hl, List.take_append_of_le_length (by rw [b16_len]; exact Nat.le_refl _), List.take_of_length_le (by rw [b16_len]; exact Nat.le_refl _)]
    rw [eT] at T
    refine WP.vret (nw := []) dSIA_97 rfl ⟨rfl, rfl, t, ⟨E4, G4, Or.inr ⟨hl, (G2.keep K3 nin0).other W4 (Or.inr (Ne.symm sne)), T.other W4 hta⟩⟩, fun q => ?_⟩ (fun _ hx => nomatch hx) (fun x hx => List.mem_cons_of_mem _ hx) (by dsimp only; omega) (by dsimp only; omega)
    have hz : _ ≤ t := Nat.le_trans (Nat.le_of_eq W2.size.symm) ht
    exact absurd (hmine t q).2 (Nat.not_lt.mpr hz)
  · have hw2 : wid us = 1 := by unfold wid; rw [hl]; rfl
    rw [cod_lat hl] at *
    rw [if_pos rfl]
    refine WP.ifF (pc' := 22) dSIA_19 rfl (show ¬ (1 : Int32) = 0 by decide) ?_
    refine WP.aloadN (pc' := 23) dSIA_22 rfl rfl rfl ?_
    refine WP.iconst (pc' := 24) (x := 0) dSIA_23 (by decide) rfl ?_
    refine WP.putfield (pc' := 27) (host := "") dSIA_24 (Or.inl (hw _ (List.mem_of_getElem? (i := 26) rfl))) Via.refl FC E (Or.inr ⟨(hw _ (List.mem_of_getElem? (i := 22) rfl)), rfl, rfl⟩) (hw _ (List.mem_of_getElem? (i := 6) rfl)) (ty := .byte) (by decide) rfl rfl hm ws rfl ?_
    intro h2 W2 G2 E2
    refine WP.aloadN (pc' := 28) dSIA_27 rfl rfl rfl ?_
    refine WP.aloadN (pc' := 29) dSIA_28 rfl rfl rfl ?_
    refine WP.iconst (pc' := 30) (x := 0) dSIA_29 (by decide) rfl ?_
    refine WP.iload (pc' := 32) dSIA_30 rfl rfl ?_
    refine WP.callS (pc' := 35) (con_CRG hw (i := 0) (j := us.length) (N := N) (by omega) (by rw [List.length_append, hbl, hw2]; omega) (by omega) hN2 (A.other W2 (Ne.symm hav)) (X.wr W2) hfx) (hw _ (List.mem_of_getElem? (i := 133) rfl)) (hw _ (List.mem_of_getElem? (i := 134) rfl)) (hw _ (List.mem_of_getElem? (i := 135) rfl)) (hw _ (List.mem_of_getElem? (i := 136) rfl)) dSIA_32 (by decide) pdx18 rfl rfl rfl (by first | exact Nat.le_of_ble_eq_true rfl | omega | (simp; done) | (simp; omega) | (dsimp only; omega)) (by first | exact Nat.le_of_ble_eq_true rfl | omega | (simp; done) | (simp; omega) | (dsimp only; omega)) (by first | exact Nat.le_of_ble_eq_true rfl | omega | (simp; done) | (simp; omega) | (dsimp only; omega)) (by first | exact Nat.le_of_ble_eq_true rfl | omega | (simp; done) | (simp; omega) | (dsimp only; omega)) (fun _ hx => nomatch hx) rfl ?_
    rintro w h3 nw K3 hnw3 ⟨t, rfl, rfl, T, -⟩
    dsimp only [Option.toList, List.cons_append, List.nil_append]
    have ht := hnw3 t (by simp)
    have hta : t ≠ a := fun q => absurd E2.lt (Nat.not_lt.mpr (q ▸ ht))
    refine WP.putfield (pc' := 38) (host := "") dSIA_35 (Or.inl (hw _ (List.mem_of_getElem? (i := 25) rfl))) Via.refl ((FV.other W2 (Or.inr sne)).keep K3 nin0) (E2.keep K3) (Or.inr ⟨(hw _ (List.mem_of_getElem? (i := 21) rfl)), rfl, rfl⟩) (hw _ (List.mem_of_getElem? (i := 6) rfl)) (ty := (.array .byte)) (by decide) rfl rfl (List.mem_cons_of_mem _ hm) ws rfl ?_
    intro h4 W4 G4 E4
    refine WP.goto (pc' := 97) dSIA_38 (by decide) (by decide) ?_
    have eT : ((byt us ++ pad).drop 0).take (us.length - 0) = us.map lo8 := by
      rw [List.drop_zero, Nat.sub_zero, byt_lat hl, List.take_append_of_le_length (by simp), List.take_of_length_le (by simp)]
    rw [eT] at T
    refine WP.vret (nw := []) dSIA_97 rfl ⟨rfl, rfl, t, ⟨E4, G4, Or.inl ⟨hl, (G2.keep K3 nin0).other W4 (Or.inr (Ne.symm sne)), T.other W4 hta⟩⟩, fun q => ?_⟩ (fun _ hx => nomatch hx) (fun x hx => List.mem_cons_of_mem _ hx) (by dsimp only; omega) (by dsimp only; omega)
    have hz : _ ≤ t := Nat.le_trans (Nat.le_of_eq W2.size.symm) ht
    exact absurd (hmine t q).2 (Nat.not_lt.mpr hz)
theorem dSIS_0 : decode jdk_42_method_53_code 0 = .ok (.aload_n 0, 1) := by decide +kernel
theorem dSIS_1 : decode jdk_42_method_53_code 1 = .ok (.aload_n 1, 1) := by decide +kernel
theorem dSIS_2 : decode jdk_42_method_53_code 2 = .ok (.aconst_null, 1) := by decide +kernel
theorem dSIS_3 : decode jdk_42_method_53_code 3 = .ok (.invokespecial 489, 3) := by decide +kernel
theorem dSIS_6 : decode jdk_42_method_53_code 6 = .ok (.return_, 1) := by decide +kernel
theorem pnSIS : plainFor (⟨"java/lang/String", "<init>", "(Ljava/lang/StringBuilder;)V"⟩ : MethodName) = true := plainFor_of_name (by first | (simp [plainName, overriddenIn]; done) | decide +kernel)
set_option maxRecDepth 65536 in
set_option maxHeartbeats 40000000 in
theorem con_SIS (hw : ∀ d ∈ tables_1, d.before a0 Z = true) {cz : Int32} (hc : Compact Z cz) {us : List UInt16} {a b v : Addr} {C N : Nat} (B : SB Z h b v us C) (hN : 2 * us.length ≤ N) (hN2 : N ≤ 67108864) (E : Exa Z h a ST) (FV : Fld Z h a ST "value" "[B" .null) (FC : Fld Z h a ST "coder" "B" (.int 0)) (hm : a ∈ mine) (hab : a ≠ b) (hav : a ≠ v) :
    Con (⟨"java/lang/String", "<init>", "(Ljava/lang/StringBuilder;)V"⟩ : MethodName) jdk_42_method_53_code 2 none { frames := 4, cells := 1, slots := N, locals := 66 } Z LT [] #[.ref a, .ref b] h [a] mine (fun w h' nw => nw = [] ∧ w = none ∧ ∃ t, StrAt Z h' a t us ∧ t ∉ mine) := by
  refine Con.of pnSIS (Ls := [.val (.ref a), .val (.ref b)]) (fun m => by first | (simp [entryFrame, mkF, argsToLocals, Value.category]; done) | (simp [entryFrame, mkF, argsToLocals, Value.category, maxLocals]; done) | rfl) ?_
  refine WP.aloadN (pc' := 1) dSIS_0 rfl rfl rfl ?_
  refine WP.aloadN (pc' := 2) dSIS_1 rfl rfl rfl ?_
  refine WP.aconstNull (pc' := 3) dSIS_2 rfl ?_
  refine WP.callSp (pc' := 6) (con_SIA hw hc B hN hN2 E FV FC hm hab hav) rfl (hw _ (List.mem_of_getElem? (i := 109) rfl)) (hw _ (List.mem_of_getElem? (i := 110) rfl)) (hw _ (List.mem_of_getElem? (i := 7) rfl)) (hw _ (List.mem_of_getElem? (i := 111) rfl)) dSIS_3 (by decide) pdx27 rfl rfl rfl (by first | exact Nat.le_of_ble_eq_true rfl | omega | (simp; done) | (simp; omega) | (dsimp only; omega)) (by first | exact Nat.le_of_ble_eq_true rfl | omega | (simp; done) | (simp; omega) | (dsimp only; omega)) (by first | exact Nat.le_of_ble_eq_true rfl | omega | (simp; done) | (simp; omega) | (dsimp only; omega)) (by first | exact Nat.le_of_ble_eq_true rfl | omega | (simp; done) | (simp; omega) | (dsimp only; omega)) (fun x hx => Or.inl hx) rfl ?_
  rintro w h1 nw K hnw ⟨rfl, rfl, t, S, ht⟩
  dsimp only [Option.toList, List.nil_append]
  exact WP.vret dSIS_6 rfl ⟨rfl, rfl, t, S, ht⟩ (fun _ hx => nomatch hx) (fun x hx => hx) (by dsimp only; omega) (by dsimp only; omega)
theorem dTOS_0 : decode jdk_67_method_42_code 0 = .ok (.new 18, 3) := by decide +kernel
theorem dTOS_3 : decode jdk_67_method_42_code 3 = .ok (.dup, 1) := by decide +kernel
theorem dTOS_4 : decode jdk_67_method_42_code 4 = .ok (.aload_n 0, 1) := by decide +kernel
theorem dTOS_5 : decode jdk_67_method_42_code 5 = .ok (.invokespecial 137, 3) := by decide +kernel
theorem dTOS_8 : decode jdk_67_method_42_code 8 = .ok (.areturn, 1) := by decide +kernel
theorem pnTOS : plainFor (⟨"java/lang/StringBuilder", "toString", "()Ljava/lang/String;"⟩ : MethodName) = true := plainFor_of_name (by first | (simp [plainName, overriddenIn]; done) | decide +kernel)
set_option maxRecDepth 65536 in
set_option maxHeartbeats 40000000 in
theorem con_TOS (hw : ∀ d ∈ tables_1, d.before a0 Z = true) {cz : Int32} (hc : Compact Z cz) {us : List UInt16} {b v : Addr} {C N : Nat} (B : SB Z h b v us C) (hN : 2 * us.length ≤ N) (hN2 : N ≤ 67108864) :
    Con (⟨"java/lang/StringBuilder", "toString", "()Ljava/lang/String;"⟩ : MethodName) jdk_67_method_42_code 1 (some (.object "java/lang/String")) { frames := 5, cells := 2, slots := N + 4, locals := 80 } Z LT [] #[.ref b] h [] mine (fun w h' nw => nw = [] ∧ ∃ r, w = some (.ref r) ∧ FStr Z h' mine r us) := by
  refine Con.of pnTOS (Ls := [.val (.ref b)]) (fun m => by first | (simp [entryFrame, mkF, argsToLocals, Value.category]; done) | (simp [entryFrame, mkF, argsToLocals, Value.category, maxLocals]; done) | rfl) ?_
  refine WP.new (pc' := 3) dTOS_0 (hw _ (List.mem_of_getElem? (i := 105) rfl)) (hw _ (List.mem_of_getElem? (i := 6) rfl)) (hw _ (List.mem_of_getElem? (i := 7) rfl)) (by first | exact Nat.le_of_ble_eq_true rfl | omega | (simp; done) | (simp; omega) | (dsimp only; omega)) (by first | exact Nat.le_of_ble_eq_true rfl | omega | (simp; done) | (simp; omega) | (dsimp only; omega)) rfl ?_
  intro h1 a ea na ma E1 X D
  have V : Fld Z h1 a ST "value" "[B" .null := D (Or.inr (hw _ (List.mem_of_getElem? (i := 21) rfl))) (ty := .array .byte) (by decide)
  have C0 : Fld Z h1 a ST "coder" "B" (.int 0) := D (Or.inr (hw _ (List.mem_of_getElem? (i := 22) rfl))) (ty := .byte) (by decide)
  obtain ⟨pad, B, hlen⟩ := B
  have hab : a ≠ b := fun q => absurd B.1.lt (Nat.not_lt.mpr (by rw [← q, ea]; exact Nat.le_refl _))
  have hav : a ≠ v := fun q => absurd B.2.2.2.2.2.1.lt (Nat.not_lt.mpr (by rw [← q, ea]; exact Nat.le_refl _))
  have B1 : SB Z h1 b v us C := ⟨pad, ⟨B.1.ext E1, B.2.1.ext E1, B.2.2.1.ext E1, B.2.2.2.1.ext E1, B.2.2.2.2.1.ext E1, B.2.2.2.2.2.1.ext E1, B.2.2.2.2.2.2.1.ext E1, B.2.2.2.2.2.2.2⟩, hlen⟩
  refine WP.dup (pc' := 4) dTOS_3 rfl rfl ?_
  refine WP.aloadN (pc' := 5) dTOS_4 rfl rfl rfl ?_
  refine WP.callSp (pc' := 8) (con_SIS hw hc B1 hN hN2 X V C0 (List.mem_cons_self ..) hab hav) rfl (hw _ (List.mem_of_getElem? (i := 106) rfl)) (hw _ (List.mem_of_getElem? (i := 107) rfl)) (hw _ (List.mem_of_getElem? (i := 7) rfl)) (hw _ (List.mem_of_getElem? (i := 108) rfl)) dTOS_5 (by decide) pdx28 rfl rfl rfl (by first | exact Nat.le_of_ble_eq_true rfl | omega | (simp; done) | (simp; omega) | (dsimp only; omega)) (by first | exact Nat.le_of_ble_eq_true rfl | omega | (simp; done) | (simp; omega) | (dsimp only; omega)) (by first | exact Nat.le_of_ble_eq_true rfl | omega | (simp; done) | (simp; omega) | (dsimp only; omega)) (by first | exact Nat.le_of_ble_eq_true rfl | omega | (simp; done) | (simp; omega) | (dsimp only; omega)) (fun x hx => by cases List.mem_singleton.mp hx; exact Or.inr ma) rfl ?_
  rintro w h3 nw K3 hnw3 ⟨rfl, rfl, t, S, ht⟩
  dsimp only [Option.toList, List.cons_append, List.nil_append]
  exact WP.areturn dTOS_8 rfl rfl rfl ⟨rfl, a, rfl, t, S, na, fun q => ht (List.mem_cons_of_mem _ q)⟩ (fun _ hx => nomatch hx) (fun x hx => List.mem_cons_of_mem _ hx) (by dsimp only; omega) (by dsimp only; omega)
theorem dLTC_0 : decode jdk_43_method_9_code 0 = .ok (.aload_n 0, 1) := by decide +kernel
theorem dLTC_1 : decode jdk_43_method_9_code 1 = .ok (.arraylength, 1) := by decide +kernel
theorem dLTC_2 : decode jdk_43_method_9_code 2 = .ok (.newarray .char, 2) := by decide +kernel
theorem dLTC_4 : decode jdk_43_method_9_code 4 = .ok (.astore_n 1, 1) := by decide +kernel
theorem dLTC_5 : decode jdk_43_method_9_code 5 = .ok (.aload_n 0, 1) := by decide +kernel
theorem dLTC_6 : decode jdk_43_method_9_code 6 = .ok (.iconst 0, 1) := by decide +kernel
theorem dLTC_7 : decode jdk_43_method_9_code 7 = .ok (.aload_n 1, 1) := by decide +kernel
theorem dLTC_8 : decode jdk_43_method_9_code 8 = .ok (.iconst 0, 1) := by decide +kernel
theorem dLTC_9 : decode jdk_43_method_9_code 9 = .ok (.aload_n 0, 1) := by decide +kernel
theorem dLTC_10 : decode jdk_43_method_9_code 10 = .ok (.arraylength, 1) := by decide +kernel
theorem dLTC_11 : decode jdk_43_method_9_code 11 = .ok (.invokestatic 13, 3) := by decide +kernel
theorem dLTC_14 : decode jdk_43_method_9_code 14 = .ok (.aload_n 1, 1) := by decide +kernel
theorem dLTC_15 : decode jdk_43_method_9_code 15 = .ok (.areturn, 1) := by decide +kernel
theorem pnLTC : plainFor (⟨"java/lang/StringLatin1", "toChars", "([B)[C"⟩ : MethodName) = true := plainFor_of_name (by first | (simp [plainName, overriddenIn]; done) | decide +kernel)
set_option maxRecDepth 65536 in
set_option maxHeartbeats 40000000 in
theorem con_LTC (hw : ∀ d ∈ tables_1, d.before a0 Z = true) {us : List UInt16} {t : Addr} {N : Nat} (hlat : lat us = true) (hN : us.length ≤ N) (hN2 : N ≤ 67108864) (T : ArI Z h t .byte (us.map lo8)) : Con (⟨"java/lang/StringLatin1", "toChars", "([B)[C"⟩ : MethodName) jdk_43_method_9_code 2 (some (.array .char)) { frames := 1, cells := 1, slots := N, locals := 17 } Z LT [] #[.ref t] h [] mine (fun w h' nw => ∃ d, nw = [d] ∧ w = some (.ref d) ∧ ArI Z h' d .char (us.map chv)) := by
  refine Con.of pnLTC (Ls := [.val (.ref t), .unset]) (fun m => by first | (simp [entryFrame, mkF, argsToLocals, Value.category]; done) | (simp [entryFrame, mkF, argsToLocals, Value.category, maxLocals]; done) | rfl) ?_
  refine WP.aloadN (pc' := 1) dLTC_0 rfl rfl rfl ?_
  refine WP.arraylength (pc' := 2) dLTC_1 T (n := Int32.ofNat us.length) (by simp) rfl ?_
  refine WP.newarray (pc' := 4) (N := us.length) dLTC_2 (hw _ (List.mem_of_getElem? (i := 8) rfl)) rfl (n32_toInt (by omega)) (by first | exact Nat.le_of_ble_eq_true rfl | omega | (simp; done) | (simp; omega) | (dsimp only; omega)) (by first | exact Nat.le_of_ble_eq_true rfl | omega | (simp; done) | (simp; omega) | (dsimp only; omega)) (by first | exact Nat.le_of_ble_eq_true rfl | omega | (simp; done) | (simp; omega) | (dsimp only; omega)) rfl ?_
  intro h1 d ed nd md E1 D
  refine WP.astoreN (pc' := 5) dLTC_4 rfl rfl rfl rfl rfl ?_
  dsimp only [List.set]
  refine WP.aloadN (pc' := 6) dLTC_5 rfl rfl rfl ?_
  refine WP.iconst (pc' := 7) (x := 0) dLTC_6 (by decide) rfl ?_
  refine WP.aloadN (pc' := 8) dLTC_7 rfl rfl rfl ?_
  refine WP.iconst (pc' := 9) (x := 0) dLTC_8 (by decide) rfl ?_
  refine WP.aloadN (pc' := 10) dLTC_9 rfl rfl rfl ?_
  refine WP.arraylength (pc' := 11) dLTC_10 (T.ext E1) (n := Int32.ofNat us.length) (by simp) rfl ?_
  refine WP.callS (pc' := 14) (con_INF (k := 0) hlat (by simp) (List.mem_cons_self ..) (T.ext E1) D) (hw _ (List.mem_of_getElem? (i := 97) rfl)) (hw _ (List.mem_of_getElem? (i := 98) rfl)) (hw _ (List.mem_of_getElem? (i := 95) rfl)) (hw _ (List.mem_of_getElem? (i := 99) rfl)) dLTC_11 (by decide) pdx29 rfl rfl rfl (by first | exact Nat.le_of_ble_eq_true rfl | omega | (simp; done) | (simp; omega) | (dsimp only; omega)) (by first | exact Nat.le_of_ble_eq_true rfl | omega | (simp; done) | (simp; omega) | (dsimp only; omega)) (by first | exact Nat.le_of_ble_eq_true rfl | omega | (simp; done) | (simp; omega) | (dsimp only; omega)) (by first | exact Nat.le_of_ble_eq_true rfl | omega | (simp; done) | (simp; omega) | (dsimp only; omega)) (fun x hx => by cases List.mem_singleton.mp hx; exact Or.inr md) rfl ?_
  rintro w h2 nw K hnw ⟨rfl, rfl, D2⟩
  dsimp only [Option.toList, List.nil_append]
  have e : ovr (List.replicate us.length 0) 0 us = us.map chv := by simp [ovr]
  rw [e] at D2
  refine WP.aloadN (pc' := 15) dLTC_14 rfl rfl rfl ?_
  refine WP.areturn (nw := [d]) dLTC_15 rfl rfl rfl ⟨d, rfl, rfl, D2⟩ (fun x hx => ?_) (fun x hx => List.mem_cons_of_mem _ hx) (by dsimp only; omega) (by dsimp only; omega)
  cases List.mem_singleton.mp hx; exact ⟨List.mem_cons_self .., md⟩
theorem dUTC_0 : decode jdk_52_method_13_code 0 = .ok (.aload_n 0, 1) := by decide +kernel
theorem dUTC_1 : decode jdk_52_method_13_code 1 = .ok (.arraylength, 1) := by decide +kernel
theorem dUTC_2 : decode jdk_52_method_13_code 2 = .ok (.iconst 1, 1) := by decide +kernel
theorem dUTC_3 : decode jdk_52_method_13_code 3 = .ok (.ishr, 1) := by decide +kernel
theorem dUTC_4 : decode jdk_52_method_13_code 4 = .ok (.newarray .char, 2) := by decide +kernel
theorem dUTC_6 : decode jdk_52_method_13_code 6 = .ok (.astore_n 1, 1) := by decide +kernel
theorem dUTC_7 : decode jdk_52_method_13_code 7 = .ok (.aload_n 0, 1) := by decide +kernel
theorem dUTC_8 : decode jdk_52_method_13_code 8 = .ok (.iconst 0, 1) := by decide +kernel
theorem dUTC_9 : decode jdk_52_method_13_code 9 = .ok (.aload_n 1, 1) := by decide +kernel
theorem dUTC_10 : decode jdk_52_method_13_code 10 = .ok (.arraylength, 1) := by decide +kernel
theorem dUTC_11 : decode jdk_52_method_13_code 11 = .ok (.aload_n 1, 1) := by decide +kernel
theorem dUTC_12 : decode jdk_52_method_13_code 12 = .ok (.iconst 0, 1) := by decide +kernel
theorem dUTC_13 : decode jdk_52_method_13_code 13 = .ok (.invokestatic 103, 3) := by decide +kernel
theorem dUTC_16 : decode jdk_52_method_13_code 16 = .ok (.aload_n 1, 1) := by decide +kernel
theorem dUTC_17 : decode jdk_52_method_13_code 17 = .ok (.areturn, 1) := by decide +kernel
theorem pnUTC : plainFor (⟨"java/lang/StringUTF16", "toChars", "([B)[C"⟩ : MethodName) = true := plainFor_of_name (by first | (simp [plainName, overriddenIn]; done) | decide +kernel)
set_option maxRecDepth 65536 in
set_option maxHeartbeats 40000000 in
theorem con_UTC (hw : ∀ d ∈ tables_1, d.before a0 Z = true) (hu16 : U16 Z) {vf : Value} (hf : Fmt Z vf) {us : List UInt16} {t : Addr} {N : Nat} (hpos : 0 < us.length) (hN : us.length ≤ N) (hN2 : N ≤ 67108864) (T : ArI Z h t .byte (b16 us)) : Con (⟨"java/lang/StringUTF16", "toChars", "([B)[C"⟩ : MethodName) jdk_52_method_13_code 2 (some (.array .char)) { frames := 4, cells := 1, slots := N, locals := 60 } Z LT [] #[.ref t] h [] mine (fun w h' nw => ∃ d, nw = [d] ∧ w = some (.ref d) ∧ ArI Z h' d .char (us.map chv)) := by
  have hl := T.len
  rw [b16_len] at hl
  refine Con.of pnUTC (Ls := [.val (.ref t), .unset]) (fun m => by first | (simp [entryFrame, mkF, argsToLocals, Value.category]; done) | (simp [entryFrame, mkF, argsToLocals, Value.category, maxLocals]; done) | rfl) ?_
  refine WP.aloadN (pc' := 1) dUTC_0 rfl rfl rfl ?_
  refine WP.arraylength (pc' := 2) dUTC_1 T (n := Int32.ofNat (2 * us.length)) (by rw [b16_len]) rfl ?_
  refine WP.iconst (pc' := 3) (x := 1) dUTC_2 (by decide) rfl ?_
  refine WP.ishr (pc' := 4) dUTC_3 rfl ?_
  rw [n32_half (by omega)]
  refine WP.newarray (pc' := 6) (N := us.length) dUTC_4 (hw _ (List.mem_of_getElem? (i := 8) rfl)) rfl (n32_toInt (by omega)) (by first | exact Nat.le_of_ble_eq_true rfl | omega | (simp; done) | (simp; omega) | (dsimp only; omega)) (by first | exact Nat.le_of_ble_eq_true rfl | omega | (simp; done) | (simp; omega) | (dsimp only; omega)) (by first | exact Nat.le_of_ble_eq_true rfl | omega | (simp; done) | (simp; omega) | (dsimp only; omega)) rfl ?_
  intro h1 d ed nd md E1 D
  refine WP.astoreN (pc' := 7) dUTC_6 rfl rfl rfl rfl rfl ?_
  dsimp only [List.set]
  refine WP.aloadN (pc' := 8) dUTC_7 rfl rfl rfl ?_
  refine WP.iconst (pc' := 9) (x := 0) dUTC_8 (by decide) rfl ?_
  refine WP.aloadN (pc' := 10) dUTC_9 rfl rfl rfl ?_
  refine WP.arraylength (pc' := 11) dUTC_10 D (n := Int32.ofNat us.length) (by simp) rfl ?_
  refine WP.aloadN (pc' := 12) dUTC_11 rfl rfl rfl ?_
  refine WP.iconst (pc' := 13) (x := 0) dUTC_12 (by decide) rfl ?_
  refine WP.callS (pc' := 16) (con_UGC hw hu16 hf (k := 0) hpos (by simp) (List.mem_cons_self ..) (T.ext E1) D) (hw _ (List.mem_of_getElem? (i := 262) rfl)) (hw _ (List.mem_of_getElem? (i := 263) rfl)) (hw _ (List.mem_of_getElem? (i := 152) rfl)) (hw _ (List.mem_of_getElem? (i := 264) rfl)) dUTC_13 (by decide) pdx30 rfl rfl rfl (by first | exact Nat.le_of_ble_eq_true rfl | omega | (simp; done) | (simp; omega) | (dsimp only; omega)) (by first | exact Nat.le_of_ble_eq_true rfl | omega | (simp; done) | (simp; omega) | (dsimp only; omega)) (by first | exact Nat.le_of_ble_eq_true rfl | omega | (simp; done) | (simp; omega) | (dsimp only; omega)) (by first | exact Nat.le_of_ble_eq_true rfl | omega | (simp; done) | (simp; omega) | (dsimp only; omega)) (fun x hx => by cases List.mem_singleton.mp hx; exact Or.inr md) rfl ?_
  rintro w h2 nw K hnw ⟨rfl, rfl, D2⟩
  dsimp only [Option.toList, List.nil_append]
  have e : ovr (List.replicate us.length 0) 0 us = us.map chv := by simp [ovr]
  rw [e] at D2
  refine WP.aloadN (pc' := 17) dUTC_16 rfl rfl rfl ?_
  refine WP.areturn (nw := [d]) dUTC_17 rfl rfl rfl ⟨d, rfl, rfl, D2⟩ (fun x hx => ?_) (fun x hx => List.mem_cons_of_mem _ hx) (by dsimp only; omega) (by dsimp only; omega)
  cases List.mem_singleton.mp hx; exact ⟨List.mem_cons_self .., md⟩
theorem dTCA_0 : decode jdk_42_method_129_code 0 = .ok (.aload_n 0, 1) := by decide +kernel
theorem dTCA_1 : decode jdk_42_method_129_code 1 = .ok (.invokevirtual 492, 3) := by decide +kernel
theorem dTCA_4 : decode jdk_42_method_129_code 4 = .ok (.ifCond .eq 13, 3) := by decide +kernel
theorem dTCA_7 : decode jdk_42_method_129_code 7 = .ok (.aload_n 0, 1) := by decide +kernel
theorem dTCA_8 : decode jdk_42_method_129_code 8 = .ok (.getfield 9, 3) := by decide +kernel
theorem dTCA_11 : decode jdk_42_method_129_code 11 = .ok (.invokestatic 299, 3) := by decide +kernel
theorem dTCA_14 : decode jdk_42_method_129_code 14 = .ok (.goto 10, 3) := by decide +kernel
theorem dTCA_17 : decode jdk_42_method_129_code 17 = .ok (.aload_n 0, 1) := by decide +kernel
theorem dTCA_18 : decode jdk_42_method_129_code 18 = .ok (.getfield 9, 3) := by decide +kernel
theorem dTCA_21 : decode jdk_42_method_129_code 21 = .ok (.invokestatic 303, 3) := by decide +kernel
theorem dTCA_24 : decode jdk_42_method_129_code 24 = .ok (.areturn, 1) := by decide +kernel
theorem pnTCA : plainFor (⟨"java/lang/String", "toCharArray", "()[C"⟩ : MethodName) = true := plainFor_of_name (by first | (simp [plainName, overriddenIn]; done) | decide +kernel)
set_option maxRecDepth 65536 in
set_option maxHeartbeats 40000000 in
theorem con_TCA (hw : ∀ d ∈ tables_1, d.before a0 Z = true) {cz : Int32} (hc : Compact Z cz) (hu16 : U16 Z) {vf : Value} (hf : Fmt Z vf) {us : List UInt16} {a t : Addr} {N : Nat} (hN : us.length ≤ N) (hN2 : N ≤ 67108864) (S : StrAt Z h a t us) : Con (⟨"java/lang/String", "toCharArray", "()[C"⟩ : MethodName) jdk_42_method_129_code 1 (some (.array .char)) { frames := 5, cells := 1, slots := N, locals := 73 } Z LT [] #[.ref a] h [] mine (fun w h' nw => ∃ d, nw = [d] ∧ w = some (.ref d) ∧ ArI Z h' d .char (us.map chv)) := by
  obtain ⟨e1, v1, c1, b1⟩ := S.open
  refine Con.of pnTCA (Ls := [.val (.ref a)]) (fun m => by first | (simp [entryFrame, mkF, argsToLocals, Value.category]; done) | (simp [entryFrame, mkF, argsToLocals, Value.category, maxLocals]; done) | rfl) ?_
  refine WP.aloadN (pc' := 1) dTCA_0 rfl rfl rfl ?_
  refine WP.callV (pc' := 4) (con_IL hw hc S) e1 (hw _ (List.mem_of_getElem? (i := 88) rfl)) (hw _ (List.mem_of_getElem? (i := 89) rfl)) (fun s hs => notFace_of_selects (args := #[]) (mv hs (hw _ (List.mem_of_getElem? (i := 91) rfl)))) (hw _ (List.mem_of_getElem? (i := 91) rfl)) (hw _ (List.mem_of_getElem? (i := 90) rfl)) (hw _ (List.mem_of_getElem? (i := 7) rfl)) (hw _ (List.mem_of_getElem? (i := 92) rfl)) dTCA_1 (by decide) pdx13 rfl rfl rfl (by first | exact Nat.le_of_ble_eq_true rfl | omega | (simp; done) | (simp; omega) | (dsimp only; omega)) (by first | exact Nat.le_of_ble_eq_true rfl | omega | (simp; done) | (simp; omega) | (dsimp only; omega)) (by first | exact Nat.le_of_ble_eq_true rfl | omega | (simp; done) | (simp; omega) | (dsimp only; omega)) (by first | exact Nat.le_of_ble_eq_true rfl | omega | (simp; done) | (simp; omega) | (dsimp only; omega)) (fun _ hx => nomatch hx) rfl ?_
  rintro w h1 nw K hnw ⟨rfl, rfl, rfl⟩
  dsimp only [Option.toList, List.cons_append, List.nil_append]
  cases hl : lat us
  · rw [if_neg (by decide)]
    rw [byt_utf hl] at b1
    have hpos : 0 < us.length := by
      rcases us with _ | ⟨u, us⟩
      · cases hl
      · simp
    refine WP.ifT (pc' := 17) dTCA_4 (by decide) (by decide) rfl ?_
    refine WP.aloadN (pc' := 18) dTCA_17 rfl rfl rfl ?_
    refine WP.getfield (pc' := 21) (host := "") dTCA_18 (Or.inl (hw _ (List.mem_of_getElem? (i := 25) rfl))) Via.refl v1 rfl ?_
    refine WP.callS (pc' := 24) (con_UTC hw hu16 hf hpos hN hN2 b1) (hw _ (List.mem_of_getElem? (i := 259) rfl)) (hw _ (List.mem_of_getElem? (i := 260) rfl)) (hw _ (List.mem_of_getElem? (i := 152) rfl)) (hw _ (List.mem_of_getElem? (i := 261) rfl)) dTCA_21 (by decide) pdx31 rfl rfl rfl (by first | exact Nat.le_of_ble_eq_true rfl | omega | (simp; done) | (simp; omega) | (dsimp only; omega)) (by first | exact Nat.le_of_ble_eq_true rfl | omega | (simp; done) | (simp; omega) | (dsimp only; omega)) (by first | exact Nat.le_of_ble_eq_true rfl | omega | (simp; done) | (simp; omega) | (dsimp only; omega)) (by first | exact Nat.le_of_ble_eq_true rfl | omega | (simp; done) | (simp; omega) | (dsimp only; omega)) (fun _ hx => nomatch hx) rfl ?_
    rintro w h2 nw K2 hnw2 ⟨d, rfl, rfl, D⟩
    dsimp only [Option.toList, List.cons_append, List.nil_append]
    refine WP.areturn (nw := [d]) dTCA_24 rfl rfl rfl ⟨d, rfl, rfl, D⟩ (fun x hx => ?_) (fun x hx => List.mem_cons_of_mem _ hx) (by dsimp only; omega) (by dsimp only; omega)
    cases List.mem_singleton.mp hx; exact ⟨List.mem_cons_self .., hnw2 _ (by simp)⟩
  · rw [if_pos rfl]
    rw [byt_lat hl] at b1
    refine WP.ifF (pc' := 7) dTCA_4 rfl (show ¬ (1 : Int32) = 0 by decide) ?_
    refine WP.aloadN (pc' := 8) dTCA_7 rfl rfl rfl ?_
    refine WP.getfield (pc' := 11) (host := "") dTCA_8 (Or.inl (hw _ (List.mem_of_getElem? (i := 25) rfl))) Via.refl v1 rfl ?_
    refine WP.callS (pc' := 14) (con_LTC hw hl hN hN2 b1) (hw _ (List.mem_of_getElem? (i := 93) rfl)) (hw _ (List.mem_of_getElem? (i := 94) rfl)) (hw _ (List.mem_of_getElem? (i := 95) rfl)) (hw _ (List.mem_of_getElem? (i := 96) rfl)) dTCA_11 (by decide) pdx31 rfl rfl rfl (by first | exact Nat.le_of_ble_eq_true rfl | omega | (simp; done) | (simp; omega) | (dsimp only; omega)) (by first | exact Nat.le_of_ble_eq_true rfl | omega | (simp; done) | (simp; omega) | (dsimp only; omega)) (by first | exact Nat.le_of_ble_eq_true rfl | omega | (simp; done) | (simp; omega) | (dsimp only; omega)) (by first | exact Nat.le_of_ble_eq_true rfl | omega | (simp; done) | (simp; omega) | (dsimp only; omega)) (fun _ hx => nomatch hx) rfl ?_
    rintro w h2 nw K2 hnw2 ⟨d, rfl, rfl, D⟩
    dsimp only [Option.toList, List.cons_append, List.nil_append]
    refine WP.goto (pc' := 24) dTCA_14 (by decide) (by decide) ?_
    refine WP.areturn (nw := [d]) dTCA_24 rfl rfl rfl ⟨d, rfl, rfl, D⟩ (fun x hx => ?_) (fun x hx => List.mem_cons_of_mem _ hx) (by dsimp only; omega) (by dsimp only; omega)
    cases List.mem_singleton.mp hx; exact ⟨List.mem_cons_self .., hnw2 _ (by simp)⟩
end JdkSb4
end Jvm.Pilot.@@N@@

namespace Jvm.Pilot.@@N@@
open Jvm Jvm.ClassFile Sem Op Lib Jvm.Free Jvm.Stand Jvm.LawKit Jvm.RoadKit Bundle Jvm.Pilot.@@N@@.Jvm.D Jvm.OwnW
theorem pdx32 : parseMethodDescriptor "()[C" = some ⟨[], some (.array .char)⟩ := by decide +kernel
theorem pdx33 : parseMethodDescriptor "(C)C" = some ⟨[.char], some .char⟩ := by decide +kernel
section Delim
variable {Z : State} {a0 : Array Value} {h : Heap} {mine : List Addr}
abbrev DEL : String := "com/example/causeway_health/causewayhealth/convert/Delimiters"
theorem dREC_0 : decode jdk_30_method_1_code 0 = .ok (.aload_n 0, 1) := by decide +kernel
theorem dREC_1 : decode jdk_30_method_1_code 1 = .ok (.invokespecial 1, 3) := by decide +kernel
theorem dREC_4 : decode jdk_30_method_1_code 4 = .ok (.return_, 1) := by decide +kernel
theorem pnREC : plainFor (⟨"java/lang/Record", "<init>", "()V"⟩ : MethodName) = true := plainFor_of_name (by first | (simp [plainName, overriddenIn]; done) | decide +kernel)
set_option maxRecDepth 65536 in
set_option maxHeartbeats 40000000 in
theorem con_REC (hw : ∀ d ∈ tables_1, d.before a0 Z = true) {a : Addr} : Con (⟨"java/lang/Record", "<init>", "()V"⟩ : MethodName) jdk_30_method_1_code 1 none { frames := 1, cells := 0, slots := 0, locals := 12 } Z LT [] #[.ref a] h [] mine (fun v h' nw => nw = [] ∧ v = none ∧ h' = h) := by
  refine Con.of pnREC (Ls := [.val (.ref a)]) (fun m => by first | (simp [entryFrame, mkF, argsToLocals, Value.category]; done) | (simp [entryFrame, mkF, argsToLocals, Value.category, maxLocals]; done) | rfl) ?_
  refine WP.aloadN (pc' := 1) dREC_0 rfl rfl rfl ?_
  refine WP.initObj (pc' := 4) (W := 0) dREC_1 (hw _ (List.mem_of_getElem? (i := 38) rfl)) (hw _ (List.mem_of_getElem? (i := 17) rfl)) (hw _ (List.mem_of_getElem? (i := 18) rfl)) rfl (by first | exact Nat.le_of_ble_eq_true rfl | omega | (simp; done) | (simp; omega) | (dsimp only; omega)) (by first | exact Nat.le_of_ble_eq_true rfl | omega | (simp; done) | (simp; omega) | (dsimp only; omega)) (by first | exact Nat.le_of_ble_eq_true rfl | omega | (simp; done) | (simp; omega) | (dsimp only; omega)) rfl ?_
  exact WP.vret dREC_4 rfl ⟨rfl, rfl, rfl⟩ (fun _ hx => nomatch hx) (fun _ hx => hx) (by first | exact Nat.le_of_ble_eq_true rfl | omega) (by first | exact Nat.le_of_ble_eq_true rfl | omega)
/-- the five delimiters -/
def DL (Z : State) (h : Heap) (d : Addr) (f s r e t : UInt16) : Prop := Exa Z h d DEL ∧ Fld Z h d DEL "field" "C" (.int (chv f)) ∧ Fld Z h d DEL "component" "C" (.int (chv s)) ∧ Fld Z h d DEL "repetition" "C" (.int (chv r)) ∧ Fld Z h d DEL "escape" "C" (.int (chv e)) ∧ Fld Z h d DEL "subcomponent" "C" (.int (chv t))
theorem DL.keep {h' : Heap} {d : Addr} {f s r e t : UInt16} {ws : List Addr} (D : DL Z h d f s r e t) (K : Keep h h' ws) (q : d ∉ ws) : DL Z h' d f s r e t := ⟨D.1.keep K, D.2.1.keep K q, D.2.2.1.keep K q, D.2.2.2.1.keep K q, D.2.2.2.2.1.keep K q, D.2.2.2.2.2.keep K q⟩
theorem DL.ext {h' : Heap} {d : Addr} {f s r e t : UInt16} (D : DL Z h d f s r e t) (E : Ext h h') : DL Z h' d f s r e t := ⟨D.1.ext E, D.2.1.ext E, D.2.2.1.ext E, D.2.2.2.1.ext E, D.2.2.2.2.1.ext E, D.2.2.2.2.2.ext E⟩
theorem dDLI_0 : decode prog_18_method_1_code 0 = .ok (.aload_n 0, 1) := by decide +kernel
theorem dDLI_1 : decode prog_18_method_1_code 1 = .ok (.invokespecial 1, 3) := by decide +kernel
theorem dDLI_4 : decode prog_18_method_1_code 4 = .ok (.aload_n 0, 1) := by decide +kernel
theorem dDLI_5 : decode prog_18_method_1_code 5 = .ok (.iload_n 1, 1) := by decide +kernel
theorem dDLI_6 : decode prog_18_method_1_code 6 = .ok (.putfield 7, 3) := by decide +kernel
theorem dDLI_9 : decode prog_18_method_1_code 9 = .ok (.aload_n 0, 1) := by decide +kernel
theorem dDLI_10 : decode prog_18_method_1_code 10 = .ok (.iload_n 2, 1) := by decide +kernel
theorem dDLI_11 : decode prog_18_method_1_code 11 = .ok (.putfield 13, 3) := by decide +kernel
theorem dDLI_14 : decode prog_18_method_1_code 14 = .ok (.aload_n 0, 1) := by decide +kernel
theorem dDLI_15 : decode prog_18_method_1_code 15 = .ok (.iload_n 3, 1) := by decide +kernel
theorem dDLI_16 : decode prog_18_method_1_code 16 = .ok (.putfield 16, 3) := by decide +kernel
theorem dDLI_19 : decode prog_18_method_1_code 19 = .ok (.aload_n 0, 1) := by decide +kernel
theorem dDLI_20 : decode prog_18_method_1_code 20 = .ok (.iload 4, 2) := by decide +kernel
theorem dDLI_22 : decode prog_18_method_1_code 22 = .ok (.putfield 19, 3) := by decide +kernel
theorem dDLI_25 : decode prog_18_method_1_code 25 = .ok (.aload_n 0, 1) := by decide +kernel
theorem dDLI_26 : decode prog_18_method_1_code 26 = .ok (.iload 5, 2) := by decide +kernel
theorem dDLI_28 : decode prog_18_method_1_code 28 = .ok (.putfield 22, 3) := by decide +kernel
theorem dDLI_31 : decode prog_18_method_1_code 31 = .ok (.return_, 1) := by decide +kernel
theorem pnDLI : plainFor (⟨"com/example/causeway_health/causewayhealth/convert/Delimiters", "<init>", "(CCCCC)V"⟩ : MethodName) = true := plainFor_of_name (by first | (simp [plainName, overriddenIn]; done) | decide +kernel)
set_option maxRecDepth 65536 in
set_option maxHeartbeats 40000000 in
theorem con_DLI (hw : ∀ d ∈ tables_1, d.before a0 Z = true) {a : Addr} {f s r e t : UInt16} (E : Exa Z h a DEL) (F1 : Fld Z h a DEL "field" "C" (.int 0)) (F2 : Fld Z h a DEL "component" "C" (.int 0)) (F3 : Fld Z h a DEL "repetition" "C" (.int 0)) (F4 : Fld Z h a DEL "escape" "C" (.int 0)) (F5 : Fld Z h a DEL "subcomponent" "C" (.int 0)) (hm : a ∈ mine) :
    Con (⟨"com/example/causeway_health/causewayhealth/convert/Delimiters", "<init>", "(CCCCC)V"⟩ : MethodName) prog_18_method_1_code 6 none { frames := 2, cells := 0, slots := 0, locals := 24 } Z LT [] #[.ref a, .int (chv f), .int (chv s), .int (chv r), .int (chv e), .int (chv t)] h [a] mine (fun v h' nw => nw = [] ∧ v = none ∧ DL Z h' a f s r e t) := by
  have n12 : Jvm.RoadKit.slotOf Z DEL "field" "C" ≠ Jvm.RoadKit.slotOf Z DEL "component" "C" := slot_ne (Or.inr (hw _ (List.mem_of_getElem? (i := 40) rfl))) (Or.inr (hw _ (List.mem_of_getElem? (i := 42) rfl))) (by decide) (t := .char) (t' := .char) (by decide) (by decide)
  have n13 : Jvm.RoadKit.slotOf Z DEL "field" "C" ≠ Jvm.RoadKit.slotOf Z DEL "repetition" "C" := slot_ne (Or.inr (hw _ (List.mem_of_getElem? (i := 40) rfl))) (Or.inr (hw _ (List.mem_of_getElem? (i := 44) rfl))) (by decide) (t := .char) (t' := .char) (by decide) (by decide)
  have n14 : Jvm.RoadKit.slotOf Z DEL "field" "C" ≠ Jvm.RoadKit.slotOf Z DEL "escape" "C" := slot_ne (Or.inr (hw _ (List.mem_of_getElem? (i := 40) rfl))) (Or.inr (hw _ (List.mem_of_getElem? (i := 46) rfl))) (by decide) (t := .char) (t' := .char) (by decide) (by decide)
  have n15 : Jvm.RoadKit.slotOf Z DEL "field" "C" ≠ Jvm.RoadKit.slotOf Z DEL "subcomponent" "C" := slot_ne (Or.inr (hw _ (List.mem_of_getElem? (i := 40) rfl))) (Or.inr (hw _ (List.mem_of_getElem? (i := 48) rfl))) (by decide) (t := .char) (t' := .char) (by decide) (by decide)
  have n23 : Jvm.RoadKit.slotOf Z DEL "component" "C" ≠ Jvm.RoadKit.slotOf Z DEL "repetition" "C" := slot_ne (Or.inr (hw _ (List.mem_of_getElem? (i := 42) rfl))) (Or.inr (hw _ (List.mem_of_getElem? (i := 44) rfl))) (by decide) (t := .char) (t' := .char) (by decide) (by decide)
  have n24 : Jvm.RoadKit.slotOf Z DEL "component" "C" ≠ Jvm.RoadKit.slotOf Z DEL "escape" "C" := slot_ne (Or.inr (hw _ (List.mem_of_getElem? (i := 42) rfl))) (Or.inr (hw _ (List.mem_of_getElem? (i := 46) rfl))) (by decide) (t := .char) (t' := .char) (by decide) (by decide)
  have n25 : Jvm.RoadKit.slotOf Z DEL "component" "C" ≠ Jvm.RoadKit.slotOf Z DEL "subcomponent" "C" := slot_ne (Or.inr (hw _ (List.mem_of_getElem? (i := 42) rfl))) (Or.inr (hw _ (List.mem_of_getElem? (i := 48) rfl))) (by decide) (t := .char) (t' := .char) (by decide) (by decide)
  have n34 : Jvm.RoadKit.slotOf Z DEL "repetition" "C" ≠ Jvm.RoadKit.slotOf Z DEL "escape" "C" := slot_ne (Or.inr (hw _ (List.mem_of_getElem? (i := 44) rfl))) (Or.inr (hw _ (List.mem_of_getElem? (i := 46) rfl))) (by decide) (t := .char) (t' := .char) (by decide) (by decide)
  have n35 : Jvm.RoadKit.slotOf Z DEL "repetition" "C" ≠ Jvm.RoadKit.slotOf Z DEL "subcomponent" "C" := slot_ne (Or.inr (hw _ (List.mem_of_getElem? (i := 44) rfl))) (Or.inr (hw _ (List.mem_of_getElem? (i := 48) rfl))) (by decide) (t := .char) (t' := .char) (by decide) (by decide)
  have n45 : Jvm.RoadKit.slotOf Z DEL "escape" "C" ≠ Jvm.RoadKit.slotOf Z DEL "subcomponent" "C" := slot_ne (Or.inr (hw _ (List.mem_of_getElem? (i := 46) rfl))) (Or.inr (hw _ (List.mem_of_getElem? (i := 48) rfl))) (by decide) (t := .char) (t' := .char) (by decide) (by decide)
  refine Con.of pnDLI (Ls := [.val (.ref a), .val (.int (chv f)), .val (.int (chv s)), .val (.int (chv r)), .val (.int (chv e)), .val (.int (chv t))]) (fun m => by first | (simp [entryFrame, mkF, argsToLocals, Value.category]; done) | (simp [entryFrame, mkF, argsToLocals, Value.category, maxLocals]; done) | rfl) ?_
  refine WP.aloadN (pc' := 1) dDLI_0 rfl rfl rfl ?_
  refine WP.callSp (pc' := 4) (con_REC hw) rfl (hw _ (List.mem_of_getElem? (i := 33) rfl)) (hw _ (List.mem_of_getElem? (i := 34) rfl)) (hw _ (List.mem_of_getElem? (i := 36) rfl)) (hw _ (List.mem_of_getElem? (i := 37) rfl)) dDLI_1 (by decide) pdx23 rfl rfl rfl (by first | exact Nat.le_of_ble_eq_true rfl | omega | (simp; done) | (simp; omega) | (dsimp only; omega)) (by first | exact Nat.le_of_ble_eq_true rfl | omega | (simp; done) | (simp; omega) | (dsimp only; omega)) (by first | exact Nat.le_of_ble_eq_true rfl | omega | (simp; done) | (simp; omega) | (dsimp only; omega)) (by first | exact Nat.le_of_ble_eq_true rfl | omega | (simp; done) | (simp; omega) | (dsimp only; omega)) (fun _ hx => nomatch hx) rfl ?_
  rintro v h' nw K hnw ⟨rfl, rfl, rfl⟩
  dsimp only [Option.toList, List.nil_append]
  have ws : a ∈ [a] ∨ h'.size ≤ a := Or.inl (List.mem_singleton.mpr rfl)
  refine WP.aloadN (pc' := 5) dDLI_4 rfl rfl rfl ?_
  refine WP.iloadN (pc' := 6) dDLI_5 rfl rfl ?_
  refine WP.putfield (pc' := 9) (host := "") dDLI_6 (Or.inl (hw _ (List.mem_of_getElem? (i := 39) rfl))) Via.refl F1 E (Or.inr ⟨(hw _ (List.mem_of_getElem? (i := 40) rfl)), rfl, rfl⟩) (hw _ (List.mem_of_getElem? (i := 28) rfl)) (ty := .char) (by decide) (congrArg Value.int (chv_nar f)) (chv_fits f) hm ws rfl ?_
  intro h1 W1 G1 E1
  refine WP.aloadN (pc' := 10) dDLI_9 rfl rfl rfl ?_
  refine WP.iloadN (pc' := 11) dDLI_10 rfl rfl ?_
  refine WP.putfield (pc' := 14) (host := "") dDLI_11 (Or.inl (hw _ (List.mem_of_getElem? (i := 41) rfl))) Via.refl (F2.other W1 (Or.inr (Ne.symm n12))) E1 (Or.inr ⟨(hw _ (List.mem_of_getElem? (i := 42) rfl)), rfl, rfl⟩) (hw _ (List.mem_of_getElem? (i := 28) rfl)) (ty := .char) (by decide) (congrArg Value.int (chv_nar s)) (chv_fits s) hm ws rfl ?_
  intro h2 W2 G2 E2
  refine WP.aloadN (pc' := 15) dDLI_14 rfl rfl rfl ?_
  refine WP.iloadN (pc' := 16) dDLI_15 rfl rfl ?_
  refine WP.putfield (pc' := 19) (host := "") dDLI_16 (Or.inl (hw _ (List.mem_of_getElem? (i := 43) rfl))) Via.refl ((F3.other W1 (Or.inr (Ne.symm n13))).other W2 (Or.inr (Ne.symm n23))) E2 (Or.inr ⟨(hw _ (List.mem_of_getElem? (i := 44) rfl)), rfl, rfl⟩) (hw _ (List.mem_of_getElem? (i := 28) rfl)) (ty := .char) (by decide) (congrArg Value.int (chv_nar r)) (chv_fits r) hm ws rfl ?_
  intro h3 W3 G3 E3
  refine WP.aloadN (pc' := 20) dDLI_19 rfl rfl rfl ?_
  refine WP.iload (pc' := 22) dDLI_20 rfl rfl ?_
  refine WP.putfield (pc' := 25) (host := "") dDLI_22 (Or.inl (hw _ (List.mem_of_getElem? (i := 45) rfl))) Via.refl (((F4.other W1 (Or.inr (Ne.symm n14))).other W2 (Or.inr (Ne.symm n24))).other W3 (Or.inr (Ne.symm n34))) E3 (Or.inr ⟨(hw _ (List.mem_of_getElem? (i := 46) rfl)), rfl, rfl⟩) (hw _ (List.mem_of_getElem? (i := 28) rfl)) (ty := .char) (by decide) (congrArg Value.int (chv_nar e)) (chv_fits e) hm ws rfl ?_
  intro h4 W4 G4 E4
  refine WP.aloadN (pc' := 26) dDLI_25 rfl rfl rfl ?_
  refine WP.iload (pc' := 28) dDLI_26 rfl rfl ?_
  refine WP.putfield (pc' := 31) (host := "") dDLI_28 (Or.inl (hw _ (List.mem_of_getElem? (i := 47) rfl))) Via.refl ((((F5.other W1 (Or.inr (Ne.symm n15))).other W2 (Or.inr (Ne.symm n25))).other W3 (Or.inr (Ne.symm n35))).other W4 (Or.inr (Ne.symm n45))) E4 (Or.inr ⟨(hw _ (List.mem_of_getElem? (i := 48) rfl)), rfl, rfl⟩) (hw _ (List.mem_of_getElem? (i := 28) rfl)) (ty := .char) (by decide) (congrArg Value.int (chv_nar t)) (chv_fits t) hm ws rfl ?_
  intro h5 W5 G5 E5
  exact WP.vret dDLI_31 rfl ⟨rfl, rfl, E5, ((((G1.other W2 (Or.inr n12)).other W3 (Or.inr n13)).other W4 (Or.inr n14)).other W5 (Or.inr n15)), (((G2.other W3 (Or.inr n23)).other W4 (Or.inr n24)).other W5 (Or.inr n25)), ((G3.other W4 (Or.inr n34)).other W5 (Or.inr n35)), (G4.other W5 (Or.inr n45)), G5⟩ (fun _ hx => nomatch hx) (fun _ hx => hx) (by first | exact Nat.le_of_ble_eq_true rfl | omega) (by first | exact Nat.le_of_ble_eq_true rfl | omega)
theorem dDEC_0 : decode prog_18_method_6_code 0 = .ok (.iload_n 1, 1) := by decide +kernel
theorem dDEC_1 : decode prog_18_method_6_code 1 = .ok (.lookupswitch 86 #[(69, 79), (70, 51), (82, 72), (83, 58), (84, 65)], 51) := by decide +kernel
theorem dDEC_52 : decode prog_18_method_6_code 52 = .ok (.aload_n 0, 1) := by decide +kernel
theorem dDEC_53 : decode prog_18_method_6_code 53 = .ok (.getfield 7, 3) := by decide +kernel
theorem dDEC_56 : decode prog_18_method_6_code 56 = .ok (.goto 32, 3) := by decide +kernel
theorem dDEC_59 : decode prog_18_method_6_code 59 = .ok (.aload_n 0, 1) := by decide +kernel
theorem dDEC_60 : decode prog_18_method_6_code 60 = .ok (.getfield 13, 3) := by decide +kernel
theorem dDEC_63 : decode prog_18_method_6_code 63 = .ok (.goto 25, 3) := by decide +kernel
theorem dDEC_66 : decode prog_18_method_6_code 66 = .ok (.aload_n 0, 1) := by decide +kernel
theorem dDEC_67 : decode prog_18_method_6_code 67 = .ok (.getfield 22, 3) := by decide +kernel
theorem dDEC_70 : decode prog_18_method_6_code 70 = .ok (.goto 18, 3) := by decide +kernel
theorem dDEC_73 : decode prog_18_method_6_code 73 = .ok (.aload_n 0, 1) := by decide +kernel
theorem dDEC_74 : decode prog_18_method_6_code 74 = .ok (.getfield 16, 3) := by decide +kernel
theorem dDEC_77 : decode prog_18_method_6_code 77 = .ok (.goto 11, 3) := by decide +kernel
theorem dDEC_80 : decode prog_18_method_6_code 80 = .ok (.aload_n 0, 1) := by decide +kernel
theorem dDEC_81 : decode prog_18_method_6_code 81 = .ok (.getfield 19, 3) := by decide +kernel
theorem dDEC_84 : decode prog_18_method_6_code 84 = .ok (.goto 4, 3) := by decide +kernel
theorem dDEC_87 : decode prog_18_method_6_code 87 = .ok (.iconst 0, 1) := by decide +kernel
theorem dDEC_88 : decode prog_18_method_6_code 88 = .ok (.ireturn, 1) := by decide +kernel
theorem pnDEC : plainFor (⟨"com/example/causeway_health/causewayhealth/convert/Delimiters", "decode", "(C)C"⟩ : MethodName) = true := plainFor_of_name (by first | (simp [plainName, overriddenIn]; done) | decide +kernel)
set_option maxRecDepth 65536 in
set_option maxHeartbeats 40000000 in
theorem con_DEC (hw : ∀ d ∈ tables_1, d.before a0 Z = true) {d : Addr} {f s r e t w : UInt16} {L : Int32} (D : DL Z h d f s r e t) (hL : (L = 70 ∧ w = f) ∨ (L = 83 ∧ w = s) ∨ (L = 84 ∧ w = t) ∨ (L = 82 ∧ w = r) ∨ (L = 69 ∧ w = e)) : Con (⟨"com/example/causeway_health/causewayhealth/convert/Delimiters", "decode", "(C)C"⟩ : MethodName) prog_18_method_6_code 2 (some .char) R0 Z LT [] #[.ref d, .int L] h [] mine (fun v h' nw => nw = [] ∧ v = some (.int (chv w)) ∧ h' = h) := by
  obtain ⟨E, Ff, Fs, Fr, Fe, Ft⟩ := D
  refine Con.of pnDEC (Ls := [.val (.ref d), .val (.int L)]) (fun m => by first | (simp [entryFrame, mkF, argsToLocals, Value.category]; done) | (simp [entryFrame, mkF, argsToLocals, Value.category, maxLocals]; done) | rfl) ?_
  refine WP.iloadN (pc' := 1) dDEC_0 rfl rfl ?_
  rcases hL with ⟨rfl, rfl⟩ | ⟨rfl, rfl⟩ | ⟨rfl, rfl⟩ | ⟨rfl, rfl⟩ | ⟨rfl, rfl⟩
  · refine WP.lsw (pc' := 52) (o := 51) (k := 70) dDEC_1 (by decide) (by decide) (by decide) (by decide) ?_
    refine WP.aloadN (pc' := 53) dDEC_52 rfl rfl rfl ?_
    refine WP.getfield (pc' := 56) (host := "") dDEC_53 (Or.inl (hw _ (List.mem_of_getElem? (i := 39) rfl))) Via.refl Ff rfl ?_
    refine WP.goto (pc' := 88) dDEC_56 (by decide) (by decide) ?_
    exact WP.ireturn dDEC_88 rfl (by simp) (congrArg Value.int (chv_nar _)) ⟨rfl, rfl, rfl⟩ (fun _ hx => nomatch hx) (fun _ hx => hx) (by first | exact Nat.le_of_ble_eq_true rfl | omega) (by first | exact Nat.le_of_ble_eq_true rfl | omega)
  · refine WP.lsw (pc' := 59) (o := 58) (k := 83) dDEC_1 (by decide) (by decide) (by decide) (by decide) ?_
    refine WP.aloadN (pc' := 60) dDEC_59 rfl rfl rfl ?_
    refine WP.getfield (pc' := 63) (host := "") dDEC_60 (Or.inl (hw _ (List.mem_of_getElem? (i := 41) rfl))) Via.refl Fs rfl ?_
    refine WP.goto (pc' := 88) dDEC_63 (by decide) (by decide) ?_
    exact WP.ireturn dDEC_88 rfl (by simp) (congrArg Value.int (chv_nar _)) ⟨rfl, rfl, rfl⟩ (fun _ hx => nomatch hx) (fun _ hx => hx) (by first | exact Nat.le_of_ble_eq_true rfl | omega) (by first | exact Nat.le_of_ble_eq_true rfl | omega)
  · refine WP.lsw (pc' := 66) (o := 65) (k := 84) dDEC_1 (by decide) (by decide) (by decide) (by decide) ?_
    refine WP.aloadN (pc' := 67) dDEC_66 rfl rfl rfl ?_
    refine WP.getfield (pc' := 70) (host := "") dDEC_67 (Or.inl (hw _ (List.mem_of_getElem? (i := 47) rfl))) Via.refl Ft rfl ?_
    refine WP.goto (pc' := 88) dDEC_70 (by decide) (by decide) ?_
    exact WP.ireturn dDEC_88 rfl (by simp) (congrArg Value.int (chv_nar _)) ⟨rfl, rfl, rfl⟩ (fun _ hx => nomatch hx) (fun _ hx => hx) (by first | exact Nat.le_of_ble_eq_true rfl | omega) (by first | exact Nat.le_of_ble_eq_true rfl | omega)
  · refine WP.lsw (pc' := 73) (o := 72) (k := 82) dDEC_1 (by decide) (by decide) (by decide) (by decide) ?_
    refine WP.aloadN (pc' := 74) dDEC_73 rfl rfl rfl ?_
    refine WP.getfield (pc' := 77) (host := "") dDEC_74 (Or.inl (hw _ (List.mem_of_getElem? (i := 43) rfl))) Via.refl Fr rfl ?_
    refine WP.goto (pc' := 88) dDEC_77 (by decide) (by decide) ?_
    exact WP.ireturn dDEC_88 rfl (by simp) (congrArg Value.int (chv_nar _)) ⟨rfl, rfl, rfl⟩ (fun _ hx => nomatch hx) (fun _ hx => hx) (by first | exact Nat.le_of_ble_eq_true rfl | omega) (by first | exact Nat.le_of_ble_eq_true rfl | omega)
  · refine WP.lsw (pc' := 80) (o := 79) (k := 69) dDEC_1 (by decide) (by decide) (by decide) (by decide) ?_
    refine WP.aloadN (pc' := 81) dDEC_80 rfl rfl rfl ?_
    refine WP.getfield (pc' := 84) (host := "") dDEC_81 (Or.inl (hw _ (List.mem_of_getElem? (i := 45) rfl))) Via.refl Fe rfl ?_
    refine WP.goto (pc' := 88) dDEC_84 (by decide) (by decide) ?_
    exact WP.ireturn dDEC_88 rfl (by simp) (congrArg Value.int (chv_nar _)) ⟨rfl, rfl, rfl⟩ (fun _ hx => nomatch hx) (fun _ hx => hx) (by first | exact Nat.le_of_ble_eq_true rfl | omega) (by first | exact Nat.le_of_ble_eq_true rfl | omega)
/-- the letter of a sign, or 0 -/
def ltr (c f s r e t : UInt16) : UInt16 := if c = f then 70 else if c = s then 83 else if c = t then 84 else if c = r then 82 else if c = e then 69 else 0
def esc1 (f s r e t c : UInt16) : List UInt16 := if ltr c f s r e t = 0 then [c] else [e, ltr c f s r e t, e]
theorem dLFO_0 : decode prog_18_method_5_code 0 = .ok (.ldc 99, 2) := by decide +kernel
theorem dLFO_2 : decode prog_18_method_5_code 2 = .ok (.invokevirtual 92, 3) := by decide +kernel
theorem dLFO_5 : decode prog_18_method_5_code 5 = .ok (.astore_n 2, 1) := by decide +kernel
theorem dLFO_6 : decode prog_18_method_5_code 6 = .ok (.aload_n 2, 1) := by decide +kernel
theorem dLFO_7 : decode prog_18_method_5_code 7 = .ok (.arraylength, 1) := by decide +kernel
theorem dLFO_8 : decode prog_18_method_5_code 8 = .ok (.istore_n 3, 1) := by decide +kernel
theorem dLFO_9 : decode prog_18_method_5_code 9 = .ok (.iconst 0, 1) := by decide +kernel
theorem dLFO_10 : decode prog_18_method_5_code 10 = .ok (.istore 4, 2) := by decide +kernel
theorem dLFO_12 : decode prog_18_method_5_code 12 = .ok (.iload 4, 2) := by decide +kernel
theorem dLFO_14 : decode prog_18_method_5_code 14 = .ok (.iload_n 3, 1) := by decide +kernel
theorem dLFO_15 : decode prog_18_method_5_code 15 = .ok (.if_icmp .ge 28, 3) := by decide +kernel
theorem dLFO_18 : decode prog_18_method_5_code 18 = .ok (.aload_n 2, 1) := by decide +kernel
theorem dLFO_19 : decode prog_18_method_5_code 19 = .ok (.iload 4, 2) := by decide +kernel
theorem dLFO_21 : decode prog_18_method_5_code 21 = .ok (.caload, 1) := by decide +kernel
theorem dLFO_22 : decode prog_18_method_5_code 22 = .ok (.istore 5, 2) := by decide +kernel
theorem dLFO_24 : decode prog_18_method_5_code 24 = .ok (.aload_n 0, 1) := by decide +kernel
theorem dLFO_25 : decode prog_18_method_5_code 25 = .ok (.iload 5, 2) := by decide +kernel
theorem dLFO_27 : decode prog_18_method_5_code 27 = .ok (.invokevirtual 81, 3) := by decide +kernel
theorem dLFO_30 : decode prog_18_method_5_code 30 = .ok (.iload_n 1, 1) := by decide +kernel
theorem dLFO_31 : decode prog_18_method_5_code 31 = .ok (.if_icmp .ne 6, 3) := by decide +kernel
theorem dLFO_34 : decode prog_18_method_5_code 34 = .ok (.iload 5, 2) := by decide +kernel
theorem dLFO_36 : decode prog_18_method_5_code 36 = .ok (.ireturn, 1) := by decide +kernel
theorem dLFO_37 : decode prog_18_method_5_code 37 = .ok (.iinc 4 1, 3) := by decide +kernel
theorem dLFO_40 : decode prog_18_method_5_code 40 = .ok (.goto (-28), 3) := by decide +kernel
theorem dLFO_43 : decode prog_18_method_5_code 43 = .ok (.iconst 0, 1) := by decide +kernel
theorem dLFO_44 : decode prog_18_method_5_code 44 = .ok (.ireturn, 1) := by decide +kernel
theorem pnLFO : plainFor (⟨"com/example/causeway_health/causewayhealth/convert/Delimiters", "letterFor", "(C)C"⟩ : MethodName) = true := plainFor_of_name (by first | (simp [plainName, overriddenIn]; done) | decide +kernel)
set_option maxRecDepth 65536 in
set_option maxHeartbeats 40000000 in
theorem con_LFO (hw : ∀ d ∈ tables_1, d.before a0 Z = true) {cz : Int32} (hc : Compact Z cz) (hu16 : U16 Z) {vf : Value} (hf : Fmt Z vf) {d : Addr} {f s r e t c : UInt16} (D : DL Z h d f s r e t) : Con (⟨"com/example/causeway_health/causewayhealth/convert/Delimiters", "letterFor", "(C)C"⟩ : MethodName) prog_18_method_5_code 6 (some .char) { frames := 6, cells := 3, slots := 29, locals := 85 } Z LT [] #[.ref d, .int (chv c)] h [] mine (fun v h' nw => nw = [] ∧ v = some (.int (chv (ltr c f s r e t)))) := by
  refine Con.of pnLFO (Ls := [.val (.ref d), .val (.int (chv c)), .unset, .unset, .unset, .unset]) (fun m => by first | (simp [entryFrame, mkF, argsToLocals, Value.category]; done) | (simp [entryFrame, mkF, argsToLocals, Value.category, maxLocals]; done) | rfl) ?_
  refine WP.ldcS (pc' := 2) (text := "FSTRE") (n := 20) dLFO_0 (by decide) (atoms hw) (by decide) (by decide) (by decide) (by first | exact Nat.le_of_ble_eq_true rfl | omega | (simp; done) | (simp; omega) | (dsimp only; omega)) (by first | exact Nat.le_of_ble_eq_true rfl | omega | (simp; done) | (simp; omega) | (dsimp only; omega)) rfl ?_
  intro h1 q E1 F
  rw [show txt "FSTRE" = [70, 83, 84, 82, 69] by decide] at F
  replace D := D.ext E1
  obtain ⟨w, S, -, -⟩ := F
  refine WP.callV (pc' := 5) (con_TCA hw hc hu16 hf (N := 5) (by simp) (by omega) S) S.1 (hw _ (List.mem_of_getElem? (i := 83) rfl)) (hw _ (List.mem_of_getElem? (i := 84) rfl)) (fun s hs => notFace_of_selects (args := #[]) (mv hs (hw _ (List.mem_of_getElem? (i := 86) rfl)))) (hw _ (List.mem_of_getElem? (i := 86) rfl)) (hw _ (List.mem_of_getElem? (i := 85) rfl)) (hw _ (List.mem_of_getElem? (i := 7) rfl)) (hw _ (List.mem_of_getElem? (i := 87) rfl)) dLFO_2 (by decide) pdx32 rfl rfl rfl (by first | exact Nat.le_of_ble_eq_true rfl | omega | (simp; done) | (simp; omega) | (dsimp only; omega)) (by first | exact Nat.le_of_ble_eq_true rfl | omega | (simp; done) | (simp; omega) | (dsimp only; omega)) (by first | exact Nat.le_of_ble_eq_true rfl | omega | (simp; done) | (simp; omega) | (dsimp only; omega)) (by first | exact Nat.le_of_ble_eq_true rfl | omega | (simp; done) | (simp; omega) | (dsimp only; omega)) (fun _ hx => nomatch hx) rfl ?_
  rintro v h2 nw K2 hnw2 ⟨q2, rfl, rfl, A⟩
  dsimp only [Option.toList, List.cons_append, List.nil_append]
  replace D := D.keep K2 nin0
  refine WP.astoreN (pc' := 6) dLFO_5 rfl rfl rfl rfl rfl ?_
  dsimp only [List.set]
  refine WP.aloadN (pc' := 7) dLFO_6 rfl rfl rfl ?_
  refine WP.arraylength (pc' := 8) dLFO_7 A (n := 5) (by decide) rfl ?_
  refine WP.istoreN (pc' := 9) dLFO_8 rfl rfl rfl ?_
  dsimp only [List.set]
  refine WP.iconst (pc' := 10) (x := 0) dLFO_9 (by decide) rfl ?_
  refine WP.istore (pc' := 12) dLFO_10 rfl rfl rfl ?_
  dsimp only [List.set]
  refine WP.iload (pc' := 14) dLFO_12 rfl rfl ?_
  refine WP.iloadN (pc' := 15) dLFO_14 rfl rfl ?_
  refine WP.icmpF (pc' := 18) dLFO_15 rfl (show (0 : Int32) < 5 by decide) ?_
  refine WP.aloadN (pc' := 19) dLFO_18 rfl rfl rfl ?_
  refine WP.iload (pc' := 21) dLFO_19 rfl rfl ?_
  refine WP.caload (pc' := 22) (i := 0) dLFO_21 A (by decide) (x := 70) (by decide) rfl ?_
  refine WP.istore (pc' := 24) dLFO_22 rfl rfl rfl ?_
  dsimp only [List.set]
  refine WP.aloadN (pc' := 25) dLFO_24 rfl rfl rfl ?_
  refine WP.iload (pc' := 27) dLFO_25 rfl rfl ?_
  refine WP.callP (pc' := 30) (con_DEC hw (L := 70) (w := f) D (Or.inl ⟨rfl, rfl⟩)) D.1.cell (hw _ (List.mem_of_getElem? (i := 171) rfl)) (hw _ (List.mem_of_getElem? (i := 172) rfl)) (hw _ (List.mem_of_getElem? (i := 173) rfl)) (hw _ (List.mem_of_getElem? (i := 28) rfl)) (hw _ (List.mem_of_getElem? (i := 29) rfl)) (hw _ (List.mem_of_getElem? (i := 174) rfl)) dLFO_27 (by decide) pdx33 rfl rfl rfl (by first | exact Nat.le_of_ble_eq_true rfl | omega | (simp; done) | (simp; omega) | (dsimp only; omega)) (by first | exact Nat.le_of_ble_eq_true rfl | omega | (simp; done) | (simp; omega) | (dsimp only; omega)) (by first | exact Nat.le_of_ble_eq_true rfl | omega | (simp; done) | (simp; omega) | (dsimp only; omega)) (by first | exact Nat.le_of_ble_eq_true rfl | omega | (simp; done) | (simp; omega) | (dsimp only; omega)) (fun _ hx => nomatch hx) rfl ?_
  rintro v h3 nw3 K3 hnw3 ⟨rfl, rfl, rfl⟩
  dsimp only [Option.toList, List.cons_append, List.nil_append]
  refine WP.iloadN (pc' := 31) dLFO_30 rfl rfl ?_
  by_cases n0 : c = f
  · refine WP.icmpF (pc' := 34) dLFO_31 rfl (show chv f = chv c by rw [n0]) ?_
    refine WP.iload (pc' := 36) dLFO_34 rfl rfl ?_
    exact WP.ireturn (nw := []) dLFO_36 rfl (by simp) (by decide) ⟨rfl, by rw [ltr, if_pos n0]; rfl⟩ (fun _ hx => nomatch hx) (fun x hx => List.mem_cons_of_mem _ hx) (Nat.le_of_ble_eq_true rfl) (Nat.le_of_ble_eq_true rfl)
  · refine WP.icmpT (pc' := 37) dLFO_31 (by decide) (by decide) (fun q => n0 (chv_inj q).symm) ?_
    refine WP.iinc (pc' := 40) dLFO_37 rfl rfl rfl rfl ?_
    dsimp only [List.set]
    refine WP.goto (pc' := 12) dLFO_40 (by decide) (by decide) ?_
    rw [show ((0 : Int32) + Int32.ofInt 1) = 1 by decide]
    refine WP.iload (pc' := 14) dLFO_12 rfl rfl ?_
    refine WP.iloadN (pc' := 15) dLFO_14 rfl rfl ?_
    refine WP.icmpF (pc' := 18) dLFO_15 rfl (show (1 : Int32) < 5 by decide) ?_
    refine WP.aloadN (pc' := 19) dLFO_18 rfl rfl rfl ?_
    refine WP.iload (pc' := 21) dLFO_19 rfl rfl ?_
    refine WP.caload (pc' := 22) (i := 1) dLFO_21 A (by decide) (x := 83) (by decide) rfl ?_
    refine WP.istore (pc' := 24) dLFO_22 rfl rfl rfl ?_
    dsimp only [List.set]
    refine WP.aloadN (pc' := 25) dLFO_24 rfl rfl rfl ?_
    refine WP.iload (pc' := 27) dLFO_25 rfl rfl ?_
    refine WP.callP (pc' := 30) (con_DEC hw (L := 83) (w := s) D (Or.inr (Or.inl ⟨rfl, rfl⟩))) D.1.cell (hw _ (List.mem_of_getElem? (i := 171) rfl)) (hw _ (List.mem_of_getElem? (i := 172) rfl)) (hw _ (List.mem_of_getElem? (i := 173) rfl)) (hw _ (List.mem_of_getElem? (i := 28) rfl)) (hw _ (List.mem_of_getElem? (i := 29) rfl)) (hw _ (List.mem_of_getElem? (i := 174) rfl)) dLFO_27 (by decide) pdx33 rfl rfl rfl (by first | exact Nat.le_of_ble_eq_true rfl | omega | (simp; done) | (simp; omega) | (dsimp only; omega)) (by first | exact Nat.le_of_ble_eq_true rfl | omega | (simp; done) | (simp; omega) | (dsimp only; omega)) (by first | exact Nat.le_of_ble_eq_true rfl | omega | (simp; done) | (simp; omega) | (dsimp only; omega)) (by first | exact Nat.le_of_ble_eq_true rfl | omega | (simp; done) | (simp; omega) | (dsimp only; omega)) (fun _ hx => nomatch hx) rfl ?_
    rintro v h3 nw3 K3 hnw3 ⟨rfl, rfl, rfl⟩
    dsimp only [Option.toList, List.cons_append, List.nil_append]
    refine WP.iloadN (pc' := 31) dLFO_30 rfl rfl ?_
    by_cases n1 : c = s
    · refine WP.icmpF (pc' := 34) dLFO_31 rfl (show chv s = chv c by rw [n1]) ?_
      refine WP.iload (pc' := 36) dLFO_34 rfl rfl ?_
      exact WP.ireturn (nw := []) dLFO_36 rfl (by simp) (by decide) ⟨rfl, by rw [ltr, if_neg n0, if_pos n1]; rfl⟩ (fun _ hx => nomatch hx) (fun x hx => List.mem_cons_of_mem _ hx) (Nat.le_of_ble_eq_true rfl) (Nat.le_of_ble_eq_true rfl)
    · refine WP.icmpT (pc' := 37) dLFO_31 (by decide) (by decide) (fun q => n1 (chv_inj q).symm) ?_
      refine WP.iinc (pc' := 40) dLFO_37 rfl rfl rfl rfl ?_
      dsimp only [List.set]
      refine WP.goto (pc' := 12) dLFO_40 (by decide) (by decide) ?_
      rw [show ((1 : Int32) + Int32.ofInt 1) = 2 by decide]
      refine WP.iload (pc' := 14) dLFO_12 rfl rfl ?_
      refine WP.iloadN (pc' := 15) dLFO_14 rfl rfl ?_
      refine WP.icmpF (pc' := 18) dLFO_15 rfl (show (2 : Int32) < 5 by decide) ?_
      refine WP.aloadN (pc' := 19) dLFO_18 rfl rfl rfl ?_
      refine WP.iload (pc' := 21) dLFO_19 rfl rfl ?_
      refine WP.caload (pc' := 22) (i := 2) dLFO_21 A (by decide) (x := 84) (by decide) rfl ?_
      refine WP.istore (pc' := 24) dLFO_22 rfl rfl rfl ?_
      dsimp only [List.set]
      refine WP.aloadN (pc' := 25) dLFO_24 rfl rfl rfl ?_
      refine WP.iload (pc' := 27) dLFO_25 rfl rfl ?_
      refine WP.callP (pc' := 30) (con_DEC hw (L := 84) (w := t) D (Or.inr (Or.inr (Or.inl ⟨rfl, rfl⟩)))) D.1.cell (hw _ (List.mem_of_getElem? (i := 171) rfl)) (hw _ (List.mem_of_getElem? (i := 172) rfl)) (hw _ (List.mem_of_getElem? (i := 173) rfl)) (hw _ (List.mem_of_getElem? (i := 28) rfl)) (hw _ (List.mem_of_getElem? (i := 29) rfl)) (hw _ (List.mem_of_getElem? (i := 174) rfl)) dLFO_27 (by decide) pdx33 rfl rfl rfl (by first | exact Nat.le_of_ble_eq_true rfl | omega | (simp; done) | (simp; omega) | (dsimp only; omega)) (by first | exact Nat.le_of_ble_eq_true rfl | omega | (simp; done) | (simp; omega) | (dsimp only; omega)) (by first | exact Nat.le_of_ble_eq_true rfl | omega | (simp; done) | (simp; omega) | (dsimp only; omega)) (by first | exact Nat.le_of_ble_eq_true rfl | omega | (simp; done) | (simp; omega) | (dsimp only; omega)) (fun _ hx => nomatch hx) rfl ?_
      rintro v h3 nw3 K3 hnw3 ⟨rfl, rfl, rfl⟩
      dsimp only [Option.toList, List.cons_append, List.nil_append]
      refine WP.iloadN (pc' := 31) dLFO_30 rfl rfl ?_
      by_cases n2 : c = t
      · refine WP.icmpF (pc' := 34) dLFO_31 rfl (show chv t = chv c by rw [n2]) ?_
        refine WP.iload (pc' := 36) dLFO_34 rfl rfl ?_
        exact WP.ireturn (nw := []) dLFO_36 rfl (by simp) (by decide) ⟨rfl, by rw [ltr, if_neg n0, if_neg n1, if_pos n2]; rfl⟩ (fun _ hx => nomatch hx) (fun x hx => List.mem_cons_of_mem _ hx) (Nat.le_of_ble_eq_true rfl) (Nat.le_of_ble_eq_true rfl)
      · refine WP.icmpT (pc' := 37) dLFO_31 (by decide) (by decide) (fun q => n2 (chv_inj q).symm) ?_
        refine WP.iinc (pc' := 40) dLFO_37 rfl rfl rfl rfl ?_
        dsimp only [List.set]
        refine WP.goto (pc' := 12) dLFO_40 (by decide) (by decide) ?_
        rw [show ((2 : Int32) + Int32.ofInt 1) = 3 by decide]
        refine WP.iload (pc' := 14) dLFO_12 rfl rfl ?_
        refine WP.iloadN (pc' := 15) dLFO_14 rfl rfl ?_
        refine WP.icmpF (pc' := 18) dLFO_15 rfl (show (3 : Int32) < 5 by decide) ?_
        refine WP.aloadN (pc' := 19) dLFO_18 rfl rfl rfl ?_
        refine WP.iload (pc' := 21) dLFO_19 rfl rfl ?_
        refine WP.caload (pc' := 22) (i := 3) dLFO_21 A (by decide) (x := 82) (by decide) rfl ?_
        refine WP.istore (pc' := 24) dLFO_22 rfl rfl rfl ?_
        dsimp only [List.set]
        refine WP.aloadN (pc' := 25) dLFO_24 rfl rfl rfl ?_
        refine WP.iload (pc' := 27) dLFO_25 rfl rfl ?_
        refine WP.callP (pc' := 30) (con_DEC hw (L := 82) (w := r) D (Or.inr (Or.inr (Or.inr (Or.inl ⟨rfl, rfl⟩))))) D.1.cell (hw _ (List.mem_of_getElem? (i := 171) rfl)) (hw _ (List.mem_of_getElem? (i := 172) rfl)) (hw _ (List.mem_of_getElem? (i := 173) rfl)) (hw _ (List.mem_of_getElem? (i := 28) rfl)) (hw _ (List.mem_of_getElem? (i := 29) rfl)) (hw _ (List.mem_of_getElem? (i := 174) rfl)) dLFO_27 (by decide) pdx33 rfl rfl rfl (by first | exact Nat.le_of_ble_eq_true rfl | omega | (simp; done) | (simp; omega) | (dsimp only; omega)) (by first | exact Nat.le_of_ble_eq_true rfl | omega | (simp; done) | (simp; omega) | (dsimp only; omega)) (by first | exact Nat.le_of_ble_eq_true rfl | omega | (simp; done) | (simp; omega) | (dsimp only; omega)) (by first | exact Nat.le_of_ble_eq_true rfl | omega | (simp; done) | (simp; omega) | (dsimp only; omega)) (fun _ hx => nomatch hx) rfl ?_
        rintro v h3 nw3 K3 hnw3 ⟨rfl, rfl, rfl⟩
        dsimp only [Option.toList, List.cons_append, List.nil_append]
        refine WP.iloadN (pc' := 31) dLFO_30 rfl rfl ?_
        by_cases n3 : c = r
        · refine WP.icmpF (pc' := 34) dLFO_31 rfl (show chv r = chv c by rw [n3]) ?_
          refine WP.iload (pc' := 36) dLFO_34 rfl rfl ?_
          exact WP.ireturn (nw := []) dLFO_36 rfl (by simp) (by decide) ⟨rfl, by rw [ltr, if_neg n0, if_neg n1, if_neg n2, if_pos n3]; rfl⟩ (fun _ hx => nomatch hx) (fun x hx => List.mem_cons_of_mem _ hx) (Nat.le_of_ble_eq_true rfl) (Nat.le_of_ble_eq_true rfl)
        · refine WP.icmpT (pc' := 37) dLFO_31 (by decide) (by decide) (fun q => n3 (chv_inj q).symm) ?_
          refine WP.iinc (pc' := 40) dLFO_37 rfl rfl rfl rfl ?_
          dsimp only [List.set]
          refine WP.goto (pc' := 12) dLFO_40 (by decide) (by decide) ?_
          rw [show ((3 : Int32) + Int32.ofInt 1) = 4 by decide]
          refine WP.iload (pc' := 14) dLFO_12 rfl rfl ?_
          refine WP.iloadN (pc' := 15) dLFO_14 rfl rfl ?_
          refine WP.icmpF (pc' := 18) dLFO_15 rfl (show (4 : Int32) < 5 by decide) ?_
          refine WP.aloadN (pc' := 19) dLFO_18 rfl rfl rfl ?_
          refine WP.iload (pc' := 21) dLFO_19 rfl rfl ?_
          refine WP.caload (pc' := 22) (i := 4) dLFO_21 A (by decide) (x := 69) (by decide) rfl ?_
          refine WP.istore (pc' := 24) dLFO_22 rfl rfl rfl ?_
          dsimp only [List.set]
          refine WP.aloadN (pc' := 25) dLFO_24 rfl rfl rfl ?_
          refine WP.iload (pc' := 27) dLFO_25 rfl rfl ?_
          refine WP.callP (pc' := 30) (con_DEC hw (L := 69) (w := e) D (Or.inr (Or.inr (Or.inr (Or.inr ⟨rfl, rfl⟩))))) D.1.cell (hw _ (List.mem_of_getElem? (i := 171) rfl)) (hw _ (List.mem_of_getElem? (i := 172) rfl)) (hw _ (List.mem_of_getElem? (i := 173) rfl)) (hw _ (List.mem_of_getElem? (i := 28) rfl)) (hw _ (List.mem_of_getElem? (i := 29) rfl)) (hw _ (List.mem_of_getElem? (i := 174) rfl)) dLFO_27 (by decide) pdx33 rfl rfl rfl (by first | exact Nat.le_of_ble_eq_true rfl | omega | (simp; done) | (simp; omega) | (dsimp only; omega)) (by first | exact Nat.le_of_ble_eq_true rfl | omega | (simp; done) | (simp; omega) | (dsimp only; omega)) (by first | exact Nat.le_of_ble_eq_true rfl | omega | (simp; done) | (simp; omega) | (dsimp only; omega)) (by first | exact Nat.le_of_ble_eq_true rfl | omega | (simp; done) | (simp; omega) | (dsimp only; omega)) (fun _ hx => nomatch hx) rfl ?_
          rintro v h3 nw3 K3 hnw3 ⟨rfl, rfl, rfl⟩
          dsimp only [Option.toList, List.cons_append, List.nil_append]
          refine WP.iloadN (pc' := 31) dLFO_30 rfl rfl ?_
          by_cases n4 : c = e
          · refine WP.icmpF (pc' := 34) dLFO_31 rfl (show chv e = chv c by rw [n4]) ?_
            refine WP.iload (pc' := 36) dLFO_34 rfl rfl ?_
            exact WP.ireturn (nw := []) dLFO_36 rfl (by simp) (by decide) ⟨rfl, by rw [ltr, if_neg n0, if_neg n1, if_neg n2, if_neg n3, if_pos n4]; rfl⟩ (fun _ hx => nomatch hx) (fun x hx => List.mem_cons_of_mem _ hx) (Nat.le_of_ble_eq_true rfl) (Nat.le_of_ble_eq_true rfl)
          · refine WP.icmpT (pc' := 37) dLFO_31 (by decide) (by decide) (fun q => n4 (chv_inj q).symm) ?_
            refine WP.iinc (pc' := 40) dLFO_37 rfl rfl rfl rfl ?_
            dsimp only [List.set]
            refine WP.goto (pc' := 12) dLFO_40 (by decide) (by decide) ?_
            rw [show ((4 : Int32) + Int32.ofInt 1) = 5 by decide]
            refine WP.iload (pc' := 14) dLFO_12 rfl rfl ?_
            refine WP.iloadN (pc' := 15) dLFO_14 rfl rfl ?_
            refine WP.icmpT (pc' := 43) dLFO_15 (by decide) (by decide) (show ¬ (5 : Int32) < 5 by decide) ?_
            refine WP.iconst (pc' := 44) (x := 0) dLFO_43 (by decide) rfl ?_
            exact WP.ireturn (nw := []) dLFO_44 rfl (by simp) rfl ⟨rfl, by rw [ltr, if_neg n0, if_neg n1, if_neg n2, if_neg n3, if_neg n4]; rfl⟩ (fun _ hx => nomatch hx) (fun x hx => List.mem_cons_of_mem _ hx) (Nat.le_of_ble_eq_true rfl) (Nat.le_of_ble_eq_true rfl)
end Delim
end Jvm.Pilot.@@N@@

namespace Jvm.Pilot.@@N@@
open Jvm Jvm.ClassFile Sem Op Lib Jvm.Free Jvm.Stand Jvm.LawKit Jvm.RoadKit Bundle Jvm.Pilot.@@N@@.Jvm.D Jvm.OwnW
theorem pdx34 : parseMethodDescriptor "()Ljava/lang/String;" = some ⟨[], some (.object "java/lang/String")⟩ := by decide +kernel
theorem pdx35 : parseMethodDescriptor "(C)Ljava/lang/StringBuilder;" = some ⟨[.char], some (.object "java/lang/StringBuilder")⟩ := by decide +kernel
section Esc
variable {Z : State} {a0 : Array Value} {h : Heap} {mine : List Addr}
theorem esc1_len (f s r e t c : UInt16) : (esc1 f s r e t c).length ≤ 3 := by unfold esc1; split <;> simp
theorem esc_len {f s r e t : UInt16} : ∀ us : List UInt16, (us.flatMap (esc1 f s r e t)).length ≤ 3 * us.length
  | [] => by simp
  | u :: us => by
    have h1 := esc1_len f s r e t u
    have h2 := esc_len (f := f) (s := s) (r := r) (e := e) (t := t) us
    simp only [List.flatMap_cons, List.length_append, List.length_cons]
    omega
theorem chv_0 {l : UInt16} : chv l = 0 ↔ l = 0 := ⟨fun q => chv_inj (q.trans (show (0 : Int32) = chv 0 from rfl)), fun q => by rw [q]; rfl⟩
theorem dESC_0 : decode prog_18_method_4_code 0 = .ok (.new 72, 3) := by decide +kernel
theorem dESC_3 : decode prog_18_method_4_code 3 = .ok (.dup, 1) := by decide +kernel
theorem dESC_4 : decode prog_18_method_4_code 4 = .ok (.aload_n 1, 1) := by decide +kernel
theorem dESC_5 : decode prog_18_method_4_code 5 = .ok (.invokevirtual 25, 3) := by decide +kernel
theorem dESC_8 : decode prog_18_method_4_code 8 = .ok (.invokespecial 74, 3) := by decide +kernel
theorem dESC_11 : decode prog_18_method_4_code 11 = .ok (.astore_n 2, 1) := by decide +kernel
theorem dESC_12 : decode prog_18_method_4_code 12 = .ok (.aload_n 1, 1) := by decide +kernel
theorem dESC_13 : decode prog_18_method_4_code 13 = .ok (.invokevirtual 92, 3) := by decide +kernel
theorem dESC_16 : decode prog_18_method_4_code 16 = .ok (.astore_n 3, 1) := by decide +kernel
theorem dESC_17 : decode prog_18_method_4_code 17 = .ok (.aload_n 3, 1) := by decide +kernel
theorem dESC_18 : decode prog_18_method_4_code 18 = .ok (.arraylength, 1) := by decide +kernel
theorem dESC_19 : decode prog_18_method_4_code 19 = .ok (.istore 4, 2) := by decide +kernel
theorem dESC_21 : decode prog_18_method_4_code 21 = .ok (.iconst 0, 1) := by decide +kernel
theorem dESC_22 : decode prog_18_method_4_code 22 = .ok (.istore 5, 2) := by decide +kernel
theorem dESC_24 : decode prog_18_method_4_code 24 = .ok (.iload 5, 2) := by decide +kernel
theorem dESC_26 : decode prog_18_method_4_code 26 = .ok (.iload 4, 2) := by decide +kernel
theorem dESC_28 : decode prog_18_method_4_code 28 = .ok (.if_icmp .ge 59, 3) := by decide +kernel
theorem dESC_31 : decode prog_18_method_4_code 31 = .ok (.aload_n 3, 1) := by decide +kernel
theorem dESC_32 : decode prog_18_method_4_code 32 = .ok (.iload 5, 2) := by decide +kernel
theorem dESC_34 : decode prog_18_method_4_code 34 = .ok (.caload, 1) := by decide +kernel
theorem dESC_35 : decode prog_18_method_4_code 35 = .ok (.istore 6, 2) := by decide +kernel
theorem dESC_37 : decode prog_18_method_4_code 37 = .ok (.aload_n 0, 1) := by decide +kernel
theorem dESC_38 : decode prog_18_method_4_code 38 = .ok (.iload 6, 2) := by decide +kernel
theorem dESC_40 : decode prog_18_method_4_code 40 = .ok (.invokevirtual 96, 3) := by decide +kernel
theorem dESC_43 : decode prog_18_method_4_code 43 = .ok (.istore 7, 2) := by decide +kernel
theorem dESC_45 : decode prog_18_method_4_code 45 = .ok (.iload 7, 2) := by decide +kernel
theorem dESC_47 : decode prog_18_method_4_code 47 = .ok (.ifCond .ne 13, 3) := by decide +kernel
theorem dESC_50 : decode prog_18_method_4_code 50 = .ok (.aload_n 2, 1) := by decide +kernel
theorem dESC_51 : decode prog_18_method_4_code 51 = .ok (.iload 6, 2) := by decide +kernel
theorem dESC_53 : decode prog_18_method_4_code 53 = .ok (.invokevirtual 85, 3) := by decide +kernel
theorem dESC_56 : decode prog_18_method_4_code 56 = .ok (.pop, 1) := by decide +kernel
theorem dESC_57 : decode prog_18_method_4_code 57 = .ok (.goto 24, 3) := by decide +kernel
theorem dESC_60 : decode prog_18_method_4_code 60 = .ok (.aload_n 2, 1) := by decide +kernel
theorem dESC_61 : decode prog_18_method_4_code 61 = .ok (.aload_n 0, 1) := by decide +kernel
theorem dESC_62 : decode prog_18_method_4_code 62 = .ok (.getfield 19, 3) := by decide +kernel
theorem dESC_65 : decode prog_18_method_4_code 65 = .ok (.invokevirtual 85, 3) := by decide +kernel
theorem dESC_68 : decode prog_18_method_4_code 68 = .ok (.iload 7, 2) := by decide +kernel
theorem dESC_70 : decode prog_18_method_4_code 70 = .ok (.invokevirtual 85, 3) := by decide +kernel
theorem dESC_73 : decode prog_18_method_4_code 73 = .ok (.aload_n 0, 1) := by decide +kernel
theorem dESC_74 : decode prog_18_method_4_code 74 = .ok (.getfield 19, 3) := by decide +kernel
theorem dESC_77 : decode prog_18_method_4_code 77 = .ok (.invokevirtual 85, 3) := by decide +kernel
theorem dESC_80 : decode prog_18_method_4_code 80 = .ok (.pop, 1) := by decide +kernel
theorem dESC_81 : decode prog_18_method_4_code 81 = .ok (.iinc 5 1, 3) := by decide +kernel
theorem dESC_84 : decode prog_18_method_4_code 84 = .ok (.goto (-60), 3) := by decide +kernel
theorem dESC_87 : decode prog_18_method_4_code 87 = .ok (.aload_n 2, 1) := by decide +kernel
theorem dESC_88 : decode prog_18_method_4_code 88 = .ok (.invokevirtual 88, 3) := by decide +kernel
theorem dESC_91 : decode prog_18_method_4_code 91 = .ok (.areturn, 1) := by decide +kernel
theorem pnESC : plainFor (⟨"com/example/causeway_health/causewayhealth/convert/Delimiters", "escape", "(Ljava/lang/String;)Ljava/lang/String;"⟩ : MethodName) = true := plainFor_of_name (by first | (simp [plainName, overriddenIn]; done) | decide +kernel)
set_option maxRecDepth 65536 in
set_option maxHeartbeats 40000000 in
theorem loop_ESC (hw : ∀ d ∈ tables_1, d.before a0 Z = true) {cz : Int32} (hc : Compact Z cz) (hu16 : U16 Z) {vf : Value} (hf : Fmt Z vf) {d q b : Addr} {f s r e t : UInt16} {us : List UInt16} (h3 : us.length ≤ 3) {sr : Addr} :
    ∀ (k i : Nat), i + k = us.length → ∀ (h1 : Heap) (mn : List Addr) (v : Addr) (C : Nat) (l6 l7 : Slot), one (some l6) = true → one (some l7) = true → (∀ x ∈ mine, x ∈ mn) → DL Z h1 d f s r e t → d ∉ mn → ArI Z h1 q .char (us.map chv) → q ∉ mn → SB Z h1 b v ((us.take i).flatMap (esc1 f s r e t)) C → C ≤ 18 → b ∈ mn → v ∈ mn → h.size ≤ b → h.size ≤ v →
    WP "com/example/causeway_health/causewayhealth/convert/Delimiters" prog_18_method_4_code 8 (some (.object "java/lang/String")) "escape" { frames := 8, cells := 32, slots := 1127, locals := 115 } Z LT h [] mine (fun w h' nw => nw = [] ∧ ∃ o, w = some (.ref o) ∧ FStr Z h' mine o (us.flatMap (esc1 f s r e t))) mn (3 + 9 * i) (10 + 365 * i) h1 24 [.val (.ref d), .val (.ref sr), .val (.ref b), .val (.ref q), .val (.int (Int32.ofNat us.length)), .val (.int (Int32.ofNat i)), l6, l7] [] := by
  intro k
  induction k with
  | zero =>
    intro i hi h1 mn v C l6 l7 o6 o7 hmm D hd A hq B hC hb hv hbz hvz
    obtain rfl : i = us.length := by omega
    rw [List.take_length] at B
    have hl := esc_len (f := f) (s := s) (r := r) (e := e) (t := t) us
    refine WP.iload (pc' := 26) dESC_24 rfl rfl ?_
    refine WP.iload (pc' := 28) dESC_26 rfl rfl ?_
    refine WP.icmpT (pc' := 87) dESC_28 (by decide) (by decide) (fun q => Nat.lt_irrefl _ ((n32_lt (by omega) (by omega)).mp q)) ?_
    refine WP.aloadN (pc' := 88) dESC_87 rfl rfl rfl ?_
    refine WP.callV (pc' := 91) (con_TOS hw hc (N := 18) B (by omega) (by omega)) B.exa (hw _ (List.mem_of_getElem? (i := 100) rfl)) (hw _ (List.mem_of_getElem? (i := 101) rfl)) (fun s hs => notFace_of_selects (args := #[]) (mv hs (hw _ (List.mem_of_getElem? (i := 103) rfl)))) (hw _ (List.mem_of_getElem? (i := 103) rfl)) (hw _ (List.mem_of_getElem? (i := 102) rfl)) (hw _ (List.mem_of_getElem? (i := 56) rfl)) (hw _ (List.mem_of_getElem? (i := 104) rfl)) dESC_88 (by decide) pdx34 rfl rfl rfl (by first | exact Nat.le_of_ble_eq_true rfl | omega | (simp; done) | (simp; omega) | (dsimp only; omega)) (by first | exact Nat.le_of_ble_eq_true rfl | omega | (simp; done) | (simp; omega) | (dsimp only; omega)) (by first | exact Nat.le_of_ble_eq_true rfl | omega | (simp; done) | (simp; omega) | (dsimp only; omega)) (by first | exact Nat.le_of_ble_eq_true rfl | omega | (simp; done) | (simp; omega) | (dsimp only; omega)) (fun _ hx => nomatch hx) rfl ?_
    rintro w h2 nw K hnw ⟨rfl, o, rfl, F⟩
    dsimp only [Option.toList, List.cons_append, List.nil_append]
    exact WP.areturn dESC_91 rfl rfl rfl ⟨rfl, o, rfl, F.mono hmm⟩ (fun _ hx => nomatch hx) hmm (by dsimp only; omega) (by dsimp only; omega)
  | succ k ih =>
    intro i hi h1 mn v C l6 l7 o6 o7 hmm D hd A hq B hC hb hv hbz hvz
    have hil : i < us.length := by omega
    obtain ⟨c, hu⟩ : ∃ c, us[i]? = some c := ⟨us[i], List.getElem?_eq_getElem hil⟩
    have hl := esc_len (f := f) (s := s) (r := r) (e := e) (t := t) (us.take i)
    rw [List.length_take] at hl
    have hfm : (us.take (i + 1)).flatMap (esc1 f s r e t) = (us.take i).flatMap (esc1 f s r e t) ++ esc1 f s r e t c := by rw [take_succ' hu]; simp
    refine WP.iload (pc' := 26) dESC_24 rfl rfl ?_
    refine WP.iload (pc' := 28) dESC_26 rfl rfl ?_
    refine WP.icmpF (pc' := 31) dESC_28 rfl ((n32_lt (by omega) (by omega)).mpr hil) ?_
    refine WP.aloadN (pc' := 32) dESC_31 rfl rfl rfl ?_
    refine WP.iload (pc' := 34) dESC_32 rfl rfl ?_
    refine WP.caload (pc' := 35) dESC_34 A (n32_toInt (by omega)) (x := chv c) (by simp [hu]) rfl ?_
    refine WP.istore (pc' := 37) dESC_35 o6 rfl rfl ?_
    dsimp only [List.set]
    refine WP.aloadN (pc' := 38) dESC_37 rfl rfl rfl ?_
    refine WP.iload (pc' := 40) dESC_38 rfl rfl ?_
    refine WP.callP (pc' := 43) (con_LFO hw hc hu16 hf (c := c) D) D.1.cell (hw _ (List.mem_of_getElem? (i := 166) rfl)) (hw _ (List.mem_of_getElem? (i := 167) rfl)) (hw _ (List.mem_of_getElem? (i := 168) rfl)) (hw _ (List.mem_of_getElem? (i := 28) rfl)) (hw _ (List.mem_of_getElem? (i := 29) rfl)) (hw _ (List.mem_of_getElem? (i := 169) rfl)) dESC_40 (by decide) pdx33 rfl rfl rfl (by first | exact Nat.le_of_ble_eq_true rfl | omega | (simp; done) | (simp; omega) | (dsimp only; omega)) (by first | exact Nat.le_of_ble_eq_true rfl | omega | (simp; done) | (simp; omega) | (dsimp only; omega)) (by first | exact Nat.le_of_ble_eq_true rfl | omega | (simp; done) | (simp; omega) | (dsimp only; omega)) (by first | exact Nat.le_of_ble_eq_true rfl | omega | (simp; done) | (simp; omega) | (dsimp only; omega)) (fun _ hx => nomatch hx) rfl ?_
    rintro w h2 nw2 K2 hnw2 ⟨rfl, rfl⟩
    dsimp only [Option.toList, List.cons_append, List.nil_append]
    replace D := D.keep K2 nin0
    replace A := A.keep K2 nin0
    replace B := B.keep K2 nin0 nin0
    refine WP.istore (pc' := 45) dESC_43 o7 rfl rfl ?_
    dsimp only [List.set]
    refine WP.iload (pc' := 47) dESC_45 rfl rfl ?_
    refine WP.know fun _ kz _ => ?_
    have hh2 := kz.1
    have sub : ∀ {mn : List Addr} {b v x : Addr}, b ∈ mn → v ∈ mn → x ∉ mn → x ∉ [b, v] := fun hb hv hx q => by
      rcases List.mem_cons.mp q with rfl | q
      · exact hx hb
      · exact hx (List.mem_singleton.mp q ▸ hv)
    have out : ∀ {mn nw : List Addr} {x : Addr} {H : Heap}, x < H.size → (∀ y ∈ nw, H.size ≤ y) → x ∉ mn → x ∉ nw ++ mn := fun hx hn hm q => (List.mem_append.mp q).elim (fun r => absurd hx (Nat.not_lt.mpr (hn _ r))) hm
    by_cases h0 : ltr c f s r e t = 0
    · have he : esc1 f s r e t c = [c] := by rw [esc1, if_pos h0]
      refine WP.ifF (pc' := 50) dESC_47 rfl (chv_0.mpr h0) ?_
      refine WP.aloadN (pc' := 51) dESC_50 rfl rfl rfl ?_
      refine WP.iload (pc' := 53) dESC_51 rfl rfl ?_
      refine WP.callV (pc' := 56) (con_SAP hw hc hu16 hf (K := 8) (u := c) B (by omega) hC (by omega) hb hv) B.exa (hw _ (List.mem_of_getElem? (i := 175) rfl)) (hw _ (List.mem_of_getElem? (i := 176) rfl)) (fun s hs => notFace_of_selects (args := #[]) (mv hs (hw _ (List.mem_of_getElem? (i := 178) rfl)))) (hw _ (List.mem_of_getElem? (i := 178) rfl)) (hw _ (List.mem_of_getElem? (i := 177) rfl)) (hw _ (List.mem_of_getElem? (i := 56) rfl)) (hw _ (List.mem_of_getElem? (i := 179) rfl)) dESC_53 (by decide) pdx35 rfl rfl rfl (by first | exact Nat.le_of_ble_eq_true rfl | omega | (simp; done) | (simp; omega) | (dsimp only; omega)) (by first | exact Nat.le_of_ble_eq_true rfl | omega | (simp; done) | (simp; omega) | (dsimp only; omega)) (by first | exact Nat.le_of_ble_eq_true rfl | omega | (simp; done) | (simp; omega) | (dsimp only; omega)) (by first | exact Nat.le_of_ble_eq_true rfl | omega | (simp; done) | (simp; omega) | (dsimp only; omega)) (fun x hx => by rcases List.mem_cons.mp hx with rfl | hx; exact Or.inr hbz; cases List.mem_singleton.mp hx; exact Or.inr hvz) rfl ?_
      rintro w h3 nw3 K3 hnw3 ⟨rfl, v', C', hv', hz', B3, hC'⟩
      dsimp only [Option.toList, List.cons_append, List.nil_append]
      refine WP.pop (pc' := 57) dESC_56 rfl rfl ?_
      refine WP.goto (pc' := 81) dESC_57 (by decide) (by decide) ?_
      refine WP.iinc (pc' := 84) dESC_81 rfl rfl rfl rfl ?_
      dsimp only [List.set]
      refine WP.goto (pc' := 24) dESC_84 (by decide) (by decide) ?_
      rw [show Int32.ofNat i + Int32.ofInt 1 = Int32.ofNat (i + 1) from n32_succ i]
      refine WP.more (ce' := 3 + 9 * (i + 1)) (sl' := 10 + 365 * (i + 1)) ?_ (by omega) (by omega)
      exact ih (i + 1) (by omega) h3 _ v' C' _ _ rfl rfl (fun x hx => List.mem_append.mpr (Or.inr (hmm x hx))) (D.keep K3 (sub hb hv hd)) (out D.1.lt hnw3 hd) (A.keep K3 (sub hb hv hq)) (out A.lt hnw3 hq) (by rw [hfm, he]; exact B3) hC' (List.mem_append.mpr (Or.inr hb)) hv' hbz (hz'.elim (fun z => z ▸ hvz) (fun z => Nat.le_trans hh2 z))
    · have he : esc1 f s r e t c = [e, ltr c f s r e t, e] := by rw [esc1, if_neg h0]
      refine WP.ifT (pc' := 60) dESC_47 (by decide) (by decide) (fun z => h0 (chv_0.mp z)) ?_
      refine WP.aloadN (pc' := 61) dESC_60 rfl rfl rfl ?_
      refine WP.aloadN (pc' := 62) dESC_61 rfl rfl rfl ?_
      refine WP.getfield (pc' := 65) (host := "") dESC_62 (Or.inl (hw _ (List.mem_of_getElem? (i := 45) rfl))) Via.refl D.2.2.2.2.1 rfl ?_
      refine WP.callV (pc' := 68) (con_SAP hw hc hu16 hf (K := 8) (u := e) B (by omega) hC (by omega) hb hv) B.exa (hw _ (List.mem_of_getElem? (i := 175) rfl)) (hw _ (List.mem_of_getElem? (i := 176) rfl)) (fun s hs => notFace_of_selects (args := #[]) (mv hs (hw _ (List.mem_of_getElem? (i := 178) rfl)))) (hw _ (List.mem_of_getElem? (i := 178) rfl)) (hw _ (List.mem_of_getElem? (i := 177) rfl)) (hw _ (List.mem_of_getElem? (i := 56) rfl)) (hw _ (List.mem_of_getElem? (i := 179) rfl)) dESC_65 (by decide) pdx35 rfl rfl rfl (by first | exact Nat.le_of_ble_eq_true rfl | omega | (simp; done) | (simp; omega) | (dsimp only; omega)) (by first | exact Nat.le_of_ble_eq_true rfl | omega | (simp; done) | (simp; omega) | (dsimp only; omega)) (by first | exact Nat.le_of_ble_eq_true rfl | omega | (simp; done) | (simp; omega) | (dsimp only; omega)) (by first | exact Nat.le_of_ble_eq_true rfl | omega | (simp; done) | (simp; omega) | (dsimp only; omega)) (fun x hx => by rcases List.mem_cons.mp hx with rfl | hx; exact Or.inr hbz; cases List.mem_singleton.mp hx; exact Or.inr hvz) rfl ?_
      rintro w h3 nw3 K3 hnw3 ⟨rfl, v3, C3, hv3, hz3, B3, hC3⟩
      dsimp only [Option.toList, List.cons_append, List.nil_append]
      have hd3 := out D.1.lt hnw3 hd
      have hq3 := out A.lt hnw3 hq
      replace D := D.keep K3 (sub hb hv hd)
      replace A := A.keep K3 (sub hb hv hq)
      have hb3 : b ∈ nw3 ++ mn := List.mem_append.mpr (Or.inr hb)
      have hvz3 : h.size ≤ v3 := hz3.elim (fun z => z ▸ hvz) (fun z => Nat.le_trans hh2 z)
      have hh3 := Nat.le_trans hh2 K3.1
      refine WP.iload (pc' := 70) dESC_68 rfl rfl ?_
      refine WP.callV (pc' := 73) (con_SAP hw hc hu16 hf (K := 8) (u := ltr c f s r e t) B3 (by simp only [List.length_append, List.length_cons, List.length_nil]; omega) hC3 (by omega) hb3 hv3) B3.exa (hw _ (List.mem_of_getElem? (i := 175) rfl)) (hw _ (List.mem_of_getElem? (i := 176) rfl)) (fun s hs => notFace_of_selects (args := #[]) (mv hs (hw _ (List.mem_of_getElem? (i := 178) rfl)))) (hw _ (List.mem_of_getElem? (i := 178) rfl)) (hw _ (List.mem_of_getElem? (i := 177) rfl)) (hw _ (List.mem_of_getElem? (i := 56) rfl)) (hw _ (List.mem_of_getElem? (i := 179) rfl)) dESC_70 (by decide) pdx35 rfl rfl rfl (by first | exact Nat.le_of_ble_eq_true rfl | omega | (simp; done) | (simp; omega) | (dsimp only; omega)) (by first | exact Nat.le_of_ble_eq_true rfl | omega | (simp; done) | (simp; omega) | (dsimp only; omega)) (by first | exact Nat.le_of_ble_eq_true rfl | omega | (simp; done) | (simp; omega) | (dsimp only; omega)) (by first | exact Nat.le_of_ble_eq_true rfl | omega | (simp; done) | (simp; omega) | (dsimp only; omega)) (fun x hx => by rcases List.mem_cons.mp hx with rfl | hx; exact Or.inr hbz; cases List.mem_singleton.mp hx; exact Or.inr hvz3) rfl ?_
      rintro w h4 nw4 K4 hnw4 ⟨rfl, v4, C4, hv4, hz4, B4, hC4⟩
      dsimp only [Option.toList, List.cons_append, List.nil_append]
      have hd4 := out D.1.lt hnw4 hd3
      have hq4 := out A.lt hnw4 hq3
      replace D := D.keep K4 (sub hb3 hv3 hd3)
      replace A := A.keep K4 (sub hb3 hv3 hq3)
      have hb4 : b ∈ nw4 ++ (nw3 ++ mn) := List.mem_append.mpr (Or.inr hb3)
      have hvz4 : h.size ≤ v4 := hz4.elim (fun z => z ▸ hvz3) (fun z => Nat.le_trans hh3 z)
      have hh4 := Nat.le_trans hh3 K4.1
      refine WP.aloadN (pc' := 74) dESC_73 rfl rfl rfl ?_
      refine WP.getfield (pc' := 77) (host := "") dESC_74 (Or.inl (hw _ (List.mem_of_getElem? (i := 45) rfl))) Via.refl D.2.2.2.2.1 rfl ?_
      refine WP.callV (pc' := 80) (con_SAP hw hc hu16 hf (K := 8) (u := e) B4 (by simp only [List.length_append, List.length_cons, List.length_nil]; omega) hC4 (by omega) hb4 hv4) B4.exa (hw _ (List.mem_of_getElem? (i := 175) rfl)) (hw _ (List.mem_of_getElem? (i := 176) rfl)) (fun s hs => notFace_of_selects (args := #[]) (mv hs (hw _ (List.mem_of_getElem? (i := 178) rfl)))) (hw _ (List.mem_of_getElem? (i := 178) rfl)) (hw _ (List.mem_of_getElem? (i := 177) rfl)) (hw _ (List.mem_of_getElem? (i := 56) rfl)) (hw _ (List.mem_of_getElem? (i := 179) rfl)) dESC_77 (by decide) pdx35 rfl rfl rfl (by first | exact Nat.le_of_ble_eq_true rfl | omega | (simp; done) | (simp; omega) | (dsimp only; omega)) (by first | exact Nat.le_of_ble_eq_true rfl | omega | (simp; done) | (simp; omega) | (dsimp only; omega)) (by first | exact Nat.le_of_ble_eq_true rfl | omega | (simp; done) | (simp; omega) | (dsimp only; omega)) (by first | exact Nat.le_of_ble_eq_true rfl | omega | (simp; done) | (simp; omega) | (dsimp only; omega)) (fun x hx => by rcases List.mem_cons.mp hx with rfl | hx; exact Or.inr hbz; cases List.mem_singleton.mp hx; exact Or.inr hvz4) rfl ?_
      rintro w h5 nw5 K5 hnw5 ⟨rfl, v5, C5, hv5, hz5, B5, hC5⟩
      dsimp only [Option.toList, List.cons_append, List.nil_append]
      refine WP.pop (pc' := 81) dESC_80 rfl rfl ?_
      refine WP.iinc (pc' := 84) dESC_81 rfl rfl rfl rfl ?_
      dsimp only [List.set]
      refine WP.goto (pc' := 24) dESC_84 (by decide) (by decide) ?_
      rw [show Int32.ofNat i + Int32.ofInt 1 = Int32.ofNat (i + 1) from n32_succ i]
      refine WP.more (ce' := 3 + 9 * (i + 1)) (sl' := 10 + 365 * (i + 1)) ?_ (by omega) (by omega)
      exact ih (i + 1) (by omega) h5 _ v5 C5 _ _ rfl rfl (fun x hx => List.mem_append.mpr (Or.inr (List.mem_append.mpr (Or.inr (List.mem_append.mpr (Or.inr (hmm x hx))))))) (D.keep K5 (sub hb4 hv4 hd4)) (out D.1.lt hnw5 hd4) (A.keep K5 (sub hb4 hv4 hq4)) (out A.lt hnw5 hq4) (by rw [hfm, he]; simpa using B5) hC5 (List.mem_append.mpr (Or.inr hb4)) hv5 hbz (hz5.elim (fun z => z ▸ hvz4) (fun z => Nat.le_trans hh4 z))
set_option maxRecDepth 65536 in
set_option maxHeartbeats 40000000 in
theorem con_ESC (hw : ∀ d ∈ tables_1, d.before a0 Z = true) {cz : Int32} (hc : Compact Z cz) (hu16 : U16 Z) {vf : Value} (hf : Fmt Z vf) {d sr : Addr} {f s r e t : UInt16} {us : List UInt16} (h3 : us.length ≤ 3) (D : DL Z h d f s r e t) (hd : d ∉ mine) (S : FStr Z h mine sr us) : Con (⟨"com/example/causeway_health/causewayhealth/convert/Delimiters", "escape", "(Ljava/lang/String;)Ljava/lang/String;"⟩ : MethodName) prog_18_method_4_code 8 (some (.object "java/lang/String")) { frames := 8, cells := 32, slots := 1127, locals := 115 } Z LT [] #[.ref d, .ref sr] h [] mine (fun w h' nw => nw = [] ∧ ∃ o, w = some (.ref o) ∧ FStr Z h' mine o (us.flatMap (esc1 f s r e t))) := by
  refine Con.of pnESC (Ls := [.val (.ref d), .val (.ref sr), .unset, .unset, .unset, .unset, .unset, .unset]) (fun m => by first | (simp [entryFrame, mkF, argsToLocals, Value.category]; done) | (simp [entryFrame, mkF, argsToLocals, Value.category, maxLocals]; done) | rfl) ?_
  refine WP.know fun _ _ hmine => ?_
  refine WP.new (pc' := 3) dESC_0 (hw _ (List.mem_of_getElem? (i := 54) rfl)) (hw _ (List.mem_of_getElem? (i := 55) rfl)) (hw _ (List.mem_of_getElem? (i := 56) rfl)) (by first | exact Nat.le_of_ble_eq_true rfl | omega | (simp; done) | (simp; omega) | (dsimp only; omega)) (by first | exact Nat.le_of_ble_eq_true rfl | omega | (simp; done) | (simp; omega) | (dsimp only; omega)) rfl ?_
  intro h1 b eb nb mb E1 X Dn
  have F1 : Fld Z h1 b ASBN "value" "[B" .null := Dn (Or.inl (hw _ (List.mem_of_getElem? (i := 80) rfl))) (ty := .array .byte) (by decide)
  have F2 : Fld Z h1 b ASBN "coder" "B" (.int 0) := Dn (Or.inl (hw _ (List.mem_of_getElem? (i := 82) rfl))) (ty := .byte) (by decide)
  have F3 : Fld Z h1 b ASBN "count" "I" (.int 0) := Dn (Or.inl (hw _ (List.mem_of_getElem? (i := 127) rfl))) (ty := .int) (by decide)
  have F4 : ML Z h1 b := Dn (Or.inl (hw _ (List.mem_of_getElem? (i := 297) rfl))) (ty := .boolean) (by decide)
  have ndb : d ≠ b := fun q => absurd D.1.lt (Nat.not_lt.mpr (by rw [q, eb]; exact Nat.le_refl _))
  replace S := S.new E1 eb
  replace D := D.ext E1
  obtain ⟨ts, S0, ns1, ns2⟩ := id S
  refine WP.dup (pc' := 4) dESC_3 rfl rfl ?_
  refine WP.aloadN (pc' := 5) dESC_4 rfl rfl rfl ?_
  refine WP.callV (pc' := 8) (con_LEN hw hc S0) S0.1 (hw _ (List.mem_of_getElem? (i := 57) rfl)) (hw _ (List.mem_of_getElem? (i := 58) rfl)) (fun s hs => notFace_of_selects (args := #[]) (mv hs (hw _ (List.mem_of_getElem? (i := 60) rfl)))) (hw _ (List.mem_of_getElem? (i := 60) rfl)) (hw _ (List.mem_of_getElem? (i := 59) rfl)) (hw _ (List.mem_of_getElem? (i := 7) rfl)) (hw _ (List.mem_of_getElem? (i := 61) rfl)) dESC_5 (by decide) pdx25 rfl rfl rfl (by first | exact Nat.le_of_ble_eq_true rfl | omega | (simp; done) | (simp; omega) | (dsimp only; omega)) (by first | exact Nat.le_of_ble_eq_true rfl | omega | (simp; done) | (simp; omega) | (dsimp only; omega)) (by first | exact Nat.le_of_ble_eq_true rfl | omega | (simp; done) | (simp; omega) | (dsimp only; omega)) (by first | exact Nat.le_of_ble_eq_true rfl | omega | (simp; done) | (simp; omega) | (dsimp only; omega)) (fun _ hx => nomatch hx) rfl ?_
  rintro w h2 nw K2 hnw2 ⟨rfl, rfl, rfl⟩
  dsimp only [Option.toList, List.cons_append, List.nil_append]
  refine WP.callSp (pc' := 11) (con_SBI hw hc (C := us.length) (by omega) X F1 F2 F3 F4 (List.mem_cons_self ..)) rfl (hw _ (List.mem_of_getElem? (i := 68) rfl)) (hw _ (List.mem_of_getElem? (i := 69) rfl)) (hw _ (List.mem_of_getElem? (i := 56) rfl)) (hw _ (List.mem_of_getElem? (i := 70) rfl)) dESC_8 (by decide) pdx19 rfl rfl rfl (by first | exact Nat.le_of_ble_eq_true rfl | omega | (simp; done) | (simp; omega) | (dsimp only; omega)) (by first | exact Nat.le_of_ble_eq_true rfl | omega | (simp; done) | (simp; omega) | (dsimp only; omega)) (by first | exact Nat.le_of_ble_eq_true rfl | omega | (simp; done) | (simp; omega) | (dsimp only; omega)) (by first | exact Nat.le_of_ble_eq_true rfl | omega | (simp; done) | (simp; omega) | (dsimp only; omega)) (fun x hx => by cases List.mem_singleton.mp hx; exact Or.inr mb) rfl ?_
  rintro w h3' nw K3 hnw3 ⟨v, rfl, rfl, B⟩
  dsimp only [Option.toList, List.cons_append, List.nil_append]
  have hv3 := hnw3 v (by simp)
  have wb : ∀ x ∈ [b], x ∈ b :: mine := fun x hx => by cases List.mem_singleton.mp hx; exact List.mem_cons_self ..
  have ndv : d ≠ v := fun q => absurd D.1.lt (Nat.not_lt.mpr (q ▸ hv3))
  replace S := S.call K3 wb hnw3
  replace D := D.keep K3 (fun q => ndb (List.mem_singleton.mp q))
  obtain ⟨ts, S0, ns1, ns2⟩ := id S
  refine WP.astoreN (pc' := 12) dESC_11 rfl rfl rfl rfl rfl ?_
  dsimp only [List.set]
  refine WP.aloadN (pc' := 13) dESC_12 rfl rfl rfl ?_
  refine WP.callV (pc' := 16) (con_TCA hw hc hu16 hf (N := 3) h3 (by omega) S0) S0.1 (hw _ (List.mem_of_getElem? (i := 83) rfl)) (hw _ (List.mem_of_getElem? (i := 84) rfl)) (fun s hs => notFace_of_selects (args := #[]) (mv hs (hw _ (List.mem_of_getElem? (i := 86) rfl)))) (hw _ (List.mem_of_getElem? (i := 86) rfl)) (hw _ (List.mem_of_getElem? (i := 85) rfl)) (hw _ (List.mem_of_getElem? (i := 7) rfl)) (hw _ (List.mem_of_getElem? (i := 87) rfl)) dESC_13 (by decide) pdx32 rfl rfl rfl (by first | exact Nat.le_of_ble_eq_true rfl | omega | (simp; done) | (simp; omega) | (dsimp only; omega)) (by first | exact Nat.le_of_ble_eq_true rfl | omega | (simp; done) | (simp; omega) | (dsimp only; omega)) (by first | exact Nat.le_of_ble_eq_true rfl | omega | (simp; done) | (simp; omega) | (dsimp only; omega)) (by first | exact Nat.le_of_ble_eq_true rfl | omega | (simp; done) | (simp; omega) | (dsimp only; omega)) (fun _ hx => nomatch hx) rfl ?_
  rintro w h4 nw K4 hnw4 ⟨q, rfl, rfl, A⟩
  dsimp only [Option.toList, List.cons_append, List.nil_append]
  have hq4 := hnw4 q (by simp)
  have hnq : q ∉ v :: b :: mine := fun z => absurd (show q < h3'.size from by
    rcases List.mem_cons.mp z with rfl | z
    · exact B.2.2.2.2.2.1.lt
    · rcases List.mem_cons.mp z with rfl | z
      · exact B.1.lt
      · exact Nat.lt_of_lt_of_le (Nat.lt_of_lt_of_le (hmine q z).2 E1.1) K3.1) (Nat.not_lt.mpr hq4)
  refine WP.freeze (mine' := v :: b :: mine) ?_ (fun x hx => List.mem_cons_of_mem _ hx)
  refine WP.astoreN (pc' := 17) dESC_16 rfl rfl rfl rfl rfl ?_
  dsimp only [List.set]
  refine WP.aloadN (pc' := 18) dESC_17 rfl rfl rfl ?_
  refine WP.arraylength (pc' := 19) dESC_18 A (n := Int32.ofNat us.length) (by simp) rfl ?_
  refine WP.istore (pc' := 21) dESC_19 rfl rfl rfl ?_
  dsimp only [List.set]
  refine WP.iconst (pc' := 22) (x := 0) dESC_21 (by decide) rfl ?_
  refine WP.istore (pc' := 24) dESC_22 rfl rfl rfl ?_
  dsimp only [List.set]
  refine WP.more (ce' := 3 + 9 * 0) (sl' := 10 + 365 * 0) ?_ (by omega) (by omega)
  have B4 := B.keep K4 nin0 nin0
  exact loop_ESC hw hc hu16 hf h3 us.length 0 (by omega) h4 _ v us.length _ _ rfl rfl (fun x hx => List.mem_cons_of_mem _ (List.mem_cons_of_mem _ hx)) (D.keep K4 nin0) (fun z => by
    rcases List.mem_cons.mp z with z | z
    · exact ndv z
    · exact (List.mem_cons.mp z).elim ndb hd) A hnq ⟨List.replicate us.length 0, by simpa [byt, lat, cod] using B4, by simp [byt, lat, wid]⟩ (by omega) (by simp) (by simp) mb (Nat.le_trans (Nat.le_trans (Nat.le_of_eq eb.symm |> fun _ => mb) (Nat.le_of_lt X.lt)) hv3)
end Esc
end Jvm.Pilot.@@N@@

namespace Jvm.Pilot.@@N@@
open Jvm Jvm.ClassFile Sem Op Lib Jvm.Free Jvm.Stand Jvm.LawKit Jvm.RoadKit Bundle Jvm.Pilot.@@N@@.Jvm.D Jvm.OwnW
theorem pdx36 : parseMethodDescriptor "(I)C" = some ⟨[.int], some .char⟩ := by decide +kernel
theorem pdx37 : parseMethodDescriptor "(CCCCC)V" = some ⟨[.char, .char, .char, .char, .char], none⟩ := by decide +kernel
theorem pdx38 : parseMethodDescriptor "(Ljava/lang/String;)Ljava/lang/String;" = some ⟨[(.object "java/lang/String")], some (.object "java/lang/String")⟩ := by decide +kernel
theorem pdx39 : parseMethodDescriptor "(Ljava/lang/String;[CII)Z" = some ⟨[(.object "java/lang/String"), (.array .char), .int, .int], some .boolean⟩ := by decide +kernel
theorem pdx40 : parseMethodDescriptor "(CCCCCC)C" = some ⟨[.char, .char, .char, .char, .char, .char], some .char⟩ := by decide +kernel
theorem pdx41 : parseMethodDescriptor "([CICCC)I" = some ⟨[(.array .char), .int, .char, .char, .char], some .int⟩ := by decide +kernel
theorem pdx42 : parseMethodDescriptor "(ICCCCCC)C" = some ⟨[.int, .char, .char, .char, .char, .char, .char], some .char⟩ := by decide +kernel
theorem pdx43 : parseMethodDescriptor "([C)V" = some ⟨[(.array .char)], none⟩ := by decide +kernel
section LawBodies
variable {Z : State} {a0 : Array Value} {h : Heap} {mine : List Addr}
theorem dPK_0 : decode method_3_code 0 = .ok (.iload_n 0, 1) := by decide +kernel
theorem dPK_1 : decode method_3_code 1 = .ok (.ifCond .ne 5, 3) := by decide +kernel
theorem dPK_4 : decode method_3_code 4 = .ok (.iload_n 2, 1) := by decide +kernel
theorem dPK_5 : decode method_3_code 5 = .ok (.ireturn, 1) := by decide +kernel
theorem dPK_6 : decode method_3_code 6 = .ok (.iload_n 0, 1) := by decide +kernel
theorem dPK_7 : decode method_3_code 7 = .ok (.iconst 1, 1) := by decide +kernel
theorem dPK_8 : decode method_3_code 8 = .ok (.if_icmp .ne 5, 3) := by decide +kernel
theorem dPK_11 : decode method_3_code 11 = .ok (.iload_n 3, 1) := by decide +kernel
theorem dPK_12 : decode method_3_code 12 = .ok (.ireturn, 1) := by decide +kernel
theorem dPK_13 : decode method_3_code 13 = .ok (.iload_n 0, 1) := by decide +kernel
theorem dPK_14 : decode method_3_code 14 = .ok (.iconst 2, 1) := by decide +kernel
theorem dPK_15 : decode method_3_code 15 = .ok (.if_icmp .ne 6, 3) := by decide +kernel
theorem dPK_18 : decode method_3_code 18 = .ok (.iload 4, 2) := by decide +kernel
theorem dPK_20 : decode method_3_code 20 = .ok (.ireturn, 1) := by decide +kernel
theorem dPK_21 : decode method_3_code 21 = .ok (.iload_n 0, 1) := by decide +kernel
theorem dPK_22 : decode method_3_code 22 = .ok (.iconst 3, 1) := by decide +kernel
theorem dPK_23 : decode method_3_code 23 = .ok (.if_icmp .ne 6, 3) := by decide +kernel
theorem dPK_26 : decode method_3_code 26 = .ok (.iload 5, 2) := by decide +kernel
theorem dPK_28 : decode method_3_code 28 = .ok (.ireturn, 1) := by decide +kernel
theorem dPK_29 : decode method_3_code 29 = .ok (.iload_n 0, 1) := by decide +kernel
theorem dPK_30 : decode method_3_code 30 = .ok (.iconst 4, 1) := by decide +kernel
theorem dPK_31 : decode method_3_code 31 = .ok (.if_icmp .ne 6, 3) := by decide +kernel
theorem dPK_34 : decode method_3_code 34 = .ok (.iload 6, 2) := by decide +kernel
theorem dPK_36 : decode method_3_code 36 = .ok (.ireturn, 1) := by decide +kernel
theorem dPK_37 : decode method_3_code 37 = .ok (.iload_n 1, 1) := by decide +kernel
theorem dPK_38 : decode method_3_code 38 = .ok (.ireturn, 1) := by decide +kernel
theorem pnPK : plainFor (⟨"com/example/causeway_health/causewayhealth/convert/DelimitersEscapePinLaw", "pick", "(ICCCCCC)C"⟩ : MethodName) = true := plainFor_of_name (by first | (simp [plainName, overriddenIn]; done) | decide +kernel)
set_option maxRecDepth 65536 in
set_option maxHeartbeats 40000000 in
theorem con_PK {i : Int32} {g f s r e t : UInt16} : Con (⟨"com/example/causeway_health/causewayhealth/convert/DelimitersEscapePinLaw", "pick", "(ICCCCCC)C"⟩ : MethodName) method_3_code 7 (some .char) R0 Z LT [] #[.int i, .int (chv g), .int (chv f), .int (chv s), .int (chv r), .int (chv e), .int (chv t)] h [] mine (fun v h' nw => nw = [] ∧ (∃ u, v = some (.int (chv u))) ∧ h' = h) := by
  refine Con.of pnPK (Ls := [.val (.int i), .val (.int (chv g)), .val (.int (chv f)), .val (.int (chv s)), .val (.int (chv r)), .val (.int (chv e)), .val (.int (chv t))]) (fun m => by first | (simp [entryFrame, mkF, argsToLocals, Value.category]; done) | (simp [entryFrame, mkF, argsToLocals, Value.category, maxLocals]; done) | rfl) ?_
  refine WP.iloadN (pc' := 1) dPK_0 rfl rfl ?_
  refine WP.ifC (pc' := 6) (pc2 := 4) dPK_1 (by decide) (by decide) rfl (fun h1 => ?_) (fun h1 => ?_)
  · refine WP.iloadN (pc' := 7) dPK_6 rfl rfl ?_
    refine WP.iconst (pc' := 8) (x := 1) dPK_7 (by decide) rfl ?_
    refine WP.icmp (pc' := 13) (pc2 := 11) dPK_8 (by decide) (by decide) rfl (fun h2 => ?_) (fun h2 => ?_)
    · refine WP.iloadN (pc' := 14) dPK_13 rfl rfl ?_
      refine WP.iconst (pc' := 15) (x := 2) dPK_14 (by decide) rfl ?_
      refine WP.icmp (pc' := 21) (pc2 := 18) dPK_15 (by decide) (by decide) rfl (fun h3 => ?_) (fun h3 => ?_)
      · refine WP.iloadN (pc' := 22) dPK_21 rfl rfl ?_
        refine WP.iconst (pc' := 23) (x := 3) dPK_22 (by decide) rfl ?_
        refine WP.icmp (pc' := 29) (pc2 := 26) dPK_23 (by decide) (by decide) rfl (fun h4 => ?_) (fun h4 => ?_)
        · refine WP.iloadN (pc' := 30) dPK_29 rfl rfl ?_
          refine WP.iconst (pc' := 31) (x := 4) dPK_30 (by decide) rfl ?_
          refine WP.icmp (pc' := 37) (pc2 := 34) dPK_31 (by decide) (by decide) rfl (fun h5 => ?_) (fun h5 => ?_)
          · refine WP.iloadN (pc' := 38) dPK_37 rfl rfl ?_
            exact WP.ireturn dPK_38 rfl (by simp) (congrArg Value.int (chv_nar _)) ⟨rfl, ⟨_, rfl⟩, rfl⟩ (fun _ hx => nomatch hx) (fun _ hx => hx) (by first | exact Nat.le_of_ble_eq_true rfl | omega) (by first | exact Nat.le_of_ble_eq_true rfl | omega)
          · refine WP.iload (pc' := 36) dPK_34 rfl rfl ?_
            exact WP.ireturn dPK_36 rfl (by simp) (congrArg Value.int (chv_nar _)) ⟨rfl, ⟨_, rfl⟩, rfl⟩ (fun _ hx => nomatch hx) (fun _ hx => hx) (by first | exact Nat.le_of_ble_eq_true rfl | omega) (by first | exact Nat.le_of_ble_eq_true rfl | omega)
        · refine WP.iload (pc' := 28) dPK_26 rfl rfl ?_
          exact WP.ireturn dPK_28 rfl (by simp) (congrArg Value.int (chv_nar _)) ⟨rfl, ⟨_, rfl⟩, rfl⟩ (fun _ hx => nomatch hx) (fun _ hx => hx) (by first | exact Nat.le_of_ble_eq_true rfl | omega) (by first | exact Nat.le_of_ble_eq_true rfl | omega)
      · refine WP.iload (pc' := 20) dPK_18 rfl rfl ?_
        exact WP.ireturn dPK_20 rfl (by simp) (congrArg Value.int (chv_nar _)) ⟨rfl, ⟨_, rfl⟩, rfl⟩ (fun _ hx => nomatch hx) (fun _ hx => hx) (by first | exact Nat.le_of_ble_eq_true rfl | omega) (by first | exact Nat.le_of_ble_eq_true rfl | omega)
    · refine WP.iloadN (pc' := 12) dPK_11 rfl rfl ?_
      exact WP.ireturn dPK_12 rfl (by simp) (congrArg Value.int (chv_nar _)) ⟨rfl, ⟨_, rfl⟩, rfl⟩ (fun _ hx => nomatch hx) (fun _ hx => hx) (by first | exact Nat.le_of_ble_eq_true rfl | omega) (by first | exact Nat.le_of_ble_eq_true rfl | omega)
  · refine WP.iloadN (pc' := 5) dPK_4 rfl rfl ?_
    exact WP.ireturn dPK_5 rfl (by simp) (congrArg Value.int (chv_nar _)) ⟨rfl, ⟨_, rfl⟩, rfl⟩ (fun _ hx => nomatch hx) (fun _ hx => hx) (by first | exact Nat.le_of_ble_eq_true rfl | omega) (by first | exact Nat.le_of_ble_eq_true rfl | omega)
theorem dLTR_0 : decode method_4_code 0 = .ok (.iload_n 0, 1) := by decide +kernel
theorem dLTR_1 : decode method_4_code 1 = .ok (.iload_n 1, 1) := by decide +kernel
theorem dLTR_2 : decode method_4_code 2 = .ok (.if_icmp .ne 6, 3) := by decide +kernel
theorem dLTR_5 : decode method_4_code 5 = .ok (.bipush 70, 2) := by decide +kernel
theorem dLTR_7 : decode method_4_code 7 = .ok (.ireturn, 1) := by decide +kernel
theorem dLTR_8 : decode method_4_code 8 = .ok (.iload_n 0, 1) := by decide +kernel
theorem dLTR_9 : decode method_4_code 9 = .ok (.iload_n 2, 1) := by decide +kernel
theorem dLTR_10 : decode method_4_code 10 = .ok (.if_icmp .ne 6, 3) := by decide +kernel
theorem dLTR_13 : decode method_4_code 13 = .ok (.bipush 83, 2) := by decide +kernel
theorem dLTR_15 : decode method_4_code 15 = .ok (.ireturn, 1) := by decide +kernel
theorem dLTR_16 : decode method_4_code 16 = .ok (.iload_n 0, 1) := by decide +kernel
theorem dLTR_17 : decode method_4_code 17 = .ok (.iload 5, 2) := by decide +kernel
theorem dLTR_19 : decode method_4_code 19 = .ok (.if_icmp .ne 6, 3) := by decide +kernel
theorem dLTR_22 : decode method_4_code 22 = .ok (.bipush 84, 2) := by decide +kernel
theorem dLTR_24 : decode method_4_code 24 = .ok (.ireturn, 1) := by decide +kernel
theorem dLTR_25 : decode method_4_code 25 = .ok (.iload_n 0, 1) := by decide +kernel
theorem dLTR_26 : decode method_4_code 26 = .ok (.iload_n 3, 1) := by decide +kernel
theorem dLTR_27 : decode method_4_code 27 = .ok (.if_icmp .ne 6, 3) := by decide +kernel
theorem dLTR_30 : decode method_4_code 30 = .ok (.bipush 82, 2) := by decide +kernel
theorem dLTR_32 : decode method_4_code 32 = .ok (.ireturn, 1) := by decide +kernel
theorem dLTR_33 : decode method_4_code 33 = .ok (.iload_n 0, 1) := by decide +kernel
theorem dLTR_34 : decode method_4_code 34 = .ok (.iload 4, 2) := by decide +kernel
theorem dLTR_36 : decode method_4_code 36 = .ok (.if_icmp .ne 6, 3) := by decide +kernel
theorem dLTR_39 : decode method_4_code 39 = .ok (.bipush 69, 2) := by decide +kernel
theorem dLTR_41 : decode method_4_code 41 = .ok (.ireturn, 1) := by decide +kernel
theorem dLTR_42 : decode method_4_code 42 = .ok (.iconst 0, 1) := by decide +kernel
theorem dLTR_43 : decode method_4_code 43 = .ok (.ireturn, 1) := by decide +kernel
theorem pnLTR : plainFor (⟨"com/example/causeway_health/causewayhealth/convert/DelimitersEscapePinLaw", "letter", "(CCCCCC)C"⟩ : MethodName) = true := plainFor_of_name (by first | (simp [plainName, overriddenIn]; done) | decide +kernel)
set_option maxRecDepth 65536 in
set_option maxHeartbeats 40000000 in
theorem con_LTR {c f s r e t : UInt16} : Con (⟨"com/example/causeway_health/causewayhealth/convert/DelimitersEscapePinLaw", "letter", "(CCCCCC)C"⟩ : MethodName) method_4_code 6 (some .char) R0 Z LT [] #[.int (chv c), .int (chv f), .int (chv s), .int (chv r), .int (chv e), .int (chv t)] h [] mine (fun v h' nw => nw = [] ∧ v = some (.int (chv (ltr c f s r e t))) ∧ h' = h) := by
  refine Con.of pnLTR (Ls := [.val (.int (chv c)), .val (.int (chv f)), .val (.int (chv s)), .val (.int (chv r)), .val (.int (chv e)), .val (.int (chv t))]) (fun m => by first | (simp [entryFrame, mkF, argsToLocals, Value.category]; done) | (simp [entryFrame, mkF, argsToLocals, Value.category, maxLocals]; done) | rfl) ?_
  refine WP.iloadN (pc' := 1) dLTR_0 rfl rfl ?_
  refine WP.iloadN (pc' := 2) dLTR_1 rfl rfl ?_
  by_cases n0 : c = f
  · refine WP.icmpF (pc' := 5) dLTR_2 rfl (congrArg chv n0) ?_
    refine WP.bipush (pc' := 7) (x := 70) dLTR_5 (by decide) rfl ?_
    exact WP.ireturn dLTR_7 rfl (by simp) (by decide) ⟨rfl, by rw [ltr, if_pos n0]; rfl, rfl⟩ (fun _ hx => nomatch hx) (fun _ hx => hx) (by first | exact Nat.le_of_ble_eq_true rfl | omega) (by first | exact Nat.le_of_ble_eq_true rfl | omega)
  · refine WP.icmpT (pc' := 8) dLTR_2 (by decide) (by decide) (fun q => n0 (chv_inj q)) ?_
    refine WP.iloadN (pc' := 9) dLTR_8 rfl rfl ?_
    refine WP.iloadN (pc' := 10) dLTR_9 rfl rfl ?_
    by_cases n1 : c = s
    · refine WP.icmpF (pc' := 13) dLTR_10 rfl (congrArg chv n1) ?_
      refine WP.bipush (pc' := 15) (x := 83) dLTR_13 (by decide) rfl ?_
      exact WP.ireturn dLTR_15 rfl (by simp) (by decide) ⟨rfl, by rw [ltr, if_neg n0, if_pos n1]; rfl, rfl⟩ (fun _ hx => nomatch hx) (fun _ hx => hx) (by first | exact Nat.le_of_ble_eq_true rfl | omega) (by first | exact Nat.le_of_ble_eq_true rfl | omega)
    · refine WP.icmpT (pc' := 16) dLTR_10 (by decide) (by decide) (fun q => n1 (chv_inj q)) ?_
      refine WP.iloadN (pc' := 17) dLTR_16 rfl rfl ?_
      refine WP.iload (pc' := 19) dLTR_17 rfl rfl ?_
      by_cases n2 : c = t
      · refine WP.icmpF (pc' := 22) dLTR_19 rfl (congrArg chv n2) ?_
        refine WP.bipush (pc' := 24) (x := 84) dLTR_22 (by decide) rfl ?_
        exact WP.ireturn dLTR_24 rfl (by simp) (by decide) ⟨rfl, by rw [ltr, if_neg n0, if_neg n1, if_pos n2]; rfl, rfl⟩ (fun _ hx => nomatch hx) (fun _ hx => hx) (by first | exact Nat.le_of_ble_eq_true rfl | omega) (by first | exact Nat.le_of_ble_eq_true rfl | omega)
      · refine WP.icmpT (pc' := 25) dLTR_19 (by decide) (by decide) (fun q => n2 (chv_inj q)) ?_
        refine WP.iloadN (pc' := 26) dLTR_25 rfl rfl ?_
        refine WP.iloadN (pc' := 27) dLTR_26 rfl rfl ?_
        by_cases n3 : c = r
        · refine WP.icmpF (pc' := 30) dLTR_27 rfl (congrArg chv n3) ?_
          refine WP.bipush (pc' := 32) (x := 82) dLTR_30 (by decide) rfl ?_
          exact WP.ireturn dLTR_32 rfl (by simp) (by decide) ⟨rfl, by rw [ltr, if_neg n0, if_neg n1, if_neg n2, if_pos n3]; rfl, rfl⟩ (fun _ hx => nomatch hx) (fun _ hx => hx) (by first | exact Nat.le_of_ble_eq_true rfl | omega) (by first | exact Nat.le_of_ble_eq_true rfl | omega)
        · refine WP.icmpT (pc' := 33) dLTR_27 (by decide) (by decide) (fun q => n3 (chv_inj q)) ?_
          refine WP.iloadN (pc' := 34) dLTR_33 rfl rfl ?_
          refine WP.iload (pc' := 36) dLTR_34 rfl rfl ?_
          by_cases n4 : c = e
          · refine WP.icmpF (pc' := 39) dLTR_36 rfl (congrArg chv n4) ?_
            refine WP.bipush (pc' := 41) (x := 69) dLTR_39 (by decide) rfl ?_
            exact WP.ireturn dLTR_41 rfl (by simp) (by decide) ⟨rfl, by rw [ltr, if_neg n0, if_neg n1, if_neg n2, if_neg n3, if_pos n4]; rfl, rfl⟩ (fun _ hx => nomatch hx) (fun _ hx => hx) (by first | exact Nat.le_of_ble_eq_true rfl | omega) (by first | exact Nat.le_of_ble_eq_true rfl | omega)
          · refine WP.icmpT (pc' := 42) dLTR_36 (by decide) (by decide) (fun q => n4 (chv_inj q)) ?_
            refine WP.iconst (pc' := 43) (x := 0) dLTR_42 (by decide) rfl ?_
            exact WP.ireturn dLTR_43 rfl (by simp) (by decide) ⟨rfl, by rw [ltr, if_neg n0, if_neg n1, if_neg n2, if_neg n3, if_neg n4]; rfl, rfl⟩ (fun _ hx => nomatch hx) (fun _ hx => hx) (by first | exact Nat.le_of_ble_eq_true rfl | omega) (by first | exact Nat.le_of_ble_eq_true rfl | omega)
theorem dPUT_0 : decode method_5_code 0 = .ok (.iload 4, 2) := by decide +kernel
theorem dPUT_2 : decode method_5_code 2 = .ok (.ifCond .ne 11, 3) := by decide +kernel
theorem dPUT_5 : decode method_5_code 5 = .ok (.aload_n 0, 1) := by decide +kernel
theorem dPUT_6 : decode method_5_code 6 = .ok (.iload_n 1, 1) := by decide +kernel
theorem dPUT_7 : decode method_5_code 7 = .ok (.iload_n 2, 1) := by decide +kernel
theorem dPUT_8 : decode method_5_code 8 = .ok (.castore, 1) := by decide +kernel
theorem dPUT_9 : decode method_5_code 9 = .ok (.iload_n 1, 1) := by decide +kernel
theorem dPUT_10 : decode method_5_code 10 = .ok (.iconst 1, 1) := by decide +kernel
theorem dPUT_11 : decode method_5_code 11 = .ok (.iadd, 1) := by decide +kernel
theorem dPUT_12 : decode method_5_code 12 = .ok (.ireturn, 1) := by decide +kernel
theorem dPUT_13 : decode method_5_code 13 = .ok (.aload_n 0, 1) := by decide +kernel
theorem dPUT_14 : decode method_5_code 14 = .ok (.iload_n 1, 1) := by decide +kernel
theorem dPUT_15 : decode method_5_code 15 = .ok (.iload_n 3, 1) := by decide +kernel
theorem dPUT_16 : decode method_5_code 16 = .ok (.castore, 1) := by decide +kernel
theorem dPUT_17 : decode method_5_code 17 = .ok (.aload_n 0, 1) := by decide +kernel
theorem dPUT_18 : decode method_5_code 18 = .ok (.iload_n 1, 1) := by decide +kernel
theorem dPUT_19 : decode method_5_code 19 = .ok (.iconst 1, 1) := by decide +kernel
theorem dPUT_20 : decode method_5_code 20 = .ok (.iadd, 1) := by decide +kernel
theorem dPUT_21 : decode method_5_code 21 = .ok (.iload 4, 2) := by decide +kernel
theorem dPUT_23 : decode method_5_code 23 = .ok (.castore, 1) := by decide +kernel
theorem dPUT_24 : decode method_5_code 24 = .ok (.aload_n 0, 1) := by decide +kernel
theorem dPUT_25 : decode method_5_code 25 = .ok (.iload_n 1, 1) := by decide +kernel
theorem dPUT_26 : decode method_5_code 26 = .ok (.iconst 2, 1) := by decide +kernel
theorem dPUT_27 : decode method_5_code 27 = .ok (.iadd, 1) := by decide +kernel
theorem dPUT_28 : decode method_5_code 28 = .ok (.iload_n 3, 1) := by decide +kernel
theorem dPUT_29 : decode method_5_code 29 = .ok (.castore, 1) := by decide +kernel
theorem dPUT_30 : decode method_5_code 30 = .ok (.iload_n 1, 1) := by decide +kernel
theorem dPUT_31 : decode method_5_code 31 = .ok (.iconst 3, 1) := by decide +kernel
theorem dPUT_32 : decode method_5_code 32 = .ok (.iadd, 1) := by decide +kernel
theorem dPUT_33 : decode method_5_code 33 = .ok (.ireturn, 1) := by decide +kernel
theorem pnPUT : plainFor (⟨"com/example/causeway_health/causewayhealth/convert/DelimitersEscapePinLaw", "put", "([CICCC)I"⟩ : MethodName) = true := plainFor_of_name (by first | (simp [plainName, overriddenIn]; done) | decide +kernel)
set_option maxRecDepth 65536 in
set_option maxHeartbeats 40000000 in
theorem con_PUT {a : Addr} {cs : List Int32} {p : Nat} {c f s r e t : UInt16} (A : ArI Z h a .char cs) (hp : p + 3 ≤ cs.length) (hm : a ∈ mine) : Con (⟨"com/example/causeway_health/causewayhealth/convert/DelimitersEscapePinLaw", "put", "([CICCC)I"⟩ : MethodName) method_5_code 5 (some .int) R0 Z LT [] #[.ref a, .int (Int32.ofNat p), .int (chv c), .int (chv e), .int (chv (ltr c f s r e t))] h [a] mine (fun v h' nw => nw = [] ∧ v = some (.int (Int32.ofNat (p + (esc1 f s r e t c).length))) ∧ ArI Z h' a .char (ovr cs p (esc1 f s r e t c))) := by
  have hl := A.len
  have ws : a ∈ [a] ∨ h.size ≤ a := Or.inl (List.mem_singleton.mpr rfl)
  refine Con.of pnPUT (Ls := [.val (.ref a), .val (.int (Int32.ofNat p)), .val (.int (chv c)), .val (.int (chv e)), .val (.int (chv (ltr c f s r e t)))]) (fun m => by first | (simp [entryFrame, mkF, argsToLocals, Value.category]; done) | (simp [entryFrame, mkF, argsToLocals, Value.category, maxLocals]; done) | rfl) ?_
  refine WP.iload (pc' := 2) dPUT_0 rfl rfl ?_
  by_cases h0 : ltr c f s r e t = 0
  · have he : esc1 f s r e t c = [c] := by rw [esc1, if_pos h0]
    refine WP.ifF (pc' := 5) dPUT_2 rfl (chv_0.mpr h0) ?_
    refine WP.aloadN (pc' := 6) dPUT_5 rfl rfl rfl ?_
    refine WP.iloadN (pc' := 7) dPUT_6 rfl rfl ?_
    refine WP.iloadN (pc' := 8) dPUT_7 rfl rfl ?_
    refine WP.castore (pc' := 9) dPUT_8 A (n32_toInt (by omega)) (by omega) hm ws rfl ?_
    intro h1 W1 A1
    rw [chv_nar] at A1
    refine WP.iloadN (pc' := 10) dPUT_9 rfl rfl ?_
    refine WP.iconst (pc' := 11) (x := 1) dPUT_10 (by decide) rfl ?_
    refine WP.iadd (pc' := 12) dPUT_11 rfl ?_
    rw [show Int32.ofNat p + 1 = Int32.ofNat (p + 1) from n32_succ p]
    refine WP.ireturn dPUT_12 rfl (by simp) rfl ⟨rfl, by rw [he]; rfl, ?_⟩ (fun _ hx => nomatch hx) (fun _ hx => hx) (by first | exact Nat.le_of_ble_eq_true rfl | omega) (by first | exact Nat.le_of_ble_eq_true rfl | omega)
    have e1 := ovr_set (cs := cs) (k := p) (i := 0) (us := [c]) (u := c) rfl (by simp; omega)
    rw [List.take_zero, ovr_nil] at e1
    rw [he]
    rw [Nat.add_zero] at e1
    exact e1 ▸ A1
  · have he : esc1 f s r e t c = [e, ltr c f s r e t, e] := by rw [esc1, if_neg h0]
    refine WP.ifT (pc' := 13) dPUT_2 (by decide) (by decide) (fun q => h0 (chv_0.mp q)) ?_
    refine WP.aloadN (pc' := 14) dPUT_13 rfl rfl rfl ?_
    refine WP.iloadN (pc' := 15) dPUT_14 rfl rfl ?_
    refine WP.iloadN (pc' := 16) dPUT_15 rfl rfl ?_
    refine WP.castore (pc' := 17) dPUT_16 A (n32_toInt (by omega)) (by omega) hm ws rfl ?_
    intro h1 W1 A1
    rw [chv_nar] at A1
    refine WP.aloadN (pc' := 18) dPUT_17 rfl rfl rfl ?_
    refine WP.iloadN (pc' := 19) dPUT_18 rfl rfl ?_
    refine WP.iconst (pc' := 20) (x := 1) dPUT_19 (by decide) rfl ?_
    refine WP.iadd (pc' := 21) dPUT_20 rfl ?_
    rw [show Int32.ofNat p + 1 = Int32.ofNat (p + 1) from n32_succ p]
    refine WP.iload (pc' := 23) dPUT_21 rfl rfl ?_
    refine WP.castore (pc' := 24) dPUT_23 A1 (n32_toInt (by omega)) (by simp; omega) hm ws rfl ?_
    intro h2 W2 A2
    rw [chv_nar] at A2
    refine WP.aloadN (pc' := 25) dPUT_24 rfl rfl rfl ?_
    refine WP.iloadN (pc' := 26) dPUT_25 rfl rfl ?_
    refine WP.iconst (pc' := 27) (x := 2) dPUT_26 (by decide) rfl ?_
    refine WP.iadd (pc' := 28) dPUT_27 rfl ?_
    rw [show Int32.ofNat p + 2 = Int32.ofNat (p + 2) from n32_add p 2]
    refine WP.iloadN (pc' := 29) dPUT_28 rfl rfl ?_
    refine WP.castore (pc' := 30) dPUT_29 A2 (n32_toInt (by omega)) (by simp; omega) hm ws rfl ?_
    intro h3 W3 A3
    rw [chv_nar] at A3
    refine WP.iloadN (pc' := 31) dPUT_30 rfl rfl ?_
    refine WP.iconst (pc' := 32) (x := 3) dPUT_31 (by decide) rfl ?_
    refine WP.iadd (pc' := 33) dPUT_32 rfl ?_
    rw [show Int32.ofNat p + 3 = Int32.ofNat (p + 3) from n32_add p 3]
    refine WP.ireturn dPUT_33 rfl (by simp) rfl ⟨rfl, by rw [he]; rfl, ?_⟩ (fun _ hx => nomatch hx) (fun _ hx => hx) (by first | exact Nat.le_of_ble_eq_true rfl | omega) (by first | exact Nat.le_of_ble_eq_true rfl | omega)
    have e1 := ovr_set (cs := cs) (k := p) (i := 0) (us := [e, ltr c f s r e t, e]) (u := e) rfl (by simp; omega)
    have e2 := ovr_set (cs := cs) (k := p) (i := 1) (us := [e, ltr c f s r e t, e]) (u := ltr c f s r e t) rfl (by simp; omega)
    have e3 := ovr_set (cs := cs) (k := p) (i := 2) (us := [e, ltr c f s r e t, e]) (u := e) rfl (by simp; omega)
    rw [List.take_zero, ovr_nil, Nat.add_zero] at e1
    rw [he]
    rw [e1, e2, e3] at A3
    exact A3
theorem dSAM_0 : decode method_6_code 0 = .ok (.iload_n 3, 1) := by decide +kernel
theorem dSAM_1 : decode method_6_code 1 = .ok (.iload_n 2, 1) := by decide +kernel
theorem dSAM_2 : decode method_6_code 2 = .ok (.if_icmp .ge 14, 3) := by decide +kernel
theorem dSAM_5 : decode method_6_code 5 = .ok (.aload_n 0, 1) := by decide +kernel
theorem dSAM_6 : decode method_6_code 6 = .ok (.iload_n 3, 1) := by decide +kernel
theorem dSAM_7 : decode method_6_code 7 = .ok (.invokevirtual 44, 3) := by decide +kernel
theorem dSAM_10 : decode method_6_code 10 = .ok (.aload_n 1, 1) := by decide +kernel
theorem dSAM_11 : decode method_6_code 11 = .ok (.iload_n 3, 1) := by decide +kernel
theorem dSAM_12 : decode method_6_code 12 = .ok (.caload, 1) := by decide +kernel
theorem dSAM_13 : decode method_6_code 13 = .ok (.if_icmp .ne 7, 3) := by decide +kernel
theorem dSAM_16 : decode method_6_code 16 = .ok (.iconst 1, 1) := by decide +kernel
theorem dSAM_17 : decode method_6_code 17 = .ok (.goto 4, 3) := by decide +kernel
theorem dSAM_20 : decode method_6_code 20 = .ok (.iconst 0, 1) := by decide +kernel
theorem dSAM_21 : decode method_6_code 21 = .ok (.ireturn, 1) := by decide +kernel
theorem pnSAM : plainFor (⟨"com/example/causeway_health/causewayhealth/convert/DelimitersEscapePinLaw", "same", "(Ljava/lang/String;[CII)Z"⟩ : MethodName) = true := plainFor_of_name (by first | (simp [plainName, overriddenIn]; done) | decide +kernel)
set_option maxRecDepth 65536 in
set_option maxHeartbeats 40000000 in
theorem con_SAM (hw : ∀ d ∈ tables_1, d.before a0 Z = true) {cz : Int32} (hc : Compact Z cz) (hu16 : U16 Z) {vf : Value} (hf : Fmt Z vf) {o w a : Addr} {us : List UInt16} {cs : List Int32} {i : Nat} (S : StrAt Z h o w us) (A : ArI Z h a .char cs) (hs : SubC cs 0 us) (hi : i < 2 ^ 31) : Con (⟨"com/example/causeway_health/causewayhealth/convert/DelimitersEscapePinLaw", "same", "(Ljava/lang/String;[CII)Z"⟩ : MethodName) method_6_code 4 (some .boolean) { frames := 5, cells := 0, slots := 0, locals := 66 } Z LT [] #[.ref o, .ref a, .int (Int32.ofNat us.length), .int (Int32.ofNat i)] h [] mine (fun v h' nw => nw = [] ∧ v = some (.int 1) ∧ h' = h) := by
  have hul : us.length < 2 ^ 31 := byt_lt S.open.2.2.2
  refine Con.of pnSAM (Ls := [.val (.ref o), .val (.ref a), .val (.int (Int32.ofNat us.length)), .val (.int (Int32.ofNat i))]) (fun m => by first | (simp [entryFrame, mkF, argsToLocals, Value.category]; done) | (simp [entryFrame, mkF, argsToLocals, Value.category, maxLocals]; done) | rfl) ?_
  refine WP.iloadN (pc' := 1) dSAM_0 rfl rfl ?_
  refine WP.iloadN (pc' := 2) dSAM_1 rfl rfl ?_
  by_cases hl : i < us.length
  · obtain ⟨u, hu⟩ : ∃ u, us[i]? = some u := ⟨us[i], List.getElem?_eq_getElem hl⟩
    refine WP.icmpF (pc' := 5) dSAM_2 rfl ((n32_lt hi hul).mpr hl) ?_
    refine WP.aloadN (pc' := 6) dSAM_5 rfl rfl rfl ?_
    refine WP.iloadN (pc' := 7) dSAM_6 rfl rfl ?_
    refine WP.callV (pc' := 10) (con_CA hw hc hu16 hf S hu) S.1 (hw _ (List.mem_of_getElem? (i := 224) rfl)) (hw _ (List.mem_of_getElem? (i := 225) rfl)) (fun s hs => notFace_of_selects (args := #[]) (mv hs (hw _ (List.mem_of_getElem? (i := 227) rfl)))) (hw _ (List.mem_of_getElem? (i := 227) rfl)) (hw _ (List.mem_of_getElem? (i := 226) rfl)) (hw _ (List.mem_of_getElem? (i := 7) rfl)) (hw _ (List.mem_of_getElem? (i := 228) rfl)) dSAM_7 (by decide) pdx36 rfl rfl rfl (by first | exact Nat.le_of_ble_eq_true rfl | omega | (simp; done) | (simp; omega) | (dsimp only; omega)) (by first | exact Nat.le_of_ble_eq_true rfl | omega | (simp; done) | (simp; omega) | (dsimp only; omega)) (by first | exact Nat.le_of_ble_eq_true rfl | omega | (simp; done) | (simp; omega) | (dsimp only; omega)) (by first | exact Nat.le_of_ble_eq_true rfl | omega | (simp; done) | (simp; omega) | (dsimp only; omega)) (fun _ hx => nomatch hx) rfl ?_
    rintro v h1 nw K hnw ⟨rfl, rfl, rfl⟩
    dsimp only [Option.toList, List.cons_append, List.nil_append]
    refine WP.aloadN (pc' := 11) dSAM_10 rfl rfl rfl ?_
    refine WP.iloadN (pc' := 12) dSAM_11 rfl rfl ?_
    refine WP.caload (pc' := 13) dSAM_12 A (n32_toInt hi) (x := chv u) (by have := hs.2 i u hu; rwa [Nat.zero_add] at this) rfl ?_
    refine WP.icmpF (pc' := 16) dSAM_13 rfl rfl ?_
    refine WP.iconst (pc' := 17) (x := 1) dSAM_16 (by decide) rfl ?_
    refine WP.goto (pc' := 21) dSAM_17 (by decide) (by decide) ?_
    exact WP.ireturn dSAM_21 rfl (by simp) rfl ⟨rfl, rfl, rfl⟩ (fun _ hx => nomatch hx) (fun _ hx => hx) (by first | exact Nat.le_of_ble_eq_true rfl | omega) (by first | exact Nat.le_of_ble_eq_true rfl | omega)
  · refine WP.icmpT (pc' := 16) dSAM_2 (by decide) (by decide) (fun q => hl ((n32_lt hi hul).mp q)) ?_
    refine WP.iconst (pc' := 17) (x := 1) dSAM_16 (by decide) rfl ?_
    refine WP.goto (pc' := 21) dSAM_17 (by decide) (by decide) ?_
    exact WP.ireturn dSAM_21 rfl (by simp) rfl ⟨rfl, rfl, rfl⟩ (fun _ hx => nomatch hx) (fun _ hx => hx) (by first | exact Nat.le_of_ble_eq_true rfl | omega) (by first | exact Nat.le_of_ble_eq_true rfl | omega)
theorem ovr_app {cs : List Int32} {us vs : List UInt16} (h : us.length + vs.length ≤ cs.length) : ovr (ovr cs 0 us) us.length vs = ovr cs 0 (us ++ vs) := by
  apply List.ext_getElem?
  intro i
  rw [ovr_get (by rw [ovr_len (by omega)]; omega), ovr_get (by omega), ovr_get (by simp; omega)]
  by_cases h1 : i < us.length
  · rw [if_pos h1, if_neg (by omega), if_pos (by omega), if_neg (by omega), if_pos (by simp; omega), Nat.sub_zero, List.getElem?_append_left h1]
  · by_cases h2 : i < us.length + vs.length
    · rw [if_neg h1, if_pos h2, if_neg (by omega), if_pos (by simp; omega), Nat.sub_zero, List.getElem?_append_right (by omega)]
    · rw [if_neg h1, if_neg h2, if_neg (by omega), if_neg (by omega), if_neg (by omega), if_neg (by simp; omega)]
theorem ovr_sub {cs : List Int32} {us : List UInt16} (h : us.length ≤ cs.length) : SubC (ovr cs 0 us) 0 us := ⟨by rw [ovr_len (by omega)]; omega, fun i u hu => by
  have hi := (List.getElem?_eq_some_iff.mp hu).1
  rw [ovr_get (by omega), if_neg (by omega), if_pos (by omega)]; simp [hu]⟩
theorem pnLAW : plainFor (⟨"com/example/causeway_health/causewayhealth/convert/DelimitersEscapePinLaw", "law", "(JIJI)Z"⟩ : MethodName) = true := plainFor_of_name (by first | (simp [plainName, overriddenIn]; done) | decide +kernel)
set_option maxRecDepth 65536 in
set_option maxHeartbeats 40000000 in
theorem rest_LAW (hw : ∀ d ∈ tables_1, d.before a0 Z = true) {cz : Int32} (hc : Compact Z cz) (hu16 : U16 Z) {vf : Value} (hf : Fmt Z vf) {h1 : Heap} {f s r e t : UInt16} {us : List UInt16} {q sr : Addr} {mn : List Addr} (hmn : ∀ x ∈ mine, x ∈ mn) (h3 : us.length ≤ 3) (S : FStr Z h1 mn sr us) (hqlt : q < h1.size) (A : ArI Z h1 q .char (ovr (List.replicate 9 0) 0 (us.flatMap (esc1 f s r e t))))
    {l0 l1 l2 l3 l4 l5 l6 l12 l13 l14 l15 : Slot} {pz : Int32} (hpz : pz = Int32.ofNat (us.flatMap (esc1 f s r e t)).length) :
    WP "com/example/causeway_health/causewayhealth/convert/DelimitersEscapePinLaw" code 21 ret "law" room_1 Z LT h [] mine (fun v h' nw => v = some (.int 1)) mn 7 33 h1 384 [l0, l1, l2, l3, l4, l5, l6, .val (.int (chv f)), .val (.int (chv s)), .val (.int (chv r)), .val (.int (chv e)), .val (.int (chv t)), l12, l13, l14, l15, .val (.ref sr), .val (.ref q), .val (.int pz), .unset, .unset] [] := by
  subst hpz
  have hel := esc_len (f := f) (s := s) (r := r) (e := e) (t := t) us
  refine WP.new (pc' := 387) at_384 (hw _ (List.mem_of_getElem? (i := 27) rfl)) (hw _ (List.mem_of_getElem? (i := 28) rfl)) (hw _ (List.mem_of_getElem? (i := 29) rfl)) (by first | exact Nat.le_of_ble_eq_true rfl | omega | (simp; done) | (simp; omega) | (dsimp only; omega)) (by first | exact Nat.le_of_ble_eq_true rfl | omega | (simp; done) | (simp; omega) | (dsimp only; omega)) rfl ?_
  intro h2 d ed nd md E2 X Dn
  replace S := S.new E2 ed
  replace A := A.ext E2
  have nqd : q ≠ d := fun z => absurd (show q < h1.size from hqlt) (Nat.not_lt.mpr (by rw [z, ed]; exact Nat.le_refl _))
  refine WP.dup (pc' := 388) at_387 rfl rfl ?_
  refine WP.iload (pc' := 390) at_388 rfl rfl ?_
  refine WP.iload (pc' := 392) at_390 rfl rfl ?_
  refine WP.iload (pc' := 394) at_392 rfl rfl ?_
  refine WP.iload (pc' := 396) at_394 rfl rfl ?_
  refine WP.iload (pc' := 398) at_396 rfl rfl ?_
  refine WP.callSp (pc' := 401) (con_DLI hw (f := f) (s := s) (r := r) (e := e) (t := t) X (Dn (Or.inr (hw _ (List.mem_of_getElem? (i := 40) rfl))) (ty := .char) (by decide)) (Dn (Or.inr (hw _ (List.mem_of_getElem? (i := 42) rfl))) (ty := .char) (by decide)) (Dn (Or.inr (hw _ (List.mem_of_getElem? (i := 44) rfl))) (ty := .char) (by decide)) (Dn (Or.inr (hw _ (List.mem_of_getElem? (i := 46) rfl))) (ty := .char) (by decide)) (Dn (Or.inr (hw _ (List.mem_of_getElem? (i := 48) rfl))) (ty := .char) (by decide)) (List.mem_cons_self ..)) rfl (hw _ (List.mem_of_getElem? (i := 30) rfl)) (hw _ (List.mem_of_getElem? (i := 31) rfl)) (hw _ (List.mem_of_getElem? (i := 29) rfl)) (hw _ (List.mem_of_getElem? (i := 32) rfl)) at_398 (by decide) pdx37 rfl rfl rfl (by first | exact Nat.le_of_ble_eq_true rfl | omega | (simp; done) | (simp; omega) | (dsimp only; omega)) (by first | exact Nat.le_of_ble_eq_true rfl | omega | (simp; done) | (simp; omega) | (dsimp only; omega)) (by first | exact Nat.le_of_ble_eq_true rfl | omega | (simp; done) | (simp; omega) | (dsimp only; omega)) (by first | exact Nat.le_of_ble_eq_true rfl | omega | (simp; done) | (simp; omega) | (dsimp only; omega)) (fun x hx => by cases List.mem_singleton.mp hx; exact Or.inr md) rfl ?_
  rintro v h3' nw3 K3 hnw3 ⟨rfl, rfl, D⟩
  dsimp only [Option.toList, List.cons_append, List.nil_append]
  replace S := (S.call K3 (fun x hx => by cases List.mem_singleton.mp hx; exact List.mem_cons_self ..) hnw3).mono (mine' := mn) (fun x hx => List.mem_cons_of_mem _ hx)
  replace A := A.keep K3 (fun z => nqd (List.mem_singleton.mp z))
  refine WP.freeze (mine' := mn) ?_ (fun x hx => List.mem_cons_of_mem _ hx)
  refine WP.astore (pc' := 403) at_401 rfl rfl rfl rfl rfl ?_
  dsimp only [List.set]
  refine WP.aload (pc' := 405) at_403 rfl rfl rfl ?_
  refine WP.aload (pc' := 407) at_405 rfl rfl rfl ?_
  refine WP.callV (pc' := 410) (con_ESC hw hc hu16 hf h3 D nd S) D.1 (hw _ (List.mem_of_getElem? (i := 49) rfl)) (hw _ (List.mem_of_getElem? (i := 50) rfl)) (fun s hs => notFace_of_selects (args := #[]) (mv hs (hw _ (List.mem_of_getElem? (i := 52) rfl)))) (hw _ (List.mem_of_getElem? (i := 52) rfl)) (hw _ (List.mem_of_getElem? (i := 51) rfl)) (hw _ (List.mem_of_getElem? (i := 29) rfl)) (hw _ (List.mem_of_getElem? (i := 53) rfl)) at_407 (by decide) pdx38 rfl rfl rfl (by first | exact Nat.le_of_ble_eq_true rfl | omega | (simp; done) | (simp; omega) | (dsimp only; omega)) (by first | exact Nat.le_of_ble_eq_true rfl | omega | (simp; done) | (simp; omega) | (dsimp only; omega)) (by first | exact Nat.le_of_ble_eq_true rfl | omega | (simp; done) | (simp; omega) | (dsimp only; omega)) (by first | exact Nat.le_of_ble_eq_true rfl | omega | (simp; done) | (simp; omega) | (dsimp only; omega)) (fun _ hx => nomatch hx) rfl ?_
  rintro v h4 nw4 K4 hnw4 ⟨rfl, o, rfl, O⟩
  dsimp only [Option.toList, List.cons_append, List.nil_append]
  replace A := A.keep K4 nin0
  obtain ⟨ow, O, -, -⟩ := O
  refine WP.astore (pc' := 412) at_410 rfl rfl rfl rfl rfl ?_
  dsimp only [List.set]
  refine WP.aload (pc' := 414) at_412 rfl rfl rfl ?_
  refine WP.callV (pc' := 417) (con_LEN hw hc O) O.1 (hw _ (List.mem_of_getElem? (i := 146) rfl)) (hw _ (List.mem_of_getElem? (i := 58) rfl)) (fun s hs => notFace_of_selects (args := #[]) (mv hs (hw _ (List.mem_of_getElem? (i := 60) rfl)))) (hw _ (List.mem_of_getElem? (i := 60) rfl)) (hw _ (List.mem_of_getElem? (i := 59) rfl)) (hw _ (List.mem_of_getElem? (i := 7) rfl)) (hw _ (List.mem_of_getElem? (i := 61) rfl)) at_414 (by decide) pdx25 rfl rfl rfl (by first | exact Nat.le_of_ble_eq_true rfl | omega | (simp; done) | (simp; omega) | (dsimp only; omega)) (by first | exact Nat.le_of_ble_eq_true rfl | omega | (simp; done) | (simp; omega) | (dsimp only; omega)) (by first | exact Nat.le_of_ble_eq_true rfl | omega | (simp; done) | (simp; omega) | (dsimp only; omega)) (by first | exact Nat.le_of_ble_eq_true rfl | omega | (simp; done) | (simp; omega) | (dsimp only; omega)) (fun _ hx => nomatch hx) rfl ?_
  rintro v h5 nw5 K5 hnw5 ⟨rfl, rfl, rfl⟩
  dsimp only [Option.toList, List.cons_append, List.nil_append]
  refine WP.iload (pc' := 419) at_417 rfl rfl ?_
  refine WP.icmpT (pc' := 424) at_419 (by decide) (by decide) rfl ?_
  have hsub : SubC (ovr (List.replicate 9 0) 0 (us.flatMap (esc1 f s r e t))) 0 (us.flatMap (esc1 f s r e t)) := ovr_sub (by rw [List.length_replicate]; omega)
  refine WP.aload (pc' := 426) at_424 rfl rfl rfl ?_
  refine WP.aload (pc' := 428) at_426 rfl rfl rfl ?_
  refine WP.iload (pc' := 430) at_428 rfl rfl ?_
  refine WP.iconst (pc' := 431) (x := 0) at_430 (by decide) rfl ?_
  refine WP.callS (pc' := 434) (con_SAM hw hc hu16 hf (i := 0) O A hsub (by omega)) (hw _ (List.mem_of_getElem? (i := 147) rfl)) (hw _ (List.mem_of_getElem? (i := 148) rfl)) (hw _ (List.mem_of_getElem? (i := 3) rfl)) (hw _ (List.mem_of_getElem? (i := 149) rfl)) at_431 (by decide) pdx39 rfl rfl rfl (by first | exact Nat.le_of_ble_eq_true rfl | omega | (simp; done) | (simp; omega) | (dsimp only; omega)) (by first | exact Nat.le_of_ble_eq_true rfl | omega | (simp; done) | (simp; omega) | (dsimp only; omega)) (by first | exact Nat.le_of_ble_eq_true rfl | omega | (simp; done) | (simp; omega) | (dsimp only; omega)) (by first | exact Nat.le_of_ble_eq_true rfl | omega | (simp; done) | (simp; omega) | (dsimp only; omega)) (fun _ hx => nomatch hx) rfl ?_
  rintro v h9 nw9 K9 hnw9 ⟨rfl, rfl, rfl⟩
  dsimp only [Option.toList, List.cons_append, List.nil_append]
  refine WP.ifF (pc' := 437) at_434 rfl (show ¬ (1 : Int32) = 0 by decide) ?_
  refine WP.aload (pc' := 439) at_437 rfl rfl rfl ?_
  refine WP.aload (pc' := 441) at_439 rfl rfl rfl ?_
  refine WP.iload (pc' := 443) at_441 rfl rfl ?_
  refine WP.iconst (pc' := 444) (x := 1) at_443 (by decide) rfl ?_
  refine WP.callS (pc' := 447) (con_SAM hw hc hu16 hf (i := 1) O A hsub (by omega)) (hw _ (List.mem_of_getElem? (i := 147) rfl)) (hw _ (List.mem_of_getElem? (i := 148) rfl)) (hw _ (List.mem_of_getElem? (i := 3) rfl)) (hw _ (List.mem_of_getElem? (i := 149) rfl)) at_444 (by decide) pdx39 rfl rfl rfl (by first | exact Nat.le_of_ble_eq_true rfl | omega | (simp; done) | (simp; omega) | (dsimp only; omega)) (by first | exact Nat.le_of_ble_eq_true rfl | omega | (simp; done) | (simp; omega) | (dsimp only; omega)) (by first | exact Nat.le_of_ble_eq_true rfl | omega | (simp; done) | (simp; omega) | (dsimp only; omega)) (by first | exact Nat.le_of_ble_eq_true rfl | omega | (simp; done) | (simp; omega) | (dsimp only; omega)) (fun _ hx => nomatch hx) rfl ?_
  rintro v h9 nw9 K9 hnw9 ⟨rfl, rfl, rfl⟩
  dsimp only [Option.toList, List.cons_append, List.nil_append]
  refine WP.ifF (pc' := 450) at_447 rfl (show ¬ (1 : Int32) = 0 by decide) ?_
  refine WP.aload (pc' := 452) at_450 rfl rfl rfl ?_
  refine WP.aload (pc' := 454) at_452 rfl rfl rfl ?_
  refine WP.iload (pc' := 456) at_454 rfl rfl ?_
  refine WP.iconst (pc' := 457) (x := 2) at_456 (by decide) rfl ?_
  refine WP.callS (pc' := 460) (con_SAM hw hc hu16 hf (i := 2) O A hsub (by omega)) (hw _ (List.mem_of_getElem? (i := 147) rfl)) (hw _ (List.mem_of_getElem? (i := 148) rfl)) (hw _ (List.mem_of_getElem? (i := 3) rfl)) (hw _ (List.mem_of_getElem? (i := 149) rfl)) at_457 (by decide) pdx39 rfl rfl rfl (by first | exact Nat.le_of_ble_eq_true rfl | omega | (simp; done) | (simp; omega) | (dsimp only; omega)) (by first | exact Nat.le_of_ble_eq_true rfl | omega | (simp; done) | (simp; omega) | (dsimp only; omega)) (by first | exact Nat.le_of_ble_eq_true rfl | omega | (simp; done) | (simp; omega) | (dsimp only; omega)) (by first | exact Nat.le_of_ble_eq_true rfl | omega | (simp; done) | (simp; omega) | (dsimp only; omega)) (fun _ hx => nomatch hx) rfl ?_
  rintro v h9 nw9 K9 hnw9 ⟨rfl, rfl, rfl⟩
  dsimp only [Option.toList, List.cons_append, List.nil_append]
  refine WP.ifF (pc' := 463) at_460 rfl (show ¬ (1 : Int32) = 0 by decide) ?_
  refine WP.aload (pc' := 465) at_463 rfl rfl rfl ?_
  refine WP.aload (pc' := 467) at_465 rfl rfl rfl ?_
  refine WP.iload (pc' := 469) at_467 rfl rfl ?_
  refine WP.iconst (pc' := 470) (x := 3) at_469 (by decide) rfl ?_
  refine WP.callS (pc' := 473) (con_SAM hw hc hu16 hf (i := 3) O A hsub (by omega)) (hw _ (List.mem_of_getElem? (i := 147) rfl)) (hw _ (List.mem_of_getElem? (i := 148) rfl)) (hw _ (List.mem_of_getElem? (i := 3) rfl)) (hw _ (List.mem_of_getElem? (i := 149) rfl)) at_470 (by decide) pdx39 rfl rfl rfl (by first | exact Nat.le_of_ble_eq_true rfl | omega | (simp; done) | (simp; omega) | (dsimp only; omega)) (by first | exact Nat.le_of_ble_eq_true rfl | omega | (simp; done) | (simp; omega) | (dsimp only; omega)) (by first | exact Nat.le_of_ble_eq_true rfl | omega | (simp; done) | (simp; omega) | (dsimp only; omega)) (by first | exact Nat.le_of_ble_eq_true rfl | omega | (simp; done) | (simp; omega) | (dsimp only; omega)) (fun _ hx => nomatch hx) rfl ?_
  rintro v h9 nw9 K9 hnw9 ⟨rfl, rfl, rfl⟩
  dsimp only [Option.toList, List.cons_append, List.nil_append]
  refine WP.ifF (pc' := 476) at_473 rfl (show ¬ (1 : Int32) = 0 by decide) ?_
  refine WP.aload (pc' := 478) at_476 rfl rfl rfl ?_
  refine WP.aload (pc' := 480) at_478 rfl rfl rfl ?_
  refine WP.iload (pc' := 482) at_480 rfl rfl ?_
  refine WP.iconst (pc' := 483) (x := 4) at_482 (by decide) rfl ?_
  refine WP.callS (pc' := 486) (con_SAM hw hc hu16 hf (i := 4) O A hsub (by omega)) (hw _ (List.mem_of_getElem? (i := 147) rfl)) (hw _ (List.mem_of_getElem? (i := 148) rfl)) (hw _ (List.mem_of_getElem? (i := 3) rfl)) (hw _ (List.mem_of_getElem? (i := 149) rfl)) at_483 (by decide) pdx39 rfl rfl rfl (by first | exact Nat.le_of_ble_eq_true rfl | omega | (simp; done) | (simp; omega) | (dsimp only; omega)) (by first | exact Nat.le_of_ble_eq_true rfl | omega | (simp; done) | (simp; omega) | (dsimp only; omega)) (by first | exact Nat.le_of_ble_eq_true rfl | omega | (simp; done) | (simp; omega) | (dsimp only; omega)) (by first | exact Nat.le_of_ble_eq_true rfl | omega | (simp; done) | (simp; omega) | (dsimp only; omega)) (fun _ hx => nomatch hx) rfl ?_
  rintro v h9 nw9 K9 hnw9 ⟨rfl, rfl, rfl⟩
  dsimp only [Option.toList, List.cons_append, List.nil_append]
  refine WP.ifF (pc' := 489) at_486 rfl (show ¬ (1 : Int32) = 0 by decide) ?_
  refine WP.aload (pc' := 491) at_489 rfl rfl rfl ?_
  refine WP.aload (pc' := 493) at_491 rfl rfl rfl ?_
  refine WP.iload (pc' := 495) at_493 rfl rfl ?_
  refine WP.iconst (pc' := 496) (x := 5) at_495 (by decide) rfl ?_
  refine WP.callS (pc' := 499) (con_SAM hw hc hu16 hf (i := 5) O A hsub (by omega)) (hw _ (List.mem_of_getElem? (i := 147) rfl)) (hw _ (List.mem_of_getElem? (i := 148) rfl)) (hw _ (List.mem_of_getElem? (i := 3) rfl)) (hw _ (List.mem_of_getElem? (i := 149) rfl)) at_496 (by decide) pdx39 rfl rfl rfl (by first | exact Nat.le_of_ble_eq_true rfl | omega | (simp; done) | (simp; omega) | (dsimp only; omega)) (by first | exact Nat.le_of_ble_eq_true rfl | omega | (simp; done) | (simp; omega) | (dsimp only; omega)) (by first | exact Nat.le_of_ble_eq_true rfl | omega | (simp; done) | (simp; omega) | (dsimp only; omega)) (by first | exact Nat.le_of_ble_eq_true rfl | omega | (simp; done) | (simp; omega) | (dsimp only; omega)) (fun _ hx => nomatch hx) rfl ?_
  rintro v h9 nw9 K9 hnw9 ⟨rfl, rfl, rfl⟩
  dsimp only [Option.toList, List.cons_append, List.nil_append]
  refine WP.ifF (pc' := 502) at_499 rfl (show ¬ (1 : Int32) = 0 by decide) ?_
  refine WP.aload (pc' := 504) at_502 rfl rfl rfl ?_
  refine WP.aload (pc' := 506) at_504 rfl rfl rfl ?_
  refine WP.iload (pc' := 508) at_506 rfl rfl ?_
  refine WP.bipush (pc' := 510) (x := 6) at_508 (by decide) rfl ?_
  refine WP.callS (pc' := 513) (con_SAM hw hc hu16 hf (i := 6) O A hsub (by omega)) (hw _ (List.mem_of_getElem? (i := 147) rfl)) (hw _ (List.mem_of_getElem? (i := 148) rfl)) (hw _ (List.mem_of_getElem? (i := 3) rfl)) (hw _ (List.mem_of_getElem? (i := 149) rfl)) at_510 (by decide) pdx39 rfl rfl rfl (by first | exact Nat.le_of_ble_eq_true rfl | omega | (simp; done) | (simp; omega) | (dsimp only; omega)) (by first | exact Nat.le_of_ble_eq_true rfl | omega | (simp; done) | (simp; omega) | (dsimp only; omega)) (by first | exact Nat.le_of_ble_eq_true rfl | omega | (simp; done) | (simp; omega) | (dsimp only; omega)) (by first | exact Nat.le_of_ble_eq_true rfl | omega | (simp; done) | (simp; omega) | (dsimp only; omega)) (fun _ hx => nomatch hx) rfl ?_
  rintro v h9 nw9 K9 hnw9 ⟨rfl, rfl, rfl⟩
  dsimp only [Option.toList, List.cons_append, List.nil_append]
  refine WP.ifF (pc' := 516) at_513 rfl (show ¬ (1 : Int32) = 0 by decide) ?_
  refine WP.aload (pc' := 518) at_516 rfl rfl rfl ?_
  refine WP.aload (pc' := 520) at_518 rfl rfl rfl ?_
  refine WP.iload (pc' := 522) at_520 rfl rfl ?_
  refine WP.bipush (pc' := 524) (x := 7) at_522 (by decide) rfl ?_
  refine WP.callS (pc' := 527) (con_SAM hw hc hu16 hf (i := 7) O A hsub (by omega)) (hw _ (List.mem_of_getElem? (i := 147) rfl)) (hw _ (List.mem_of_getElem? (i := 148) rfl)) (hw _ (List.mem_of_getElem? (i := 3) rfl)) (hw _ (List.mem_of_getElem? (i := 149) rfl)) at_524 (by decide) pdx39 rfl rfl rfl (by first | exact Nat.le_of_ble_eq_true rfl | omega | (simp; done) | (simp; omega) | (dsimp only; omega)) (by first | exact Nat.le_of_ble_eq_true rfl | omega | (simp; done) | (simp; omega) | (dsimp only; omega)) (by first | exact Nat.le_of_ble_eq_true rfl | omega | (simp; done) | (simp; omega) | (dsimp only; omega)) (by first | exact Nat.le_of_ble_eq_true rfl | omega | (simp; done) | (simp; omega) | (dsimp only; omega)) (fun _ hx => nomatch hx) rfl ?_
  rintro v h9 nw9 K9 hnw9 ⟨rfl, rfl, rfl⟩
  dsimp only [Option.toList, List.cons_append, List.nil_append]
  refine WP.ifF (pc' := 530) at_527 rfl (show ¬ (1 : Int32) = 0 by decide) ?_
  refine WP.aload (pc' := 532) at_530 rfl rfl rfl ?_
  refine WP.aload (pc' := 534) at_532 rfl rfl rfl ?_
  refine WP.iload (pc' := 536) at_534 rfl rfl ?_
  refine WP.bipush (pc' := 538) (x := 8) at_536 (by decide) rfl ?_
  refine WP.callS (pc' := 541) (con_SAM hw hc hu16 hf (i := 8) O A hsub (by omega)) (hw _ (List.mem_of_getElem? (i := 147) rfl)) (hw _ (List.mem_of_getElem? (i := 148) rfl)) (hw _ (List.mem_of_getElem? (i := 3) rfl)) (hw _ (List.mem_of_getElem? (i := 149) rfl)) at_538 (by decide) pdx39 rfl rfl rfl (by first | exact Nat.le_of_ble_eq_true rfl | omega | (simp; done) | (simp; omega) | (dsimp only; omega)) (by first | exact Nat.le_of_ble_eq_true rfl | omega | (simp; done) | (simp; omega) | (dsimp only; omega)) (by first | exact Nat.le_of_ble_eq_true rfl | omega | (simp; done) | (simp; omega) | (dsimp only; omega)) (by first | exact Nat.le_of_ble_eq_true rfl | omega | (simp; done) | (simp; omega) | (dsimp only; omega)) (fun _ hx => nomatch hx) rfl ?_
  rintro v h9 nw9 K9 hnw9 ⟨rfl, rfl, rfl⟩
  dsimp only [Option.toList, List.cons_append, List.nil_append]
  refine WP.ifF (pc' := 544) at_541 rfl (show ¬ (1 : Int32) = 0 by decide) ?_
  refine WP.iconst (pc' := 545) (x := 1) at_544 (by decide) rfl ?_
  refine WP.goto (pc' := 549) at_545 (by decide) (by decide) ?_
  exact WP.ireturn (nw := []) at_549 rfl (by simp) rfl rfl (fun _ hx => nomatch hx) hmn (Nat.le_of_ble_eq_true rfl) (Nat.le_of_ble_eq_true rfl)
set_option maxRecDepth 65536 in
set_option maxHeartbeats 40000000 in
theorem tail_LAW (hw : ∀ d ∈ tables_1, d.before a0 Z = true) {cz : Int32} (hc : Compact Z cz) (hu16 : U16 Z) {vf : Value} (hf : Fmt Z vf) {h1 : Heap} {f s r e t c0 c1 c2 : UInt16} {us : List UInt16} {sr : Addr} {nn : Int32} (S : FStr Z h1 mine sr us) (hcase : (nn = 0 ∧ us = []) ∨ (nn = 1 ∧ us = [c0]) ∨ (nn = 2 ∧ us = [c0, c1]) ∨ (nn = 3 ∧ us = [c0, c1, c2]))
    {l0 l1 l2 l3 l4 l5 l6 : Slot} :
    WP "com/example/causeway_health/causewayhealth/convert/DelimitersEscapePinLaw" code 21 ret "law" room_1 Z LT h [] mine (fun v h' nw => v = some (.int 1)) mine 6 24 h1 274 [l0, l1, l2, l3, l4, l5, l6, .val (.int (chv f)), .val (.int (chv s)), .val (.int (chv r)), .val (.int (chv e)), .val (.int (chv t)), .val (.int nn), .val (.int (chv c0)), .val (.int (chv c1)), .val (.int (chv c2)), .val (.ref sr), .unset, .unset, .unset, .unset] [] := by
  have b0 := esc1_len f s r e t c0
  have b1 := esc1_len f s r e t c1
  have b2 := esc1_len f s r e t c2
  have hmn : ∀ (q : Addr), ∀ x ∈ mine, x ∈ q :: mine := fun q x hx => List.mem_cons_of_mem _ hx
  refine WP.bipush (pc' := 276) (x := 9) at_274 (by decide) rfl ?_
  refine WP.newarray (pc' := 278) (N := 9) at_276 (hw _ (List.mem_of_getElem? (i := 8) rfl)) rfl (by decide) (by first | exact Nat.le_of_ble_eq_true rfl | omega | (simp; done) | (simp; omega) | (dsimp only; omega)) (by first | exact Nat.le_of_ble_eq_true rfl | omega | (simp; done) | (simp; omega) | (dsimp only; omega)) (by first | exact Nat.le_of_ble_eq_true rfl | omega | (simp; done) | (simp; omega) | (dsimp only; omega)) rfl ?_
  intro h2 q eq nq mq E2 A
  replace S := S.new E2 eq
  refine WP.astore (pc' := 280) at_278 rfl rfl rfl rfl rfl ?_
  dsimp only [List.set]
  refine WP.iconst (pc' := 281) (x := 0) at_280 (by decide) rfl ?_
  refine WP.istore (pc' := 283) at_281 rfl rfl rfl ?_
  dsimp only [List.set]
  refine WP.iload (pc' := 285) at_283 rfl rfl ?_
  rcases hcase with ⟨rfl, rfl⟩ | ⟨rfl, rfl⟩ | ⟨rfl, rfl⟩ | ⟨rfl, rfl⟩
  · refine WP.ifT (pc' := 316) at_285 (by decide) (by decide) (show ¬ (0 : Int32) < 0 by decide) ?_
    refine WP.iload (pc' := 318) at_316 rfl rfl ?_
    refine WP.iconst (pc' := 319) (x := 1) at_318 (by decide) rfl ?_
    refine WP.icmpT (pc' := 350) at_319 (by decide) (by decide) (show ¬ (1 : Int32) < 0 by decide) ?_
    refine WP.iload (pc' := 352) at_350 rfl rfl ?_
    refine WP.iconst (pc' := 353) (x := 2) at_352 (by decide) rfl ?_
    refine WP.icmpT (pc' := 384) at_353 (by decide) (by decide) (show ¬ (2 : Int32) < 0 by decide) ?_
    refine WP.more (ce' := 7) (sl' := 33) ?_ (Nat.le_of_ble_eq_true rfl) (Nat.le_of_ble_eq_true rfl)
    exact rest_LAW hw hc hu16 hf (hmn q) (by simp) S A.lt (by rw [List.flatMap_nil, ovr_nil]; exact A) rfl
  · refine WP.ifF (pc' := 288) at_285 rfl (show (0 : Int32) < 1 by decide) ?_
    refine WP.aload (pc' := 290) at_288 rfl rfl rfl ?_
    refine WP.iload (pc' := 292) at_290 rfl rfl ?_
    refine WP.iload (pc' := 294) at_292 rfl rfl ?_
    refine WP.iload (pc' := 296) at_294 rfl rfl ?_
    refine WP.iload (pc' := 298) at_296 rfl rfl ?_
    refine WP.iload (pc' := 300) at_298 rfl rfl ?_
    refine WP.iload (pc' := 302) at_300 rfl rfl ?_
    refine WP.iload (pc' := 304) at_302 rfl rfl ?_
    refine WP.iload (pc' := 306) at_304 rfl rfl ?_
    refine WP.iload (pc' := 308) at_306 rfl rfl ?_
    refine WP.callS (pc' := 311) (con_LTR (c := c0) (f := f) (s := s) (r := r) (e := e) (t := t)) (hw _ (List.mem_of_getElem? (i := 160) rfl)) (hw _ (List.mem_of_getElem? (i := 161) rfl)) (hw _ (List.mem_of_getElem? (i := 3) rfl)) (hw _ (List.mem_of_getElem? (i := 162) rfl)) at_308 (by decide) pdx40 rfl rfl rfl (by first | exact Nat.le_of_ble_eq_true rfl | omega | (simp; done) | (simp; omega) | (dsimp only; omega)) (by first | exact Nat.le_of_ble_eq_true rfl | omega | (simp; done) | (simp; omega) | (dsimp only; omega)) (by first | exact Nat.le_of_ble_eq_true rfl | omega | (simp; done) | (simp; omega) | (dsimp only; omega)) (by first | exact Nat.le_of_ble_eq_true rfl | omega | (simp; done) | (simp; omega) | (dsimp only; omega)) (fun _ hx => nomatch hx) rfl ?_
    rintro v h9 nw9 K9 hnw9 ⟨rfl, rfl, rfl⟩
    dsimp only [Option.toList, List.cons_append, List.nil_append]
    refine WP.callS (pc' := 314) (con_PUT (p := 0) (c := c0) (f := f) (s := s) (r := r) (e := e) (t := t) A (by simp) (List.mem_cons_self ..)) (hw _ (List.mem_of_getElem? (i := 163) rfl)) (hw _ (List.mem_of_getElem? (i := 164) rfl)) (hw _ (List.mem_of_getElem? (i := 3) rfl)) (hw _ (List.mem_of_getElem? (i := 165) rfl)) at_311 (by decide) pdx41 rfl rfl rfl (by first | exact Nat.le_of_ble_eq_true rfl | omega | (simp; done) | (simp; omega) | (dsimp only; omega)) (by first | exact Nat.le_of_ble_eq_true rfl | omega | (simp; done) | (simp; omega) | (dsimp only; omega)) (by first | exact Nat.le_of_ble_eq_true rfl | omega | (simp; done) | (simp; omega) | (dsimp only; omega)) (by first | exact Nat.le_of_ble_eq_true rfl | omega | (simp; done) | (simp; omega) | (dsimp only; omega)) (fun x hx => by cases List.mem_singleton.mp hx; exact Or.inr mq) rfl ?_
    rintro v g0 nwg0 Kg0 hnwg0 ⟨rfl, rfl, A1⟩
    dsimp only [Option.toList, List.cons_append, List.nil_append]
    replace S := S.call Kg0 (fun x hx => by cases List.mem_singleton.mp hx; exact List.mem_cons_self ..) hnwg0
    dsimp only [List.nil_append] at S
    rw [Nat.zero_add]
    refine WP.istore (pc' := 316) at_314 rfl rfl rfl ?_
    dsimp only [List.set]
    refine WP.iload (pc' := 318) at_316 rfl rfl ?_
    refine WP.iconst (pc' := 319) (x := 1) at_318 (by decide) rfl ?_
    refine WP.icmpT (pc' := 350) at_319 (by decide) (by decide) (show ¬ (1 : Int32) < 1 by decide) ?_
    refine WP.iload (pc' := 352) at_350 rfl rfl ?_
    refine WP.iconst (pc' := 353) (x := 2) at_352 (by decide) rfl ?_
    refine WP.icmpT (pc' := 384) at_353 (by decide) (by decide) (show ¬ (2 : Int32) < 1 by decide) ?_
    refine WP.more (ce' := 7) (sl' := 33) ?_ (Nat.le_of_ble_eq_true rfl) (Nat.le_of_ble_eq_true rfl)
    exact rest_LAW hw hc hu16 hf (hmn q) (by simp) S A1.lt (by simpa [ovr_nil, List.append_assoc] using A1) (congrArg Int32.ofNat (by simp [Nat.add_assoc]))
  · refine WP.ifF (pc' := 288) at_285 rfl (show (0 : Int32) < 2 by decide) ?_
    refine WP.aload (pc' := 290) at_288 rfl rfl rfl ?_
    refine WP.iload (pc' := 292) at_290 rfl rfl ?_
    refine WP.iload (pc' := 294) at_292 rfl rfl ?_
    refine WP.iload (pc' := 296) at_294 rfl rfl ?_
    refine WP.iload (pc' := 298) at_296 rfl rfl ?_
    refine WP.iload (pc' := 300) at_298 rfl rfl ?_
    refine WP.iload (pc' := 302) at_300 rfl rfl ?_
    refine WP.iload (pc' := 304) at_302 rfl rfl ?_
    refine WP.iload (pc' := 306) at_304 rfl rfl ?_
    refine WP.iload (pc' := 308) at_306 rfl rfl ?_
    refine WP.callS (pc' := 311) (con_LTR (c := c0) (f := f) (s := s) (r := r) (e := e) (t := t)) (hw _ (List.mem_of_getElem? (i := 160) rfl)) (hw _ (List.mem_of_getElem? (i := 161) rfl)) (hw _ (List.mem_of_getElem? (i := 3) rfl)) (hw _ (List.mem_of_getElem? (i := 162) rfl)) at_308 (by decide) pdx40 rfl rfl rfl (by first | exact Nat.le_of_ble_eq_true rfl | omega | (simp; done) | (simp; omega) | (dsimp only; omega)) (by first | exact Nat.le_of_ble_eq_true rfl | omega | (simp; done) | (simp; omega) | (dsimp only; omega)) (by first | exact Nat.le_of_ble_eq_true rfl | omega | (simp; done) | (simp; omega) | (dsimp only; omega)) (by first | exact Nat.le_of_ble_eq_true rfl | omega | (simp; done) | (simp; omega) | (dsimp only; omega)) (fun _ hx => nomatch hx) rfl ?_
    rintro v h9 nw9 K9 hnw9 ⟨rfl, rfl, rfl⟩
    dsimp only [Option.toList, List.cons_append, List.nil_append]
    refine WP.callS (pc' := 314) (con_PUT (p := 0) (c := c0) (f := f) (s := s) (r := r) (e := e) (t := t) A (by simp) (List.mem_cons_self ..)) (hw _ (List.mem_of_getElem? (i := 163) rfl)) (hw _ (List.mem_of_getElem? (i := 164) rfl)) (hw _ (List.mem_of_getElem? (i := 3) rfl)) (hw _ (List.mem_of_getElem? (i := 165) rfl)) at_311 (by decide) pdx41 rfl rfl rfl (by first | exact Nat.le_of_ble_eq_true rfl | omega | (simp; done) | (simp; omega) | (dsimp only; omega)) (by first | exact Nat.le_of_ble_eq_true rfl | omega | (simp; done) | (simp; omega) | (dsimp only; omega)) (by first | exact Nat.le_of_ble_eq_true rfl | omega | (simp; done) | (simp; omega) | (dsimp only; omega)) (by first | exact Nat.le_of_ble_eq_true rfl | omega | (simp; done) | (simp; omega) | (dsimp only; omega)) (fun x hx => by cases List.mem_singleton.mp hx; exact Or.inr mq) rfl ?_
    rintro v g0 nwg0 Kg0 hnwg0 ⟨rfl, rfl, A1⟩
    dsimp only [Option.toList, List.cons_append, List.nil_append]
    replace S := S.call Kg0 (fun x hx => by cases List.mem_singleton.mp hx; exact List.mem_cons_self ..) hnwg0
    dsimp only [List.nil_append] at S
    rw [Nat.zero_add]
    refine WP.istore (pc' := 316) at_314 rfl rfl rfl ?_
    dsimp only [List.set]
    refine WP.iload (pc' := 318) at_316 rfl rfl ?_
    refine WP.iconst (pc' := 319) (x := 1) at_318 (by decide) rfl ?_
    refine WP.icmpF (pc' := 322) at_319 rfl (show (1 : Int32) < 2 by decide) ?_
    refine WP.aload (pc' := 324) at_322 rfl rfl rfl ?_
    refine WP.iload (pc' := 326) at_324 rfl rfl ?_
    refine WP.iload (pc' := 328) at_326 rfl rfl ?_
    refine WP.iload (pc' := 330) at_328 rfl rfl ?_
    refine WP.iload (pc' := 332) at_330 rfl rfl ?_
    refine WP.iload (pc' := 334) at_332 rfl rfl ?_
    refine WP.iload (pc' := 336) at_334 rfl rfl ?_
    refine WP.iload (pc' := 338) at_336 rfl rfl ?_
    refine WP.iload (pc' := 340) at_338 rfl rfl ?_
    refine WP.iload (pc' := 342) at_340 rfl rfl ?_
    refine WP.callS (pc' := 345) (con_LTR (c := c1) (f := f) (s := s) (r := r) (e := e) (t := t)) (hw _ (List.mem_of_getElem? (i := 160) rfl)) (hw _ (List.mem_of_getElem? (i := 161) rfl)) (hw _ (List.mem_of_getElem? (i := 3) rfl)) (hw _ (List.mem_of_getElem? (i := 162) rfl)) at_342 (by decide) pdx40 rfl rfl rfl (by first | exact Nat.le_of_ble_eq_true rfl | omega | (simp; done) | (simp; omega) | (dsimp only; omega)) (by first | exact Nat.le_of_ble_eq_true rfl | omega | (simp; done) | (simp; omega) | (dsimp only; omega)) (by first | exact Nat.le_of_ble_eq_true rfl | omega | (simp; done) | (simp; omega) | (dsimp only; omega)) (by first | exact Nat.le_of_ble_eq_true rfl | omega | (simp; done) | (simp; omega) | (dsimp only; omega)) (fun _ hx => nomatch hx) rfl ?_
    rintro v h9 nw9 K9 hnw9 ⟨rfl, rfl, rfl⟩
    dsimp only [Option.toList, List.cons_append, List.nil_append]
    refine WP.callS (pc' := 348) (con_PUT (p := (esc1 f s r e t c0).length) (c := c1) (f := f) (s := s) (r := r) (e := e) (t := t) A1 (by rw [ovr_len (by simp; omega)]; simp; omega) (List.mem_cons_self ..)) (hw _ (List.mem_of_getElem? (i := 163) rfl)) (hw _ (List.mem_of_getElem? (i := 164) rfl)) (hw _ (List.mem_of_getElem? (i := 3) rfl)) (hw _ (List.mem_of_getElem? (i := 165) rfl)) at_345 (by decide) pdx41 rfl rfl rfl (by first | exact Nat.le_of_ble_eq_true rfl | omega | (simp; done) | (simp; omega) | (dsimp only; omega)) (by first | exact Nat.le_of_ble_eq_true rfl | omega | (simp; done) | (simp; omega) | (dsimp only; omega)) (by first | exact Nat.le_of_ble_eq_true rfl | omega | (simp; done) | (simp; omega) | (dsimp only; omega)) (by first | exact Nat.le_of_ble_eq_true rfl | omega | (simp; done) | (simp; omega) | (dsimp only; omega)) (fun x hx => by cases List.mem_singleton.mp hx; exact Or.inr mq) rfl ?_
    rintro v g1 nwg1 Kg1 hnwg1 ⟨rfl, rfl, A2⟩
    dsimp only [Option.toList, List.cons_append, List.nil_append]
    replace S := S.call Kg1 (fun x hx => by cases List.mem_singleton.mp hx; exact List.mem_cons_self ..) hnwg1
    dsimp only [List.nil_append] at S
    rw [show (esc1 f s r e t c0).length = (esc1 f s r e t c0).length by simp] at A2
    rw [ovr_app (by simp; omega)] at A2
    refine WP.istore (pc' := 350) at_348 rfl rfl rfl ?_
    dsimp only [List.set]
    refine WP.iload (pc' := 352) at_350 rfl rfl ?_
    refine WP.iconst (pc' := 353) (x := 2) at_352 (by decide) rfl ?_
    refine WP.icmpT (pc' := 384) at_353 (by decide) (by decide) (show ¬ (2 : Int32) < 2 by decide) ?_
    refine WP.more (ce' := 7) (sl' := 33) ?_ (Nat.le_of_ble_eq_true rfl) (Nat.le_of_ble_eq_true rfl)
    exact rest_LAW hw hc hu16 hf (hmn q) (by simp) S A2.lt (by simpa [ovr_nil, List.append_assoc] using A2) (congrArg Int32.ofNat (by simp [Nat.add_assoc]))
  · refine WP.ifF (pc' := 288) at_285 rfl (show (0 : Int32) < 3 by decide) ?_
    refine WP.aload (pc' := 290) at_288 rfl rfl rfl ?_
    refine WP.iload (pc' := 292) at_290 rfl rfl ?_
    refine WP.iload (pc' := 294) at_292 rfl rfl ?_
    refine WP.iload (pc' := 296) at_294 rfl rfl ?_
    refine WP.iload (pc' := 298) at_296 rfl rfl ?_
    refine WP.iload (pc' := 300) at_298 rfl rfl ?_
    refine WP.iload (pc' := 302) at_300 rfl rfl ?_
    refine WP.iload (pc' := 304) at_302 rfl rfl ?_
    refine WP.iload (pc' := 306) at_304 rfl rfl ?_
    refine WP.iload (pc' := 308) at_306 rfl rfl ?_
    refine WP.callS (pc' := 311) (con_LTR (c := c0) (f := f) (s := s) (r := r) (e := e) (t := t)) (hw _ (List.mem_of_getElem? (i := 160) rfl)) (hw _ (List.mem_of_getElem? (i := 161) rfl)) (hw _ (List.mem_of_getElem? (i := 3) rfl)) (hw _ (List.mem_of_getElem? (i := 162) rfl)) at_308 (by decide) pdx40 rfl rfl rfl (by first | exact Nat.le_of_ble_eq_true rfl | omega | (simp; done) | (simp; omega) | (dsimp only; omega)) (by first | exact Nat.le_of_ble_eq_true rfl | omega | (simp; done) | (simp; omega) | (dsimp only; omega)) (by first | exact Nat.le_of_ble_eq_true rfl | omega | (simp; done) | (simp; omega) | (dsimp only; omega)) (by first | exact Nat.le_of_ble_eq_true rfl | omega | (simp; done) | (simp; omega) | (dsimp only; omega)) (fun _ hx => nomatch hx) rfl ?_
    rintro v h9 nw9 K9 hnw9 ⟨rfl, rfl, rfl⟩
    dsimp only [Option.toList, List.cons_append, List.nil_append]
    refine WP.callS (pc' := 314) (con_PUT (p := 0) (c := c0) (f := f) (s := s) (r := r) (e := e) (t := t) A (by simp) (List.mem_cons_self ..)) (hw _ (List.mem_of_getElem? (i := 163) rfl)) (hw _ (List.mem_of_getElem? (i := 164) rfl)) (hw _ (List.mem_of_getElem? (i := 3) rfl)) (hw _ (List.mem_of_getElem? (i := 165) rfl)) at_311 (by decide) pdx41 rfl rfl rfl (by first | exact Nat.le_of_ble_eq_true rfl | omega | (simp; done) | (simp; omega) | (dsimp only; omega)) (by first | exact Nat.le_of_ble_eq_true rfl | omega | (simp; done) | (simp; omega) | (dsimp only; omega)) (by first | exact Nat.le_of_ble_eq_true rfl | omega | (simp; done) | (simp; omega) | (dsimp only; omega)) (by first | exact Nat.le_of_ble_eq_true rfl | omega | (simp; done) | (simp; omega) | (dsimp only; omega)) (fun x hx => by cases List.mem_singleton.mp hx; exact Or.inr mq) rfl ?_
    rintro v g0 nwg0 Kg0 hnwg0 ⟨rfl, rfl, A1⟩
    dsimp only [Option.toList, List.cons_append, List.nil_append]
    replace S := S.call Kg0 (fun x hx => by cases List.mem_singleton.mp hx; exact List.mem_cons_self ..) hnwg0
    dsimp only [List.nil_append] at S
    rw [Nat.zero_add]
    refine WP.istore (pc' := 316) at_314 rfl rfl rfl ?_
    dsimp only [List.set]
    refine WP.iload (pc' := 318) at_316 rfl rfl ?_
    refine WP.iconst (pc' := 319) (x := 1) at_318 (by decide) rfl ?_
    refine WP.icmpF (pc' := 322) at_319 rfl (show (1 : Int32) < 3 by decide) ?_
    refine WP.aload (pc' := 324) at_322 rfl rfl rfl ?_
    refine WP.iload (pc' := 326) at_324 rfl rfl ?_
    refine WP.iload (pc' := 328) at_326 rfl rfl ?_
    refine WP.iload (pc' := 330) at_328 rfl rfl ?_
    refine WP.iload (pc' := 332) at_330 rfl rfl ?_
    refine WP.iload (pc' := 334) at_332 rfl rfl ?_
    refine WP.iload (pc' := 336) at_334 rfl rfl ?_
    refine WP.iload (pc' := 338) at_336 rfl rfl ?_
    refine WP.iload (pc' := 340) at_338 rfl rfl ?_
    refine WP.iload (pc' := 342) at_340 rfl rfl ?_
    refine WP.callS (pc' := 345) (con_LTR (c := c1) (f := f) (s := s) (r := r) (e := e) (t := t)) (hw _ (List.mem_of_getElem? (i := 160) rfl)) (hw _ (List.mem_of_getElem? (i := 161) rfl)) (hw _ (List.mem_of_getElem? (i := 3) rfl)) (hw _ (List.mem_of_getElem? (i := 162) rfl)) at_342 (by decide) pdx40 rfl rfl rfl (by first | exact Nat.le_of_ble_eq_true rfl | omega | (simp; done) | (simp; omega) | (dsimp only; omega)) (by first | exact Nat.le_of_ble_eq_true rfl | omega | (simp; done) | (simp; omega) | (dsimp only; omega)) (by first | exact Nat.le_of_ble_eq_true rfl | omega | (simp; done) | (simp; omega) | (dsimp only; omega)) (by first | exact Nat.le_of_ble_eq_true rfl | omega | (simp; done) | (simp; omega) | (dsimp only; omega)) (fun _ hx => nomatch hx) rfl ?_
    rintro v h9 nw9 K9 hnw9 ⟨rfl, rfl, rfl⟩
    dsimp only [Option.toList, List.cons_append, List.nil_append]
    refine WP.callS (pc' := 348) (con_PUT (p := (esc1 f s r e t c0).length) (c := c1) (f := f) (s := s) (r := r) (e := e) (t := t) A1 (by rw [ovr_len (by simp; omega)]; simp; omega) (List.mem_cons_self ..)) (hw _ (List.mem_of_getElem? (i := 163) rfl)) (hw _ (List.mem_of_getElem? (i := 164) rfl)) (hw _ (List.mem_of_getElem? (i := 3) rfl)) (hw _ (List.mem_of_getElem? (i := 165) rfl)) at_345 (by decide) pdx41 rfl rfl rfl (by first | exact Nat.le_of_ble_eq_true rfl | omega | (simp; done) | (simp; omega) | (dsimp only; omega)) (by first | exact Nat.le_of_ble_eq_true rfl | omega | (simp; done) | (simp; omega) | (dsimp only; omega)) (by first | exact Nat.le_of_ble_eq_true rfl | omega | (simp; done) | (simp; omega) | (dsimp only; omega)) (by first | exact Nat.le_of_ble_eq_true rfl | omega | (simp; done) | (simp; omega) | (dsimp only; omega)) (fun x hx => by cases List.mem_singleton.mp hx; exact Or.inr mq) rfl ?_
    rintro v g1 nwg1 Kg1 hnwg1 ⟨rfl, rfl, A2⟩
    dsimp only [Option.toList, List.cons_append, List.nil_append]
    replace S := S.call Kg1 (fun x hx => by cases List.mem_singleton.mp hx; exact List.mem_cons_self ..) hnwg1
    dsimp only [List.nil_append] at S
    rw [show (esc1 f s r e t c0).length = (esc1 f s r e t c0).length by simp] at A2
    rw [ovr_app (by simp; omega)] at A2
    refine WP.istore (pc' := 350) at_348 rfl rfl rfl ?_
    dsimp only [List.set]
    refine WP.iload (pc' := 352) at_350 rfl rfl ?_
    refine WP.iconst (pc' := 353) (x := 2) at_352 (by decide) rfl ?_
    refine WP.icmpF (pc' := 356) at_353 rfl (show (2 : Int32) < 3 by decide) ?_
    refine WP.aload (pc' := 358) at_356 rfl rfl rfl ?_
    refine WP.iload (pc' := 360) at_358 rfl rfl ?_
    refine WP.iload (pc' := 362) at_360 rfl rfl ?_
    refine WP.iload (pc' := 364) at_362 rfl rfl ?_
    refine WP.iload (pc' := 366) at_364 rfl rfl ?_
    refine WP.iload (pc' := 368) at_366 rfl rfl ?_
    refine WP.iload (pc' := 370) at_368 rfl rfl ?_
    refine WP.iload (pc' := 372) at_370 rfl rfl ?_
    refine WP.iload (pc' := 374) at_372 rfl rfl ?_
    refine WP.iload (pc' := 376) at_374 rfl rfl ?_
    refine WP.callS (pc' := 379) (con_LTR (c := c2) (f := f) (s := s) (r := r) (e := e) (t := t)) (hw _ (List.mem_of_getElem? (i := 160) rfl)) (hw _ (List.mem_of_getElem? (i := 161) rfl)) (hw _ (List.mem_of_getElem? (i := 3) rfl)) (hw _ (List.mem_of_getElem? (i := 162) rfl)) at_376 (by decide) pdx40 rfl rfl rfl (by first | exact Nat.le_of_ble_eq_true rfl | omega | (simp; done) | (simp; omega) | (dsimp only; omega)) (by first | exact Nat.le_of_ble_eq_true rfl | omega | (simp; done) | (simp; omega) | (dsimp only; omega)) (by first | exact Nat.le_of_ble_eq_true rfl | omega | (simp; done) | (simp; omega) | (dsimp only; omega)) (by first | exact Nat.le_of_ble_eq_true rfl | omega | (simp; done) | (simp; omega) | (dsimp only; omega)) (fun _ hx => nomatch hx) rfl ?_
    rintro v h9 nw9 K9 hnw9 ⟨rfl, rfl, rfl⟩
    dsimp only [Option.toList, List.cons_append, List.nil_append]
    refine WP.callS (pc' := 382) (con_PUT (p := (esc1 f s r e t c0).length + (esc1 f s r e t c1).length) (c := c2) (f := f) (s := s) (r := r) (e := e) (t := t) A2 (by rw [ovr_len (by simp; omega)]; simp; omega) (List.mem_cons_self ..)) (hw _ (List.mem_of_getElem? (i := 163) rfl)) (hw _ (List.mem_of_getElem? (i := 164) rfl)) (hw _ (List.mem_of_getElem? (i := 3) rfl)) (hw _ (List.mem_of_getElem? (i := 165) rfl)) at_379 (by decide) pdx41 rfl rfl rfl (by first | exact Nat.le_of_ble_eq_true rfl | omega | (simp; done) | (simp; omega) | (dsimp only; omega)) (by first | exact Nat.le_of_ble_eq_true rfl | omega | (simp; done) | (simp; omega) | (dsimp only; omega)) (by first | exact Nat.le_of_ble_eq_true rfl | omega | (simp; done) | (simp; omega) | (dsimp only; omega)) (by first | exact Nat.le_of_ble_eq_true rfl | omega | (simp; done) | (simp; omega) | (dsimp only; omega)) (fun x hx => by cases List.mem_singleton.mp hx; exact Or.inr mq) rfl ?_
    rintro v g2 nwg2 Kg2 hnwg2 ⟨rfl, rfl, A3⟩
    dsimp only [Option.toList, List.cons_append, List.nil_append]
    replace S := S.call Kg2 (fun x hx => by cases List.mem_singleton.mp hx; exact List.mem_cons_self ..) hnwg2
    dsimp only [List.nil_append] at S
    rw [show (esc1 f s r e t c0).length + (esc1 f s r e t c1).length = (esc1 f s r e t c0 ++ esc1 f s r e t c1).length by simp] at A3
    rw [ovr_app (by simp; omega)] at A3
    refine WP.istore (pc' := 384) at_382 rfl rfl rfl ?_
    dsimp only [List.set]
    refine WP.more (ce' := 7) (sl' := 33) ?_ (Nat.le_of_ble_eq_true rfl) (Nat.le_of_ble_eq_true rfl)
    exact rest_LAW hw hc hu16 hf (hmn q) (by simp) S A3.lt (by simpa [ovr_nil, List.append_assoc] using A3) (congrArg Int32.ofNat (by simp [Nat.add_assoc]))
theorem and3 (x : Int32) : x &&& 3 = 0 ∨ x &&& 3 = 1 ∨ x &&& 3 = 2 ∨ x &&& 3 = 3 := by
  have m := c_mask x 3 2 (by decide) (by decide)
  have e : (x &&& 3).toInt = 0 ∨ (x &&& 3).toInt = 1 ∨ (x &&& 3).toInt = 2 ∨ (x &&& 3).toInt = 3 := by omega
  rcases e with e | e | e | e
  · exact Or.inl (Int32.toInt_inj.mp e)
  · exact Or.inr (Or.inl (Int32.toInt_inj.mp e))
  · exact Or.inr (Or.inr (Or.inl (Int32.toInt_inj.mp e)))
  · exact Or.inr (Or.inr (Or.inr (Int32.toInt_inj.mp e)))
set_option maxRecDepth 65536 in
set_option maxHeartbeats 40000000 in
theorem tail_LAW1 (hw : ∀ d ∈ tables_1, d.before a0 Z = true) {cz : Int32} (hc : Compact Z cz) (hu16 : U16 Z) {vf : Value} (hf : Fmt Z vf) {dl fr : Int64} {sb sel mk : Int32} :
    WP "com/example/causeway_health/causewayhealth/convert/DelimitersEscapePinLaw" code 21 ret "law" room_1 Z LT h [] mine (fun v h' nw => v = some (.int 1)) mine 0 0 h 16 [.val (.long dl), .second, .val (.int sb), .val (.long fr), .second, .val (.int sel), .unset, .unset, .unset, .unset, .unset, .unset, .unset, .unset, .unset, .unset, .unset, .unset, .unset, .unset, .unset] [.int mk] := by
  have hu := hu16
  refine WP.istore (pc' := 18) at_16 rfl rfl rfl ?_
  dsimp only [List.set]
  refine WP.lloadN (pc' := 19) at_18 rfl rfl ?_
  refine WP.iload (pc' := 21) at_19 rfl rfl ?_
  refine WP.i2l (pc' := 22) at_21 rfl ?_
  refine WP.land (pc' := 23) at_22 rfl ?_
  refine WP.l2i (pc' := 24) at_23 rfl ?_
  refine WP.i2c (pc' := 25) at_24 rfl ?_
  refine WP.istore (pc' := 27) at_25 rfl rfl rfl ?_
  dsimp only [List.set]
  refine WP.lloadN (pc' := 28) at_27 rfl rfl ?_
  refine WP.bipush (pc' := 30) (x := 16) at_28 (by decide) rfl ?_
  refine WP.lushr (pc' := 31) at_30 rfl ?_
  refine WP.iload (pc' := 33) at_31 rfl rfl ?_
  refine WP.i2l (pc' := 34) at_33 rfl ?_
  refine WP.land (pc' := 35) at_34 rfl ?_
  refine WP.l2i (pc' := 36) at_35 rfl ?_
  refine WP.i2c (pc' := 37) at_36 rfl ?_
  refine WP.istore (pc' := 39) at_37 rfl rfl rfl ?_
  dsimp only [List.set]
  refine WP.lloadN (pc' := 40) at_39 rfl rfl ?_
  refine WP.bipush (pc' := 42) (x := 32) at_40 (by decide) rfl ?_
  refine WP.lushr (pc' := 43) at_42 rfl ?_
  refine WP.iload (pc' := 45) at_43 rfl rfl ?_
  refine WP.i2l (pc' := 46) at_45 rfl ?_
  refine WP.land (pc' := 47) at_46 rfl ?_
  refine WP.l2i (pc' := 48) at_47 rfl ?_
  refine WP.i2c (pc' := 49) at_48 rfl ?_
  refine WP.istore (pc' := 51) at_49 rfl rfl rfl ?_
  dsimp only [List.set]
  refine WP.lloadN (pc' := 52) at_51 rfl rfl ?_
  refine WP.bipush (pc' := 54) (x := 48) at_52 (by decide) rfl ?_
  refine WP.lushr (pc' := 55) at_54 rfl ?_
  refine WP.iload (pc' := 57) at_55 rfl rfl ?_
  refine WP.i2l (pc' := 58) at_57 rfl ?_
  refine WP.land (pc' := 59) at_58 rfl ?_
  refine WP.l2i (pc' := 60) at_59 rfl ?_
  refine WP.i2c (pc' := 61) at_60 rfl ?_
  refine WP.istore (pc' := 63) at_61 rfl rfl rfl ?_
  dsimp only [List.set]
  refine WP.iloadN (pc' := 64) at_63 rfl rfl ?_
  refine WP.iload (pc' := 66) at_64 rfl rfl ?_
  refine WP.iand (pc' := 67) at_66 rfl ?_
  refine WP.i2c (pc' := 68) at_67 rfl ?_
  refine WP.istore (pc' := 70) at_68 rfl rfl rfl ?_
  dsimp only [List.set]
  refine WP.iload (pc' := 72) at_70 rfl rfl ?_
  refine WP.iconst (pc' := 73) (x := 3) at_72 (by decide) rfl ?_
  refine WP.iand (pc' := 74) at_73 rfl ?_
  refine WP.istore (pc' := 76) at_74 rfl rfl rfl ?_
  dsimp only [List.set]
  refine WP.iload (pc' := 78) at_76 rfl rfl ?_
  refine WP.iconst (pc' := 79) (x := 2) at_78 (by decide) rfl ?_
  refine WP.iushr (pc' := 80) at_79 rfl ?_
  refine WP.bipush (pc' := 82) (x := 7) at_80 (by decide) rfl ?_
  refine WP.iand (pc' := 83) at_82 rfl ?_
  refine WP.lloadN (pc' := 84) at_83 rfl rfl ?_
  refine WP.iload (pc' := 86) at_84 rfl rfl ?_
  refine WP.i2l (pc' := 87) at_86 rfl ?_
  refine WP.land (pc' := 88) at_87 rfl ?_
  refine WP.l2i (pc' := 89) at_88 rfl ?_
  refine WP.i2c (pc' := 90) at_89 rfl ?_
  refine WP.iload (pc' := 92) at_90 rfl rfl ?_
  refine WP.iload (pc' := 94) at_92 rfl rfl ?_
  refine WP.iload (pc' := 96) at_94 rfl rfl ?_
  refine WP.iload (pc' := 98) at_96 rfl rfl ?_
  refine WP.iload (pc' := 100) at_98 rfl rfl ?_
  refine WP.callS (pc' := 103) (con_PK (g := cu _) (f := cu _) (s := cu _) (r := cu _) (e := cu _) (t := cu _)) (hw _ (List.mem_of_getElem? (i := 1) rfl)) (hw _ (List.mem_of_getElem? (i := 2) rfl)) (hw _ (List.mem_of_getElem? (i := 3) rfl)) (hw _ (List.mem_of_getElem? (i := 4) rfl)) at_100 (by decide) pdx42 rfl rfl rfl (by first | exact Nat.le_of_ble_eq_true rfl | omega | (simp; done) | (simp; omega) | (dsimp only; omega)) (by first | exact Nat.le_of_ble_eq_true rfl | omega | (simp; done) | (simp; omega) | (dsimp only; omega)) (by first | exact Nat.le_of_ble_eq_true rfl | omega | (simp; done) | (simp; omega) | (dsimp only; omega)) (by first | exact Nat.le_of_ble_eq_true rfl | omega | (simp; done) | (simp; omega) | (dsimp only; omega)) (fun _ hx => nomatch hx) rfl ?_
  rintro v h9 nw9 K9 hnw9 ⟨rfl, ⟨c0, rfl⟩, rfl⟩
  dsimp only [Option.toList, List.cons_append, List.nil_append]
  refine WP.istore (pc' := 105) at_103 rfl rfl rfl ?_
  dsimp only [List.set]
  refine WP.iload (pc' := 107) at_105 rfl rfl ?_
  refine WP.iconst (pc' := 108) (x := 5) at_107 (by decide) rfl ?_
  refine WP.iushr (pc' := 109) at_108 rfl ?_
  refine WP.bipush (pc' := 111) (x := 7) at_109 (by decide) rfl ?_
  refine WP.iand (pc' := 112) at_111 rfl ?_
  refine WP.lloadN (pc' := 113) at_112 rfl rfl ?_
  refine WP.bipush (pc' := 115) (x := 16) at_113 (by decide) rfl ?_
  refine WP.lushr (pc' := 116) at_115 rfl ?_
  refine WP.iload (pc' := 118) at_116 rfl rfl ?_
  refine WP.i2l (pc' := 119) at_118 rfl ?_
  refine WP.land (pc' := 120) at_119 rfl ?_
  refine WP.l2i (pc' := 121) at_120 rfl ?_
  refine WP.i2c (pc' := 122) at_121 rfl ?_
  refine WP.iload (pc' := 124) at_122 rfl rfl ?_
  refine WP.iload (pc' := 126) at_124 rfl rfl ?_
  refine WP.iload (pc' := 128) at_126 rfl rfl ?_
  refine WP.iload (pc' := 130) at_128 rfl rfl ?_
  refine WP.iload (pc' := 132) at_130 rfl rfl ?_
  refine WP.callS (pc' := 135) (con_PK (g := cu _) (f := cu _) (s := cu _) (r := cu _) (e := cu _) (t := cu _)) (hw _ (List.mem_of_getElem? (i := 1) rfl)) (hw _ (List.mem_of_getElem? (i := 2) rfl)) (hw _ (List.mem_of_getElem? (i := 3) rfl)) (hw _ (List.mem_of_getElem? (i := 4) rfl)) at_132 (by decide) pdx42 rfl rfl rfl (by first | exact Nat.le_of_ble_eq_true rfl | omega | (simp; done) | (simp; omega) | (dsimp only; omega)) (by first | exact Nat.le_of_ble_eq_true rfl | omega | (simp; done) | (simp; omega) | (dsimp only; omega)) (by first | exact Nat.le_of_ble_eq_true rfl | omega | (simp; done) | (simp; omega) | (dsimp only; omega)) (by first | exact Nat.le_of_ble_eq_true rfl | omega | (simp; done) | (simp; omega) | (dsimp only; omega)) (fun _ hx => nomatch hx) rfl ?_
  rintro v h9 nw9 K9 hnw9 ⟨rfl, ⟨c1, rfl⟩, rfl⟩
  dsimp only [Option.toList, List.cons_append, List.nil_append]
  refine WP.istore (pc' := 137) at_135 rfl rfl rfl ?_
  dsimp only [List.set]
  refine WP.iload (pc' := 139) at_137 rfl rfl ?_
  refine WP.bipush (pc' := 141) (x := 8) at_139 (by decide) rfl ?_
  refine WP.iushr (pc' := 142) at_141 rfl ?_
  refine WP.bipush (pc' := 144) (x := 7) at_142 (by decide) rfl ?_
  refine WP.iand (pc' := 145) at_144 rfl ?_
  refine WP.lloadN (pc' := 146) at_145 rfl rfl ?_
  refine WP.bipush (pc' := 148) (x := 32) at_146 (by decide) rfl ?_
  refine WP.lushr (pc' := 149) at_148 rfl ?_
  refine WP.iload (pc' := 151) at_149 rfl rfl ?_
  refine WP.i2l (pc' := 152) at_151 rfl ?_
  refine WP.land (pc' := 153) at_152 rfl ?_
  refine WP.l2i (pc' := 154) at_153 rfl ?_
  refine WP.i2c (pc' := 155) at_154 rfl ?_
  refine WP.iload (pc' := 157) at_155 rfl rfl ?_
  refine WP.iload (pc' := 159) at_157 rfl rfl ?_
  refine WP.iload (pc' := 161) at_159 rfl rfl ?_
  refine WP.iload (pc' := 163) at_161 rfl rfl ?_
  refine WP.iload (pc' := 165) at_163 rfl rfl ?_
  refine WP.callS (pc' := 168) (con_PK (g := cu _) (f := cu _) (s := cu _) (r := cu _) (e := cu _) (t := cu _)) (hw _ (List.mem_of_getElem? (i := 1) rfl)) (hw _ (List.mem_of_getElem? (i := 2) rfl)) (hw _ (List.mem_of_getElem? (i := 3) rfl)) (hw _ (List.mem_of_getElem? (i := 4) rfl)) at_165 (by decide) pdx42 rfl rfl rfl (by first | exact Nat.le_of_ble_eq_true rfl | omega | (simp; done) | (simp; omega) | (dsimp only; omega)) (by first | exact Nat.le_of_ble_eq_true rfl | omega | (simp; done) | (simp; omega) | (dsimp only; omega)) (by first | exact Nat.le_of_ble_eq_true rfl | omega | (simp; done) | (simp; omega) | (dsimp only; omega)) (by first | exact Nat.le_of_ble_eq_true rfl | omega | (simp; done) | (simp; omega) | (dsimp only; omega)) (fun _ hx => nomatch hx) rfl ?_
  rintro v h9 nw9 K9 hnw9 ⟨rfl, ⟨c2, rfl⟩, rfl⟩
  dsimp only [Option.toList, List.cons_append, List.nil_append]
  refine WP.istore (pc' := 170) at_168 rfl rfl rfl ?_
  dsimp only [List.set]
  refine WP.iload (pc' := 172) at_170 rfl rfl ?_
  rcases and3 sel with en | en | en | en
  · refine WP.ifF (pc' := 175) at_172 rfl en ?_
    refine WP.new (pc' := 178) at_175 (hw _ (List.mem_of_getElem? (i := 5) rfl)) (hw _ (List.mem_of_getElem? (i := 6) rfl)) (hw _ (List.mem_of_getElem? (i := 7) rfl)) (by first | exact Nat.le_of_ble_eq_true rfl | omega | (simp; done) | (simp; omega) | (dsimp only; omega)) (by first | exact Nat.le_of_ble_eq_true rfl | omega | (simp; done) | (simp; omega) | (dsimp only; omega)) rfl ?_
    intro hs0 as eas nas mas Es Xs Ds
    have Vs : Fld Z hs0 as ST "value" "[B" .null := Ds (Or.inr (hw _ (List.mem_of_getElem? (i := 21) rfl))) (ty := .array .byte) (by decide)
    have Cs : Fld Z hs0 as ST "coder" "B" (.int 0) := Ds (Or.inr (hw _ (List.mem_of_getElem? (i := 22) rfl))) (ty := .byte) (by decide)
    refine WP.dup (pc' := 179) at_178 rfl rfl ?_
    refine WP.iconst (pc' := 180) (x := 0) at_179 (by decide) rfl ?_
    refine WP.newarray (pc' := 182) (N := 0) at_180 (hw _ (List.mem_of_getElem? (i := 8) rfl)) rfl (by decide) (by first | exact Nat.le_of_ble_eq_true rfl | omega | (simp; done) | (simp; omega) | (dsimp only; omega)) (by first | exact Nat.le_of_ble_eq_true rfl | omega | (simp; done) | (simp; omega) | (dsimp only; omega)) (by first | exact Nat.le_of_ble_eq_true rfl | omega | (simp; done) | (simp; omega) | (dsimp only; omega)) rfl ?_
    intro hs1 bs ebs nbs mbs Ebs As
    have nes : as ≠ bs := fun q => nbs (q ▸ List.mem_cons_self ..)
    have Gs1 := ext_trans Es Ebs
    replace Xs := Xs.ext Ebs
    replace Vs := Vs.ext Ebs
    replace Cs := Cs.ext Ebs
    replace As : ArI Z hs1 bs .char [] := As
    refine WP.callSp (pc' := 185) (con_SI1 hw hc hu (us := ([] : List UInt16)) (N := 0) (by simp) (by decide) Xs Vs Cs As (List.mem_cons_of_mem _ (List.mem_cons_self ..))) rfl (hw _ (List.mem_of_getElem? (i := 9) rfl)) (hw _ (List.mem_of_getElem? (i := 10) rfl)) (hw _ (List.mem_of_getElem? (i := 7) rfl)) (hw _ (List.mem_of_getElem? (i := 11) rfl)) at_182 (by decide) pdx43 rfl rfl rfl (by first | exact Nat.le_of_ble_eq_true rfl | omega | (simp; done) | (simp; omega) | (dsimp only; omega)) (by first | exact Nat.le_of_ble_eq_true rfl | omega | (simp; done) | (simp; omega) | (dsimp only; omega)) (by first | exact Nat.le_of_ble_eq_true rfl | omega | (simp; done) | (simp; omega) | (dsimp only; omega)) (by first | exact Nat.le_of_ble_eq_true rfl | omega | (simp; done) | (simp; omega) | (dsimp only; omega)) (fun x hx => by cases List.mem_singleton.mp hx; exact Or.inr mas) rfl ?_
    rintro v hs nw Ks hnw ⟨rfl, rfl, ts, Ss, hts⟩
    dsimp only [Option.toList, List.nil_append]
    have Gs := ext_keep Gs1 Ks (fun x hx => by cases List.mem_singleton.mp hx; exact Nat.le_of_eq eas.symm)
    have Fs : FStr Z hs mine as (([] : List UInt16)) := ⟨ts, Ss, nas, fun q => hts (List.mem_cons_of_mem _ (List.mem_cons_of_mem _ q))⟩
    refine WP.freeze (mine' := mine) ?_ (fun x hx => List.mem_cons_of_mem _ (List.mem_cons_of_mem _ hx))
    refine WP.astore (pc' := 187) at_185 rfl rfl rfl rfl rfl ?_
    dsimp only [List.set]
    refine WP.goto (pc' := 274) at_187 (by decide) (by decide) ?_
    refine WP.more (ce' := 6) (sl' := 24) ?_ (Nat.le_of_ble_eq_true rfl) (Nat.le_of_ble_eq_true rfl)
    exact tail_LAW (f := cu _) (s := cu _) (r := cu _) (e := cu _) (t := cu _) (c0 := c0) (c1 := c1) (c2 := c2) hw hc hu16 hf Fs (Or.inl ⟨en, rfl⟩)
  · refine WP.ifT (pc' := 190) at_172 (by decide) (by decide) (show ¬ (sel &&& 3) = 0 by rw [en]; decide) ?_
    refine WP.iload (pc' := 192) at_190 rfl rfl ?_
    refine WP.iconst (pc' := 193) (x := 1) at_192 (by decide) rfl ?_
    refine WP.icmpF (pc' := 196) at_193 rfl en ?_
    refine WP.new (pc' := 199) at_196 (hw _ (List.mem_of_getElem? (i := 5) rfl)) (hw _ (List.mem_of_getElem? (i := 6) rfl)) (hw _ (List.mem_of_getElem? (i := 7) rfl)) (by first | exact Nat.le_of_ble_eq_true rfl | omega | (simp; done) | (simp; omega) | (dsimp only; omega)) (by first | exact Nat.le_of_ble_eq_true rfl | omega | (simp; done) | (simp; omega) | (dsimp only; omega)) rfl ?_
    intro hs0 as eas nas mas Es Xs Ds
    have Vs : Fld Z hs0 as ST "value" "[B" .null := Ds (Or.inr (hw _ (List.mem_of_getElem? (i := 21) rfl))) (ty := .array .byte) (by decide)
    have Cs : Fld Z hs0 as ST "coder" "B" (.int 0) := Ds (Or.inr (hw _ (List.mem_of_getElem? (i := 22) rfl))) (ty := .byte) (by decide)
    refine WP.dup (pc' := 200) at_199 rfl rfl ?_
    refine WP.iconst (pc' := 201) (x := 1) at_200 (by decide) rfl ?_
    refine WP.newarray (pc' := 203) (N := 1) at_201 (hw _ (List.mem_of_getElem? (i := 8) rfl)) rfl (by decide) (by first | exact Nat.le_of_ble_eq_true rfl | omega | (simp; done) | (simp; omega) | (dsimp only; omega)) (by first | exact Nat.le_of_ble_eq_true rfl | omega | (simp; done) | (simp; omega) | (dsimp only; omega)) (by first | exact Nat.le_of_ble_eq_true rfl | omega | (simp; done) | (simp; omega) | (dsimp only; omega)) rfl ?_
    intro hs1 bs ebs nbs mbs Ebs As
    have nes : as ≠ bs := fun q => nbs (q ▸ List.mem_cons_self ..)
    have Gs1 := ext_trans Es Ebs
    replace Xs := Xs.ext Ebs
    replace Vs := Vs.ext Ebs
    replace Cs := Cs.ext Ebs
    replace As : ArI Z hs1 bs .char [0] := As
    refine WP.dup (pc' := 204) at_203 rfl rfl ?_
    refine WP.iconst (pc' := 205) (x := 0) at_204 (by decide) rfl ?_
    refine WP.iload (pc' := 207) at_205 rfl rfl ?_
    refine WP.castore (pc' := 208) (i := 0) at_207 As (by decide) (by simp) (List.mem_cons_self ..) (Or.inr mbs) rfl ?_
    intro hs2 Ws1 As
    have Gs2 := ext_wr Gs1 Ws1 (by rw [ebs]; exact Es.1)
    replace Xs := Xs.wr Ws1
    replace Vs := Vs.other Ws1 (Or.inl nes)
    replace Cs := Cs.other Ws1 (Or.inl nes)
    replace As : ArI Z hs2 bs .char ([chv (c0)]) := by
      have q : ArI Z hs2 bs .char ([0].set 0 (nar .char (chv (c0)))) := As
      rw [chv_nar] at q; exact q
    refine WP.callSp (pc' := 211) (con_SI1 hw hc hu (us := [c0]) (N := 1) (by simp) (by decide) Xs Vs Cs As (List.mem_cons_of_mem _ (List.mem_cons_self ..))) rfl (hw _ (List.mem_of_getElem? (i := 9) rfl)) (hw _ (List.mem_of_getElem? (i := 10) rfl)) (hw _ (List.mem_of_getElem? (i := 7) rfl)) (hw _ (List.mem_of_getElem? (i := 11) rfl)) at_208 (by decide) pdx43 rfl rfl rfl (by first | exact Nat.le_of_ble_eq_true rfl | omega | (simp; done) | (simp; omega) | (dsimp only; omega)) (by first | exact Nat.le_of_ble_eq_true rfl | omega | (simp; done) | (simp; omega) | (dsimp only; omega)) (by first | exact Nat.le_of_ble_eq_true rfl | omega | (simp; done) | (simp; omega) | (dsimp only; omega)) (by first | exact Nat.le_of_ble_eq_true rfl | omega | (simp; done) | (simp; omega) | (dsimp only; omega)) (fun x hx => by cases List.mem_singleton.mp hx; exact Or.inr mas) rfl ?_
    rintro v hs nw Ks hnw ⟨rfl, rfl, ts, Ss, hts⟩
    dsimp only [Option.toList, List.nil_append]
    have Gs := ext_keep Gs2 Ks (fun x hx => by cases List.mem_singleton.mp hx; exact Nat.le_of_eq eas.symm)
    have Fs : FStr Z hs mine as ([c0]) := ⟨ts, Ss, nas, fun q => hts (List.mem_cons_of_mem _ (List.mem_cons_of_mem _ q))⟩
    refine WP.freeze (mine' := mine) ?_ (fun x hx => List.mem_cons_of_mem _ (List.mem_cons_of_mem _ hx))
    refine WP.astore (pc' := 213) at_211 rfl rfl rfl rfl rfl ?_
    dsimp only [List.set]
    refine WP.goto (pc' := 274) at_213 (by decide) (by decide) ?_
    refine WP.more (ce' := 6) (sl' := 24) ?_ (Nat.le_of_ble_eq_true rfl) (Nat.le_of_ble_eq_true rfl)
    exact tail_LAW (f := cu _) (s := cu _) (r := cu _) (e := cu _) (t := cu _) (c0 := c0) (c1 := c1) (c2 := c2) hw hc hu16 hf Fs (Or.inr (Or.inl ⟨en, rfl⟩))
  · refine WP.ifT (pc' := 190) at_172 (by decide) (by decide) (show ¬ (sel &&& 3) = 0 by rw [en]; decide) ?_
    refine WP.iload (pc' := 192) at_190 rfl rfl ?_
    refine WP.iconst (pc' := 193) (x := 1) at_192 (by decide) rfl ?_
    refine WP.icmpT (pc' := 216) at_193 (by decide) (by decide) (show ¬ (sel &&& 3) = 1 by rw [en]; decide) ?_
    refine WP.iload (pc' := 218) at_216 rfl rfl ?_
    refine WP.iconst (pc' := 219) (x := 2) at_218 (by decide) rfl ?_
    refine WP.icmpF (pc' := 222) at_219 rfl en ?_
    refine WP.new (pc' := 225) at_222 (hw _ (List.mem_of_getElem? (i := 5) rfl)) (hw _ (List.mem_of_getElem? (i := 6) rfl)) (hw _ (List.mem_of_getElem? (i := 7) rfl)) (by first | exact Nat.le_of_ble_eq_true rfl | omega | (simp; done) | (simp; omega) | (dsimp only; omega)) (by first | exact Nat.le_of_ble_eq_true rfl | omega | (simp; done) | (simp; omega) | (dsimp only; omega)) rfl ?_
    intro hs0 as eas nas mas Es Xs Ds
    have Vs : Fld Z hs0 as ST "value" "[B" .null := Ds (Or.inr (hw _ (List.mem_of_getElem? (i := 21) rfl))) (ty := .array .byte) (by decide)
    have Cs : Fld Z hs0 as ST "coder" "B" (.int 0) := Ds (Or.inr (hw _ (List.mem_of_getElem? (i := 22) rfl))) (ty := .byte) (by decide)
    refine WP.dup (pc' := 226) at_225 rfl rfl ?_
    refine WP.iconst (pc' := 227) (x := 2) at_226 (by decide) rfl ?_
    refine WP.newarray (pc' := 229) (N := 2) at_227 (hw _ (List.mem_of_getElem? (i := 8) rfl)) rfl (by decide) (by first | exact Nat.le_of_ble_eq_true rfl | omega | (simp; done) | (simp; omega) | (dsimp only; omega)) (by first | exact Nat.le_of_ble_eq_true rfl | omega | (simp; done) | (simp; omega) | (dsimp only; omega)) (by first | exact Nat.le_of_ble_eq_true rfl | omega | (simp; done) | (simp; omega) | (dsimp only; omega)) rfl ?_
    intro hs1 bs ebs nbs mbs Ebs As
    have nes : as ≠ bs := fun q => nbs (q ▸ List.mem_cons_self ..)
    have Gs1 := ext_trans Es Ebs
    replace Xs := Xs.ext Ebs
    replace Vs := Vs.ext Ebs
    replace Cs := Cs.ext Ebs
    replace As : ArI Z hs1 bs .char [0, 0] := As
    refine WP.dup (pc' := 230) at_229 rfl rfl ?_
    refine WP.iconst (pc' := 231) (x := 0) at_230 (by decide) rfl ?_
    refine WP.iload (pc' := 233) at_231 rfl rfl ?_
    refine WP.castore (pc' := 234) (i := 0) at_233 As (by decide) (by simp) (List.mem_cons_self ..) (Or.inr mbs) rfl ?_
    intro hs2 Ws1 As
    have Gs2 := ext_wr Gs1 Ws1 (by rw [ebs]; exact Es.1)
    replace Xs := Xs.wr Ws1
    replace Vs := Vs.other Ws1 (Or.inl nes)
    replace Cs := Cs.other Ws1 (Or.inl nes)
    replace As : ArI Z hs2 bs .char ([chv (c0), 0]) := by
      have q : ArI Z hs2 bs .char ([0, 0].set 0 (nar .char (chv (c0)))) := As
      rw [chv_nar] at q; exact q
    refine WP.dup (pc' := 235) at_234 rfl rfl ?_
    refine WP.iconst (pc' := 236) (x := 1) at_235 (by decide) rfl ?_
    refine WP.iload (pc' := 238) at_236 rfl rfl ?_
    refine WP.castore (pc' := 239) (i := 1) at_238 As (by decide) (by simp) (List.mem_cons_self ..) (Or.inr mbs) rfl ?_
    intro hs3 Ws2 As
    have Gs3 := ext_wr Gs2 Ws2 (by rw [ebs]; exact Es.1)
    replace Xs := Xs.wr Ws2
    replace Vs := Vs.other Ws2 (Or.inl nes)
    replace Cs := Cs.other Ws2 (Or.inl nes)
    replace As : ArI Z hs3 bs .char ([chv (c0), chv (c1)]) := by
      have q : ArI Z hs3 bs .char ([chv (c0), 0].set 1 (nar .char (chv (c1)))) := As
      rw [chv_nar] at q; exact q
    refine WP.callSp (pc' := 242) (con_SI1 hw hc hu (us := [c0, c1]) (N := 2) (by simp) (by decide) Xs Vs Cs As (List.mem_cons_of_mem _ (List.mem_cons_self ..))) rfl (hw _ (List.mem_of_getElem? (i := 9) rfl)) (hw _ (List.mem_of_getElem? (i := 10) rfl)) (hw _ (List.mem_of_getElem? (i := 7) rfl)) (hw _ (List.mem_of_getElem? (i := 11) rfl)) at_239 (by decide) pdx43 rfl rfl rfl (by first | exact Nat.le_of_ble_eq_true rfl | omega | (simp; done) | (simp; omega) | (dsimp only; omega)) (by first | exact Nat.le_of_ble_eq_true rfl | omega | (simp; done) | (simp; omega) | (dsimp only; omega)) (by first | exact Nat.le_of_ble_eq_true rfl | omega | (simp; done) | (simp; omega) | (dsimp only; omega)) (by first | exact Nat.le_of_ble_eq_true rfl | omega | (simp; done) | (simp; omega) | (dsimp only; omega)) (fun x hx => by cases List.mem_singleton.mp hx; exact Or.inr mas) rfl ?_
    rintro v hs nw Ks hnw ⟨rfl, rfl, ts, Ss, hts⟩
    dsimp only [Option.toList, List.nil_append]
    have Gs := ext_keep Gs3 Ks (fun x hx => by cases List.mem_singleton.mp hx; exact Nat.le_of_eq eas.symm)
    have Fs : FStr Z hs mine as ([c0, c1]) := ⟨ts, Ss, nas, fun q => hts (List.mem_cons_of_mem _ (List.mem_cons_of_mem _ q))⟩
    refine WP.freeze (mine' := mine) ?_ (fun x hx => List.mem_cons_of_mem _ (List.mem_cons_of_mem _ hx))
    refine WP.astore (pc' := 244) at_242 rfl rfl rfl rfl rfl ?_
    dsimp only [List.set]
    refine WP.goto (pc' := 274) at_244 (by decide) (by decide) ?_
    refine WP.more (ce' := 6) (sl' := 24) ?_ (Nat.le_of_ble_eq_true rfl) (Nat.le_of_ble_eq_true rfl)
    exact tail_LAW (f := cu _) (s := cu _) (r := cu _) (e := cu _) (t := cu _) (c0 := c0) (c1 := c1) (c2 := c2) hw hc hu16 hf Fs (Or.inr (Or.inr (Or.inl ⟨en, rfl⟩)))
  · refine WP.ifT (pc' := 190) at_172 (by decide) (by decide) (show ¬ (sel &&& 3) = 0 by rw [en]; decide) ?_
    refine WP.iload (pc' := 192) at_190 rfl rfl ?_
    refine WP.iconst (pc' := 193) (x := 1) at_192 (by decide) rfl ?_
    refine WP.icmpT (pc' := 216) at_193 (by decide) (by decide) (show ¬ (sel &&& 3) = 1 by rw [en]; decide) ?_
    refine WP.iload (pc' := 218) at_216 rfl rfl ?_
    refine WP.iconst (pc' := 219) (x := 2) at_218 (by decide) rfl ?_
    refine WP.icmpT (pc' := 247) at_219 (by decide) (by decide) (show ¬ (sel &&& 3) = 2 by rw [en]; decide) ?_
    refine WP.new (pc' := 250) at_247 (hw _ (List.mem_of_getElem? (i := 5) rfl)) (hw _ (List.mem_of_getElem? (i := 6) rfl)) (hw _ (List.mem_of_getElem? (i := 7) rfl)) (by first | exact Nat.le_of_ble_eq_true rfl | omega | (simp; done) | (simp; omega) | (dsimp only; omega)) (by first | exact Nat.le_of_ble_eq_true rfl | omega | (simp; done) | (simp; omega) | (dsimp only; omega)) rfl ?_
    intro hs0 as eas nas mas Es Xs Ds
    have Vs : Fld Z hs0 as ST "value" "[B" .null := Ds (Or.inr (hw _ (List.mem_of_getElem? (i := 21) rfl))) (ty := .array .byte) (by decide)
    have Cs : Fld Z hs0 as ST "coder" "B" (.int 0) := Ds (Or.inr (hw _ (List.mem_of_getElem? (i := 22) rfl))) (ty := .byte) (by decide)
    refine WP.dup (pc' := 251) at_250 rfl rfl ?_
    refine WP.iconst (pc' := 252) (x := 3) at_251 (by decide) rfl ?_
    refine WP.newarray (pc' := 254) (N := 3) at_252 (hw _ (List.mem_of_getElem? (i := 8) rfl)) rfl (by decide) (by first | exact Nat.le_of_ble_eq_true rfl | omega | (simp; done) | (simp; omega) | (dsimp only; omega)) (by first | exact Nat.le_of_ble_eq_true rfl | omega | (simp; done) | (simp; omega) | (dsimp only; omega)) (by first | exact Nat.le_of_ble_eq_true rfl | omega | (simp; done) | (simp; omega) | (dsimp only; omega)) rfl ?_
    intro hs1 bs ebs nbs mbs Ebs As
    have nes : as ≠ bs := fun q => nbs (q ▸ List.mem_cons_self ..)
    have Gs1 := ext_trans Es Ebs
    replace Xs := Xs.ext Ebs
    replace Vs := Vs.ext Ebs
    replace Cs := Cs.ext Ebs
    replace As : ArI Z hs1 bs .char [0, 0, 0] := As
    refine WP.dup (pc' := 255) at_254 rfl rfl ?_
    refine WP.iconst (pc' := 256) (x := 0) at_255 (by decide) rfl ?_
    refine WP.iload (pc' := 258) at_256 rfl rfl ?_
    refine WP.castore (pc' := 259) (i := 0) at_258 As (by decide) (by simp) (List.mem_cons_self ..) (Or.inr mbs) rfl ?_
    intro hs2 Ws1 As
    have Gs2 := ext_wr Gs1 Ws1 (by rw [ebs]; exact Es.1)
    replace Xs := Xs.wr Ws1
    replace Vs := Vs.other Ws1 (Or.inl nes)
    replace Cs := Cs.other Ws1 (Or.inl nes)
    replace As : ArI Z hs2 bs .char ([chv (c0), 0, 0]) := by
      have q : ArI Z hs2 bs .char ([0, 0, 0].set 0 (nar .char (chv (c0)))) := As
      rw [chv_nar] at q; exact q
    refine WP.dup (pc' := 260) at_259 rfl rfl ?_
    refine WP.iconst (pc' := 261) (x := 1) at_260 (by decide) rfl ?_
    refine WP.iload (pc' := 263) at_261 rfl rfl ?_
    refine WP.castore (pc' := 264) (i := 1) at_263 As (by decide) (by simp) (List.mem_cons_self ..) (Or.inr mbs) rfl ?_
    intro hs3 Ws2 As
    have Gs3 := ext_wr Gs2 Ws2 (by rw [ebs]; exact Es.1)
    replace Xs := Xs.wr Ws2
    replace Vs := Vs.other Ws2 (Or.inl nes)
    replace Cs := Cs.other Ws2 (Or.inl nes)
    replace As : ArI Z hs3 bs .char ([chv (c0), chv (c1), 0]) := by
      have q : ArI Z hs3 bs .char ([chv (c0), 0, 0].set 1 (nar .char (chv (c1)))) := As
      rw [chv_nar] at q; exact q
    refine WP.dup (pc' := 265) at_264 rfl rfl ?_
    refine WP.iconst (pc' := 266) (x := 2) at_265 (by decide) rfl ?_
    refine WP.iload (pc' := 268) at_266 rfl rfl ?_
    refine WP.castore (pc' := 269) (i := 2) at_268 As (by decide) (by simp) (List.mem_cons_self ..) (Or.inr mbs) rfl ?_
    intro hs4 Ws3 As
    have Gs4 := ext_wr Gs3 Ws3 (by rw [ebs]; exact Es.1)
    replace Xs := Xs.wr Ws3
    replace Vs := Vs.other Ws3 (Or.inl nes)
    replace Cs := Cs.other Ws3 (Or.inl nes)
    replace As : ArI Z hs4 bs .char ([chv (c0), chv (c1), chv (c2)]) := by
      have q : ArI Z hs4 bs .char ([chv (c0), chv (c1), 0].set 2 (nar .char (chv (c2)))) := As
      rw [chv_nar] at q; exact q
    refine WP.callSp (pc' := 272) (con_SI1 hw hc hu (us := [c0, c1, c2]) (N := 3) (by simp) (by decide) Xs Vs Cs As (List.mem_cons_of_mem _ (List.mem_cons_self ..))) rfl (hw _ (List.mem_of_getElem? (i := 9) rfl)) (hw _ (List.mem_of_getElem? (i := 10) rfl)) (hw _ (List.mem_of_getElem? (i := 7) rfl)) (hw _ (List.mem_of_getElem? (i := 11) rfl)) at_269 (by decide) pdx43 rfl rfl rfl (by first | exact Nat.le_of_ble_eq_true rfl | omega | (simp; done) | (simp; omega) | (dsimp only; omega)) (by first | exact Nat.le_of_ble_eq_true rfl | omega | (simp; done) | (simp; omega) | (dsimp only; omega)) (by first | exact Nat.le_of_ble_eq_true rfl | omega | (simp; done) | (simp; omega) | (dsimp only; omega)) (by first | exact Nat.le_of_ble_eq_true rfl | omega | (simp; done) | (simp; omega) | (dsimp only; omega)) (fun x hx => by cases List.mem_singleton.mp hx; exact Or.inr mas) rfl ?_
    rintro v hs nw Ks hnw ⟨rfl, rfl, ts, Ss, hts⟩
    dsimp only [Option.toList, List.nil_append]
    have Gs := ext_keep Gs4 Ks (fun x hx => by cases List.mem_singleton.mp hx; exact Nat.le_of_eq eas.symm)
    have Fs : FStr Z hs mine as ([c0, c1, c2]) := ⟨ts, Ss, nas, fun q => hts (List.mem_cons_of_mem _ (List.mem_cons_of_mem _ q))⟩
    refine WP.freeze (mine' := mine) ?_ (fun x hx => List.mem_cons_of_mem _ (List.mem_cons_of_mem _ hx))
    refine WP.astore (pc' := 274) at_272 rfl rfl rfl rfl rfl ?_
    dsimp only [List.set]
    refine WP.more (ce' := 6) (sl' := 24) ?_ (Nat.le_of_ble_eq_true rfl) (Nat.le_of_ble_eq_true rfl)
    exact tail_LAW (f := cu _) (s := cu _) (r := cu _) (e := cu _) (t := cu _) (c0 := c0) (c1 := c1) (c2 := c2) hw hc hu16 hf Fs (Or.inr (Or.inr (Or.inr ⟨en, rfl⟩)))
set_option maxRecDepth 65536 in
set_option maxHeartbeats 40000000 in
theorem con_LAW (hw : ∀ d ∈ tables_1, d.before a0 Z = true) {cz : Int32} (hc : Compact Z cz) (hu16 : U16 Z) {vf : Value} (hf : Fmt Z vf) {dl fr : Int64} {sb sel : Int32} :
    Con x code maxLocals ret room_1 Z LT tables_1 #[.long dl, .int sb, .long fr, .int sel] h [] mine (fun v h' nw => v = some (.int 1)) := by
  refine Con.of pnLAW (Ls := [.val (.long dl), .second, .val (.int sb), .val (.long fr), .second, .val (.int sel), .unset, .unset, .unset, .unset, .unset, .unset, .unset, .unset, .unset, .unset, .unset, .unset, .unset, .unset, .unset]) (fun m => by first | (simp [entryFrame, mkF, argsToLocals, Value.category]; done) | (simp [entryFrame, mkF, argsToLocals, Value.category, maxLocals]; done) | rfl) ?_
  refine WP.iload (pc' := 2) at_0 rfl rfl ?_
  refine WP.bipush (pc' := 4) (x := 11) at_2 (by decide) rfl ?_
  refine WP.iushr (pc' := 5) at_4 rfl ?_
  refine WP.iconst (pc' := 6) (x := 1) at_5 (by decide) rfl ?_
  refine WP.iand (pc' := 7) at_6 rfl ?_
  refine WP.ifC (pc' := 14) (pc2 := 10) at_7 (by decide) (by decide) rfl (fun hb => ?_) (fun hb => ?_)
  · refine WP.ldcInt (pc' := 16) at_14 (hw _ (List.mem_of_getElem? (i := 0) rfl)) rfl ?_
    exact tail_LAW1 hw hc hu16 hf
  · refine WP.iconst (pc' := 11) (x := 3) at_10 (by decide) rfl ?_
    refine WP.goto (pc' := 16) at_11 (by decide) (by decide) ?_
    exact tail_LAW1 hw hc hu16 hf
end LawBodies
set_option maxRecDepth 65536 in
set_option maxHeartbeats 40000000 in
theorem comes_1 {Post : Tables → Env → Array Value → State → Outcome → State → Prop} (hpost : ∀ tb e args s v u, (limb_1_1.after args s (.returned v) u = true ∧ limb_1_2.after args s (.returned v) u = true ∧ True) → ReturnedEndW s (.returned v) u (Jvm.fieldLocs frame_1_writes args s ++ Jvm.arrayLocs frame_1_arrays args s ++ Jvm.staticLocs frame_1_statics s) 48 2432 → Post tb e args s (.returned v) u) :
    ArmFor flags0 classFile x code maxLocals ret World_1 tables_1 room_1 Calls_1 rest_1 Pre_1 Post := by
  intro l hfl _ _ p e ha hc1 hk s m args below hf hA hF happ hP
  obtain ⟨hcalls, hrest, hpre⟩ := hP
  obtain ⟨-, -, -, hnamed, -, -, -, hat⟩ := (Spec.applies_iff hf).mp happ
  obtain ⟨hg, hn⟩ := and_e (Cond.before_iff.mp (show (Jvm.Cond.and given_1 narrow_1).before args s = true from hpre))
  obtain ⟨g1, g2⟩ := and_e hg
  obtain ⟨g3, g4⟩ := and_e g2
  obtain ⟨g5, g6⟩ := and_e g4
  obtain ⟨g7, g8⟩ := and_e g6
  obtain ⟨w0, w1, w2, w3, rfl⟩ : ∃ w0 w1 w2 w3 : Value, args = #[w0, w1, w2, w3] := by
    have hs : args.size = 4 := by simpa [Cond.value, given_1] using g1
    obtain ⟨L⟩ := args
    match L, hs with
    | [w0, w1, w2, w3], _ => exact ⟨w0, w1, w2, w3, rfl⟩
  have hw := fun d (hd : d ∈ tables_1) => atoms_spec (ws := Jvm.Cond.code x code maxLocals ret :: tables_1) hat d (List.mem_cons_of_mem _ hd)
  have hfit : Fit s := fun {y c} hc i hi => by
    obtain ⟨ha, rfl⟩ := Array.getElem?_eq_some_iff.mp hc
    have q := List.all_eq_true.mp ((Array.all_eq_true_iff_forall_mem.mp hF) _ (Array.getElem_mem ha)) i (List.mem_range.mpr hi)
    simpa [Array.getElem?_eq_getElem hi] using q
  obtain ⟨hsets, hown0⟩ := atoms_of _ (rest_1_c_eq ▸ (show rest_1_c.before _ s = true from hrest))
  obtain ⟨i0, ei0⟩ := isL_v g3
  obtain rfl : w0 = (.long i0) := Option.some.inj ei0
  obtain ⟨i1, ei1⟩ := is_v g5
  obtain rfl : w1 = (.int i1) := Option.some.inj ei1
  obtain ⟨i2, ei2⟩ := isL_v g7
  obtain rfl : w2 = (.long i2) := Option.some.inj ei2
  obtain ⟨i3, ei3⟩ := is_v g8
  obtain rfl : w3 = (.int i3) := Option.some.inj ei3
  have wS := atoms hw
  have hcw : Jvm.Lit.compactW.before _ s = true := (hsets _ (List.mem_of_getElem? (i := 2) rfl))
  have hlink : Links s LT := fun q hq => by
    simp only [LT, List.mem_cons, List.not_mem_nil, or_false] at hq
    rcases hq with rfl | rfl
    · exact ⟨_, (hw _ (List.mem_of_getElem? (i := 19) rfl))⟩
    · exact ⟨_, (hw _ (List.mem_of_getElem? (i := 170) rfl))⟩
  have hheld : ∀ q ∈ LT, ConstHeldL s q.1 q.2.1 := fun q hq => by
    have hh : ∀ p ∈ consts_1, Jvm.Lit.constHeld s p.1 p.2 := hcalls.1
    simp only [LT, List.mem_cons, List.not_mem_nil, or_false] at hq
    rcases hq with rfl | rfl
    · exact heldStart (hh (_, _) (by simp [consts_1])) (hw _ (List.mem_of_getElem? (i := 19) rfl)) (by decide) hcw (hw _ (List.mem_of_getElem? (i := 20) rfl)) (hw _ (List.mem_of_getElem? (i := 6) rfl))
    · exact heldStart (hh (_, _) (by simp [consts_1])) (hw _ (List.mem_of_getElem? (i := 170) rfl)) (by decide) hcw (hw _ (List.mem_of_getElem? (i := 20) rfl)) (hw _ (List.mem_of_getElem? (i := 6) rfl))
  have hinv := inv_start hlink hheld
  obtain ⟨cz, Scz, ecz⟩ := sta_int (hsets _ (List.mem_of_getElem? (i := 1) rfl)) (hsets _ (List.mem_of_getElem? (i := 0) rfl))
  have hcz : Compact s cz := ⟨Scz, sta_nz ecz hcw⟩
  have hu16 : U16 s := ⟨sta_eq (hsets _ (List.mem_of_getElem? (i := 12) rfl)) (hsets _ (List.mem_of_getElem? (i := 11) rfl)), sta_eq (hsets _ (List.mem_of_getElem? (i := 15) rfl)) (hsets _ (List.mem_of_getElem? (i := 14) rfl)), sta_eq (hsets _ (List.mem_of_getElem? (i := 18) rfl)) (hsets _ (List.mem_of_getElem? (i := 17) rfl))⟩
  obtain ⟨vf, sf, hvf⟩ := sta_isref (hsets _ (List.mem_of_getElem? (i := 8) rfl)) (hsets _ (List.mem_of_getElem? (i := 7) rfl))
  obtain ⟨n, o, h1, h2, h3, v, locs, nw, rfl, hq, N, -, -, -, rfl⟩ := (con_LAW hw hcz hu16 ⟨sf, hvf⟩ : Con x code maxLocals ret room_1 s LT tables_1 _ s.heap [] [] _) l p e ha hc1 hk s m _ below hf ((Spec.applies_iff_loose hf).mp happ).1 ⟨rfl, rfl, hinv⟩ trivial
  refine ⟨n, _, h1, h2, h3, hpost _ _ _ _ _ _ ⟨Cond.after_iff.mpr rfl, Cond.after_iff.mpr (eq_i res_at (Term.int_eval (1)) rfl), trivial⟩ ⟨hq.1, hq.2.1, hq.2.2.1, (hq.2.2.2.sift fun y hy => Or.inr (N y hy)).mono (by decide) (by decide)⟩⟩
theorem main_1_1 : Claimed_1_1 := comes_1 fun _ _ _ _ _ _ h hF => ⟨h.1, hF⟩
theorem main_1_2 : Claimed_1_2 := comes_1 fun _ _ _ _ _ _ h hF => ⟨h.2.1, hF⟩
end Jvm.Pilot.@@N@@
namespace Jvm.Pilot.@@N@@
open Jvm Jvm.ClassFile Sem Op Lib Jvm.Free Jvm.Stand Jvm.Pilot.@@N@@.Jvm.D
/-! MADE BY PROGRAM (witnessworld.py) out of the Statement's table words and the real class files: 27 classes; the members and pool entries that the words name. The judged class is class 1, her method 1. -/
namespace start1
open Jvm.ClassFile
def u (s : String) : CpInfo := .utf8 (stringToUtf16 s)
/-- a pool by its gaps: so many unusable entries, then the entry; so many at the end -/
def gap : Nat → List CpInfo → List CpInfo
  | 0, r => r
  | n + 1, r => .unusable :: gap n r
def poolList (es : List (Nat × CpInfo)) (last : Nat) : List CpInfo := es.foldr (fun e r => gap e.1 (e.2 :: r)) (gap last [])
def pool (es : List (Nat × CpInfo)) (last : Nat) : Array CpInfo := ⟨poolList es last⟩
def fileOf (pool : Array CpInfo) (this : Nat) (attrs : Array Attribute := #[]) (ms : Array MethodInfo := #[]) (fl : Nat := 33) (sup : Nat := 0) (ifs : Array Nat := #[]) (fds : Array FieldInfo := #[]) : ClassFile where
  minorVersion := 0
  majorVersion := 65
  constantPool := pool
  accessFlags := fl
  thisClass := this
  superClass := sup
  interfaces := ifs
  fields := fds
  methods := ms
  attributes := attrs
def plain (name : String) (sup : Option ClassId) : Class where
  name := name
  kind := .ordinary
  loader := none
  accessFlags := 33
  super := sup
  interfaces := #[]
  cf := none
  fields := #[]
  methods := #[]
  instanceTypes := #[]
  staticTypes := #[]
  resolved := #[]
  callSites := []
  init := .initialized
  statics := none
  mirror := none

def pool0 : Array CpInfo := pool [(5, u "<init>"), (0, u "()V"), (1, .class_ 10), (1, u "java/lang/Object"), (85, u "clone"), (0, u "()Ljava/lang/Object;")] 26

def k0c0 : Code := { maxStack := 0, maxLocals := 1, code := object_method_1_code, exceptionTable := #[], attributes := #[] }
def k0m0 : Method := { name := "<init>", desc := "()V", sig := { parameters := [], returnType := none }, accessFlags := 1, code := some k0c0 }
def k0m1 : Method := { name := "clone", desc := "()Ljava/lang/Object;", sig := { parameters := [], returnType := some (.object "java/lang/Object") }, accessFlags := 260, code := none }
/-- java/lang/Object -/
def k0 : Class := { plain "java/lang/Object" none with
  accessFlags := 33
  interfaces := #[]
  cf := some (fileOf pool0 8 #[] #[{ accessFlags := 1, nameIndex := 5, descriptorIndex := 6, attributes := #[] }, { accessFlags := 260, nameIndex := 96, descriptorIndex := 97, attributes := #[] }] 33 0 #[] #[])
  fields := #[]
  methods := #[k0m0, k0m1]
  instanceTypes := #[]
  staticTypes := #[]
  resolved := Array.replicate 124 none
  statics := none }

def pool1 : Array CpInfo := pool [(2, .class_ 4), (1, u "java/lang/Object"), (0, u "<init>"), (0, u "()V"), (0, .integer 65535), (0, .methodref 9 10), (0, .class_ 11), (0, .nameAndType 12 13), (0, u "com/example/causeway_health/causewayhealth/convert/DelimitersEscapePinLaw"), (0, u "pick"), (0, u "(ICCCCCC)C"), (0, .class_ 15), (0, u "java/lang/String"), (0, .methodref 14 17), (0, .nameAndType 5 18), (0, u "([C)V"), (0, .methodref 9 20), (0, .nameAndType 21 22), (0, u "letter"), (0, u "(CCCCCC)C"), (0, .methodref 9 24), (0, .nameAndType 25 26), (0, u "put"), (0, u "([CICCC)I"), (0, .class_ 28), (0, u "com/example/causeway_health/causewayhealth/convert/Delimiters"), (0, .methodref 27 30), (0, .nameAndType 5 31), (0, u "(CCCCC)V"), (0, .methodref 27 33), (0, .nameAndType 34 35), (0, u "escape"), (0, u "(Ljava/lang/String;)Ljava/lang/String;"), (0, .methodref 14 37), (0, .nameAndType 38 39), (0, u "length"), (0, u "()I"), (0, .methodref 9 41), (0, .nameAndType 42 43), (0, u "same"), (0, u "(Ljava/lang/String;[CII)Z"), (0, .methodref 14 45), (0, .nameAndType 46 47), (0, u "charAt"), (0, u "(I)C"), (2, u "law"), (0, u "(JIJI)Z")] 5

def k1m0 : Method := { name := "<init>", desc := "()V", sig := { parameters := [], returnType := none }, accessFlags := 1, code := none }
def k1c1 : Code := { maxStack := 10, maxLocals := 21, code := code, exceptionTable := #[], attributes := #[] }
def k1m1 : Method := { name := "law", desc := "(JIJI)Z", sig := { parameters := [.long, .int, .long, .int], returnType := some .boolean }, accessFlags := 9, code := some k1c1 }
def k1c2 : Code := { maxStack := 2, maxLocals := 7, code := method_3_code, exceptionTable := #[], attributes := #[] }
def k1m2 : Method := { name := "pick", desc := "(ICCCCCC)C", sig := { parameters := [.int, .char, .char, .char, .char, .char, .char], returnType := some .char }, accessFlags := 10, code := some k1c2 }
def k1c3 : Code := { maxStack := 2, maxLocals := 6, code := method_4_code, exceptionTable := #[], attributes := #[] }
def k1m3 : Method := { name := "letter", desc := "(CCCCCC)C", sig := { parameters := [.char, .char, .char, .char, .char, .char], returnType := some .char }, accessFlags := 10, code := some k1c3 }
def k1c4 : Code := { maxStack := 3, maxLocals := 5, code := method_5_code, exceptionTable := #[], attributes := #[] }
def k1m4 : Method := { name := "put", desc := "([CICCC)I", sig := { parameters := [(.array .char), .int, .char, .char, .char], returnType := some .int }, accessFlags := 10, code := some k1c4 }
def k1c5 : Code := { maxStack := 3, maxLocals := 4, code := method_6_code, exceptionTable := #[], attributes := #[] }
def k1m5 : Method := { name := "same", desc := "(Ljava/lang/String;[CII)Z", sig := { parameters := [(.object "java/lang/String"), (.array .char), .int, .int], returnType := some .boolean }, accessFlags := 10, code := some k1c5 }
/-- com/example/causeway_health/causewayhealth/convert/DelimitersEscapePinLaw -/
def k1 : Class := { plain "com/example/causeway_health/causewayhealth/convert/DelimitersEscapePinLaw" (some 0) with
  accessFlags := 49
  interfaces := #[]
  cf := some (fileOf pool1 9 #[] #[{ accessFlags := 1, nameIndex := 5, descriptorIndex := 6, attributes := #[] }, { accessFlags := 9, nameIndex := 50, descriptorIndex := 51, attributes := #[] }, { accessFlags := 10, nameIndex := 12, descriptorIndex := 13, attributes := #[] }, { accessFlags := 10, nameIndex := 21, descriptorIndex := 22, attributes := #[] }, { accessFlags := 10, nameIndex := 25, descriptorIndex := 26, attributes := #[] }, { accessFlags := 10, nameIndex := 42, descriptorIndex := 43, attributes := #[] }] 49 2 #[] #[])
  fields := #[]
  methods := #[k1m0, k1m1, k1m2, k1m3, k1m4, k1m5]
  instanceTypes := #[]
  staticTypes := #[]
  resolved := Array.replicate 57 none
  statics := none }

def pool2 : Array CpInfo := pool [(1, .class_ 2), (0, u "java/io/Serializable"), (0, .class_ 4), (0, u "java/lang/Object")] 2

/-- java/io/Serializable -/
def k2 : Class := { plain "java/io/Serializable" (some 0) with
  accessFlags := 1537
  interfaces := #[]
  cf := some (fileOf pool2 1 #[] #[] 1537 3 #[] #[])
  fields := #[]
  methods := #[]
  instanceTypes := #[]
  staticTypes := #[]
  resolved := Array.replicate 7 none
  statics := none }

def pool3 : Array CpInfo := pool [(1, .class_ 2), (0, u "java/lang/Comparable"), (0, .class_ 4), (0, u "java/lang/Object")] 7

/-- java/lang/Comparable -/
def k3 : Class := { plain "java/lang/Comparable" (some 0) with
  accessFlags := 1537
  interfaces := #[]
  cf := some (fileOf pool3 1 #[] #[] 1537 3 #[] #[])
  fields := #[]
  methods := #[]
  instanceTypes := #[]
  staticTypes := #[]
  resolved := Array.replicate 12 none
  statics := none }

def pool4 : Array CpInfo := pool [(2, .class_ 4), (1, u "java/lang/CharSequence"), (42, .class_ 48), (0, u "java/lang/CharSequence$1CodePointIterator"), (10, .class_ 60), (0, u "java/lang/CharSequence$1CharIterator"), (5, .class_ 67), (0, u "java/lang/Object")] 63

/-- java/lang/CharSequence -/
def k4 : Class := { plain "java/lang/CharSequence" (some 0) with
  accessFlags := 1537
  interfaces := #[]
  cf := some (fileOf pool4 2 #[.nestMembers #[47, 59]] #[] 1537 66 #[] #[])
  fields := #[]
  methods := #[]
  instanceTypes := #[]
  staticTypes := #[]
  resolved := Array.replicate 131 none
  statics := none }

def pool5 : Array CpInfo := pool [(1, .class_ 2), (0, u "java/lang/constant/Constable"), (0, .class_ 4), (0, u "java/lang/Object")] 6

/-- java/lang/constant/Constable -/
def k5 : Class := { plain "java/lang/constant/Constable" (some 0) with
  accessFlags := 1537
  interfaces := #[]
  cf := some (fileOf pool5 1 #[] #[] 1537 3 #[] #[])
  fields := #[]
  methods := #[]
  instanceTypes := #[]
  staticTypes := #[]
  resolved := Array.replicate 11 none
  statics := none }

def pool6 : Array CpInfo := pool [(1, .class_ 2), (0, u "java/lang/constant/ConstantDesc"), (0, .class_ 4), (0, u "java/lang/Object")] 32

/-- java/lang/constant/ConstantDesc -/
def k6 : Class := { plain "java/lang/constant/ConstantDesc" (some 0) with
  accessFlags := 1537
  interfaces := #[]
  cf := some (fileOf pool6 1 #[] #[] 1537 3 #[] #[])
  fields := #[]
  methods := #[]
  instanceTypes := #[]
  staticTypes := #[]
  resolved := Array.replicate 37 none
  statics := none }

def pool7 : Array CpInfo := pool [(1, .methodref 2 3), (0, .class_ 4), (0, .nameAndType 5 6), (0, u "java/lang/Object"), (0, u "<init>"), (0, u "()V"), (0, .string 8), (0, u ""), (0, .fieldref 10 11), (0, .class_ 12), (0, .nameAndType 13 14), (0, u "java/lang/String"), (0, u "value"), (0, u "[B"), (0, .fieldref 10 16), (0, .nameAndType 17 18), (0, u "coder"), (0, u "B"), (2, u "hash"), (0, u "I"), (2, u "hashIsZero"), (0, u "Z"), (0, .methodref 10 28), (0, .nameAndType 5 29), (0, u "([CIILjava/lang/Void;)V"), (6, u "checkBoundsOffCount"), (0, u "(III)I"), (0, .fieldref 10 39), (0, .nameAndType 40 26), (0, u "COMPACT_STRINGS"), (1, .class_ 44), (1, u "java/lang/StringUTF16"), (0, u "compress"), (1, .methodref 42 48), (0, .nameAndType 49 50), (0, u "coderFromArrayLen"), (0, u "([BI)B"), (3, .methodref 55 56), (0, .class_ 57), (0, .nameAndType 58 59), (0, u "java/util/Arrays"), (0, u "copyOfRange"), (0, u "([BII)[B"), (47, .class_ 109), (1, u "java/lang/StringLatin1"), (32, u "()Z"), (34, .methodref 42 178), (0, .nameAndType 45 179), (0, u "([CII)[B"), (119, .methodref 107 300), (0, .nameAndType 301 302), (0, u "toChars"), (0, u "([B)[C"), (0, .methodref 42 300), (30, u "()I"), (0, .methodref 10 336), (0, .nameAndType 17 337), (0, u "()B"), (2, u "()[B"), (22, u "([BI)C"), (27, u "(II)V"), (35, u "(I)C"), (61, .methodref 10 490), (0, .nameAndType 5 491), (0, u "(Ljava/lang/AbstractStringBuilder;Ljava/lang/Void;)V"), (0, .methodref 10 493), (0, .nameAndType 494 142), (0, u "isLatin1"), (0, .methodref 107 496), (0, .nameAndType 497 363), (0, u "charAt"), (0, .methodref 42 496), (2, u "checkIndex"), (4, .nameAndType 507 334), (0, u "length"), (41, .methodref 550 506), (0, .class_ 551), (0, u "java/lang/AbstractStringBuilder"), (0, .methodref 550 553), (0, .nameAndType 554 340), (0, u "getValue"), (20, .class_ 576), (0, u "java/lang/CharSequence"), (22, u "CASE_INSENSITIVE_ORDER"), (0, u "Ljava/util/Comparator;"), (354, u "toCharArray"), (0, u "()[C"), (53, u "([C)V"), (36, .methodref 550 493), (0, .fieldref 550 1049), (0, .nameAndType 1050 26), (0, u "maybeLatin1"), (2, .fieldref 1054 1055), (0, .class_ 1056), (0, .nameAndType 1057 1058), (0, u "jdk/internal/util/Preconditions"), (0, u "SIOOBE_FORMATTER"), (0, u "Ljava/util/function/BiFunction;"), (0, .methodref 1054 1060), (0, .nameAndType 501 1061), (0, u "(IILjava/util/function/BiFunction;)I"), (2, u "(IIILjava/util/function/BiFunction;)I"), (0, .methodref 1054 1066), (0, .nameAndType 1067 1064), (0, u "checkFromIndexSize"), (33, u "serialPersistentFields"), (0, u "[Ljava/io/ObjectStreamField;"), (0, .class_ 1104), (0, u "java/lang/String$CaseInsensitiveComparator"), (1, .class_ 1107), (0, u "java/io/Serializable"), (0, .class_ 1109), (0, u "java/lang/Comparable"), (0, .class_ 1111), (0, u "java/lang/constant/Constable"), (0, .class_ 1113), (0, u "java/lang/constant/ConstantDesc"), (2, u "serialVersionUID"), (0, u "J"), (3, u "REPL"), (0, u "C"), (2, u "LATIN1"), (1, u "UTF16"), (105, u "(Ljava/lang/StringBuilder;)V")] 217

def k7m0 : Method := { name := "<init>", desc := "()V", sig := { parameters := [], returnType := none }, accessFlags := 1, code := none }
def k7c1 : Code := { maxStack := 5, maxLocals := 2, code := jdk_42_method_3_code, exceptionTable := #[], attributes := #[] }
def k7m1 : Method := { name := "<init>", desc := "([C)V", sig := { parameters := [(.array .char)], returnType := none }, accessFlags := 1, code := some k7c1 }
def k7c2 : Code := { maxStack := 3, maxLocals := 2, code := jdk_42_method_53_code, exceptionTable := #[], attributes := #[] }
def k7m2 : Method := { name := "<init>", desc := "(Ljava/lang/StringBuilder;)V", sig := { parameters := [(.object "java/lang/StringBuilder")], returnType := none }, accessFlags := 1, code := some k7c2 }
def k7c3 : Code := { maxStack := 2, maxLocals := 1, code := jdk_42_method_54_code, exceptionTable := #[], attributes := #[] }
def k7m3 : Method := { name := "length", desc := "()I", sig := { parameters := [], returnType := some .int }, accessFlags := 1, code := some k7c3 }
def k7c4 : Code := { maxStack := 2, maxLocals := 2, code := jdk_42_method_56_code, exceptionTable := #[], attributes := #[] }
def k7m4 : Method := { name := "charAt", desc := "(I)C", sig := { parameters := [.int], returnType := some .char }, accessFlags := 1, code := some k7c4 }
def k7c5 : Code := { maxStack := 1, maxLocals := 1, code := jdk_42_method_129_code, exceptionTable := #[], attributes := #[] }
def k7m5 : Method := { name := "toCharArray", desc := "()[C", sig := { parameters := [], returnType := some (.array .char) }, accessFlags := 1, code := some k7c5 }
def k7c6 : Code := { maxStack := 4, maxLocals := 6, code := jdk_42_method_149_code, exceptionTable := #[], attributes := #[] }
def k7m6 : Method := { name := "<init>", desc := "([CIILjava/lang/Void;)V", sig := { parameters := [(.array .char), .int, .int, (.object "java/lang/Void")], returnType := none }, accessFlags := 2, code := some k7c6 }
def k7c7 : Code := { maxStack := 5, maxLocals := 5, code := jdk_42_method_150_code, exceptionTable := #[], attributes := #[] }
def k7m7 : Method := { name := "<init>", desc := "(Ljava/lang/AbstractStringBuilder;Ljava/lang/Void;)V", sig := { parameters := [(.object "java/lang/AbstractStringBuilder"), (.object "java/lang/Void")], returnType := none }, accessFlags := 0, code := some k7c7 }
def k7c8 : Code := { maxStack := 1, maxLocals := 1, code := jdk_42_method_152_code, exceptionTable := #[], attributes := #[] }
def k7m8 : Method := { name := "coder", desc := "()B", sig := { parameters := [], returnType := some .byte }, accessFlags := 0, code := some k7c8 }
def k7c9 : Code := { maxStack := 1, maxLocals := 1, code := jdk_42_method_154_code, exceptionTable := #[], attributes := #[] }
def k7m9 : Method := { name := "isLatin1", desc := "()Z", sig := { parameters := [], returnType := some .boolean }, accessFlags := 0, code := some k7c9 }
def k7c10 : Code := { maxStack := 3, maxLocals := 2, code := jdk_42_method_155_code, exceptionTable := #[], attributes := #[] }
def k7m10 : Method := { name := "checkIndex", desc := "(II)V", sig := { parameters := [.int, .int], returnType := none }, accessFlags := 8, code := some k7c10 }
def k7c11 : Code := { maxStack := 4, maxLocals := 3, code := jdk_42_method_157_code, exceptionTable := #[], attributes := #[] }
def k7m11 : Method := { name := "checkBoundsOffCount", desc := "(III)I", sig := { parameters := [.int, .int, .int], returnType := some .int }, accessFlags := 8, code := some k7c11 }
/-- java/lang/String -/
def k7 : Class := { plain "java/lang/String" (some 0) with
  accessFlags := 49
  interfaces := #[2, 3, 4, 5, 6]
  cf := some (fileOf pool7 10 #[.nestMembers #[1103]] #[{ accessFlags := 1, nameIndex := 5, descriptorIndex := 6, attributes := #[] }, { accessFlags := 1, nameIndex := 5, descriptorIndex := 1010, attributes := #[] }, { accessFlags := 1, nameIndex := 5, descriptorIndex := 1233, attributes := #[] }, { accessFlags := 1, nameIndex := 507, descriptorIndex := 334, attributes := #[] }, { accessFlags := 1, nameIndex := 497, descriptorIndex := 427, attributes := #[] }, { accessFlags := 1, nameIndex := 955, descriptorIndex := 956, attributes := #[] }, { accessFlags := 2, nameIndex := 5, descriptorIndex := 29, attributes := #[] }, { accessFlags := 0, nameIndex := 5, descriptorIndex := 491, attributes := #[] }, { accessFlags := 0, nameIndex := 17, descriptorIndex := 337, attributes := #[] }, { accessFlags := 0, nameIndex := 494, descriptorIndex := 142, attributes := #[] }, { accessFlags := 8, nameIndex := 501, descriptorIndex := 391, attributes := #[] }, { accessFlags := 8, nameIndex := 36, descriptorIndex := 37, attributes := #[] }] 49 2 #[1106, 1108, 575, 1110, 1112] #[{ accessFlags := 18, nameIndex := 13, descriptorIndex := 14, attributes := #[] }, { accessFlags := 18, nameIndex := 17, descriptorIndex := 18, attributes := #[] }, { accessFlags := 2, nameIndex := 21, descriptorIndex := 22, attributes := #[] }, { accessFlags := 2, nameIndex := 25, descriptorIndex := 26, attributes := #[] }, { accessFlags := 26, nameIndex := 1116, descriptorIndex := 1117, attributes := #[] }, { accessFlags := 24, nameIndex := 40, descriptorIndex := 26, attributes := #[] }, { accessFlags := 26, nameIndex := 1101, descriptorIndex := 1102, attributes := #[] }, { accessFlags := 26, nameIndex := 1121, descriptorIndex := 1122, attributes := #[] }, { accessFlags := 25, nameIndex := 599, descriptorIndex := 600, attributes := #[] }, { accessFlags := 24, nameIndex := 1125, descriptorIndex := 18, attributes := #[] }, { accessFlags := 24, nameIndex := 1127, descriptorIndex := 18, attributes := #[] }])
  fields := #[{ name := "value", type := (.array .byte), accessFlags := 18, slot := 0, constantValue := 0 }, { name := "coder", type := .byte, accessFlags := 18, slot := 1, constantValue := 0 }, { name := "hash", type := .int, accessFlags := 2, slot := 2, constantValue := 0 }, { name := "hashIsZero", type := .boolean, accessFlags := 2, slot := 3, constantValue := 0 }, { name := "serialVersionUID", type := .long, accessFlags := 26, slot := 0, constantValue := 0 }, { name := "COMPACT_STRINGS", type := .boolean, accessFlags := 24, slot := 1, constantValue := 0 }, { name := "serialPersistentFields", type := (.array (.object "java/io/ObjectStreamField")), accessFlags := 26, slot := 2, constantValue := 0 }, { name := "REPL", type := .char, accessFlags := 26, slot := 3, constantValue := 0 }, { name := "CASE_INSENSITIVE_ORDER", type := (.object "java/util/Comparator"), accessFlags := 25, slot := 4, constantValue := 0 }, { name := "LATIN1", type := .byte, accessFlags := 24, slot := 5, constantValue := 0 }, { name := "UTF16", type := .byte, accessFlags := 24, slot := 6, constantValue := 0 }]
  methods := #[k7m0, k7m1, k7m2, k7m3, k7m4, k7m5, k7m6, k7m7, k7m8, k7m9, k7m10, k7m11]
  instanceTypes := #[(.array .byte), .byte, .int, .boolean]
  staticTypes := #[.long, .boolean, (.array (.object "java/io/ObjectStreamField")), .char, (.object "java/util/Comparator"), .byte, .byte]
  resolved := Array.replicate 1451 none
  statics := some 0 }

def pool8 : Array CpInfo := pool [(1, .methodref 2 3), (0, .class_ 4), (0, .nameAndType 5 6), (0, u "java/lang/Object"), (0, u "<init>"), (0, u "()V"), (0, .class_ 8), (0, u "java/lang/Record")] 13

def k8c0 : Code := { maxStack := 1, maxLocals := 1, code := jdk_30_method_1_code, exceptionTable := #[], attributes := #[] }
def k8m0 : Method := { name := "<init>", desc := "()V", sig := { parameters := [], returnType := none }, accessFlags := 4, code := some k8c0 }
/-- java/lang/Record -/
def k8 : Class := { plain "java/lang/Record" (some 0) with
  accessFlags := 1057
  interfaces := #[]
  cf := some (fileOf pool8 7 #[] #[{ accessFlags := 4, nameIndex := 5, descriptorIndex := 6, attributes := #[] }] 1057 2 #[] #[])
  fields := #[]
  methods := #[k8m0]
  instanceTypes := #[]
  staticTypes := #[]
  resolved := Array.replicate 22 none
  statics := none }

def pool9 : Array CpInfo := pool [(1, .methodref 2 3), (0, .class_ 4), (0, .nameAndType 5 6), (0, u "java/lang/Record"), (0, u "<init>"), (0, u "()V"), (0, .fieldref 8 9), (0, .class_ 10), (0, .nameAndType 11 12), (0, u "com/example/causeway_health/causewayhealth/convert/Delimiters"), (0, u "field"), (0, u "C"), (0, .fieldref 8 14), (0, .nameAndType 15 12), (0, u "component"), (0, .fieldref 8 17), (0, .nameAndType 18 12), (0, u "repetition"), (0, .fieldref 8 20), (0, .nameAndType 21 12), (0, u "escape"), (0, .fieldref 8 23), (0, .nameAndType 24 12), (0, u "subcomponent"), (0, .methodref 26 27), (0, .class_ 28), (0, .nameAndType 29 30), (0, u "java/lang/String"), (0, u "length"), (0, u "()I"), (5, u "(Ljava/lang/String;)Ljava/lang/String;"), (34, u "(CCCCC)V"), (0, .class_ 73), (0, u "java/lang/StringBuilder"), (0, .methodref 72 75), (0, .nameAndType 5 76), (0, u "(I)V"), (2, u "append"), (1, .methodref 8 82), (0, .nameAndType 83 84), (0, u "decode"), (0, u "(C)C"), (0, .methodref 72 86), (0, .nameAndType 79 87), (0, u "(C)Ljava/lang/StringBuilder;"), (0, .methodref 72 89), (0, .nameAndType 90 91), (0, u "toString"), (0, u "()Ljava/lang/String;"), (0, .methodref 26 93), (0, .nameAndType 94 95), (0, u "toCharArray"), (0, u "()[C"), (0, .methodref 8 97), (0, .nameAndType 98 84), (0, u "letterFor"), (0, .string 100), (0, u "FSTRE"), (11, u "ESCAPE_LETTERS"), (0, u "Ljava/lang/String;")] 51

def k9c0 : Code := { maxStack := 2, maxLocals := 6, code := prog_18_method_1_code, exceptionTable := #[], attributes := #[] }
def k9m0 : Method := { name := "<init>", desc := "(CCCCC)V", sig := { parameters := [.char, .char, .char, .char, .char], returnType := none }, accessFlags := 1, code := some k9c0 }
def k9c1 : Code := { maxStack := 3, maxLocals := 8, code := prog_18_method_4_code, exceptionTable := #[], attributes := #[] }
def k9m1 : Method := { name := "escape", desc := "(Ljava/lang/String;)Ljava/lang/String;", sig := { parameters := [(.object "java/lang/String")], returnType := some (.object "java/lang/String") }, accessFlags := 1, code := some k9c1 }
def k9c2 : Code := { maxStack := 2, maxLocals := 6, code := prog_18_method_5_code, exceptionTable := #[], attributes := #[] }
def k9m2 : Method := { name := "letterFor", desc := "(C)C", sig := { parameters := [.char], returnType := some .char }, accessFlags := 2, code := some k9c2 }
def k9c3 : Code := { maxStack := 1, maxLocals := 2, code := prog_18_method_6_code, exceptionTable := #[], attributes := #[] }
def k9m3 : Method := { name := "decode", desc := "(C)C", sig := { parameters := [.char], returnType := some .char }, accessFlags := 2, code := some k9c3 }
/-- com/example/causeway_health/causewayhealth/convert/Delimiters -/
def k9 : Class := { plain "com/example/causeway_health/causewayhealth/convert/Delimiters" (some 8) with
  accessFlags := 49
  interfaces := #[]
  cf := some (fileOf pool9 8 #[] #[{ accessFlags := 1, nameIndex := 5, descriptorIndex := 71, attributes := #[] }, { accessFlags := 1, nameIndex := 21, descriptorIndex := 36, attributes := #[] }, { accessFlags := 2, nameIndex := 98, descriptorIndex := 84, attributes := #[] }, { accessFlags := 2, nameIndex := 83, descriptorIndex := 84, attributes := #[] }] 49 2 #[] #[{ accessFlags := 18, nameIndex := 11, descriptorIndex := 12, attributes := #[] }, { accessFlags := 18, nameIndex := 15, descriptorIndex := 12, attributes := #[] }, { accessFlags := 18, nameIndex := 18, descriptorIndex := 12, attributes := #[] }, { accessFlags := 18, nameIndex := 21, descriptorIndex := 12, attributes := #[] }, { accessFlags := 18, nameIndex := 24, descriptorIndex := 12, attributes := #[] }, { accessFlags := 26, nameIndex := 112, descriptorIndex := 113, attributes := #[] }])
  fields := #[{ name := "field", type := .char, accessFlags := 18, slot := 0, constantValue := 0 }, { name := "component", type := .char, accessFlags := 18, slot := 1, constantValue := 0 }, { name := "repetition", type := .char, accessFlags := 18, slot := 2, constantValue := 0 }, { name := "escape", type := .char, accessFlags := 18, slot := 3, constantValue := 0 }, { name := "subcomponent", type := .char, accessFlags := 18, slot := 4, constantValue := 0 }, { name := "ESCAPE_LETTERS", type := (.object "java/lang/String"), accessFlags := 26, slot := 0, constantValue := 0 }]
  methods := #[k9m0, k9m1, k9m2, k9m3]
  instanceTypes := #[.char, .char, .char, .char, .char]
  staticTypes := #[(.object "java/lang/String")]
  resolved := Array.replicate 165 none
  statics := none }

def pool10 : Array CpInfo := pool [(1, .class_ 2), (0, u "java/lang/Appendable"), (0, .class_ 4), (0, u "java/lang/Object")] 9

/-- java/lang/Appendable -/
def k10 : Class := { plain "java/lang/Appendable" (some 0) with
  accessFlags := 1537
  interfaces := #[]
  cf := some (fileOf pool10 1 #[] #[] 1537 3 #[] #[])
  fields := #[]
  methods := #[]
  instanceTypes := #[]
  staticTypes := #[]
  resolved := Array.replicate 14 none
  statics := none }

def pool11 : Array CpInfo := pool [(1, .class_ 2), (0, u "java/lang/String"), (0, .methodref 4 5), (0, .class_ 6), (0, .nameAndType 7 8), (0, u "java/lang/Object"), (0, u "<init>"), (0, u "()V"), (1, .class_ 12), (1, u "java/lang/AbstractStringBuilder"), (0, u "EMPTYVALUE"), (0, u "[B"), (0, .fieldref 10 16), (0, .nameAndType 17 14), (0, u "value"), (0, .fieldref 1 19), (0, .nameAndType 20 21), (0, u "COMPACT_STRINGS"), (0, u "Z"), (0, .fieldref 10 23), (0, .nameAndType 24 25), (0, u "coder"), (0, u "B"), (0, .methodref 27 28), (0, .class_ 29), (0, .nameAndType 30 31), (0, u "java/lang/StringUTF16"), (0, u "newBytesFor"), (0, u "(I)[B"), (2, u "length"), (0, u "()I"), (3, .integer 2147483647), (5, u "append"), (2, .class_ 49), (0, u "java/lang/CharSequence"), (25, u "maybeLatin1"), (3, .fieldref 10 80), (0, .nameAndType 81 82), (0, u "count"), (0, u "I"), (0, .methodref 10 84), (0, .nameAndType 85 86), (0, u "isLatin1"), (0, u "()Z"), (1, .class_ 90), (1, u "java/lang/StringLatin1"), (9, .methodref 10 101), (0, .nameAndType 102 103), (0, u "ensureCapacityInternal"), (0, u "(I)V"), (0, .methodref 10 105), (0, .nameAndType 106 107), (0, u "newCapacity"), (0, u "(I)I"), (0, .methodref 109 110), (0, .class_ 111), (0, .nameAndType 112 113), (0, u "java/util/Arrays"), (0, u "copyOf"), (0, u "([BI)[B"), (0, .methodref 115 116), (0, .class_ 117), (0, .nameAndType 118 119), (0, u "jdk/internal/util/ArraysSupport"), (0, u "newLength"), (0, u "(III)I"), (5, .methodref 88 126), (0, .nameAndType 127 128), (0, u "inflate"), (0, u "([BI[BII)V"), (7, u "([BII)V"), (54, .methodref 88 192), (0, .nameAndType 193 194), (0, u "canEncode"), (0, u "(C)Z"), (0, .methodref 10 196), (0, .nameAndType 127 8), (0, .methodref 27 198), (0, .nameAndType 199 136), (0, u "putCharSB"), (92, u "(C)Ljava/lang/AbstractStringBuilder;"), (110, u "()[B"), (40, .class_ 445), (0, u "java/lang/Appendable"), (106, u "getValue")] 56

def k11m0 : Method := { name := "<init>", desc := "()V", sig := { parameters := [], returnType := none }, accessFlags := 0, code := none }
def k11c1 : Code := { maxStack := 2, maxLocals := 2, code := jdk_68_method_2_code, exceptionTable := #[], attributes := #[] }
def k11m1 : Method := { name := "<init>", desc := "(I)V", sig := { parameters := [.int], returnType := none }, accessFlags := 0, code := some k11c1 }
def k11c2 : Code := { maxStack := 1, maxLocals := 1, code := jdk_68_method_6_code, exceptionTable := #[], attributes := #[] }
def k11m2 : Method := { name := "length", desc := "()I", sig := { parameters := [], returnType := some .int }, accessFlags := 1, code := some k11c2 }
def k11c3 : Code := { maxStack := 4, maxLocals := 3, code := jdk_68_method_9_code, exceptionTable := #[], attributes := #[] }
def k11m3 : Method := { name := "ensureCapacityInternal", desc := "(I)V", sig := { parameters := [.int], returnType := none }, accessFlags := 2, code := some k11c3 }
def k11c4 : Code := { maxStack := 5, maxLocals := 6, code := jdk_68_method_10_code, exceptionTable := #[], attributes := #[] }
def k11m4 : Method := { name := "newCapacity", desc := "(I)I", sig := { parameters := [.int], returnType := some .int }, accessFlags := 2, code := some k11c4 }
def k11c5 : Code := { maxStack := 5, maxLocals := 2, code := jdk_68_method_11_code, exceptionTable := #[], attributes := #[] }
def k11m5 : Method := { name := "inflate", desc := "()V", sig := { parameters := [], returnType := none }, accessFlags := 2, code := some k11c5 }
def k11c6 : Code := { maxStack := 5, maxLocals := 2, code := jdk_68_method_31_code, exceptionTable := #[], attributes := #[] }
def k11m6 : Method := { name := "append", desc := "(C)Ljava/lang/AbstractStringBuilder;", sig := { parameters := [.char], returnType := some (.object "java/lang/AbstractStringBuilder") }, accessFlags := 1, code := some k11c6 }
def k11c7 : Code := { maxStack := 1, maxLocals := 1, code := jdk_68_method_64_code, exceptionTable := #[], attributes := #[] }
def k11m7 : Method := { name := "getValue", desc := "()[B", sig := { parameters := [], returnType := some (.array .byte) }, accessFlags := 16, code := some k11c7 }
def k11c8 : Code := { maxStack := 1, maxLocals := 1, code := jdk_68_method_68_code, exceptionTable := #[], attributes := #[] }
def k11m8 : Method := { name := "isLatin1", desc := "()Z", sig := { parameters := [], returnType := some .boolean }, accessFlags := 16, code := some k11c8 }
/-- java/lang/AbstractStringBuilder -/
def k11 : Class := { plain "java/lang/AbstractStringBuilder" (some 0) with
  accessFlags := 1056
  interfaces := #[10, 4]
  cf := some (fileOf pool11 10 #[] #[{ accessFlags := 0, nameIndex := 7, descriptorIndex := 8, attributes := #[] }, { accessFlags := 0, nameIndex := 7, descriptorIndex := 103, attributes := #[] }, { accessFlags := 1, nameIndex := 34, descriptorIndex := 35, attributes := #[] }, { accessFlags := 2, nameIndex := 102, descriptorIndex := 103, attributes := #[] }, { accessFlags := 2, nameIndex := 106, descriptorIndex := 107, attributes := #[] }, { accessFlags := 2, nameIndex := 127, descriptorIndex := 8, attributes := #[] }, { accessFlags := 1, nameIndex := 45, descriptorIndex := 292, attributes := #[] }, { accessFlags := 16, nameIndex := 552, descriptorIndex := 403, attributes := #[] }, { accessFlags := 16, nameIndex := 85, descriptorIndex := 86, attributes := #[] }] 1056 4 #[444, 48] #[{ accessFlags := 0, nameIndex := 17, descriptorIndex := 14, attributes := #[] }, { accessFlags := 0, nameIndex := 24, descriptorIndex := 25, attributes := #[] }, { accessFlags := 0, nameIndex := 75, descriptorIndex := 21, attributes := #[] }, { accessFlags := 0, nameIndex := 81, descriptorIndex := 82, attributes := #[] }, { accessFlags := 26, nameIndex := 13, descriptorIndex := 14, attributes := #[] }])
  fields := #[{ name := "value", type := (.array .byte), accessFlags := 0, slot := 0, constantValue := 0 }, { name := "coder", type := .byte, accessFlags := 0, slot := 1, constantValue := 0 }, { name := "maybeLatin1", type := .boolean, accessFlags := 0, slot := 2, constantValue := 0 }, { name := "count", type := .int, accessFlags := 0, slot := 3, constantValue := 0 }, { name := "EMPTYVALUE", type := (.array .byte), accessFlags := 26, slot := 0, constantValue := 0 }]
  methods := #[k11m0, k11m1, k11m2, k11m3, k11m4, k11m5, k11m6, k11m7, k11m8]
  instanceTypes := #[(.array .byte), .byte, .boolean, .int]
  staticTypes := #[(.array .byte)]
  resolved := Array.replicate 609 none
  statics := none }

def pool12 : Array CpInfo := pool [(1, .methodref 2 3), (0, .class_ 4), (0, .nameAndType 5 6), (0, u "java/lang/AbstractStringBuilder"), (0, u "<init>"), (0, u "(I)V"), (11, .class_ 20), (1, u "java/lang/String"), (3, .class_ 26), (1, u "java/lang/StringBuilder"), (0, u "append"), (22, .methodref 2 51), (0, .nameAndType 27 52), (0, u "(C)Ljava/lang/AbstractStringBuilder;"), (84, .methodref 18 138), (0, .nameAndType 5 139), (0, u "(Ljava/lang/StringBuilder;)V"), (5, u "()V"), (10, u "()I"), (129, u "(C)Ljava/lang/StringBuilder;"), (56, .methodref 2 344), (0, .nameAndType 345 156), (0, u "length"), (3, .class_ 350), (0, u "java/lang/Appendable"), (0, .class_ 352), (0, u "java/io/Serializable"), (0, .class_ 354), (0, u "java/lang/Comparable"), (0, .class_ 356), (0, u "java/lang/CharSequence"), (0, u "serialVersionUID"), (0, u "J"), (40, u "toString"), (0, u "()Ljava/lang/String;")] 21

def k12m0 : Method := { name := "<init>", desc := "()V", sig := { parameters := [], returnType := none }, accessFlags := 1, code := none }
def k12c1 : Code := { maxStack := 2, maxLocals := 2, code := jdk_67_method_2_code, exceptionTable := #[], attributes := #[] }
def k12m1 : Method := { name := "<init>", desc := "(I)V", sig := { parameters := [.int], returnType := none }, accessFlags := 1, code := some k12c1 }
def k12c2 : Code := { maxStack := 2, maxLocals := 2, code := jdk_67_method_14_code, exceptionTable := #[], attributes := #[] }
def k12m2 : Method := { name := "append", desc := "(C)Ljava/lang/StringBuilder;", sig := { parameters := [.char], returnType := some (.object "java/lang/StringBuilder") }, accessFlags := 1, code := some k12c2 }
def k12c3 : Code := { maxStack := 3, maxLocals := 1, code := jdk_67_method_42_code, exceptionTable := #[], attributes := #[] }
def k12m3 : Method := { name := "toString", desc := "()Ljava/lang/String;", sig := { parameters := [], returnType := some (.object "java/lang/String") }, accessFlags := 1, code := some k12c3 }
def k12c4 : Code := { maxStack := 1, maxLocals := 1, code := jdk_67_method_93_code, exceptionTable := #[], attributes := #[] }
def k12m4 : Method := { name := "length", desc := "()I", sig := { parameters := [], returnType := some .int }, accessFlags := 4161, code := some k12c4 }
/-- java/lang/StringBuilder -/
def k12 : Class := { plain "java/lang/StringBuilder" (some 11) with
  accessFlags := 49
  interfaces := #[10, 2, 3, 4]
  cf := some (fileOf pool12 24 #[] #[{ accessFlags := 1, nameIndex := 5, descriptorIndex := 145, attributes := #[] }, { accessFlags := 1, nameIndex := 5, descriptorIndex := 6, attributes := #[] }, { accessFlags := 1, nameIndex := 27, descriptorIndex := 286, attributes := #[] }, { accessFlags := 1, nameIndex := 399, descriptorIndex := 400, attributes := #[] }, { accessFlags := 4161, nameIndex := 345, descriptorIndex := 156, attributes := #[] }] 49 2 #[349, 351, 353, 355] #[{ accessFlags := 24, nameIndex := 357, descriptorIndex := 358, attributes := #[] }])
  fields := #[{ name := "serialVersionUID", type := .long, accessFlags := 24, slot := 0, constantValue := 0 }]
  methods := #[k12m0, k12m1, k12m2, k12m3, k12m4]
  instanceTypes := #[(.array .byte), .byte, .boolean, .int]
  staticTypes := #[.long]
  resolved := Array.replicate 422 none
  statics := none }

def pool13 : Array CpInfo := pool [(1, .class_ 2), (0, u "java/lang/String"), (1, .class_ 6), (1, u "java/lang/Object"), (0, u "<init>"), (0, u "()V"), (0, .methodref 1 10), (0, .nameAndType 11 12), (0, u "checkIndex"), (0, u "(II)V"), (0, .methodref 14 15), (0, .class_ 16), (0, .nameAndType 17 18), (0, u "java/lang/StringLatin1"), (0, u "inflate"), (0, u "([BI[CII)V"), (1, .class_ 22), (1, u "java/lang/StringUTF16"), (3, .nameAndType 17 27), (0, u "([BI[BII)V"), (25, u "([BI)C"), (36, u "canEncode"), (14, u "(C)Z"), (15, u "$assertionsDisabled"), (0, u "Z"), (69, u "toChars"), (28, .class_ 223), (1, u "java/lang/StringLatin1$LinesSpliterator"), (16, .methodref 20 26), (11, u "charAt"), (15, u "([B)[C"), (121, .class_ 391), (0, u "java/lang/StringLatin1$CharsSpliterator")] 3

def k13m0 : Method := { name := "<init>", desc := "()V", sig := { parameters := [], returnType := none }, accessFlags := 0, code := none }
def k13c1 : Code := { maxStack := 2, maxLocals := 2, code := jdk_43_method_2_code, exceptionTable := #[], attributes := #[] }
def k13m1 : Method := { name := "charAt", desc := "([BI)C", sig := { parameters := [(.array .byte), .int], returnType := some .char }, accessFlags := 9, code := some k13c1 }
def k13c2 : Code := { maxStack := 2, maxLocals := 1, code := jdk_43_method_3_code, exceptionTable := #[], attributes := #[] }
def k13m2 : Method := { name := "canEncode", desc := "(C)Z", sig := { parameters := [.char], returnType := some .boolean }, accessFlags := 9, code := some k13c2 }
def k13c3 : Code := { maxStack := 5, maxLocals := 2, code := jdk_43_method_9_code, exceptionTable := #[], attributes := #[] }
def k13m3 : Method := { name := "toChars", desc := "([B)[C", sig := { parameters := [(.array .byte)], returnType := some (.array .char) }, accessFlags := 9, code := some k13c3 }
def k13c4 : Code := { maxStack := 4, maxLocals := 6, code := jdk_43_method_49_code, exceptionTable := #[], attributes := #[] }
def k13m4 : Method := { name := "inflate", desc := "([BI[CII)V", sig := { parameters := [(.array .byte), .int, (.array .char), .int, .int], returnType := none }, accessFlags := 9, code := some k13c4 }
def k13c5 : Code := { maxStack := 5, maxLocals := 5, code := jdk_43_method_50_code, exceptionTable := #[], attributes := #[] }
def k13m5 : Method := { name := "inflate", desc := "([BI[BII)V", sig := { parameters := [(.array .byte), .int, (.array .byte), .int, .int], returnType := none }, accessFlags := 9, code := some k13c5 }
/-- java/lang/StringLatin1 -/
def k13 : Class := { plain "java/lang/StringLatin1" (some 0) with
  accessFlags := 48
  interfaces := #[]
  cf := some (fileOf pool13 14 #[.nestMembers #[390, 221]] #[{ accessFlags := 0, nameIndex := 7, descriptorIndex := 8, attributes := #[] }, { accessFlags := 9, nameIndex := 252, descriptorIndex := 53, attributes := #[] }, { accessFlags := 9, nameIndex := 90, descriptorIndex := 105, attributes := #[] }, { accessFlags := 9, nameIndex := 192, descriptorIndex := 268, attributes := #[] }, { accessFlags := 9, nameIndex := 17, descriptorIndex := 18, attributes := #[] }, { accessFlags := 9, nameIndex := 17, descriptorIndex := 27, attributes := #[] }] 48 4 #[] #[{ accessFlags := 4120, nameIndex := 121, descriptorIndex := 122, attributes := #[] }])
  fields := #[{ name := "$assertionsDisabled", type := .boolean, accessFlags := 4120, slot := 0, constantValue := 0 }]
  methods := #[k13m0, k13m1, k13m2, k13m3, k13m4, k13m5]
  instanceTypes := #[]
  staticTypes := #[.boolean]
  resolved := Array.replicate 395 none
  statics := none }

def pool14 : Array CpInfo := pool [(2, .class_ 4), (1, u "java/lang/Object"), (0, u "<init>"), (0, u "()V"), (7, .class_ 16), (1, u "java/util/Arrays"), (57, .class_ 76), (1, u "java/util/Arrays$NaturalOrder"), (32, u "()Ljava/lang/Object;"), (3, .class_ 115), (1, u "java/util/Arrays$LegacyMergeSort"), (1, u "Z"), (10, .nameAndType 129 109), (0, u "clone"), (9, u "copyOfRange"), (10, .methodref 151 152), (0, .class_ 153), (0, .nameAndType 154 155), (0, u "java/lang/System"), (0, u "arraycopy"), (0, u "(Ljava/lang/Object;ILjava/lang/Object;II)V"), (146, u "copyOf"), (1, .methodref 305 306), (0, .class_ 307), (0, .nameAndType 308 309), (0, u "java/lang/Math"), (0, u "min"), (0, u "(II)I"), (0, .methodref 311 128), (0, .class_ 312), (0, u "[B"), (26, .methodref 14 340), (0, .nameAndType 341 342), (0, u "copyOfRangeByte"), (0, u "([BII)[B"), (0, .methodref 14 344), (0, .nameAndType 345 346), (0, u "checkLength"), (0, u "(II)V"), (28, .class_ 376), (0, u "java/util/Arrays$ArrayList"), (68, u "$assertionsDisabled"), (269, u "MIN_ARRAY_SORT_GRAN"), (0, u "I"), (2, u "INSERTIONSORT_THRESHOLD"), (149, u "([BI)[B"), (105, .class_ 976), (0, u "java/util/Arrays$ArrayItr")] 52

def k14m0 : Method := { name := "<init>", desc := "()V", sig := { parameters := [], returnType := none }, accessFlags := 2, code := none }
def k14c1 : Code := { maxStack := 6, maxLocals := 3, code := jdk_65_method_121_code, exceptionTable := #[], attributes := #[] }
def k14m1 : Method := { name := "copyOf", desc := "([BI)[B", sig := { parameters := [(.array .byte), .int], returnType := some (.array .byte) }, accessFlags := 9, code := some k14c1 }
def k14c2 : Code := { maxStack := 4, maxLocals := 2, code := jdk_65_method_131_code, exceptionTable := #[], attributes := #[] }
def k14m2 : Method := { name := "checkLength", desc := "(II)V", sig := { parameters := [.int, .int], returnType := none }, accessFlags := 10, code := some k14c2 }
def k14c3 : Code := { maxStack := 3, maxLocals := 3, code := jdk_65_method_132_code, exceptionTable := #[], attributes := #[] }
def k14m3 : Method := { name := "copyOfRange", desc := "([BII)[B", sig := { parameters := [(.array .byte), .int, .int], returnType := some (.array .byte) }, accessFlags := 9, code := some k14c3 }
def k14c4 : Code := { maxStack := 6, maxLocals := 5, code := jdk_65_method_133_code, exceptionTable := #[], attributes := #[] }
def k14m4 : Method := { name := "copyOfRangeByte", desc := "([BII)[B", sig := { parameters := [(.array .byte), .int, .int], returnType := some (.array .byte) }, accessFlags := 10, code := some k14c4 }
/-- java/util/Arrays -/
def k14 : Class := { plain "java/util/Arrays" (some 0) with
  accessFlags := 49
  interfaces := #[]
  cf := some (fileOf pool14 14 #[.nestMembers #[975, 375, 113, 74]] #[{ accessFlags := 2, nameIndex := 5, descriptorIndex := 6, attributes := #[] }, { accessFlags := 9, nameIndex := 302, descriptorIndex := 869, attributes := #[] }, { accessFlags := 10, nameIndex := 345, descriptorIndex := 346, attributes := #[] }, { accessFlags := 9, nameIndex := 139, descriptorIndex := 342, attributes := #[] }, { accessFlags := 10, nameIndex := 341, descriptorIndex := 342, attributes := #[] }] 49 2 #[] #[{ accessFlags := 26, nameIndex := 715, descriptorIndex := 716, attributes := #[] }, { accessFlags := 26, nameIndex := 719, descriptorIndex := 716, attributes := #[] }, { accessFlags := 4120, nameIndex := 445, descriptorIndex := 117, attributes := #[] }])
  fields := #[{ name := "MIN_ARRAY_SORT_GRAN", type := .int, accessFlags := 26, slot := 0, constantValue := 0 }, { name := "INSERTIONSORT_THRESHOLD", type := .int, accessFlags := 26, slot := 1, constantValue := 0 }, { name := "$assertionsDisabled", type := .boolean, accessFlags := 4120, slot := 2, constantValue := 0 }]
  methods := #[k14m0, k14m1, k14m2, k14m3, k14m4]
  instanceTypes := #[]
  staticTypes := #[.int, .int, .boolean]
  resolved := Array.replicate 1029 none
  statics := none }

def pool15 : Array CpInfo := pool [(1, .class_ 2), (0, u "java/lang/Cloneable"), (0, .class_ 4), (0, u "java/lang/Object")] 2

/-- java/lang/Cloneable -/
def k15 : Class := { plain "java/lang/Cloneable" (some 0) with
  accessFlags := 1537
  interfaces := #[]
  cf := some (fileOf pool15 1 #[] #[] 1537 3 #[] #[])
  fields := #[]
  methods := #[]
  instanceTypes := #[]
  staticTypes := #[]
  resolved := Array.replicate 7 none
  statics := none }

def pool16 : Array CpInfo := pool [(3, .class_ 4), (0, u "java/lang/String"), (1, .class_ 8), (1, u "java/lang/Object"), (0, u "<init>"), (0, u "()V"), (0, .methodref 12 13), (0, .class_ 14), (0, .nameAndType 15 16), (0, u "java/lang/StringUTF16"), (0, u "newBytesLength"), (0, u "(I)I"), (3, .integer 1073741823), (23, .fieldref 12 45), (0, .nameAndType 46 47), (0, u "$assertionsDisabled"), (0, u "Z"), (0, .methodref 12 49), (0, .nameAndType 50 51), (0, u "length"), (0, u "([B)I"), (7, .fieldref 12 60), (0, .nameAndType 61 62), (0, u "HI_BYTE_SHIFT"), (0, u "I"), (0, .fieldref 12 64), (0, .nameAndType 65 62), (0, u "LO_BYTE_SHIFT"), (1, .methodref 12 68), (0, .nameAndType 69 70), (0, u "checkIndex"), (0, u "(I[B)V"), (0, .methodref 12 72), (0, .nameAndType 73 74), (0, u "getChar"), (0, u "([BI)C"), (24, u "(II[B)V"), (3, .methodref 12 104), (0, .nameAndType 105 106), (0, u "getChars"), (0, u "([BII[CI)V"), (0, .methodref 12 108), (0, .nameAndType 109 110), (0, u "newBytesFor"), (0, u "(I)[B"), (0, .methodref 12 112), (0, .nameAndType 113 114), (0, u "putChar"), (0, u "([BII)V"), (0, .methodref 12 116), (0, .nameAndType 117 118), (0, u "compress"), (0, u "([CI[BII)I"), (0, .methodref 12 120), (0, .nameAndType 121 122), (0, u "toBytes"), (0, u "([CII)[B"), (17, u "inflate"), (0, u "([BI[BII)V"), (31, .methodref 12 174), (0, .nameAndType 175 99), (0, u "checkBoundsOffCount"), (85, u "coderFromArrayLen"), (0, u "([BI)B"), (18, u "(III)I"), (60, u "toChars"), (26, .class_ 371), (1, u "java/lang/StringUTF16$LinesSpliterator"), (20, u "charAt"), (21, .methodref 3 415), (0, .nameAndType 69 416), (0, u "(II)V"), (2, .methodref 3 420), (0, .nameAndType 175 281), (9, u "MAX_LENGTH"), (23, u "([B)[C"), (131, u "putCharSB"), (40, .class_ 628), (0, u "java/lang/StringUTF16$CodePointsSpliterator"), (0, .class_ 630), (0, u "java/lang/StringUTF16$CharsSpliterator")] 4

def k16m0 : Method := { name := "<init>", desc := "()V", sig := { parameters := [], returnType := none }, accessFlags := 0, code := none }
def k16c1 : Code := { maxStack := 1, maxLocals := 1, code := jdk_52_method_2_code, exceptionTable := #[], attributes := #[] }
def k16m1 : Method := { name := "newBytesFor", desc := "(I)[B", sig := { parameters := [.int], returnType := some (.array .byte) }, accessFlags := 9, code := some k16c1 }
def k16c2 : Code := { maxStack := 4, maxLocals := 1, code := jdk_52_method_3_code, exceptionTable := #[], attributes := #[] }
def k16m2 : Method := { name := "newBytesLength", desc := "(I)I", sig := { parameters := [.int], returnType := some .int }, accessFlags := 9, code := some k16c2 }
def k16c3 : Code := { maxStack := 4, maxLocals := 3, code := jdk_52_method_4_code, exceptionTable := #[], attributes := #[] }
def k16m3 : Method := { name := "putChar", desc := "([BII)V", sig := { parameters := [(.array .byte), .int, .int], returnType := none }, accessFlags := 8, code := some k16c3 }
def k16c4 : Code := { maxStack := 3, maxLocals := 2, code := jdk_52_method_5_code, exceptionTable := #[], attributes := #[] }
def k16m4 : Method := { name := "getChar", desc := "([BI)C", sig := { parameters := [(.array .byte), .int], returnType := some .char }, accessFlags := 8, code := some k16c4 }
def k16c5 : Code := { maxStack := 2, maxLocals := 1, code := jdk_52_method_6_code, exceptionTable := #[], attributes := #[] }
def k16m5 : Method := { name := "length", desc := "([B)I", sig := { parameters := [(.array .byte)], returnType := some .int }, accessFlags := 9, code := some k16c5 }
def k16c6 : Code := { maxStack := 5, maxLocals := 2, code := jdk_52_method_13_code, exceptionTable := #[], attributes := #[] }
def k16m6 : Method := { name := "toChars", desc := "([B)[C", sig := { parameters := [(.array .byte)], returnType := some (.array .char) }, accessFlags := 9, code := some k16c6 }
def k16c7 : Code := { maxStack := 4, maxLocals := 5, code := jdk_52_method_14_code, exceptionTable := #[], attributes := #[] }
def k16m7 : Method := { name := "toBytes", desc := "([CII)[B", sig := { parameters := [(.array .char), .int, .int], returnType := some (.array .byte) }, accessFlags := 9, code := some k16c7 }
def k16c8 : Code := { maxStack := 2, maxLocals := 2, code := jdk_52_method_15_code, exceptionTable := #[], attributes := #[] }
def k16m8 : Method := { name := "coderFromArrayLen", desc := "([BI)B", sig := { parameters := [(.array .byte), .int], returnType := some .byte }, accessFlags := 8, code := some k16c8 }
def k16c9 : Code := { maxStack := 5, maxLocals := 6, code := jdk_52_method_16_code, exceptionTable := #[], attributes := #[] }
def k16m9 : Method := { name := "compress", desc := "([CII)[B", sig := { parameters := [(.array .char), .int, .int], returnType := some (.array .byte) }, accessFlags := 9, code := some k16c9 }
def k16c10 : Code := { maxStack := 3, maxLocals := 7, code := jdk_52_method_21_code, exceptionTable := #[], attributes := #[] }
def k16m10 : Method := { name := "compress", desc := "([CI[BII)I", sig := { parameters := [(.array .char), .int, (.array .byte), .int, .int], returnType := some .int }, accessFlags := 9, code := some k16c10 }
def k16c11 : Code := { maxStack := 4, maxLocals := 6, code := jdk_52_method_26_code, exceptionTable := #[], attributes := #[] }
def k16m11 : Method := { name := "getChars", desc := "([BII[CI)V", sig := { parameters := [(.array .byte), .int, .int, (.array .char), .int], returnType := none }, accessFlags := 9, code := some k16c11 }
def k16c12 : Code := { maxStack := 3, maxLocals := 3, code := jdk_52_method_71_code, exceptionTable := #[], attributes := #[] }
def k16m12 : Method := { name := "putCharSB", desc := "([BII)V", sig := { parameters := [(.array .byte), .int, .int], returnType := none }, accessFlags := 9, code := some k16c12 }
def k16c13 : Code := { maxStack := 2, maxLocals := 2, code := jdk_52_method_83_code, exceptionTable := #[], attributes := #[] }
def k16m13 : Method := { name := "charAt", desc := "([BI)C", sig := { parameters := [(.array .byte), .int], returnType := some .char }, accessFlags := 9, code := some k16c13 }
def k16c14 : Code := { maxStack := 4, maxLocals := 6, code := jdk_52_method_86_code, exceptionTable := #[], attributes := #[] }
def k16m14 : Method := { name := "inflate", desc := "([BI[BII)V", sig := { parameters := [(.array .byte), .int, (.array .byte), .int, .int], returnType := none }, accessFlags := 9, code := some k16c14 }
def k16c15 : Code := { maxStack := 2, maxLocals := 2, code := jdk_52_method_91_code, exceptionTable := #[], attributes := #[] }
def k16m15 : Method := { name := "checkIndex", desc := "(I[B)V", sig := { parameters := [.int, (.array .byte)], returnType := none }, accessFlags := 9, code := some k16c15 }
def k16c16 : Code := { maxStack := 3, maxLocals := 3, code := jdk_52_method_94_code, exceptionTable := #[], attributes := #[] }
def k16m16 : Method := { name := "checkBoundsOffCount", desc := "(II[B)V", sig := { parameters := [.int, .int, (.array .byte)], returnType := none }, accessFlags := 9, code := some k16c16 }
/-- java/lang/StringUTF16 -/
def k16 : Class := { plain "java/lang/StringUTF16" (some 0) with
  accessFlags := 48
  interfaces := #[]
  cf := some (fileOf pool16 12 #[.nestMembers #[627, 629, 369]] #[{ accessFlags := 0, nameIndex := 9, descriptorIndex := 10, attributes := #[] }, { accessFlags := 9, nameIndex := 109, descriptorIndex := 110, attributes := #[] }, { accessFlags := 9, nameIndex := 15, descriptorIndex := 16, attributes := #[] }, { accessFlags := 8, nameIndex := 113, descriptorIndex := 114, attributes := #[] }, { accessFlags := 8, nameIndex := 73, descriptorIndex := 74, attributes := #[] }, { accessFlags := 9, nameIndex := 50, descriptorIndex := 51, attributes := #[] }, { accessFlags := 9, nameIndex := 342, descriptorIndex := 454, attributes := #[] }, { accessFlags := 9, nameIndex := 121, descriptorIndex := 122, attributes := #[] }, { accessFlags := 8, nameIndex := 261, descriptorIndex := 262, attributes := #[] }, { accessFlags := 9, nameIndex := 117, descriptorIndex := 122, attributes := #[] }, { accessFlags := 9, nameIndex := 117, descriptorIndex := 118, attributes := #[] }, { accessFlags := 9, nameIndex := 105, descriptorIndex := 106, attributes := #[] }, { accessFlags := 9, nameIndex := 586, descriptorIndex := 114, attributes := #[] }, { accessFlags := 9, nameIndex := 392, descriptorIndex := 74, attributes := #[] }, { accessFlags := 9, nameIndex := 140, descriptorIndex := 141, attributes := #[] }, { accessFlags := 9, nameIndex := 69, descriptorIndex := 70, attributes := #[] }, { accessFlags := 9, nameIndex := 175, descriptorIndex := 99, attributes := #[] }] 48 6 #[] #[{ accessFlags := 26, nameIndex := 61, descriptorIndex := 62, attributes := #[] }, { accessFlags := 26, nameIndex := 65, descriptorIndex := 62, attributes := #[] }, { accessFlags := 24, nameIndex := 430, descriptorIndex := 62, attributes := #[] }, { accessFlags := 4120, nameIndex := 46, descriptorIndex := 47, attributes := #[] }])
  fields := #[{ name := "HI_BYTE_SHIFT", type := .int, accessFlags := 26, slot := 0, constantValue := 0 }, { name := "LO_BYTE_SHIFT", type := .int, accessFlags := 26, slot := 1, constantValue := 0 }, { name := "MAX_LENGTH", type := .int, accessFlags := 24, slot := 2, constantValue := 0 }, { name := "$assertionsDisabled", type := .boolean, accessFlags := 4120, slot := 3, constantValue := 0 }]
  methods := #[k16m0, k16m1, k16m2, k16m3, k16m4, k16m5, k16m6, k16m7, k16m8, k16m9, k16m10, k16m11, k16m12, k16m13, k16m14, k16m15, k16m16]
  instanceTypes := #[]
  staticTypes := #[.int, .int, .int, .boolean]
  resolved := Array.replicate 635 none
  statics := some 1 }

def pool17 : Array CpInfo := pool [(9, u "<init>"), (6, .class_ 18), (1, u "java/lang/Object"), (0, u "()V"), (1, .class_ 23), (1, u "jdk/internal/util/ArraysSupport"), (0, u "LOG2_ARRAY_LONG_INDEX_SCALE"), (0, u "I"), (2, u "U"), (0, u "Ljdk/internal/misc/Unsafe;"), (8, u "BIG_ENDIAN"), (0, u "Z"), (8, u "LOG2_BYTE_BIT_SIZE"), (4, u "LOG2_ARRAY_INT_INDEX_SCALE"), (54, u "JLA"), (0, u "Ljdk/internal/access/JavaLangAccess;"), (11, u "LOG2_ARRAY_BOOLEAN_INDEX_SCALE"), (9, u "LOG2_ARRAY_BYTE_INDEX_SCALE"), (5, u "LOG2_ARRAY_CHAR_INDEX_SCALE"), (5, u "LOG2_ARRAY_SHORT_INDEX_SCALE"), (18, u "LOG2_ARRAY_FLOAT_INDEX_SCALE"), (24, u "LOG2_ARRAY_DOUBLE_INDEX_SCALE"), (6, .methodref 195 196), (0, .class_ 197), (0, .nameAndType 198 199), (0, u "java/lang/Math"), (0, u "max"), (0, u "(II)I"), (0, .integer 2147483639), (76, u "T_BOOLEAN"), (2, u "T_CHAR"), (1, u "T_FLOAT"), (1, u "T_DOUBLE"), (1, u "T_BYTE"), (1, u "T_SHORT"), (1, u "T_INT"), (1, u "T_LONG"), (1, u "SOFT_MAX_ARRAY_LENGTH"), (56, u "newLength"), (0, u "(III)I")] 25

def k17m0 : Method := { name := "<init>", desc := "()V", sig := { parameters := [], returnType := none }, accessFlags := 2, code := none }
def k17c1 : Code := { maxStack := 3, maxLocals := 4, code := jdk_48_method_27_code, exceptionTable := #[], attributes := #[] }
def k17m1 : Method := { name := "newLength", desc := "(III)I", sig := { parameters := [.int, .int, .int], returnType := some .int }, accessFlags := 9, code := some k17c1 }
/-- jdk/internal/util/ArraysSupport -/
def k17 : Class := { plain "jdk/internal/util/ArraysSupport" (some 0) with
  accessFlags := 33
  interfaces := #[]
  cf := some (fileOf pool17 21 #[] #[{ accessFlags := 2, nameIndex := 9, descriptorIndex := 19, attributes := #[] }, { accessFlags := 9, nameIndex := 351, descriptorIndex := 352, attributes := #[] }] 33 16 #[] #[{ accessFlags := 24, nameIndex := 28, descriptorIndex := 29, attributes := #[] }, { accessFlags := 26, nameIndex := 38, descriptorIndex := 39, attributes := #[] }, { accessFlags := 25, nameIndex := 121, descriptorIndex := 25, attributes := #[] }, { accessFlags := 25, nameIndex := 131, descriptorIndex := 25, attributes := #[] }, { accessFlags := 25, nameIndex := 137, descriptorIndex := 25, attributes := #[] }, { accessFlags := 25, nameIndex := 143, descriptorIndex := 25, attributes := #[] }, { accessFlags := 25, nameIndex := 53, descriptorIndex := 25, attributes := #[] }, { accessFlags := 25, nameIndex := 24, descriptorIndex := 25, attributes := #[] }, { accessFlags := 25, nameIndex := 162, descriptorIndex := 25, attributes := #[] }, { accessFlags := 25, nameIndex := 187, descriptorIndex := 25, attributes := #[] }, { accessFlags := 26, nameIndex := 48, descriptorIndex := 25, attributes := #[] }, { accessFlags := 25, nameIndex := 277, descriptorIndex := 25, attributes := #[] }, { accessFlags := 25, nameIndex := 280, descriptorIndex := 25, attributes := #[] }, { accessFlags := 25, nameIndex := 282, descriptorIndex := 25, attributes := #[] }, { accessFlags := 25, nameIndex := 284, descriptorIndex := 25, attributes := #[] }, { accessFlags := 25, nameIndex := 286, descriptorIndex := 25, attributes := #[] }, { accessFlags := 25, nameIndex := 288, descriptorIndex := 25, attributes := #[] }, { accessFlags := 25, nameIndex := 290, descriptorIndex := 25, attributes := #[] }, { accessFlags := 25, nameIndex := 292, descriptorIndex := 25, attributes := #[] }, { accessFlags := 26, nameIndex := 108, descriptorIndex := 109, attributes := #[] }, { accessFlags := 25, nameIndex := 294, descriptorIndex := 25, attributes := #[] }])
  fields := #[{ name := "U", type := (.object "jdk/internal/misc/Unsafe"), accessFlags := 24, slot := 0, constantValue := 0 }, { name := "BIG_ENDIAN", type := .boolean, accessFlags := 26, slot := 1, constantValue := 0 }, { name := "LOG2_ARRAY_BOOLEAN_INDEX_SCALE", type := .int, accessFlags := 25, slot := 2, constantValue := 0 }, { name := "LOG2_ARRAY_BYTE_INDEX_SCALE", type := .int, accessFlags := 25, slot := 3, constantValue := 0 }, { name := "LOG2_ARRAY_CHAR_INDEX_SCALE", type := .int, accessFlags := 25, slot := 4, constantValue := 0 }, { name := "LOG2_ARRAY_SHORT_INDEX_SCALE", type := .int, accessFlags := 25, slot := 5, constantValue := 0 }, { name := "LOG2_ARRAY_INT_INDEX_SCALE", type := .int, accessFlags := 25, slot := 6, constantValue := 0 }, { name := "LOG2_ARRAY_LONG_INDEX_SCALE", type := .int, accessFlags := 25, slot := 7, constantValue := 0 }, { name := "LOG2_ARRAY_FLOAT_INDEX_SCALE", type := .int, accessFlags := 25, slot := 8, constantValue := 0 }, { name := "LOG2_ARRAY_DOUBLE_INDEX_SCALE", type := .int, accessFlags := 25, slot := 9, constantValue := 0 }, { name := "LOG2_BYTE_BIT_SIZE", type := .int, accessFlags := 26, slot := 10, constantValue := 0 }, { name := "T_BOOLEAN", type := .int, accessFlags := 25, slot := 11, constantValue := 0 }, { name := "T_CHAR", type := .int, accessFlags := 25, slot := 12, constantValue := 0 }, { name := "T_FLOAT", type := .int, accessFlags := 25, slot := 13, constantValue := 0 }, { name := "T_DOUBLE", type := .int, accessFlags := 25, slot := 14, constantValue := 0 }, { name := "T_BYTE", type := .int, accessFlags := 25, slot := 15, constantValue := 0 }, { name := "T_SHORT", type := .int, accessFlags := 25, slot := 16, constantValue := 0 }, { name := "T_INT", type := .int, accessFlags := 25, slot := 17, constantValue := 0 }, { name := "T_LONG", type := .int, accessFlags := 25, slot := 18, constantValue := 0 }, { name := "JLA", type := (.object "jdk/internal/access/JavaLangAccess"), accessFlags := 26, slot := 19, constantValue := 0 }, { name := "SOFT_MAX_ARRAY_LENGTH", type := .int, accessFlags := 25, slot := 20, constantValue := 0 }]
  methods := #[k17m0, k17m1]
  instanceTypes := #[]
  staticTypes := #[(.object "jdk/internal/misc/Unsafe"), .boolean, .int, .int, .int, .int, .int, .int, .int, .int, .int, .int, .int, .int, .int, .int, .int, .int, .int, (.object "jdk/internal/access/JavaLangAccess"), .int]
  resolved := Array.replicate 378 none
  statics := none }

def pool18 : Array CpInfo := pool [(1, .class_ 2), (0, u "java/lang/Math"), (1, .class_ 6), (1, u "java/lang/Object"), (0, u "<init>"), (0, u "()V"), (89, .class_ 100), (1, u "java/lang/Math$RandomNumberGeneratorHolder"), (71, u "negativeZeroFloatBits"), (0, u "J"), (2, u "negativeZeroDoubleBits"), (21, u "max"), (2, u "min"), (43, u "$assertionsDisabled"), (0, u "Z"), (88, u "(II)I"), (2, u "twoToTheDoubleScaleDown"), (0, u "D"), (4, u "twoToTheDoubleScaleUp"), (9, u "E"), (3, u "PI"), (2, u "TAU"), (2, u "DEGREES_TO_RADIANS"), (0, u "RADIANS_TO_DEGREES")] 94

def k18m0 : Method := { name := "<init>", desc := "()V", sig := { parameters := [], returnType := none }, accessFlags := 2, code := none }
def k18c1 : Code := { maxStack := 2, maxLocals := 2, code := jdk_29_method_65_code, exceptionTable := #[], attributes := #[] }
def k18m1 : Method := { name := "max", desc := "(II)I", sig := { parameters := [.int, .int], returnType := some .int }, accessFlags := 9, code := some k18c1 }
def k18c2 : Code := { maxStack := 2, maxLocals := 2, code := jdk_29_method_69_code, exceptionTable := #[], attributes := #[] }
def k18m2 : Method := { name := "min", desc := "(II)I", sig := { parameters := [.int, .int], returnType := some .int }, accessFlags := 9, code := some k18c2 }
/-- java/lang/Math -/
def k18 : Class := { plain "java/lang/Math" (some 0) with
  accessFlags := 49
  interfaces := #[]
  cf := some (fileOf pool18 1 #[.nestMembers #[98]] #[{ accessFlags := 2, nameIndex := 7, descriptorIndex := 8, attributes := #[] }, { accessFlags := 9, nameIndex := 198, descriptorIndex := 335, attributes := #[] }, { accessFlags := 9, nameIndex := 201, descriptorIndex := 335, attributes := #[] }] 49 4 #[] #[{ accessFlags := 25, nameIndex := 354, descriptorIndex := 339, attributes := #[] }, { accessFlags := 25, nameIndex := 358, descriptorIndex := 339, attributes := #[] }, { accessFlags := 25, nameIndex := 361, descriptorIndex := 339, attributes := #[] }, { accessFlags := 26, nameIndex := 364, descriptorIndex := 339, attributes := #[] }, { accessFlags := 26, nameIndex := 365, descriptorIndex := 339, attributes := #[] }, { accessFlags := 26, nameIndex := 172, descriptorIndex := 173, attributes := #[] }, { accessFlags := 26, nameIndex := 176, descriptorIndex := 173, attributes := #[] }, { accessFlags := 8, nameIndex := 344, descriptorIndex := 339, attributes := #[] }, { accessFlags := 8, nameIndex := 338, descriptorIndex := 339, attributes := #[] }, { accessFlags := 4120, nameIndex := 245, descriptorIndex := 246, attributes := #[] }])
  fields := #[{ name := "E", type := .double, accessFlags := 25, slot := 0, constantValue := 0 }, { name := "PI", type := .double, accessFlags := 25, slot := 1, constantValue := 0 }, { name := "TAU", type := .double, accessFlags := 25, slot := 2, constantValue := 0 }, { name := "DEGREES_TO_RADIANS", type := .double, accessFlags := 26, slot := 3, constantValue := 0 }, { name := "RADIANS_TO_DEGREES", type := .double, accessFlags := 26, slot := 4, constantValue := 0 }, { name := "negativeZeroFloatBits", type := .long, accessFlags := 26, slot := 5, constantValue := 0 }, { name := "negativeZeroDoubleBits", type := .long, accessFlags := 26, slot := 6, constantValue := 0 }, { name := "twoToTheDoubleScaleUp", type := .double, accessFlags := 8, slot := 7, constantValue := 0 }, { name := "twoToTheDoubleScaleDown", type := .double, accessFlags := 8, slot := 8, constantValue := 0 }, { name := "$assertionsDisabled", type := .boolean, accessFlags := 4120, slot := 9, constantValue := 0 }]
  methods := #[k18m0, k18m1, k18m2]
  instanceTypes := #[]
  staticTypes := #[.double, .double, .double, .double, .double, .long, .long, .double, .double, .boolean]
  resolved := Array.replicate 460 none
  statics := none }

def pool19 : Array CpInfo := pool [(2, .class_ 4), (1, u "java/lang/Object"), (0, u "<init>"), (0, u "()V"), (1, .class_ 10), (1, u "java/lang/System"), (0, u "allowSecurityManager"), (0, u "I"), (16, u "cons"), (0, u "Ljava/io/Console;"), (77, .class_ 110), (1, u "java/lang/System$CallersHolder"), (43, u "initialErrStream"), (0, u "Ljava/io/PrintStream;"), (19, u "security"), (0, u "Ljava/lang/SecurityManager;"), (31, .class_ 209), (0, u "java/lang/System$1"), (7, u "props"), (0, u "Ljava/util/Properties;"), (2, u "lineSeparator"), (0, u "Ljava/lang/String;"), (96, .class_ 321), (1, u "java/lang/System$LoggerFinder"), (5, .class_ 328), (0, u "java/lang/System$Logger"), (67, u "err"), (2, u "out"), (91, u "notSupportedJnuEncoding"), (15, u "in"), (17, u "initialIn"), (0, u "Ljava/io/InputStream;"), (35, u "bootLayer"), (0, u "Ljava/lang/ModuleLayer;"), (99, .class_ 664), (0, u "java/lang/System$2"), (9, u "NEVER"), (2, u "MAYBE"), (49, u "arraycopy"), (0, u "(Ljava/lang/Object;ILjava/lang/Object;II)V"), (72, .class_ 802), (0, u "java/lang/System$Logger$Level")] 31

def k19m0 : Method := { name := "<init>", desc := "()V", sig := { parameters := [], returnType := none }, accessFlags := 2, code := none }
def k19m1 : Method := { name := "arraycopy", desc := "(Ljava/lang/Object;ILjava/lang/Object;II)V", sig := { parameters := [(.object "java/lang/Object"), .int, (.object "java/lang/Object"), .int, .int], returnType := none }, accessFlags := 265, code := none }
/-- java/lang/System -/
def k19 : Class := { plain "java/lang/System" (some 0) with
  accessFlags := 49
  interfaces := #[]
  cf := some (fileOf pool19 8 #[.nestMembers #[319, 327, 801, 108, 663, 208]] #[{ accessFlags := 2, nameIndex := 5, descriptorIndex := 6, attributes := #[] }, { accessFlags := 265, nameIndex := 727, descriptorIndex := 728, attributes := #[] }] 49 2 #[] #[{ accessFlags := 25, nameIndex := 507, descriptorIndex := 526, attributes := #[] }, { accessFlags := 25, nameIndex := 399, descriptorIndex := 155, attributes := #[] }, { accessFlags := 25, nameIndex := 396, descriptorIndex := 155, attributes := #[] }, { accessFlags := 10, nameIndex := 525, descriptorIndex := 526, attributes := #[] }, { accessFlags := 26, nameIndex := 674, descriptorIndex := 12, attributes := #[] }, { accessFlags := 26, nameIndex := 677, descriptorIndex := 12, attributes := #[] }, { accessFlags := 10, nameIndex := 11, descriptorIndex := 12, attributes := #[] }, { accessFlags := 74, nameIndex := 175, descriptorIndex := 176, attributes := #[] }, { accessFlags := 10, nameIndex := 491, descriptorIndex := 222, attributes := #[] }, { accessFlags := 74, nameIndex := 29, descriptorIndex := 30, attributes := #[] }, { accessFlags := 74, nameIndex := 154, descriptorIndex := 155, attributes := #[] }, { accessFlags := 10, nameIndex := 217, descriptorIndex := 218, attributes := #[] }, { accessFlags := 10, nameIndex := 221, descriptorIndex := 222, attributes := #[] }, { accessFlags := 8, nameIndex := 562, descriptorIndex := 563, attributes := #[] }])
  fields := #[{ name := "in", type := (.object "java/io/InputStream"), accessFlags := 25, slot := 0, constantValue := 0 }, { name := "out", type := (.object "java/io/PrintStream"), accessFlags := 25, slot := 1, constantValue := 0 }, { name := "err", type := (.object "java/io/PrintStream"), accessFlags := 25, slot := 2, constantValue := 0 }, { name := "initialIn", type := (.object "java/io/InputStream"), accessFlags := 10, slot := 3, constantValue := 0 }, { name := "NEVER", type := .int, accessFlags := 26, slot := 4, constantValue := 0 }, { name := "MAYBE", type := .int, accessFlags := 26, slot := 5, constantValue := 0 }, { name := "allowSecurityManager", type := .int, accessFlags := 10, slot := 6, constantValue := 0 }, { name := "security", type := (.object "java/lang/SecurityManager"), accessFlags := 74, slot := 7, constantValue := 0 }, { name := "notSupportedJnuEncoding", type := (.object "java/lang/String"), accessFlags := 10, slot := 8, constantValue := 0 }, { name := "cons", type := (.object "java/io/Console"), accessFlags := 74, slot := 9, constantValue := 0 }, { name := "initialErrStream", type := (.object "java/io/PrintStream"), accessFlags := 74, slot := 10, constantValue := 0 }, { name := "props", type := (.object "java/util/Properties"), accessFlags := 10, slot := 11, constantValue := 0 }, { name := "lineSeparator", type := (.object "java/lang/String"), accessFlags := 10, slot := 12, constantValue := 0 }, { name := "bootLayer", type := (.object "java/lang/ModuleLayer"), accessFlags := 8, slot := 13, constantValue := 0 }]
  methods := #[k19m0, k19m1]
  instanceTypes := #[]
  staticTypes := #[(.object "java/io/InputStream"), (.object "java/io/PrintStream"), (.object "java/io/PrintStream"), (.object "java/io/InputStream"), .int, .int, .int, (.object "java/lang/SecurityManager"), (.object "java/lang/String"), (.object "java/io/Console"), (.object "java/io/PrintStream"), (.object "java/util/Properties"), (.object "java/lang/String"), (.object "java/lang/ModuleLayer")]
  resolved := Array.replicate 834 none
  statics := none }

def pool20 : Array CpInfo := pool [(2, .class_ 4), (1, u "java/lang/Object"), (0, u "<init>"), (0, u "()V"), (17, .class_ 26), (1, u "jdk/internal/util/Preconditions"), (6, u "checkIndex"), (15, u "checkFromIndexSize"), (5, .class_ 56), (0, u "jdk/internal/util/Preconditions$4"), (57, .class_ 115), (0, u "jdk/internal/util/Preconditions$1"), (7, u "SIOOBE_FORMATTER"), (0, u "Ljava/util/function/BiFunction;"), (0, .class_ 126), (0, u "jdk/internal/util/Preconditions$2"), (3, u "AIOOBE_FORMATTER"), (0, .class_ 132), (0, u "jdk/internal/util/Preconditions$3"), (3, u "IOOBE_FORMATTER"), (41, u "(IILjava/util/function/BiFunction;)I"), (4, u "(IIILjava/util/function/BiFunction;)I")] 10

def k20m0 : Method := { name := "<init>", desc := "()V", sig := { parameters := [], returnType := none }, accessFlags := 1, code := none }
def k20c1 : Code := { maxStack := 3, maxLocals := 3, code := jdk_41_method_11_code, exceptionTable := #[], attributes := #[] }
def k20m1 : Method := { name := "checkIndex", desc := "(IILjava/util/function/BiFunction;)I", sig := { parameters := [.int, .int, (.object "java/util/function/BiFunction")], returnType := some .int }, accessFlags := 9, code := some k20c1 }
def k20c2 : Code := { maxStack := 4, maxLocals := 4, code := jdk_41_method_13_code, exceptionTable := #[], attributes := #[] }
def k20m2 : Method := { name := "checkFromIndexSize", desc := "(IIILjava/util/function/BiFunction;)I", sig := { parameters := [.int, .int, .int, (.object "java/util/function/BiFunction")], returnType := some .int }, accessFlags := 9, code := some k20c2 }
/-- jdk/internal/util/Preconditions -/
def k20 : Class := { plain "jdk/internal/util/Preconditions" (some 0) with
  accessFlags := 33
  interfaces := #[]
  cf := some (fileOf pool20 24 #[.nestMembers #[55, 131, 125, 114]] #[{ accessFlags := 1, nameIndex := 5, descriptorIndex := 6, attributes := #[] }, { accessFlags := 9, nameIndex := 33, descriptorIndex := 178, attributes := #[] }, { accessFlags := 9, nameIndex := 49, descriptorIndex := 183, attributes := #[] }] 33 2 #[] #[{ accessFlags := 25, nameIndex := 123, descriptorIndex := 124, attributes := #[] }, { accessFlags := 25, nameIndex := 130, descriptorIndex := 124, attributes := #[] }, { accessFlags := 25, nameIndex := 136, descriptorIndex := 124, attributes := #[] }])
  fields := #[{ name := "SIOOBE_FORMATTER", type := (.object "java/util/function/BiFunction"), accessFlags := 25, slot := 0, constantValue := 0 }, { name := "AIOOBE_FORMATTER", type := (.object "java/util/function/BiFunction"), accessFlags := 25, slot := 1, constantValue := 0 }, { name := "IOOBE_FORMATTER", type := (.object "java/util/function/BiFunction"), accessFlags := 25, slot := 2, constantValue := 0 }]
  methods := #[k20m0, k20m1, k20m2]
  instanceTypes := #[]
  staticTypes := #[(.object "java/util/function/BiFunction"), (.object "java/util/function/BiFunction"), (.object "java/util/function/BiFunction")]
  resolved := Array.replicate 194 none
  statics := some 2 }

/-- the primitive byte -/
def k21 : Class := { plain "byte" none with kind := .primitive 'B', accessFlags := 0x411 }
/-- [B -/
def k22 : Class := { plain "[B" (some 0) with kind := .array 21 .byte, interfaces := #[15, 2], accessFlags := 1041 }

/-- the primitive char -/
def k23 : Class := { plain "char" none with kind := .primitive 'C', accessFlags := 0x411 }
/-- [C -/
def k24 : Class := { plain "[C" (some 0) with kind := .array 23 .char, interfaces := #[15, 2], accessFlags := 1041 }

/-- the primitive int -/
def k25 : Class := { plain "int" none with kind := .primitive 'I', accessFlags := 0x411 }
/-- [I -/
def k26 : Class := { plain "[I" (some 0) with kind := .array 25 .int, interfaces := #[15, 2], accessFlags := 1041 }

def heap : Heap := #[{ cls := 7, slots := #[.long 0, .int 1, .null, .int 0, .null, .int 0, .int 0], vm := .statics 7 },
  { cls := 16, slots := #[.int 0, .int 8, .int 0, .int 1], vm := .statics 16 },
  { cls := 20, slots := #[.null, .null, .null], vm := .statics 20 }]
def classes : Array Class := #[k0, k1, k2, k3, k4, k5, k6, k7, k8, k9, k10, k11, k12, k13, k14, k15, k16, k17, k18, k19, k20, k21, k22, k23, k24, k25, k26]
def interned : List (Array UInt16 × Addr) := []
def slotsUsed : Nat := 14
def theMethod : MethodId := ⟨1, 1⟩
def args0 : Array Value := #[.long 4295032898, .int 65, .long 300, .int 7]
def aboutOver (below : List Frame) : State where
  vm := { classes := classes, interned := interned.toArray }
  heap := heap
  slotsUsed := slotsUsed
  threads := #[{ frames := .invoking theMethod args0 :: below }]
def below0 : List Frame := [.native { method := ⟨0, 0⟩, args := #[] }]
def about1 : State := aboutOver below0
def p0 : Program := .bare "" "" ""
def e0 : Env := launch0.env 0 0 0
theorem w_frames : about1.frames = Frame.invoking theMethod args0 :: below0 := rfl
set_option maxRecDepth 65536 in
theorem w_args : argsFit about1.vm theMethod args0 = true := by decide +kernel
set_option maxRecDepth 65536 in
theorem w_heap : heapFits about1 = true := by decide +kernel
set_option maxRecDepth 65536 in
theorem w_runnable : about1.curStatus? = some .runnable := by decide +kernel
set_option maxRecDepth 65536 in
theorem w_alone : about1.alone = true := by decide +kernel
set_option maxRecDepth 65536 in
theorem w_named : about1.methodNamed? x = some theMethod := by decide +kernel
set_option maxRecDepth 65536 in
theorem w_hears : about1.hears theMethod below0 = true := by decide +kernel
set_option maxRecDepth 65536 in
theorem w_ripe : about1.ripe theMethod args0 below0 = true := by decide +kernel
theorem w_running : about1.status = .running := rfl
set_option maxRecDepth 65536 in
theorem w_room : about1.hasRoom e0.platform room_1 = true :=
  launch0.hasRoom_least _ room_1 (by decide +kernel) (by decide +kernel) (by decide +kernel) (by decide +kernel) (by decide +kernel) (by decide +kernel)
theorem allAtoms_all (ts : List Jvm.Cond) (a : Array Jvm.Value) (st : Jvm.State) : (allAtoms ts).before a st = ts.all (fun c => c.before a st) := by
  induction ts with
  | nil => rfl
  | cons c t ih =>
    show (Jvm.Cond.and c (allAtoms t)).before a st = _
    rw [Jvm.Cond.before_and, ih, List.all_cons]
def words1 : List Jvm.Cond := Jvm.Cond.code x code maxLocals ret :: tables_1
/-- a 'code' word, met by the world's own term for the bytes: nothing is compared byte by byte -/
theorem code_word {y : MethodName} {bytes : ByteArray} {mx : Nat} {rt : Option FieldType} {a : Array Value} {s : State} {m : MethodId} {meth : Method} {c : Code} (h1 : s.methodNamed? y = some m) (h2 : s.vm.method? m = some meth) (h3 : meth.code = some c) (h4 : c.code = bytes)
    (h5 : (c.maxLocals == mx && c.exceptionTable.isEmpty && decide (c.maxStack ≤ mostOperands) && decide (meth.sig.returnType = rt) && !meth.locks && decide (parseMethodDescriptor y.desc = some meth.sig)) = true) : (Jvm.Cond.code y bytes mx rt).before a s = true := by
  simp only [Bool.and_eq_true, beq_iff_eq, Bool.not_eq_true', decide_eq_true_eq] at h5
  obtain ⟨⟨⟨⟨⟨g1, g2⟩, g3⟩, g4⟩, g5⟩, g6⟩ := h5
  simp [Cond.before, Cond.holds, Cond.value, h1, h2, h3, h4, g1, g2, g3, g4, g5, g6]
def isCode : Jvm.Cond → Bool
  | .code _ _ _ _ => true
  | _ => false
theorem all_split {L : List Jvm.Cond} {P : Jvm.Cond → Bool} (h1 : L.all (fun c => isCode c || P c) = true) (h2 : ∀ c ∈ L.filter isCode, P c = true) : L.all P = true := by
  refine List.all_eq_true.mpr fun c hc => ?_
  have h := List.all_eq_true.mp h1 c hc
  rcases Bool.eq_false_or_eq_true (isCode c) with hi | hi
  · exact h2 c (List.mem_filter.mpr ⟨hc, hi⟩)
  · simpa [hi] using h
set_option maxRecDepth 65536 in
theorem w_c0 : (Jvm.Cond.code x code maxLocals ret).before args0 about1 = true := code_word (m := ⟨1, 1⟩) (meth := k1m1) (c := k1c1) (by decide +kernel) rfl rfl rfl (by decide +kernel)
set_option maxRecDepth 65536 in
theorem w_c1 : (Jvm.Cond.code ({ cls := "com/example/causeway_health/causewayhealth/convert/DelimitersEscapePinLaw", name := "pick", desc := "(ICCCCCC)C" } : Jvm.MethodName) method_3_code (7 : Nat) (Option.some Jvm.ClassFile.FieldType.char)).before args0 about1 = true := code_word (m := ⟨1, 2⟩) (meth := k1m2) (c := k1c2) (by decide +kernel) rfl rfl rfl (by decide +kernel)
set_option maxRecDepth 65536 in
theorem w_c2 : (Jvm.Cond.code ({ cls := "java/lang/String", name := "<init>", desc := "([C)V" } : Jvm.MethodName) jdk_42_method_3_code (2 : Nat) (Option.none : Option Jvm.ClassFile.FieldType)).before args0 about1 = true := code_word (m := ⟨7, 1⟩) (meth := k7m1) (c := k7c1) (by decide +kernel) rfl rfl rfl (by decide +kernel)
set_option maxRecDepth 65536 in
theorem w_c3 : (Jvm.Cond.code ({ cls := "java/lang/String", name := "<init>", desc := "([CIILjava/lang/Void;)V" } : Jvm.MethodName) jdk_42_method_149_code (6 : Nat) (Option.none : Option Jvm.ClassFile.FieldType)).before args0 about1 = true := code_word (m := ⟨7, 6⟩) (meth := k7m6) (c := k7c6) (by decide +kernel) rfl rfl rfl (by decide +kernel)
set_option maxRecDepth 65536 in
theorem w_c4 : (Jvm.Cond.code ({ cls := "java/lang/Object", name := "<init>", desc := "()V" } : Jvm.MethodName) object_method_1_code (1 : Nat) (Option.none : Option Jvm.ClassFile.FieldType)).before args0 about1 = true := code_word (m := ⟨0, 0⟩) (meth := k0m0) (c := k0c0) (by decide +kernel) rfl rfl rfl (by decide +kernel)
set_option maxRecDepth 65536 in
theorem w_c5 : (Jvm.Cond.code ({ cls := "com/example/causeway_health/causewayhealth/convert/Delimiters", name := "<init>", desc := "(CCCCC)V" } : Jvm.MethodName) prog_18_method_1_code (6 : Nat) (Option.none : Option Jvm.ClassFile.FieldType)).before args0 about1 = true := code_word (m := ⟨9, 0⟩) (meth := k9m0) (c := k9c0) (by decide +kernel) rfl rfl rfl (by decide +kernel)
set_option maxRecDepth 65536 in
theorem w_c6 : (Jvm.Cond.code ({ cls := "java/lang/Record", name := "<init>", desc := "()V" } : Jvm.MethodName) jdk_30_method_1_code (1 : Nat) (Option.none : Option Jvm.ClassFile.FieldType)).before args0 about1 = true := code_word (m := ⟨8, 0⟩) (meth := k8m0) (c := k8c0) (by decide +kernel) rfl rfl rfl (by decide +kernel)
set_option maxRecDepth 65536 in
theorem w_c7 : (Jvm.Cond.code ({ cls := "com/example/causeway_health/causewayhealth/convert/Delimiters", name := "escape", desc := "(Ljava/lang/String;)Ljava/lang/String;" } : Jvm.MethodName) prog_18_method_4_code (8 : Nat) (Option.some (Jvm.ClassFile.FieldType.object "java/lang/String"))).before args0 about1 = true := code_word (m := ⟨9, 1⟩) (meth := k9m1) (c := k9c1) (by decide +kernel) rfl rfl rfl (by decide +kernel)
set_option maxRecDepth 65536 in
theorem w_c8 : (Jvm.Cond.code ({ cls := "java/lang/String", name := "length", desc := "()I" } : Jvm.MethodName) jdk_42_method_54_code (1 : Nat) (Option.some Jvm.ClassFile.FieldType.int)).before args0 about1 = true := code_word (m := ⟨7, 3⟩) (meth := k7m3) (c := k7c3) (by decide +kernel) rfl rfl rfl (by decide +kernel)
set_option maxRecDepth 65536 in
theorem w_c9 : (Jvm.Cond.code ({ cls := "java/lang/String", name := "coder", desc := "()B" } : Jvm.MethodName) jdk_42_method_152_code (1 : Nat) (Option.some Jvm.ClassFile.FieldType.byte)).before args0 about1 = true := code_word (m := ⟨7, 8⟩) (meth := k7m8) (c := k7c8) (by decide +kernel) rfl rfl rfl (by decide +kernel)
set_option maxRecDepth 65536 in
theorem w_c10 : (Jvm.Cond.code ({ cls := "java/lang/StringBuilder", name := "<init>", desc := "(I)V" } : Jvm.MethodName) jdk_67_method_2_code (2 : Nat) (Option.none : Option Jvm.ClassFile.FieldType)).before args0 about1 = true := code_word (m := ⟨12, 1⟩) (meth := k12m1) (c := k12c1) (by decide +kernel) rfl rfl rfl (by decide +kernel)
set_option maxRecDepth 65536 in
theorem w_c11 : (Jvm.Cond.code ({ cls := "java/lang/AbstractStringBuilder", name := "<init>", desc := "(I)V" } : Jvm.MethodName) jdk_68_method_2_code (2 : Nat) (Option.none : Option Jvm.ClassFile.FieldType)).before args0 about1 = true := code_word (m := ⟨11, 1⟩) (meth := k11m1) (c := k11c1) (by decide +kernel) rfl rfl rfl (by decide +kernel)
set_option maxRecDepth 65536 in
theorem w_c12 : (Jvm.Cond.code ({ cls := "java/lang/String", name := "toCharArray", desc := "()[C" } : Jvm.MethodName) jdk_42_method_129_code (1 : Nat) (Option.some (Jvm.ClassFile.FieldType.array Jvm.ClassFile.FieldType.char))).before args0 about1 = true := code_word (m := ⟨7, 5⟩) (meth := k7m5) (c := k7c5) (by decide +kernel) rfl rfl rfl (by decide +kernel)
set_option maxRecDepth 65536 in
theorem w_c13 : (Jvm.Cond.code ({ cls := "java/lang/String", name := "isLatin1", desc := "()Z" } : Jvm.MethodName) jdk_42_method_154_code (1 : Nat) (Option.some Jvm.ClassFile.FieldType.boolean)).before args0 about1 = true := code_word (m := ⟨7, 9⟩) (meth := k7m9) (c := k7c9) (by decide +kernel) rfl rfl rfl (by decide +kernel)
set_option maxRecDepth 65536 in
theorem w_c14 : (Jvm.Cond.code ({ cls := "java/lang/StringLatin1", name := "toChars", desc := "([B)[C" } : Jvm.MethodName) jdk_43_method_9_code (2 : Nat) (Option.some (Jvm.ClassFile.FieldType.array Jvm.ClassFile.FieldType.char))).before args0 about1 = true := code_word (m := ⟨13, 3⟩) (meth := k13m3) (c := k13c3) (by decide +kernel) rfl rfl rfl (by decide +kernel)
set_option maxRecDepth 65536 in
theorem w_c15 : (Jvm.Cond.code ({ cls := "java/lang/StringLatin1", name := "inflate", desc := "([BI[CII)V" } : Jvm.MethodName) jdk_43_method_49_code (6 : Nat) (Option.none : Option Jvm.ClassFile.FieldType)).before args0 about1 = true := code_word (m := ⟨13, 4⟩) (meth := k13m4) (c := k13c4) (by decide +kernel) rfl rfl rfl (by decide +kernel)
set_option maxRecDepth 65536 in
theorem w_c16 : (Jvm.Cond.code ({ cls := "java/lang/StringBuilder", name := "toString", desc := "()Ljava/lang/String;" } : Jvm.MethodName) jdk_67_method_42_code (1 : Nat) (Option.some (Jvm.ClassFile.FieldType.object "java/lang/String"))).before args0 about1 = true := code_word (m := ⟨12, 3⟩) (meth := k12m3) (c := k12c3) (by decide +kernel) rfl rfl rfl (by decide +kernel)
set_option maxRecDepth 65536 in
theorem w_c17 : (Jvm.Cond.code ({ cls := "java/lang/String", name := "<init>", desc := "(Ljava/lang/StringBuilder;)V" } : Jvm.MethodName) jdk_42_method_53_code (2 : Nat) (Option.none : Option Jvm.ClassFile.FieldType)).before args0 about1 = true := code_word (m := ⟨7, 2⟩) (meth := k7m2) (c := k7c2) (by decide +kernel) rfl rfl rfl (by decide +kernel)
set_option maxRecDepth 65536 in
theorem w_c18 : (Jvm.Cond.code ({ cls := "java/lang/String", name := "<init>", desc := "(Ljava/lang/AbstractStringBuilder;Ljava/lang/Void;)V" } : Jvm.MethodName) jdk_42_method_150_code (5 : Nat) (Option.none : Option Jvm.ClassFile.FieldType)).before args0 about1 = true := code_word (m := ⟨7, 7⟩) (meth := k7m7) (c := k7c7) (by decide +kernel) rfl rfl rfl (by decide +kernel)
set_option maxRecDepth 65536 in
theorem w_c19 : (Jvm.Cond.code ({ cls := "java/lang/AbstractStringBuilder", name := "getValue", desc := "()[B" } : Jvm.MethodName) jdk_68_method_64_code (1 : Nat) (Option.some (Jvm.ClassFile.FieldType.array Jvm.ClassFile.FieldType.byte))).before args0 about1 = true := code_word (m := ⟨11, 7⟩) (meth := k11m7) (c := k11c7) (by decide +kernel) rfl rfl rfl (by decide +kernel)
set_option maxRecDepth 65536 in
theorem w_c20 : (Jvm.Cond.code ({ cls := "java/lang/StringBuilder", name := "length", desc := "()I" } : Jvm.MethodName) jdk_67_method_93_code (1 : Nat) (Option.some Jvm.ClassFile.FieldType.int)).before args0 about1 = true := code_word (m := ⟨12, 4⟩) (meth := k12m4) (c := k12c4) (by decide +kernel) rfl rfl rfl (by decide +kernel)
set_option maxRecDepth 65536 in
theorem w_c21 : (Jvm.Cond.code ({ cls := "java/lang/AbstractStringBuilder", name := "length", desc := "()I" } : Jvm.MethodName) jdk_68_method_6_code (1 : Nat) (Option.some Jvm.ClassFile.FieldType.int)).before args0 about1 = true := code_word (m := ⟨11, 2⟩) (meth := k11m2) (c := k11c2) (by decide +kernel) rfl rfl rfl (by decide +kernel)
set_option maxRecDepth 65536 in
theorem w_c22 : (Jvm.Cond.code ({ cls := "java/lang/AbstractStringBuilder", name := "isLatin1", desc := "()Z" } : Jvm.MethodName) jdk_68_method_68_code (1 : Nat) (Option.some Jvm.ClassFile.FieldType.boolean)).before args0 about1 = true := code_word (m := ⟨11, 8⟩) (meth := k11m8) (c := k11c8) (by decide +kernel) rfl rfl rfl (by decide +kernel)
set_option maxRecDepth 65536 in
theorem w_c23 : (Jvm.Cond.code ({ cls := "java/util/Arrays", name := "copyOfRange", desc := "([BII)[B" } : Jvm.MethodName) jdk_65_method_132_code (3 : Nat) (Option.some (Jvm.ClassFile.FieldType.array Jvm.ClassFile.FieldType.byte))).before args0 about1 = true := code_word (m := ⟨14, 3⟩) (meth := k14m3) (c := k14c3) (by decide +kernel) rfl rfl rfl (by decide +kernel)
set_option maxRecDepth 65536 in
theorem w_c24 : (Jvm.Cond.code ({ cls := "com/example/causeway_health/causewayhealth/convert/DelimitersEscapePinLaw", name := "same", desc := "(Ljava/lang/String;[CII)Z" } : Jvm.MethodName) method_6_code (4 : Nat) (Option.some Jvm.ClassFile.FieldType.boolean)).before args0 about1 = true := code_word (m := ⟨1, 5⟩) (meth := k1m5) (c := k1c5) (by decide +kernel) rfl rfl rfl (by decide +kernel)
set_option maxRecDepth 65536 in
theorem w_c25 : (Jvm.Cond.code ({ cls := "java/lang/StringUTF16", name := "compress", desc := "([CII)[B" } : Jvm.MethodName) jdk_52_method_16_code (6 : Nat) (Option.some (Jvm.ClassFile.FieldType.array Jvm.ClassFile.FieldType.byte))).before args0 about1 = true := code_word (m := ⟨16, 9⟩) (meth := k16m9) (c := k16c9) (by decide +kernel) rfl rfl rfl (by decide +kernel)
set_option maxRecDepth 65536 in
theorem w_c26 : (Jvm.Cond.code ({ cls := "java/lang/StringUTF16", name := "compress", desc := "([CI[BII)I" } : Jvm.MethodName) jdk_52_method_21_code (7 : Nat) (Option.some Jvm.ClassFile.FieldType.int)).before args0 about1 = true := code_word (m := ⟨16, 10⟩) (meth := k16m10) (c := k16c10) (by decide +kernel) rfl rfl rfl (by decide +kernel)
set_option maxRecDepth 65536 in
theorem w_c27 : (Jvm.Cond.code ({ cls := "java/lang/StringUTF16", name := "coderFromArrayLen", desc := "([BI)B" } : Jvm.MethodName) jdk_52_method_15_code (2 : Nat) (Option.some Jvm.ClassFile.FieldType.byte)).before args0 about1 = true := code_word (m := ⟨16, 8⟩) (meth := k16m8) (c := k16c8) (by decide +kernel) rfl rfl rfl (by decide +kernel)
set_option maxRecDepth 65536 in
theorem w_c28 : (Jvm.Cond.code ({ cls := "com/example/causeway_health/causewayhealth/convert/DelimitersEscapePinLaw", name := "letter", desc := "(CCCCCC)C" } : Jvm.MethodName) method_4_code (6 : Nat) (Option.some Jvm.ClassFile.FieldType.char)).before args0 about1 = true := code_word (m := ⟨1, 3⟩) (meth := k1m3) (c := k1c3) (by decide +kernel) rfl rfl rfl (by decide +kernel)
set_option maxRecDepth 65536 in
theorem w_c29 : (Jvm.Cond.code ({ cls := "com/example/causeway_health/causewayhealth/convert/DelimitersEscapePinLaw", name := "put", desc := "([CICCC)I" } : Jvm.MethodName) method_5_code (5 : Nat) (Option.some Jvm.ClassFile.FieldType.int)).before args0 about1 = true := code_word (m := ⟨1, 4⟩) (meth := k1m4) (c := k1c4) (by decide +kernel) rfl rfl rfl (by decide +kernel)
set_option maxRecDepth 65536 in
theorem w_c30 : (Jvm.Cond.code ({ cls := "com/example/causeway_health/causewayhealth/convert/Delimiters", name := "letterFor", desc := "(C)C" } : Jvm.MethodName) prog_18_method_5_code (6 : Nat) (Option.some Jvm.ClassFile.FieldType.char)).before args0 about1 = true := code_word (m := ⟨9, 2⟩) (meth := k9m2) (c := k9c2) (by decide +kernel) rfl rfl rfl (by decide +kernel)
set_option maxRecDepth 65536 in
theorem w_c31 : (Jvm.Cond.code ({ cls := "com/example/causeway_health/causewayhealth/convert/Delimiters", name := "decode", desc := "(C)C" } : Jvm.MethodName) prog_18_method_6_code (2 : Nat) (Option.some Jvm.ClassFile.FieldType.char)).before args0 about1 = true := code_word (m := ⟨9, 3⟩) (meth := k9m3) (c := k9c3) (by decide +kernel) rfl rfl rfl (by decide +kernel)
set_option maxRecDepth 65536 in
theorem w_c32 : (Jvm.Cond.code ({ cls := "java/lang/StringBuilder", name := "append", desc := "(C)Ljava/lang/StringBuilder;" } : Jvm.MethodName) jdk_67_method_14_code (2 : Nat) (Option.some (Jvm.ClassFile.FieldType.object "java/lang/StringBuilder"))).before args0 about1 = true := code_word (m := ⟨12, 2⟩) (meth := k12m2) (c := k12c2) (by decide +kernel) rfl rfl rfl (by decide +kernel)
set_option maxRecDepth 65536 in
theorem w_c33 : (Jvm.Cond.code ({ cls := "java/lang/AbstractStringBuilder", name := "append", desc := "(C)Ljava/lang/AbstractStringBuilder;" } : Jvm.MethodName) jdk_68_method_31_code (2 : Nat) (Option.some (Jvm.ClassFile.FieldType.object "java/lang/AbstractStringBuilder"))).before args0 about1 = true := code_word (m := ⟨11, 6⟩) (meth := k11m6) (c := k11c6) (by decide +kernel) rfl rfl rfl (by decide +kernel)
set_option maxRecDepth 65536 in
theorem w_c34 : (Jvm.Cond.code ({ cls := "java/lang/AbstractStringBuilder", name := "ensureCapacityInternal", desc := "(I)V" } : Jvm.MethodName) jdk_68_method_9_code (3 : Nat) (Option.none : Option Jvm.ClassFile.FieldType)).before args0 about1 = true := code_word (m := ⟨11, 3⟩) (meth := k11m3) (c := k11c3) (by decide +kernel) rfl rfl rfl (by decide +kernel)
set_option maxRecDepth 65536 in
theorem w_c35 : (Jvm.Cond.code ({ cls := "java/lang/StringLatin1", name := "canEncode", desc := "(C)Z" } : Jvm.MethodName) jdk_43_method_3_code (1 : Nat) (Option.some Jvm.ClassFile.FieldType.boolean)).before args0 about1 = true := code_word (m := ⟨13, 2⟩) (meth := k13m2) (c := k13c2) (by decide +kernel) rfl rfl rfl (by decide +kernel)
set_option maxRecDepth 65536 in
theorem w_c36 : (Jvm.Cond.code ({ cls := "java/lang/AbstractStringBuilder", name := "newCapacity", desc := "(I)I" } : Jvm.MethodName) jdk_68_method_10_code (6 : Nat) (Option.some Jvm.ClassFile.FieldType.int)).before args0 about1 = true := code_word (m := ⟨11, 4⟩) (meth := k11m4) (c := k11c4) (by decide +kernel) rfl rfl rfl (by decide +kernel)
set_option maxRecDepth 65536 in
theorem w_c37 : (Jvm.Cond.code ({ cls := "jdk/internal/util/ArraysSupport", name := "newLength", desc := "(III)I" } : Jvm.MethodName) jdk_48_method_27_code (4 : Nat) (Option.some Jvm.ClassFile.FieldType.int)).before args0 about1 = true := code_word (m := ⟨17, 1⟩) (meth := k17m1) (c := k17c1) (by decide +kernel) rfl rfl rfl (by decide +kernel)
set_option maxRecDepth 65536 in
theorem w_c38 : (Jvm.Cond.code ({ cls := "java/lang/Math", name := "max", desc := "(II)I" } : Jvm.MethodName) jdk_29_method_65_code (2 : Nat) (Option.some Jvm.ClassFile.FieldType.int)).before args0 about1 = true := code_word (m := ⟨18, 1⟩) (meth := k18m1) (c := k18c1) (by decide +kernel) rfl rfl rfl (by decide +kernel)
set_option maxRecDepth 65536 in
theorem w_c39 : (Jvm.Cond.code ({ cls := "java/util/Arrays", name := "copyOf", desc := "([BI)[B" } : Jvm.MethodName) jdk_65_method_121_code (3 : Nat) (Option.some (Jvm.ClassFile.FieldType.array Jvm.ClassFile.FieldType.byte))).before args0 about1 = true := code_word (m := ⟨14, 1⟩) (meth := k14m1) (c := k14c1) (by decide +kernel) rfl rfl rfl (by decide +kernel)
set_option maxRecDepth 65536 in
theorem w_c40 : (Jvm.Cond.code ({ cls := "java/lang/Math", name := "min", desc := "(II)I" } : Jvm.MethodName) jdk_29_method_69_code (2 : Nat) (Option.some Jvm.ClassFile.FieldType.int)).before args0 about1 = true := code_word (m := ⟨18, 2⟩) (meth := k18m2) (c := k18c2) (by decide +kernel) rfl rfl rfl (by decide +kernel)
set_option maxRecDepth 65536 in
theorem w_c41 : (Jvm.Cond.code ({ cls := "java/util/Arrays", name := "copyOfRangeByte", desc := "([BII)[B" } : Jvm.MethodName) jdk_65_method_133_code (5 : Nat) (Option.some (Jvm.ClassFile.FieldType.array Jvm.ClassFile.FieldType.byte))).before args0 about1 = true := code_word (m := ⟨14, 4⟩) (meth := k14m4) (c := k14c4) (by decide +kernel) rfl rfl rfl (by decide +kernel)
set_option maxRecDepth 65536 in
theorem w_c42 : (Jvm.Cond.code ({ cls := "java/util/Arrays", name := "checkLength", desc := "(II)V" } : Jvm.MethodName) jdk_65_method_131_code (2 : Nat) (Option.none : Option Jvm.ClassFile.FieldType)).before args0 about1 = true := code_word (m := ⟨14, 2⟩) (meth := k14m2) (c := k14c2) (by decide +kernel) rfl rfl rfl (by decide +kernel)
set_option maxRecDepth 65536 in
theorem w_c43 : (Jvm.Cond.code ({ cls := "java/lang/String", name := "charAt", desc := "(I)C" } : Jvm.MethodName) jdk_42_method_56_code (2 : Nat) (Option.some Jvm.ClassFile.FieldType.char)).before args0 about1 = true := code_word (m := ⟨7, 4⟩) (meth := k7m4) (c := k7c4) (by decide +kernel) rfl rfl rfl (by decide +kernel)
set_option maxRecDepth 65536 in
theorem w_c44 : (Jvm.Cond.code ({ cls := "java/lang/StringLatin1", name := "charAt", desc := "([BI)C" } : Jvm.MethodName) jdk_43_method_2_code (2 : Nat) (Option.some Jvm.ClassFile.FieldType.char)).before args0 about1 = true := code_word (m := ⟨13, 1⟩) (meth := k13m1) (c := k13c1) (by decide +kernel) rfl rfl rfl (by decide +kernel)
set_option maxRecDepth 65536 in
theorem w_c45 : (Jvm.Cond.code ({ cls := "java/lang/String", name := "checkIndex", desc := "(II)V" } : Jvm.MethodName) jdk_42_method_155_code (2 : Nat) (Option.none : Option Jvm.ClassFile.FieldType)).before args0 about1 = true := code_word (m := ⟨7, 10⟩) (meth := k7m10) (c := k7c10) (by decide +kernel) rfl rfl rfl (by decide +kernel)
set_option maxRecDepth 65536 in
theorem w_c46 : (Jvm.Cond.code ({ cls := "jdk/internal/util/Preconditions", name := "checkIndex", desc := "(IILjava/util/function/BiFunction;)I" } : Jvm.MethodName) jdk_41_method_11_code (3 : Nat) (Option.some Jvm.ClassFile.FieldType.int)).before args0 about1 = true := code_word (m := ⟨20, 1⟩) (meth := k20m1) (c := k20c1) (by decide +kernel) rfl rfl rfl (by decide +kernel)
set_option maxRecDepth 65536 in
theorem w_c47 : (Jvm.Cond.code ({ cls := "java/lang/StringUTF16", name := "toBytes", desc := "([CII)[B" } : Jvm.MethodName) jdk_52_method_14_code (5 : Nat) (Option.some (Jvm.ClassFile.FieldType.array Jvm.ClassFile.FieldType.byte))).before args0 about1 = true := code_word (m := ⟨16, 7⟩) (meth := k16m7) (c := k16c7) (by decide +kernel) rfl rfl rfl (by decide +kernel)
set_option maxRecDepth 65536 in
theorem w_c48 : (Jvm.Cond.code ({ cls := "java/lang/StringUTF16", name := "newBytesFor", desc := "(I)[B" } : Jvm.MethodName) jdk_52_method_2_code (1 : Nat) (Option.some (Jvm.ClassFile.FieldType.array Jvm.ClassFile.FieldType.byte))).before args0 about1 = true := code_word (m := ⟨16, 1⟩) (meth := k16m1) (c := k16c1) (by decide +kernel) rfl rfl rfl (by decide +kernel)
set_option maxRecDepth 65536 in
theorem w_c49 : (Jvm.Cond.code ({ cls := "java/lang/StringUTF16", name := "newBytesLength", desc := "(I)I" } : Jvm.MethodName) jdk_52_method_3_code (1 : Nat) (Option.some Jvm.ClassFile.FieldType.int)).before args0 about1 = true := code_word (m := ⟨16, 2⟩) (meth := k16m2) (c := k16c2) (by decide +kernel) rfl rfl rfl (by decide +kernel)
set_option maxRecDepth 65536 in
theorem w_c50 : (Jvm.Cond.code ({ cls := "java/lang/StringUTF16", name := "putChar", desc := "([BII)V" } : Jvm.MethodName) jdk_52_method_4_code (3 : Nat) (Option.none : Option Jvm.ClassFile.FieldType)).before args0 about1 = true := code_word (m := ⟨16, 3⟩) (meth := k16m3) (c := k16c3) (by decide +kernel) rfl rfl rfl (by decide +kernel)
set_option maxRecDepth 65536 in
theorem w_c51 : (Jvm.Cond.code ({ cls := "java/lang/StringUTF16", name := "getChar", desc := "([BI)C" } : Jvm.MethodName) jdk_52_method_5_code (2 : Nat) (Option.some Jvm.ClassFile.FieldType.char)).before args0 about1 = true := code_word (m := ⟨16, 4⟩) (meth := k16m4) (c := k16c4) (by decide +kernel) rfl rfl rfl (by decide +kernel)
set_option maxRecDepth 65536 in
theorem w_c52 : (Jvm.Cond.code ({ cls := "java/lang/StringUTF16", name := "toChars", desc := "([B)[C" } : Jvm.MethodName) jdk_52_method_13_code (2 : Nat) (Option.some (Jvm.ClassFile.FieldType.array Jvm.ClassFile.FieldType.char))).before args0 about1 = true := code_word (m := ⟨16, 6⟩) (meth := k16m6) (c := k16c6) (by decide +kernel) rfl rfl rfl (by decide +kernel)
set_option maxRecDepth 65536 in
theorem w_c53 : (Jvm.Cond.code ({ cls := "java/lang/StringUTF16", name := "getChars", desc := "([BII[CI)V" } : Jvm.MethodName) jdk_52_method_26_code (6 : Nat) (Option.none : Option Jvm.ClassFile.FieldType)).before args0 about1 = true := code_word (m := ⟨16, 11⟩) (meth := k16m11) (c := k16c11) (by decide +kernel) rfl rfl rfl (by decide +kernel)
set_option maxRecDepth 65536 in
theorem w_c54 : (Jvm.Cond.code ({ cls := "java/lang/StringUTF16", name := "checkBoundsOffCount", desc := "(II[B)V" } : Jvm.MethodName) jdk_52_method_94_code (3 : Nat) (Option.none : Option Jvm.ClassFile.FieldType)).before args0 about1 = true := code_word (m := ⟨16, 16⟩) (meth := k16m16) (c := k16c16) (by decide +kernel) rfl rfl rfl (by decide +kernel)
set_option maxRecDepth 65536 in
theorem w_c55 : (Jvm.Cond.code ({ cls := "java/lang/StringUTF16", name := "length", desc := "([B)I" } : Jvm.MethodName) jdk_52_method_6_code (1 : Nat) (Option.some Jvm.ClassFile.FieldType.int)).before args0 about1 = true := code_word (m := ⟨16, 5⟩) (meth := k16m5) (c := k16c5) (by decide +kernel) rfl rfl rfl (by decide +kernel)
set_option maxRecDepth 65536 in
theorem w_c56 : (Jvm.Cond.code ({ cls := "java/lang/String", name := "checkBoundsOffCount", desc := "(III)I" } : Jvm.MethodName) jdk_42_method_157_code (3 : Nat) (Option.some Jvm.ClassFile.FieldType.int)).before args0 about1 = true := code_word (m := ⟨7, 11⟩) (meth := k7m11) (c := k7c11) (by decide +kernel) rfl rfl rfl (by decide +kernel)
set_option maxRecDepth 65536 in
theorem w_c57 : (Jvm.Cond.code ({ cls := "jdk/internal/util/Preconditions", name := "checkFromIndexSize", desc := "(IIILjava/util/function/BiFunction;)I" } : Jvm.MethodName) jdk_41_method_13_code (4 : Nat) (Option.some Jvm.ClassFile.FieldType.int)).before args0 about1 = true := code_word (m := ⟨20, 2⟩) (meth := k20m2) (c := k20c2) (by decide +kernel) rfl rfl rfl (by decide +kernel)
set_option maxRecDepth 65536 in
theorem w_c58 : (Jvm.Cond.code ({ cls := "java/lang/AbstractStringBuilder", name := "inflate", desc := "()V" } : Jvm.MethodName) jdk_68_method_11_code (2 : Nat) (Option.none : Option Jvm.ClassFile.FieldType)).before args0 about1 = true := code_word (m := ⟨11, 5⟩) (meth := k11m5) (c := k11c5) (by decide +kernel) rfl rfl rfl (by decide +kernel)
set_option maxRecDepth 65536 in
theorem w_c59 : (Jvm.Cond.code ({ cls := "java/lang/StringLatin1", name := "inflate", desc := "([BI[BII)V" } : Jvm.MethodName) jdk_43_method_50_code (5 : Nat) (Option.none : Option Jvm.ClassFile.FieldType)).before args0 about1 = true := code_word (m := ⟨13, 5⟩) (meth := k13m5) (c := k13c5) (by decide +kernel) rfl rfl rfl (by decide +kernel)
set_option maxRecDepth 65536 in
theorem w_c60 : (Jvm.Cond.code ({ cls := "java/lang/StringUTF16", name := "inflate", desc := "([BI[BII)V" } : Jvm.MethodName) jdk_52_method_86_code (6 : Nat) (Option.none : Option Jvm.ClassFile.FieldType)).before args0 about1 = true := code_word (m := ⟨16, 14⟩) (meth := k16m14) (c := k16c14) (by decide +kernel) rfl rfl rfl (by decide +kernel)
set_option maxRecDepth 65536 in
theorem w_c61 : (Jvm.Cond.code ({ cls := "java/lang/StringUTF16", name := "putCharSB", desc := "([BII)V" } : Jvm.MethodName) jdk_52_method_71_code (3 : Nat) (Option.none : Option Jvm.ClassFile.FieldType)).before args0 about1 = true := code_word (m := ⟨16, 12⟩) (meth := k16m12) (c := k16c12) (by decide +kernel) rfl rfl rfl (by decide +kernel)
set_option maxRecDepth 65536 in
theorem w_c62 : (Jvm.Cond.code ({ cls := "java/lang/StringUTF16", name := "checkIndex", desc := "(I[B)V" } : Jvm.MethodName) jdk_52_method_91_code (2 : Nat) (Option.none : Option Jvm.ClassFile.FieldType)).before args0 about1 = true := code_word (m := ⟨16, 15⟩) (meth := k16m15) (c := k16c15) (by decide +kernel) rfl rfl rfl (by decide +kernel)
set_option maxRecDepth 65536 in
theorem w_c63 : (Jvm.Cond.code ({ cls := "java/lang/StringUTF16", name := "charAt", desc := "([BI)C" } : Jvm.MethodName) jdk_52_method_83_code (2 : Nat) (Option.some Jvm.ClassFile.FieldType.char)).before args0 about1 = true := code_word (m := ⟨16, 13⟩) (meth := k16m13) (c := k16c13) (by decide +kernel) rfl rfl rfl (by decide +kernel)
def codes1 : List Jvm.Cond := [Jvm.Cond.code x code maxLocals ret, Jvm.Cond.code ({ cls := "com/example/causeway_health/causewayhealth/convert/DelimitersEscapePinLaw", name := "pick", desc := "(ICCCCCC)C" } : Jvm.MethodName) method_3_code (7 : Nat) (Option.some Jvm.ClassFile.FieldType.char), Jvm.Cond.code ({ cls := "java/lang/String", name := "<init>", desc := "([C)V" } : Jvm.MethodName) jdk_42_method_3_code (2 : Nat) (Option.none : Option Jvm.ClassFile.FieldType), Jvm.Cond.code ({ cls := "java/lang/String", name := "<init>", desc := "([CIILjava/lang/Void;)V" } : Jvm.MethodName) jdk_42_method_149_code (6 : Nat) (Option.none : Option Jvm.ClassFile.FieldType), Jvm.Cond.code ({ cls := "java/lang/Object", name := "<init>", desc := "()V" } : Jvm.MethodName) object_method_1_code (1 : Nat) (Option.none : Option Jvm.ClassFile.FieldType), Jvm.Cond.code ({ cls := "com/example/causeway_health/causewayhealth/convert/Delimiters", name := "<init>", desc := "(CCCCC)V" } : Jvm.MethodName) prog_18_method_1_code (6 : Nat) (Option.none : Option Jvm.ClassFile.FieldType), Jvm.Cond.code ({ cls := "java/lang/Record", name := "<init>", desc := "()V" } : Jvm.MethodName) jdk_30_method_1_code (1 : Nat) (Option.none : Option Jvm.ClassFile.FieldType), Jvm.Cond.code ({ cls := "com/example/causeway_health/causewayhealth/convert/Delimiters", name := "escape", desc := "(Ljava/lang/String;)Ljava/lang/String;" } : Jvm.MethodName) prog_18_method_4_code (8 : Nat) (Option.some (Jvm.ClassFile.FieldType.object "java/lang/String")), Jvm.Cond.code ({ cls := "java/lang/String", name := "length", desc := "()I" } : Jvm.MethodName) jdk_42_method_54_code (1 : Nat) (Option.some Jvm.ClassFile.FieldType.int), Jvm.Cond.code ({ cls := "java/lang/String", name := "coder", desc := "()B" } : Jvm.MethodName) jdk_42_method_152_code (1 : Nat) (Option.some Jvm.ClassFile.FieldType.byte), Jvm.Cond.code ({ cls := "java/lang/StringBuilder", name := "<init>", desc := "(I)V" } : Jvm.MethodName) jdk_67_method_2_code (2 : Nat) (Option.none : Option Jvm.ClassFile.FieldType), Jvm.Cond.code ({ cls := "java/lang/AbstractStringBuilder", name := "<init>", desc := "(I)V" } : Jvm.MethodName) jdk_68_method_2_code (2 : Nat) (Option.none : Option Jvm.ClassFile.FieldType), Jvm.Cond.code ({ cls := "java/lang/String", name := "toCharArray", desc := "()[C" } : Jvm.MethodName) jdk_42_method_129_code (1 : Nat) (Option.some (Jvm.ClassFile.FieldType.array Jvm.ClassFile.FieldType.char)), Jvm.Cond.code ({ cls := "java/lang/String", name := "isLatin1", desc := "()Z" } : Jvm.MethodName) jdk_42_method_154_code (1 : Nat) (Option.some Jvm.ClassFile.FieldType.boolean), Jvm.Cond.code ({ cls := "java/lang/StringLatin1", name := "toChars", desc := "([B)[C" } : Jvm.MethodName) jdk_43_method_9_code (2 : Nat) (Option.some (Jvm.ClassFile.FieldType.array Jvm.ClassFile.FieldType.char)), Jvm.Cond.code ({ cls := "java/lang/StringLatin1", name := "inflate", desc := "([BI[CII)V" } : Jvm.MethodName) jdk_43_method_49_code (6 : Nat) (Option.none : Option Jvm.ClassFile.FieldType), Jvm.Cond.code ({ cls := "java/lang/StringBuilder", name := "toString", desc := "()Ljava/lang/String;" } : Jvm.MethodName) jdk_67_method_42_code (1 : Nat) (Option.some (Jvm.ClassFile.FieldType.object "java/lang/String")), Jvm.Cond.code ({ cls := "java/lang/String", name := "<init>", desc := "(Ljava/lang/StringBuilder;)V" } : Jvm.MethodName) jdk_42_method_53_code (2 : Nat) (Option.none : Option Jvm.ClassFile.FieldType), Jvm.Cond.code ({ cls := "java/lang/String", name := "<init>", desc := "(Ljava/lang/AbstractStringBuilder;Ljava/lang/Void;)V" } : Jvm.MethodName) jdk_42_method_150_code (5 : Nat) (Option.none : Option Jvm.ClassFile.FieldType), Jvm.Cond.code ({ cls := "java/lang/AbstractStringBuilder", name := "getValue", desc := "()[B" } : Jvm.MethodName) jdk_68_method_64_code (1 : Nat) (Option.some (Jvm.ClassFile.FieldType.array Jvm.ClassFile.FieldType.byte)), Jvm.Cond.code ({ cls := "java/lang/StringBuilder", name := "length", desc := "()I" } : Jvm.MethodName) jdk_67_method_93_code (1 : Nat) (Option.some Jvm.ClassFile.FieldType.int), Jvm.Cond.code ({ cls := "java/lang/AbstractStringBuilder", name := "length", desc := "()I" } : Jvm.MethodName) jdk_68_method_6_code (1 : Nat) (Option.some Jvm.ClassFile.FieldType.int), Jvm.Cond.code ({ cls := "java/lang/AbstractStringBuilder", name := "isLatin1", desc := "()Z" } : Jvm.MethodName) jdk_68_method_68_code (1 : Nat) (Option.some Jvm.ClassFile.FieldType.boolean), Jvm.Cond.code ({ cls := "java/util/Arrays", name := "copyOfRange", desc := "([BII)[B" } : Jvm.MethodName) jdk_65_method_132_code (3 : Nat) (Option.some (Jvm.ClassFile.FieldType.array Jvm.ClassFile.FieldType.byte)), Jvm.Cond.code ({ cls := "com/example/causeway_health/causewayhealth/convert/DelimitersEscapePinLaw", name := "same", desc := "(Ljava/lang/String;[CII)Z" } : Jvm.MethodName) method_6_code (4 : Nat) (Option.some Jvm.ClassFile.FieldType.boolean), Jvm.Cond.code ({ cls := "java/lang/StringUTF16", name := "compress", desc := "([CII)[B" } : Jvm.MethodName) jdk_52_method_16_code (6 : Nat) (Option.some (Jvm.ClassFile.FieldType.array Jvm.ClassFile.FieldType.byte)), Jvm.Cond.code ({ cls := "java/lang/StringUTF16", name := "compress", desc := "([CI[BII)I" } : Jvm.MethodName) jdk_52_method_21_code (7 : Nat) (Option.some Jvm.ClassFile.FieldType.int), Jvm.Cond.code ({ cls := "java/lang/StringUTF16", name := "coderFromArrayLen", desc := "([BI)B" } : Jvm.MethodName) jdk_52_method_15_code (2 : Nat) (Option.some Jvm.ClassFile.FieldType.byte), Jvm.Cond.code ({ cls := "com/example/causeway_health/causewayhealth/convert/DelimitersEscapePinLaw", name := "letter", desc := "(CCCCCC)C" } : Jvm.MethodName) method_4_code (6 : Nat) (Option.some Jvm.ClassFile.FieldType.char), Jvm.Cond.code ({ cls := "com/example/causeway_health/causewayhealth/convert/DelimitersEscapePinLaw", name := "put", desc := "([CICCC)I" } : Jvm.MethodName) method_5_code (5 : Nat) (Option.some Jvm.ClassFile.FieldType.int), Jvm.Cond.code ({ cls := "com/example/causeway_health/causewayhealth/convert/Delimiters", name := "letterFor", desc := "(C)C" } : Jvm.MethodName) prog_18_method_5_code (6 : Nat) (Option.some Jvm.ClassFile.FieldType.char), Jvm.Cond.code ({ cls := "com/example/causeway_health/causewayhealth/convert/Delimiters", name := "decode", desc := "(C)C" } : Jvm.MethodName) prog_18_method_6_code (2 : Nat) (Option.some Jvm.ClassFile.FieldType.char), Jvm.Cond.code ({ cls := "java/lang/StringBuilder", name := "append", desc := "(C)Ljava/lang/StringBuilder;" } : Jvm.MethodName) jdk_67_method_14_code (2 : Nat) (Option.some (Jvm.ClassFile.FieldType.object "java/lang/StringBuilder")), Jvm.Cond.code ({ cls := "java/lang/AbstractStringBuilder", name := "append", desc := "(C)Ljava/lang/AbstractStringBuilder;" } : Jvm.MethodName) jdk_68_method_31_code (2 : Nat) (Option.some (Jvm.ClassFile.FieldType.object "java/lang/AbstractStringBuilder")), Jvm.Cond.code ({ cls := "java/lang/AbstractStringBuilder", name := "ensureCapacityInternal", desc := "(I)V" } : Jvm.MethodName) jdk_68_method_9_code (3 : Nat) (Option.none : Option Jvm.ClassFile.FieldType), Jvm.Cond.code ({ cls := "java/lang/StringLatin1", name := "canEncode", desc := "(C)Z" } : Jvm.MethodName) jdk_43_method_3_code (1 : Nat) (Option.some Jvm.ClassFile.FieldType.boolean), Jvm.Cond.code ({ cls := "java/lang/AbstractStringBuilder", name := "newCapacity", desc := "(I)I" } : Jvm.MethodName) jdk_68_method_10_code (6 : Nat) (Option.some Jvm.ClassFile.FieldType.int), Jvm.Cond.code ({ cls := "jdk/internal/util/ArraysSupport", name := "newLength", desc := "(III)I" } : Jvm.MethodName) jdk_48_method_27_code (4 : Nat) (Option.some Jvm.ClassFile.FieldType.int), Jvm.Cond.code ({ cls := "java/lang/Math", name := "max", desc := "(II)I" } : Jvm.MethodName) jdk_29_method_65_code (2 : Nat) (Option.some Jvm.ClassFile.FieldType.int), Jvm.Cond.code ({ cls := "java/util/Arrays", name := "copyOf", desc := "([BI)[B" } : Jvm.MethodName) jdk_65_method_121_code (3 : Nat) (Option.some (Jvm.ClassFile.FieldType.array Jvm.ClassFile.FieldType.byte)), Jvm.Cond.code ({ cls := "java/lang/Math", name := "min", desc := "(II)I" } : Jvm.MethodName) jdk_29_method_69_code (2 : Nat) (Option.some Jvm.ClassFile.FieldType.int), Jvm.Cond.code ({ cls := "java/util/Arrays", name := "copyOfRangeByte", desc := "([BII)[B" } : Jvm.MethodName) jdk_65_method_133_code (5 : Nat) (Option.some (Jvm.ClassFile.FieldType.array Jvm.ClassFile.FieldType.byte)), Jvm.Cond.code ({ cls := "java/util/Arrays", name := "checkLength", desc := "(II)V" } : Jvm.MethodName) jdk_65_method_131_code (2 : Nat) (Option.none : Option Jvm.ClassFile.FieldType), Jvm.Cond.code ({ cls := "java/lang/String", name := "charAt", desc := "(I)C" } : Jvm.MethodName) jdk_42_method_56_code (2 : Nat) (Option.some Jvm.ClassFile.FieldType.char), Jvm.Cond.code ({ cls := "java/lang/StringLatin1", name := "charAt", desc := "([BI)C" } : Jvm.MethodName) jdk_43_method_2_code (2 : Nat) (Option.some Jvm.ClassFile.FieldType.char), Jvm.Cond.code ({ cls := "java/lang/String", name := "checkIndex", desc := "(II)V" } : Jvm.MethodName) jdk_42_method_155_code (2 : Nat) (Option.none : Option Jvm.ClassFile.FieldType), Jvm.Cond.code ({ cls := "jdk/internal/util/Preconditions", name := "checkIndex", desc := "(IILjava/util/function/BiFunction;)I" } : Jvm.MethodName) jdk_41_method_11_code (3 : Nat) (Option.some Jvm.ClassFile.FieldType.int), Jvm.Cond.code ({ cls := "java/lang/StringUTF16", name := "toBytes", desc := "([CII)[B" } : Jvm.MethodName) jdk_52_method_14_code (5 : Nat) (Option.some (Jvm.ClassFile.FieldType.array Jvm.ClassFile.FieldType.byte)), Jvm.Cond.code ({ cls := "java/lang/StringUTF16", name := "newBytesFor", desc := "(I)[B" } : Jvm.MethodName) jdk_52_method_2_code (1 : Nat) (Option.some (Jvm.ClassFile.FieldType.array Jvm.ClassFile.FieldType.byte)), Jvm.Cond.code ({ cls := "java/lang/StringUTF16", name := "newBytesLength", desc := "(I)I" } : Jvm.MethodName) jdk_52_method_3_code (1 : Nat) (Option.some Jvm.ClassFile.FieldType.int), Jvm.Cond.code ({ cls := "java/lang/StringUTF16", name := "putChar", desc := "([BII)V" } : Jvm.MethodName) jdk_52_method_4_code (3 : Nat) (Option.none : Option Jvm.ClassFile.FieldType), Jvm.Cond.code ({ cls := "java/lang/StringUTF16", name := "getChar", desc := "([BI)C" } : Jvm.MethodName) jdk_52_method_5_code (2 : Nat) (Option.some Jvm.ClassFile.FieldType.char), Jvm.Cond.code ({ cls := "java/lang/StringUTF16", name := "toChars", desc := "([B)[C" } : Jvm.MethodName) jdk_52_method_13_code (2 : Nat) (Option.some (Jvm.ClassFile.FieldType.array Jvm.ClassFile.FieldType.char)), Jvm.Cond.code ({ cls := "java/lang/StringUTF16", name := "getChars", desc := "([BII[CI)V" } : Jvm.MethodName) jdk_52_method_26_code (6 : Nat) (Option.none : Option Jvm.ClassFile.FieldType), Jvm.Cond.code ({ cls := "java/lang/StringUTF16", name := "checkBoundsOffCount", desc := "(II[B)V" } : Jvm.MethodName) jdk_52_method_94_code (3 : Nat) (Option.none : Option Jvm.ClassFile.FieldType), Jvm.Cond.code ({ cls := "java/lang/StringUTF16", name := "length", desc := "([B)I" } : Jvm.MethodName) jdk_52_method_6_code (1 : Nat) (Option.some Jvm.ClassFile.FieldType.int), Jvm.Cond.code ({ cls := "java/lang/String", name := "checkBoundsOffCount", desc := "(III)I" } : Jvm.MethodName) jdk_42_method_157_code (3 : Nat) (Option.some Jvm.ClassFile.FieldType.int), Jvm.Cond.code ({ cls := "jdk/internal/util/Preconditions", name := "checkFromIndexSize", desc := "(IIILjava/util/function/BiFunction;)I" } : Jvm.MethodName) jdk_41_method_13_code (4 : Nat) (Option.some Jvm.ClassFile.FieldType.int), Jvm.Cond.code ({ cls := "java/lang/AbstractStringBuilder", name := "inflate", desc := "()V" } : Jvm.MethodName) jdk_68_method_11_code (2 : Nat) (Option.none : Option Jvm.ClassFile.FieldType), Jvm.Cond.code ({ cls := "java/lang/StringLatin1", name := "inflate", desc := "([BI[BII)V" } : Jvm.MethodName) jdk_43_method_50_code (5 : Nat) (Option.none : Option Jvm.ClassFile.FieldType), Jvm.Cond.code ({ cls := "java/lang/StringUTF16", name := "inflate", desc := "([BI[BII)V" } : Jvm.MethodName) jdk_52_method_86_code (6 : Nat) (Option.none : Option Jvm.ClassFile.FieldType), Jvm.Cond.code ({ cls := "java/lang/StringUTF16", name := "putCharSB", desc := "([BII)V" } : Jvm.MethodName) jdk_52_method_71_code (3 : Nat) (Option.none : Option Jvm.ClassFile.FieldType), Jvm.Cond.code ({ cls := "java/lang/StringUTF16", name := "checkIndex", desc := "(I[B)V" } : Jvm.MethodName) jdk_52_method_91_code (2 : Nat) (Option.none : Option Jvm.ClassFile.FieldType), Jvm.Cond.code ({ cls := "java/lang/StringUTF16", name := "charAt", desc := "([BI)C" } : Jvm.MethodName) jdk_52_method_83_code (2 : Nat) (Option.some Jvm.ClassFile.FieldType.char)]
set_option maxRecDepth 65536 in
theorem codes_eq : words1.filter isCode = codes1 := rfl
theorem w_codes : ∀ c ∈ words1.filter isCode, c.before args0 about1 = true := by
  rw [codes_eq]
  intro c hc
  simp only [codes1, List.mem_cons, List.not_mem_nil, or_false] at hc
  rcases hc with rfl | rfl | rfl | rfl | rfl | rfl | rfl | rfl | rfl | rfl | rfl | rfl | rfl | rfl | rfl | rfl | rfl | rfl | rfl | rfl | rfl | rfl | rfl | rfl | rfl | rfl | rfl | rfl | rfl | rfl | rfl | rfl | rfl | rfl | rfl | rfl | rfl | rfl | rfl | rfl | rfl | rfl | rfl | rfl | rfl | rfl | rfl | rfl | rfl | rfl | rfl | rfl | rfl | rfl | rfl | rfl | rfl | rfl | rfl | rfl | rfl | rfl | rfl | rfl
  · exact w_c0
  · exact w_c1
  · exact w_c2
  · exact w_c3
  · exact w_c4
  · exact w_c5
  · exact w_c6
  · exact w_c7
  · exact w_c8
  · exact w_c9
  · exact w_c10
  · exact w_c11
  · exact w_c12
  · exact w_c13
  · exact w_c14
  · exact w_c15
  · exact w_c16
  · exact w_c17
  · exact w_c18
  · exact w_c19
  · exact w_c20
  · exact w_c21
  · exact w_c22
  · exact w_c23
  · exact w_c24
  · exact w_c25
  · exact w_c26
  · exact w_c27
  · exact w_c28
  · exact w_c29
  · exact w_c30
  · exact w_c31
  · exact w_c32
  · exact w_c33
  · exact w_c34
  · exact w_c35
  · exact w_c36
  · exact w_c37
  · exact w_c38
  · exact w_c39
  · exact w_c40
  · exact w_c41
  · exact w_c42
  · exact w_c43
  · exact w_c44
  · exact w_c45
  · exact w_c46
  · exact w_c47
  · exact w_c48
  · exact w_c49
  · exact w_c50
  · exact w_c51
  · exact w_c52
  · exact w_c53
  · exact w_c54
  · exact w_c55
  · exact w_c56
  · exact w_c57
  · exact w_c58
  · exact w_c59
  · exact w_c60
  · exact w_c61
  · exact w_c62
  · exact w_c63
set_option maxRecDepth 65536 in
theorem w_t1 : (words1.take 24).all (fun c => isCode c || c.before args0 about1) = true := by decide +kernel
set_option maxRecDepth 65536 in
theorem w_t2 : ((words1.drop 24).take 24).all (fun c => isCode c || c.before args0 about1) = true := by decide +kernel
set_option maxRecDepth 65536 in
theorem w_t3 : (((words1.drop 24).drop 24).take 24).all (fun c => isCode c || c.before args0 about1) = true := by decide +kernel
set_option maxRecDepth 65536 in
theorem w_t4 : ((((words1.drop 24).drop 24).drop 24).take 24).all (fun c => isCode c || c.before args0 about1) = true := by decide +kernel
set_option maxRecDepth 65536 in
theorem w_t5 : (((((words1.drop 24).drop 24).drop 24).drop 24).take 24).all (fun c => isCode c || c.before args0 about1) = true := by decide +kernel
set_option maxRecDepth 65536 in
theorem w_t6 : ((((((words1.drop 24).drop 24).drop 24).drop 24).drop 24).take 24).all (fun c => isCode c || c.before args0 about1) = true := by decide +kernel
set_option maxRecDepth 65536 in
theorem w_t7 : (((((((words1.drop 24).drop 24).drop 24).drop 24).drop 24).drop 24).take 24).all (fun c => isCode c || c.before args0 about1) = true := by decide +kernel
set_option maxRecDepth 65536 in
theorem w_t8 : ((((((((words1.drop 24).drop 24).drop 24).drop 24).drop 24).drop 24).drop 24).take 24).all (fun c => isCode c || c.before args0 about1) = true := by decide +kernel
set_option maxRecDepth 65536 in
theorem w_t9 : (((((((((words1.drop 24).drop 24).drop 24).drop 24).drop 24).drop 24).drop 24).drop 24).take 24).all (fun c => isCode c || c.before args0 about1) = true := by decide +kernel
set_option maxRecDepth 65536 in
theorem w_t10 : ((((((((((words1.drop 24).drop 24).drop 24).drop 24).drop 24).drop 24).drop 24).drop 24).drop 24).take 24).all (fun c => isCode c || c.before args0 about1) = true := by decide +kernel
set_option maxRecDepth 65536 in
theorem w_t11 : (((((((((((words1.drop 24).drop 24).drop 24).drop 24).drop 24).drop 24).drop 24).drop 24).drop 24).drop 24).take 24).all (fun c => isCode c || c.before args0 about1) = true := by decide +kernel
set_option maxRecDepth 65536 in
theorem w_t12 : ((((((((((((words1.drop 24).drop 24).drop 24).drop 24).drop 24).drop 24).drop 24).drop 24).drop 24).drop 24).drop 24).take 24).all (fun c => isCode c || c.before args0 about1) = true := by decide +kernel
set_option maxRecDepth 65536 in
theorem w_t13 : ((((((((((((words1.drop 24).drop 24).drop 24).drop 24).drop 24).drop 24).drop 24).drop 24).drop 24).drop 24).drop 24).drop 24).all (fun c => isCode c || c.before args0 about1) = true := by decide +kernel
theorem w_tables : (allAtoms (Jvm.Cond.code x code maxLocals ret :: tables_1)).before args0 about1 = true := by
  rw [allAtoms_all]
  show words1.all (fun c => c.before args0 about1) = true
  refine all_split ?_ w_codes
  rw [← List.take_append_drop 24 words1, List.all_append, w_t1, ← List.take_append_drop 24 (words1.drop 24), List.all_append, w_t2, ← List.take_append_drop 24 ((words1.drop 24).drop 24), List.all_append, w_t3, ← List.take_append_drop 24 (((words1.drop 24).drop 24).drop 24), List.all_append, w_t4, ← List.take_append_drop 24 ((((words1.drop 24).drop 24).drop 24).drop 24), List.all_append, w_t5, ← List.take_append_drop 24 (((((words1.drop 24).drop 24).drop 24).drop 24).drop 24), List.all_append, w_t6, ← List.take_append_drop 24 ((((((words1.drop 24).drop 24).drop 24).drop 24).drop 24).drop 24), List.all_append, w_t7, ← List.take_append_drop 24 (((((((words1.drop 24).drop 24).drop 24).drop 24).drop 24).drop 24).drop 24), List.all_append, w_t8, ← List.take_append_drop 24 ((((((((words1.drop 24).drop 24).drop 24).drop 24).drop 24).drop 24).drop 24).drop 24), List.all_append, w_t9, ← List.take_append_drop 24 (((((((((words1.drop 24).drop 24).drop 24).drop 24).drop 24).drop 24).drop 24).drop 24).drop 24), List.all_append, w_t10, ← List.take_append_drop 24 ((((((((((words1.drop 24).drop 24).drop 24).drop 24).drop 24).drop 24).drop 24).drop 24).drop 24).drop 24), List.all_append, w_t11, ← List.take_append_drop 24 (((((((((((words1.drop 24).drop 24).drop 24).drop 24).drop 24).drop 24).drop 24).drop 24).drop 24).drop 24).drop 24), List.all_append, w_t12, w_t13]
  rfl
set_option maxRecDepth 65536 in
theorem w_rest : rest_1_c.before args0 about1 = true := by decide +kernel
set_option maxRecDepth 65536 in
theorem w_case : (Jvm.Cond.and given_1 narrow_1).before args0 about1 = true := by decide +kernel
set_option maxRecDepth 65536 in
theorem w_consts : constsHeld consts_1 about1 := Jvm.Lit.constsHeldB_iff.mp (by decide +kernel)
theorem w_applies : (headSpec (Jvm.Cond.code x code maxLocals ret :: tables_1) room_1).applies x e0.platform about1 = true :=
  (Spec.applies_iff w_frames).mpr ⟨w_running, w_runnable, w_alone, w_named, w_hears, w_ripe, w_room, w_tables⟩
theorem atStart : AtStart classFile x code maxLocals ret World_1 tables_1 room_1 Calls_1 rest_1 Pre_1 launch0 p0 e0 about1 theMethod args0 below0 :=
  ⟨lists_1, trivial, launch0.admits_env _ _ _, launch0.least_env, fairChoices_fair.cas, fairChoices_fair.clock, w_frames, w_args, w_heap, w_applies, ⟨w_consts, trivial⟩, w_rest, w_case⟩
end start1
theorem witness_1 : WitnessClaimed_1 := ⟨start1.p0, start1.e0, start1.about1, start1.theMethod, start1.args0, start1.below0, start1.atStart⟩
end Jvm.Pilot.@@N@@
