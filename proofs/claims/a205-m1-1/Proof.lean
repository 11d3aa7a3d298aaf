import JvmDerived
import JvmDerived.Pilot.@@N@@Statement
import JvmDerived.Pilot.@@N@@Code
set_option linter.unusedVariables false
set_option linter.unusedSimpArgs false
namespace Jvm.OwnW
open Jvm Jvm.ClassFile Sem Op Lib Jvm.Free Jvm.Stand Jvm.LawKit Jvm.RoadKit Bundle
open Jvm.Free.SB Jvm.Free.SBG
abbrev Lits := List (String × Nat × String)
def wst (Z : State) (vm : Vm) (h : Heap) : State := { Z with vm := vm, heap := h }
/-- a compact String with these units, her two cells outside 'mine' -/
def SlM (W : State) (a : Addr) (units : Array UInt16) (mine : List Addr) : Prop :=
  ∃ (q : SQ) (cS : ClassId), q.sa = a ∧ Sl q cS W ∧ (∃ kS : Class, W.vm.classes[cS]? = some kS ∧ kS.kind = .ordinary ∧ q.sC.slots.size = kS.instanceTypes.size) ∧ W.vm.findClass "[B" = some q.SA.cls ∧ q.SA.slots = stringBytes units ∧ q.sa ∉ mine ∧ q.sd ∉ mine
def KH (Z : State) (L : Lits) (vm : Vm) (h : Heap) (mine : List Addr) : Prop :=
  ∀ q ∈ L, ∀ (c : ClassId) (k : Class) (cf : ClassFile) (i : Nat) (units : Array UInt16) (a : Addr), vm.findClass q.1 = some c → vm.classes[c]? = some k → k.cf = some cf →
    cf.constantPool[q.2.1]? = some (.string i) → cf.constantPool[i]? = some (.utf8 units) →
    (k.resolved[q.2.1]? = some (some (.string a)) ∨ (k.resolved[q.2.1]? = some none ∧ vm.interned.find? (fun p => p.1 == units) = some (units, a))) → SlM (wst Z vm h) a units mine
def Links (Z : State) (L : Lits) : Prop := ∀ q ∈ L, ∃ a0 : Array Value, (Jvm.Cond.stringLink q.1 q.2.1 q.2.2).before a0 Z = true
def Inv (Z : State) (L : Lits) (vm : Vm) (h : Heap) (mine : List Addr) : Prop :=
  Z.Warmed39 vm ∧ Ext Z.heap h ∧ (∀ x ∈ mine, Z.heap.size ≤ x ∧ x < h.size) ∧ Links Z L ∧ KH Z L vm h mine
theorem SlM.go {Z : State} {vm vm' : Vm} {h h' : Heap} {a : Addr} {u : Array UInt16} {mine mine' : List Addr} (S : SlM (wst Z vm h) a u mine) (hal : vm.Alike vm')
    (hk : ∀ x c, h[x]? = some c → x ∉ mine → h'[x]? = some c) (hm : ∀ x ∈ mine', x ∈ mine ∨ h.size ≤ x) : SlM (wst Z vm' h') a u mine' := by
  obtain ⟨q, cS, h1, h2, ⟨kS, k1, k2, k3⟩, h4, h5, h6, h7⟩ := S
  obtain ⟨kS', hk', ek⟩ := hal.2.2 _ _ k1
  have c1 : h[q.sa]? = some q.sC := h2.1.1
  have c2 : h[q.sd]? = some q.SA := h2.1.2.2.2.2.2.2.2.2.2.1
  refine ⟨q, cS, h1, h2.carry (U' := wst Z vm' h') hal (hk _ _ c1 h6) (hk _ _ c2 h7), ⟨kS', hk', by rw [ek]; exact k2, by rw [ek]; exact k3⟩, by rw [show (wst Z vm' h').vm.findClass "[B" = vm.findClass "[B" from hal.findClass _ _]; exact h4, h5, fun hx => ?_, fun hx => ?_⟩
  · rcases hm _ hx with q1 | q1
    · exact h6 q1
    · exact absurd (Array.getElem?_eq_some_iff.mp c1).1 (Nat.not_lt.mpr q1)
  · rcases hm _ hx with q1 | q1
    · exact h7 q1
    · exact absurd (Array.getElem?_eq_some_iff.mp c2).1 (Nat.not_lt.mpr q1)
theorem KH.go {Z : State} {L : Lits} {vm vm' : Vm} {h h' : Heap} {mine mine' : List Addr} {U : State} (K : KH Z L vm h mine) (hZ : Z.Warmed39 vm) (hL : Links Z L) (hU : U.vm = vm) (hW : U.WarmedH vm')
    (hk : ∀ x c, h[x]? = some c → x ∉ mine → h'[x]? = some c) (hm : ∀ x ∈ mine', x ∈ mine ∨ h.size ≤ x) : KH Z L vm' h' mine' := by
  subst hU
  have hal : U.vm.Alike vm' := hW.alike
  intro q hq c k' cf i units a hc hk' hcf hp hu hor
  have hcU : U.vm.findClass q.1 = some c := by rw [← hal.findClass]; exact hc
  have hcZ : Z.vm.findClass q.1 = some c := by rw [← hZ.alike.findClass]; exact hcU
  obtain ⟨a0, w⟩ := hL q hq
  obtain ⟨kZ, cf0, i0, units0, hkZ, hcfZ, hp0, hu0, hnm, htext, -⟩ := Cond.stringLink_spec hcZ w
  obtain ⟨kU, hkU, ekU⟩ := hZ.alike.2.2 _ _ hkZ
  obtain ⟨k'', hk'', hke, -, ee, -⟩ := hW.wide.2.2.2 c kU hkU
  cases hk'.symm.trans hk''
  have hcfU : kU.cf = some cf := by
    have : k'.cf = kU.cf := by rw [hke]
    rw [← this]; exact hcf
  have hcf0 : kU.cf = some cf0 := by rw [ekU]; exact hcfZ
  cases hcfU.symm.trans hcf0
  have hint : vm'.interned = U.vm.interned := hW.interned_eq
  have key : SlM (wst Z U.vm h) a units mine := by
    refine K q hq c kU cf i units a hcU hkU hcfU hp hu ?_
    obtain ⟨k3, hk3, -, -, ee3, -⟩ := hW.2.2 c kU hkU
    cases hk'.symm.trans hk3
    rcases ee3 q.2.1 with e0 | ⟨hop, r, e1, hr⟩
    · rcases hor with h0 | ⟨h0, hf⟩
      · exact Or.inl (e0 ▸ h0)
      · exact Or.inr ⟨e0 ▸ h0, by rw [← hint]; exact hf⟩
    · exfalso
      cases r <;> simp [State.rightAt, hkU, hcfU, hnm] at hr
  exact key.go hal hk hm
theorem KH.mono {Z : State} {L : Lits} {vm : Vm} {h : Heap} {mine mine' : List Addr} (K : KH Z L vm h mine) (hm : ∀ x ∈ mine', x ∈ mine) : KH Z L vm h mine' :=
  fun q hq c k cf i units a h1 h2 h3 h4 h5 h6 => by
    obtain ⟨s, cS, r1, r2, r3, r4, r5, r6, r7⟩ := K q hq c k cf i units a h1 h2 h3 h4 h5 h6
    exact ⟨s, cS, r1, r2, r3, r4, r5, fun hx => r6 (hm _ hx), fun hx => r7 (hm _ hx)⟩
theorem Inv.mono {Z : State} {L : Lits} {vm : Vm} {h : Heap} {mine mine' : List Addr} (I : Inv Z L vm h mine) (hm : ∀ x ∈ mine', x ∈ mine) : Inv Z L vm h mine' :=
  ⟨I.1, I.2.1, fun x hx => I.2.2.1 x (hm x hx), I.2.2.2.1, I.2.2.2.2.mono hm⟩
/-- the invariant over a step that warms the tables and moves the heap outside what is frozen -/
theorem Inv.go {Z : State} {L : Lits} {vm vm' : Vm} {h h' : Heap} {mine mine' : List Addr} {U : State} (I : Inv Z L vm h mine) (hU : U.vm = vm) (hW : U.WarmedH vm') (hs : h.size ≤ h'.size)
    (hk : ∀ x c, h[x]? = some c → x ∉ mine → h'[x]? = some c) (hm : ∀ x ∈ mine', x ∈ mine ∨ (h.size ≤ x ∧ x < h'.size)) : Inv Z L vm' h' mine' := by
  refine ⟨State.Warmed39.trans (t := U) (hU ▸ I.1) hW.wide, ⟨Nat.le_trans I.2.1.1 hs, fun a c hc => hk _ _ (I.2.1.2 a c hc) fun hx => ?_⟩, fun x hx => ?_, I.2.2.2.1, I.2.2.2.2.go I.1 I.2.2.2.1 hU hW hk fun x hx => (hm x hx).imp id (·.1)⟩
  · exact absurd (Array.getElem?_eq_some_iff.mp hc).1 (Nat.not_lt.mpr (I.2.2.1 _ hx).1)
  · rcases hm x hx with q | q
    · exact ⟨(I.2.2.1 x q).1, Nat.lt_of_lt_of_le (I.2.2.1 x q).2 hs⟩
    · exact ⟨Nat.le_trans I.2.1.1 q.1, q.2⟩
def Bdy (p : Program) (s : State) (m : MethodId) (meth : Method) (c : Code) (own : String) (code : ByteArray) (maxL : Nat) (ret : Option FieldType) (nm : String) : Prop :=
  p.tables.exec = Jvm.exec ∧ c.code = code ∧ c.maxLocals = maxL ∧ s.vm.findClass own = some m.cls ∧ meth.sig.returnType = ret ∧ meth.locks = false ∧ meth.name = nm
def St (p : Program) (l : Launch) (e : Env) (R : Room) (s : State) (m : MethodId) (args : Array Value) (below : List Frame) (meth : Method) (c : Code) (Z : State) (L : Lits) (h0 : Heap) (ws : List Addr) (T : State) (locs : List Loc) (ce sl : Nat) (mine : List Addr) : Prop :=
  Stand p l e R (s.setVm T.vm) m args below meth c T locs ce sl ∧ s.Since T.vm T.heap.size ∧ Fr Z.heap.size locs ∧ Keep h0 T.heap ws ∧ Inv Z L T.vm T.heap mine
def Fini (p : Program) (l : Launch) (e : Env) (R : Room) (s : State) (below : List Frame) (Z : State) (L : Lits) (h0 : Heap) (ws mine0 : List Addr) (Q : Option Value → Heap → List Addr → Prop) (start : State) : Prop :=
  ∃ (s₂ : State) (v : Option Value) (locs : List Loc) (nw : List Addr), Steps p.tables e below start s₂ ∧ s₂.status = .running ∧ Ended s₂ below (.returned v) ∧ ReturnedEndW s (.returned v) s₂ locs R.cells R.slots ∧ Fr Z.heap.size locs ∧ Keep h0 s₂.heap ws ∧ (∀ x ∈ nw, h0.size ≤ x) ∧ Inv Z L s₂.vm s₂.heap (nw ++ mine0) ∧ Q v s₂.heap nw
def WP (own : String) (code : ByteArray) (maxL : Nat) (ret : Option FieldType) (nm : String) (R : Room) (Z : State) (L : Lits) (h0 : Heap) (ws mine0 : List Addr) (Q : Option Value → Heap → List Addr → Prop) (mine : List Addr) (ce sl : Nat) (h : Heap) (pc : Nat) (Ls : List Slot) (st : List Value) : Prop :=
  ∀ (p : Program) (l : Launch) (e : Env) (s : State) (m : MethodId) (args : Array Value) (below : List Frame) (meth : Method) (c : Code), Bdy p s m meth c own code maxL ret nm →
    ∀ (T : State) (locs : List Loc), St p l e R s m args below meth c Z L h0 ws T locs ce sl mine → T.heap = h → Fini p l e R s below Z L h0 ws mine0 Q (T.setTop (mkF m pc Ls.toArray st))
section Basic
variable {p : Program} {l : Launch} {e : Env} {R : Room} {s : State} {m : MethodId} {args : Array Value} {below : List Frame} {meth : Method} {c : Code} {Z : State} {L : Lits} {h0 h h' : Heap} {ws mine0 mine mine' : List Addr} {T T' : State} {locs locs' : List Loc} {ce sl ce' sl' : Nat}
  {own : String} {code : ByteArray} {maxL : Nat} {ret : Option FieldType} {nm : String} {Q : Option Value → Heap → List Addr → Prop}
theorem Fini.step {a b : State} (F : Fini p l e R s below Z L h0 ws mine0 Q b) (k : ∀ target, Steps p.tables e below b target → Steps p.tables e below a target) : Fini p l e R s below Z L h0 ws mine0 Q a := by
  obtain ⟨s₂, v, lo, nw, r1, r⟩ := F
  exact ⟨s₂, v, lo, nw, k _ r1, r⟩
theorem St.hown (X : St p l e R s m args below meth c Z L h0 ws T locs ce sl mine) (B : Bdy p s m meth c own code maxL ret nm) : (s.setVm T.vm).vm.findClass own = some m.cls := by
  rw [show (s.setVm T.vm).vm = T.vm from rfl, X.2.1.1.alike.findClass]; exact B.2.2.2.1
theorem St.warm (X : St p l e R s m args below meth c Z L h0 ws T locs ce sl mine) : Z.Warmed39 (s.setVm T.vm).vm := X.2.2.2.2.1
/-- a step of the library's, over the base at hand: re-based -/
theorem St.rebase (X : St p l e R s m args below meth c Z L h0 ws T locs ce sl mine) (Y : Stand p l e R (s.setVm T.vm) m args below meth c T' locs' ce' sl') (hF : Fr Z.heap.size locs') (hs : T.heap.size ≤ T'.heap.size)
    (hk : ∀ x c, T.heap[x]? = some c → x ∉ mine → T'.heap[x]? = some c) (hm : ∀ x ∈ mine', x ∈ mine ∨ (T.heap.size ≤ x ∧ x < T'.heap.size)) (K : Keep h0 T'.heap ws) : St p l e R s m args below meth c Z L h0 ws T' locs' ce' sl' mine' :=
  ⟨Y.retabled Y.warmed.wide, X.2.1.trans (Y.warmed.since T'.heap.size) hs, hF, K, X.2.2.2.2.go (U := s.setVm T.vm) rfl Y.warmed hs hk hm⟩
theorem St.same (X : St p l e R s m args below meth c Z L h0 ws T locs ce sl mine) (Y : Stand p l e R (s.setVm T.vm) m args below meth c T' locs ce sl) (hh : T'.heap = T.heap) : St p l e R s m args below meth c Z L h0 ws T' locs ce sl mine :=
  X.rebase Y X.2.2.1 (by rw [hh]; exact Nat.le_refl _) (fun x c hc _ => by rw [hh]; exact hc) (fun x hx => Or.inl hx) (by rw [hh]; exact X.2.2.2.1)
theorem WP.pure1 {pc pc' : Nat} {Ls Ls' : List Slot} {st st' : List Value} (k : WP own code maxL ret nm R Z L h0 ws mine0 Q mine ce sl h pc' Ls' st')
    (hstep : ∀ (p : Program) (e : Env) (below : List Frame) (T : State) (m : MethodId) (c : Code) (target : State), At T m c below → p.tables.exec = Jvm.exec → c.code = code → Steps p.tables e below (T.setTop (mkF m pc' Ls'.toArray st')) target → Steps p.tables e below (T.setTop (mkF m pc Ls.toArray st)) target) :
    WP own code maxL ret nm R Z L h0 ws mine0 Q mine ce sl h pc Ls st := by
  intro p l e s m args below meth c B T locs X hT
  exact (k p l e s m args below meth c B T locs X hT).step fun t => hstep p e below T m c t X.1.here B.1 B.2.1
/-- what the invariant says here -/
theorem WP.know {pc : Nat} {Ls : List Slot} {st : List Value} (k : Ext Z.heap h → Keep h0 h ws → (∀ x ∈ mine, Z.heap.size ≤ x ∧ x < h.size) → WP own code maxL ret nm R Z L h0 ws mine0 Q mine ce sl h pc Ls st) : WP own code maxL ret nm R Z L h0 ws mine0 Q mine ce sl h pc Ls st := by
  intro p l e s m args below meth c B T locs X hT
  subst hT
  exact k X.2.2.2.2.2.1 X.2.2.2.1 X.2.2.2.2.2.2.1 p l e s m args below meth c B T locs X rfl
theorem WP.freeze {pc : Nat} {Ls : List Slot} {st : List Value} (k : WP own code maxL ret nm R Z L h0 ws mine0 Q mine' ce sl h pc Ls st) (hm : ∀ x ∈ mine', x ∈ mine) : WP own code maxL ret nm R Z L h0 ws mine0 Q mine ce sl h pc Ls st := by
  intro p l e s m args below meth c B T locs X hT
  exact k p l e s m args below meth c B T locs ⟨X.1, X.2.1, X.2.2.1, X.2.2.2.1, X.2.2.2.2.mono hm⟩ hT
theorem WP.post {Q' : Option Value → Heap → List Addr → Prop} {pc : Nat} {Ls : List Slot} {st : List Value} (k : WP own code maxL ret nm R Z L h0 ws mine0 Q mine ce sl h pc Ls st) (hq : ∀ v h nw, Q v h nw → Q' v h nw) : WP own code maxL ret nm R Z L h0 ws mine0 Q' mine ce sl h pc Ls st := by
  intro p l e s m args below meth c B T locs X hT
  obtain ⟨s₂, v, lo, nw, r1, r2, r3, r4, r5, r6, r7, r8, r9⟩ := k p l e s m args below meth c B T locs X hT
  exact ⟨s₂, v, lo, nw, r1, r2, r3, r4, r5, r6, r7, r8, hq _ _ _ r9⟩
theorem WP.more {pc : Nat} {Ls : List Slot} {st : List Value} (k : WP own code maxL ret nm R Z L h0 ws mine0 Q mine ce' sl' h pc Ls st) (hc : ce ≤ ce') (hs : sl ≤ sl') : WP own code maxL ret nm R Z L h0 ws mine0 Q mine ce sl h pc Ls st := by
  intro p l e s m args below meth c B T locs X hT
  exact k p l e s m args below meth c B T locs ⟨X.1.mono hc hs, X.2⟩ hT
end Basic
end Jvm.OwnW
namespace Jvm.OwnW
open Jvm Jvm.ClassFile Sem Op Lib Jvm.Free Jvm.Stand Jvm.LawKit Jvm.RoadKit Bundle
section Plain
variable {R : Room} {Z : State} {L : Lits} {h0 h : Heap} {ws mine0 mine : List Addr} {ce sl : Nat} {own : String} {code : ByteArray} {maxL : Nat} {ret : Option FieldType} {nm : String} {Q : Option Value → Heap → List Addr → Prop} {pc pc' : Nat} {Ls : List Slot} {rest : List Value}
def one : Option Slot → Bool
  | some .unset => true
  | some (.val v) => v.category == 1
  | _ => false
theorem one_spec {o : Option Slot} (h : one o = true) : ∃ x, o = some x ∧ (x = .unset ∨ ∃ w, x = .val w ∧ w.category = 1) := by
  rcases o with _ | (_ | _ | v)
  · simp [one] at h
  · exact ⟨_, rfl, Or.inl rfl⟩
  · simp [one] at h
  · exact ⟨_, rfl, Or.inr ⟨v, rfl, by simpa [one] using h⟩⟩
theorem sto1 {Ls Ls' : List Slot} {k : Nat} {v : Value} (ho : one Ls[k]? = true) (hv : v.category = 1) (he : Ls.set k (.val v) = Ls') : storeLocals Ls.toArray k v = some Ls'.toArray := by
  obtain ⟨x, h1, h2⟩ := one_spec ho
  rw [XS.store1 (o := x) (by simpa using h1) h2 hv, ← he]
  simp
theorem sto2 {Ls Ls' : List Slot} {k : Nat} {x : Int64} (ho : one Ls[k]? = true) (ho' : one Ls[k+1]? = true) (he : (Ls.set k (.val (.long x))).set (k + 1) .second = Ls') : storeLocals Ls.toArray k (.long x) = some Ls'.toArray := by
  obtain ⟨y, h1, h2⟩ := one_spec ho
  obtain ⟨z, g1, g2⟩ := one_spec ho'
  subst he
  have k1 : k < Ls.length := (List.getElem?_eq_some_iff.mp h1).1
  have k2 : k + 1 < Ls.length := (List.getElem?_eq_some_iff.mp g1).1
  have e1 : Ls[k] = y := (List.getElem?_eq_some_iff.mp h1).2
  have e2 : Ls[k+1] = z := (List.getElem?_eq_some_iff.mp g1).2
  have hlc : (Value.long x).category = 2 := rfl
  rcases h2 with rfl | ⟨w, rfl, hw⟩ <;> rcases g2 with rfl | ⟨w', rfl, hw'⟩ <;> simp [storeLocals, storeSelf, setAt, hlc, k1, k2, e1, e2, *]
theorem sto2L {Ls Ls' : List Slot} {k : Nat} {x y : Int64} (ho : Ls[k]? = some (.val (.long y))) (ho' : Ls[k+1]? = some .second) (he : Ls.set k (.val (.long x)) = Ls') : storeLocals Ls.toArray k (.long x) = some Ls'.toArray := by
  subst he
  have k1 : k < Ls.length := (List.getElem?_eq_some_iff.mp ho).1
  have k2 : k + 1 < Ls.length := (List.getElem?_eq_some_iff.mp ho').1
  have e1 : Ls[k] = .val (.long y) := (List.getElem?_eq_some_iff.mp ho).2
  have e2 : Ls[k+1] = .second := (List.getElem?_eq_some_iff.mp ho').2
  have : ((Ls.set (k+1) .unset).set k (.val (.long x))).set (k+1) .second = Ls.set k (.val (.long x)) := by
    have this : Ls.set (k+1) .second = Ls := by rw [← e2]; exact List.set_getElem_self _
    rw [List.set_comm _ _ (by omega), List.set_set, this]
  have hlc : ∀ z : Int64, (Value.long z).category = 2 := fun _ => rfl
  simp [storeLocals, storeSelf, setAt, hlc, k1, k2, e1, e2, this]

theorem WP.aloadN {k : Fin 4} {v : Value} (hd : decode code pc = .ok (.aload_n k, 1)) (hl : Ls[k.val]? = some (.val v)) (hv : v.isRef = true) (hp : pc + 1 = pc') (K : WP own code maxL ret nm R Z L h0 ws mine0 Q mine ce sl h pc' Ls (v :: rest)) : WP own code maxL ret nm R Z L h0 ws mine0 Q mine ce sl h pc Ls (rest) := by
  subst hp; exact K.pure1 fun p e below T m c t h hx hc hr => XS.aloadN h hx rfl (hb hc hd) (by simpa using hl) hv hr
theorem WP.iloadN {k : Fin 4} {v : Int32} (hd : decode code pc = .ok (.iload_n k, 1)) (hl : Ls[k.val]? = some (.val (.int v))) (hp : pc + 1 = pc') (K : WP own code maxL ret nm R Z L h0 ws mine0 Q mine ce sl h pc' Ls (.int v :: rest)) : WP own code maxL ret nm R Z L h0 ws mine0 Q mine ce sl h pc Ls (rest) := by
  subst hp; exact K.pure1 fun p e below T m c t h hx hc hr => XS.iloadN h hx rfl (hb hc hd) (by simpa using hl) hr
theorem WP.lloadN {k : Fin 4} {v : Int64} (hd : decode code pc = .ok (.lload_n k, 1)) (hl : Ls[k.val]? = some (.val (.long v))) (hp : pc + 1 = pc') (K : WP own code maxL ret nm R Z L h0 ws mine0 Q mine ce sl h pc' Ls (.long v :: rest)) : WP own code maxL ret nm R Z L h0 ws mine0 Q mine ce sl h pc Ls (rest) := by
  subst hp; exact K.pure1 fun p e below T m c t h hx hc hr => XS.lloadN h hx rfl (hb hc hd) (by simpa using hl) hr
theorem WP.istoreN {k : Fin 4} {x : Int32} {Ls' : List Slot} (hd : decode code pc = .ok (.istore_n k, 1)) (ho : one Ls[k.val]? = true) (he : Ls.set k.val (.val (.int x)) = Ls') (hp : pc + 1 = pc') (K : WP own code maxL ret nm R Z L h0 ws mine0 Q mine ce sl h pc' Ls' (rest)) : WP own code maxL ret nm R Z L h0 ws mine0 Q mine ce sl h pc Ls (.int x :: rest) := by
  subst hp; exact K.pure1 fun p e below T m c t h hx hc hr => XS.istoreN h hx rfl (hb hc hd) rfl (sto1 ho rfl he) hr
theorem WP.astoreN {k : Fin 4} {x : Value} {Ls' : List Slot} (hd : decode code pc = .ok (.astore_n k, 1)) (hv : x.isRef = true) (hc1 : x.category = 1) (ho : one Ls[k.val]? = true) (he : Ls.set k.val (.val x) = Ls') (hp : pc + 1 = pc') (K : WP own code maxL ret nm R Z L h0 ws mine0 Q mine ce sl h pc' Ls' (rest)) : WP own code maxL ret nm R Z L h0 ws mine0 Q mine ce sl h pc Ls (x :: rest) := by
  subst hp; exact K.pure1 fun p e below T m c t h hx hc hr => XS.astoreN h hx rfl (hb hc hd) rfl hv (sto1 ho hc1 he) hr
theorem WP.lstoreN {k : Fin 4} {x : Int64} {Ls' : List Slot} (hd : decode code pc = .ok (.lstore_n k, 1)) (ho : one Ls[k.val]? = true) (ho' : one Ls[k.val+1]? = true) (he : (Ls.set k.val (.val (.long x))).set (k.val + 1) .second = Ls') (hp : pc + 1 = pc') (K : WP own code maxL ret nm R Z L h0 ws mine0 Q mine ce sl h pc' Ls' (rest)) : WP own code maxL ret nm R Z L h0 ws mine0 Q mine ce sl h pc Ls (.long x :: rest) := by
  subst hp; exact K.pure1 fun p e below T m c t h hx hc hr => XS.lstoreN h hx rfl (hb hc hd) rfl (sto2 ho ho' he) hr
theorem WP.lstoreLN {k : Fin 4} {x y : Int64} {Ls' : List Slot} (hd : decode code pc = .ok (.lstore_n k, 1)) (ho : Ls[k.val]? = some (.val (.long y))) (ho' : Ls[k.val+1]? = some .second) (he : Ls.set k.val (.val (.long x)) = Ls') (hp : pc + 1 = pc') (K : WP own code maxL ret nm R Z L h0 ws mine0 Q mine ce sl h pc' Ls' (rest)) : WP own code maxL ret nm R Z L h0 ws mine0 Q mine ce sl h pc Ls (.long x :: rest) := by
  subst hp; exact K.pure1 fun p e below T m c t h hx hc hr => XS.lstoreN h hx rfl (hb hc hd) rfl (sto2L ho ho' he) hr
theorem WP.aload {k : Nat} {v : Value} (hd : decode code pc = .ok (.aload k, 2)) (hl : Ls[k]? = some (.val v)) (hv : v.isRef = true) (hp : pc + 2 = pc') (K : WP own code maxL ret nm R Z L h0 ws mine0 Q mine ce sl h pc' Ls (v :: rest)) : WP own code maxL ret nm R Z L h0 ws mine0 Q mine ce sl h pc Ls (rest) := by
  subst hp; exact K.pure1 fun p e below T m c t h hx hc hr => XS.aload h hx rfl (hb hc hd) (by simpa using hl) hv hr
theorem WP.iload {k : Nat} {v : Int32} (hd : decode code pc = .ok (.iload k, 2)) (hl : Ls[k]? = some (.val (.int v))) (hp : pc + 2 = pc') (K : WP own code maxL ret nm R Z L h0 ws mine0 Q mine ce sl h pc' Ls (.int v :: rest)) : WP own code maxL ret nm R Z L h0 ws mine0 Q mine ce sl h pc Ls (rest) := by
  subst hp; exact K.pure1 fun p e below T m c t h hx hc hr => XS.iload h hx rfl (hb hc hd) (by simpa using hl) hr
theorem WP.lload {k : Nat} {v : Int64} (hd : decode code pc = .ok (.lload k, 2)) (hl : Ls[k]? = some (.val (.long v))) (hp : pc + 2 = pc') (K : WP own code maxL ret nm R Z L h0 ws mine0 Q mine ce sl h pc' Ls (.long v :: rest)) : WP own code maxL ret nm R Z L h0 ws mine0 Q mine ce sl h pc Ls (rest) := by
  subst hp; exact K.pure1 fun p e below T m c t h hx hc hr => XS.lload h hx rfl (hb hc hd) (by simpa using hl) hr
theorem WP.istore {k : Nat} {x : Int32} {Ls' : List Slot} (hd : decode code pc = .ok (.istore k, 2)) (ho : one Ls[k]? = true) (he : Ls.set k (.val (.int x)) = Ls') (hp : pc + 2 = pc') (K : WP own code maxL ret nm R Z L h0 ws mine0 Q mine ce sl h pc' Ls' (rest)) : WP own code maxL ret nm R Z L h0 ws mine0 Q mine ce sl h pc Ls (.int x :: rest) := by
  subst hp; exact K.pure1 fun p e below T m c t h hx hc hr => XS.istore h hx rfl (hb hc hd) rfl (sto1 ho rfl he) hr
theorem WP.astore {k : Nat} {x : Value} {Ls' : List Slot} (hd : decode code pc = .ok (.astore k, 2)) (hv : x.isRef = true) (hc1 : x.category = 1) (ho : one Ls[k]? = true) (he : Ls.set k (.val x) = Ls') (hp : pc + 2 = pc') (K : WP own code maxL ret nm R Z L h0 ws mine0 Q mine ce sl h pc' Ls' (rest)) : WP own code maxL ret nm R Z L h0 ws mine0 Q mine ce sl h pc Ls (x :: rest) := by
  subst hp; exact K.pure1 fun p e below T m c t h hx hc hr => XS.astore h hx rfl (hb hc hd) rfl hv (sto1 ho hc1 he) hr
theorem WP.lstore {k : Nat} {x : Int64} {Ls' : List Slot} (hd : decode code pc = .ok (.lstore k, 2)) (ho : one Ls[k]? = true) (ho' : one Ls[k+1]? = true) (he : (Ls.set k (.val (.long x))).set (k + 1) .second = Ls') (hp : pc + 2 = pc') (K : WP own code maxL ret nm R Z L h0 ws mine0 Q mine ce sl h pc' Ls' (rest)) : WP own code maxL ret nm R Z L h0 ws mine0 Q mine ce sl h pc Ls (.long x :: rest) := by
  subst hp; exact K.pure1 fun p e below T m c t h hx hc hr => XS.lstore h hx rfl (hb hc hd) rfl (sto2 ho ho' he) hr
theorem WP.lstoreL {k : Nat} {x y : Int64} {Ls' : List Slot} (hd : decode code pc = .ok (.lstore k, 2)) (ho : Ls[k]? = some (.val (.long y))) (ho' : Ls[k+1]? = some .second) (he : Ls.set k (.val (.long x)) = Ls') (hp : pc + 2 = pc') (K : WP own code maxL ret nm R Z L h0 ws mine0 Q mine ce sl h pc' Ls' (rest)) : WP own code maxL ret nm R Z L h0 ws mine0 Q mine ce sl h pc Ls (.long x :: rest) := by
  subst hp; exact K.pure1 fun p e below T m c t h hx hc hr => XS.lstore h hx rfl (hb hc hd) rfl (sto2L ho ho' he) hr
theorem WP.iconst {i : Int} {x : Int32} (hd : decode code pc = .ok (.iconst i, 1)) (hx1 : Int32.ofInt i = x) (hp : pc + 1 = pc') (K : WP own code maxL ret nm R Z L h0 ws mine0 Q mine ce sl h pc' Ls (.int x :: rest)) : WP own code maxL ret nm R Z L h0 ws mine0 Q mine ce sl h pc Ls (rest) := by
  subst hp; exact K.pure1 fun p e below T m c t h hx hc hr => XS.iconst h hx rfl (hb hc hd) (by rw [hx1]; exact hr)
theorem WP.bipush {i : Int} {x : Int32} (hd : decode code pc = .ok (.bipush i, 2)) (hx1 : (Int8.ofInt i).toInt32 = x) (hp : pc + 2 = pc') (K : WP own code maxL ret nm R Z L h0 ws mine0 Q mine ce sl h pc' Ls (.int x :: rest)) : WP own code maxL ret nm R Z L h0 ws mine0 Q mine ce sl h pc Ls (rest) := by
  subst hp; exact K.pure1 fun p e below T m c t h hx hc hr => XS.bipush h hx rfl (hb hc hd) (by rw [hx1]; exact hr)
theorem WP.sipush {i : Int} {x : Int32} (hd : decode code pc = .ok (.sipush i, 3)) (hx1 : (Int16.ofInt i).toInt32 = x) (hp : pc + 3 = pc') (K : WP own code maxL ret nm R Z L h0 ws mine0 Q mine ce sl h pc' Ls (.int x :: rest)) : WP own code maxL ret nm R Z L h0 ws mine0 Q mine ce sl h pc Ls (rest) := by
  subst hp; exact K.pure1 fun p e below T m c t h hx hc hr => XS.sipush h hx rfl (hb hc hd) (by rw [hx1]; exact hr)
theorem WP.aconstNull  (hd : decode code pc = .ok (.aconst_null, 1))  (hp : pc + 1 = pc') (K : WP own code maxL ret nm R Z L h0 ws mine0 Q mine ce sl h pc' Ls (.null :: rest)) : WP own code maxL ret nm R Z L h0 ws mine0 Q mine ce sl h pc Ls (rest) := by
  subst hp; exact K.pure1 fun p e below T m c t h hx hc hr => XS.aconstNull h hx rfl (hb hc hd) hr
theorem WP.iadd {x y : Int32} (hd : decode code pc = .ok (.iadd, 1))  (hp : pc + 1 = pc') (K : WP own code maxL ret nm R Z L h0 ws mine0 Q mine ce sl h pc' Ls (.int (x + y) :: rest)) : WP own code maxL ret nm R Z L h0 ws mine0 Q mine ce sl h pc Ls (.int y :: .int x :: rest) := by
  subst hp; exact K.pure1 fun p e below T m c t h hx hc hr => XS.iadd h hx rfl (hb hc hd) rfl hr
theorem WP.isub {x y : Int32} (hd : decode code pc = .ok (.isub, 1))  (hp : pc + 1 = pc') (K : WP own code maxL ret nm R Z L h0 ws mine0 Q mine ce sl h pc' Ls (.int (x - y) :: rest)) : WP own code maxL ret nm R Z L h0 ws mine0 Q mine ce sl h pc Ls (.int y :: .int x :: rest) := by
  subst hp; exact K.pure1 fun p e below T m c t h hx hc hr => XS.isub h hx rfl (hb hc hd) rfl hr
theorem WP.imul {x y : Int32} (hd : decode code pc = .ok (.imul, 1))  (hp : pc + 1 = pc') (K : WP own code maxL ret nm R Z L h0 ws mine0 Q mine ce sl h pc' Ls (.int (x * y) :: rest)) : WP own code maxL ret nm R Z L h0 ws mine0 Q mine ce sl h pc Ls (.int y :: .int x :: rest) := by
  subst hp; exact K.pure1 fun p e below T m c t h hx hc hr => XS.imul h hx rfl (hb hc hd) rfl hr
theorem WP.iand {x y : Int32} (hd : decode code pc = .ok (.iand, 1))  (hp : pc + 1 = pc') (K : WP own code maxL ret nm R Z L h0 ws mine0 Q mine ce sl h pc' Ls (.int (x &&& y) :: rest)) : WP own code maxL ret nm R Z L h0 ws mine0 Q mine ce sl h pc Ls (.int y :: .int x :: rest) := by
  subst hp; exact K.pure1 fun p e below T m c t h hx hc hr => XS.iand h hx rfl (hb hc hd) rfl hr
theorem WP.ior {x y : Int32} (hd : decode code pc = .ok (.ior, 1))  (hp : pc + 1 = pc') (K : WP own code maxL ret nm R Z L h0 ws mine0 Q mine ce sl h pc' Ls (.int (x ||| y) :: rest)) : WP own code maxL ret nm R Z L h0 ws mine0 Q mine ce sl h pc Ls (.int y :: .int x :: rest) := by
  subst hp; exact K.pure1 fun p e below T m c t h hx hc hr => XS.ior h hx rfl (hb hc hd) rfl hr
theorem WP.ixor {x y : Int32} (hd : decode code pc = .ok (.ixor, 1))  (hp : pc + 1 = pc') (K : WP own code maxL ret nm R Z L h0 ws mine0 Q mine ce sl h pc' Ls (.int (x ^^^ y) :: rest)) : WP own code maxL ret nm R Z L h0 ws mine0 Q mine ce sl h pc Ls (.int y :: .int x :: rest) := by
  subst hp; exact K.pure1 fun p e below T m c t h hx hc hr => XS.ixor h hx rfl (hb hc hd) rfl hr
theorem WP.ishl {x y : Int32} (hd : decode code pc = .ok (.ishl, 1))  (hp : pc + 1 = pc') (K : WP own code maxL ret nm R Z L h0 ws mine0 Q mine ce sl h pc' Ls (.int (x <<< (y &&& 31)) :: rest)) : WP own code maxL ret nm R Z L h0 ws mine0 Q mine ce sl h pc Ls (.int y :: .int x :: rest) := by
  subst hp; exact K.pure1 fun p e below T m c t h hx hc hr => XS.ishl h hx rfl (hb hc hd) rfl hr
theorem WP.ishr {x y : Int32} (hd : decode code pc = .ok (.ishr, 1))  (hp : pc + 1 = pc') (K : WP own code maxL ret nm R Z L h0 ws mine0 Q mine ce sl h pc' Ls (.int (x >>> (y &&& 31)) :: rest)) : WP own code maxL ret nm R Z L h0 ws mine0 Q mine ce sl h pc Ls (.int y :: .int x :: rest) := by
  subst hp; exact K.pure1 fun p e below T m c t h hx hc hr => XS.ishr h hx rfl (hb hc hd) rfl hr
theorem WP.iushr {x y : Int32} (hd : decode code pc = .ok (.iushr, 1))  (hp : pc + 1 = pc') (K : WP own code maxL ret nm R Z L h0 ws mine0 Q mine ce sl h pc' Ls (.int ((x.toUInt32 >>> (y &&& 31).toUInt32).toInt32) :: rest)) : WP own code maxL ret nm R Z L h0 ws mine0 Q mine ce sl h pc Ls (.int y :: .int x :: rest) := by
  subst hp; exact K.pure1 fun p e below T m c t h hx hc hr => XS.iushr h hx rfl (hb hc hd) rfl hr
theorem WP.ladd {x y : Int64} (hd : decode code pc = .ok (.ladd, 1))  (hp : pc + 1 = pc') (K : WP own code maxL ret nm R Z L h0 ws mine0 Q mine ce sl h pc' Ls (.long (x + y) :: rest)) : WP own code maxL ret nm R Z L h0 ws mine0 Q mine ce sl h pc Ls (.long y :: .long x :: rest) := by
  subst hp; exact K.pure1 fun p e below T m c t h hx hc hr => XS.ladd h hx rfl (hb hc hd) rfl hr
theorem WP.lsub {x y : Int64} (hd : decode code pc = .ok (.lsub, 1))  (hp : pc + 1 = pc') (K : WP own code maxL ret nm R Z L h0 ws mine0 Q mine ce sl h pc' Ls (.long (x - y) :: rest)) : WP own code maxL ret nm R Z L h0 ws mine0 Q mine ce sl h pc Ls (.long y :: .long x :: rest) := by
  subst hp; exact K.pure1 fun p e below T m c t h hx hc hr => XS.lsub h hx rfl (hb hc hd) rfl hr
theorem WP.lmul {x y : Int64} (hd : decode code pc = .ok (.lmul, 1))  (hp : pc + 1 = pc') (K : WP own code maxL ret nm R Z L h0 ws mine0 Q mine ce sl h pc' Ls (.long (x * y) :: rest)) : WP own code maxL ret nm R Z L h0 ws mine0 Q mine ce sl h pc Ls (.long y :: .long x :: rest) := by
  subst hp; exact K.pure1 fun p e below T m c t h hx hc hr => XS.lmul h hx rfl (hb hc hd) rfl hr
theorem WP.land {x y : Int64} (hd : decode code pc = .ok (.land, 1))  (hp : pc + 1 = pc') (K : WP own code maxL ret nm R Z L h0 ws mine0 Q mine ce sl h pc' Ls (.long (x &&& y) :: rest)) : WP own code maxL ret nm R Z L h0 ws mine0 Q mine ce sl h pc Ls (.long y :: .long x :: rest) := by
  subst hp; exact K.pure1 fun p e below T m c t h hx hc hr => XS.land h hx rfl (hb hc hd) rfl hr
theorem WP.lor {x y : Int64} (hd : decode code pc = .ok (.lor, 1))  (hp : pc + 1 = pc') (K : WP own code maxL ret nm R Z L h0 ws mine0 Q mine ce sl h pc' Ls (.long (x ||| y) :: rest)) : WP own code maxL ret nm R Z L h0 ws mine0 Q mine ce sl h pc Ls (.long y :: .long x :: rest) := by
  subst hp; exact K.pure1 fun p e below T m c t h hx hc hr => XS.lor h hx rfl (hb hc hd) rfl hr
theorem WP.lxor {x y : Int64} (hd : decode code pc = .ok (.lxor, 1))  (hp : pc + 1 = pc') (K : WP own code maxL ret nm R Z L h0 ws mine0 Q mine ce sl h pc' Ls (.long (x ^^^ y) :: rest)) : WP own code maxL ret nm R Z L h0 ws mine0 Q mine ce sl h pc Ls (.long y :: .long x :: rest) := by
  subst hp; exact K.pure1 fun p e below T m c t h hx hc hr => XS.lxor h hx rfl (hb hc hd) rfl hr
theorem WP.lshl {x : Int64} {y : Int32} (hd : decode code pc = .ok (.lshl, 1))  (hp : pc + 1 = pc') (K : WP own code maxL ret nm R Z L h0 ws mine0 Q mine ce sl h pc' Ls (.long (x <<< (y &&& 0x3f).toInt64) :: rest)) : WP own code maxL ret nm R Z L h0 ws mine0 Q mine ce sl h pc Ls (.int y :: .long x :: rest) := by
  subst hp; exact K.pure1 fun p e below T m c t h hx hc hr => XS.lshl h hx rfl (hb hc hd) rfl hr
theorem WP.lshr {x : Int64} {y : Int32} (hd : decode code pc = .ok (.lshr, 1))  (hp : pc + 1 = pc') (K : WP own code maxL ret nm R Z L h0 ws mine0 Q mine ce sl h pc' Ls (.long (x >>> (y &&& 0x3f).toInt64) :: rest)) : WP own code maxL ret nm R Z L h0 ws mine0 Q mine ce sl h pc Ls (.int y :: .long x :: rest) := by
  subst hp; exact K.pure1 fun p e below T m c t h hx hc hr => XS.lshr h hx rfl (hb hc hd) rfl hr
theorem WP.lushr {x : Int64} {y : Int32} (hd : decode code pc = .ok (.lushr, 1))  (hp : pc + 1 = pc') (K : WP own code maxL ret nm R Z L h0 ws mine0 Q mine ce sl h pc' Ls (.long ((x.toUInt64 >>> (y &&& 0x3f).toInt64.toUInt64).toInt64) :: rest)) : WP own code maxL ret nm R Z L h0 ws mine0 Q mine ce sl h pc Ls (.int y :: .long x :: rest) := by
  subst hp; exact K.pure1 fun p e below T m c t h hx hc hr => XS.lushr h hx rfl (hb hc hd) rfl hr
theorem WP.idiv {x y : Int32} (hd : decode code pc = .ok (.idiv, 1)) (hy : y ≠ 0) (hp : pc + 1 = pc') (K : WP own code maxL ret nm R Z L h0 ws mine0 Q mine ce sl h pc' Ls (.int (x / y) :: rest)) : WP own code maxL ret nm R Z L h0 ws mine0 Q mine ce sl h pc Ls (.int y :: .int x :: rest) := by
  subst hp; exact K.pure1 fun p e below T m c t h hx hc hr => XS.idiv h hx rfl (hb hc hd) rfl hy hr
theorem WP.irem {x y : Int32} (hd : decode code pc = .ok (.irem, 1)) (hy : y ≠ 0) (hp : pc + 1 = pc') (K : WP own code maxL ret nm R Z L h0 ws mine0 Q mine ce sl h pc' Ls (.int (x % y) :: rest)) : WP own code maxL ret nm R Z L h0 ws mine0 Q mine ce sl h pc Ls (.int y :: .int x :: rest) := by
  subst hp; exact K.pure1 fun p e below T m c t h hx hc hr => XS.irem h hx rfl (hb hc hd) rfl hy (by rw [irem_eq_mod]; exact hr)
theorem WP.ldiv {x y : Int64} (hd : decode code pc = .ok (.ldiv, 1)) (hy : y ≠ 0) (hp : pc + 1 = pc') (K : WP own code maxL ret nm R Z L h0 ws mine0 Q mine ce sl h pc' Ls (.long (x / y) :: rest)) : WP own code maxL ret nm R Z L h0 ws mine0 Q mine ce sl h pc Ls (.long y :: .long x :: rest) := by
  subst hp; exact K.pure1 fun p e below T m c t h hx hc hr => XS.ldiv h hx rfl (hb hc hd) rfl hy hr
theorem WP.lrem {x y : Int64} (hd : decode code pc = .ok (.lrem, 1)) (hy : y ≠ 0) (hp : pc + 1 = pc') (K : WP own code maxL ret nm R Z L h0 ws mine0 Q mine ce sl h pc' Ls (.long (x % y) :: rest)) : WP own code maxL ret nm R Z L h0 ws mine0 Q mine ce sl h pc Ls (.long y :: .long x :: rest) := by
  subst hp; exact K.pure1 fun p e below T m c t h hx hc hr => XS.lrem h hx rfl (hb hc hd) rfl hy (by rw [lrem_mod]; exact hr)
theorem WP.ineg {x : Int32} (hd : decode code pc = .ok (.ineg, 1))  (hp : pc + 1 = pc') (K : WP own code maxL ret nm R Z L h0 ws mine0 Q mine ce sl h pc' Ls (.int (-x) :: rest)) : WP own code maxL ret nm R Z L h0 ws mine0 Q mine ce sl h pc Ls (.int x :: rest) := by
  subst hp; exact K.pure1 fun p e below T m c t h hx hc hr => XS.ineg h hx rfl (hb hc hd) rfl hr
theorem WP.lneg {x : Int64} (hd : decode code pc = .ok (.lneg, 1))  (hp : pc + 1 = pc') (K : WP own code maxL ret nm R Z L h0 ws mine0 Q mine ce sl h pc' Ls (.long (-x) :: rest)) : WP own code maxL ret nm R Z L h0 ws mine0 Q mine ce sl h pc Ls (.long x :: rest) := by
  subst hp; exact K.pure1 fun p e below T m c t h hx hc hr => XS.lneg h hx rfl (hb hc hd) rfl hr
theorem WP.i2b {x : Int32} (hd : decode code pc = .ok (.i2b, 1))  (hp : pc + 1 = pc') (K : WP own code maxL ret nm R Z L h0 ws mine0 Q mine ce sl h pc' Ls (.int x.toInt8.toInt32 :: rest)) : WP own code maxL ret nm R Z L h0 ws mine0 Q mine ce sl h pc Ls (.int x :: rest) := by
  subst hp; exact K.pure1 fun p e below T m c t h hx hc hr => XS.i2b h hx rfl (hb hc hd) rfl hr
theorem WP.i2s {x : Int32} (hd : decode code pc = .ok (.i2s, 1))  (hp : pc + 1 = pc') (K : WP own code maxL ret nm R Z L h0 ws mine0 Q mine ce sl h pc' Ls (.int x.toInt16.toInt32 :: rest)) : WP own code maxL ret nm R Z L h0 ws mine0 Q mine ce sl h pc Ls (.int x :: rest) := by
  subst hp; exact K.pure1 fun p e below T m c t h hx hc hr => XS.i2s h hx rfl (hb hc hd) rfl hr
theorem WP.i2c {x : Int32} (hd : decode code pc = .ok (.i2c, 1))  (hp : pc + 1 = pc') (K : WP own code maxL ret nm R Z L h0 ws mine0 Q mine ce sl h pc' Ls (.int x.toUInt32.toUInt16.toUInt32.toInt32 :: rest)) : WP own code maxL ret nm R Z L h0 ws mine0 Q mine ce sl h pc Ls (.int x :: rest) := by
  subst hp; exact K.pure1 fun p e below T m c t h hx hc hr => XS.i2c h hx rfl (hb hc hd) rfl hr
theorem WP.i2l {x : Int32} (hd : decode code pc = .ok (.i2l, 1))  (hp : pc + 1 = pc') (K : WP own code maxL ret nm R Z L h0 ws mine0 Q mine ce sl h pc' Ls (.long x.toInt64 :: rest)) : WP own code maxL ret nm R Z L h0 ws mine0 Q mine ce sl h pc Ls (.int x :: rest) := by
  subst hp; exact K.pure1 fun p e below T m c t h hx hc hr => XS.i2l h hx rfl (hb hc hd) rfl hr
theorem WP.l2i {x : Int64} (hd : decode code pc = .ok (.l2i, 1))  (hp : pc + 1 = pc') (K : WP own code maxL ret nm R Z L h0 ws mine0 Q mine ce sl h pc' Ls (.int x.toInt32 :: rest)) : WP own code maxL ret nm R Z L h0 ws mine0 Q mine ce sl h pc Ls (.long x :: rest) := by
  subst hp; exact K.pure1 fun p e below T m c t h hx hc hr => XS.l2i h hx rfl (hb hc hd) rfl hr
theorem WP.lcmp {x y : Int64} (hd : decode code pc = .ok (.lcmp, 1))  (hp : pc + 1 = pc') (K : WP own code maxL ret nm R Z L h0 ws mine0 Q mine ce sl h pc' Ls (.int (lcmpW x y) :: rest)) : WP own code maxL ret nm R Z L h0 ws mine0 Q mine ce sl h pc Ls (.long y :: .long x :: rest) := by
  subst hp; exact K.pure1 fun p e below T m c t h hx hc hr => XS.lcmp h hx rfl (hb hc hd) rfl hr
theorem WP.lconst {k : Fin 2} {x : Int64} (hd : decode code pc = .ok (.lconst k, 1)) (hx1 : Int64.ofNat k.val = x) (hp : pc + 1 = pc') (K : WP own code maxL ret nm R Z L h0 ws mine0 Q mine ce sl h pc' Ls (.long x :: rest)) : WP own code maxL ret nm R Z L h0 ws mine0 Q mine ce sl h pc Ls (rest) := by
  subst hp; exact K.pure1 fun p e below T m c t h hx hc hr => XS.lconst h hx rfl (hb hc hd) (by rw [← hx1] at hr; simpa using hr)
theorem WP.dup {v : Value} (hd : decode code pc = .ok (.dup, 1)) (hc1 : v.category = 1) (hp : pc + 1 = pc') (K : WP own code maxL ret nm R Z L h0 ws mine0 Q mine ce sl h pc' Ls (v :: v :: rest)) : WP own code maxL ret nm R Z L h0 ws mine0 Q mine ce sl h pc Ls (v :: rest) := by
  subst hp; exact K.pure1 fun p e below T m c t h hx hc hr => XS.dup h hx rfl (hb hc hd) rfl hc1 hr
theorem WP.pop {v : Value} (hd : decode code pc = .ok (.pop, 1)) (hc1 : v.category = 1) (hp : pc + 1 = pc') (K : WP own code maxL ret nm R Z L h0 ws mine0 Q mine ce sl h pc' Ls (rest)) : WP own code maxL ret nm R Z L h0 ws mine0 Q mine ce sl h pc Ls (v :: rest) := by
  subst hp; exact K.pure1 fun p e below T m c t h hx hc hr => XS.pop h hx rfl (hb hc hd) rfl hc1 hr
theorem WP.swap {v w : Value} (hd : decode code pc = .ok (.swap, 1)) (hc1 : v.category = 1) (hc2 : w.category = 1) (hp : pc + 1 = pc') (K : WP own code maxL ret nm R Z L h0 ws mine0 Q mine ce sl h pc' Ls (w :: v :: rest)) : WP own code maxL ret nm R Z L h0 ws mine0 Q mine ce sl h pc Ls (v :: w :: rest) := by
  subst hp; exact K.pure1 fun p e below T m c t h hx hc hr => XS.swap h hx rfl (hb hc hd) rfl hc1 hc2 hr
theorem WP.dupX1 {v w : Value} (hd : decode code pc = .ok (.dup_x1, 1)) (hc1 : v.category = 1) (hc2 : w.category = 1) (hp : pc + 1 = pc') (K : WP own code maxL ret nm R Z L h0 ws mine0 Q mine ce sl h pc' Ls (v :: w :: v :: rest)) : WP own code maxL ret nm R Z L h0 ws mine0 Q mine ce sl h pc Ls (v :: w :: rest) := by
  subst hp; exact K.pure1 fun p e below T m c t h hx hc hr => XS.dupX1 h hx rfl (hb hc hd) rfl hc1 hc2 hr
theorem WP.iinc {k : Nat} {i : Int} {x y : Int32} {Ls' : List Slot} (hd : decode code pc = .ok (.iinc k i, 3)) (hl : Ls[k]? = some (.val (.int x))) (hy : x + Int32.ofInt i = y) (he : Ls.set k (.val (.int y)) = Ls') (hp : pc + 3 = pc') (K : WP own code maxL ret nm R Z L h0 ws mine0 Q mine ce sl h pc' Ls' (rest)) : WP own code maxL ret nm R Z L h0 ws mine0 Q mine ce sl h pc Ls (rest) := by
  subst hp; exact K.pure1 fun p e below T m c t h hx hc hr => XS.iinc h hx rfl (hb hc hd) (by simpa using hl) (sto1 (by rw [hl]; rfl) rfl (by rw [hy]; exact he)) hr
theorem WP.goto {o : Int} (hd : decode code pc = .ok (.goto o, 3)) (ho : 0 ≤ (pc : Int) + o) (hp : ((pc : Int) + o).toNat = pc') (K : WP own code maxL ret nm R Z L h0 ws mine0 Q mine ce sl h pc' Ls rest) : WP own code maxL ret nm R Z L h0 ws mine0 Q mine ce sl h pc Ls rest := 
  K.pure1 fun p e below T m c t h hx hc hr => XS.goto h hx rfl rfl (hb hc hd) ho hp hr
def cndT (cd : ClassFile.Cond) (x y : Int32) : Prop := match cd with
  | .eq => x = y | .ne => ¬ x = y | .lt => x < y | .ge => ¬ x < y | .gt => y < x | .le => ¬ y < x
def cndF (cd : ClassFile.Cond) (x y : Int32) : Prop := match cd with
  | .eq => ¬ x = y | .ne => x = y | .lt => ¬ x < y | .ge => x < y | .gt => ¬ y < x | .le => y < x
theorem cnd_t {cd : ClassFile.Cond} {x y : Int32} (h : cndT cd x y) : if_icmp.holds cd x y = true := by
  cases cd
  · exact (teq h).1
  · exact (feq h).2
  · exact (tlt h).1
  · exact (flt h).2.1
  · exact (tlt h).2.2.1
  · exact (flt h).2.2.2
theorem cnd_f {cd : ClassFile.Cond} {x y : Int32} (h : cndF cd x y) : if_icmp.holds cd x y = false := by
  cases cd
  · exact (feq h).1
  · exact (teq h).2
  · exact (flt h).1
  · exact (tlt h).2.1
  · exact (flt h).2.2.1
  · exact (tlt h).2.2.2
theorem cnd_or (cd : ClassFile.Cond) (x y : Int32) : cndT cd x y ∨ cndF cd x y := by
  cases cd <;> simp only [cndT, cndF] <;> first | exact Classical.em _ | exact (Classical.em _).symm
theorem WP.icmpT {cd : ClassFile.Cond} {o : Int} {x y : Int32} (hd : decode code pc = .ok (.if_icmp cd o, 3)) (ho : 0 ≤ (pc : Int) + o) (hp : ((pc : Int) + o).toNat = pc') (hc1 : cndT cd x y) (K : WP own code maxL ret nm R Z L h0 ws mine0 Q mine ce sl h pc' Ls rest) : WP own code maxL ret nm R Z L h0 ws mine0 Q mine ce sl h pc Ls (.int y :: .int x :: rest) :=
  K.pure1 fun p e below T m c t h hx hc hr => XS.icmpYes h hx rfl rfl (hb hc hd) rfl (cnd_t hc1) ho hp hr
theorem WP.icmpF {cd : ClassFile.Cond} {o : Int} {x y : Int32} (hd : decode code pc = .ok (.if_icmp cd o, 3)) (hp : pc + 3 = pc') (hc1 : cndF cd x y) (K : WP own code maxL ret nm R Z L h0 ws mine0 Q mine ce sl h pc' Ls rest) : WP own code maxL ret nm R Z L h0 ws mine0 Q mine ce sl h pc Ls (.int y :: .int x :: rest) := by
  subst hp; exact K.pure1 fun p e below T m c t h hx hc hr => XS.icmpNo h hx rfl (hb hc hd) rfl (cnd_f hc1) hr
theorem WP.icmp {cd : ClassFile.Cond} {o : Int} {x y : Int32} {pc2 : Nat} (hd : decode code pc = .ok (.if_icmp cd o, 3)) (ho : 0 ≤ (pc : Int) + o) (hp : ((pc : Int) + o).toNat = pc') (hp2 : pc + 3 = pc2) (K1 : cndT cd x y → WP own code maxL ret nm R Z L h0 ws mine0 Q mine ce sl h pc' Ls rest) (K2 : cndF cd x y → WP own code maxL ret nm R Z L h0 ws mine0 Q mine ce sl h pc2 Ls rest) : WP own code maxL ret nm R Z L h0 ws mine0 Q mine ce sl h pc Ls (.int y :: .int x :: rest) := by
  rcases cnd_or cd x y with q | q
  · exact WP.icmpT hd ho hp q (K1 q)
  · exact WP.icmpF hd hp2 q (K2 q)
theorem WP.ifT {cd : ClassFile.Cond} {o : Int} {x : Int32} (hd : decode code pc = .ok (.ifCond cd o, 3)) (ho : 0 ≤ (pc : Int) + o) (hp : ((pc : Int) + o).toNat = pc') (hc1 : cndT cd x 0) (K : WP own code maxL ret nm R Z L h0 ws mine0 Q mine ce sl h pc' Ls rest) : WP own code maxL ret nm R Z L h0 ws mine0 Q mine ce sl h pc Ls (.int x :: rest) :=
  K.pure1 fun p e below T m c t h hx hc hr => XS.ifYes h hx rfl rfl (hb hc hd) rfl ((if0 _ _).trans (cnd_t hc1)) ho hp hr
theorem WP.ifF {cd : ClassFile.Cond} {o : Int} {x : Int32} (hd : decode code pc = .ok (.ifCond cd o, 3)) (hp : pc + 3 = pc') (hc1 : cndF cd x 0) (K : WP own code maxL ret nm R Z L h0 ws mine0 Q mine ce sl h pc' Ls rest) : WP own code maxL ret nm R Z L h0 ws mine0 Q mine ce sl h pc Ls (.int x :: rest) := by
  subst hp; exact K.pure1 fun p e below T m c t h hx hc hr => XS.ifNo h hx rfl (hb hc hd) rfl ((if0 _ _).trans (cnd_f hc1)) hr
theorem WP.ifC {cd : ClassFile.Cond} {o : Int} {x : Int32} {pc2 : Nat} (hd : decode code pc = .ok (.ifCond cd o, 3)) (ho : 0 ≤ (pc : Int) + o) (hp : ((pc : Int) + o).toNat = pc') (hp2 : pc + 3 = pc2) (K1 : cndT cd x 0 → WP own code maxL ret nm R Z L h0 ws mine0 Q mine ce sl h pc' Ls rest) (K2 : cndF cd x 0 → WP own code maxL ret nm R Z L h0 ws mine0 Q mine ce sl h pc2 Ls rest) : WP own code maxL ret nm R Z L h0 ws mine0 Q mine ce sl h pc Ls (.int x :: rest) := by
  rcases cnd_or cd x 0 with q | q
  · exact WP.ifT hd ho hp q (K1 q)
  · exact WP.ifF hd hp2 q (K2 q)
theorem WP.ifnullT {o : Int} (hd : decode code pc = .ok (.ifnull o, 3)) (ho : 0 ≤ (pc : Int) + o) (hp : ((pc : Int) + o).toNat = pc') (K : WP own code maxL ret nm R Z L h0 ws mine0 Q mine ce sl h pc' Ls rest) : WP own code maxL ret nm R Z L h0 ws mine0 Q mine ce sl h pc Ls (.null :: rest) :=
  K.pure1 fun p e below T m c t h hx hc hr => XS.ifnullYes h hx rfl rfl (hb hc hd) rfl ho hp hr
theorem WP.ifnullF {o : Int} {a : Addr} (hd : decode code pc = .ok (.ifnull o, 3)) (hp : pc + 3 = pc') (K : WP own code maxL ret nm R Z L h0 ws mine0 Q mine ce sl h pc' Ls rest) : WP own code maxL ret nm R Z L h0 ws mine0 Q mine ce sl h pc Ls (.ref a :: rest) := by
  subst hp; exact K.pure1 fun p e below T m c t h hx hc hr => XS.ifnullNo h hx rfl (hb hc hd) rfl hr
theorem WP.ifnonnullT {o : Int} {a : Addr} (hd : decode code pc = .ok (.ifnonnull o, 3)) (ho : 0 ≤ (pc : Int) + o) (hp : ((pc : Int) + o).toNat = pc') (K : WP own code maxL ret nm R Z L h0 ws mine0 Q mine ce sl h pc' Ls rest) : WP own code maxL ret nm R Z L h0 ws mine0 Q mine ce sl h pc Ls (.ref a :: rest) :=
  K.pure1 fun p e below T m c t h hx hc hr => XS.ifnonnullYes h hx rfl rfl (hb hc hd) rfl ho hp hr
theorem WP.ifnonnullF {o : Int} (hd : decode code pc = .ok (.ifnonnull o, 3)) (hp : pc + 3 = pc') (K : WP own code maxL ret nm R Z L h0 ws mine0 Q mine ce sl h pc' Ls rest) : WP own code maxL ret nm R Z L h0 ws mine0 Q mine ce sl h pc Ls (.null :: rest) := by
  subst hp; exact K.pure1 fun p e below T m c t h hx hc hr => XS.ifnonnullNo h hx rfl (hb hc hd) rfl hr
theorem WP.acmp {cd : ACond} {o : Int} {x y : Value} (hd : decode code pc = .ok (.if_acmp cd o, 3)) (h1 : x.isRef = true) (h2 : y.isRef = true) (same : Bool) (hq : decide (x = y) = same) (ho : 0 ≤ (pc : Int) + o) (hp : pc' = if acV cd same = true then ((pc : Int) + o).toNat else pc + 3) (K : WP own code maxL ret nm R Z L h0 ws mine0 Q mine ce sl h pc' Ls rest) : WP own code maxL ret nm R Z L h0 ws mine0 Q mine ce sl h pc Ls (y :: x :: rest) := by
  intro p l e s m args below meth c B T locs X hT
  exact (K p l e s m args below meth c B T locs X hT).step fun t hr => Jvm.RoadKit.acmp X.1 B.1 rfl h1 h2 rfl (hb B.2.1 hd) rfl hq ho hp hr
end Plain
end Jvm.OwnW
namespace Jvm.OwnW
open Jvm Jvm.ClassFile Sem Op Lib Jvm.Free Jvm.Stand Jvm.LawKit Jvm.RoadKit Bundle
/-- an array of ints, chars, bytes or booleans with these components -/
def ArI (Z : State) (h : Heap) (a : Addr) (ty : FieldType) (xs : List Int32) : Prop := ∃ c : Cell, Arr Z h a c ty ∧ c.slots = (xs.map Value.int).toArray ∧ xs.length < 2 ^ 31
section Ar
variable {Z : State} {h h' : Heap} {a b : Addr} {ty : FieldType} {xs : List Int32} {ws : List Addr}
theorem ArI.lt (A : ArI Z h a ty xs) : a < h.size := by obtain ⟨c, A, -⟩ := A; exact A.lt
theorem ArI.len (A : ArI Z h a ty xs) : xs.length < 2 ^ 31 := by obtain ⟨c, -, -, r⟩ := A; exact r
theorem ArI.ext (A : ArI Z h a ty xs) (E : Ext h h') : ArI Z h' a ty xs := by obtain ⟨c, A, r⟩ := A; exact ⟨c, A.ext E, r⟩
theorem ArI.other {sl : Nat} {v : Value} (A : ArI Z h a ty xs) (W : Wr h h' b sl v) (q : a ≠ b) : ArI Z h' a ty xs := by obtain ⟨c, A, r⟩ := A; exact ⟨c, A.other W q, r⟩
theorem ArI.cell (A : ArI Z h a ty xs) (hk : ∀ c, h[a]? = some c → h'[a]? = some c) : ArI Z h' a ty xs := by obtain ⟨c, A, r⟩ := A; exact ⟨c, ⟨hk _ A.1, A.2⟩, r⟩
theorem ArI.keep (A : ArI Z h a ty xs) (K : Keep h h' ws) (q : a ∉ ws) : ArI Z h' a ty xs := A.cell fun c hc => K.2.1 a c hc q
theorem ArI.set {i : Nat} {x : Int32} (A : ArI Z h a ty xs) (W : Wr h h' a i (.int x)) : ArI Z h' a ty (xs.set i x) := by
  obtain ⟨c, A, r1, r2⟩ := A
  refine ⟨_, A.same W, ?_, by simpa using r2⟩
  show c.slots.setIfInBounds i (.int x) = _
  rw [r1]; simp [List.map_set]
theorem nat_clamp {j : Int32} {i : Nat} (hj : j.toInt = (i : Int)) : j.toNatClampNeg = i := by simp [Int32.toNatClampNeg, hj]
theorem ArI.inb {c : Cell} {j : Int32} {i : Nat} (r : c.slots = (xs.map Value.int).toArray) (hj : j.toInt = (i : Int)) (hi : i < xs.length) : ¬ (j < 0 ∨ c.slots.size ≤ j.toNatClampNeg) := by
  rw [nat_clamp hj, r]
  rw [Int32.lt_iff_toInt_lt, hj]
  simp; omega
end Ar
section Heap
variable {R : Room} {Z : State} {L : Lits} {h0 h : Heap} {ws mine0 mine : List Addr} {ce sl : Nat} {own : String} {code : ByteArray} {maxL : Nat} {ret : Option FieldType} {nm : String} {Q : Option Value → Heap → List Addr → Prop} {pc pc' : Nat} {Ls : List Slot} {rest : List Value} {a0 : Array Value} {a : Addr}
theorem WP.getfield {R0 O n d host : String} {idx : Nat} {v : Value} (hd : decode code pc = .ok (.getfield idx, 3)) (w : (Jvm.Cond.fieldLink own idx R0 n d).before a0 Z = true ∨ (Jvm.Cond.fieldLinkNest own idx R0 n d host).before a0 Z = true) (via : Via Z R0 O n d) (F : Fld Z h a O n d v) (hp : pc + 3 = pc')
    (K : WP own code maxL ret nm R Z L h0 ws mine0 Q mine ce sl h pc' Ls (v :: rest)) : WP own code maxL ret nm R Z L h0 ws mine0 Q mine ce sl h pc Ls (.ref a :: rest) := by
  intro p l e s m args below meth c B T locs X hT
  subst hp
  obtain ⟨T', Y, eT, st⟩ := getF X.1 B.1 X.warm (X.hown B) w via hT F (g := mkF m pc Ls.toArray (.ref a :: rest)) rfl rfl (hb B.2.1 hd)
  exact (K p l e s m args below meth c B T' locs (X.same Y (eT.trans hT.symm)) eT).step st
theorem WP.getstatic {R0 O n d host : String} {idx : Nat} {v : Value} (hd : decode code pc = .ok (.getstatic idx, 3)) (w : (Jvm.Cond.fieldLink own idx R0 n d).before a0 Z = true ∨ (Jvm.Cond.fieldLinkNest own idx R0 n d host).before a0 Z = true) (via : Via Z R0 O n d) (F : Sta Z Z.heap O n d v) (hp : pc + 3 = pc')
    (K : WP own code maxL ret nm R Z L h0 ws mine0 Q mine ce sl h pc' Ls (v :: rest)) : WP own code maxL ret nm R Z L h0 ws mine0 Q mine ce sl h pc Ls rest := by
  intro p l e s m args below meth c B T locs X hT
  subst hp
  have F' : Sta Z h O n d v := F.ext (hT ▸ X.2.2.2.2.2.1)
  obtain ⟨T', Y, eT, st⟩ := getS2 X.1 B.1 X.warm (X.hown B) w via hT F' (g := mkF m pc Ls.toArray rest) rfl (hb B.2.1 hd)
  exact (K p l e s m args below meth c B T' locs (X.same Y (eT.trans hT.symm)) eT).step st
theorem WP.putfield {R0 O n d host C : String} {idx kk : Nat} {ty : FieldType} {v old : Value} (hd : decode code pc = .ok (.putfield idx, 3)) (w : (Jvm.Cond.fieldLink own idx R0 n d).before a0 Z = true ∨ (Jvm.Cond.fieldLinkNest own idx R0 n d host).before a0 Z = true) (via : Via Z R0 O n d) (F : Fld Z h a O n d old) (E : Exa Z h a C)
    (La : (Jvm.Cond.lays C O n d).before a0 Z = true ∨ ((Jvm.Cond.laysFinal C O n d).before a0 Z = true ∧ own = O ∧ nm = "<init>")) (wi : (Jvm.Cond.instantiable C kk).before a0 Z = true) (hty : parseFieldDescriptor d = some ty) (hn : narrow ty v = v) (hf : fits ty v = true) (hm : a ∈ mine) (hw : a ∈ ws ∨ h0.size ≤ a) (hp : pc + 3 = pc')
    (K : ∀ h', Wr h h' a (Jvm.RoadKit.slotOf Z O n d) v → Fld Z h' a O n d v → Exa Z h' a C → WP own code maxL ret nm R Z L h0 ws mine0 Q mine ce sl h' pc' Ls rest) : WP own code maxL ret nm R Z L h0 ws mine0 Q mine ce sl h pc Ls (v :: .ref a :: rest) := by
  intro p l e s m args below meth c B T locs X hT
  subst hp
  obtain ⟨T', h', Y, eT, W, st⟩ := putF X.1 B.1 X.warm (X.hown B) w via hT F E (La.imp id fun q => ⟨q.1, q.2.1, B.2.2.2.2.2.2.trans q.2.2⟩) wi hty hn hf (g := mkF m pc Ls.toArray (v :: .ref a :: rest)) rfl rfl (hb B.2.1 hd)
  subst hT
  subst eT
  refine (K _ W (F.same W) (E.wr W) p l e s m args below meth c B T' _ (X.rebase Y (Fr.snoc Y X.2.2.1 (X.2.2.2.2.2.2.1 _ hm).1) (by rw [W.size]; exact Nat.le_refl _) (fun x c hc hx => ?_) (fun x hx => Or.inl hx) (X.2.2.2.1.wr W hw)) rfl).step st
  obtain ⟨c', q1, -, -, -, q5, -⟩ := wr_at W hc
  rw [← q5 fun q => hx (q ▸ hm)]; exact q1
theorem WP.new {C : String} {idx n : Nat} (hd : decode code pc = .ok (.new idx, 3)) (w : (Jvm.Cond.classLink own idx C).before a0 Z = true) (wi : (Jvm.Cond.instantiable C n).before a0 Z = true) (wz : (Jvm.Cond.initialized C).before a0 Z = true) (hc : ce + 1 ≤ R.cells) (hl : sl + n ≤ R.slots) (hp : pc + 3 = pc')
    (K : ∀ h' a, a = h.size → a ∉ mine → h0.size ≤ a → Ext h h' → Exa Z h' a C → (∀ {O nm d : String} {ty : FieldType}, Laid Z a0 C O nm d → parseFieldDescriptor d = some ty → Fld Z h' a O nm d (defaultValue ty)) → WP own code maxL ret nm R Z L h0 ws mine0 Q (a :: mine) (ce + 1) (sl + n) h' pc' Ls (.ref a :: rest)) : WP own code maxL ret nm R Z L h0 ws mine0 Q mine ce sl h pc Ls rest := by
  intro p l e s m args below meth c B T locs X hT
  subst hp
  obtain ⟨T', h', Y, eT, E, A, D, -, st⟩ := newO X.1 B.1 X.warm (X.hown B) w wi wz hT (g := mkF m pc Ls.toArray rest) rfl (hb B.2.1 hd) hc hl
  subst hT
  subst eT
  refine (K _ _ rfl (fun hx => absurd (X.2.2.2.2.2.2.1 _ hx).2 (Nat.lt_irrefl _)) X.2.2.2.1.1 E A D p l e s m args below meth c B T' _ (X.rebase Y X.2.2.1 E.1 (fun x c hc hx => E.2 _ _ hc) (fun x hx => ?_) (X.2.2.2.1.ext E)) rfl).step st
  rcases List.mem_cons.mp hx with rfl | hx
  · exact Or.inr ⟨Nat.le_refl _, A.lt⟩
  · exact Or.inl hx
theorem WP.newarray {aty : ArrayType} {n : Int32} {N : Nat} (hd : decode code pc = .ok (.newarray aty, 2)) (w : (Jvm.Cond.arrayClass (newarray.typeOf aty)).before a0 Z = true) (hdv : defaultValue (newarray.typeOf aty) = .int 0) (hn : n.toInt = (N : Int)) (hb1 : N * 8 ≤ 536870912) (hc : ce + 1 ≤ R.cells) (hl : sl + N ≤ R.slots) (hp : pc + 2 = pc')
    (K : ∀ h' a, a = h.size → a ∉ mine → h0.size ≤ a → Ext h h' → ArI Z h' a (newarray.typeOf aty) (List.replicate N 0) → WP own code maxL ret nm R Z L h0 ws mine0 Q (a :: mine) (ce + 1) (sl + N) h' pc' Ls (.ref a :: rest)) : WP own code maxL ret nm R Z L h0 ws mine0 Q mine ce sl h pc Ls (.int n :: rest) := by
  intro p l e s m args below meth c B T locs X hT
  subst hp
  obtain ⟨T', h', cA, Y, eT, E, A, st⟩ := newP X.1 B.1 X.warm w hT (g := mkF m pc Ls.toArray (.int n :: rest)) rfl (hb B.2.1 hd) rfl (by rw [Int32.lt_iff_toInt_lt, hn]; simp) (cap := N) (by rw [nat_clamp hn]; exact Nat.le_refl _) hb1 hc hl
  subst hT
  subst eT
  have A' : ArI Z T'.heap T.heap.size (newarray.typeOf aty) (List.replicate N 0) := ⟨_, A, by simp [newA, nat_clamp hn, hdv], by simp; omega⟩
  refine (K _ _ rfl (fun hx => absurd (X.2.2.2.2.2.2.1 _ hx).2 (Nat.lt_irrefl _)) X.2.2.2.1.1 E A' p l e s m args below meth c B T' _ (X.rebase Y X.2.2.1 E.1 (fun x c hc hx => E.2 _ _ hc) (fun x hx => ?_) (X.2.2.2.1.ext E)) rfl).step st
  rcases List.mem_cons.mp hx with rfl | hx
  · exact Or.inr ⟨Nat.le_refl _, A.lt⟩
  · exact Or.inl hx
theorem wr_mine {h h' : Heap} {a : Addr} {sl : Nat} {v : Value} {mine : List Addr} (W : Wr h h' a sl v) (hm : a ∈ mine) : ∀ x c, h[x]? = some c → x ∉ mine → h'[x]? = some c := fun x c hc hx => by
  obtain ⟨c', q1, -, -, -, q5, -⟩ := wr_at W hc
  rw [← q5 fun q => hx (q ▸ hm)]; exact q1
theorem WP.castore {xs : List Int32} {i : Nat} {j x : Int32} (hd : decode code pc = .ok (.castore, 1)) (A : ArI Z h a .char xs) (hj : j.toInt = (i : Int)) (hi : i < xs.length) (hm : a ∈ mine) (hw : a ∈ ws ∨ h0.size ≤ a) (hp : pc + 1 = pc')
    (K : ∀ h', Wr h h' a i (.int (nar .char x)) → ArI Z h' a .char (xs.set i (nar .char x)) → WP own code maxL ret nm R Z L h0 ws mine0 Q mine ce sl h' pc' Ls rest) : WP own code maxL ret nm R Z L h0 ws mine0 Q mine ce sl h pc Ls (.int x :: .int j :: .ref a :: rest) := by
  intro p l e s m args below meth c B T locs X hT
  subst hp
  obtain ⟨cl, A', r1, r2⟩ := id A
  obtain ⟨T', h', Y, eT, W, st⟩ := stC X.1 B.1 X.warm hT A' (ArI.inb r1 hj hi) (g := mkF m pc Ls.toArray (.int x :: .int j :: .ref a :: rest)) rfl rfl (hb B.2.1 hd)
  rw [nat_clamp hj] at W Y
  subst hT
  subst eT
  exact (K _ W (A.set W) p l e s m args below meth c B T' _ (X.rebase Y (Fr.snoc Y X.2.2.1 (X.2.2.2.2.2.2.1 _ hm).1) (by rw [W.size]; exact Nat.le_refl _) (wr_mine W hm) (fun x hx => Or.inl hx) (X.2.2.2.1.wr W hw)) rfl).step st
theorem WP.bastore {xs : List Int32} {i : Nat} {j x : Int32} (hd : decode code pc = .ok (.bastore, 1)) (A : ArI Z h a .byte xs) (hj : j.toInt = (i : Int)) (hi : i < xs.length) (hm : a ∈ mine) (hw : a ∈ ws ∨ h0.size ≤ a) (hp : pc + 1 = pc')
    (K : ∀ h', Wr h h' a i (.int (nar .byte x)) → ArI Z h' a .byte (xs.set i (nar .byte x)) → WP own code maxL ret nm R Z L h0 ws mine0 Q mine ce sl h' pc' Ls rest) : WP own code maxL ret nm R Z L h0 ws mine0 Q mine ce sl h pc Ls (.int x :: .int j :: .ref a :: rest) := by
  intro p l e s m args below meth c B T locs X hT
  subst hp
  obtain ⟨cl, A', r1, r2⟩ := id A
  obtain ⟨T', h', Y, eT, W, st⟩ := stB X.1 B.1 X.warm hT A' (ArI.inb r1 hj hi) (g := mkF m pc Ls.toArray (.int x :: .int j :: .ref a :: rest)) rfl rfl (hb B.2.1 hd)
  rw [nat_clamp hj] at W Y
  subst hT
  subst eT
  exact (K _ W (A.set W) p l e s m args below meth c B T' _ (X.rebase Y (Fr.snoc Y X.2.2.1 (X.2.2.2.2.2.2.1 _ hm).1) (by rw [W.size]; exact Nat.le_refl _) (wr_mine W hm) (fun x hx => Or.inl hx) (X.2.2.2.1.wr W hw)) rfl).step st
theorem WP.iastore {xs : List Int32} {i : Nat} {j x : Int32} (hd : decode code pc = .ok (.iastore, 1)) (A : ArI Z h a .int xs) (hj : j.toInt = (i : Int)) (hi : i < xs.length) (hm : a ∈ mine) (hw : a ∈ ws ∨ h0.size ≤ a) (hp : pc + 1 = pc')
    (K : ∀ h', Wr h h' a i (.int x) → ArI Z h' a .int (xs.set i x) → WP own code maxL ret nm R Z L h0 ws mine0 Q mine ce sl h' pc' Ls rest) : WP own code maxL ret nm R Z L h0 ws mine0 Q mine ce sl h pc Ls (.int x :: .int j :: .ref a :: rest) := by
  intro p l e s m args below meth c B T locs X hT
  subst hp
  obtain ⟨cl, A', r1, r2⟩ := id A
  obtain ⟨T', h', Y, eT, W, st⟩ := stI X.1 B.1 X.warm hT A' (ArI.inb r1 hj hi) (g := mkF m pc Ls.toArray (.int x :: .int j :: .ref a :: rest)) rfl rfl (hb B.2.1 hd)
  rw [nat_clamp hj] at W Y
  subst hT
  subst eT
  exact (K _ W (A.set W) p l e s m args below meth c B T' _ (X.rebase Y (Fr.snoc Y X.2.2.1 (X.2.2.2.2.2.2.1 _ hm).1) (by rw [W.size]; exact Nat.le_refl _) (wr_mine W hm) (fun x hx => Or.inl hx) (X.2.2.2.1.wr W hw)) rfl).step st
theorem ArI.at {Z : State} {xs : List Int32} {c : Cell} {j x : Int32} {i : Nat} (r : c.slots = (xs.map Value.int).toArray) (hj : j.toInt = (i : Int)) (hx : xs[i]? = some x) : c.slots[j.toNatClampNeg]? = some (.int x) := by
  rw [nat_clamp hj, r]; simp [hx]
theorem lt_of_some {xs : List Int32} {i : Nat} {x : Int32} (h : xs[i]? = some x) : i < xs.length := (List.getElem?_eq_some_iff.mp h).1
theorem WP.caload {xs : List Int32} {i : Nat} {j x : Int32} (hd : decode code pc = .ok (.caload, 1)) (A : ArI Z h a .char xs) (hj : j.toInt = (i : Int)) (hx : xs[i]? = some x) (hp : pc + 1 = pc')
    (K : WP own code maxL ret nm R Z L h0 ws mine0 Q mine ce sl h pc' Ls (.int x :: rest)) : WP own code maxL ret nm R Z L h0 ws mine0 Q mine ce sl h pc Ls (.int j :: .ref a :: rest) := by
  intro p l e s m args below meth c B T locs X hT
  subst hp
  obtain ⟨cl, A', r1, r2⟩ := A
  exact (K p l e s m args below meth c B T locs X hT).step fun t hr => X.1.caload B.1 (j := j) (v := .int x) (by rw [hT]; exact A'.1) (State.isArrayOf_alike X.warm.alike A'.2.1) A'.2.2 (ArI.inb r1 hj (lt_of_some hx)) (ArI.at (Z := Z) r1 hj hx) (g := mkF m pc Ls.toArray (.int j :: .ref a :: rest)) rfl rfl (hb B.2.1 hd) _ hr
theorem WP.baload {xs : List Int32} {i : Nat} {j x : Int32} (hd : decode code pc = .ok (.baload, 1)) (A : ArI Z h a .byte xs) (hj : j.toInt = (i : Int)) (hx : xs[i]? = some x) (hp : pc + 1 = pc')
    (K : WP own code maxL ret nm R Z L h0 ws mine0 Q mine ce sl h pc' Ls (.int x :: rest)) : WP own code maxL ret nm R Z L h0 ws mine0 Q mine ce sl h pc Ls (.int j :: .ref a :: rest) := by
  intro p l e s m args below meth c B T locs X hT
  subst hp
  obtain ⟨cl, A', r1, r2⟩ := A
  exact (K p l e s m args below meth c B T locs X hT).step fun t hr => X.1.baloadBytes B.1 (j := j) (v := .int x) (by rw [hT]; exact A'.1) (State.isArrayOf_alike X.warm.alike A'.2.1) A'.2.2 (ArI.inb r1 hj (lt_of_some hx)) (ArI.at (Z := Z) r1 hj hx) (g := mkF m pc Ls.toArray (.int j :: .ref a :: rest)) rfl rfl (hb B.2.1 hd) _ hr
theorem WP.iaload {xs : List Int32} {i : Nat} {j x : Int32} (hd : decode code pc = .ok (.iaload, 1)) (A : ArI Z h a .int xs) (hj : j.toInt = (i : Int)) (hx : xs[i]? = some x) (hp : pc + 1 = pc')
    (K : WP own code maxL ret nm R Z L h0 ws mine0 Q mine ce sl h pc' Ls (.int x :: rest)) : WP own code maxL ret nm R Z L h0 ws mine0 Q mine ce sl h pc Ls (.int j :: .ref a :: rest) := by
  intro p l e s m args below meth c B T locs X hT
  subst hp
  obtain ⟨cl, A', r1, r2⟩ := A
  exact (K p l e s m args below meth c B T locs X hT).step fun t hr => X.1.iaload B.1 (j := j) (v := .int x) (by rw [hT]; exact A'.1) (State.isArrayOf_alike X.warm.alike A'.2.1) A'.2.2 (ArI.inb r1 hj (lt_of_some hx)) (ArI.at (Z := Z) r1 hj hx) (g := mkF m pc Ls.toArray (.int j :: .ref a :: rest)) rfl rfl (hb B.2.1 hd) _ hr
theorem WP.arraylength {ty : FieldType} {xs : List Int32} {n : Int32} (hd : decode code pc = .ok (.arraylength, 1)) (A : ArI Z h a ty xs) (hn : Int32.ofNat xs.length = n) (hp : pc + 1 = pc')
    (K : WP own code maxL ret nm R Z L h0 ws mine0 Q mine ce sl h pc' Ls (.int n :: rest)) : WP own code maxL ret nm R Z L h0 ws mine0 Q mine ce sl h pc Ls (.ref a :: rest) := by
  intro p l e s m args below meth c B T locs X hT
  subst hp
  obtain ⟨cl, A', r1, r2⟩ := A
  have hsz : cl.slots.size.toInt32 = n := by rw [r1, ← hn]; simp
  exact (K p l e s m args below meth c B T locs X hT).step fun t hr => X.1.arraylength B.1 (by rw [hT]; exact A'.1) (State.isArrayOf_alike X.warm.alike A'.2.1) (g := mkF m pc Ls.toArray (.ref a :: rest)) rfl rfl (hb B.2.1 hd) _ (by rw [hsz]; exact hr)
theorem WP.checkcast {K' : String} {idx : Nat} (hd : decode code pc = .ok (.checkcast idx, 3)) (w : (Jvm.Cond.classLink own idx K').before a0 Z = true) (F : Ins Z h a K' true) (hp : pc + 3 = pc')
    (K : WP own code maxL ret nm R Z L h0 ws mine0 Q mine ce sl h pc' Ls (.ref a :: rest)) : WP own code maxL ret nm R Z L h0 ws mine0 Q mine ce sl h pc Ls (.ref a :: rest) := by
  intro p l e s m args below meth c B T locs X hT
  subst hp
  obtain ⟨T', Y, eT, st⟩ := castY X.1 B.1 X.warm (X.hown B) w hT F (g := mkF m pc Ls.toArray (.ref a :: rest)) rfl rfl (hb B.2.1 hd)
  exact (K p l e s m args below meth c B T' locs (X.same Y (eT.trans hT.symm)) eT).step st
theorem WP.checkcastNull {idx : Nat} (hd : decode code pc = .ok (.checkcast idx, 3)) (hp : pc + 3 = pc')
    (K : WP own code maxL ret nm R Z L h0 ws mine0 Q mine ce sl h pc' Ls (.null :: rest)) : WP own code maxL ret nm R Z L h0 ws mine0 Q mine ce sl h pc Ls (.null :: rest) := by
  intro p l e s m args below meth c B T locs X hT
  subst hp
  exact (K p l e s m args below meth c B T locs X hT).step fun t hr => X.1.checkcastNull B.1 (g := mkF m pc Ls.toArray (.null :: rest)) rfl rfl (hb B.2.1 hd) _ hr
theorem WP.instanceofY {K' : String} {idx : Nat} (hd : decode code pc = .ok (.instanceof idx, 3)) (w : (Jvm.Cond.classLink own idx K').before a0 Z = true) (F : Ins Z h a K' true) (hp : pc + 3 = pc')
    (K : WP own code maxL ret nm R Z L h0 ws mine0 Q mine ce sl h pc' Ls (.int 1 :: rest)) : WP own code maxL ret nm R Z L h0 ws mine0 Q mine ce sl h pc Ls (.ref a :: rest) := by
  intro p l e s m args below meth c B T locs X hT
  subst hp
  obtain ⟨T', Y, eT, st⟩ := instY X.1 B.1 X.warm (X.hown B) w hT F (g := mkF m pc Ls.toArray (.ref a :: rest)) rfl rfl (hb B.2.1 hd)
  exact (K p l e s m args below meth c B T' locs (X.same Y (eT.trans hT.symm)) eT).step st
theorem WP.ldcInt {idx : Nat} {v : Int32} (hd : decode code pc = .ok (.ldc idx, 2)) (w : (Jvm.Cond.constant own idx v).before a0 Z = true) (hp : pc + 2 = pc')
    (K : WP own code maxL ret nm R Z L h0 ws mine0 Q mine ce sl h pc' Ls (.int v :: rest)) : WP own code maxL ret nm R Z L h0 ws mine0 Q mine ce sl h pc Ls rest := by
  intro p l e s m args below meth c B T locs X hT
  subst hp
  exact (K p l e s m args below meth c B T locs X hT).step fun t hr => X.1.ldcInt B.1 (X.hown B) (mv X.warm w) (g := mkF m pc Ls.toArray rest) rfl (hb B.2.1 hd) _ hr
theorem WP.ldc2Long {idx : Nat} {v : Int64} (hd : decode code pc = .ok (.ldc2_w idx, 3)) (w : (Jvm.Cond.constantLong own idx v).before a0 Z = true) (hp : pc + 3 = pc')
    (K : WP own code maxL ret nm R Z L h0 ws mine0 Q mine ce sl h pc' Ls (.long v :: rest)) : WP own code maxL ret nm R Z L h0 ws mine0 Q mine ce sl h pc Ls rest := by
  intro p l e s m args below meth c B T locs X hT
  subst hp
  exact (K p l e s m args below meth c B T locs X hT).step fun t hr => X.1.ldc2Long B.1 (X.hown B) (mv X.warm w) (g := mkF m pc Ls.toArray rest) rfl (hb B.2.1 hd) _ hr
theorem WP.initObj {idx : Nat} {W : Nat} (hd : decode code pc = .ok (.invokespecial idx, 3)) (w1 : (Jvm.Cond.methodLink own idx Lib.objectInit).before a0 Z = true) (w2 : (Jvm.Cond.instanceMethod Lib.objectInit).before a0 Z = true) (w3 : (Jvm.Cond.code Lib.objectInit ⟨#[0xb1]⟩ 1 none).before a0 Z = true)
    (hLs : Ls.length = maxL) (hf : 1 ≤ R.frames) (hW : (rest.map fun v => v.category).sum ≤ W) (hl : W + 12 ≤ R.locals) (hp : pc + 3 = pc')
    (K : WP own code maxL ret nm R Z L h0 ws mine0 Q mine ce sl h pc' Ls rest) : WP own code maxL ret nm R Z L h0 ws mine0 Q mine ce sl h pc Ls (.ref a :: rest) := by
  intro p l e s m args below meth c B T locs X hT
  subst hp
  obtain ⟨T', Y, eT, st⟩ := initO X.1 B.1 X.warm (X.hown B) w1 w2 w3 hT (g := mkF m pc Ls.toArray (.ref a :: rest)) rfl (by simp [hLs, B.2.2.1]) rfl (hb B.2.1 hd) hf (W := W) (by simpa using hW) hl
  exact (K p l e s m args below meth c B T' locs (X.same Y (eT.trans hT.symm)) eT).step st
/-- the end of a walk -/
theorem WP.leave {v : Option Value} {st : List Value} {nw : List Addr} (hv : ret = none → v = none) (hq : Q v h nw) (hn : ∀ x ∈ nw, x ∈ mine ∧ h0.size ≤ x) (hm : ∀ x ∈ mine0, x ∈ mine) (hc : ce ≤ R.cells) (hs : sl ≤ R.slots)
    (hstep : ∀ (p : Program) (l : Launch) (e : Env) (s : State) (m : MethodId) (args : Array Value) (below : List Frame) (meth : Method) (c : Code) (T : State) (locs : List Loc), Bdy p s m meth c own code maxL ret nm → Stand p l e R (s.setVm T.vm) m args below meth c T locs ce sl → ∀ fs, (∀ (f : JFrame) (acts : List Action), f.method = m → f.locked = none → f.entered = [] → (doReturn e (T.setTop f) acts v).1 = T.setFrames fs) → Steps p.tables e below (T.setTop (mkF m pc Ls.toArray st)) (T.setFrames fs)) :
    WP own code maxL ret nm R Z L h0 ws mine0 Q mine ce sl h pc Ls st := by
  intro p l e s m args below meth c B T locs X hT
  have hlk : meth.locks = false := B.2.2.2.2.2.1
  obtain ⟨fs, h1, h2, h3, h4⟩ := X.1.leaveW X.2.1 (Nat.le_refl _) (v := v) (fun q => hv (B.2.2.2.2.1.symm.trans q)) hlk
  subst hT
  refine ⟨T.setFrames fs, v, locs, nw, hstep p l e s m args below meth c T locs B X.1 fs h1, h2, h3, ⟨h4.1, h4.2.1, h4.2.2.1, h4.2.2.2.mono hc hs⟩, X.2.2.1, X.2.2.2.1, fun x hx => (hn x hx).2, X.2.2.2.2.mono (fun x hx => ?_), hq⟩
  rcases List.mem_append.mp hx with q | q
  · exact (hn x q).1
  · exact hm x q
theorem WP.vret {nw : List Addr} (hd : decode code pc = .ok (.return_, 1)) (hret : ret = none) (hq : Q none h nw) (hn : ∀ x ∈ nw, x ∈ mine ∧ h0.size ≤ x) (hm : ∀ x ∈ mine0, x ∈ mine) (hc : ce ≤ R.cells) (hs : sl ≤ R.slots) : WP own code maxL ret nm R Z L h0 ws mine0 Q mine ce sl h pc Ls [] :=
  WP.leave (fun _ => rfl) hq hn hm hc hs fun p l e s m args below meth c T locs B X fs hr => X.returnOut B.1 (B.2.2.2.2.1.trans hret) (hb B.2.1 hd) hr
theorem WP.areturn {v : Value} {t : FieldType} {nw : List Addr} (hd : decode code pc = .ok (.areturn, 1)) (hret : ret = some t) (ht : t.isReference = true) (hv : v.isRef = true) (hq : Q (some v) h nw) (hn : ∀ x ∈ nw, x ∈ mine ∧ h0.size ≤ x) (hm : ∀ x ∈ mine0, x ∈ mine) (hc : ce ≤ R.cells) (hs : sl ≤ R.slots) : WP own code maxL ret nm R Z L h0 ws mine0 Q mine ce sl h pc Ls [v] :=
  WP.leave (fun q => by rw [hret] at q; cases q) hq hn hm hc hs fun p l e s m args below meth c T locs B X fs hr => X.areturnOut B.1 hv (B.2.2.2.2.1.trans hret) ht (hb B.2.1 hd) hr
theorem WP.ireturn {x : Int32} {t : FieldType} {nw : List Addr} (hd : decode code pc = .ok (.ireturn, 1)) (hret : ret = some t) (ht : t = .int ∨ t = .boolean ∨ t = .byte ∨ t = .char ∨ t = .short) (hx : narrow t (.int x) = .int x) (hq : Q (some (.int x)) h nw) (hn : ∀ x ∈ nw, x ∈ mine ∧ h0.size ≤ x) (hm : ∀ x ∈ mine0, x ∈ mine) (hc : ce ≤ R.cells) (hs : sl ≤ R.slots) : WP own code maxL ret nm R Z L h0 ws mine0 Q mine ce sl h pc Ls [.int x] :=
  WP.leave (fun q => by rw [hret] at q; cases q) hq hn hm hc hs fun p l e s m args below meth c T locs B X fs hr => X.ireturnOut B.1 (B.2.2.2.2.1.trans hret) hx ht (hb B.2.1 hd) hr
end Heap
/-- a method's contract: these arguments, this heap, this 'mine'; it writes of the old cells only ws -/
def Con (y : MethodName) (code : ByteArray) (maxL : Nat) (ret : Option FieldType) (R : Room) (Z : State) (L : Lits) (cs : List Jvm.Cond) (as : Array Value) (h : Heap) (ws mine : List Addr) (Q : Option Value → Heap → List Addr → Prop) : Prop :=
  ∀ l : Launch, MetFree l y (head1 (Jvm.Cond.code y code maxL ret :: cs) R) (fun a U => a = as ∧ U.heap = h ∧ Inv Z L U.vm U.heap mine) (fun _ _ _ _ _ => True)
    (fun _ U o U' => ∃ (v : Option Value) (locs : List Loc) (nw : List Addr), o = .returned v ∧ ReturnedEndW U o U' locs R.cells R.slots ∧ Fr Z.heap.size locs ∧ Keep h U'.heap ws ∧ (∀ x ∈ nw, h.size ≤ x) ∧ Inv Z L U'.vm U'.heap (nw ++ mine) ∧ Q v U'.heap nw)
theorem Con.of {y : MethodName} {code : ByteArray} {maxL : Nat} {ret : Option FieldType} {R : Room} {Z : State} {L : Lits} {cs : List Jvm.Cond} {as : Array Value} {h : Heap} {ws mine : List Addr} {Q : Option Value → Heap → List Addr → Prop} {Ls : List Slot}
    (hx : plainFor y = true) (hef : ∀ m, entryFrame m as maxL = mkF m 0 Ls.toArray []) (K : WP y.cls code maxL ret y.name R Z L h ws mine Q mine 0 0 h 0 Ls []) : Con y code maxL ret R Z L cs as h ws mine Q := by
  intro l
  refine MetFree.of_bodySF hx hisR ?_
  intro p e s m args below meth c s₁ Bd hml hP _
  obtain ⟨rfl, hh, hI⟩ := hP
  have X0 : Stand p l e R s m args below meth c s₁ [] 0 0 := Stand.of_body Bd
  have e0 : s₁.heap = h := by rw [← hh, Bd.state]; rfl
  have ev : s₁.vm = s.vm := by rw [Bd.state]; rfl
  have hB : Bdy p s m meth c y.cls code maxL ret y.name := ⟨Bd.exec, Bd.bytes, hml, findClass_of_methodNamed Bd.named, Bd.returns, Bd.notSynchronized, (name_of_methodNamed Bd.named Bd.method).1⟩
  have hX : St p l e R s m args below meth c Z L h ws s₁ [] 0 0 mine := by
    refine ⟨X0.retabled X0.warmed.wide, X0.warmed.since _, Fr.nil _, by rw [e0]; exact Keep.refl _ _, ?_⟩
    rw [ev, e0, ← hh]; exact hI
  obtain ⟨s₂, v, lo, nw, r1, r2, r3, r4, r5, r6, r7, r8, r9⟩ := K p l e s m args below meth c hB s₁ [] hX e0
  exact ⟨s₂, _, by rw [hef]; exact r1, r2, r3, v, lo, nw, rfl, r4, r5, r6, r7, r8, r9⟩
section Call
variable {R R' : Room} {Z : State} {L : Lits} {h0 h : Heap} {ws ws' mine0 mine : List Addr} {ce sl : Nat} {own : String} {code : ByteArray} {maxL : Nat} {ret : Option FieldType} {nm : String} {Q : Option Value → Heap → List Addr → Prop} {pc pc' : Nat} {Ls : List Slot} {rest argsL : List Value} {a0 : Array Value} {a : Addr}
  {y z : MethodName} {cb : ByteArray} {mL : Nat} {rt : Option FieldType} {Q' : Option Value → Heap → List Addr → Prop} {idx : Nat} {as : Array Value}
theorem Con.back {p : Program} {l : Launch} {e : Env} {below : List Frame} {s : State} {sargs : Array Value} {len W : Nat} (C : Con y cb mL rt R' Z L [] as h ws' mine Q') (hZ : Z.Warmed39 s.vm) (wc : (Jvm.Cond.code y cb mL rt).before a0 Z = true) (wz : (Jvm.Cond.initialized y.cls).before a0 Z = true) (hf : R'.frames + 1 ≤ R.frames) (hl : W + (mL + 11) + R'.locals ≤ R.locals) :
    BackS l R p e below s sargs y len W (fun A b => b = as ∧ A.U.heap = h ∧ Inv Z L A.U.vm A.U.heap mine ∧ A.cells + R'.cells ≤ R.cells ∧ A.slots + R'.slots ≤ R.slots)
      (fun A _ v B => ∃ L' nw, B.locs = A.locs ++ L' ∧ B.cells = A.cells + R'.cells ∧ B.slots = A.slots + R'.slots ∧ Fr Z.heap.size L' ∧ Keep h B.U.heap ws' ∧ (∀ x ∈ nw, h.size ≤ x) ∧ Inv Z L B.U.vm B.U.heap (nw ++ mine) ∧ Q' v B.U.heap nw) :=
  BackS.of_freeW (bytes := cb) (maxL := mL) (ret := rt) (E := fun _ _ o t L1 k n => k = R'.cells ∧ n = R'.slots ∧ ∃ v nw, o = .returned v ∧ Fr Z.heap.size L1 ∧ Keep h t.heap ws' ∧ (∀ x ∈ nw, h.size ≤ x) ∧ Inv Z L t.vm t.heap (nw ++ mine) ∧ Q' v t.heap nw) (C l) hf hl
    (fun m meth c A b Y hp => have hU : Z.Warmed39 A.U.vm := wtrans hZ Y.warmed
      ⟨by show (Jvm.Cond.and _ .tt).before b A.U = true; rw [Cond.before_and, mv hU wc]; rfl, mv hU wc, mv hU wz, hp.2.2.2.1, hp.2.2.2.2⟩)
    (fun m meth c A b g mk Y hp => ⟨hp.1, hp.2.1, hp.2.2.1⟩) (fun _ _ _ _ _ _ _ _ _ => trivial)
    (fun _ _ _ _ ⟨v, L1, nw, h1, h2, h3, h4, h5, h6, h7⟩ => ⟨L1, _, _, h2, rfl, rfl, v, nw, h1, h3, h4, h5, h6, h7⟩)
    (fun m meth c A b g mk v t L1 k n Y hp _ _ ⟨e1, e2, v', nw, e3, e4, e5, e6, e7, e8⟩ => by cases e3; subst e1 e2; exact ⟨L1, nw, rfl, rfl, rfl, e4, e5, e6, e7, e8⟩)
theorem St.called {p : Program} {l : Launch} {e : Env} {s : State} {m : MethodId} {args : Array Value} {below : List Frame} {meth : Method} {c : Code} {T : State} {locs : List Loc} {B : Pt} {nw : List Addr} {L' : List Loc} {ce' sl' : Nat}
    (X : St p l e R s m args below meth c Z L h0 ws T locs ce sl mine) (hT : T.heap = h) (Y : Stand p l e R ((s.setVm T.vm).setVm B.U.vm) m args below meth c B.U B.locs B.cells B.slots) (hS : (s.setVm T.vm).Since B.U.vm B.U.heap.size) (hg : T.heap.size ≤ B.U.heap.size)
    (q1 : B.locs = locs ++ L') (q2 : B.cells = ce') (q3 : B.slots = sl') (q4 : Fr Z.heap.size L') (q5 : Keep h B.U.heap ws') (q7 : Inv Z L B.U.vm B.U.heap (nw ++ mine)) (hw : ∀ x ∈ ws', x ∈ ws ∨ h0.size ≤ x) : St p l e R s m args below meth c Z L h0 ws B.U (locs ++ L') ce' sl' (nw ++ mine) := by
  subst hT q2 q3
  exact ⟨q1 ▸ Y, X.2.1.trans hS hg, X.2.2.1.app q4, X.2.2.2.1.trans q5 hw, q7⟩
theorem WP.callS (C : Con y cb mL rt R' Z L [] argsL.toArray h ws' mine Q') (wl : (Jvm.Cond.methodLink own idx y).before a0 Z = true) (wst : (Jvm.Cond.static y).before a0 Z = true) (wz : (Jvm.Cond.initialized y.cls).before a0 Z = true) (wc : (Jvm.Cond.code y cb mL rt).before a0 Z = true)
    (hd : decode code pc = .ok (.invokestatic idx, 3)) (hy : y.cls ≠ "java/lang/invoke/MethodHandle" ∧ y.cls ≠ "java/lang/invoke/VarHandle") {sig : MethodDescriptor} (hsig : parseMethodDescriptor y.desc = some sig) (hlen : argsL.length = sig.parameters.length) {st : List Value} (hst : st = argsL.reverse ++ rest) (hLs : Ls.length = maxL)
    (hf : R'.frames + 1 ≤ R.frames) (hl : (rest.map fun v => v.category).sum + (mL + 11) + R'.locals ≤ R.locals) (hc : ce + R'.cells ≤ R.cells) (hs : sl + R'.slots ≤ R.slots) (hw : ∀ x ∈ ws', x ∈ ws ∨ h0.size ≤ x) (hp : pc + 3 = pc')
    (K : ∀ v h' nw, Keep h h' ws' → (∀ x ∈ nw, h.size ≤ x) → Q' v h' nw → WP own code maxL ret nm R Z L h0 ws mine0 Q (nw ++ mine) (ce + R'.cells) (sl + R'.slots) h' pc' Ls (v.toList ++ rest)) :
    WP own code maxL ret nm R Z L h0 ws mine0 Q mine ce sl h pc Ls st := by
  intro p l e s m args below meth c B T locs X hT
  subst hp hst
  obtain ⟨v, vm₁, Bp, hW, Y, hS, hg, ⟨L', nw, q1, q2, q3, q4, q5, q6, q7, q8⟩, st⟩ := callSS X.1 B.1 (X.hown B) (mv X.warm wl) (mv X.warm wst) (mv X.warm wz) (mv X.warm wc) hy (C.back X.warm wc wz hf hl) (g := mkF m pc Ls.toArray (argsL.reverse ++ rest)) rfl (by simp [hLs, B.2.2.1]) (argsL := argsL) (rest := rest) (fun sg h => by rw [hsig] at h; cases h; exact hlen) rfl (by simp) (hb B.2.1 hd)
    (fun vm₁ hv => ⟨rfl, hT, by show Inv Z L vm₁ T.heap mine; exact X.2.2.2.2.go (U := s.setVm T.vm) rfl hv (Nat.le_refl _) (fun _ _ hc _ => hc) (fun _ hx => Or.inl hx), hc, hs⟩)
  exact (K v Bp.U.heap nw q5 q6 q8 p l e s m args below meth c B Bp.U _ (X.called hT Y hS hg q1 q2 q3 q4 q5 q7 hw) rfl).step fun t hr => st.trans hr
theorem WP.callSp (C : Con y cb mL none R' Z L [] (.ref a :: argsL).toArray h ws' mine Q') (hy1 : y.name = "<init>") (wl : (Jvm.Cond.methodLink own idx y).before a0 Z = true) (wi : (Jvm.Cond.instanceMethod y).before a0 Z = true) (wz : (Jvm.Cond.initialized y.cls).before a0 Z = true) (wc : (Jvm.Cond.code y cb mL none).before a0 Z = true)
    (hd : decode code pc = .ok (.invokespecial idx, 3)) (hy : y.cls ≠ "java/lang/invoke/MethodHandle" ∧ y.cls ≠ "java/lang/invoke/VarHandle") {sig : MethodDescriptor} (hsig : parseMethodDescriptor y.desc = some sig) (hlen : argsL.length = sig.parameters.length) {st : List Value} (hst : st = argsL.reverse ++ .ref a :: rest) (hLs : Ls.length = maxL)
    (hf : R'.frames + 1 ≤ R.frames) (hl : (rest.map fun v => v.category).sum + (mL + 11) + R'.locals ≤ R.locals) (hc : ce + R'.cells ≤ R.cells) (hs : sl + R'.slots ≤ R.slots) (hw : ∀ x ∈ ws', x ∈ ws ∨ h0.size ≤ x) (hp : pc + 3 = pc')
    (K : ∀ v h' nw, Keep h h' ws' → (∀ x ∈ nw, h.size ≤ x) → Q' v h' nw → WP own code maxL ret nm R Z L h0 ws mine0 Q (nw ++ mine) (ce + R'.cells) (sl + R'.slots) h' pc' Ls (v.toList ++ rest)) :
    WP own code maxL ret nm R Z L h0 ws mine0 Q mine ce sl h pc Ls st := by
  intro p l e s m args below meth c B T locs X hT
  subst hp hst
  obtain ⟨v, vm₁, Bp, hW, Y, hS, hg, ⟨L', nw, q1, q2, q3, q4, q5, q6, q7, q8⟩, st⟩ := X.1.specialBackS B.1 hy1 (X.hown B) (mv X.warm wl) (mv X.warm wi) (mv X.warm wc) hy (C.back X.warm wc wz hf hl) (g := mkF m pc Ls.toArray (argsL.reverse ++ .ref a :: rest)) rfl (by simp [hLs, B.2.2.1]) (Steps.refl _) (a := a) (argsL := argsL) (rest := rest) (fun sg h => by rw [hsig] at h; cases h; exact hlen) rfl (by simp) (hb B.2.1 hd)
    (fun vm₁ hv => ⟨rfl, hT, by show Inv Z L vm₁ T.heap mine; exact X.2.2.2.2.go (U := s.setVm T.vm) rfl hv (Nat.le_refl _) (fun _ _ hc _ => hc) (fun _ hx => Or.inl hx), hc, hs⟩)
  exact (K v Bp.U.heap nw q5 q6 q8 p l e s m args below meth c B Bp.U _ (X.called hT Y hS hg q1 q2 q3 q4 q5 q7 hw) rfl).step fun t hr => st.trans hr
theorem WP.callV {Cl : String} (C : Con z cb mL rt R' Z L [] (.ref a :: argsL).toArray h ws' mine Q') (E : Exa Z h a Cl) (wl : (Jvm.Cond.methodLink own idx y).before a0 Z = true) (wd : (Jvm.Cond.declares y).before a0 Z = true) (hnf : ∀ s : State, Z.Warmed39 s.vm → NotFace s y) (wsel : (Jvm.Cond.selects Cl y z).before a0 Z = true) (wi : (Jvm.Cond.instanceMethod z).before a0 Z = true) (wz : (Jvm.Cond.initialized z.cls).before a0 Z = true) (wc : (Jvm.Cond.code z cb mL rt).before a0 Z = true)
    (hd : decode code pc = .ok (.invokevirtual idx, 3)) (hy : y.cls ≠ "java/lang/invoke/MethodHandle" ∧ y.cls ≠ "java/lang/invoke/VarHandle") {sig : MethodDescriptor} (hsig : parseMethodDescriptor y.desc = some sig) (hlen : argsL.length = sig.parameters.length) {st : List Value} (hst : st = argsL.reverse ++ .ref a :: rest) (hLs : Ls.length = maxL)
    (hf : R'.frames + 1 ≤ R.frames) (hl : (rest.map fun v => v.category).sum + (mL + 11) + R'.locals ≤ R.locals) (hc : ce + R'.cells ≤ R.cells) (hs : sl + R'.slots ≤ R.slots) (hw : ∀ x ∈ ws', x ∈ ws ∨ h0.size ≤ x) (hp : pc + 3 = pc')
    (K : ∀ v h' nw, Keep h h' ws' → (∀ x ∈ nw, h.size ≤ x) → Q' v h' nw → WP own code maxL ret nm R Z L h0 ws mine0 Q (nw ++ mine) (ce + R'.cells) (sl + R'.slots) h' pc' Ls (v.toList ++ rest)) :
    WP own code maxL ret nm R Z L h0 ws mine0 Q mine ce sl h pc Ls st := by
  intro p l e s m args below meth c B T locs X hT
  subst hp hst
  obtain ⟨cq, kq, qa, qb, qc⟩ := isOf (s := s.setVm T.vm) X.warm hT E
  obtain ⟨v, vm₁, Bp, hW, Y, hS, hg, ⟨L', nw, q1, q2, q3, q4, q5, q6, q7, q8⟩, st⟩ := X.1.virtualBackS B.1 (X.hown B) (mv X.warm wl) (mv X.warm wd) (hnf _ X.warm) (mv X.warm wsel) (mv X.warm wi) hy (C.back X.warm wc wz hf hl) qa qc (g := mkF m pc Ls.toArray (argsL.reverse ++ .ref a :: rest)) rfl (by simp [hLs, B.2.2.1]) (Steps.refl _) (argsL := argsL) (rest := rest) (fun sg h => by rw [hsig] at h; cases h; exact hlen) rfl (by simp) (hb B.2.1 hd)
    (fun vm₁ hv => ⟨rfl, hT, by show Inv Z L vm₁ T.heap mine; exact X.2.2.2.2.go (U := s.setVm T.vm) rfl hv (Nat.le_refl _) (fun _ _ hc _ => hc) (fun _ hx => Or.inl hx), hc, hs⟩)
  exact (K v Bp.U.heap nw q5 q6 q8 p l e s m args below meth c B Bp.U _ (X.called hT Y hS hg q1 q2 q3 q4 q5 q7 hw) rfl).step fun t hr => st.trans hr
theorem WP.callI {Cl : String} {count : Nat} (C : Con z cb mL rt R' Z L [] (.ref a :: argsL).toArray h ws' mine Q') (E : Exa Z h a Cl) (wl : (Jvm.Cond.methodLink own idx y).before a0 Z = true) (wd : (Jvm.Cond.declares y).before a0 Z = true) (wif : (Jvm.Cond.interfaceMethod y.cls y.cls y.name y.desc).before a0 Z = true) (wsel : (Jvm.Cond.selects Cl y z).before a0 Z = true) (wi : (Jvm.Cond.instanceMethod z).before a0 Z = true) (wpub : (Jvm.Cond.publicMethod z).before a0 Z = true) (wun : (Jvm.Cond.unhidden Cl y.name y.desc).before a0 Z = true) (wca : (Jvm.Cond.castable Cl y.cls).before a0 Z = true) (wz : (Jvm.Cond.initialized z.cls).before a0 Z = true) (wc : (Jvm.Cond.code z cb mL rt).before a0 Z = true)
    (hd : decode code pc = .ok (.invokeinterface idx count, 5)) (hy : y.cls ≠ "java/lang/invoke/MethodHandle" ∧ y.cls ≠ "java/lang/invoke/VarHandle") {sig : MethodDescriptor} (hsig : parseMethodDescriptor y.desc = some sig) (hlen : argsL.length = sig.parameters.length) {st : List Value} (hst : st = argsL.reverse ++ .ref a :: rest) (hLs : Ls.length = maxL)
    (hf : R'.frames + 1 ≤ R.frames) (hl : (rest.map fun v => v.category).sum + (mL + 11) + R'.locals ≤ R.locals) (hc : ce + R'.cells ≤ R.cells) (hs : sl + R'.slots ≤ R.slots) (hw : ∀ x ∈ ws', x ∈ ws ∨ h0.size ≤ x) (hp : pc + 5 = pc')
    (K : ∀ v h' nw, Keep h h' ws' → (∀ x ∈ nw, h.size ≤ x) → Q' v h' nw → WP own code maxL ret nm R Z L h0 ws mine0 Q (nw ++ mine) (ce + R'.cells) (sl + R'.slots) h' pc' Ls (v.toList ++ rest)) :
    WP own code maxL ret nm R Z L h0 ws mine0 Q mine ce sl h pc Ls st := by
  intro p l e s m args below meth c B T locs X hT
  subst hp hst
  obtain ⟨cq, kq, qa, qb, qc⟩ := isOf (s := s.setVm T.vm) X.warm hT E
  obtain ⟨v, vm₁, Bp, hW, Y, hS, hg, ⟨L', nw, q1, q2, q3, q4, q5, q6, q7, q8⟩, st⟩ := X.1.interfaceBackS B.1 (X.hown B) (mv X.warm wl) (mv X.warm wd) (mv X.warm wif (by simp [Cond.onTables, Cond.keepsFace, Cond.keeps, Cond.steady, Cond.faceAtom, hy.1, hy.2])) (mv X.warm wsel) (mv X.warm wi) (mv X.warm wpub) (mv X.warm wun) (mv X.warm wca) hy (C.back X.warm wc wz hf hl) qa qb qc (g := mkF m pc Ls.toArray (argsL.reverse ++ .ref a :: rest)) rfl (by simp [hLs, B.2.2.1]) (Steps.refl _) (argsL := argsL) (rest := rest) (fun sg h => by rw [hsig] at h; cases h; exact hlen) rfl (by simp) (hb B.2.1 hd)
    (fun vm₁ hv => ⟨rfl, hT, by show Inv Z L vm₁ T.heap mine; exact X.2.2.2.2.go (U := s.setVm T.vm) rfl hv (Nat.le_refl _) (fun _ _ hc _ => hc) (fun _ hx => Or.inl hx), hc, hs⟩)
  exact (K v Bp.U.heap nw q5 q6 q8 p l e s m args below meth c B Bp.U _ (X.called hT Y hS hg q1 q2 q3 q4 q5 q7 hw) rfl).step fun t hr => st.trans hr
end Call
end Jvm.OwnW
namespace Jvm.OwnW
open Jvm Jvm.ClassFile Sem Op Lib Jvm.Free Jvm.Stand Jvm.LawKit Jvm.RoadKit Bundle
open Jvm.Free.SB Jvm.Free.SBG
abbrev ST : String := "java/lang/String"
/-- a char as an int -/
def chv (u : UInt16) : Int32 := u.toUInt32.toInt32
/-- a char's low byte, its high byte, as signed bytes -/
def lo8 (u : UInt16) : Int32 := u.toUInt8.toInt8.toInt32
def hi8 (u : UInt16) : Int32 := (u >>> 8).toUInt8.toInt8.toInt32
def lat (us : List UInt16) : Bool := us.all (· < 256)
def b16 (us : List UInt16) : List Int32 := us.flatMap fun u => [lo8 u, hi8 u]
def StrAt (Z : State) (h : Heap) (a t : Addr) (us : List UInt16) : Prop :=
  Exa Z h a ST ∧ Fld Z h a ST "value" "[B" (.ref t) ∧ ((lat us = true ∧ Fld Z h a ST "coder" "B" (.int 0) ∧ ArI Z h t .byte (us.map lo8)) ∨ (lat us = false ∧ Fld Z h a ST "coder" "B" (.int 1) ∧ ArI Z h t .byte (b16 us)))
/-- a finished String: none of her two cells is written any more -/
def FStr (Z : State) (h : Heap) (mine : List Addr) (a : Addr) (us : List UInt16) : Prop := ∃ t, StrAt Z h a t us ∧ a ∉ mine ∧ t ∉ mine
section Frozen
variable {Z : State} {h h' : Heap} {mine mine' ws nw : List Addr} {a t : Addr} {us : List UInt16} {C n d : String} {v : Value}
theorem exa_cell (E : Exa Z h a C) (hk : ∀ c, h[a]? = some c → h'[a]? = some c) : Exa Z h' a C := by obtain ⟨c, k, h1, r⟩ := E; exact ⟨c, k, hk _ h1, r⟩
theorem fld_cell (F : Fld Z h a C n d v) (hk : ∀ c, h[a]? = some c → h'[a]? = some c) : Fld Z h' a C n d v := by obtain ⟨c, cf, k, i, f, h1, r⟩ := F; exact ⟨c, cf, k, i, f, hk _ h1, r⟩
theorem StrAt.cells (S : StrAt Z h a t us) (hk : ∀ c, h[a]? = some c → h'[a]? = some c) (hk' : ∀ c, h[t]? = some c → h'[t]? = some c) : StrAt Z h' a t us :=
  ⟨exa_cell S.1 hk, fld_cell S.2.1 hk, S.2.2.imp (fun q => ⟨q.1, fld_cell q.2.1 hk, q.2.2.cell hk'⟩) fun q => ⟨q.1, fld_cell q.2.1 hk, q.2.2.cell hk'⟩⟩
theorem StrAt.lt (S : StrAt Z h a t us) : a < h.size ∧ t < h.size := ⟨S.1.lt, by rcases S.2.2 with q | q <;> exact q.2.2.lt⟩
/-- over a step that keeps what is outside 'mine' -/
theorem FStr.go (S : FStr Z h mine a us) (hk : ∀ x c, h[x]? = some c → x ∉ mine → h'[x]? = some c) (hm : ∀ x ∈ mine', x ∈ mine ∨ h.size ≤ x) : FStr Z h' mine' a us := by
  obtain ⟨t, S, h1, h2⟩ := S
  refine ⟨t, S.cells (fun c hc => hk _ _ hc h1) (fun c hc => hk _ _ hc h2), fun q => ?_, fun q => ?_⟩
  · rcases hm _ q with r | r
    · exact h1 r
    · exact absurd S.lt.1 (Nat.not_lt.mpr r)
  · rcases hm _ q with r | r
    · exact h2 r
    · exact absurd S.lt.2 (Nat.not_lt.mpr r)
theorem FStr.ext (S : FStr Z h mine a us) (E : Ext h h') : FStr Z h' mine a us := S.go (fun x c hc _ => E.2 x c hc) fun x hx => Or.inl hx
/-- over 'new', which makes b one's own -/
theorem FStr.new {b : Addr} (S : FStr Z h mine a us) (E : Ext h h') (hb : b = h.size) : FStr Z h' (b :: mine) a us := S.go (fun x c hc _ => E.2 x c hc) fun x hx => by
  rcases List.mem_cons.mp hx with rfl | hx
  · exact Or.inr (Nat.le_of_eq hb.symm)
  · exact Or.inl hx
theorem FStr.wr {b : Addr} {sl : Nat} (S : FStr Z h mine a us) (W : Wr h h' b sl v) (hb : b ∈ mine) : FStr Z h' mine a us := S.go (wr_mine W hb) fun x hx => Or.inl hx
/-- over a call -/
theorem FStr.call (S : FStr Z h mine a us) (K : Keep h h' ws) (hw : ∀ x ∈ ws, x ∈ mine) (hn : ∀ x ∈ nw, h.size ≤ x) : FStr Z h' (nw ++ mine) a us :=
  S.go (fun x c hc hx => K.2.1 x c hc fun q => hx (hw x q)) fun x hx => (List.mem_append.mp hx).elim (fun q => Or.inr (hn x q)) Or.inl
theorem FStr.mono (S : FStr Z h mine a us) (hm : ∀ x ∈ mine', x ∈ mine) : FStr Z h mine' a us := by
  obtain ⟨t, S, h1, h2⟩ := S; exact ⟨t, S, fun q => h1 (hm _ q), fun q => h2 (hm _ q)⟩
theorem FStr.exa (S : FStr Z h mine a us) : Exa Z h a ST := by obtain ⟨t, S, -⟩ := S; exact S.1
end Frozen
theorem lat_units {units : Array UInt16} (h : units.all (· < 256) = true) : lat units.toList = true := by simpa [lat] using h
theorem SlM.fstr {Z : State} {vm : Vm} {h : Heap} {a : Addr} {units : Array UInt16} {mine : List Addr} (hZ : Z.Warmed39 vm) (S : SlM (wst Z vm h) a units mine) (hl : units.all (· < 256) = true) : FStr Z h mine a units.toList := by
  have hal : Z.vm.Alike vm := hZ.alike
  obtain ⟨q, cS, rfl, ⟨⟨s1, s2, s3, ⟨cv, kv, iv, s4, s4'⟩, ⟨cc, kc, ic, s5, s5'⟩, s6, s7, s8, s9, s10, s11, s12, s13, s14, s15, s16⟩, hfS, hcS⟩, ⟨kS, k1, k2, k3⟩, hB, hbyt, n1, n2⟩ := S
  obtain ⟨kv', z4⟩ := ff_back (U := wst Z vm h) hal s4
  obtain ⟨kc', z5⟩ := ff_back (U := wst Z vm h) hal s5
  have hfZ : Z.vm.findClass ST = some q.sC.cls := by rw [← hal.findClass, hcS]; exact hfS
  obtain ⟨kz, hkz, -⟩ := Vm.findClass_spec hfZ
  obtain ⟨kz', hkz', ekz⟩ := hal.2.2 _ _ hkz
  have ekS : kz' = kS := Option.some.inj (hkz'.symm.trans (hcS ▸ k1))
  obtain ⟨hst, k9, hk9, comp, hkind9⟩ := s11
  have hBZ : Z.vm.findClass "[B" = some q.SA.cls := by rw [← hal.findClass]; exact hB
  obtain ⟨kb, hkb, -⟩ := Vm.findClass_spec hBZ
  obtain ⟨kb', hkb', ekb⟩ := hal.2.2 _ _ hkb
  have ek9 : k9 = kb' := Option.some.inj (hk9.symm.trans hkb')
  have hAZ : Z.isArrayOf q.SA .byte := ⟨hst, kb, hkb, comp, by rw [ek9, ekb] at hkind9; exact hkind9⟩
  have hsl : q.SA.slots = ((units.toList.map lo8).map Value.int).toArray := by
    rw [hbyt, SBG.stringBytes_lat hl]
    apply Array.toList_inj.mp
    simp [List.map_map, Function.comp_def, byteValue, lo8]
  have hlen : (units.toList.map lo8).length < 2 ^ 31 := by
    have : q.SA.slots.size = (units.toList.map lo8).length := by rw [hsl]; simp
    rw [← this, s13]; exact s14
  exact ⟨q.sd, ⟨⟨q.sC, kz, s1, hfZ, hkz, s3, fun ho => by rw [k3, ← ekS, ekz]⟩, ⟨q.sC, cv, kv', iv, q.fSV, s1, z4, s6, s2, s3, by rw [← hal.assignable]; exact s4', s8⟩,
    Or.inl ⟨lat_units hl, ⟨q.sC, cc, kc', ic, q.fSC, s1, z5, s7, s2, s3, by rw [← hal.assignable]; exact s5', s9⟩, ⟨q.SA, ⟨s10, hAZ, s12⟩, hsl, hlen⟩⟩⟩, n1, n2⟩
/-- the state at hand as an invocation's start -/
def anew (T : State) (m : MethodId) (args : Array Value) (below : List Frame) : State := T.setFrames (.invoking m args :: below)
theorem stand_anew {p : Program} {l : Launch} {e : Env} {R : Room} {s : State} {m : MethodId} {args : Array Value} {below : List Frame} {meth : Method} {c : Code} {T : State} {locs : List Loc} {cells slots : Nat}
    (X : Stand p l e R s m args below meth c T locs cells slots) (hv : s.vm = T.vm) (hc : cells ≤ R.cells) (hs : slots ≤ R.slots) :
    Stand p l e { frames := R.frames, locals := R.locals, cells := R.cells - cells, slots := R.slots - slots } (anew T m args below) m args below meth c T [] 0 0 := by
  obtain ⟨g₀, hfr⟩ := X.frames_eq
  have hcur : T.cur < T.threads.size := State.cur_lt_of_frames hfr
  have hF : (anew T m args below).frames = .invoking m args :: below := State.frames_setFrames _ hcur
  have hm1 : (anew T m args below).vm.method? m = some meth := by show T.vm.method? m = _; rw [← hv]; exact X.method
  have hlim : e.platform.stackLimits (anew T m args below).me = e.platform.stackLimits s.me := by rw [anew, State.stackLimits_setFrames]; exact X.limits
  have hby : (anew T m args below).me.stackBytes = s.me.stackBytes := by rw [anew, State.stackBytes_setFrames]; exact X.bytes
  have hroom : (anew T m args below).hasRoom e.platform { frames := R.frames, locals := R.locals, cells := R.cells - cells, slots := R.slots - slots } = true := by
    have h := X.room
    simp only [State.hasRoom, Bool.and_eq_true, decide_eq_true_eq] at h
    rw [State.localsInUse_invoking X.frames X.method X.code, X.frames] at h
    simp only [State.hasRoom, Bool.and_eq_true, decide_eq_true_eq, hF, hlim, hby, State.localsInUse_invoking hF hm1 X.code]
    have hh := X.heapSize
    have hu := X.used
    refine ⟨⟨⟨h.1.1.1, ?_⟩, ?_⟩, X.book⟩
    · have := h.1.1.2
      show T.heap.size + (R.cells - cells) ≤ _; omega
    · have := h.1.2
      show T.slotsUsed + (R.slots - slots) ≤ _; omega
  obtain ⟨t, ht, -⟩ := State.frames_cons hF
  obtain ⟨t', ht', -⟩ := State.frames_cons hfr
  have hcur' : (anew T m args below).cur < (anew T m args below).threads.size := State.cur_lt_of_frames hF
  have hback : T = (anew T m args below).setFrames T.frames := by
    rw [anew, State.setFrames_setFrames, State.setFrames_self ht']
  have hhears : (anew T m args below).hears m below = true := by
    have h := X.hears
    have e1 : (anew T m args below).hears m below = (s.setVm T.vm).hears m below := by
      rcases below with _ | ⟨f, r⟩
      · rfl
      · cases f <;> rfl
    rw [e1, ← hv]; exact h
  refine ⟨X.admits, X.cas, X.clock, hF, hroom, hhears, hm1, X.code, X.here, X.tail, State.WarmedH.refl _, by rw [hlim]; exact X.limits, by rw [hby]; exact X.bytes, ?_⟩
  have h1 := (State.sameButNew.refl (anew T m args below) ht).setFrames T.frames hcur'
  rw [← hback] at h1
  exact h1
theorem find_push {A : Array (Array UInt16 × Addr)} {u u1 : Array UInt16} {b a1 : Addr} (h : (A.push (u1, a1)).find? (fun p => p.1 == u) = some (u, b)) : A.find? (fun p => p.1 == u) = some (u, b) ∨ (A.find? (fun p => p.1 == u) = none ∧ u1 = u ∧ a1 = b) := by
  rw [Array.find?_push] at h
  cases hf : A.find? (fun p => p.1 == u) with
  | some x => rw [hf] at h; left; simpa using h
  | none =>
    rw [hf] at h
    right
    by_cases e : u1 == u
    · simp [e] at h; exact ⟨rfl, h.1, h.2⟩
    · simp [e] at h
theorem text_inj {u u' : Array UInt16} {text : String} (ht : ∀ c ∈ text.toList, c.toNat < 256) (h : utf16ToString? u = some text) (h' : utf16ToString? u' = some text) : u = u' :=
  Array.toList_inj.mp ((Jvm.ClassFile.units_of_text h ht).trans (Jvm.ClassFile.units_of_text h' ht).symm)
def txt (s : String) : List UInt16 := s.toList.map fun c => c.toNat.toUInt16
/-- a load that changes the tables: the held constants, behind -/
theorem KH.load {Z T T₂ : State} {L : Lits} {mine : List Addr} {own text : String} {idx : Nat} {a : Addr} {k k₂ : Class} {co : ClassId} {lo : Nat} {U : State} (hU : U.vm = T.vm)
    (K : KH Z L T.vm T.heap mine) (hZ : Z.Warmed39 T.vm) (hL : Links Z L) (hq : (own, idx, text) ∈ L) (hmine : ∀ x ∈ mine, x < T.heap.size) (ht : ∀ c ∈ text.toList, c.toNat < 256) (hW : U.Warmed39 T₂.vm) (E : Ext T.heap T₂.heap)
    (hco : T.vm.findClass own = some co) (hko : T.vm.classes[co]? = some k) (hopen : k.resolved[idx]? = some none) (hk₂ : T₂.vm.classes[co]? = some k₂) (hres : k₂.resolved[idx]? = some (some (.string a)))
    (hone : T.Interned1 T₂) (hint : T₂.vm.interned = T.vm.interned ∨ ∃ (units : Array UInt16) (a' : Addr), utf16ToString? units = some text ∧ T₂.vm.interned = T.vm.interned.push (units, a'))
    (hin : ∃ units : Array UInt16, utf16ToString? units = some text ∧ SlIn lo T.heap.size T₂ a units) (hlo : lo = T.heap.size) : KH Z L T₂.vm T₂.heap mine ∧ ∃ units : Array UInt16, utf16ToString? units = some text ∧ SlM (wst Z T₂.vm T₂.heap) a units mine := by
  have hal : T.vm.Alike T₂.vm := hU ▸ hW.alike
  -- the entry of the loaded constant
  obtain ⟨a0, w⟩ := hL _ hq
  have hcoZ : Z.vm.findClass own = some co := by rw [← hZ.alike.findClass]; exact hco
  obtain ⟨kZ, cfo, io, uo, hkZ, hcfZ, hpo, huo, hnmo, htexto, -⟩ := Cond.stringLink_spec hcoZ w
  obtain ⟨kT, hkT, ekT⟩ := hZ.alike.2.2 _ _ hkZ
  cases hko.symm.trans hkT
  have hcfo : k.cf = some cfo := by rw [ekT]; exact hcfZ
  have hfo : T₂.vm.interned.find? (fun p => p.1 == uo) = some (uo, a) := by
    obtain ⟨k3, hk3, -, -, ee, -⟩ := hW.2.2.2 co k (by rw [hU]; exact hko)
    cases hk₂.symm.trans hk3
    rcases ee idx with e0 | ⟨hop, r, e1, hr | ⟨a3, t3, si, us, rfl, -, q3, q4, q5⟩⟩
    · rw [hres, hopen] at e0; cases e0
    · exfalso
      cases r <;> simp [State.rightAt, hU, hko, hcfo, hnmo] at hr
    · rw [hcfo] at q3 q4
      have e3 : si = io := by have := q3.symm.trans hpo; simpa using this
      subst e3
      have e4 : us = uo := by simpa [ConstantPool.utf8?, huo] using q4.symm
      subst e4
      have ea : a3 = a := by have := e1.symm.trans hres; simpa using this
      subst ea
      exact q5
  -- who is found behind was found ahead, or is the one just made
  have fresh : ∀ (u : Array UInt16) (b : Addr), T₂.vm.interned.find? (fun p => p.1 == u) = some (u, b) → T.vm.interned.find? (fun p => p.1 == u) = some (u, b) ∨ (SlM (wst Z T₂.vm T₂.heap) b u mine) := fun u b hf => by
    rcases hint with e | ⟨u1, a1, ht1, e⟩
    · left; rw [← e]; exact hf
    · rw [e] at hf
      rcases find_push hf with q | ⟨q0, rfl, rfl⟩
      · exact Or.inl q
      · right
        have eu : u1 = uo := text_inj ht ht1 htexto
        subst eu
        have ea : a1 = a := by
          rw [e] at hfo
          rcases find_push hfo with q | ⟨-, -, q⟩
          · rw [q0] at q; cases q
          · exact q
        subst ea
        obtain ⟨units, hut, q, cS, r1, r2, ⟨kS, r3, r4, r5⟩, r6, r7, r8⟩ := hin
        have eu : units = u1 := text_inj ht hut ht1
        subst eu
        have hge : T.heap.size ≤ a1 := by
          rcases hone.2 with e' | ⟨u2, a2, e2, g1, -⟩
          · rw [e] at e'
            have := congrArg Array.size e'
            simp at this
          · rw [e] at e2
            have e3 := congrArg (fun z => z.back?) e2
            simp at e3
            rw [e3.2]; exact g1
        have hloc : T.heap.size ≤ q.sa ∧ T.heap.size ≤ q.sd := by
          rcases r8 with ⟨g1, g2⟩ | g
          · rw [r1, hlo] at g1; exact absurd g1 (Nat.not_lt.mpr hge)
          · exact g
        exact ⟨q, cS, r1, r2.carry (U' := wst Z T₂.vm T₂.heap) (Vm.Alike.refl _) r2.1.1 r2.1.2.2.2.2.2.2.2.2.2.1, ⟨kS, r3, r4, r5⟩, r6, r7, fun hx => absurd (hmine _ hx) (Nat.not_lt.mpr hloc.1), fun hx => absurd (hmine _ hx) (Nat.not_lt.mpr hloc.2)⟩
  have ride : ∀ (b : Addr) (u : Array UInt16), SlM (wst Z T.vm T.heap) b u mine → SlM (wst Z T₂.vm T₂.heap) b u mine := fun b u S => S.go hal (fun x c hc _ => E.2 x c hc) fun x hx => Or.inl hx
  have new : KH Z L T₂.vm T₂.heap mine := by
    intro q hq c k' cf i units b hc hk' hcf hp hu hor
    have hcT : T.vm.findClass q.1 = some c := by rw [← hal.findClass]; exact hc
    have hcZ : Z.vm.findClass q.1 = some c := by rw [← hZ.alike.findClass]; exact hcT
    obtain ⟨a1, w1⟩ := hL q hq
    obtain ⟨kZ1, cf0, i0, units0, hkZ1, hcfZ1, hp0, hu0, hnm, -, -⟩ := Cond.stringLink_spec hcZ w1
    obtain ⟨kU, hkU, ekU⟩ := hZ.alike.2.2 _ _ hkZ1
    obtain ⟨k'', hk'', hke, -, ee, -⟩ := hW.2.2.2 c kU (by rw [hU]; exact hkU)
    cases hk'.symm.trans hk''
    have hcf0 : kU.cf = some cf0 := by rw [ekU]; exact hcfZ1
    have hcfU : kU.cf = some cf := by
      have : k'.cf = kU.cf := by rw [hke]
      rw [← this]; exact hcf
    cases hcfU.symm.trans hcf0
    rcases ee q.2.1 with e0 | ⟨hop, r, e1, hr | ⟨a3, t3, si, us, rfl, -, q3, q4, q5⟩⟩
    · rcases hor with h0 | ⟨h0, hf⟩
      · exact ride _ _ (K q hq c kU cf i units b hcT hkU hcfU hp hu (Or.inl (e0 ▸ h0)))
      · rcases fresh _ _ hf with hf' | S
        · exact ride _ _ (K q hq c kU cf i units b hcT hkU hcfU hp hu (Or.inr ⟨e0 ▸ h0, hf'⟩))
        · exact S
    · exfalso
      cases r <;> simp [State.rightAt, hU, hkU, hcfU, hnm] at hr
    · rw [hcfU] at q3 q4
      have e3 : si = i := by have := q3.symm.trans hp; simpa using this
      subst e3
      have e4 : us = units := by simpa [ConstantPool.utf8?, hu] using q4.symm
      subst e4
      rcases hor with h0 | ⟨h0, -⟩
      · have ea : a3 = b := by have := e1.symm.trans h0; simpa using this
        subst ea
        rcases fresh _ _ q5 with hf' | S
        · exact ride _ _ (K q hq c kU cf si us a3 hcT hkU hcfU hp hu (Or.inr ⟨hop, hf'⟩))
        · exact S
      · have := e1.symm.trans h0; simp at this
  refine ⟨new, uo, htexto, ?_⟩
  obtain ⟨k4, hk4, ek4⟩ := hal.2.2 _ _ hko
  cases hk₂.symm.trans hk4
  exact new _ hq co k₂ cfo io uo a (by rw [hal.findClass]; exact hco) hk₂ (by rw [ek4]; exact hcfo) hpo huo (Or.inl hres)
section Ldc
variable {R : Room} {Z : State} {L : Lits} {h0 h : Heap} {ws mine0 mine : List Addr} {ce sl : Nat} {own : String} {code : ByteArray} {maxL : Nat} {ret : Option FieldType} {nm : String} {Q : Option Value → Heap → List Addr → Prop} {pc pc' : Nat} {Ls : List Slot} {rest : List Value} {a0 : Array Value} {a : Addr}
theorem WP.ldcS {idx n : Nat} {text : String} (hd : decode code pc = .ok (.ldc idx, 2)) (hq : (own, idx, text) ∈ L) (wS : ∀ a ∈ Bundle.stringAtoms, a.before a0 Z = true) (ht : ∀ c ∈ text.toList, c.toNat < 256) (hn : 4 * text.toList.length ≤ n) (hbig : n ≤ 536870912) (hc : ce + 2 ≤ R.cells) (hs : sl + (n + 4) ≤ R.slots) (hp : pc + 2 = pc')
    (K : ∀ h' a, Ext h h' → FStr Z h' mine a (txt text) → WP own code maxL ret nm R Z L h0 ws mine0 Q mine (ce + 2) (sl + (n + 4)) h' pc' Ls (.ref a :: rest)) : WP own code maxL ret nm R Z L h0 ws mine0 Q mine ce sl h pc Ls rest := by
  intro p l e s m args below meth c B T locs X hT
  subst hp
  subst hT
  have hZ : Z.Warmed39 T.vm := X.warm
  obtain ⟨a1, w⟩ := X.2.2.2.2.2.2.2.1 _ hq
  have hown : T.vm.findClass own = some m.cls := X.hown B
  have hL := X.2.2.2.2.2.2.2.1
  have hK := X.2.2.2.2.2.2.2.2
  have wT : (Jvm.Cond.stringLink own idx text).before args (anew T m args below) = true := mvS (s := anew T m args below) (vm0 := T.vm) hZ w
  obtain ⟨k, cf, i, units, hk, hcf, hcp, hu, hnm, hdec, hres⟩ := Cond.stringLink_spec (s := anew T m args below) (show (anew T m args below).vm.findClass own = some m.cls from hown) wT
  have hk : T.vm.classes[m.cls]? = some k := hk
  rcases hres with hopen | ⟨a, hr⟩
  · have Y0 := stand_anew X.1 rfl (Nat.le_trans (Nat.le_add_right _ _) hc) (Nat.le_trans (Nat.le_add_right _ _) hs)
    have hheld : ConstHeldL (anew T m args below) own idx := by
      intro c1 k1 cf1 i1 u1 b1 g1 g2 g3 g4 g5 g6
      obtain ⟨q, cS, r1, r2, ⟨kS, r3, r4, r5⟩, r6, r7, -⟩ := hK _ hq c1 k1 cf1 i1 u1 b1 g1 g2 g3 g4 g5 g6
      exact ⟨q, cS, r1, r2.carry (U' := anew T m args below) (Vm.Alike.refl _) r2.1.1 r2.1.2.2.2.2.2.2.2.2.2.1, ⟨kS, r3, r4, r5⟩, r6, r7⟩
    obtain ⟨a, T₂, Y, hS', ⟨k₂, hk₂, hres₂⟩, hb', hone, hint, hin, st⟩ := Y0.ldcColdF (fun b cl hb => hb) B.1 (own := own) (show (anew T m args below).vm.findClass own = some m.cls from hown) wT (fun d hd => by
        have q := wS d hd
        simp only [Bundle.stringAtoms, List.mem_cons, List.not_mem_nil, or_false] at hd
        rcases hd with rfl | rfl | rfl | rfl | rfl | rfl | rfl
        · exact mv (s := anew T m args below) hZ q
        · exact mv (s := anew T m args below) hZ q
        · exact mvA (s := anew T m args below) hZ q
        · exact mv (s := anew T m args below) hZ q
        · exact mv (s := anew T m args below) hZ q
        · exact mv (s := anew T m args below) hZ q
        · exact mv (s := anew T m args below) hZ q) hheld (fun units hu => Jvm.ClassFile.lat_of_text hu ht) (g := mkF m pc Ls.toArray rest) rfl (hb B.2.1 hd) hn hbig (by show 0 + 2 ≤ R.cells - ce; omega) (by show 0 + (n + 4) ≤ R.slots - sl; omega)
    have E : Ext T.heap T₂.heap := ext_of hb'
    have hW : (s.setVm T.vm).Warmed39 T₂.vm := hS'.1
    obtain ⟨hKn, u2, hu2, hSl⟩ := KH.load (T := T) (U := s.setVm T.vm) rfl hK hZ hL hq (fun x hx => (X.2.2.2.2.2.2.1 x hx).2) ht hW E hown hk hopen hk₂ hres₂ hone hint hin rfl
    have hZ2 : Z.Warmed39 T₂.vm := State.Warmed39.trans (t := s.setVm T.vm) hZ hW
    have F : FStr Z T₂.heap mine a (txt text) := by
      have := hSl.fstr hZ2 (Jvm.ClassFile.lat_of_text hu2 ht)
      rw [Jvm.ClassFile.units_of_text hu2 ht] at this
      exact this
    obtain ⟨g₀, hfr⟩ := X.1.frames_eq
    obtain ⟨t', ht', -⟩ := State.frames_cons hfr
    have hcur : T.cur < T.threads.size := State.cur_lt_of_frames hfr
    have Z1 := X.1.retabled hW
    have hsame : (T.setVm T₂.vm).sameButNew (T₂.setVm T₂.vm) [] 2 (n + 4) := by
      have h1 : ((T.setVm T₂.vm).setFrames (.invoking m args :: below)).sameButNew (T₂.setVm T₂.vm) [] (0 + 2) (0 + (n + 4)) := Y.same
      rw [Nat.zero_add, Nat.zero_add] at h1
      obtain ⟨e1, e2⟩ := h1
      rw [State.setFrames_setFrames] at e1
      exact ⟨e1, e2⟩
    have Z2 := Z1.moved (T₂ := T₂) Y.here Y.tail (Y.limits.trans (by rw [show (anew T m args below).setVm T₂.vm = (T.setVm T₂.vm).setFrames (.invoking m args :: below) from rfl, State.stackLimits_setFrames])) (Y.bytes.trans (by rw [show (anew T m args below).setVm T₂.vm = (T.setVm T₂.vm).setFrames (.invoking m args :: below) from rfl, State.stackBytes_setFrames])) (State.WarmedH.refl _) hsame
    rw [List.append_nil] at Z2
    have hB2 : (s.setVm T.vm).Booked T₂.vm T₂.heap.size := fun j pr hj hpr => by
      obtain ⟨b1, b2⟩ := hS'.2 j pr hj hpr
      exact ⟨Nat.le_trans X.1.same.2.1 b1, b2⟩
    refine (K T₂.heap a E F p l e s m args below meth c B T₂ locs ⟨Z2, X.2.1.trans ⟨hW, hB2⟩ E.1, X.2.2.1, X.2.2.2.1.ext E, hZ2, ⟨Nat.le_trans X.2.2.2.2.2.1.1 E.1, fun b cl hb => E.2 _ _ (X.2.2.2.2.2.1.2 b cl hb)⟩, fun x hx => ⟨(X.2.2.2.2.2.2.1 x hx).1, Nat.lt_of_lt_of_le (X.2.2.2.2.2.2.1 x hx).2 E.1⟩, hL, hKn⟩ rfl).step st
  · have hSl := hK _ hq m.cls k cf i units a hown hk hcf hcp hu (Or.inl hr)
    have F : FStr Z T.heap mine a (txt text) := by
      have := hSl.fstr hZ (Jvm.ClassFile.lat_of_text hdec ht)
      rw [Jvm.ClassFile.units_of_text hdec ht] at this
      exact this
    have Lt : Lit (s.setVm T.vm) own idx a := by
      simp [Lit, State.resolvedAt?, hown, hk, hr]
    refine (K T.heap a ⟨Nat.le_refl _, fun _ _ hc => hc⟩ F p l e s m args below meth c B T locs ⟨X.1.mono (by omega) (by omega), X.2⟩ rfl).step ?_
    exact ldcAgain (s := s) (vm0 := T.vm) X.1 B.1 hZ hown w Lt (g := mkF m pc Ls.toArray rest) rfl (hb B.2.1 hd)
end Ldc
end Jvm.OwnW
namespace Jvm.OwnW
open Jvm Jvm.ClassFile Sem Op Lib Jvm.Free Jvm.Stand Jvm.LawKit Jvm.RoadKit Bundle
theorem ext_trans {h h' h'' : Heap} (A : Ext h h') (B : Ext h' h'') : Ext h h'' := ⟨Nat.le_trans A.1 B.1, fun a c hc => B.2 a c (A.2 a c hc)⟩
theorem ext_wr {h h' h'' : Heap} {a : Addr} {sl : Nat} {v : Value} (A : Ext h h') (W : Wr h' h'' a sl v) (ha : h.size ≤ a) : Ext h h'' := ⟨by rw [W.size]; exact A.1, fun x c hc => by
  obtain ⟨c', q1, -, -, -, q5, -⟩ := wr_at W (A.2 x c hc)
  rw [← q5 fun q => by subst q; exact absurd (Array.getElem?_eq_some_iff.mp hc).1 (Nat.not_lt.mpr ha)]; exact q1⟩
theorem ext_keep {h h' h'' : Heap} {ws : List Addr} (A : Ext h h') (K : Keep h' h'' ws) (ha : ∀ x ∈ ws, h.size ≤ x) : Ext h h'' := ⟨Nat.le_trans A.1 K.1, fun x c hc => K.2.1 x c (A.2 x c hc) fun q => absurd (Array.getElem?_eq_some_iff.mp hc).1 (Nat.not_lt.mpr (ha x q))⟩
theorem keep_ext {h h' : Heap} (K : Keep h h' []) : Ext h h' := ⟨K.1, fun x c hc => K.2.1 x c hc nin0⟩
theorem n32_toInt {i : Nat} (h : i < 2 ^ 31) : (Int32.ofNat i).toInt = (i : Int) := Int32.toInt_ofNat_small h
theorem n32_lt {i n : Nat} (hi : i < 2 ^ 31) (hn : n < 2 ^ 31) : Int32.ofNat i < Int32.ofNat n ↔ i < n := by
  rw [Int32.lt_iff_toInt_lt, n32_toInt hi, n32_toInt hn]; omega
theorem n32_eq {i n : Nat} (hi : i < 2 ^ 31) (hn : n < 2 ^ 31) : Int32.ofNat i = Int32.ofNat n ↔ i = n := by
  rw [← Int32.toInt_inj, n32_toInt hi, n32_toInt hn]; omega
theorem n32_add (i k : Nat) : Int32.ofNat i + Int32.ofNat k = Int32.ofNat (i + k) := by simp [Int32.ofNat_add]
theorem n32_succ (i : Nat) : Int32.ofNat i + 1 = Int32.ofNat (i + 1) := n32_add i 1
theorem chv_toInt (u : UInt16) : (chv u).toInt = (u.toNat : Int) := by
  have hu := u.toNat_lt
  have : (chv u) = Int32.ofNat u.toNat := by
    apply Int32.toBitVec_inj.mp
    apply BitVec.eq_of_toNat_eq
    simp [chv]
  rw [this, n32_toInt (by omega)]
theorem chv_inj {u v : UInt16} (h : chv u = chv v) : u = v := by
  have := congrArg Int32.toInt h
  rw [chv_toInt, chv_toInt] at this
  exact UInt16.toNat_inj.mp (by omega)
theorem chv_gt (u : UInt16) : (255 : Int32) < chv u ↔ ¬ u < 256 := by
  rw [Int32.lt_iff_toInt_lt, chv_toInt, UInt16.lt_iff_toNat_lt]
  show (255 : Int) < _ ↔ ¬ _ < 256
  omega
theorem chv_nar (u : UInt16) : nar .char (chv u) = chv u := by
  show (chv u).toUInt32.toUInt16.toUInt32.toInt32 = chv u
  simp [chv]
theorem chv_lo8 (u : UInt16) : nar .byte (chv u) = lo8 u := by
  have e : (chv u).toInt8 = u.toUInt8.toInt8 := by
    apply Int8.toBitVec_inj.mp
    simp [chv]
    rw [BitVec.signExtend_eq_setWidth_of_le _ (by decide), BitVec.setWidth_setWidth_of_le _ (by decide)]
  show (chv u).toInt8.toInt32 = u.toUInt8.toInt8.toInt32
  rw [e]
theorem nar_i2b (x : Int32) : nar .byte (x.toInt8.toInt32) = x.toInt8.toInt32 := by
  show (x.toInt8.toInt32).toInt8.toInt32 = _
  simp
theorem lat_iff (us : List UInt16) : lat us = true ↔ ∀ (i : Nat) (u : UInt16), us[i]? = some u → u < 256 := by
  simp only [lat, List.all_eq_true, decide_eq_true_eq]
  constructor
  · intro h i u hu; exact h u (List.mem_of_getElem? hu)
  · intro h u hu
    obtain ⟨i, hi⟩ := List.getElem?_of_mem hu
    exact h i u hi
end Jvm.OwnW
namespace Jvm.OwnW
open Jvm Jvm.ClassFile Sem Op Lib Jvm.Free Jvm.Stand Jvm.LawKit Jvm.RoadKit Bundle
theorem ArI.ne {Z : State} {h : Heap} {a b : Addr} {ty ty' : FieldType} {xs ys : List Int32} (A : ArI Z h a ty xs) (B : ArI Z h b ty' ys) (hne : ty ≠ ty') : a ≠ b := fun e => by
  subst e
  obtain ⟨c, A, -⟩ := A
  obtain ⟨c', B, -⟩ := B
  cases A.1.symm.trans B.1
  obtain ⟨-, k, hk, comp, hkind⟩ := A.2.1
  obtain ⟨-, k', hk', comp', hkind'⟩ := B.2.1
  cases hk.symm.trans hk'
  rw [hkind] at hkind'
  cases hkind'
  exact hne rfl
theorem ArI.uniq {Z : State} {h : Heap} {a : Addr} {ty ty' : FieldType} {xs ys : List Int32} (A : ArI Z h a ty xs) (B : ArI Z h a ty' ys) : xs = ys := by
  obtain ⟨c, A, r, -⟩ := A
  obtain ⟨c', B, r', -⟩ := B
  cases A.1.symm.trans B.1
  rw [r] at r'
  have := congrArg Array.toList r'
  simp only [List.toList_toArray] at this
  exact List.map_inj_right (fun _ _ h => Value.int.inj h) |>.mp this
theorem Fld.uniq {Z : State} {h : Heap} {a : Addr} {C n d : String} {v w : Value} (F : Fld Z h a C n d v) (G : Fld Z h a C n d w) : v = w := by
  obtain ⟨c, cf, k, i, f, h1, h2, -, -, -, -, h7⟩ := F
  obtain ⟨c', cf', k', i', f', g1, g2, -, -, -, -, g7⟩ := G
  cases h1.symm.trans g1
  cases h2.symm.trans g2
  exact Option.some.inj (h7.symm.trans g7)
theorem lo8_toInt (u : UInt16) : (lo8 u).toInt = if u.toNat % 256 < 128 then ((u.toNat % 256 : Nat) : Int) else ((u.toNat % 256 : Nat) : Int) - 256 := by
  have h := c_i2b (chv u)
  have e : (chv u).toInt8.toInt32 = lo8 u := chv_lo8 u
  rw [e, chv_toInt] at h
  split <;> omega
theorem hi8_chv (u : UInt16) : hi8 u = (chv u >>> ((8 : Int32) &&& 31)).toInt8.toInt32 := by
  have e : (chv u >>> ((8 : Int32) &&& 31)) = chv (u >>> 8) := by
    apply Int32.toInt_inj.mp
    rw [c_ishr _ _ 8 (by decide), chv_toInt, chv_toInt, UInt16.toNat_shiftRight]
    simp [Nat.shiftRight_eq_div_pow]
  rw [e]
  exact (chv_lo8 _).symm
theorem hi8_toInt (u : UInt16) : (hi8 u).toInt = if u.toNat / 256 < 128 then ((u.toNat / 256 : Nat) : Int) else ((u.toNat / 256 : Nat) : Int) - 256 := by
  have hu := u.toNat_lt
  have e : hi8 u = lo8 (u >>> 8) := rfl
  have e2 : (u >>> 8).toNat = u.toNat / 256 := by
    rw [UInt16.toNat_shiftRight]; simp [Nat.shiftRight_eq_div_pow]
  rw [e, lo8_toInt, e2, Nat.mod_eq_of_lt (by omega)]
theorem chv_shr0 (u : UInt16) : (chv u >>> ((0 : Int32) &&& 31)).toInt8.toInt32 = lo8 u := by
  have e : (chv u >>> ((0 : Int32) &&& 31)) = chv u := by
    apply Int32.toInt_inj.mp
    rw [c_ishr _ _ 0 (by decide)]; simp
  rw [e]; exact chv_lo8 u
/-- StringUTF16.getChar's sum -/
theorem getChar_val (u : UInt16) : (((lo8 u &&& 255) <<< ((0 : Int32) &&& 31)) ||| ((hi8 u &&& 255) <<< ((8 : Int32) &&& 31))).toUInt32.toUInt16.toUInt32.toInt32 = chv u := by
  have hu := u.toNat_lt
  have m1 := c_mask (lo8 u) 255 8 (by decide) (by decide)
  have m2 := c_mask (hi8 u) 255 8 (by decide) (by decide)
  have s1 := c_ishl (lo8 u &&& 255) 0 0 (by decide)
  have s2 := c_ishl (hi8 u &&& 255) 8 8 (by decide)
  have l1 := lo8_toInt u
  have l2 := hi8_toInt u
  generalize e1 : (lo8 u &&& 255) <<< ((0 : Int32) &&& 31) = A at *
  generalize e2 : (hi8 u &&& 255) <<< ((8 : Int32) &&& 31) = Bv at *
  have r1 := rng32 A
  have r2 := rng32 Bv
  have k1 : (lo8 u &&& 255).toInt = (u.toNat % 256 : Nat) := by rw [m1, l1]; split <;> omega
  have k2 : (hi8 u &&& 255).toInt = (u.toNat / 256 : Nat) := by rw [m2, l2]; split <;> omega
  rw [k1] at s1
  rw [k2] at s2
  have q := c_or' A Bv 8 (by decide) 256 (by decide) (by omega) (by omega) (by omega)
  have c := c_i2c (A ||| Bv)
  apply Int32.toInt_inj.mp
  rw [chv_toInt]
  have r3 := rng32 (A ||| Bv)
  omega
theorem n32_shl1 {i : Nat} (h : 2 * i < 2 ^ 31) : Int32.ofNat i <<< ((1 : Int32) &&& 31) = Int32.ofNat (2 * i) := by
  have s := c_ishl (Int32.ofNat i) 1 1 (by decide)
  apply Int32.toInt_inj.mp
  rw [n32_toInt h]
  rw [n32_toInt (by omega)] at s
  have r := rng32 (Int32.ofNat i <<< ((1 : Int32) &&& 31))
  omega
theorem b16_len (us : List UInt16) : (b16 us).length = 2 * us.length := by
  induction us with
  | nil => rfl
  | cons u us ih => simp only [b16, List.flatMap_cons, List.length_append, List.length_cons, List.length_nil] at ih ⊢; omega
theorem b16_app (us vs : List UInt16) : b16 (us ++ vs) = b16 us ++ b16 vs := by simp [b16]
theorem b16_get {us : List UInt16} {i : Nat} {u : UInt16} (h : us[i]? = some u) : (b16 us)[2 * i]? = some (lo8 u) ∧ (b16 us)[2 * i + 1]? = some (hi8 u) := by
  have hi : i < us.length := (List.getElem?_eq_some_iff.mp h).1
  have e : us = us.take i ++ u :: us.drop (i + 1) := by
    have hg : us[i] = u := (List.getElem?_eq_some_iff.mp h).2
    rw [← hg, List.getElem_cons_drop, List.take_append_drop]
  have hl : (b16 (us.take i)).length = 2 * i := by rw [b16_len, List.length_take]; omega
  have e2 : b16 us = b16 (us.take i) ++ (lo8 u :: hi8 u :: b16 (us.drop (i + 1))) := by
    conv => lhs; rw [e, b16_app]
    simp [b16]
  rw [e2]
  constructor
  · rw [List.getElem?_append_right (by omega), hl]; simp
  · rw [List.getElem?_append_right (by omega), hl, show 2 * i + 1 - 2 * i = 1 by omega]; simp
theorem lo8_inj {u v : UInt16} (hu : u < 256) (hv : v < 256) (h : lo8 u = lo8 v) : u = v := by
  have := congrArg Int32.toInt h
  rw [lo8_toInt, lo8_toInt] at this
  rw [UInt16.lt_iff_toNat_lt] at hu hv
  have h1 : u.toNat < 256 := hu
  have h2 : v.toNat < 256 := hv
  apply UInt16.toNat_inj.mp
  split at this <;> split at this <;> omega
theorem pair_inj {u v : UInt16} (h1 : lo8 u = lo8 v) (h2 : hi8 u = hi8 v) : u = v := by
  have a1 := congrArg Int32.toInt h1
  have a2 := congrArg Int32.toInt h2
  rw [lo8_toInt, lo8_toInt] at a1
  rw [hi8_toInt, hi8_toInt] at a2
  have b1 := u.toNat_lt
  have b2 := v.toNat_lt
  apply UInt16.toNat_inj.mp
  split at a1 <;> split at a1 <;> split at a2 <;> split at a2 <;> omega
theorem b16_inj : ∀ {us vs : List UInt16}, b16 us = b16 vs → us = vs
  | [], [], _ => rfl
  | [], v :: vs, h => by simp [b16] at h
  | u :: us, [], h => by simp [b16] at h
  | u :: us, v :: vs, h => by
    simp only [b16, List.flatMap_cons, List.cons_append, List.nil_append, List.cons.injEq] at h
    rw [pair_inj h.1 h.2.1, b16_inj (us := us) (vs := vs) h.2.2]
theorem lo8s_inj : ∀ {us vs : List UInt16}, lat us = true → lat vs = true → us.map lo8 = vs.map lo8 → us = vs
  | [], [], _, _, _ => rfl
  | [], v :: vs, _, _, h => by simp at h
  | u :: us, [], _, _, h => by simp at h
  | u :: us, v :: vs, h1, h2, h => by
    simp only [lat, List.all_cons, Bool.and_eq_true, decide_eq_true_eq] at h1 h2
    simp only [List.map_cons, List.cons.injEq] at h
    rw [lo8_inj h1.1 h2.1 h.1, lo8s_inj (us := us) (vs := vs) h1.2 h2.2 h.2]
theorem take_set {α : Type} {xs : List α} {ys : List α} {i : Nat} {x : α} (h1 : xs.length = i) (h2 : i < xs.length + ys.length) : (xs ++ ys).set i x = xs ++ x :: ys.drop 1 := by
  subst h1
  rw [List.set_append_right _ _ (Nat.le_refl _), Nat.sub_self]
  cases ys with
  | nil => simp at h2
  | cons y ys => rfl
theorem take_succ' {us : List UInt16} {i : Nat} {u : UInt16} (h : us[i]? = some u) : us.take (i + 1) = us.take i ++ [u] := by
  rw [List.take_add_one, h]; rfl
end Jvm.OwnW
namespace Jvm.OwnW
open Jvm Jvm.ClassFile Sem Op Lib Jvm.Free Jvm.Stand Jvm.LawKit Jvm.RoadKit Bundle
def cod (us : List UInt16) : Int32 := if lat us = true then 0 else 1
def byt (us : List UInt16) : List Int32 := if lat us = true then us.map lo8 else b16 us
theorem StrAt.open {Z : State} {h : Heap} {a t : Addr} {us : List UInt16} (S : StrAt Z h a t us) : Exa Z h a ST ∧ Fld Z h a ST "value" "[B" (.ref t) ∧ Fld Z h a ST "coder" "B" (.int (cod us)) ∧ ArI Z h t .byte (byt us) := by
  obtain ⟨h1, h2, h3⟩ := S
  refine ⟨h1, h2, ?_⟩
  rcases h3 with ⟨q, r⟩ | ⟨q, r⟩
  · simpa [cod, byt, q] using r
  · simpa [cod, byt, q] using r
theorem StrAt.mk {Z : State} {h : Heap} {a t : Addr} {us : List UInt16} (h1 : Exa Z h a ST) (h2 : Fld Z h a ST "value" "[B" (.ref t)) (h3 : Fld Z h a ST "coder" "B" (.int (cod us))) (h4 : ArI Z h t .byte (byt us)) : StrAt Z h a t us := by
  refine ⟨h1, h2, ?_⟩
  cases hl : lat us
  · exact Or.inr ⟨rfl, by simpa [cod, hl] using h3, by simpa [byt, hl] using h4⟩
  · exact Or.inl ⟨rfl, by simpa [cod, hl] using h3, by simpa [byt, hl] using h4⟩
theorem str_inj {us vs : List UInt16} (hc : cod us = cod vs) (hb : byt us = byt vs) : us = vs := by
  unfold cod at hc
  unfold byt at hb
  cases h1 : lat us <;> cases h2 : lat vs <;> simp [h1, h2] at hc hb
  · exact b16_inj hb
  · exact lo8s_inj h1 h2 hb
theorem StrAt.uniq {Z : State} {h : Heap} {a t t' : Addr} {us vs : List UInt16} (S : StrAt Z h a t us) (S' : StrAt Z h a t' vs) : us = vs := by
  obtain ⟨-, v1, c1, b1⟩ := S.open
  obtain ⟨-, v2, c2, b2⟩ := S'.open
  have e1 : t = t' := Value.ref.inj (Fld.uniq v1 v2)
  subst e1
  exact str_inj (Value.int.inj (Fld.uniq c1 c2)) (ArI.uniq b1 b2)
theorem byt_lt {Z : State} {h : Heap} {t : Addr} {us : List UInt16} (A : ArI Z h t .byte (byt us)) : us.length < 2 ^ 31 := by
  have := A.len
  unfold byt at this
  split at this
  · simpa using this
  · rw [b16_len] at this; omega
end Jvm.OwnW
namespace Jvm.OwnW
open Jvm Jvm.ClassFile Sem Op Lib Jvm.Free Jvm.Stand Jvm.LawKit Jvm.RoadKit Bundle
theorem n32_half {i : Nat} (h : 2 * i < 2 ^ 31) : Int32.ofNat (2 * i) >>> ((1 : Int32) &&& 31) = Int32.ofNat i := by
  apply Int32.toInt_inj.mp
  rw [c_ishr _ _ 1 (by decide), n32_toInt h, n32_toInt (by omega)]
  omega
theorem n32_sub {i k : Nat} (h : k ≤ i) (hi : i < 2 ^ 31) : Int32.ofNat i - Int32.ofNat k = Int32.ofNat (i - k) := by
  have d := c_isub (Int32.ofNat i) (Int32.ofNat k)
  have r := rng32 (Int32.ofNat i - Int32.ofNat k)
  apply Int32.toInt_inj.mp
  rw [n32_toInt (by omega)]
  rw [n32_toInt hi, n32_toInt (by omega)] at d
  omega
theorem lo8_and (u : UInt16) (h : u < 256) : (lo8 u &&& 255) = chv u := by
  have m1 := c_mask (lo8 u) 255 8 (by decide) (by decide)
  have l1 := lo8_toInt u
  rw [UInt16.lt_iff_toNat_lt] at h
  have h1 : u.toNat < 256 := h
  apply Int32.toInt_inj.mp
  rw [m1, chv_toInt, l1]
  split <;> omega
theorem chv_i2c (u : UInt16) : (chv u).toUInt32.toUInt16.toUInt32.toInt32 = chv u := chv_nar u
theorem cod_lat {us : List UInt16} (h : lat us = true) : cod us = 0 := if_pos h
theorem cod_utf {us : List UInt16} (h : lat us = false) : cod us = 1 := if_neg (by rw [h]; decide)
theorem byt_lat {us : List UInt16} (h : lat us = true) : byt us = us.map lo8 := if_pos h
theorem byt_utf {us : List UInt16} (h : lat us = false) : byt us = b16 us := if_neg (by rw [h]; decide)
theorem mem_lo8 {us : List UInt16} {c : UInt16} (hl : lat us = true) (hc : c < 256) : lo8 c ∈ us.map lo8 ↔ c ∈ us := by
  constructor
  · intro h
    obtain ⟨u, hu, e⟩ := List.mem_map.mp h
    have : u < 256 := by simp only [lat, List.all_eq_true, decide_eq_true_eq] at hl; exact hl u hu
    rw [← lo8_inj this hc e]; exact hu
  · exact fun h => List.mem_map_of_mem h
end Jvm.OwnW
namespace Jvm.OwnW
open Jvm Jvm.ClassFile Sem Op Lib Jvm.Free Jvm.Stand Jvm.LawKit Jvm.RoadKit Bundle
section Start
variable {s : State} {args : Array Value} {C n d : String} {x : Int32}
theorem sta_eq (w : (Jvm.Cond.eq (.static C n d) (.int x)).before args s = true) (wi : (Jvm.Cond.initializedFor C n d).before args s = true) : Sta s s.heap C n d (.int x) :=
  Sta.start (args := args) (Cond.eq_int w rfl) (Or.inl wi)
theorem sta_int (w : (Jvm.Cond.isInt (.static C n d)).before args s = true) (wi : (Jvm.Cond.initializedFor C n d).before args s = true) : ∃ z, Sta s s.heap C n d (.int z) ∧ (Term.static C n d).eval args s none [] s = some (.int z) := by
  obtain ⟨z, e⟩ := is_v (Cond.before_iff.mp w)
  exact ⟨z, Sta.start e (Or.inl wi), e⟩
theorem sta_nz {z : Int32} (e : (Term.static C n d).eval args s none [] s = some (.int z)) (w : (Jvm.Cond.not (.eq (.static C n d) (.int 0))).before args s = true) : ¬ z = 0 := fun q => by
  have h := not_v (Cond.before_iff.mp w)
  subst q
  have h2 : (Jvm.Cond.eq (Term.static C n d) (.int 0)).value args s none s [] = some true := eq_i e rfl rfl
  rw [h2] at h; cases h
theorem sta_ref {K : String} (w : (Jvm.Cond.exactly (.static C n d) K).before args s = true) (wi : (Jvm.Cond.initializedFor C n d).before args s = true ∨ ((Jvm.Cond.initialized C).before args s = true ∧ (Jvm.Cond.laysStatic C n d).before args s = true)) : ∃ a, Sta s s.heap C n d (.ref a) ∧ Exa s s.heap a K ∧ (Term.static C n d).eval args s none [] s = some (.ref a) := by
  obtain ⟨a, e⟩ := exa_v (Cond.before_iff.mp w)
  exact ⟨a, Sta.start e wi, Exa.start e (Cond.before_iff.mp w), e⟩
theorem fld_null {t : Term} {a : Addr} (e : t.eval args s none [] s = some (.ref a)) (w : (Jvm.Cond.eq (.field t C n d) .null).before args s = true) : Fld s s.heap a C n d .null :=
  Fld.start (by have := null_v (Cond.before_iff.mp w); rw [fld_at e] at this; exact this)
theorem fld_int {t : Term} {a : Addr} (e : t.eval args s none [] s = some (.ref a)) (w : (Jvm.Cond.eq (.field t C n d) (.int x)).before args s = true) : Fld s s.heap a C n d (.int x) :=
  Fld.start (by have := Cond.eq_int w rfl; rw [fld_at e] at this; exact this)
theorem sta_any {ty : FieldType} (hf : Fit s) (w : (Jvm.Cond.laysStatic C n d).before args s = true) (wz : (Jvm.Cond.initialized C).before args s = true) (ht : parseFieldDescriptor d = some ty) : ∃ v, Sta s s.heap C n d v ∧ fits ty v = true := by
  obtain ⟨v, e, f⟩ := static_fit hf w ht
  exact ⟨v, Sta.start e (Or.inr ⟨wz, w⟩), f⟩
theorem kh_start {L : Lits} (h : ∀ q ∈ L, ConstHeldL s q.1 q.2.1) : KH s L s.vm s.heap [] := fun q hq c k cf i units a h1 h2 h3 h4 h5 h6 => by
  obtain ⟨sq, cS, r1, r2, r3, r4, r5⟩ := h q hq c k cf i units a h1 h2 h3 h4 h5 h6
  exact ⟨sq, cS, r1, r2, r3, r4, r5, List.not_mem_nil, List.not_mem_nil⟩
theorem inv_start {L : Lits} (hl : Links s L) (h : ∀ q ∈ L, ConstHeldL s q.1 q.2.1) : Inv s L s.vm s.heap [] :=
  ⟨State.Warmed39.refl s, ⟨Nat.le_refl _, fun _ _ q => q⟩, fun _ q => (nomatch q), hl, kh_start h⟩
end Start
end Jvm.OwnW
namespace Jvm.OwnW
open Jvm Jvm.ClassFile Sem Op Lib Jvm.Free Jvm.Stand Jvm.LawKit Jvm.RoadKit Bundle
section More
variable {R R' : Room} {Z : State} {L : Lits} {h0 h h' : Heap} {ws ws' mine0 mine : List Addr} {ce sl : Nat} {own : String} {code : ByteArray} {maxL : Nat} {ret : Option FieldType} {nm : String} {Q : Option Value → Heap → List Addr → Prop} {pc pc' : Nat} {Ls : List Slot} {rest argsL : List Value} {a0 : Array Value} {a : Addr}
  {y z : MethodName} {cb : ByteArray} {mL : Nat} {rt : Option FieldType} {Q' : Option Value → Heap → List Addr → Prop} {idx : Nat} {as : Array Value}
theorem WP.tsw {dflt low high : Int} {offs : Array Int} {len : Nat} {o : Int} {i : Int32} (hd : decode code pc = .ok (.tableswitch dflt low high offs, len)) (hin : ¬ (i.toInt < low ∨ i.toInt > high)) (hoff : offs[(i.toInt - low).toNat]? = some o) (ho : 0 ≤ (pc : Int) + o) (hp : ((pc : Int) + o).toNat = pc')
    (K : WP own code maxL ret nm R Z L h0 ws mine0 Q mine ce sl h pc' Ls rest) : WP own code maxL ret nm R Z L h0 ws mine0 Q mine ce sl h pc Ls (.int i :: rest) :=
  K.pure1 fun p e below T m c t h hx hc hr => XS.tswIn h hx rfl rfl (hb hc hd) rfl hin hoff ho hp hr
theorem WP.tswD {dflt low high : Int} {offs : Array Int} {len : Nat} {i : Int32} (hd : decode code pc = .ok (.tableswitch dflt low high offs, len)) (hout : i.toInt < low ∨ i.toInt > high) (ho : 0 ≤ (pc : Int) + dflt) (hp : ((pc : Int) + dflt).toNat = pc')
    (K : WP own code maxL ret nm R Z L h0 ws mine0 Q mine ce sl h pc' Ls rest) : WP own code maxL ret nm R Z L h0 ws mine0 Q mine ce sl h pc Ls (.int i :: rest) :=
  K.pure1 fun p e below T m c t h hx hc hr => XS.tswOut h hx rfl rfl (hb hc hd) rfl hout ho hp hr
/-- invokevirtual of a method that a superclass declares -/
theorem WP.callVU {Cl owner : String} (C : Con z cb mL rt R' Z L [] (.ref a :: argsL).toArray h ws' mine Q') (E : Exa Z h a Cl) (wl : (Jvm.Cond.methodLink own idx y).before a0 Z = true) (wsm : (Jvm.Cond.sameMethod y.cls owner y.name y.desc).before a0 Z = true) (wd : (Jvm.Cond.declares ⟨owner, y.name, y.desc⟩).before a0 Z = true) (wsel : (Jvm.Cond.selects Cl y z).before a0 Z = true) (wi : (Jvm.Cond.instanceMethod z).before a0 Z = true) (wz : (Jvm.Cond.initialized z.cls).before a0 Z = true) (wc : (Jvm.Cond.code z cb mL rt).before a0 Z = true)
    (hd : decode code pc = .ok (.invokevirtual idx, 3)) (hy : owner ≠ "java/lang/invoke/MethodHandle" ∧ owner ≠ "java/lang/invoke/VarHandle") {sig : MethodDescriptor} (hsig : parseMethodDescriptor y.desc = some sig) (hlen : argsL.length = sig.parameters.length) {st : List Value} (hst : st = argsL.reverse ++ .ref a :: rest) (hLs : Ls.length = maxL)
    (hf : R'.frames + 1 ≤ R.frames) (hl : (rest.map fun v => v.category).sum + (mL + 11) + R'.locals ≤ R.locals) (hc : ce + R'.cells ≤ R.cells) (hs : sl + R'.slots ≤ R.slots) (hw : ∀ x ∈ ws', x ∈ ws ∨ h0.size ≤ x) (hp : pc + 3 = pc')
    (K : ∀ v h' nw, Keep h h' ws' → (∀ x ∈ nw, h.size ≤ x) → Q' v h' nw → WP own code maxL ret nm R Z L h0 ws mine0 Q (nw ++ mine) (ce + R'.cells) (sl + R'.slots) h' pc' Ls (v.toList ++ rest)) :
    WP own code maxL ret nm R Z L h0 ws mine0 Q mine ce sl h pc Ls st := by
  intro p l e s m args below meth c B T locs X hT
  subst hp hst
  obtain ⟨cq, kq, qa, qb, qc⟩ := isOf (s := s.setVm T.vm) X.warm hT E
  obtain ⟨v, vm₁, Bp, hW, Y, hS, hg, ⟨L', nw, q1, q2, q3, q4, q5, q6, q7, q8⟩, st⟩ := virtualBackUpS X.1 B.1 (X.hown B) (mv X.warm wl) (mv X.warm wsm) (mv X.warm wd) hy (mv X.warm wsel) (mv X.warm wi) (C.back X.warm wc wz hf hl) qa qc (g := mkF m pc Ls.toArray (argsL.reverse ++ .ref a :: rest)) rfl (by simp [hLs, B.2.2.1]) (Steps.refl _) (argsL := argsL) (rest := rest) (fun sg h => by rw [hsig] at h; cases h; exact hlen) rfl (by simp) (hb B.2.1 hd)
    (fun vm₁ hv => ⟨rfl, hT, by show Inv Z L vm₁ T.heap mine; exact X.2.2.2.2.go (U := s.setVm T.vm) rfl hv (Nat.le_refl _) (fun _ _ hc _ => hc) (fun _ hx => Or.inl hx), hc, hs⟩)
  exact (K v Bp.U.heap nw q5 q6 q8 p l e s m args below meth c B Bp.U _ (X.called hT Y hS hg q1 q2 q3 q4 q5 q7 hw) rfl).step fun t hr => st.trans hr
/-- invokevirtual of a private method -/
theorem WP.callP {n : Nat} (C : Con y cb mL rt R' Z L [] (.ref a :: argsL).toArray h ws' mine Q') (F : ∃ c : Cell, h[a]? = some c ∧ ∀ q, c.vm ≠ .statics q) (wl : (Jvm.Cond.methodLink own idx y).before a0 Z = true) (wi : (Jvm.Cond.instanceMethod y).before a0 Z = true) (wp : (Jvm.Cond.privateMethod y).before a0 Z = true) (win : (Jvm.Cond.instantiable y.cls n).before a0 Z = true) (wz : (Jvm.Cond.initialized y.cls).before a0 Z = true) (wc : (Jvm.Cond.code y cb mL rt).before a0 Z = true)
    (hd : decode code pc = .ok (.invokevirtual idx, 3)) (hy : y.cls ≠ "java/lang/invoke/MethodHandle" ∧ y.cls ≠ "java/lang/invoke/VarHandle") {sig : MethodDescriptor} (hsig : parseMethodDescriptor y.desc = some sig) (hlen : argsL.length = sig.parameters.length) {st : List Value} (hst : st = argsL.reverse ++ .ref a :: rest) (hLs : Ls.length = maxL)
    (hf : R'.frames + 1 ≤ R.frames) (hl : (rest.map fun v => v.category).sum + (mL + 11) + R'.locals ≤ R.locals) (hc : ce + R'.cells ≤ R.cells) (hs : sl + R'.slots ≤ R.slots) (hw : ∀ x ∈ ws', x ∈ ws ∨ h0.size ≤ x) (hp : pc + 3 = pc')
    (K : ∀ v h' nw, Keep h h' ws' → (∀ x ∈ nw, h.size ≤ x) → Q' v h' nw → WP own code maxL ret nm R Z L h0 ws mine0 Q (nw ++ mine) (ce + R'.cells) (sl + R'.slots) h' pc' Ls (v.toList ++ rest)) :
    WP own code maxL ret nm R Z L h0 ws mine0 Q mine ce sl h pc Ls st := by
  intro p l e s m args below meth c B T locs X hT
  subst hp hst
  obtain ⟨cl, hcl, hst⟩ := F
  have win' := mv (args := args) X.warm win
  obtain ⟨ci, ki, hci, hki, -, hab, -⟩ := Cond.instantiable_spec (first := s.setVm T.vm) (o := none) (idx := []) win'
  have hni : ki.isInterface = false := (Bool.or_eq_false_iff.mp hab).1
  have hpv : (s.setVm T.vm).PrivateAt y := Cond.privateMethod_at (args := args) (mvP X.warm wp)
  obtain ⟨v, vm₁, Bp, hW, Y, hS, hg, ⟨L', nw, q1, q2, q3, q4, q5, q6, q7, q8⟩, st⟩ := privateBackS X.1 B.1 (X.hown B) (mv X.warm wl) (mv X.warm wi) (selects_self_of_private hci hki hni hpv (mv X.warm wi) hy) hpv (mv X.warm wc) hy (C.back X.warm wc wz hf hl) (g := mkF m pc Ls.toArray (argsL.reverse ++ .ref a :: rest)) rfl (by simp [hLs, B.2.2.1]) (Steps.refl _) (a := a) (cell := cl) (by rw [hT]; exact hcl) hst (argsL := argsL) (rest := rest) (fun sg h => by rw [hsig] at h; cases h; exact hlen) rfl (by simp) (hb B.2.1 hd)
    (fun vm₁ hv => ⟨rfl, hT, by show Inv Z L vm₁ T.heap mine; exact X.2.2.2.2.go (U := s.setVm T.vm) rfl hv (Nat.le_refl _) (fun _ _ hc _ => hc) (fun _ hx => Or.inl hx), hc, hs⟩)
  exact (K v Bp.U.heap nw q5 q6 q8 p l e s m args below meth c B Bp.U _ (X.called hT Y hS hg q1 q2 q3 q4 q5 q7 hw) rfl).step fun t hr => st.trans hr
end More
section Facts
variable {Z : State} {h h' : Heap} {a b : Addr} {C n d : String} {v w : Value} {sl : Nat} {args : Array Value} {t u : Term}
/-- after a write the field still has some value -/
theorem fld_some (F : ∃ v, Fld Z h b C n d v) (W : Wr h h' a sl w) : ∃ v', Fld Z h' b C n d v' := by
  obtain ⟨v, F⟩ := F
  by_cases e : b = a
  · subst e
    by_cases q : Jvm.RoadKit.slotOf Z C n d = sl
    · subst q; exact ⟨w, F.same W⟩
    · exact ⟨v, F.other W (Or.inr q)⟩
  · exact ⟨v, F.other W (Or.inl e)⟩
theorem fld_ref {K : String} (e : t.eval args Z none [] Z = some (.ref a)) (w : (Jvm.Cond.exactly (.field t C n d) K).value args Z none Z [] = some true) : ∃ b, Fld Z Z.heap a C n d (.ref b) ∧ Exa Z Z.heap b K ∧ (Term.field t C n d).eval args Z none [] Z = some (.ref b) := by
  obtain ⟨b, eb⟩ := exa_v w
  exact ⟨b, Fld.start (by rw [← fld_at e]; exact eb), Exa.start eb w, eb⟩
theorem len_lt {c : Cell} (e : t.eval args Z none [] Z = some (.ref a)) (e2 : Z.arrayAt? a = some c) (el : (Term.length t).eval args Z none [] Z = some v) : c.slots.size < 2 ^ 31 := by
  simp only [Term.eval, Option.bind_eq_bind, e, Option.bind_some, e2] at el
  split at el
  · assumption
  · cases el
theorem fld_arr0 {ty : FieldType} (e : t.eval args Z none [] Z = some (.ref a)) (w : (Jvm.Cond.arrayOf (.field t C n d) ty).value args Z none Z [] = some true) (wl : (Jvm.Cond.eq (.length (.field t C n d)) (.int 0)).value args Z none Z [] = some true) : ∃ b, Fld Z Z.heap a C n d (.ref b) ∧ ArI Z Z.heap b ty [] := by
  obtain ⟨b, eb⟩ := arr_v w
  obtain ⟨c, A⟩ := Arr.start eb w
  have el := Cond.eq_int (Cond.before_iff.mpr wl) rfl
  obtain ⟨b', c', e1, e2, e3⟩ := Term.length_spec el
  cases eb.symm.trans e1
  have ec : c' = c := by
    have := Arr.fin (Vm.Alike.refl _) A
    rw [this] at e2; exact (Option.some.inj e2).symm
  subst ec
  have hb : c'.slots.size < 2 ^ 31 := by
    exact len_lt eb e2 el
  have hz : c'.slots.size = 0 := by
    have q : Int32.ofNat c'.slots.size = Int32.ofNat 0 := (Value.int.inj e3).symm
    exact (n32_eq hb (by omega)).mp q
  refine ⟨b, Fld.start (by rw [← fld_at e]; exact eb), c', A, ?_, by simp⟩
  simpa using hz
theorem fld_same (e : t.eval args Z none [] Z = some (.ref a)) (eu : u.eval args Z none [] Z = some (.ref b)) (w : (Jvm.Cond.eq (.field t C n d) u).value args Z none Z [] = some true) : Fld Z Z.heap a C n d (.ref b) := by
  refine Fld.start ?_
  rw [← fld_at e]
  cases hf : (Term.field t C n d).eval args Z none [] Z with
  | none => simp [Cond.value, hf] at w
  | some x => cases x <;> simp [Cond.value, hf, eu] at w; rw [w]
/-- a static that holds a reference -/
theorem sta_isref (w : (Jvm.Cond.isRef (.static C n d)).before args Z = true) (wi : (Jvm.Cond.initializedFor C n d).before args Z = true) : ∃ v, Sta Z Z.heap C n d v ∧ v.isRef = true := by
  obtain ⟨v, e, hv⟩ := isR_v (Cond.before_iff.mp w)
  exact ⟨v, Sta.start e (Or.inl wi), hv⟩
end Facts
/-- cs with us laid over it from k on -/
def ovr (cs : List Int32) (k : Nat) (us : List UInt16) : List Int32 := cs.take k ++ us.map chv ++ cs.drop (k + us.length)
theorem ovr_len {cs : List Int32} {k : Nat} {us : List UInt16} (h : k + us.length ≤ cs.length) : (ovr cs k us).length = cs.length := by
  simp [ovr, List.length_take, List.length_drop]; omega
theorem ovr_nil {cs : List Int32} {k : Nat} : ovr cs k [] = cs := by simp [ovr]
theorem ovr_set {cs : List Int32} {k i : Nat} {us : List UInt16} {u : UInt16} (hu : us[i]? = some u) (h : k + us.length ≤ cs.length) : (ovr cs k (us.take i)).set (k + i) (chv u) = ovr cs k (us.take (i + 1)) := by
  have hi : i < us.length := (List.getElem?_eq_some_iff.mp hu).1
  have l1 : (cs.take k ++ (us.take i).map chv).length = k + i := by simp [List.length_take]; omega
  unfold ovr
  rw [take_set l1 (by rw [l1]; simp [List.length_take, List.length_drop]; omega), take_succ' hu]
  have l2 : (us.take i ++ [u]).length = i + 1 := by simp [List.length_take]; omega
  have l3 : (us.take i).length = i := by simp [List.length_take]; omega
  rw [l2, l3]
  simp [List.drop_drop, Nat.add_assoc]
theorem ovr_get {cs : List Int32} {k i : Nat} {us : List UInt16} (h : k + us.length ≤ cs.length) : (ovr cs k us)[i]? = if i < k then cs[i]? else if i < k + us.length then (us[i - k]?).map chv else cs[i]? := by
  unfold ovr
  have lk : (cs.take k).length = k := by simp [List.length_take]; omega
  split
  · rename_i q
    rw [List.append_assoc, List.getElem?_append_left (by rw [lk]; exact q), List.getElem?_take_of_lt q]
  · rename_i q
    split
    · rename_i q2
      rw [List.append_assoc, List.getElem?_append_right (by rw [lk]; omega), List.getElem?_append_left (by rw [lk]; simp; omega), lk]; simp
    · rename_i q2
      rw [List.getElem?_append_right (by simp [lk]; omega), List.getElem?_drop]
      congr 1
      simp [lk]; omega
/-- us stands in bs from off on -/
def SubC (bs : List Int32) (off : Nat) (us : List UInt16) : Prop := off + us.length ≤ bs.length ∧ ∀ (i : Nat) (u : UInt16), us[i]? = some u → bs[off + i]? = some (chv u)
theorem SubC.full (us : List UInt16) : SubC (us.map chv) 0 us := ⟨by simp, fun i u hu => by simp [hu]⟩
section Copy
variable {Z : State} {h : Heap} {a b : Addr} {ty : FieldType} {xs ys : List Int32}
theorem ArI.arv (A : ArI Z h a ty xs) (hf : ∀ x ∈ xs, fits ty (.int x) = true) : ∃ k, Arv Z h a k ty (Int32.ofNat xs.length) (xs.map Value.int) (.int 0) := by
  obtain ⟨c, A', r1, r2⟩ := A
  have hs : c.slots.size = xs.length := by rw [r1]; simp
  refine ⟨c.cls, c, A', rfl, by rw [hs, nat_clamp (n32_toInt r2)], ?_, fun k hk => ?_, fun i hi => ?_⟩
  · rw [Int32.lt_iff_toInt_lt, n32_toInt r2]; simp
  · rw [r1]
    have : k < xs.length := hs ▸ hk
    simp [List.getD_eq_getElem?_getD, this]
  · have hi' : i < xs.length := hs ▸ hi
    simp [List.getD_eq_getElem?_getD, hi']
    exact hf _ (List.getElem_mem hi')
theorem ArI.ofArv {k : ClassId} {n : Int32} {dd : Value} (A : Arv Z h a k ty n (xs.map Value.int) dd) (hn : n.toNatClampNeg = xs.length) (hl : xs.length < 2 ^ 31) : ArI Z h a ty xs := by
  obtain ⟨c, A', -, hs, -, hH, -⟩ := A
  refine ⟨c, A', ?_, hl⟩
  rw [hn] at hs
  apply Array.ext_getElem?
  intro i
  by_cases hi : i < c.slots.size
  · rw [hH i hi]
    have hi' : i < xs.length := hs ▸ hi
    simp [List.getD_eq_getElem?_getD, hi']
  · rw [Array.getElem?_eq_none (by omega), Array.getElem?_eq_none (by simp; omega)]
variable {R : Room} {L : Lits} {h0 : Heap} {ws mine0 mine : List Addr} {ce sl : Nat} {own : String} {code : ByteArray} {maxL : Nat} {ret : Option FieldType} {nm : String} {Q : Option Value → Heap → List Addr → Prop} {pc pc' : Nat} {Ls : List Slot} {rest : List Value} {a0 : Array Value} {idx : Nat}
theorem WP.arraycopy {i j n : Nat} {W : Nat} {sp dp nn : Int32} (w1 : (Jvm.Cond.methodLink own idx Jvm.Stand.acN).before a0 Z = true) (w2 : (Jvm.Cond.native Jvm.Stand.acN).before a0 Z = true) (w3 : (Jvm.Cond.static Jvm.Stand.acN).before a0 Z = true) (w4 : (Jvm.Cond.initialized "java/lang/System").before a0 Z = true) (hd : decode code pc = .ok (.invokestatic idx, 3))
    (A : ArI Z h a ty xs) (B : ArI Z h b ty ys) (hty : refKind ty = false) (hfx : ∀ x ∈ xs, fits ty (.int x) = true) (hfy : ∀ y ∈ ys, fits ty (.int y) = true) (hsp : sp.toInt = (i : Int)) (hdp : dp.toInt = (j : Int)) (hnn : nn.toInt = (n : Int)) (h1 : i + n ≤ xs.length) (h2 : j + n ≤ ys.length)
    (hm : b ∈ mine) (hw : b ∈ ws ∨ h0.size ≤ b) (hLs : Ls.length = maxL) (hf : 1 ≤ R.frames) (hW : (rest.map fun v => v.category).sum ≤ W) (hl : W + (nativeFrameWords "java/lang/System" "arraycopy" 5 + 11) ≤ R.locals) (hp : pc + 3 = pc')
    (K : ∀ h', Keep h h' [b] → ArI Z h' b ty (ys.take j ++ (xs.drop i).take n ++ ys.drop (j + n)) → WP own code maxL ret nm R Z L h0 ws mine0 Q mine ce sl h' pc' Ls rest) : WP own code maxL ret nm R Z L h0 ws mine0 Q mine ce sl h pc Ls (.int nn :: .int dp :: .ref b :: .int sp :: .ref a :: rest) := by
  intro p l e s m args below meth c B' T locs X hT
  subst hp
  obtain ⟨ka, A'⟩ := A.arv hfx
  obtain ⟨kb, Bv⟩ := B.arv hfy
  have ci := nat_clamp hsp
  have cj := nat_clamp hdp
  have cn := nat_clamp hnn
  have cx := nat_clamp (n32_toInt A.len)
  have cy := nat_clamp (n32_toInt B.len)
  have nn0 : ∀ {x : Int32} {k : Nat}, x.toInt = (k : Int) → ¬ x < 0 := fun {x k} q r => by rw [Int32.lt_iff_toInt_lt, q] at r; simp at r; omega
  obtain ⟨T', h', L', Y, eT, N, Kp, Cv, st⟩ := cpA (us := ((xs.drop i).take n).map Value.int) X.1 B'.1 X.warm (X.hown B') w1 w2 w3 w4 hT A' Bv (Or.inl ⟨rfl, hty⟩) (nn0 hsp) (nn0 hdp) (nn0 hnn) (by rw [ci, cn, cx]; exact h1) (by rw [cj, cn, cy]; exact h2)
    (by
      rw [ci, cn]
      apply List.ext_getElem?
      intro k
      by_cases hk : k < n
      · have : i + k < xs.length := by omega
        simp [List.getD_eq_getElem?_getD, hk, List.getElem?_take, List.getElem?_drop, this]
      · simp [hk, List.getElem?_take])
    (by rw [cj, cn]; simp; exact h2) X.2.2.1 (X.2.2.2.2.2.2.1 _ hm).1 (g := mkF m pc Ls.toArray (.int nn :: .int dp :: .ref b :: .int sp :: .ref a :: rest)) rfl (by simp [hLs, B'.2.2.1]) rfl (hb B'.2.1 hd) hf (W := W) (by simpa using hW) hl
  rw [cj, cn] at Cv
  have C : ArI Z h' b ty (ys.take j ++ (xs.drop i).take n ++ ys.drop (j + n)) := by
    have e : (ys.map Value.int).take j ++ ((xs.drop i).take n).map Value.int ++ (ys.map Value.int).drop (j + n) = (ys.take j ++ (xs.drop i).take n ++ ys.drop (j + n)).map Value.int := by simp [List.map_take, List.map_drop]
    rw [e] at Cv
    have hlen : (ys.take j ++ (xs.drop i).take n ++ ys.drop (j + n)).length = ys.length := by simp [List.length_take, List.length_drop]; omega
    exact ArI.ofArv Cv (by rw [cy, hlen]) (by rw [hlen]; exact B.len)
  subst hT
  subst eT
  refine (K _ Kp C p l e s m args below meth c B' T' _ (X.rebase Y N Kp.1 (fun x c hc hx => Kp.2.1 _ _ hc (fun q => hx ((List.mem_singleton.mp q) ▸ hm))) (fun x hx => Or.inl hx) (X.2.2.2.1.trans Kp (fun x hx => by cases List.mem_singleton.mp hx; exact hw))) rfl).step st
end Copy
section Chars
variable {R : Room} {Z : State} {L : Lits} {h0 h : Heap} {ws mine0 mine : List Addr} {ce sl : Nat} {own : String} {code : ByteArray} {maxL : Nat} {ret : Option FieldType} {nm : String} {Q : Option Value → Heap → List Addr → Prop} {pc pc' : Nat} {Ls : List Slot} {rest : List Value} {a : Addr}
/-- castore of whatever: some unit stands there -/
theorem WP.castoreU {xs : List Int32} {i : Nat} {j x : Int32} (hd : decode code pc = .ok (.castore, 1)) (A : ArI Z h a .char xs) (hj : j.toInt = (i : Int)) (hi : i < xs.length) (hm : a ∈ mine) (hw : a ∈ ws ∨ h0.size ≤ a) (hp : pc + 1 = pc')
    (K : ∀ h' u, Wr h h' a i (.int (chv u)) → ArI Z h' a .char (xs.set i (chv u)) → WP own code maxL ret nm R Z L h0 ws mine0 Q mine ce sl h' pc' Ls rest) : WP own code maxL ret nm R Z L h0 ws mine0 Q mine ce sl h pc Ls (.int x :: .int j :: .ref a :: rest) :=
  WP.castore hd A hj hi hm hw hp fun h' W A' => K h' x.toUInt32.toUInt16 W A'
theorem chv_fits (u : UInt16) : fits .char (.int (chv u)) = true := by
  have e := chv_toInt u
  have l : u.toNat < 65536 := u.toNat_lt
  simp only [fits, Bool.and_eq_true, decide_eq_true_eq, Int32.le_iff_toInt_le]
  have e0 : (0 : Int32).toInt = 0 := rfl
  have e1 : (65535 : Int32).toInt = 65535 := rfl
  omega
theorem ovr_fits {cs : List Int32} {k : Nat} {us : List UInt16} (h : ∀ x ∈ cs, fits .char (.int x) = true) : ∀ x ∈ ovr cs k us, fits .char (.int x) = true := fun x hx => by
  unfold ovr at hx
  rcases List.mem_append.mp hx with hx | hx
  · rcases List.mem_append.mp hx with hx | hx
    · exact h x (List.mem_of_mem_take hx)
    · obtain ⟨u, -, rfl⟩ := List.mem_map.mp hx; exact chv_fits u
  · exact h x (List.mem_of_mem_drop hx)
end Chars
end Jvm.OwnW
namespace Jvm.Pilot.@@N@@
open Jvm Jvm.ClassFile Sem Op Lib Jvm.Free Jvm.Stand Jvm.LawKit Jvm.RoadKit Bundle Jvm.Pilot.@@N@@.Jvm.D Jvm.OwnW
def LT : Lits := [("java/lang/String", 7, "")]
theorem pdx0 : parseMethodDescriptor "(I)I" = some ⟨[.int], some .int⟩ := by decide +kernel
theorem pdx1 : parseMethodDescriptor "([BII)V" = some ⟨[(.array .byte), .int, .int], none⟩ := by decide +kernel
theorem pdx2 : parseMethodDescriptor "(I)[B" = some ⟨[.int], some (.array .byte)⟩ := by decide +kernel
theorem pdx3 : parseMethodDescriptor "([CI[BII)I" = some ⟨[(.array .char), .int, (.array .byte), .int, .int], some .int⟩ := by decide +kernel
theorem pdx4 : parseMethodDescriptor "([CII)[B" = some ⟨[(.array .char), .int, .int], some (.array .byte)⟩ := by decide +kernel
theorem pdx5 : parseMethodDescriptor "([BI)C" = some ⟨[(.array .byte), .int], some .char⟩ := by decide +kernel
theorem pdx6 : parseMethodDescriptor "([BI)B" = some ⟨[(.array .byte), .int], some .byte⟩ := by decide +kernel
theorem pdx7 : parseMethodDescriptor "([CIILjava/lang/Void;)V" = some ⟨[(.array .char), .int, .int, (.object "java/lang/Void")], none⟩ := by decide +kernel
theorem atoms {Z : State} {a0 : Array Value} (hw : ∀ d ∈ tables_1, d.before a0 Z = true) : ∀ a ∈ Bundle.stringAtoms, a.before a0 Z = true := by
  intro a ha
  simp only [Bundle.stringAtoms, Bundle.sN, List.mem_cons, List.not_mem_nil, or_false] at ha
  rcases ha with rfl | rfl | rfl | rfl | rfl | rfl | rfl
  all_goals first | exact (hw _ (List.mem_of_getElem? (i := 6) rfl)) | exact (hw _ (List.mem_of_getElem? (i := 7) rfl)) | exact (hw _ (List.mem_of_getElem? (i := 19) rfl)) | exact (hw _ (List.mem_of_getElem? (i := 20) rfl)) | exact (hw _ (List.mem_of_getElem? (i := 21) rfl)) | exact (hw _ (List.mem_of_getElem? (i := 22) rfl)) | exact (hw _ (List.mem_of_getElem? (i := 23) rfl))
def Compact (Z : State) (cz : Int32) : Prop := Sta Z Z.heap "java/lang/String" "COMPACT_STRINGS" "Z" (.int cz) ∧ ¬ cz = 0
def U16 (Z : State) : Prop := Sta Z Z.heap "java/lang/StringUTF16" "$assertionsDisabled" "Z" (.int 1) ∧ Sta Z Z.heap "java/lang/StringUTF16" "HI_BYTE_SHIFT" "I" (.int 0) ∧ Sta Z Z.heap "java/lang/StringUTF16" "LO_BYTE_SHIFT" "I" (.int 8)
abbrev HuA (Z : State) (us : List UInt16) : Prop := U16 Z
abbrev Hu (Z : State) (us : List UInt16) : Prop := HuA Z us
theorem Hu.a {Z : State} {us : List UInt16} (h : Hu Z us) : HuA Z us := h
def cu (x : Int32) : UInt16 := x.toUInt32.toUInt16
theorem lat_cu (a : Int32) : cu (a &&& 255) < 256 := by
  have m := c_mask a 255 8 (by decide) (by decide)
  have e := chv_toInt (cu (a &&& 255))
  have q := c_i2c (a &&& 255)
  rw [show ((a &&& 255).toUInt32.toUInt16.toUInt32.toInt32) = chv (cu (a &&& 255)) from rfl] at q
  rw [UInt16.lt_iff_toNat_lt]
  show _ < 256
  omega
abbrev R0 : Room := { frames := 0, cells := 0, slots := 0, locals := 0 }
section JdkStr
variable {Z : State} {a0 : Array Value} {h : Heap} {mine : List Addr}

theorem dCP5_0 : decode jdk_52_method_21_code 0 = .ok (.iconst 0, 1) := by decide +kernel
theorem dCP5_1 : decode jdk_52_method_21_code 1 = .ok (.istore 5, 2) := by decide +kernel
theorem dCP5_3 : decode jdk_52_method_21_code 3 = .ok (.iload 5, 2) := by decide +kernel
theorem dCP5_5 : decode jdk_52_method_21_code 5 = .ok (.iload 4, 2) := by decide +kernel
theorem dCP5_7 : decode jdk_52_method_21_code 7 = .ok (.if_icmp .ge 37, 3) := by decide +kernel
theorem dCP5_10 : decode jdk_52_method_21_code 10 = .ok (.aload_n 0, 1) := by decide +kernel
theorem dCP5_11 : decode jdk_52_method_21_code 11 = .ok (.iload_n 1, 1) := by decide +kernel
theorem dCP5_12 : decode jdk_52_method_21_code 12 = .ok (.caload, 1) := by decide +kernel
theorem dCP5_13 : decode jdk_52_method_21_code 13 = .ok (.istore 6, 2) := by decide +kernel
theorem dCP5_15 : decode jdk_52_method_21_code 15 = .ok (.iload 6, 2) := by decide +kernel
theorem dCP5_17 : decode jdk_52_method_21_code 17 = .ok (.sipush 255, 3) := by decide +kernel
theorem dCP5_20 : decode jdk_52_method_21_code 20 = .ok (.if_icmp .le 6, 3) := by decide +kernel
theorem dCP5_23 : decode jdk_52_method_21_code 23 = .ok (.iload 5, 2) := by decide +kernel
theorem dCP5_25 : decode jdk_52_method_21_code 25 = .ok (.ireturn, 1) := by decide +kernel
theorem dCP5_26 : decode jdk_52_method_21_code 26 = .ok (.aload_n 2, 1) := by decide +kernel
theorem dCP5_27 : decode jdk_52_method_21_code 27 = .ok (.iload_n 3, 1) := by decide +kernel
theorem dCP5_28 : decode jdk_52_method_21_code 28 = .ok (.iload 6, 2) := by decide +kernel
theorem dCP5_30 : decode jdk_52_method_21_code 30 = .ok (.i2b, 1) := by decide +kernel
theorem dCP5_31 : decode jdk_52_method_21_code 31 = .ok (.bastore, 1) := by decide +kernel
theorem dCP5_32 : decode jdk_52_method_21_code 32 = .ok (.iinc 1 1, 3) := by decide +kernel
theorem dCP5_35 : decode jdk_52_method_21_code 35 = .ok (.iinc 3 1, 3) := by decide +kernel
theorem dCP5_38 : decode jdk_52_method_21_code 38 = .ok (.iinc 5 1, 3) := by decide +kernel
theorem dCP5_41 : decode jdk_52_method_21_code 41 = .ok (.goto (-38), 3) := by decide +kernel
theorem dCP5_44 : decode jdk_52_method_21_code 44 = .ok (.iload 4, 2) := by decide +kernel
theorem dCP5_46 : decode jdk_52_method_21_code 46 = .ok (.ireturn, 1) := by decide +kernel
theorem pnCP5 : plainFor (⟨"java/lang/StringUTF16", "compress", "([CI[BII)I"⟩ : MethodName) = true := plainFor_of_name (by first | (simp [plainName, overriddenIn]; done) | decide +kernel)
set_option maxRecDepth 65536 in
set_option maxHeartbeats 40000000 in
theorem loop_CP5 {us : List UInt16} {xs : List Int32} {b d : Addr} {bs : List Int32} {off : Nat} (hx : xs.length = us.length) (hsub : SubC bs off us) (hbl : bs.length < 2 ^ 31) (hn : us.length < 2 ^ 31) (hm : d ∈ mine) (hbd : b ≠ d) :
    ∀ (r i : Nat), i + r = us.length → ∀ (h' : Heap) (o : Slot), one (some o) = true → ArI Z h' b .char bs → ArI Z h' d .byte ((us.take i).map lo8 ++ xs.drop i) → (∀ (j : Nat) (u : UInt16), j < i → us[j]? = some u → u < 256) →
    WP "java/lang/StringUTF16" jdk_52_method_21_code 7 (some .int) "compress" R0 Z LT h [d] mine (fun v h' nw => nw = [] ∧ ((lat us = true ∧ v = some (.int (Int32.ofNat us.length)) ∧ ArI Z h' d .byte (us.map lo8)) ∨ (lat us = false ∧ ∃ (k : Nat) (u : UInt16), us[k]? = some u ∧ ¬ u < 256 ∧ v = some (.int (Int32.ofNat k))))) mine 0 0 h' 3 [.val (.ref b), .val (.int (Int32.ofNat (off + i))), .val (.ref d), .val (.int (Int32.ofNat i)), .val (.int (Int32.ofNat us.length)), .val (.int (Int32.ofNat i)), o] [] := by
  intro r
  induction r with
  | zero =>
    intro i hi h' o ho A D hlt
    obtain rfl : i = us.length := by omega
    refine WP.iload (pc' := 5) dCP5_3 rfl rfl ?_
    refine WP.iload (pc' := 7) dCP5_5 rfl rfl ?_
    refine WP.icmpT (pc' := 44) dCP5_7 (by decide) (by decide) (fun q => Nat.lt_irrefl _ ((n32_lt hn hn).mp q)) ?_
    refine WP.iload (pc' := 46) dCP5_44 rfl rfl ?_
    refine WP.ireturn dCP5_46 rfl (Or.inl rfl) rfl ⟨rfl, Or.inl ⟨(lat_iff us).mpr fun j u hu => hlt j u (List.getElem?_eq_some_iff.mp hu).1 hu, rfl, ?_⟩⟩ (fun _ hx => nomatch hx) (fun _ hx => hx) (Nat.le_refl _) (Nat.le_refl _)
    have e : (us.take us.length).map lo8 ++ xs.drop us.length = us.map lo8 := by rw [List.take_length, ← hx, List.drop_length, List.append_nil]
    rw [e] at D; exact D
  | succ r ih =>
    intro i hi h' o ho A D hlt
    have hil : i < us.length := by omega
    obtain ⟨u, hu⟩ : ∃ u, us[i]? = some u := ⟨us[i], List.getElem?_eq_getElem hil⟩
    have hi31 : i < 2 ^ 31 := by omega
    have hoff := hsub.1
    refine WP.iload (pc' := 5) dCP5_3 rfl rfl ?_
    refine WP.iload (pc' := 7) dCP5_5 rfl rfl ?_
    refine WP.icmpF (pc' := 10) dCP5_7 rfl ((n32_lt hi31 hn).mpr hil) ?_
    refine WP.aloadN (pc' := 11) dCP5_10 rfl rfl rfl ?_
    refine WP.iloadN (pc' := 12) dCP5_11 rfl rfl ?_
    refine WP.caload (pc' := 13) dCP5_12 A (n32_toInt (by omega)) (x := chv u) (hsub.2 i u hu) rfl ?_
    refine WP.istore (pc' := 15) dCP5_13 ho rfl rfl ?_
    dsimp only [List.set]
    refine WP.iload (pc' := 17) dCP5_15 rfl rfl ?_
    refine WP.sipush (pc' := 20) (x := 255) dCP5_17 (by decide) rfl ?_
    by_cases h256 : u < 256
    · refine WP.icmpT (pc' := 26) dCP5_20 (by decide) (by decide) (fun q => (chv_gt u).mp q h256) ?_
      refine WP.aloadN (pc' := 27) dCP5_26 rfl rfl rfl ?_
      refine WP.iloadN (pc' := 28) dCP5_27 rfl rfl ?_
      refine WP.iload (pc' := 30) dCP5_28 rfl rfl ?_
      refine WP.i2b (pc' := 31) dCP5_30 rfl ?_
      refine WP.bastore (pc' := 32) dCP5_31 D (n32_toInt hi31) (by simp; omega) hm (Or.inl (List.mem_singleton.mpr rfl)) rfl ?_
      intro h2 W D2
      refine WP.iinc (pc' := 35) dCP5_32 rfl rfl rfl rfl ?_
      dsimp only [List.set]
      refine WP.iinc (pc' := 38) dCP5_35 rfl rfl rfl rfl ?_
      dsimp only [List.set]
      refine WP.iinc (pc' := 41) dCP5_38 rfl rfl rfl rfl ?_
      dsimp only [List.set]
      refine WP.goto (pc' := 3) dCP5_41 (by decide) (by decide) ?_
      have e1 : nar .byte ((chv u).toInt8.toInt32) = lo8 u := by rw [nar_i2b]; exact chv_lo8 u
      rw [e1, take_set (by simp; omega) (by simp; omega), List.drop_drop] at D2
      have e2 : (us.take (i + 1)).map lo8 ++ xs.drop (i + 1) = (us.take i).map lo8 ++ lo8 u :: xs.drop (i + 1) := by rw [take_succ' hu]; simp
      rw [show Int32.ofNat i + Int32.ofInt 1 = Int32.ofNat (i + 1) from n32_succ i, show Int32.ofNat (off + i) + Int32.ofInt 1 = Int32.ofNat (off + (i + 1)) from n32_succ (off + i)]
      refine ih (i + 1) (by omega) h2 _ rfl (A.other W hbd) (by rw [e2]; exact D2) fun j v hj hv => ?_
      rcases Nat.lt_succ_iff_lt_or_eq.mp hj with q | rfl
      · exact hlt j v q hv
      · cases hu.symm.trans hv; exact h256
    · refine WP.icmpF (pc' := 23) dCP5_20 rfl ((chv_gt u).mpr h256) ?_
      refine WP.iload (pc' := 25) dCP5_23 rfl rfl ?_
      refine WP.ireturn dCP5_25 rfl (Or.inl rfl) rfl ⟨rfl, Or.inr ⟨?_, i, u, hu, h256, rfl⟩⟩ (fun _ hx => nomatch hx) (fun _ hx => hx) (Nat.le_refl _) (Nat.le_refl _)
      exact Bool.eq_false_iff.mpr fun q => h256 ((lat_iff us).mp q i u hu)

set_option maxRecDepth 65536 in
set_option maxHeartbeats 40000000 in
theorem con_CP5 {us : List UInt16} {xs bs : List Int32} {off : Nat} {b d : Addr} (hsub : SubC bs off us) (A : ArI Z h b .char bs) (D : ArI Z h d .byte xs) (hx : xs.length = us.length) (hm : d ∈ mine) :
    Con (⟨"java/lang/StringUTF16", "compress", "([CI[BII)I"⟩ : MethodName) jdk_52_method_21_code 7 (some .int) R0 Z LT [] #[.ref b, .int (Int32.ofNat off), .ref d, .int 0, .int (Int32.ofNat us.length)] h [d] mine (fun v h' nw => nw = [] ∧ ((lat us = true ∧ v = some (.int (Int32.ofNat us.length)) ∧ ArI Z h' d .byte (us.map lo8)) ∨ (lat us = false ∧ ∃ (k : Nat) (u : UInt16), us[k]? = some u ∧ ¬ u < 256 ∧ v = some (.int (Int32.ofNat k))))) := by
  refine Con.of pnCP5 (Ls := [.val (.ref b), .val (.int (Int32.ofNat off)), .val (.ref d), .val (.int 0), .val (.int (Int32.ofNat us.length)), .unset, .unset]) (fun m => by first | (simp [entryFrame, mkF, argsToLocals, Value.category]; done) | (simp [entryFrame, mkF, argsToLocals, Value.category, maxLocals]; done) | rfl) ?_
  refine WP.iconst (pc' := 1) (x := 0) dCP5_0 (by decide) rfl ?_
  refine WP.istore (pc' := 3) dCP5_1 rfl rfl rfl ?_
  dsimp only [List.set]
  have hn : us.length < 2 ^ 31 := by have := A.len; have := hsub.1; omega
  exact loop_CP5 hx hsub A.len hn hm (A.ne D (by decide)) us.length 0 (by omega) h .unset rfl A (by simpa using D) (fun j u hj => absurd hj (Nat.not_lt_zero _))
theorem dNBL_0 : decode jdk_52_method_3_code 0 = .ok (.iload_n 0, 1) := by decide +kernel
theorem dNBL_1 : decode jdk_52_method_3_code 1 = .ok (.ifCond .ge 11, 3) := by decide +kernel
theorem dNBL_4 : decode jdk_52_method_3_code 4 = .ok (.new 17, 3) := by decide +kernel
theorem dNBL_7 : decode jdk_52_method_3_code 7 = .ok (.dup, 1) := by decide +kernel
theorem dNBL_8 : decode jdk_52_method_3_code 8 = .ok (.invokespecial 19, 3) := by decide +kernel
theorem dNBL_11 : decode jdk_52_method_3_code 11 = .ok (.athrow, 1) := by decide +kernel
theorem dNBL_12 : decode jdk_52_method_3_code 12 = .ok (.iload_n 0, 1) := by decide +kernel
theorem dNBL_13 : decode jdk_52_method_3_code 13 = .ok (.ldc 20, 2) := by decide +kernel
theorem dNBL_15 : decode jdk_52_method_3_code 15 = .ok (.if_icmp .lt 40, 3) := by decide +kernel
theorem dNBL_18 : decode jdk_52_method_3_code 18 = .ok (.new 21, 3) := by decide +kernel
theorem dNBL_21 : decode jdk_52_method_3_code 21 = .ok (.dup, 1) := by decide +kernel
theorem dNBL_22 : decode jdk_52_method_3_code 22 = .ok (.new 23, 3) := by decide +kernel
theorem dNBL_25 : decode jdk_52_method_3_code 25 = .ok (.dup, 1) := by decide +kernel
theorem dNBL_26 : decode jdk_52_method_3_code 26 = .ok (.invokespecial 25, 3) := by decide +kernel
theorem dNBL_29 : decode jdk_52_method_3_code 29 = .ok (.ldc 26, 2) := by decide +kernel
theorem dNBL_31 : decode jdk_52_method_3_code 31 = .ok (.invokevirtual 28, 3) := by decide +kernel
theorem dNBL_34 : decode jdk_52_method_3_code 34 = .ok (.iload_n 0, 1) := by decide +kernel
theorem dNBL_35 : decode jdk_52_method_3_code 35 = .ok (.invokevirtual 32, 3) := by decide +kernel
theorem dNBL_38 : decode jdk_52_method_3_code 38 = .ok (.ldc 35, 2) := by decide +kernel
theorem dNBL_40 : decode jdk_52_method_3_code 40 = .ok (.invokevirtual 28, 3) := by decide +kernel
theorem dNBL_43 : decode jdk_52_method_3_code 43 = .ok (.ldc 20, 2) := by decide +kernel
theorem dNBL_45 : decode jdk_52_method_3_code 45 = .ok (.invokevirtual 32, 3) := by decide +kernel
theorem dNBL_48 : decode jdk_52_method_3_code 48 = .ok (.invokevirtual 37, 3) := by decide +kernel
theorem dNBL_51 : decode jdk_52_method_3_code 51 = .ok (.invokespecial 41, 3) := by decide +kernel
theorem dNBL_54 : decode jdk_52_method_3_code 54 = .ok (.athrow, 1) := by decide +kernel
theorem dNBL_55 : decode jdk_52_method_3_code 55 = .ok (.iload_n 0, 1) := by decide +kernel
theorem dNBL_56 : decode jdk_52_method_3_code 56 = .ok (.iconst 1, 1) := by decide +kernel
theorem dNBL_57 : decode jdk_52_method_3_code 57 = .ok (.ishl, 1) := by decide +kernel
theorem dNBL_58 : decode jdk_52_method_3_code 58 = .ok (.ireturn, 1) := by decide +kernel
theorem pnNBL : plainFor (⟨"java/lang/StringUTF16", "newBytesLength", "(I)I"⟩ : MethodName) = true := plainFor_of_name (by first | (simp [plainName, overriddenIn]; done) | decide +kernel)
set_option maxRecDepth 65536 in
set_option maxHeartbeats 40000000 in
theorem con_NBL (hw : ∀ d ∈ tables_1, d.before a0 Z = true) {n : Nat} (hn : n < 1073741823) : Con (⟨"java/lang/StringUTF16", "newBytesLength", "(I)I"⟩ : MethodName) jdk_52_method_3_code 1 (some .int) R0 Z LT [] #[.int (Int32.ofNat n)] h [] mine (fun v h' nw => nw = [] ∧ v = some (.int (Int32.ofNat (2 * n))) ∧ h' = h) := by
  refine Con.of pnNBL (Ls := [.val (.int (Int32.ofNat n))]) (fun m => by first | (simp [entryFrame, mkF, argsToLocals, Value.category]; done) | (simp [entryFrame, mkF, argsToLocals, Value.category, maxLocals]; done) | rfl) ?_
  refine WP.iloadN (pc' := 1) dNBL_0 rfl rfl ?_
  refine WP.ifT (pc' := 12) dNBL_1 (by decide) (by decide) (fun q => by rw [Int32.lt_iff_toInt_lt, n32_toInt (by omega)] at q; simp at q; omega) ?_
  refine WP.iloadN (pc' := 13) dNBL_12 rfl rfl ?_
  refine WP.ldcInt (pc' := 15) dNBL_13 (hw _ (List.mem_of_getElem? (i := 141) rfl)) rfl ?_
  refine WP.icmpT (pc' := 55) dNBL_15 (by decide) (by decide) (show _ < _ by rw [Int32.lt_iff_toInt_lt, n32_toInt (by omega)]; show (n : Int) < 1073741823; omega) ?_
  refine WP.iloadN (pc' := 56) dNBL_55 rfl rfl ?_
  refine WP.iconst (pc' := 57) (x := 1) dNBL_56 (by decide) rfl ?_
  refine WP.ishl (pc' := 58) dNBL_57 rfl ?_
  rw [n32_shl1 (by omega)]
  exact WP.ireturn dNBL_58 rfl (Or.inl rfl) rfl ⟨rfl, rfl, rfl⟩ (fun _ hx => nomatch hx) (fun _ hx => hx) (Nat.le_refl _) (Nat.le_refl _)
theorem dNBF_0 : decode jdk_52_method_2_code 0 = .ok (.iload_n 0, 1) := by decide +kernel
theorem dNBF_1 : decode jdk_52_method_2_code 1 = .ok (.invokestatic 11, 3) := by decide +kernel
theorem dNBF_4 : decode jdk_52_method_2_code 4 = .ok (.newarray .byte, 2) := by decide +kernel
theorem dNBF_6 : decode jdk_52_method_2_code 6 = .ok (.areturn, 1) := by decide +kernel
theorem pnNBF : plainFor (⟨"java/lang/StringUTF16", "newBytesFor", "(I)[B"⟩ : MethodName) = true := plainFor_of_name (by first | (simp [plainName, overriddenIn]; done) | decide +kernel)
set_option maxRecDepth 65536 in
set_option maxHeartbeats 40000000 in
theorem con_NBF (hw : ∀ d ∈ tables_1, d.before a0 Z = true) {n : Nat} (hn : n ≤ 33554432) : Con (⟨"java/lang/StringUTF16", "newBytesFor", "(I)[B"⟩ : MethodName) jdk_52_method_2_code 1 (some (.array .byte)) { frames := 1, cells := 1, slots := 2 * n, locals := 12 } Z LT [] #[.int (Int32.ofNat n)] h [] mine (fun v h' nw => ∃ t, v = some (.ref t) ∧ nw = [t] ∧ t = h.size ∧ Ext h h' ∧ ArI Z h' t .byte (List.replicate (2 * n) 0)) := by
  refine Con.of pnNBF (Ls := [.val (.int (Int32.ofNat n))]) (fun m => by first | (simp [entryFrame, mkF, argsToLocals, Value.category]; done) | (simp [entryFrame, mkF, argsToLocals, Value.category, maxLocals]; done) | rfl) ?_
  refine WP.iloadN (pc' := 1) dNBF_0 rfl rfl ?_
  refine WP.callS (pc' := 4) (con_NBL hw (by omega)) (hw _ (List.mem_of_getElem? (i := 138) rfl)) (hw _ (List.mem_of_getElem? (i := 139) rfl)) (hw _ (List.mem_of_getElem? (i := 124) rfl)) (hw _ (List.mem_of_getElem? (i := 140) rfl)) dNBF_1 (by decide) pdx0 rfl rfl rfl (by first | exact Nat.le_of_ble_eq_true rfl | omega | (simp; done) | (simp; omega) | (dsimp only; omega)) (by first | exact Nat.le_of_ble_eq_true rfl | omega | (simp; done) | (simp; omega) | (dsimp only; omega)) (by first | exact Nat.le_of_ble_eq_true rfl | omega | (simp; done) | (simp; omega) | (dsimp only; omega)) (by first | exact Nat.le_of_ble_eq_true rfl | omega | (simp; done) | (simp; omega) | (dsimp only; omega)) (fun _ hx => nomatch hx) rfl ?_
  rintro v h' nw K1 hnw ⟨rfl, rfl, rfl⟩
  dsimp only [Option.toList, List.cons_append, List.nil_append]
  refine WP.newarray (pc' := 6) (N := (2 * n)) dNBF_4 (hw _ (List.mem_of_getElem? (i := 19) rfl)) rfl (n32_toInt (by omega)) (by first | exact Nat.le_of_ble_eq_true rfl | omega | (simp; done) | (simp; omega) | (dsimp only; omega)) (by first | exact Nat.le_of_ble_eq_true rfl | omega | (simp; done) | (simp; omega) | (dsimp only; omega)) (by first | exact Nat.le_of_ble_eq_true rfl | omega | (simp; done) | (simp; omega) | (dsimp only; omega)) rfl ?_
  intro h2 t ht htm ht0 E A
  refine WP.areturn dNBF_6 rfl rfl rfl ⟨t, rfl, rfl, ht, E, A⟩ (fun x hx => ?_) (fun x hx => List.mem_cons_of_mem _ hx) (by dsimp only; omega) (by dsimp only; omega)
  cases List.mem_singleton.mp hx
  exact ⟨List.mem_cons_self .., ht0⟩
theorem dPC_0 : decode jdk_52_method_4_code 0 = .ok (.getstatic 44, 3) := by decide +kernel
theorem dPC_3 : decode jdk_52_method_4_code 3 = .ok (.ifCond .ne 25, 3) := by decide +kernel
theorem dPC_6 : decode jdk_52_method_4_code 6 = .ok (.iload_n 1, 1) := by decide +kernel
theorem dPC_7 : decode jdk_52_method_4_code 7 = .ok (.ifCond .lt 11, 3) := by decide +kernel
theorem dPC_10 : decode jdk_52_method_4_code 10 = .ok (.iload_n 1, 1) := by decide +kernel
theorem dPC_11 : decode jdk_52_method_4_code 11 = .ok (.aload_n 0, 1) := by decide +kernel
theorem dPC_12 : decode jdk_52_method_4_code 12 = .ok (.invokestatic 48, 3) := by decide +kernel
theorem dPC_15 : decode jdk_52_method_4_code 15 = .ok (.if_icmp .lt 13, 3) := by decide +kernel
theorem dPC_18 : decode jdk_52_method_4_code 18 = .ok (.new 52, 3) := by decide +kernel
theorem dPC_21 : decode jdk_52_method_4_code 21 = .ok (.dup, 1) := by decide +kernel
theorem dPC_22 : decode jdk_52_method_4_code 22 = .ok (.ldc 54, 2) := by decide +kernel
theorem dPC_24 : decode jdk_52_method_4_code 24 = .ok (.invokespecial 56, 3) := by decide +kernel
theorem dPC_27 : decode jdk_52_method_4_code 27 = .ok (.athrow, 1) := by decide +kernel
theorem dPC_28 : decode jdk_52_method_4_code 28 = .ok (.iload_n 1, 1) := by decide +kernel
theorem dPC_29 : decode jdk_52_method_4_code 29 = .ok (.iconst 1, 1) := by decide +kernel
theorem dPC_30 : decode jdk_52_method_4_code 30 = .ok (.ishl, 1) := by decide +kernel
theorem dPC_31 : decode jdk_52_method_4_code 31 = .ok (.istore_n 1, 1) := by decide +kernel
theorem dPC_32 : decode jdk_52_method_4_code 32 = .ok (.aload_n 0, 1) := by decide +kernel
theorem dPC_33 : decode jdk_52_method_4_code 33 = .ok (.iload_n 1, 1) := by decide +kernel
theorem dPC_34 : decode jdk_52_method_4_code 34 = .ok (.iinc 1 1, 3) := by decide +kernel
theorem dPC_37 : decode jdk_52_method_4_code 37 = .ok (.iload_n 2, 1) := by decide +kernel
theorem dPC_38 : decode jdk_52_method_4_code 38 = .ok (.getstatic 59, 3) := by decide +kernel
theorem dPC_41 : decode jdk_52_method_4_code 41 = .ok (.ishr, 1) := by decide +kernel
theorem dPC_42 : decode jdk_52_method_4_code 42 = .ok (.i2b, 1) := by decide +kernel
theorem dPC_43 : decode jdk_52_method_4_code 43 = .ok (.bastore, 1) := by decide +kernel
theorem dPC_44 : decode jdk_52_method_4_code 44 = .ok (.aload_n 0, 1) := by decide +kernel
theorem dPC_45 : decode jdk_52_method_4_code 45 = .ok (.iload_n 1, 1) := by decide +kernel
theorem dPC_46 : decode jdk_52_method_4_code 46 = .ok (.iload_n 2, 1) := by decide +kernel
theorem dPC_47 : decode jdk_52_method_4_code 47 = .ok (.getstatic 63, 3) := by decide +kernel
theorem dPC_50 : decode jdk_52_method_4_code 50 = .ok (.ishr, 1) := by decide +kernel
theorem dPC_51 : decode jdk_52_method_4_code 51 = .ok (.i2b, 1) := by decide +kernel
theorem dPC_52 : decode jdk_52_method_4_code 52 = .ok (.bastore, 1) := by decide +kernel
theorem dPC_53 : decode jdk_52_method_4_code 53 = .ok (.return_, 1) := by decide +kernel
theorem pnPC : plainFor (⟨"java/lang/StringUTF16", "putChar", "([BII)V"⟩ : MethodName) = true := plainFor_of_name (by first | (simp [plainName, overriddenIn]; done) | decide +kernel)
set_option maxRecDepth 65536 in
set_option maxHeartbeats 40000000 in
theorem con_PC (hw : ∀ d ∈ tables_1, d.before a0 Z = true) (hu : U16 Z) {d : Addr} {xs : List Int32} {i : Nat} {u : UInt16} (D : ArI Z h d .byte xs) (hi : 2 * i + 1 < xs.length) (hm : d ∈ mine) : Con (⟨"java/lang/StringUTF16", "putChar", "([BII)V"⟩ : MethodName) jdk_52_method_4_code 3 none R0 Z LT [] #[.ref d, .int (Int32.ofNat i), .int (chv u)] h [d] mine (fun v h' nw => nw = [] ∧ v = none ∧ ArI Z h' d .byte ((xs.set (2 * i) (lo8 u)).set (2 * i + 1) (hi8 u))) := by
  have hl := D.len
  refine Con.of pnPC (Ls := [.val (.ref d), .val (.int (Int32.ofNat i)), .val (.int (chv u))]) (fun m => by first | (simp [entryFrame, mkF, argsToLocals, Value.category]; done) | (simp [entryFrame, mkF, argsToLocals, Value.category, maxLocals]; done) | rfl) ?_
  refine WP.getstatic (pc' := 3) (host := "") dPC_0 (Or.inl (hw _ (List.mem_of_getElem? (i := 145) rfl))) Via.refl hu.1 rfl ?_
  refine WP.ifT (pc' := 28) dPC_3 (by decide) (by decide) (show ¬ (1 : Int32) = 0 by decide) ?_
  refine WP.iloadN (pc' := 29) dPC_28 rfl rfl ?_
  refine WP.iconst (pc' := 30) (x := 1) dPC_29 (by decide) rfl ?_
  refine WP.ishl (pc' := 31) dPC_30 rfl ?_
  rw [n32_shl1 (by omega)]
  refine WP.istoreN (pc' := 32) dPC_31 rfl rfl rfl ?_
  dsimp only [List.set]
  refine WP.aloadN (pc' := 33) dPC_32 rfl rfl rfl ?_
  refine WP.iloadN (pc' := 34) dPC_33 rfl rfl ?_
  refine WP.iinc (pc' := 37) dPC_34 rfl rfl rfl rfl ?_
  dsimp only [List.set]
  refine WP.iloadN (pc' := 38) dPC_37 rfl rfl ?_
  rw [show Int32.ofNat (2 * i) + Int32.ofInt 1 = Int32.ofNat (2 * i + 1) from n32_succ _]
  refine WP.getstatic (pc' := 41) (host := "") dPC_38 (Or.inl (hw _ (List.mem_of_getElem? (i := 146) rfl))) Via.refl hu.2.1 rfl ?_
  refine WP.ishr (pc' := 42) dPC_41 rfl ?_
  refine WP.i2b (pc' := 43) dPC_42 rfl ?_
  refine WP.bastore (pc' := 44) dPC_43 D (n32_toInt (by omega)) (by omega) hm (Or.inl (List.mem_singleton.mpr rfl)) rfl ?_
  intro h2 W D2
  refine WP.aloadN (pc' := 45) dPC_44 rfl rfl rfl ?_
  refine WP.iloadN (pc' := 46) dPC_45 rfl rfl ?_
  refine WP.iloadN (pc' := 47) dPC_46 rfl rfl ?_
  refine WP.getstatic (pc' := 50) (host := "") dPC_47 (Or.inl (hw _ (List.mem_of_getElem? (i := 147) rfl))) Via.refl hu.2.2 rfl ?_
  refine WP.ishr (pc' := 51) dPC_50 rfl ?_
  refine WP.i2b (pc' := 52) dPC_51 rfl ?_
  refine WP.bastore (pc' := 53) dPC_52 D2 (n32_toInt (by omega)) (by simp; omega) hm (Or.inl (List.mem_singleton.mpr rfl)) rfl ?_
  intro h3 W3 D3
  rw [nar_i2b, nar_i2b, chv_shr0, ← hi8_chv] at D3
  exact WP.vret dPC_53 rfl ⟨rfl, rfl, D3⟩ (fun _ hx => nomatch hx) (fun _ hx => hx) (Nat.le_refl _) (Nat.le_refl _)
theorem dGC_0 : decode jdk_52_method_5_code 0 = .ok (.getstatic 44, 3) := by decide +kernel
theorem dGC_3 : decode jdk_52_method_5_code 3 = .ok (.ifCond .ne 25, 3) := by decide +kernel
theorem dGC_6 : decode jdk_52_method_5_code 6 = .ok (.iload_n 1, 1) := by decide +kernel
theorem dGC_7 : decode jdk_52_method_5_code 7 = .ok (.ifCond .lt 11, 3) := by decide +kernel
theorem dGC_10 : decode jdk_52_method_5_code 10 = .ok (.iload_n 1, 1) := by decide +kernel
theorem dGC_11 : decode jdk_52_method_5_code 11 = .ok (.aload_n 0, 1) := by decide +kernel
theorem dGC_12 : decode jdk_52_method_5_code 12 = .ok (.invokestatic 48, 3) := by decide +kernel
theorem dGC_15 : decode jdk_52_method_5_code 15 = .ok (.if_icmp .lt 13, 3) := by decide +kernel
theorem dGC_18 : decode jdk_52_method_5_code 18 = .ok (.new 52, 3) := by decide +kernel
theorem dGC_21 : decode jdk_52_method_5_code 21 = .ok (.dup, 1) := by decide +kernel
theorem dGC_22 : decode jdk_52_method_5_code 22 = .ok (.ldc 54, 2) := by decide +kernel
theorem dGC_24 : decode jdk_52_method_5_code 24 = .ok (.invokespecial 56, 3) := by decide +kernel
theorem dGC_27 : decode jdk_52_method_5_code 27 = .ok (.athrow, 1) := by decide +kernel
theorem dGC_28 : decode jdk_52_method_5_code 28 = .ok (.iload_n 1, 1) := by decide +kernel
theorem dGC_29 : decode jdk_52_method_5_code 29 = .ok (.iconst 1, 1) := by decide +kernel
theorem dGC_30 : decode jdk_52_method_5_code 30 = .ok (.ishl, 1) := by decide +kernel
theorem dGC_31 : decode jdk_52_method_5_code 31 = .ok (.istore_n 1, 1) := by decide +kernel
theorem dGC_32 : decode jdk_52_method_5_code 32 = .ok (.aload_n 0, 1) := by decide +kernel
theorem dGC_33 : decode jdk_52_method_5_code 33 = .ok (.iload_n 1, 1) := by decide +kernel
theorem dGC_34 : decode jdk_52_method_5_code 34 = .ok (.iinc 1 1, 3) := by decide +kernel
theorem dGC_37 : decode jdk_52_method_5_code 37 = .ok (.baload, 1) := by decide +kernel
theorem dGC_38 : decode jdk_52_method_5_code 38 = .ok (.sipush 255, 3) := by decide +kernel
theorem dGC_41 : decode jdk_52_method_5_code 41 = .ok (.iand, 1) := by decide +kernel
theorem dGC_42 : decode jdk_52_method_5_code 42 = .ok (.getstatic 59, 3) := by decide +kernel
theorem dGC_45 : decode jdk_52_method_5_code 45 = .ok (.ishl, 1) := by decide +kernel
theorem dGC_46 : decode jdk_52_method_5_code 46 = .ok (.aload_n 0, 1) := by decide +kernel
theorem dGC_47 : decode jdk_52_method_5_code 47 = .ok (.iload_n 1, 1) := by decide +kernel
theorem dGC_48 : decode jdk_52_method_5_code 48 = .ok (.baload, 1) := by decide +kernel
theorem dGC_49 : decode jdk_52_method_5_code 49 = .ok (.sipush 255, 3) := by decide +kernel
theorem dGC_52 : decode jdk_52_method_5_code 52 = .ok (.iand, 1) := by decide +kernel
theorem dGC_53 : decode jdk_52_method_5_code 53 = .ok (.getstatic 63, 3) := by decide +kernel
theorem dGC_56 : decode jdk_52_method_5_code 56 = .ok (.ishl, 1) := by decide +kernel
theorem dGC_57 : decode jdk_52_method_5_code 57 = .ok (.ior, 1) := by decide +kernel
theorem dGC_58 : decode jdk_52_method_5_code 58 = .ok (.i2c, 1) := by decide +kernel
theorem dGC_59 : decode jdk_52_method_5_code 59 = .ok (.ireturn, 1) := by decide +kernel
theorem pnGC : plainFor (⟨"java/lang/StringUTF16", "getChar", "([BI)C"⟩ : MethodName) = true := plainFor_of_name (by first | (simp [plainName, overriddenIn]; done) | decide +kernel)
theorem narrow_chv (u : UInt16) : narrow .char (.int (chv u)) = .int (chv u) := congrArg Value.int (chv_nar u)
set_option maxRecDepth 65536 in
set_option maxHeartbeats 40000000 in
theorem con_GC (hw : ∀ d ∈ tables_1, d.before a0 Z = true) (hu : U16 Z) {d : Addr} {us : List UInt16} {i : Nat} {u : UInt16} (D : ArI Z h d .byte (b16 us)) (hi : us[i]? = some u) : Con (⟨"java/lang/StringUTF16", "getChar", "([BI)C"⟩ : MethodName) jdk_52_method_5_code 2 (some .char) R0 Z LT [] #[.ref d, .int (Int32.ofNat i)] h [] mine (fun v h' nw => nw = [] ∧ v = some (.int (chv u)) ∧ h' = h) := by
  have hl := D.len
  rw [b16_len] at hl
  have hil : i < us.length := (List.getElem?_eq_some_iff.mp hi).1
  refine Con.of pnGC (Ls := [.val (.ref d), .val (.int (Int32.ofNat i))]) (fun m => by first | (simp [entryFrame, mkF, argsToLocals, Value.category]; done) | (simp [entryFrame, mkF, argsToLocals, Value.category, maxLocals]; done) | rfl) ?_
  refine WP.getstatic (pc' := 3) (host := "") dGC_0 (Or.inl (hw _ (List.mem_of_getElem? (i := 145) rfl))) Via.refl hu.1 rfl ?_
  refine WP.ifT (pc' := 28) dGC_3 (by decide) (by decide) (show ¬ (1 : Int32) = 0 by decide) ?_
  refine WP.iloadN (pc' := 29) dGC_28 rfl rfl ?_
  refine WP.iconst (pc' := 30) (x := 1) dGC_29 (by decide) rfl ?_
  refine WP.ishl (pc' := 31) dGC_30 rfl ?_
  rw [n32_shl1 (by omega)]
  refine WP.istoreN (pc' := 32) dGC_31 rfl rfl rfl ?_
  dsimp only [List.set]
  refine WP.aloadN (pc' := 33) dGC_32 rfl rfl rfl ?_
  refine WP.iloadN (pc' := 34) dGC_33 rfl rfl ?_
  refine WP.iinc (pc' := 37) dGC_34 rfl rfl rfl rfl ?_
  dsimp only [List.set]
  rw [show Int32.ofNat (2 * i) + Int32.ofInt 1 = Int32.ofNat (2 * i + 1) from n32_succ _]
  refine WP.baload (pc' := 38) dGC_37 D (n32_toInt (by omega)) (b16_get hi).1 rfl ?_
  refine WP.sipush (pc' := 41) (x := 255) dGC_38 (by decide) rfl ?_
  refine WP.iand (pc' := 42) dGC_41 rfl ?_
  refine WP.getstatic (pc' := 45) (host := "") dGC_42 (Or.inl (hw _ (List.mem_of_getElem? (i := 146) rfl))) Via.refl hu.2.1 rfl ?_
  refine WP.ishl (pc' := 46) dGC_45 rfl ?_
  refine WP.aloadN (pc' := 47) dGC_46 rfl rfl rfl ?_
  refine WP.iloadN (pc' := 48) dGC_47 rfl rfl ?_
  refine WP.baload (pc' := 49) dGC_48 D (n32_toInt (by omega)) (b16_get hi).2 rfl ?_
  refine WP.sipush (pc' := 52) (x := 255) dGC_49 (by decide) rfl ?_
  refine WP.iand (pc' := 53) dGC_52 rfl ?_
  refine WP.getstatic (pc' := 56) (host := "") dGC_53 (Or.inl (hw _ (List.mem_of_getElem? (i := 147) rfl))) Via.refl hu.2.2 rfl ?_
  refine WP.ishl (pc' := 57) dGC_56 rfl ?_
  refine WP.ior (pc' := 58) dGC_57 rfl ?_
  refine WP.i2c (pc' := 59) dGC_58 rfl ?_
  rw [getChar_val]
  exact WP.ireturn dGC_59 rfl (by simp) (narrow_chv u) ⟨rfl, rfl, rfl⟩ (fun _ hx => nomatch hx) (fun _ hx => hx) (Nat.le_refl _) (Nat.le_refl _)
theorem dTB3_0 : decode jdk_52_method_14_code 0 = .ok (.iload_n 2, 1) := by decide +kernel
theorem dTB3_1 : decode jdk_52_method_14_code 1 = .ok (.invokestatic 107, 3) := by decide +kernel
theorem dTB3_4 : decode jdk_52_method_14_code 4 = .ok (.astore_n 3, 1) := by decide +kernel
theorem dTB3_5 : decode jdk_52_method_14_code 5 = .ok (.iconst 0, 1) := by decide +kernel
theorem dTB3_6 : decode jdk_52_method_14_code 6 = .ok (.istore 4, 2) := by decide +kernel
theorem dTB3_8 : decode jdk_52_method_14_code 8 = .ok (.iload 4, 2) := by decide +kernel
theorem dTB3_10 : decode jdk_52_method_14_code 10 = .ok (.iload_n 2, 1) := by decide +kernel
theorem dTB3_11 : decode jdk_52_method_14_code 11 = .ok (.if_icmp .ge 21, 3) := by decide +kernel
theorem dTB3_14 : decode jdk_52_method_14_code 14 = .ok (.aload_n 3, 1) := by decide +kernel
theorem dTB3_15 : decode jdk_52_method_14_code 15 = .ok (.iload 4, 2) := by decide +kernel
theorem dTB3_17 : decode jdk_52_method_14_code 17 = .ok (.aload_n 0, 1) := by decide +kernel
theorem dTB3_18 : decode jdk_52_method_14_code 18 = .ok (.iload_n 1, 1) := by decide +kernel
theorem dTB3_19 : decode jdk_52_method_14_code 19 = .ok (.caload, 1) := by decide +kernel
theorem dTB3_20 : decode jdk_52_method_14_code 20 = .ok (.invokestatic 111, 3) := by decide +kernel
theorem dTB3_23 : decode jdk_52_method_14_code 23 = .ok (.iinc 1 1, 3) := by decide +kernel
theorem dTB3_26 : decode jdk_52_method_14_code 26 = .ok (.iinc 4 1, 3) := by decide +kernel
theorem dTB3_29 : decode jdk_52_method_14_code 29 = .ok (.goto (-21), 3) := by decide +kernel
theorem dTB3_32 : decode jdk_52_method_14_code 32 = .ok (.aload_n 3, 1) := by decide +kernel
theorem dTB3_33 : decode jdk_52_method_14_code 33 = .ok (.areturn, 1) := by decide +kernel
theorem pnTB3 : plainFor (⟨"java/lang/StringUTF16", "toBytes", "([CII)[B"⟩ : MethodName) = true := plainFor_of_name (by first | (simp [plainName, overriddenIn]; done) | decide +kernel)
set_option maxRecDepth 65536 in
set_option maxHeartbeats 40000000 in
theorem loop_TB3 (hw : ∀ d ∈ tables_1, d.before a0 Z = true) (hu : U16 Z) {us : List UInt16} {b d : Addr} {N : Nat} {bs : List Int32} {off : Nat} (hsub : SubC bs off us) (hbl : bs.length < 2 ^ 31) (hn : 2 * us.length < 2 ^ 31) (hm : d ∈ mine) (hbd : b ≠ d) (hd0 : h.size ≤ d) {mine1 : List Addr} (hm1 : ∀ x ∈ mine1, x ∈ mine) {Q : Option Value → Heap → List Addr → Prop} (hq : ∀ h', ArI Z h' d .byte (b16 us) → Q (some (.ref d)) h' []) :
    ∀ (r i : Nat), i + r = us.length → ∀ (h' : Heap), ArI Z h' b .char bs → ArI Z h' d .byte (b16 (us.take i) ++ List.replicate (2 * r) 0) →
    WP "java/lang/StringUTF16" jdk_52_method_14_code 5 (some (.array .byte)) "toBytes" { frames := 2, cells := 1, slots := 2 * us.length, locals := 24 } Z LT h [] mine1 Q mine 1 (2 * us.length) h' 8 [.val (.ref b), .val (.int (Int32.ofNat (off + i))), .val (.int (Int32.ofNat us.length)), .val (.ref d), .val (.int (Int32.ofNat i))] [] := by
  intro r
  induction r with
  | zero =>
    intro i hi h' A D
    obtain rfl : i = us.length := by omega
    refine WP.iload (pc' := 10) dTB3_8 rfl rfl ?_
    refine WP.iloadN (pc' := 11) dTB3_10 rfl rfl ?_
    refine WP.icmpT (pc' := 32) dTB3_11 (by decide) (by decide) (fun q => Nat.lt_irrefl _ ((n32_lt (by omega) (by omega)).mp q)) ?_
    refine WP.aloadN (pc' := 33) dTB3_32 rfl rfl rfl ?_
    refine WP.areturn dTB3_33 rfl rfl rfl (hq h' (by simpa using D)) (fun _ hx => nomatch hx) hm1 (Nat.le_refl _) (Nat.le_refl _)
  | succ r ih =>
    intro i hi h' A D
    have hil : i < us.length := by omega
    have hoff := hsub.1
    obtain ⟨u, hu2⟩ : ∃ u, us[i]? = some u := ⟨us[i], List.getElem?_eq_getElem hil⟩
    refine WP.iload (pc' := 10) dTB3_8 rfl rfl ?_
    refine WP.iloadN (pc' := 11) dTB3_10 rfl rfl ?_
    refine WP.icmpF (pc' := 14) dTB3_11 rfl ((n32_lt (by omega) (by omega)).mpr hil) ?_
    refine WP.aloadN (pc' := 15) dTB3_14 rfl rfl rfl ?_
    refine WP.iload (pc' := 17) dTB3_15 rfl rfl ?_
    refine WP.aloadN (pc' := 18) dTB3_17 rfl rfl rfl ?_
    refine WP.iloadN (pc' := 19) dTB3_18 rfl rfl ?_
    refine WP.caload (pc' := 20) dTB3_19 A (n32_toInt (by omega)) (x := chv u) (hsub.2 i u hu2) rfl ?_
    have hlen : (b16 (us.take i)).length = 2 * i := by rw [b16_len, List.length_take]; omega
    refine WP.callS (pc' := 23) (con_PC hw hu D (by simp [hlen]; omega) hm) (hw _ (List.mem_of_getElem? (i := 142) rfl)) (hw _ (List.mem_of_getElem? (i := 143) rfl)) (hw _ (List.mem_of_getElem? (i := 124) rfl)) (hw _ (List.mem_of_getElem? (i := 144) rfl)) dTB3_20 (by decide) pdx1 rfl rfl rfl (by first | exact Nat.le_of_ble_eq_true rfl | omega | (simp; done) | (simp; omega) | (dsimp only; omega)) (by first | exact Nat.le_of_ble_eq_true rfl | omega | (simp; done) | (simp; omega) | (dsimp only; omega)) (by first | exact Nat.le_of_ble_eq_true rfl | omega | (simp; done) | (simp; omega) | (dsimp only; omega)) (by first | exact Nat.le_of_ble_eq_true rfl | omega | (simp; done) | (simp; omega) | (dsimp only; omega)) (fun x hx => by cases List.mem_singleton.mp hx; exact Or.inr hd0) rfl ?_
    rintro v h2 nw K hnw ⟨rfl, rfl, D2⟩
    dsimp only [Option.toList, List.nil_append]
    refine WP.iinc (pc' := 26) dTB3_23 rfl rfl rfl rfl ?_
    dsimp only [List.set]
    refine WP.iinc (pc' := 29) dTB3_26 rfl rfl rfl rfl ?_
    dsimp only [List.set]
    refine WP.goto (pc' := 8) dTB3_29 (by decide) (by decide) ?_
    rw [show Int32.ofNat i + Int32.ofInt 1 = Int32.ofNat (i + 1) from n32_succ i, show Int32.ofNat (off + i) + Int32.ofInt 1 = Int32.ofNat (off + (i + 1)) from n32_succ (off + i)]
    have e : (((b16 (us.take i) ++ List.replicate (2 * (r + 1)) (0 : Int32)).set (2 * i) (lo8 u)).set (2 * i + 1) (hi8 u)) = b16 (us.take (i + 1)) ++ List.replicate (2 * r) 0 := by
      rw [take_set hlen (by simp [hlen]), show 2 * (r + 1) = 2 * r + 1 + 1 by omega, List.replicate_succ, List.replicate_succ, List.drop_succ_cons, List.drop_zero]
      rw [show b16 (us.take i) ++ lo8 u :: (0 : Int32) :: List.replicate (2 * r) 0 = (b16 (us.take i) ++ [lo8 u]) ++ ((0 : Int32) :: List.replicate (2 * r) 0) by simp]
      rw [take_set (by simp [hlen]) (by simp [hlen]), take_succ' hu2, b16_app]
      simp [b16]
    rw [e] at D2
    exact ih (i + 1) (by omega) h2 (A.keep K (fun q => hbd (List.mem_singleton.mp q))) D2
set_option maxRecDepth 65536 in
set_option maxHeartbeats 40000000 in
theorem con_TB3 (hw : ∀ d ∈ tables_1, d.before a0 Z = true) (hu : U16 Z) {us : List UInt16} {b : Addr} {bs : List Int32} {off : Nat} (hsub : SubC bs off us) (hn : us.length ≤ 33554432) (A : ArI Z h b .char bs) : Con (⟨"java/lang/StringUTF16", "toBytes", "([CII)[B"⟩ : MethodName) jdk_52_method_14_code 5 (some (.array .byte)) { frames := 2, cells := 1, slots := 2 * us.length, locals := 24 } Z LT [] #[.ref b, .int (Int32.ofNat off), .int (Int32.ofNat us.length)] h [] mine (fun v h' nw => nw = [] ∧ ∃ t, v = some (.ref t) ∧ h.size ≤ t ∧ ArI Z h' t .byte (b16 us)) := by
  refine Con.of pnTB3 (Ls := [.val (.ref b), .val (.int (Int32.ofNat off)), .val (.int (Int32.ofNat us.length)), .unset, .unset]) (fun m => by first | (simp [entryFrame, mkF, argsToLocals, Value.category]; done) | (simp [entryFrame, mkF, argsToLocals, Value.category, maxLocals]; done) | rfl) ?_
  refine WP.iloadN (pc' := 1) dTB3_0 rfl rfl ?_
  refine WP.callS (pc' := 4) (con_NBF hw hn) (hw _ (List.mem_of_getElem? (i := 135) rfl)) (hw _ (List.mem_of_getElem? (i := 136) rfl)) (hw _ (List.mem_of_getElem? (i := 124) rfl)) (hw _ (List.mem_of_getElem? (i := 137) rfl)) dTB3_1 (by decide) pdx2 rfl rfl rfl (by first | exact Nat.le_of_ble_eq_true rfl | omega | (simp; done) | (simp; omega) | (dsimp only; omega)) (by first | exact Nat.le_of_ble_eq_true rfl | omega | (simp; done) | (simp; omega) | (dsimp only; omega)) (by first | exact Nat.le_of_ble_eq_true rfl | omega | (simp; done) | (simp; omega) | (dsimp only; omega)) (by first | exact Nat.le_of_ble_eq_true rfl | omega | (simp; done) | (simp; omega) | (dsimp only; omega)) (fun _ hx => nomatch hx) rfl ?_
  rintro v h2 nw K1 hnw ⟨t, rfl, rfl, ht, E, D⟩
  dsimp only [Option.toList, List.cons_append, List.nil_append]
  refine WP.astoreN (pc' := 5) dTB3_4 rfl rfl rfl rfl rfl ?_
  dsimp only [List.set]
  refine WP.iconst (pc' := 6) (x := 0) dTB3_5 (by decide) rfl ?_
  refine WP.istore (pc' := 8) dTB3_6 rfl rfl rfl ?_
  dsimp only [List.set]
  refine WP.more (ce' := 1) (sl' := 2 * us.length) ?_ (by simp) (by simp)
  exact loop_TB3 (N := 0) hw hu hsub A.len (by omega) (List.mem_cons_self ..) (Nat.ne_of_lt (Nat.lt_of_lt_of_le A.lt (Nat.le_of_eq ht.symm))) (Nat.le_of_eq ht.symm) (fun x hx => List.mem_cons_of_mem _ hx) (fun h' D => ⟨rfl, t, rfl, Nat.le_of_eq ht.symm, D⟩) us.length 0 (by omega) h2 (A.ext E) (by simpa [b16] using D)
theorem dCL_0 : decode jdk_52_method_15_code 0 = .ok (.iload_n 1, 1) := by decide +kernel
theorem dCL_1 : decode jdk_52_method_15_code 1 = .ok (.aload_n 0, 1) := by decide +kernel
theorem dCL_2 : decode jdk_52_method_15_code 2 = .ok (.arraylength, 1) := by decide +kernel
theorem dCL_3 : decode jdk_52_method_15_code 3 = .ok (.isub, 1) := by decide +kernel
theorem dCL_4 : decode jdk_52_method_15_code 4 = .ok (.bipush 31, 2) := by decide +kernel
theorem dCL_6 : decode jdk_52_method_15_code 6 = .ok (.iushr, 1) := by decide +kernel
theorem dCL_7 : decode jdk_52_method_15_code 7 = .ok (.i2b, 1) := by decide +kernel
theorem dCL_8 : decode jdk_52_method_15_code 8 = .ok (.ireturn, 1) := by decide +kernel
theorem pnCL : plainFor (⟨"java/lang/StringUTF16", "coderFromArrayLen", "([BI)B"⟩ : MethodName) = true := plainFor_of_name (by first | (simp [plainName, overriddenIn]; done) | decide +kernel)
set_option maxRecDepth 65536 in
set_option maxHeartbeats 40000000 in
theorem con_CL {us : List UInt16} {t : Addr} {xs : List Int32} (T : ArI Z h t .byte xs) (hn : us.length < 2 ^ 31) (ht : (lat us = true ∧ xs = us.map lo8) ∨ (lat us = false ∧ xs = b16 us)) : Con (⟨"java/lang/StringUTF16", "coderFromArrayLen", "([BI)B"⟩ : MethodName) jdk_52_method_15_code 2 (some .byte) R0 Z LT [] #[.ref t, .int (Int32.ofNat us.length)] h [] mine (fun v h' nw => nw = [] ∧ v = some (.int (if lat us = true then 0 else 1)) ∧ h' = h) := by
  have hl := T.len
  refine Con.of pnCL (Ls := [.val (.ref t), .val (.int (Int32.ofNat us.length))]) (fun m => by first | (simp [entryFrame, mkF, argsToLocals, Value.category]; done) | (simp [entryFrame, mkF, argsToLocals, Value.category, maxLocals]; done) | rfl) ?_
  refine WP.iloadN (pc' := 1) dCL_0 rfl rfl ?_
  refine WP.aloadN (pc' := 2) dCL_1 rfl rfl rfl ?_
  refine WP.arraylength (pc' := 3) dCL_2 T rfl rfl ?_
  refine WP.isub (pc' := 4) dCL_3 rfl ?_
  refine WP.bipush (pc' := 6) (x := 31) dCL_4 (by decide) rfl ?_
  refine WP.iushr (pc' := 7) dCL_6 rfl ?_
  refine WP.i2b (pc' := 8) dCL_7 rfl ?_
  have e : ((Int32.ofNat us.length - Int32.ofNat xs.length).toUInt32 >>> ((31 : Int32) &&& 31).toUInt32).toInt32.toInt8.toInt32 = if lat us = true then 0 else 1 := by
    have s := c_iushr (Int32.ofNat us.length - Int32.ofNat xs.length) 31 31 (by decide) (by decide)
    have d := c_isub (Int32.ofNat us.length) (Int32.ofNat xs.length)
    have r := rng32 (Int32.ofNat us.length - Int32.ofNat xs.length)
    rw [n32_toInt hn, n32_toInt hl] at d
    have b := c_i2b ((Int32.ofNat us.length - Int32.ofNat xs.length).toUInt32 >>> ((31 : Int32) &&& 31).toUInt32).toInt32
    rcases ht with ⟨h1, rfl⟩ | ⟨h1, rfl⟩
    · rw [if_pos h1]
      simp only [List.length_map] at *
      apply Int32.toInt_inj.mp
      show _ = (0 : Int)
      omega
    · rw [if_neg (by rw [h1]; decide)]
      rw [b16_len] at *
      have : 0 < us.length := by
        rcases us with _ | ⟨u, us⟩
        · cases h1
        · simp
      apply Int32.toInt_inj.mp
      show _ = (1 : Int)
      omega
  rw [e]
  exact WP.ireturn dCL_8 rfl (by simp) (by split <;> rfl) ⟨rfl, rfl, rfl⟩ (fun _ hx => nomatch hx) (fun _ hx => hx) (Nat.le_refl _) (Nat.le_refl _)
theorem dCP3_0 : decode jdk_52_method_16_code 0 = .ok (.iload_n 2, 1) := by decide +kernel
theorem dCP3_1 : decode jdk_52_method_16_code 1 = .ok (.newarray .byte, 2) := by decide +kernel
theorem dCP3_3 : decode jdk_52_method_16_code 3 = .ok (.astore_n 3, 1) := by decide +kernel
theorem dCP3_4 : decode jdk_52_method_16_code 4 = .ok (.aload_n 0, 1) := by decide +kernel
theorem dCP3_5 : decode jdk_52_method_16_code 5 = .ok (.iload_n 1, 1) := by decide +kernel
theorem dCP3_6 : decode jdk_52_method_16_code 6 = .ok (.aload_n 3, 1) := by decide +kernel
theorem dCP3_7 : decode jdk_52_method_16_code 7 = .ok (.iconst 0, 1) := by decide +kernel
theorem dCP3_8 : decode jdk_52_method_16_code 8 = .ok (.iload_n 2, 1) := by decide +kernel
theorem dCP3_9 : decode jdk_52_method_16_code 9 = .ok (.invokestatic 115, 3) := by decide +kernel
theorem dCP3_12 : decode jdk_52_method_16_code 12 = .ok (.istore 4, 2) := by decide +kernel
theorem dCP3_14 : decode jdk_52_method_16_code 14 = .ok (.iload 4, 2) := by decide +kernel
theorem dCP3_16 : decode jdk_52_method_16_code 16 = .ok (.iload_n 2, 1) := by decide +kernel
theorem dCP3_17 : decode jdk_52_method_16_code 17 = .ok (.if_icmp .eq 40, 3) := by decide +kernel
theorem dCP3_20 : decode jdk_52_method_16_code 20 = .ok (.aload_n 0, 1) := by decide +kernel
theorem dCP3_21 : decode jdk_52_method_16_code 21 = .ok (.iload_n 1, 1) := by decide +kernel
theorem dCP3_22 : decode jdk_52_method_16_code 22 = .ok (.iload_n 2, 1) := by decide +kernel
theorem dCP3_23 : decode jdk_52_method_16_code 23 = .ok (.invokestatic 119, 3) := by decide +kernel
theorem dCP3_26 : decode jdk_52_method_16_code 26 = .ok (.astore 5, 2) := by decide +kernel
theorem dCP3_28 : decode jdk_52_method_16_code 28 = .ok (.aload 5, 2) := by decide +kernel
theorem dCP3_30 : decode jdk_52_method_16_code 30 = .ok (.iload 4, 2) := by decide +kernel
theorem dCP3_32 : decode jdk_52_method_16_code 32 = .ok (.invokestatic 71, 3) := by decide +kernel
theorem dCP3_35 : decode jdk_52_method_16_code 35 = .ok (.sipush 255, 3) := by decide +kernel
theorem dCP3_38 : decode jdk_52_method_16_code 38 = .ok (.if_icmp .gt 16, 3) := by decide +kernel
theorem dCP3_41 : decode jdk_52_method_16_code 41 = .ok (.aload 5, 2) := by decide +kernel
theorem dCP3_43 : decode jdk_52_method_16_code 43 = .ok (.iconst 0, 1) := by decide +kernel
theorem dCP3_44 : decode jdk_52_method_16_code 44 = .ok (.aload_n 3, 1) := by decide +kernel
theorem dCP3_45 : decode jdk_52_method_16_code 45 = .ok (.iconst 0, 1) := by decide +kernel
theorem dCP3_46 : decode jdk_52_method_16_code 46 = .ok (.iload_n 2, 1) := by decide +kernel
theorem dCP3_47 : decode jdk_52_method_16_code 47 = .ok (.invokestatic 123, 3) := by decide +kernel
theorem dCP3_50 : decode jdk_52_method_16_code 50 = .ok (.iload_n 2, 1) := by decide +kernel
theorem dCP3_51 : decode jdk_52_method_16_code 51 = .ok (.if_icmp .eq 6, 3) := by decide +kernel
theorem dCP3_54 : decode jdk_52_method_16_code 54 = .ok (.aload 5, 2) := by decide +kernel
theorem dCP3_56 : decode jdk_52_method_16_code 56 = .ok (.areturn, 1) := by decide +kernel
theorem dCP3_57 : decode jdk_52_method_16_code 57 = .ok (.aload_n 3, 1) := by decide +kernel
theorem dCP3_58 : decode jdk_52_method_16_code 58 = .ok (.areturn, 1) := by decide +kernel
theorem pnCP3 : plainFor (⟨"java/lang/StringUTF16", "compress", "([CII)[B"⟩ : MethodName) = true := plainFor_of_name (by first | (simp [plainName, overriddenIn]; done) | decide +kernel)
set_option maxRecDepth 65536 in
set_option maxHeartbeats 40000000 in
theorem con_CP3 (hw : ∀ d ∈ tables_1, d.before a0 Z = true) {us : List UInt16} (hu : HuA Z us) {b : Addr} {N : Nat} {bs : List Int32} {off : Nat} (hsub : SubC bs off us) (hN : us.length ≤ N) (hn : N ≤ 33554432) (A : ArI Z h b .char bs) : Con (⟨"java/lang/StringUTF16", "compress", "([CII)[B"⟩ : MethodName) jdk_52_method_16_code 6 (some (.array .byte)) { frames := 3, cells := 2, slots := 3 * N, locals := 40 } Z LT [] #[.ref b, .int (Int32.ofNat off), .int (Int32.ofNat us.length)] h [] mine (fun v h' nw => nw = [] ∧ ∃ t, v = some (.ref t) ∧ h.size ≤ t ∧ ((lat us = true ∧ ArI Z h' t .byte (us.map lo8)) ∨ (lat us = false ∧ ArI Z h' t .byte (b16 us)))) := by
  refine Con.of pnCP3 (Ls := [.val (.ref b), .val (.int (Int32.ofNat off)), .val (.int (Int32.ofNat us.length)), .unset, .unset, .unset]) (fun m => by first | (simp [entryFrame, mkF, argsToLocals, Value.category]; done) | (simp [entryFrame, mkF, argsToLocals, Value.category, maxLocals]; done) | rfl) ?_
  refine WP.iloadN (pc' := 1) dCP3_0 rfl rfl ?_
  refine WP.newarray (pc' := 3) (N := us.length) dCP3_1 (hw _ (List.mem_of_getElem? (i := 19) rfl)) rfl (n32_toInt (by omega)) (by first | exact Nat.le_of_ble_eq_true rfl | omega | (simp; done) | (simp; omega) | (dsimp only; omega)) (by first | exact Nat.le_of_ble_eq_true rfl | omega | (simp; done) | (simp; omega) | (dsimp only; omega)) (by first | exact Nat.le_of_ble_eq_true rfl | omega | (simp; done) | (simp; omega) | (dsimp only; omega)) rfl ?_
  intro h1 t ht htm ht0 E D
  refine WP.astoreN (pc' := 4) dCP3_3 rfl rfl rfl rfl rfl ?_
  dsimp only [List.set]
  refine WP.aloadN (pc' := 5) dCP3_4 rfl rfl rfl ?_
  refine WP.iloadN (pc' := 6) dCP3_5 rfl rfl ?_
  refine WP.aloadN (pc' := 7) dCP3_6 rfl rfl rfl ?_
  refine WP.iconst (pc' := 8) (x := 0) dCP3_7 (by decide) rfl ?_
  refine WP.iloadN (pc' := 9) dCP3_8 rfl rfl ?_
  refine WP.callS (pc' := 12) (con_CP5 hsub (A.ext E) D (by simp) (List.mem_cons_self ..)) (hw _ (List.mem_of_getElem? (i := 126) rfl)) (hw _ (List.mem_of_getElem? (i := 127) rfl)) (hw _ (List.mem_of_getElem? (i := 124) rfl)) (hw _ (List.mem_of_getElem? (i := 128) rfl)) dCP3_9 (by decide) pdx3 rfl rfl rfl (by first | exact Nat.le_of_ble_eq_true rfl | omega | (simp; done) | (simp; omega) | (dsimp only; omega)) (by first | exact Nat.le_of_ble_eq_true rfl | omega | (simp; done) | (simp; omega) | (dsimp only; omega)) (by first | exact Nat.le_of_ble_eq_true rfl | omega | (simp; done) | (simp; omega) | (dsimp only; omega)) (by first | exact Nat.le_of_ble_eq_true rfl | omega | (simp; done) | (simp; omega) | (dsimp only; omega)) (fun x hx => by cases List.mem_singleton.mp hx; exact Or.inr ht0) rfl ?_
  rintro v h2 nw K hnw ⟨rfl, hq⟩
  rcases hq with ⟨hl, rfl, D2⟩ | ⟨hl, k, u, hk, hu256, rfl⟩
  · dsimp only [Option.toList, List.cons_append, List.nil_append]
    refine WP.istore (pc' := 14) dCP3_12 rfl rfl rfl ?_
    dsimp only [List.set]
    refine WP.iload (pc' := 16) dCP3_14 rfl rfl ?_
    refine WP.iloadN (pc' := 17) dCP3_16 rfl rfl ?_
    refine WP.icmpT (pc' := 57) dCP3_17 (by decide) (by decide) rfl ?_
    refine WP.aloadN (pc' := 58) dCP3_57 rfl rfl rfl ?_
    exact WP.areturn dCP3_58 rfl rfl rfl ⟨rfl, t, rfl, ht0, Or.inl ⟨hl, D2⟩⟩ (fun _ hx => nomatch hx) (fun x hx => List.mem_cons_of_mem _ hx) (by dsimp only; omega) (by dsimp only; omega)
  · have hkl : k < us.length := (List.getElem?_eq_some_iff.mp hk).1
    dsimp only [Option.toList, List.cons_append, List.nil_append]
    refine WP.istore (pc' := 14) dCP3_12 rfl rfl rfl ?_
    dsimp only [List.set]
    refine WP.iload (pc' := 16) dCP3_14 rfl rfl ?_
    refine WP.iloadN (pc' := 17) dCP3_16 rfl rfl ?_
    refine WP.icmpF (pc' := 20) dCP3_17 rfl (fun q => by rw [n32_eq (by omega) (by omega)] at q; omega) ?_
    refine WP.aloadN (pc' := 21) dCP3_20 rfl rfl rfl ?_
    refine WP.iloadN (pc' := 22) dCP3_21 rfl rfl ?_
    refine WP.iloadN (pc' := 23) dCP3_22 rfl rfl ?_
    have A2 : ArI Z h2 b .char bs := (A.ext E).keep K (fun q => by cases List.mem_singleton.mp q; exact absurd A.lt (Nat.not_lt.mpr ht0))
    refine WP.callS (pc' := 26) (con_TB3 hw hu hsub (by omega) A2) (hw _ (List.mem_of_getElem? (i := 132) rfl)) (hw _ (List.mem_of_getElem? (i := 133) rfl)) (hw _ (List.mem_of_getElem? (i := 124) rfl)) (hw _ (List.mem_of_getElem? (i := 134) rfl)) dCP3_23 (by decide) pdx4 rfl rfl rfl (by first | exact Nat.le_of_ble_eq_true rfl | omega | (simp; done) | (simp; omega) | (dsimp only; omega)) (by first | exact Nat.le_of_ble_eq_true rfl | omega | (simp; done) | (simp; omega) | (dsimp only; omega)) (by first | exact Nat.le_of_ble_eq_true rfl | omega | (simp; done) | (simp; omega) | (dsimp only; omega)) (by first | exact Nat.le_of_ble_eq_true rfl | omega | (simp; done) | (simp; omega) | (dsimp only; omega)) (fun _ hx => nomatch hx) rfl ?_
    rintro v h3 nw K3 hnw3 ⟨rfl, t2, rfl, ht2, D3⟩
    dsimp only [Option.toList, List.cons_append, List.nil_append]
    refine WP.astore (pc' := 28) dCP3_26 rfl rfl rfl rfl rfl ?_
    dsimp only [List.set]
    refine WP.aload (pc' := 30) dCP3_28 rfl rfl rfl ?_
    refine WP.iload (pc' := 32) dCP3_30 rfl rfl ?_
    refine WP.callS (pc' := 35) (con_GC hw hu D3 hk) (hw _ (List.mem_of_getElem? (i := 148) rfl)) (hw _ (List.mem_of_getElem? (i := 149) rfl)) (hw _ (List.mem_of_getElem? (i := 124) rfl)) (hw _ (List.mem_of_getElem? (i := 150) rfl)) dCP3_32 (by decide) pdx5 rfl rfl rfl (by first | exact Nat.le_of_ble_eq_true rfl | omega | (simp; done) | (simp; omega) | (dsimp only; omega)) (by first | exact Nat.le_of_ble_eq_true rfl | omega | (simp; done) | (simp; omega) | (dsimp only; omega)) (by first | exact Nat.le_of_ble_eq_true rfl | omega | (simp; done) | (simp; omega) | (dsimp only; omega)) (by first | exact Nat.le_of_ble_eq_true rfl | omega | (simp; done) | (simp; omega) | (dsimp only; omega)) (fun _ hx => nomatch hx) rfl ?_
    rintro v h4 nw K4 hnw4 ⟨rfl, rfl, rfl⟩
    dsimp only [Option.toList, List.cons_append, List.nil_append]
    refine WP.sipush (pc' := 38) (x := 255) dCP3_35 (by decide) rfl ?_
    refine WP.icmpT (pc' := 54) dCP3_38 (by decide) (by decide) ((chv_gt u).mpr hu256) ?_
    refine WP.aload (pc' := 56) dCP3_54 rfl rfl rfl ?_
    refine WP.areturn dCP3_56 rfl rfl rfl ⟨rfl, t2, rfl, ?_, Or.inr ⟨hl, D3⟩⟩ (fun _ hx => nomatch hx) (fun x hx => List.mem_cons_of_mem _ hx) (by dsimp only; omega) (by dsimp only; omega)
    exact Nat.le_trans (Nat.le_trans E.1 K.1) ht2
theorem dSI4_0 : decode jdk_42_method_149_code 0 = .ok (.aload_n 0, 1) := by decide +kernel
theorem dSI4_1 : decode jdk_42_method_149_code 1 = .ok (.invokespecial 1, 3) := by decide +kernel
theorem dSI4_4 : decode jdk_42_method_149_code 4 = .ok (.iload_n 3, 1) := by decide +kernel
theorem dSI4_5 : decode jdk_42_method_149_code 5 = .ok (.ifCond .ne 22, 3) := by decide +kernel
theorem dSI4_8 : decode jdk_42_method_149_code 8 = .ok (.aload_n 0, 1) := by decide +kernel
theorem dSI4_9 : decode jdk_42_method_149_code 9 = .ok (.ldc 7, 2) := by decide +kernel
theorem dSI4_11 : decode jdk_42_method_149_code 11 = .ok (.getfield 9, 3) := by decide +kernel
theorem dSI4_14 : decode jdk_42_method_149_code 14 = .ok (.putfield 9, 3) := by decide +kernel
theorem dSI4_17 : decode jdk_42_method_149_code 17 = .ok (.aload_n 0, 1) := by decide +kernel
theorem dSI4_18 : decode jdk_42_method_149_code 18 = .ok (.ldc 7, 2) := by decide +kernel
theorem dSI4_20 : decode jdk_42_method_149_code 20 = .ok (.getfield 15, 3) := by decide +kernel
theorem dSI4_23 : decode jdk_42_method_149_code 23 = .ok (.putfield 15, 3) := by decide +kernel
theorem dSI4_26 : decode jdk_42_method_149_code 26 = .ok (.return_, 1) := by decide +kernel
theorem dSI4_27 : decode jdk_42_method_149_code 27 = .ok (.getstatic 38, 3) := by decide +kernel
theorem dSI4_30 : decode jdk_42_method_149_code 30 = .ok (.ifCond .eq 28, 3) := by decide +kernel
theorem dSI4_33 : decode jdk_42_method_149_code 33 = .ok (.aload_n 1, 1) := by decide +kernel
theorem dSI4_34 : decode jdk_42_method_149_code 34 = .ok (.iload_n 2, 1) := by decide +kernel
theorem dSI4_35 : decode jdk_42_method_149_code 35 = .ok (.iload_n 3, 1) := by decide +kernel
theorem dSI4_36 : decode jdk_42_method_149_code 36 = .ok (.invokestatic 177, 3) := by decide +kernel
theorem dSI4_39 : decode jdk_42_method_149_code 39 = .ok (.astore 5, 2) := by decide +kernel
theorem dSI4_41 : decode jdk_42_method_149_code 41 = .ok (.aload_n 0, 1) := by decide +kernel
theorem dSI4_42 : decode jdk_42_method_149_code 42 = .ok (.aload 5, 2) := by decide +kernel
theorem dSI4_44 : decode jdk_42_method_149_code 44 = .ok (.iload_n 3, 1) := by decide +kernel
theorem dSI4_45 : decode jdk_42_method_149_code 45 = .ok (.invokestatic 47, 3) := by decide +kernel
theorem dSI4_48 : decode jdk_42_method_149_code 48 = .ok (.putfield 15, 3) := by decide +kernel
theorem dSI4_51 : decode jdk_42_method_149_code 51 = .ok (.aload_n 0, 1) := by decide +kernel
theorem dSI4_52 : decode jdk_42_method_149_code 52 = .ok (.aload 5, 2) := by decide +kernel
theorem dSI4_54 : decode jdk_42_method_149_code 54 = .ok (.putfield 9, 3) := by decide +kernel
theorem dSI4_57 : decode jdk_42_method_149_code 57 = .ok (.return_, 1) := by decide +kernel
theorem dSI4_58 : decode jdk_42_method_149_code 58 = .ok (.aload_n 0, 1) := by decide +kernel
theorem dSI4_59 : decode jdk_42_method_149_code 59 = .ok (.iconst 1, 1) := by decide +kernel
theorem dSI4_60 : decode jdk_42_method_149_code 60 = .ok (.putfield 15, 3) := by decide +kernel
theorem dSI4_63 : decode jdk_42_method_149_code 63 = .ok (.aload_n 0, 1) := by decide +kernel
theorem dSI4_64 : decode jdk_42_method_149_code 64 = .ok (.aload_n 1, 1) := by decide +kernel
theorem dSI4_65 : decode jdk_42_method_149_code 65 = .ok (.iload_n 2, 1) := by decide +kernel
theorem dSI4_66 : decode jdk_42_method_149_code 66 = .ok (.iload_n 3, 1) := by decide +kernel
theorem dSI4_67 : decode jdk_42_method_149_code 67 = .ok (.invokestatic 180, 3) := by decide +kernel
theorem dSI4_70 : decode jdk_42_method_149_code 70 = .ok (.putfield 9, 3) := by decide +kernel
theorem dSI4_73 : decode jdk_42_method_149_code 73 = .ok (.return_, 1) := by decide +kernel
theorem pnSI4 : plainFor (⟨"java/lang/String", "<init>", "([CIILjava/lang/Void;)V"⟩ : MethodName) = true := plainFor_of_name (by first | (simp [plainName, overriddenIn]; done) | decide +kernel)
set_option maxRecDepth 65536 in
set_option maxHeartbeats 40000000 in
theorem con_SI4 (hw : ∀ d ∈ tables_1, d.before a0 Z = true) {cz : Int32} (hc : Compact Z cz) {us : List UInt16} (hu : Hu Z us) {a b : Addr} {N : Nat} {bs : List Int32} {off : Nat} (hsub : SubC bs off us) (hN : us.length ≤ N) (hn : N ≤ 33554432) (E : Exa Z h a ST) (FV : Fld Z h a ST "value" "[B" .null) (FC : Fld Z h a ST "coder" "B" (.int 0)) (A : ArI Z h b .char bs) (hm : a ∈ mine) :
    Con (⟨"java/lang/String", "<init>", "([CIILjava/lang/Void;)V"⟩ : MethodName) jdk_42_method_149_code 6 none { frames := 4, cells := 4, slots := 3 * N + 8, locals := 57 } Z LT [] #[.ref a, .ref b, .int (Int32.ofNat off), .int (Int32.ofNat us.length), .null] h [a] mine (fun v h' nw => nw = [] ∧ v = none ∧ ∃ t, StrAt Z h' a t us ∧ t ∉ mine) := by
  have hl : us.length < 2 ^ 31 := by have := A.len; have := hsub.1; omega
  refine Con.of pnSI4 (Ls := [.val (.ref a), .val (.ref b), .val (.int (Int32.ofNat off)), .val (.int (Int32.ofNat us.length)), .val .null, .unset]) (fun m => by first | (simp [entryFrame, mkF, argsToLocals, Value.category]; done) | (simp [entryFrame, mkF, argsToLocals, Value.category, maxLocals]; done) | rfl) ?_
  refine WP.know fun _ _ hmine => ?_
  refine WP.aloadN (pc' := 1) dSI4_0 rfl rfl rfl ?_
  refine WP.initObj (pc' := 4) (W := 0) dSI4_1 (hw _ (List.mem_of_getElem? (i := 15) rfl)) (hw _ (List.mem_of_getElem? (i := 16) rfl)) (hw _ (List.mem_of_getElem? (i := 17) rfl)) rfl (by first | exact Nat.le_of_ble_eq_true rfl | omega | (simp; done) | (simp; omega) | (dsimp only; omega)) (by first | exact Nat.le_of_ble_eq_true rfl | omega | (simp; done) | (simp; omega) | (dsimp only; omega)) (by first | exact Nat.le_of_ble_eq_true rfl | omega | (simp; done) | (simp; omega) | (dsimp only; omega)) rfl ?_
  refine WP.iloadN (pc' := 5) dSI4_4 rfl rfl ?_
  rcases Nat.eq_zero_or_pos us.length with h0 | h0
  · obtain rfl : us = [] := List.eq_nil_of_length_eq_zero h0
    refine WP.ifF (pc' := 8) dSI4_5 rfl rfl ?_
    refine WP.aloadN (pc' := 9) dSI4_8 rfl rfl rfl ?_
    refine WP.ldcS (pc' := 11) (text := "") (n := 0) dSI4_9 (by decide) (atoms hw) (by decide) (by decide) (by decide) (by first | exact Nat.le_of_ble_eq_true rfl | omega | (simp; done) | (simp; omega) | (dsimp only; omega)) (by first | exact Nat.le_of_ble_eq_true rfl | omega | (simp; done) | (simp; omega) | (dsimp only; omega)) rfl ?_
    intro h1 q1 E1 S1
    obtain ⟨t1, S1, hq1, ht1⟩ := S1
    obtain ⟨-, V1, h1c⟩ := id S1
    have hne1 : q1 ≠ a := fun q => hq1 (q ▸ hm)
    refine WP.getfield (pc' := 14) (host := "") dSI4_11 (Or.inl (hw _ (List.mem_of_getElem? (i := 24) rfl))) Via.refl V1 rfl ?_
    refine WP.putfield (pc' := 17) (host := "") dSI4_14 (Or.inl (hw _ (List.mem_of_getElem? (i := 24) rfl))) Via.refl (FV.ext E1) (E.ext E1) (Or.inr ⟨(hw _ (List.mem_of_getElem? (i := 20) rfl)), rfl, rfl⟩) (hw _ (List.mem_of_getElem? (i := 6) rfl)) (ty := (.array .byte)) (by decide) rfl rfl hm (Or.inl (List.mem_singleton.mpr rfl)) rfl ?_
    intro h2 W2 V2 E2
    refine WP.aloadN (pc' := 18) dSI4_17 rfl rfl rfl ?_
    refine WP.ldcS (pc' := 20) (text := "") (n := 0) dSI4_18 (by decide) (atoms hw) (by decide) (by decide) (by decide) (by first | exact Nat.le_of_ble_eq_true rfl | omega | (simp; done) | (simp; omega) | (dsimp only; omega)) (by first | exact Nat.le_of_ble_eq_true rfl | omega | (simp; done) | (simp; omega) | (dsimp only; omega)) rfl ?_
    intro h3 q3 E3 S3
    obtain ⟨t3, S3, hq3, ht3⟩ := S3
    have C3 : Fld Z h3 q3 ST "coder" "B" (.int 0) := by
      rcases S3.2.2 with q | q
      · exact q.2.1
      · exact absurd q.1 (by decide)
    refine WP.getfield (pc' := 23) (host := "") dSI4_20 (Or.inl (hw _ (List.mem_of_getElem? (i := 25) rfl))) Via.refl C3 rfl ?_
    have sne : Jvm.RoadKit.slotOf Z ST "value" "[B" ≠ Jvm.RoadKit.slotOf Z ST "coder" "B" := slot_ne (Or.inr (hw _ (List.mem_of_getElem? (i := 20) rfl))) (Or.inr (hw _ (List.mem_of_getElem? (i := 21) rfl))) (by decide) (t := .array .byte) (t' := .byte) (by decide) (by decide)
    have FC2 : Fld Z h3 a ST "coder" "B" (.int 0) := ((FC.ext E1).other W2 (Or.inr (Ne.symm sne))).ext E3
    refine WP.putfield (pc' := 26) (host := "") dSI4_23 (Or.inl (hw _ (List.mem_of_getElem? (i := 25) rfl))) Via.refl FC2 (E2.ext E3) (Or.inr ⟨(hw _ (List.mem_of_getElem? (i := 21) rfl)), rfl, rfl⟩) (hw _ (List.mem_of_getElem? (i := 6) rfl)) (ty := .byte) (by decide) rfl rfl hm (Or.inl (List.mem_singleton.mpr rfl)) rfl ?_
    intro h4 W4 C4 E4
    have S1' : StrAt Z h4 q1 t1 [] := (((S1.cells (fun c hc => by have := wr_at W2 hc; obtain ⟨c', g1, -, -, -, g5, -⟩ := this; rw [← g5 hne1]; exact g1) (fun c hc => by obtain ⟨c', g1, -, -, -, g5, -⟩ := wr_at W2 hc; rw [← g5 (fun q => ht1 (q ▸ hm))]; exact g1)).cells (fun c hc => E3.2 _ _ hc) (fun c hc => E3.2 _ _ hc)).cells (fun c hc => by obtain ⟨c', g1, -, -, -, g5, -⟩ := wr_at W4 hc; rw [← g5 hne1]; exact g1) (fun c hc => by obtain ⟨c', g1, -, -, -, g5, -⟩ := wr_at W4 hc; rw [← g5 (fun q => ht1 (q ▸ hm))]; exact g1))
    refine WP.vret dSI4_26 rfl ⟨rfl, rfl, t1, ⟨E4, (V2.ext E3).other W4 (Or.inr sne), Or.inl ⟨rfl, C4, ?_⟩⟩, ht1⟩ (fun _ hx => nomatch hx) (fun _ hx => hx) (by dsimp only; omega) (by dsimp only; omega)
    rcases S1'.2.2 with q | q
    · exact q.2.2
    · exact absurd q.1 (by decide)
  · refine WP.ifT (pc' := 27) dSI4_5 (by decide) (by decide) (fun q => by rw [show (0 : Int32) = Int32.ofNat 0 from rfl, n32_eq hl (by omega)] at q; omega) ?_
    refine WP.getstatic (pc' := 30) (host := "") dSI4_27 (Or.inl (hw _ (List.mem_of_getElem? (i := 59) rfl))) Via.refl hc.1 rfl ?_
    refine WP.ifF (pc' := 33) dSI4_30 rfl hc.2 ?_
    refine WP.aloadN (pc' := 34) dSI4_33 rfl rfl rfl ?_
    refine WP.iloadN (pc' := 35) dSI4_34 rfl rfl ?_
    refine WP.iloadN (pc' := 36) dSI4_35 rfl rfl ?_
    refine WP.callS (pc' := 39) (con_CP3 hw hu.a hsub hN hn A) (hw _ (List.mem_of_getElem? (i := 122) rfl)) (hw _ (List.mem_of_getElem? (i := 123) rfl)) (hw _ (List.mem_of_getElem? (i := 124) rfl)) (hw _ (List.mem_of_getElem? (i := 125) rfl)) dSI4_36 (by decide) pdx4 rfl rfl rfl (by first | exact Nat.le_of_ble_eq_true rfl | omega | (simp; done) | (simp; omega) | (dsimp only; omega)) (by first | exact Nat.le_of_ble_eq_true rfl | omega | (simp; done) | (simp; omega) | (dsimp only; omega)) (by first | exact Nat.le_of_ble_eq_true rfl | omega | (simp; done) | (simp; omega) | (dsimp only; omega)) (by first | exact Nat.le_of_ble_eq_true rfl | omega | (simp; done) | (simp; omega) | (dsimp only; omega)) (fun _ hx => nomatch hx) rfl ?_
    rintro v h1 nw K1 hnw ⟨rfl, t, rfl, ht, hT⟩
    dsimp only [Option.toList, List.cons_append, List.nil_append]
    refine WP.astore (pc' := 41) dSI4_39 rfl rfl rfl rfl rfl ?_
    dsimp only [List.set]
    refine WP.aloadN (pc' := 42) dSI4_41 rfl rfl rfl ?_
    refine WP.aload (pc' := 44) dSI4_42 rfl rfl rfl ?_
    refine WP.iloadN (pc' := 45) dSI4_44 rfl rfl ?_
    obtain ⟨xs, T, hxs⟩ : ∃ xs, ArI Z h1 t .byte xs ∧ ((lat us = true ∧ xs = us.map lo8) ∨ (lat us = false ∧ xs = b16 us)) := by
      rcases hT with ⟨q1, q2⟩ | ⟨q1, q2⟩
      · exact ⟨_, q2, Or.inl ⟨q1, rfl⟩⟩
      · exact ⟨_, q2, Or.inr ⟨q1, rfl⟩⟩
    have hta : t ≠ a := fun q => absurd E.lt (Nat.not_lt.mpr (q ▸ ht))
    refine WP.callS (pc' := 48) (con_CL T hl hxs) (hw _ (List.mem_of_getElem? (i := 129) rfl)) (hw _ (List.mem_of_getElem? (i := 130) rfl)) (hw _ (List.mem_of_getElem? (i := 124) rfl)) (hw _ (List.mem_of_getElem? (i := 131) rfl)) dSI4_45 (by decide) pdx6 rfl rfl rfl (by first | exact Nat.le_of_ble_eq_true rfl | omega | (simp; done) | (simp; omega) | (dsimp only; omega)) (by first | exact Nat.le_of_ble_eq_true rfl | omega | (simp; done) | (simp; omega) | (dsimp only; omega)) (by first | exact Nat.le_of_ble_eq_true rfl | omega | (simp; done) | (simp; omega) | (dsimp only; omega)) (by first | exact Nat.le_of_ble_eq_true rfl | omega | (simp; done) | (simp; omega) | (dsimp only; omega)) (fun _ hx => nomatch hx) rfl ?_
    rintro v h2 nw K2 hnw2 ⟨rfl, rfl, rfl⟩
    dsimp only [Option.toList, List.cons_append, List.nil_append]
    have E1 := E.keep K1
    refine WP.putfield (pc' := 51) (host := "") dSI4_48 (Or.inl (hw _ (List.mem_of_getElem? (i := 25) rfl))) Via.refl (FC.keep K1 nin0) E1 (Or.inr ⟨(hw _ (List.mem_of_getElem? (i := 21) rfl)), rfl, rfl⟩) (hw _ (List.mem_of_getElem? (i := 6) rfl)) (ty := .byte) (by decide) (by split <;> rfl) (by split <;> rfl) hm (Or.inl (List.mem_singleton.mpr rfl)) rfl ?_
    intro h3 W3 C3 E3
    refine WP.aloadN (pc' := 52) dSI4_51 rfl rfl rfl ?_
    refine WP.aload (pc' := 54) dSI4_52 rfl rfl rfl ?_
    have sne : Jvm.RoadKit.slotOf Z ST "value" "[B" ≠ Jvm.RoadKit.slotOf Z ST "coder" "B" := slot_ne (Or.inr (hw _ (List.mem_of_getElem? (i := 20) rfl))) (Or.inr (hw _ (List.mem_of_getElem? (i := 21) rfl))) (by decide) (t := .array .byte) (t' := .byte) (by decide) (by decide)
    refine WP.putfield (pc' := 57) (host := "") dSI4_54 (Or.inl (hw _ (List.mem_of_getElem? (i := 24) rfl))) Via.refl ((FV.keep K1 nin0).other W3 (Or.inr sne)) E3 (Or.inr ⟨(hw _ (List.mem_of_getElem? (i := 20) rfl)), rfl, rfl⟩) (hw _ (List.mem_of_getElem? (i := 6) rfl)) (ty := (.array .byte)) (by decide) rfl rfl hm (Or.inl (List.mem_singleton.mpr rfl)) rfl ?_
    intro h4 W4 V4 E4
    refine WP.vret dSI4_57 rfl ⟨rfl, rfl, t, ⟨E4, V4, ?_⟩, fun q => ?_⟩ (fun _ hx => nomatch hx) (fun _ hx => hx) (by dsimp only; omega) (by dsimp only; omega)
    · have T4 : ArI Z h4 t .byte xs := (T.other W3 hta).other W4 hta
      rcases hxs with ⟨q1, rfl⟩ | ⟨q1, rfl⟩
      · rw [if_pos q1] at C3
        exact Or.inl ⟨q1, C3.other W4 (Or.inr (Ne.symm sne)), T4⟩
      · rw [if_neg (by rw [q1]; decide)] at C3
        exact Or.inr ⟨q1, C3.other W4 (Or.inr (Ne.symm sne)), T4⟩
    · exact absurd (hmine t q).2 (Nat.not_lt.mpr ht)
theorem dSI1_0 : decode jdk_42_method_3_code 0 = .ok (.aload_n 0, 1) := by decide +kernel
theorem dSI1_1 : decode jdk_42_method_3_code 1 = .ok (.aload_n 1, 1) := by decide +kernel
theorem dSI1_2 : decode jdk_42_method_3_code 2 = .ok (.iconst 0, 1) := by decide +kernel
theorem dSI1_3 : decode jdk_42_method_3_code 3 = .ok (.aload_n 1, 1) := by decide +kernel
theorem dSI1_4 : decode jdk_42_method_3_code 4 = .ok (.arraylength, 1) := by decide +kernel
theorem dSI1_5 : decode jdk_42_method_3_code 5 = .ok (.aconst_null, 1) := by decide +kernel
theorem dSI1_6 : decode jdk_42_method_3_code 6 = .ok (.invokespecial 27, 3) := by decide +kernel
theorem dSI1_9 : decode jdk_42_method_3_code 9 = .ok (.return_, 1) := by decide +kernel
theorem pnSI1 : plainFor (⟨"java/lang/String", "<init>", "([C)V"⟩ : MethodName) = true := plainFor_of_name (by first | (simp [plainName, overriddenIn]; done) | decide +kernel)
set_option maxRecDepth 65536 in
set_option maxHeartbeats 40000000 in
theorem con_SI1 (hw : ∀ d ∈ tables_1, d.before a0 Z = true) {cz : Int32} (hc : Compact Z cz) {us : List UInt16} (hu : Hu Z us) {a b : Addr} {N : Nat} (hN : us.length ≤ N) (hn : N ≤ 33554432) (E : Exa Z h a ST) (FV : Fld Z h a ST "value" "[B" .null) (FC : Fld Z h a ST "coder" "B" (.int 0)) (A : ArI Z h b .char (us.map chv)) (hm : a ∈ mine) :
    Con (⟨"java/lang/String", "<init>", "([C)V"⟩ : MethodName) jdk_42_method_3_code 2 none { frames := 5, cells := 4, slots := 3 * N + 8, locals := 74 } Z LT [] #[.ref a, .ref b] h [a] mine (fun v h' nw => nw = [] ∧ v = none ∧ ∃ t, StrAt Z h' a t us ∧ t ∉ mine) := by
  refine Con.of pnSI1 (Ls := [.val (.ref a), .val (.ref b)]) (fun m => by first | (simp [entryFrame, mkF, argsToLocals, Value.category]; done) | (simp [entryFrame, mkF, argsToLocals, Value.category, maxLocals]; done) | rfl) ?_
  refine WP.aloadN (pc' := 1) dSI1_0 rfl rfl rfl ?_
  refine WP.aloadN (pc' := 2) dSI1_1 rfl rfl rfl ?_
  refine WP.iconst (pc' := 3) (x := 0) dSI1_2 (by decide) rfl ?_
  refine WP.aloadN (pc' := 4) dSI1_3 rfl rfl rfl ?_
  refine WP.arraylength (pc' := 5) dSI1_4 A (n := Int32.ofNat us.length) (by simp) rfl ?_
  refine WP.aconstNull (pc' := 6) dSI1_5 rfl ?_
  refine WP.callSp (pc' := 9) (con_SI4 (off := 0) hw hc hu (SubC.full us) hN hn E FV FC A hm) rfl (hw _ (List.mem_of_getElem? (i := 11) rfl)) (hw _ (List.mem_of_getElem? (i := 12) rfl)) (hw _ (List.mem_of_getElem? (i := 7) rfl)) (hw _ (List.mem_of_getElem? (i := 14) rfl)) dSI1_6 (by decide) pdx7 rfl rfl rfl (by first | exact Nat.le_of_ble_eq_true rfl | omega | (simp; done) | (simp; omega) | (dsimp only; omega)) (by first | exact Nat.le_of_ble_eq_true rfl | omega | (simp; done) | (simp; omega) | (dsimp only; omega)) (by first | exact Nat.le_of_ble_eq_true rfl | omega | (simp; done) | (simp; omega) | (dsimp only; omega)) (by first | exact Nat.le_of_ble_eq_true rfl | omega | (simp; done) | (simp; omega) | (dsimp only; omega)) (fun x hx => Or.inl hx) rfl ?_
  rintro v h1 nw K1 hnw ⟨rfl, rfl, t, S, ht⟩
  dsimp only [Option.toList, List.nil_append]
  exact WP.vret dSI1_9 rfl ⟨rfl, rfl, t, S, ht⟩ (fun _ hx => nomatch hx) (fun _ hx => hx) (by dsimp only; omega) (by dsimp only; omega)
end JdkStr
end Jvm.Pilot.@@N@@

namespace Jvm.Pilot.@@N@@
open Jvm Jvm.ClassFile Sem Op Lib Jvm.Free Jvm.Stand Jvm.LawKit Jvm.RoadKit Bundle Jvm.Pilot.@@N@@.Jvm.D Jvm.OwnW

section JdkCod
variable {Z : State} {a0 : Array Value} {h : Heap} {mine : List Addr}
theorem dCO_0 : decode jdk_42_method_152_code 0 = .ok (.getstatic 38, 3) := by decide +kernel
theorem dCO_3 : decode jdk_42_method_152_code 3 = .ok (.ifCond .eq 10, 3) := by decide +kernel
theorem dCO_6 : decode jdk_42_method_152_code 6 = .ok (.aload_n 0, 1) := by decide +kernel
theorem dCO_7 : decode jdk_42_method_152_code 7 = .ok (.getfield 15, 3) := by decide +kernel
theorem dCO_10 : decode jdk_42_method_152_code 10 = .ok (.goto 4, 3) := by decide +kernel
theorem dCO_13 : decode jdk_42_method_152_code 13 = .ok (.iconst 1, 1) := by decide +kernel
theorem dCO_14 : decode jdk_42_method_152_code 14 = .ok (.ireturn, 1) := by decide +kernel
theorem pnCO : plainFor (⟨"java/lang/String", "coder", "()B"⟩ : MethodName) = true := plainFor_of_name (by first | (simp [plainName, overriddenIn]; done) | decide +kernel)
set_option maxRecDepth 65536 in
set_option maxHeartbeats 40000000 in
theorem con_CO (hw : ∀ d ∈ tables_1, d.before a0 Z = true) {cz : Int32} (hc : Compact Z cz) {a t : Addr} {us : List UInt16} (S : StrAt Z h a t us) : Con (⟨"java/lang/String", "coder", "()B"⟩ : MethodName) jdk_42_method_152_code 1 (some .byte) R0 Z LT [] #[.ref a] h [] mine (fun v h' nw => nw = [] ∧ v = some (.int (cod us)) ∧ h' = h) := by
  obtain ⟨e1, v1, c1, b1⟩ := S.open
  refine Con.of pnCO (Ls := [.val (.ref a)]) (fun m => by first | (simp [entryFrame, mkF, argsToLocals, Value.category]; done) | (simp [entryFrame, mkF, argsToLocals, Value.category, maxLocals]; done) | rfl) ?_
  refine WP.getstatic (pc' := 3) (host := "") dCO_0 (Or.inl (hw _ (List.mem_of_getElem? (i := 59) rfl))) Via.refl hc.1 rfl ?_
  refine WP.ifF (pc' := 6) dCO_3 rfl hc.2 ?_
  refine WP.aloadN (pc' := 7) dCO_6 rfl rfl rfl ?_
  refine WP.getfield (pc' := 10) (host := "") dCO_7 (Or.inl (hw _ (List.mem_of_getElem? (i := 25) rfl))) Via.refl c1 rfl ?_
  refine WP.goto (pc' := 14) dCO_10 (by decide) (by decide) ?_
  exact WP.ireturn dCO_14 rfl (by simp) (by unfold cod; split <;> rfl) ⟨rfl, rfl, rfl⟩ (fun _ hx => nomatch hx) (fun _ hx => hx) (Nat.le_refl _) (Nat.le_refl _)
theorem dIL_0 : decode jdk_42_method_154_code 0 = .ok (.getstatic 38, 3) := by decide +kernel
theorem dIL_3 : decode jdk_42_method_154_code 3 = .ok (.ifCond .eq 14, 3) := by decide +kernel
theorem dIL_6 : decode jdk_42_method_154_code 6 = .ok (.aload_n 0, 1) := by decide +kernel
theorem dIL_7 : decode jdk_42_method_154_code 7 = .ok (.getfield 15, 3) := by decide +kernel
theorem dIL_10 : decode jdk_42_method_154_code 10 = .ok (.ifCond .ne 7, 3) := by decide +kernel
theorem dIL_13 : decode jdk_42_method_154_code 13 = .ok (.iconst 1, 1) := by decide +kernel
theorem dIL_14 : decode jdk_42_method_154_code 14 = .ok (.goto 4, 3) := by decide +kernel
theorem dIL_17 : decode jdk_42_method_154_code 17 = .ok (.iconst 0, 1) := by decide +kernel
theorem dIL_18 : decode jdk_42_method_154_code 18 = .ok (.ireturn, 1) := by decide +kernel
theorem pnIL : plainFor (⟨"java/lang/String", "isLatin1", "()Z"⟩ : MethodName) = true := plainFor_of_name (by first | (simp [plainName, overriddenIn]; done) | decide +kernel)
set_option maxRecDepth 65536 in
set_option maxHeartbeats 40000000 in
theorem con_IL (hw : ∀ d ∈ tables_1, d.before a0 Z = true) {cz : Int32} (hc : Compact Z cz) {a t : Addr} {us : List UInt16} (S : StrAt Z h a t us) : Con (⟨"java/lang/String", "isLatin1", "()Z"⟩ : MethodName) jdk_42_method_154_code 1 (some .boolean) R0 Z LT [] #[.ref a] h [] mine (fun v h' nw => nw = [] ∧ v = some (.int (if lat us = true then 1 else 0)) ∧ h' = h) := by
  obtain ⟨e1, v1, c1, b1⟩ := S.open
  refine Con.of pnIL (Ls := [.val (.ref a)]) (fun m => by first | (simp [entryFrame, mkF, argsToLocals, Value.category]; done) | (simp [entryFrame, mkF, argsToLocals, Value.category, maxLocals]; done) | rfl) ?_
  refine WP.getstatic (pc' := 3) (host := "") dIL_0 (Or.inl (hw _ (List.mem_of_getElem? (i := 59) rfl))) Via.refl hc.1 rfl ?_
  refine WP.ifF (pc' := 6) dIL_3 rfl hc.2 ?_
  refine WP.aloadN (pc' := 7) dIL_6 rfl rfl rfl ?_
  refine WP.getfield (pc' := 10) (host := "") dIL_7 (Or.inl (hw _ (List.mem_of_getElem? (i := 25) rfl))) Via.refl c1 rfl ?_
  cases hl : lat us
  · rw [cod_utf hl]
    refine WP.ifT (pc' := 17) dIL_10 (by decide) (by decide) (show ¬ (1 : Int32) = 0 by decide) ?_
    refine WP.iconst (pc' := 18) (x := 0) dIL_17 (by decide) rfl ?_
    exact WP.ireturn dIL_18 rfl (by simp) rfl ⟨rfl, rfl, rfl⟩ (fun _ hx => nomatch hx) (fun _ hx => hx) (Nat.le_refl _) (Nat.le_refl _)
  · rw [cod_lat hl]
    refine WP.ifF (pc' := 13) dIL_10 rfl rfl ?_
    refine WP.iconst (pc' := 14) (x := 1) dIL_13 (by decide) rfl ?_
    refine WP.goto (pc' := 18) dIL_14 (by decide) (by decide) ?_
    exact WP.ireturn dIL_18 rfl (by simp) rfl ⟨rfl, rfl, rfl⟩ (fun _ hx => nomatch hx) (fun _ hx => hx) (Nat.le_refl _) (Nat.le_refl _)
theorem dUL_0 : decode jdk_52_method_6_code 0 = .ok (.aload_n 0, 1) := by decide +kernel
theorem dUL_1 : decode jdk_52_method_6_code 1 = .ok (.arraylength, 1) := by decide +kernel
theorem dUL_2 : decode jdk_52_method_6_code 2 = .ok (.iconst 1, 1) := by decide +kernel
theorem dUL_3 : decode jdk_52_method_6_code 3 = .ok (.ishr, 1) := by decide +kernel
theorem dUL_4 : decode jdk_52_method_6_code 4 = .ok (.ireturn, 1) := by decide +kernel
theorem pnUL : plainFor (⟨"java/lang/StringUTF16", "length", "([B)I"⟩ : MethodName) = true := plainFor_of_name (by first | (simp [plainName, overriddenIn]; done) | decide +kernel)
set_option maxRecDepth 65536 in
set_option maxHeartbeats 40000000 in
theorem con_UL {t : Addr} {us : List UInt16} (T : ArI Z h t .byte (b16 us)) : Con (⟨"java/lang/StringUTF16", "length", "([B)I"⟩ : MethodName) jdk_52_method_6_code 1 (some .int) R0 Z LT [] #[.ref t] h [] mine (fun v h' nw => nw = [] ∧ v = some (.int (Int32.ofNat us.length)) ∧ h' = h) := by
  have hl := T.len
  rw [b16_len] at hl
  refine Con.of pnUL (Ls := [.val (.ref t)]) (fun m => by first | (simp [entryFrame, mkF, argsToLocals, Value.category]; done) | (simp [entryFrame, mkF, argsToLocals, Value.category, maxLocals]; done) | rfl) ?_
  refine WP.aloadN (pc' := 1) dUL_0 rfl rfl rfl ?_
  refine WP.arraylength (pc' := 2) dUL_1 T (n := Int32.ofNat (2 * us.length)) (by rw [b16_len]) rfl ?_
  refine WP.iconst (pc' := 3) (x := 1) dUL_2 (by decide) rfl ?_
  refine WP.ishr (pc' := 4) dUL_3 rfl ?_
  rw [n32_half (by omega)]
  exact WP.ireturn dUL_4 rfl (by simp) rfl ⟨rfl, rfl, rfl⟩ (fun _ hx => nomatch hx) (fun _ hx => hx) (Nat.le_refl _) (Nat.le_refl _)
end JdkCod
end Jvm.Pilot.@@N@@

namespace Jvm.Pilot.@@N@@
open Jvm Jvm.ClassFile Sem Op Lib Jvm.Free Jvm.Stand Jvm.LawKit Jvm.RoadKit Bundle Jvm.Pilot.@@N@@.Jvm.D Jvm.OwnW
theorem pdx8 : parseMethodDescriptor "()B" = some ⟨[], some .byte⟩ := by decide +kernel
def Fmt (Z : State) (vf : Value) : Prop := Sta Z Z.heap "jdk/internal/util/Preconditions" "SIOOBE_FORMATTER" "Ljava/util/function/BiFunction;" vf ∧ vf.isRef = true
theorem n32_nn {i : Nat} (h : i < 2 ^ 31) : ¬ Int32.ofNat i < 0 := fun q => by rw [Int32.lt_iff_toInt_lt, n32_toInt h] at q; simp at q; omega
theorem n32_or3 {i j k : Nat} (hi : i < 2 ^ 31) (hj : j < 2 ^ 31) (hk : k < 2 ^ 31) : ¬ ((Int32.ofNat i ||| Int32.ofNat j) ||| Int32.ofNat k) < 0 := fun q => by
  rw [Int32.lt_iff_toInt_lt] at q
  have h1 := (c_orS (Int32.ofNat i) (Int32.ofNat j)).1
  have h2 := (c_orS (Int32.ofNat i ||| Int32.ofNat j) (Int32.ofNat k)).1
  rw [n32_toInt hi, n32_toInt hj] at h1
  rw [n32_toInt hk] at h2
  have h3 := h2 (h1 (by omega) (by omega)) (by omega)
  have e0 : (0 : Int32).toInt = 0 := rfl
  omega
theorem i32_sub0 (x : Int32) : x - 0 = x := by simp
theorem len_shr {us : List UInt16} (h : (byt us).length < 2 ^ 31) : Int32.ofNat (byt us).length >>> (cod us &&& 31) = Int32.ofNat us.length := by
  cases hl : lat us
  · rw [cod_utf hl, byt_utf hl] at *
    rw [b16_len] at *
    exact n32_half h
  · rw [cod_lat hl, byt_lat hl] at *
    have s := c_ishr (Int32.ofNat (us.map lo8).length) 0 0 (by decide)
    apply Int32.toInt_inj.mp
    rw [s]; simp
section JdkChr
variable {Z : State} {a0 : Array Value} {h : Heap} {mine : List Addr}
theorem dLEN_0 : decode jdk_42_method_54_code 0 = .ok (.aload_n 0, 1) := by decide +kernel
theorem dLEN_1 : decode jdk_42_method_54_code 1 = .ok (.getfield 9, 3) := by decide +kernel
theorem dLEN_4 : decode jdk_42_method_54_code 4 = .ok (.arraylength, 1) := by decide +kernel
theorem dLEN_5 : decode jdk_42_method_54_code 5 = .ok (.aload_n 0, 1) := by decide +kernel
theorem dLEN_6 : decode jdk_42_method_54_code 6 = .ok (.invokevirtual 335, 3) := by decide +kernel
theorem dLEN_9 : decode jdk_42_method_54_code 9 = .ok (.ishr, 1) := by decide +kernel
theorem dLEN_10 : decode jdk_42_method_54_code 10 = .ok (.ireturn, 1) := by decide +kernel
theorem pnLEN : plainFor (⟨"java/lang/String", "length", "()I"⟩ : MethodName) = true := plainFor_of_name (by first | (simp [plainName, overriddenIn]; done) | decide +kernel)
set_option maxRecDepth 65536 in
set_option maxHeartbeats 40000000 in
theorem con_LEN (hw : ∀ d ∈ tables_1, d.before a0 Z = true) {cz : Int32} (hc : Compact Z cz) {a t : Addr} {us : List UInt16} (S : StrAt Z h a t us) : Con (⟨"java/lang/String", "length", "()I"⟩ : MethodName) jdk_42_method_54_code 1 (some .int) { frames := 1, cells := 0, slots := 0, locals := 13 } Z LT [] #[.ref a] h [] mine (fun v h' nw => nw = [] ∧ v = some (.int (Int32.ofNat us.length)) ∧ h' = h) := by
  obtain ⟨e1, v1, c1, b1⟩ := S.open
  refine Con.of pnLEN (Ls := [.val (.ref a)]) (fun m => by first | (simp [entryFrame, mkF, argsToLocals, Value.category]; done) | (simp [entryFrame, mkF, argsToLocals, Value.category, maxLocals]; done) | rfl) ?_
  refine WP.aloadN (pc' := 1) dLEN_0 rfl rfl rfl ?_
  refine WP.getfield (pc' := 4) (host := "") dLEN_1 (Or.inl (hw _ (List.mem_of_getElem? (i := 24) rfl))) Via.refl v1 rfl ?_
  refine WP.arraylength (pc' := 5) dLEN_4 b1 rfl rfl ?_
  refine WP.aloadN (pc' := 6) dLEN_5 rfl rfl rfl ?_
  refine WP.callV (pc' := 9) (con_CO hw hc S) e1 (hw _ (List.mem_of_getElem? (i := 54) rfl)) (hw _ (List.mem_of_getElem? (i := 55) rfl)) (fun s hs => notFace_of_selects (args := #[]) (mv hs (hw _ (List.mem_of_getElem? (i := 57) rfl)))) (hw _ (List.mem_of_getElem? (i := 57) rfl)) (hw _ (List.mem_of_getElem? (i := 56) rfl)) (hw _ (List.mem_of_getElem? (i := 7) rfl)) (hw _ (List.mem_of_getElem? (i := 58) rfl)) dLEN_6 (by decide) pdx8 rfl rfl rfl (by first | exact Nat.le_of_ble_eq_true rfl | omega | (simp; done) | (simp; omega) | (dsimp only; omega)) (by first | exact Nat.le_of_ble_eq_true rfl | omega | (simp; done) | (simp; omega) | (dsimp only; omega)) (by first | exact Nat.le_of_ble_eq_true rfl | omega | (simp; done) | (simp; omega) | (dsimp only; omega)) (by first | exact Nat.le_of_ble_eq_true rfl | omega | (simp; done) | (simp; omega) | (dsimp only; omega)) (fun _ hx => nomatch hx) rfl ?_
  rintro v h' nw K hnw ⟨rfl, rfl, rfl⟩
  dsimp only [Option.toList, List.cons_append, List.nil_append]
  refine WP.ishr (pc' := 10) dLEN_9 rfl ?_
  rw [len_shr b1.len]
  exact WP.ireturn dLEN_10 rfl (by simp) rfl ⟨rfl, rfl, rfl⟩ (fun _ hx => nomatch hx) (fun _ hx => hx) (by first | exact Nat.le_of_ble_eq_true rfl | omega) (by first | exact Nat.le_of_ble_eq_true rfl | omega)
end JdkChr
end Jvm.Pilot.@@N@@

namespace Jvm.Pilot.@@N@@
open Jvm Jvm.ClassFile Sem Op Lib Jvm.Free Jvm.Stand Jvm.LawKit Jvm.RoadKit Bundle Jvm.Pilot.@@N@@.Jvm.D Jvm.OwnW
theorem pdx9 : parseMethodDescriptor "(IIILjava/util/function/BiFunction;)I" = some ⟨[.int, .int, .int, (.object "java/util/function/BiFunction")], some .int⟩ := by decide +kernel
theorem pdx10 : parseMethodDescriptor "([B)I" = some ⟨[(.array .byte)], some .int⟩ := by decide +kernel
theorem pdx11 : parseMethodDescriptor "(III)I" = some ⟨[.int, .int, .int], some .int⟩ := by decide +kernel
theorem pdx12 : parseMethodDescriptor "([BI[CII)V" = some ⟨[(.array .byte), .int, (.array .char), .int, .int], none⟩ := by decide +kernel
theorem pdx13 : parseMethodDescriptor "(II[B)V" = some ⟨[.int, .int, (.array .byte)], none⟩ := by decide +kernel
theorem pdx14 : parseMethodDescriptor "()I" = some ⟨[], some .int⟩ := by decide +kernel
theorem pdx15 : parseMethodDescriptor "(III)V" = some ⟨[.int, .int, .int], none⟩ := by decide +kernel
theorem pdx16 : parseMethodDescriptor "()Z" = some ⟨[], some .boolean⟩ := by decide +kernel
theorem pdx17 : parseMethodDescriptor "([BII[CI)V" = some ⟨[(.array .byte), .int, .int, (.array .char), .int], none⟩ := by decide +kernel
section JdkGch
variable {Z : State} {a0 : Array Value} {h : Heap} {mine : List Addr}
theorem dFT_0 : decode jdk_41_method_12_code 0 = .ok (.iload_n 0, 1) := by decide +kernel
theorem dFT_1 : decode jdk_41_method_12_code 1 = .ok (.ifCond .lt 13, 3) := by decide +kernel
theorem dFT_4 : decode jdk_41_method_12_code 4 = .ok (.iload_n 0, 1) := by decide +kernel
theorem dFT_5 : decode jdk_41_method_12_code 5 = .ok (.iload_n 1, 1) := by decide +kernel
theorem dFT_6 : decode jdk_41_method_12_code 6 = .ok (.if_icmp .gt 8, 3) := by decide +kernel
theorem dFT_9 : decode jdk_41_method_12_code 9 = .ok (.iload_n 1, 1) := by decide +kernel
theorem dFT_10 : decode jdk_41_method_12_code 10 = .ok (.iload_n 2, 1) := by decide +kernel
theorem dFT_11 : decode jdk_41_method_12_code 11 = .ok (.if_icmp .le 11, 3) := by decide +kernel
theorem dFT_14 : decode jdk_41_method_12_code 14 = .ok (.aload_n 3, 1) := by decide +kernel
theorem dFT_15 : decode jdk_41_method_12_code 15 = .ok (.iload_n 0, 1) := by decide +kernel
theorem dFT_16 : decode jdk_41_method_12_code 16 = .ok (.iload_n 1, 1) := by decide +kernel
theorem dFT_17 : decode jdk_41_method_12_code 17 = .ok (.iload_n 2, 1) := by decide +kernel
theorem dFT_18 : decode jdk_41_method_12_code 18 = .ok (.invokestatic 99, 3) := by decide +kernel
theorem dFT_21 : decode jdk_41_method_12_code 21 = .ok (.athrow, 1) := by decide +kernel
theorem dFT_22 : decode jdk_41_method_12_code 22 = .ok (.iload_n 0, 1) := by decide +kernel
theorem dFT_23 : decode jdk_41_method_12_code 23 = .ok (.ireturn, 1) := by decide +kernel
theorem pnFT : plainFor (⟨"jdk/internal/util/Preconditions", "checkFromToIndex", "(IIILjava/util/function/BiFunction;)I"⟩ : MethodName) = true := plainFor_of_name (by first | (simp [plainName, overriddenIn]; done) | decide +kernel)
set_option maxRecDepth 65536 in
set_option maxHeartbeats 40000000 in
theorem con_FT {vf : Value} (hf : Fmt Z vf) {i j n : Nat} (hij : i ≤ j) (hjn : j ≤ n) (hn : n < 2 ^ 31) : Con (⟨"jdk/internal/util/Preconditions", "checkFromToIndex", "(IIILjava/util/function/BiFunction;)I"⟩ : MethodName) jdk_41_method_12_code 4 (some .int) R0 Z LT [] #[.int (Int32.ofNat i), .int (Int32.ofNat j), .int (Int32.ofNat n), vf] h [] mine (fun v h' nw => nw = [] ∧ v = some (.int (Int32.ofNat i)) ∧ h' = h) := by
  refine Con.of pnFT (Ls := [.val (.int (Int32.ofNat i)), .val (.int (Int32.ofNat j)), .val (.int (Int32.ofNat n)), .val vf]) (fun m => by rcases ref_cases hf.2 with rfl | ⟨q, rfl⟩ <;> simp [entryFrame, mkF, argsToLocals, Value.category]) ?_
  refine WP.iloadN (pc' := 1) dFT_0 rfl rfl ?_
  refine WP.ifF (pc' := 4) dFT_1 rfl (n32_nn (by omega)) ?_
  refine WP.iloadN (pc' := 5) dFT_4 rfl rfl ?_
  refine WP.iloadN (pc' := 6) dFT_5 rfl rfl ?_
  refine WP.icmpF (pc' := 9) dFT_6 rfl (fun q => by have := (n32_lt (by omega) (by omega)).mp q; omega) ?_
  refine WP.iloadN (pc' := 10) dFT_9 rfl rfl ?_
  refine WP.iloadN (pc' := 11) dFT_10 rfl rfl ?_
  refine WP.icmpT (pc' := 22) dFT_11 (by decide) (by decide) (fun q => by have := (n32_lt (by omega) (by omega)).mp q; omega) ?_
  refine WP.iloadN (pc' := 23) dFT_22 rfl rfl ?_
  exact WP.ireturn dFT_23 rfl (by simp) rfl ⟨rfl, rfl, rfl⟩ (fun _ hx => nomatch hx) (fun _ hx => hx) (by first | exact Nat.le_of_ble_eq_true rfl | omega) (by first | exact Nat.le_of_ble_eq_true rfl | omega)
theorem dBE_0 : decode jdk_42_method_158_code 0 = .ok (.iload_n 0, 1) := by decide +kernel
theorem dBE_1 : decode jdk_42_method_158_code 1 = .ok (.iload_n 1, 1) := by decide +kernel
theorem dBE_2 : decode jdk_42_method_158_code 2 = .ok (.iload_n 2, 1) := by decide +kernel
theorem dBE_3 : decode jdk_42_method_158_code 3 = .ok (.getstatic 1053, 3) := by decide +kernel
theorem dBE_6 : decode jdk_42_method_158_code 6 = .ok (.invokestatic 1062, 3) := by decide +kernel
theorem dBE_9 : decode jdk_42_method_158_code 9 = .ok (.pop, 1) := by decide +kernel
theorem dBE_10 : decode jdk_42_method_158_code 10 = .ok (.return_, 1) := by decide +kernel
theorem pnBE : plainFor (⟨"java/lang/String", "checkBoundsBeginEnd", "(III)V"⟩ : MethodName) = true := plainFor_of_name (by first | (simp [plainName, overriddenIn]; done) | decide +kernel)
set_option maxRecDepth 65536 in
set_option maxHeartbeats 40000000 in
theorem con_BE (hw : ∀ d ∈ tables_1, d.before a0 Z = true) {vf : Value} (hf : Fmt Z vf) {i j n : Nat} (hij : i ≤ j) (hjn : j ≤ n) (hn : n < 2 ^ 31) : Con (⟨"java/lang/String", "checkBoundsBeginEnd", "(III)V"⟩ : MethodName) jdk_42_method_158_code 3 none { frames := 1, cells := 0, slots := 0, locals := 15 } Z LT [] #[.int (Int32.ofNat i), .int (Int32.ofNat j), .int (Int32.ofNat n)] h [] mine (fun v h' nw => nw = [] ∧ v = none ∧ h' = h) := by
  refine Con.of pnBE (Ls := [.val (.int (Int32.ofNat i)), .val (.int (Int32.ofNat j)), .val (.int (Int32.ofNat n))]) (fun m => by first | (simp [entryFrame, mkF, argsToLocals, Value.category]; done) | (simp [entryFrame, mkF, argsToLocals, Value.category, maxLocals]; done) | rfl) ?_
  refine WP.iloadN (pc' := 1) dBE_0 rfl rfl ?_
  refine WP.iloadN (pc' := 2) dBE_1 rfl rfl ?_
  refine WP.iloadN (pc' := 3) dBE_2 rfl rfl ?_
  refine WP.getstatic (pc' := 6) (host := "") dBE_3 (Or.inl (hw _ (List.mem_of_getElem? (i := 69) rfl))) Via.refl hf.1 rfl ?_
  refine WP.callS (pc' := 9) (con_FT hf hij hjn hn) (hw _ (List.mem_of_getElem? (i := 71) rfl)) (hw _ (List.mem_of_getElem? (i := 72) rfl)) (hw _ (List.mem_of_getElem? (i := 70) rfl)) (hw _ (List.mem_of_getElem? (i := 73) rfl)) dBE_6 (by decide) pdx9 rfl rfl rfl (by first | exact Nat.le_of_ble_eq_true rfl | omega | (simp; done) | (simp; omega) | (dsimp only; omega)) (by first | exact Nat.le_of_ble_eq_true rfl | omega | (simp; done) | (simp; omega) | (dsimp only; omega)) (by first | exact Nat.le_of_ble_eq_true rfl | omega | (simp; done) | (simp; omega) | (dsimp only; omega)) (by first | exact Nat.le_of_ble_eq_true rfl | omega | (simp; done) | (simp; omega) | (dsimp only; omega)) (fun _ hx => nomatch hx) rfl ?_
  rintro v h' nw K hnw ⟨rfl, rfl, rfl⟩
  dsimp only [Option.toList, List.cons_append, List.nil_append]
  refine WP.pop (pc' := 10) dBE_9 rfl rfl ?_
  exact WP.vret dBE_10 rfl ⟨rfl, rfl, rfl⟩ (fun _ hx => nomatch hx) (fun _ hx => hx) (by first | exact Nat.le_of_ble_eq_true rfl | omega) (by first | exact Nat.le_of_ble_eq_true rfl | omega)
theorem dFS_0 : decode jdk_41_method_13_code 0 = .ok (.iload_n 2, 1) := by decide +kernel
theorem dFS_1 : decode jdk_41_method_13_code 1 = .ok (.iload_n 0, 1) := by decide +kernel
theorem dFS_2 : decode jdk_41_method_13_code 2 = .ok (.ior, 1) := by decide +kernel
theorem dFS_3 : decode jdk_41_method_13_code 3 = .ok (.iload_n 1, 1) := by decide +kernel
theorem dFS_4 : decode jdk_41_method_13_code 4 = .ok (.ior, 1) := by decide +kernel
theorem dFS_5 : decode jdk_41_method_13_code 5 = .ok (.ifCond .lt 10, 3) := by decide +kernel
theorem dFS_8 : decode jdk_41_method_13_code 8 = .ok (.iload_n 1, 1) := by decide +kernel
theorem dFS_9 : decode jdk_41_method_13_code 9 = .ok (.iload_n 2, 1) := by decide +kernel
theorem dFS_10 : decode jdk_41_method_13_code 10 = .ok (.iload_n 0, 1) := by decide +kernel
theorem dFS_11 : decode jdk_41_method_13_code 11 = .ok (.isub, 1) := by decide +kernel
theorem dFS_12 : decode jdk_41_method_13_code 12 = .ok (.if_icmp .le 11, 3) := by decide +kernel
theorem dFS_15 : decode jdk_41_method_13_code 15 = .ok (.aload_n 3, 1) := by decide +kernel
theorem dFS_16 : decode jdk_41_method_13_code 16 = .ok (.iload_n 0, 1) := by decide +kernel
theorem dFS_17 : decode jdk_41_method_13_code 17 = .ok (.iload_n 1, 1) := by decide +kernel
theorem dFS_18 : decode jdk_41_method_13_code 18 = .ok (.iload_n 2, 1) := by decide +kernel
theorem dFS_19 : decode jdk_41_method_13_code 19 = .ok (.invokestatic 103, 3) := by decide +kernel
theorem dFS_22 : decode jdk_41_method_13_code 22 = .ok (.athrow, 1) := by decide +kernel
theorem dFS_23 : decode jdk_41_method_13_code 23 = .ok (.iload_n 0, 1) := by decide +kernel
theorem dFS_24 : decode jdk_41_method_13_code 24 = .ok (.ireturn, 1) := by decide +kernel
theorem pnFS : plainFor (⟨"jdk/internal/util/Preconditions", "checkFromIndexSize", "(IIILjava/util/function/BiFunction;)I"⟩ : MethodName) = true := plainFor_of_name (by first | (simp [plainName, overriddenIn]; done) | decide +kernel)
set_option maxRecDepth 65536 in
set_option maxHeartbeats 40000000 in
theorem con_FS {vf : Value} (hf : Fmt Z vf) {i k n : Nat} (hik : i + k ≤ n) (hn : n < 2 ^ 31) : Con (⟨"jdk/internal/util/Preconditions", "checkFromIndexSize", "(IIILjava/util/function/BiFunction;)I"⟩ : MethodName) jdk_41_method_13_code 4 (some .int) R0 Z LT [] #[.int (Int32.ofNat i), .int (Int32.ofNat k), .int (Int32.ofNat n), vf] h [] mine (fun v h' nw => nw = [] ∧ v = some (.int (Int32.ofNat i)) ∧ h' = h) := by
  refine Con.of pnFS (Ls := [.val (.int (Int32.ofNat i)), .val (.int (Int32.ofNat k)), .val (.int (Int32.ofNat n)), .val vf]) (fun m => by rcases ref_cases hf.2 with rfl | ⟨q, rfl⟩ <;> simp [entryFrame, mkF, argsToLocals, Value.category]) ?_
  refine WP.iloadN (pc' := 1) dFS_0 rfl rfl ?_
  refine WP.iloadN (pc' := 2) dFS_1 rfl rfl ?_
  refine WP.ior (pc' := 3) dFS_2 rfl ?_
  refine WP.iloadN (pc' := 4) dFS_3 rfl rfl ?_
  refine WP.ior (pc' := 5) dFS_4 rfl ?_
  refine WP.ifF (pc' := 8) dFS_5 rfl (n32_or3 (by omega) (by omega) (by omega)) ?_
  refine WP.iloadN (pc' := 9) dFS_8 rfl rfl ?_
  refine WP.iloadN (pc' := 10) dFS_9 rfl rfl ?_
  refine WP.iloadN (pc' := 11) dFS_10 rfl rfl ?_
  refine WP.isub (pc' := 12) dFS_11 rfl ?_
  rw [n32_sub (by omega) hn]
  refine WP.icmpT (pc' := 23) dFS_12 (by decide) (by decide) (fun q => by have := (n32_lt (by omega) (by omega)).mp q; omega) ?_
  refine WP.iloadN (pc' := 24) dFS_23 rfl rfl ?_
  exact WP.ireturn dFS_24 rfl (by simp) rfl ⟨rfl, rfl, rfl⟩ (fun _ hx => nomatch hx) (fun _ hx => hx) (by first | exact Nat.le_of_ble_eq_true rfl | omega) (by first | exact Nat.le_of_ble_eq_true rfl | omega)
theorem dOC_0 : decode jdk_42_method_157_code 0 = .ok (.iload_n 0, 1) := by decide +kernel
theorem dOC_1 : decode jdk_42_method_157_code 1 = .ok (.iload_n 1, 1) := by decide +kernel
theorem dOC_2 : decode jdk_42_method_157_code 2 = .ok (.iload_n 2, 1) := by decide +kernel
theorem dOC_3 : decode jdk_42_method_157_code 3 = .ok (.getstatic 1053, 3) := by decide +kernel
theorem dOC_6 : decode jdk_42_method_157_code 6 = .ok (.invokestatic 1065, 3) := by decide +kernel
theorem dOC_9 : decode jdk_42_method_157_code 9 = .ok (.ireturn, 1) := by decide +kernel
theorem pnOC : plainFor (⟨"java/lang/String", "checkBoundsOffCount", "(III)I"⟩ : MethodName) = true := plainFor_of_name (by first | (simp [plainName, overriddenIn]; done) | decide +kernel)
set_option maxRecDepth 65536 in
set_option maxHeartbeats 40000000 in
theorem con_OC (hw : ∀ d ∈ tables_1, d.before a0 Z = true) {vf : Value} (hf : Fmt Z vf) {i k n : Nat} (hik : i + k ≤ n) (hn : n < 2 ^ 31) : Con (⟨"java/lang/String", "checkBoundsOffCount", "(III)I"⟩ : MethodName) jdk_42_method_157_code 3 (some .int) { frames := 1, cells := 0, slots := 0, locals := 15 } Z LT [] #[.int (Int32.ofNat i), .int (Int32.ofNat k), .int (Int32.ofNat n)] h [] mine (fun v h' nw => nw = [] ∧ v = some (.int (Int32.ofNat i)) ∧ h' = h) := by
  refine Con.of pnOC (Ls := [.val (.int (Int32.ofNat i)), .val (.int (Int32.ofNat k)), .val (.int (Int32.ofNat n))]) (fun m => by first | (simp [entryFrame, mkF, argsToLocals, Value.category]; done) | (simp [entryFrame, mkF, argsToLocals, Value.category, maxLocals]; done) | rfl) ?_
  refine WP.iloadN (pc' := 1) dOC_0 rfl rfl ?_
  refine WP.iloadN (pc' := 2) dOC_1 rfl rfl ?_
  refine WP.iloadN (pc' := 3) dOC_2 rfl rfl ?_
  refine WP.getstatic (pc' := 6) (host := "") dOC_3 (Or.inl (hw _ (List.mem_of_getElem? (i := 69) rfl))) Via.refl hf.1 rfl ?_
  refine WP.callS (pc' := 9) (con_FS hf hik hn) (hw _ (List.mem_of_getElem? (i := 77) rfl)) (hw _ (List.mem_of_getElem? (i := 78) rfl)) (hw _ (List.mem_of_getElem? (i := 70) rfl)) (hw _ (List.mem_of_getElem? (i := 79) rfl)) dOC_6 (by decide) pdx9 rfl rfl rfl (by first | exact Nat.le_of_ble_eq_true rfl | omega | (simp; done) | (simp; omega) | (dsimp only; omega)) (by first | exact Nat.le_of_ble_eq_true rfl | omega | (simp; done) | (simp; omega) | (dsimp only; omega)) (by first | exact Nat.le_of_ble_eq_true rfl | omega | (simp; done) | (simp; omega) | (dsimp only; omega)) (by first | exact Nat.le_of_ble_eq_true rfl | omega | (simp; done) | (simp; omega) | (dsimp only; omega)) (fun _ hx => nomatch hx) rfl ?_
  rintro v h' nw K hnw ⟨rfl, rfl, rfl⟩
  dsimp only [Option.toList, List.cons_append, List.nil_append]
  exact WP.ireturn dOC_9 rfl (by simp) rfl ⟨rfl, rfl, rfl⟩ (fun _ hx => nomatch hx) (fun _ hx => hx) (by first | exact Nat.le_of_ble_eq_true rfl | omega) (by first | exact Nat.le_of_ble_eq_true rfl | omega)
theorem dUOC_0 : decode jdk_52_method_94_code 0 = .ok (.iload_n 0, 1) := by decide +kernel
theorem dUOC_1 : decode jdk_52_method_94_code 1 = .ok (.iload_n 1, 1) := by decide +kernel
theorem dUOC_2 : decode jdk_52_method_94_code 2 = .ok (.aload_n 2, 1) := by decide +kernel
theorem dUOC_3 : decode jdk_52_method_94_code 3 = .ok (.invokestatic 48, 3) := by decide +kernel
theorem dUOC_6 : decode jdk_52_method_94_code 6 = .ok (.invokestatic 419, 3) := by decide +kernel
theorem dUOC_9 : decode jdk_52_method_94_code 9 = .ok (.pop, 1) := by decide +kernel
theorem dUOC_10 : decode jdk_52_method_94_code 10 = .ok (.return_, 1) := by decide +kernel
theorem pnUOC : plainFor (⟨"java/lang/StringUTF16", "checkBoundsOffCount", "(II[B)V"⟩ : MethodName) = true := plainFor_of_name (by first | (simp [plainName, overriddenIn]; done) | decide +kernel)
set_option maxRecDepth 65536 in
set_option maxHeartbeats 40000000 in
theorem con_UOC (hw : ∀ d ∈ tables_1, d.before a0 Z = true) {vf : Value} (hf : Fmt Z vf) {t : Addr} {us : List UInt16} {i k : Nat} (T : ArI Z h t .byte (b16 us)) (hik : i + k ≤ us.length) : Con (⟨"java/lang/StringUTF16", "checkBoundsOffCount", "(II[B)V"⟩ : MethodName) jdk_52_method_94_code 3 none { frames := 2, cells := 0, slots := 0, locals := 29 } Z LT [] #[.int (Int32.ofNat i), .int (Int32.ofNat k), .ref t] h [] mine (fun v h' nw => nw = [] ∧ v = none ∧ h' = h) := by
  have hn : us.length < 2 ^ 31 := by have := T.len; rw [b16_len] at this; omega
  refine Con.of pnUOC (Ls := [.val (.int (Int32.ofNat i)), .val (.int (Int32.ofNat k)), .val (.ref t)]) (fun m => by first | (simp [entryFrame, mkF, argsToLocals, Value.category]; done) | (simp [entryFrame, mkF, argsToLocals, Value.category, maxLocals]; done) | rfl) ?_
  refine WP.iloadN (pc' := 1) dUOC_0 rfl rfl ?_
  refine WP.iloadN (pc' := 2) dUOC_1 rfl rfl ?_
  refine WP.aloadN (pc' := 3) dUOC_2 rfl rfl rfl ?_
  refine WP.callS (pc' := 6) (con_UL T) (hw _ (List.mem_of_getElem? (i := 157) rfl)) (hw _ (List.mem_of_getElem? (i := 158) rfl)) (hw _ (List.mem_of_getElem? (i := 124) rfl)) (hw _ (List.mem_of_getElem? (i := 159) rfl)) dUOC_3 (by decide) pdx10 rfl rfl rfl (by first | exact Nat.le_of_ble_eq_true rfl | omega | (simp; done) | (simp; omega) | (dsimp only; omega)) (by first | exact Nat.le_of_ble_eq_true rfl | omega | (simp; done) | (simp; omega) | (dsimp only; omega)) (by first | exact Nat.le_of_ble_eq_true rfl | omega | (simp; done) | (simp; omega) | (dsimp only; omega)) (by first | exact Nat.le_of_ble_eq_true rfl | omega | (simp; done) | (simp; omega) | (dsimp only; omega)) (fun _ hx => nomatch hx) rfl ?_
  rintro v h' nw K hnw ⟨rfl, rfl, rfl⟩
  dsimp only [Option.toList, List.cons_append, List.nil_append]
  refine WP.callS (pc' := 9) (con_OC hw hf hik hn) (hw _ (List.mem_of_getElem? (i := 160) rfl)) (hw _ (List.mem_of_getElem? (i := 75) rfl)) (hw _ (List.mem_of_getElem? (i := 7) rfl)) (hw _ (List.mem_of_getElem? (i := 76) rfl)) dUOC_6 (by decide) pdx11 rfl rfl rfl (by first | exact Nat.le_of_ble_eq_true rfl | omega | (simp; done) | (simp; omega) | (dsimp only; omega)) (by first | exact Nat.le_of_ble_eq_true rfl | omega | (simp; done) | (simp; omega) | (dsimp only; omega)) (by first | exact Nat.le_of_ble_eq_true rfl | omega | (simp; done) | (simp; omega) | (dsimp only; omega)) (by first | exact Nat.le_of_ble_eq_true rfl | omega | (simp; done) | (simp; omega) | (dsimp only; omega)) (fun _ hx => nomatch hx) rfl ?_
  rintro v h' nw K hnw ⟨rfl, rfl, rfl⟩
  dsimp only [Option.toList, List.cons_append, List.nil_append]
  refine WP.pop (pc' := 10) dUOC_9 rfl rfl ?_
  exact WP.vret dUOC_10 rfl ⟨rfl, rfl, rfl⟩ (fun _ hx => nomatch hx) (fun _ hx => hx) (by first | exact Nat.le_of_ble_eq_true rfl | omega) (by first | exact Nat.le_of_ble_eq_true rfl | omega)
theorem dINF_0 : decode jdk_43_method_49_code 0 = .ok (.iconst 0, 1) := by decide +kernel
theorem dINF_1 : decode jdk_43_method_49_code 1 = .ok (.istore 5, 2) := by decide +kernel
theorem dINF_3 : decode jdk_43_method_49_code 3 = .ok (.iload 5, 2) := by decide +kernel
theorem dINF_5 : decode jdk_43_method_49_code 5 = .ok (.iload 4, 2) := by decide +kernel
theorem dINF_7 : decode jdk_43_method_49_code 7 = .ok (.if_icmp .ge 26, 3) := by decide +kernel
theorem dINF_10 : decode jdk_43_method_49_code 10 = .ok (.aload_n 2, 1) := by decide +kernel
theorem dINF_11 : decode jdk_43_method_49_code 11 = .ok (.iload_n 3, 1) := by decide +kernel
theorem dINF_12 : decode jdk_43_method_49_code 12 = .ok (.iinc 3 1, 3) := by decide +kernel
theorem dINF_15 : decode jdk_43_method_49_code 15 = .ok (.aload_n 0, 1) := by decide +kernel
theorem dINF_16 : decode jdk_43_method_49_code 16 = .ok (.iload_n 1, 1) := by decide +kernel
theorem dINF_17 : decode jdk_43_method_49_code 17 = .ok (.iinc 1 1, 3) := by decide +kernel
theorem dINF_20 : decode jdk_43_method_49_code 20 = .ok (.baload, 1) := by decide +kernel
theorem dINF_21 : decode jdk_43_method_49_code 21 = .ok (.sipush 255, 3) := by decide +kernel
theorem dINF_24 : decode jdk_43_method_49_code 24 = .ok (.iand, 1) := by decide +kernel
theorem dINF_25 : decode jdk_43_method_49_code 25 = .ok (.i2c, 1) := by decide +kernel
theorem dINF_26 : decode jdk_43_method_49_code 26 = .ok (.castore, 1) := by decide +kernel
theorem dINF_27 : decode jdk_43_method_49_code 27 = .ok (.iinc 5 1, 3) := by decide +kernel
theorem dINF_30 : decode jdk_43_method_49_code 30 = .ok (.goto (-27), 3) := by decide +kernel
theorem dINF_33 : decode jdk_43_method_49_code 33 = .ok (.return_, 1) := by decide +kernel
theorem pnINF : plainFor (⟨"java/lang/StringLatin1", "inflate", "([BI[CII)V"⟩ : MethodName) = true := plainFor_of_name (by first | (simp [plainName, overriddenIn]; done) | decide +kernel)
set_option maxRecDepth 65536 in
set_option maxHeartbeats 40000000 in
theorem loop_INF {us : List UInt16} {cs : List Int32} {t d : Addr} {k : Nat} (hlat : lat us = true) (hk : k + us.length ≤ cs.length) (hcs : cs.length < 2 ^ 31) (hm : d ∈ mine) (htd : t ≠ d) :
    ∀ (r i : Nat), i + r = us.length → ∀ (h' : Heap), ArI Z h' t .byte (us.map lo8) → ArI Z h' d .char (ovr cs k (us.take i)) →
    WP "java/lang/StringLatin1" jdk_43_method_49_code 6 none "inflate" R0 Z LT h [d] mine (fun v h' nw => nw = [] ∧ v = none ∧ ArI Z h' d .char (ovr cs k us)) mine 0 0 h' 3 [.val (.ref t), .val (.int (Int32.ofNat i)), .val (.ref d), .val (.int (Int32.ofNat (k + i))), .val (.int (Int32.ofNat us.length)), .val (.int (Int32.ofNat i))] [] := by
  intro r
  induction r with
  | zero =>
    intro i hi h' T D
    obtain rfl : i = us.length := by omega
    refine WP.iload (pc' := 5) dINF_3 rfl rfl ?_
    refine WP.iload (pc' := 7) dINF_5 rfl rfl ?_
    refine WP.icmpT (pc' := 33) dINF_7 (by decide) (by decide) (fun q => Nat.lt_irrefl _ ((n32_lt (by omega) (by omega)).mp q)) ?_
    rw [List.take_length] at D
    exact WP.vret dINF_33 rfl ⟨rfl, rfl, D⟩ (fun _ hx => nomatch hx) (fun _ hx => hx) (by first | exact Nat.le_of_ble_eq_true rfl | omega) (by first | exact Nat.le_of_ble_eq_true rfl | omega)
  | succ r ih =>
    intro i hi h' T D
    have hil : i < us.length := by omega
    obtain ⟨u, hu⟩ : ∃ u, us[i]? = some u := ⟨us[i], List.getElem?_eq_getElem hil⟩
    refine WP.iload (pc' := 5) dINF_3 rfl rfl ?_
    refine WP.iload (pc' := 7) dINF_5 rfl rfl ?_
    refine WP.icmpF (pc' := 10) dINF_7 rfl ((n32_lt (by omega) (by omega)).mpr hil) ?_
    refine WP.aloadN (pc' := 11) dINF_10 rfl rfl rfl ?_
    refine WP.iloadN (pc' := 12) dINF_11 rfl rfl ?_
    refine WP.iinc (pc' := 15) dINF_12 rfl rfl rfl rfl ?_
    dsimp only [List.set]
    refine WP.aloadN (pc' := 16) dINF_15 rfl rfl rfl ?_
    refine WP.iloadN (pc' := 17) dINF_16 rfl rfl ?_
    refine WP.iinc (pc' := 20) dINF_17 rfl rfl rfl rfl ?_
    dsimp only [List.set]
    refine WP.baload (pc' := 21) dINF_20 T (n32_toInt (by omega)) (x := lo8 u) (by simp [hu]) rfl ?_
    refine WP.sipush (pc' := 24) (x := 255) dINF_21 (by decide) rfl ?_
    refine WP.iand (pc' := 25) dINF_24 rfl ?_
    refine WP.i2c (pc' := 26) dINF_25 rfl ?_
    have hlo : (us.take i).length = i := by simp [List.length_take]; omega
    refine WP.castore (pc' := 27) dINF_26 D (n32_toInt (by omega)) (by rw [ovr_len (by rw [hlo]; omega)]; omega) hm (Or.inl (List.mem_singleton.mpr rfl)) rfl ?_
    intro h2 W D2
    rw [lo8_and u ((lat_iff us).mp hlat i u hu), chv_i2c, chv_nar, ovr_set hu hk] at D2
    refine WP.iinc (pc' := 30) dINF_27 rfl rfl rfl rfl ?_
    dsimp only [List.set]
    refine WP.goto (pc' := 3) dINF_30 (by decide) (by decide) ?_
    rw [show Int32.ofNat i + Int32.ofInt 1 = Int32.ofNat (i + 1) from n32_succ i, show Int32.ofNat (k + i) + Int32.ofInt 1 = Int32.ofNat (k + (i + 1)) from n32_succ (k + i)]
    exact ih (i + 1) (by omega) h2 (T.other W htd) D2
set_option maxRecDepth 65536 in
set_option maxHeartbeats 40000000 in
theorem con_INF {us : List UInt16} {cs : List Int32} {t d : Addr} {k : Nat} (hlat : lat us = true) (hk : k + us.length ≤ cs.length) (hm : d ∈ mine) (T : ArI Z h t .byte (us.map lo8)) (D : ArI Z h d .char cs) : Con (⟨"java/lang/StringLatin1", "inflate", "([BI[CII)V"⟩ : MethodName) jdk_43_method_49_code 6 none R0 Z LT [] #[.ref t, .int 0, .ref d, .int (Int32.ofNat k), .int (Int32.ofNat us.length)] h [d] mine (fun v h' nw => nw = [] ∧ v = none ∧ ArI Z h' d .char (ovr cs k us)) := by
  refine Con.of pnINF (Ls := [.val (.ref t), .val (.int 0), .val (.ref d), .val (.int (Int32.ofNat k)), .val (.int (Int32.ofNat us.length)), .unset]) (fun m => by first | (simp [entryFrame, mkF, argsToLocals, Value.category]; done) | (simp [entryFrame, mkF, argsToLocals, Value.category, maxLocals]; done) | rfl) ?_
  refine WP.iconst (pc' := 1) (x := 0) dINF_0 (by decide) rfl ?_
  refine WP.istore (pc' := 3) dINF_1 rfl rfl rfl ?_
  dsimp only [List.set]
  exact loop_INF hlat hk D.len hm (T.ne D (by decide)) us.length 0 (by omega) h T (by rw [List.take_zero, ovr_nil]; exact D)
theorem dLGC_0 : decode jdk_43_method_11_code 0 = .ok (.aload_n 0, 1) := by decide +kernel
theorem dLGC_1 : decode jdk_43_method_11_code 1 = .ok (.iload_n 1, 1) := by decide +kernel
theorem dLGC_2 : decode jdk_43_method_11_code 2 = .ok (.aload_n 3, 1) := by decide +kernel
theorem dLGC_3 : decode jdk_43_method_11_code 3 = .ok (.iload 4, 2) := by decide +kernel
theorem dLGC_5 : decode jdk_43_method_11_code 5 = .ok (.iload_n 2, 1) := by decide +kernel
theorem dLGC_6 : decode jdk_43_method_11_code 6 = .ok (.iload_n 1, 1) := by decide +kernel
theorem dLGC_7 : decode jdk_43_method_11_code 7 = .ok (.isub, 1) := by decide +kernel
theorem dLGC_8 : decode jdk_43_method_11_code 8 = .ok (.invokestatic 13, 3) := by decide +kernel
theorem dLGC_11 : decode jdk_43_method_11_code 11 = .ok (.return_, 1) := by decide +kernel
theorem pnLGC : plainFor (⟨"java/lang/StringLatin1", "getChars", "([BII[CI)V"⟩ : MethodName) = true := plainFor_of_name (by first | (simp [plainName, overriddenIn]; done) | decide +kernel)
set_option maxRecDepth 65536 in
set_option maxHeartbeats 40000000 in
theorem con_LGC (hw : ∀ d ∈ tables_1, d.before a0 Z = true) {us : List UInt16} {cs : List Int32} {t d : Addr} {k : Nat} (hlat : lat us = true) (hk : k + us.length ≤ cs.length) (hm : d ∈ mine) (T : ArI Z h t .byte (us.map lo8)) (D : ArI Z h d .char cs) : Con (⟨"java/lang/StringLatin1", "getChars", "([BII[CI)V"⟩ : MethodName) jdk_43_method_11_code 5 none { frames := 1, cells := 0, slots := 0, locals := 17 } Z LT [] #[.ref t, .int 0, .int (Int32.ofNat us.length), .ref d, .int (Int32.ofNat k)] h [d] mine (fun v h' nw => nw = [] ∧ v = none ∧ ArI Z h' d .char (ovr cs k us)) := by
  refine Con.of pnLGC (Ls := [.val (.ref t), .val (.int 0), .val (.int (Int32.ofNat us.length)), .val (.ref d), .val (.int (Int32.ofNat k))]) (fun m => by first | (simp [entryFrame, mkF, argsToLocals, Value.category]; done) | (simp [entryFrame, mkF, argsToLocals, Value.category, maxLocals]; done) | rfl) ?_
  refine WP.aloadN (pc' := 1) dLGC_0 rfl rfl rfl ?_
  refine WP.iloadN (pc' := 2) dLGC_1 rfl rfl ?_
  refine WP.aloadN (pc' := 3) dLGC_2 rfl rfl rfl ?_
  refine WP.iload (pc' := 5) dLGC_3 rfl rfl ?_
  refine WP.iloadN (pc' := 6) dLGC_5 rfl rfl ?_
  refine WP.iloadN (pc' := 7) dLGC_6 rfl rfl ?_
  refine WP.isub (pc' := 8) dLGC_7 rfl ?_
  rw [i32_sub0]
  refine WP.callS (pc' := 11) (con_INF hlat hk hm T D) (hw _ (List.mem_of_getElem? (i := 89) rfl)) (hw _ (List.mem_of_getElem? (i := 90) rfl)) (hw _ (List.mem_of_getElem? (i := 87) rfl)) (hw _ (List.mem_of_getElem? (i := 91) rfl)) dLGC_8 (by decide) pdx12 rfl rfl rfl (by first | exact Nat.le_of_ble_eq_true rfl | omega | (simp; done) | (simp; omega) | (dsimp only; omega)) (by first | exact Nat.le_of_ble_eq_true rfl | omega | (simp; done) | (simp; omega) | (dsimp only; omega)) (by first | exact Nat.le_of_ble_eq_true rfl | omega | (simp; done) | (simp; omega) | (dsimp only; omega)) (by first | exact Nat.le_of_ble_eq_true rfl | omega | (simp; done) | (simp; omega) | (dsimp only; omega)) (fun x hx => Or.inl hx) rfl ?_
  rintro v h' nw K hnw ⟨rfl, rfl, D2⟩
  dsimp only [Option.toList, List.nil_append]
  exact WP.vret dLGC_11 rfl ⟨rfl, rfl, D2⟩ (fun _ hx => nomatch hx) (fun _ hx => hx) (by first | exact Nat.le_of_ble_eq_true rfl | omega) (by first | exact Nat.le_of_ble_eq_true rfl | omega)
theorem dUGC_0 : decode jdk_52_method_26_code 0 = .ok (.iload_n 1, 1) := by decide +kernel
theorem dUGC_1 : decode jdk_52_method_26_code 1 = .ok (.iload_n 2, 1) := by decide +kernel
theorem dUGC_2 : decode jdk_52_method_26_code 2 = .ok (.if_icmp .ge 11, 3) := by decide +kernel
theorem dUGC_5 : decode jdk_52_method_26_code 5 = .ok (.iload_n 1, 1) := by decide +kernel
theorem dUGC_6 : decode jdk_52_method_26_code 6 = .ok (.iload_n 2, 1) := by decide +kernel
theorem dUGC_7 : decode jdk_52_method_26_code 7 = .ok (.iload_n 1, 1) := by decide +kernel
theorem dUGC_8 : decode jdk_52_method_26_code 8 = .ok (.isub, 1) := by decide +kernel
theorem dUGC_9 : decode jdk_52_method_26_code 9 = .ok (.aload_n 0, 1) := by decide +kernel
theorem dUGC_10 : decode jdk_52_method_26_code 10 = .ok (.invokestatic 173, 3) := by decide +kernel
theorem dUGC_13 : decode jdk_52_method_26_code 13 = .ok (.iload_n 1, 1) := by decide +kernel
theorem dUGC_14 : decode jdk_52_method_26_code 14 = .ok (.istore 5, 2) := by decide +kernel
theorem dUGC_16 : decode jdk_52_method_26_code 16 = .ok (.iload 5, 2) := by decide +kernel
theorem dUGC_18 : decode jdk_52_method_26_code 18 = .ok (.iload_n 2, 1) := by decide +kernel
theorem dUGC_19 : decode jdk_52_method_26_code 19 = .ok (.if_icmp .ge 22, 3) := by decide +kernel
theorem dUGC_22 : decode jdk_52_method_26_code 22 = .ok (.aload_n 3, 1) := by decide +kernel
theorem dUGC_23 : decode jdk_52_method_26_code 23 = .ok (.iload 4, 2) := by decide +kernel
theorem dUGC_25 : decode jdk_52_method_26_code 25 = .ok (.iinc 4 1, 3) := by decide +kernel
theorem dUGC_28 : decode jdk_52_method_26_code 28 = .ok (.aload_n 0, 1) := by decide +kernel
theorem dUGC_29 : decode jdk_52_method_26_code 29 = .ok (.iload 5, 2) := by decide +kernel
theorem dUGC_31 : decode jdk_52_method_26_code 31 = .ok (.invokestatic 71, 3) := by decide +kernel
theorem dUGC_34 : decode jdk_52_method_26_code 34 = .ok (.castore, 1) := by decide +kernel
theorem dUGC_35 : decode jdk_52_method_26_code 35 = .ok (.iinc 5 1, 3) := by decide +kernel
theorem dUGC_38 : decode jdk_52_method_26_code 38 = .ok (.goto (-22), 3) := by decide +kernel
theorem dUGC_41 : decode jdk_52_method_26_code 41 = .ok (.return_, 1) := by decide +kernel
theorem pnUGC : plainFor (⟨"java/lang/StringUTF16", "getChars", "([BII[CI)V"⟩ : MethodName) = true := plainFor_of_name (by first | (simp [plainName, overriddenIn]; done) | decide +kernel)
set_option maxRecDepth 65536 in
set_option maxHeartbeats 40000000 in
theorem loop_UGC (hw : ∀ d ∈ tables_1, d.before a0 Z = true) (hu16 : U16 Z) {us : List UInt16} {cs : List Int32} {t d : Addr} {k : Nat} (hk : k + us.length ≤ cs.length) (hcs : cs.length < 2 ^ 31) (hm : d ∈ mine) (htd : t ≠ d) :
    ∀ (r i : Nat), i + r = us.length → ∀ (h' : Heap), ArI Z h' t .byte (b16 us) → ArI Z h' d .char (ovr cs k (us.take i)) →
    WP "java/lang/StringUTF16" jdk_52_method_26_code 6 none "getChars" { frames := 3, cells := 0, slots := 0, locals := 43 } Z LT h [d] mine (fun v h' nw => nw = [] ∧ v = none ∧ ArI Z h' d .char (ovr cs k us)) mine 0 0 h' 16 [.val (.ref t), .val (.int 0), .val (.int (Int32.ofNat us.length)), .val (.ref d), .val (.int (Int32.ofNat (k + i))), .val (.int (Int32.ofNat i))] [] := by
  intro r
  induction r with
  | zero =>
    intro i hi h' T D
    obtain rfl : i = us.length := by omega
    refine WP.iload (pc' := 18) dUGC_16 rfl rfl ?_
    refine WP.iloadN (pc' := 19) dUGC_18 rfl rfl ?_
    refine WP.icmpT (pc' := 41) dUGC_19 (by decide) (by decide) (fun q => Nat.lt_irrefl _ ((n32_lt (by omega) (by omega)).mp q)) ?_
    rw [List.take_length] at D
    exact WP.vret dUGC_41 rfl ⟨rfl, rfl, D⟩ (fun _ hx => nomatch hx) (fun _ hx => hx) (by first | exact Nat.le_of_ble_eq_true rfl | omega) (by first | exact Nat.le_of_ble_eq_true rfl | omega)
  | succ r ih =>
    intro i hi h' T D
    have hil : i < us.length := by omega
    obtain ⟨u, hu⟩ : ∃ u, us[i]? = some u := ⟨us[i], List.getElem?_eq_getElem hil⟩
    refine WP.iload (pc' := 18) dUGC_16 rfl rfl ?_
    refine WP.iloadN (pc' := 19) dUGC_18 rfl rfl ?_
    refine WP.icmpF (pc' := 22) dUGC_19 rfl ((n32_lt (by omega) (by omega)).mpr hil) ?_
    refine WP.aloadN (pc' := 23) dUGC_22 rfl rfl rfl ?_
    refine WP.iload (pc' := 25) dUGC_23 rfl rfl ?_
    refine WP.iinc (pc' := 28) dUGC_25 rfl rfl rfl rfl ?_
    dsimp only [List.set]
    refine WP.aloadN (pc' := 29) dUGC_28 rfl rfl rfl ?_
    refine WP.iload (pc' := 31) dUGC_29 rfl rfl ?_
    refine WP.callS (pc' := 34) (con_GC hw hu16 T hu) (hw _ (List.mem_of_getElem? (i := 148) rfl)) (hw _ (List.mem_of_getElem? (i := 149) rfl)) (hw _ (List.mem_of_getElem? (i := 124) rfl)) (hw _ (List.mem_of_getElem? (i := 150) rfl)) dUGC_31 (by decide) pdx5 rfl rfl rfl (by first | exact Nat.le_of_ble_eq_true rfl | omega | (simp; done) | (simp; omega) | (dsimp only; omega)) (by first | exact Nat.le_of_ble_eq_true rfl | omega | (simp; done) | (simp; omega) | (dsimp only; omega)) (by first | exact Nat.le_of_ble_eq_true rfl | omega | (simp; done) | (simp; omega) | (dsimp only; omega)) (by first | exact Nat.le_of_ble_eq_true rfl | omega | (simp; done) | (simp; omega) | (dsimp only; omega)) (fun _ hx => nomatch hx) rfl ?_
    rintro v h1 nw K hnw ⟨rfl, rfl, rfl⟩
    dsimp only [Option.toList, List.cons_append, List.nil_append]
    have hlo : (us.take i).length = i := by simp [List.length_take]; omega
    refine WP.castore (pc' := 35) dUGC_34 D (n32_toInt (by omega)) (by rw [ovr_len (by rw [hlo]; omega)]; omega) hm (Or.inl (List.mem_singleton.mpr rfl)) rfl ?_
    intro h2 W D2
    rw [chv_nar, ovr_set hu hk] at D2
    refine WP.iinc (pc' := 38) dUGC_35 rfl rfl rfl rfl ?_
    dsimp only [List.set]
    refine WP.goto (pc' := 16) dUGC_38 (by decide) (by decide) ?_
    rw [show Int32.ofNat i + Int32.ofInt 1 = Int32.ofNat (i + 1) from n32_succ i, show Int32.ofNat (k + i) + Int32.ofInt 1 = Int32.ofNat (k + (i + 1)) from n32_succ (k + i)]
    exact ih (i + 1) (by omega) h2 (T.other W htd) D2
set_option maxRecDepth 65536 in
set_option maxHeartbeats 40000000 in
theorem con_UGC (hw : ∀ d ∈ tables_1, d.before a0 Z = true) (hu16 : U16 Z) {vf : Value} (hf : Fmt Z vf) {us : List UInt16} {cs : List Int32} {t d : Addr} {k : Nat} (hpos : 0 < us.length) (hk : k + us.length ≤ cs.length) (hm : d ∈ mine) (T : ArI Z h t .byte (b16 us)) (D : ArI Z h d .char cs) : Con (⟨"java/lang/StringUTF16", "getChars", "([BII[CI)V"⟩ : MethodName) jdk_52_method_26_code 6 none { frames := 3, cells := 0, slots := 0, locals := 43 } Z LT [] #[.ref t, .int 0, .int (Int32.ofNat us.length), .ref d, .int (Int32.ofNat k)] h [d] mine (fun v h' nw => nw = [] ∧ v = none ∧ ArI Z h' d .char (ovr cs k us)) := by
  have hcs := D.len
  refine Con.of pnUGC (Ls := [.val (.ref t), .val (.int 0), .val (.int (Int32.ofNat us.length)), .val (.ref d), .val (.int (Int32.ofNat k)), .unset]) (fun m => by first | (simp [entryFrame, mkF, argsToLocals, Value.category]; done) | (simp [entryFrame, mkF, argsToLocals, Value.category, maxLocals]; done) | rfl) ?_
  refine WP.iloadN (pc' := 1) dUGC_0 rfl rfl ?_
  refine WP.iloadN (pc' := 2) dUGC_1 rfl rfl ?_
  refine WP.icmpF (pc' := 5) dUGC_2 rfl ((n32_lt (i := 0) (by omega) (by omega)).mpr hpos) ?_
  refine WP.iloadN (pc' := 6) dUGC_5 rfl rfl ?_
  refine WP.iloadN (pc' := 7) dUGC_6 rfl rfl ?_
  refine WP.iloadN (pc' := 8) dUGC_7 rfl rfl ?_
  refine WP.isub (pc' := 9) dUGC_8 rfl ?_
  refine WP.aloadN (pc' := 10) dUGC_9 rfl rfl rfl ?_
  rw [i32_sub0]
  refine WP.callS (pc' := 13) (con_UOC hw hf (i := 0) (k := us.length) T (by omega)) (hw _ (List.mem_of_getElem? (i := 154) rfl)) (hw _ (List.mem_of_getElem? (i := 155) rfl)) (hw _ (List.mem_of_getElem? (i := 124) rfl)) (hw _ (List.mem_of_getElem? (i := 156) rfl)) dUGC_10 (by decide) pdx13 rfl rfl rfl (by first | exact Nat.le_of_ble_eq_true rfl | omega | (simp; done) | (simp; omega) | (dsimp only; omega)) (by first | exact Nat.le_of_ble_eq_true rfl | omega | (simp; done) | (simp; omega) | (dsimp only; omega)) (by first | exact Nat.le_of_ble_eq_true rfl | omega | (simp; done) | (simp; omega) | (dsimp only; omega)) (by first | exact Nat.le_of_ble_eq_true rfl | omega | (simp; done) | (simp; omega) | (dsimp only; omega)) (fun _ hx => nomatch hx) rfl ?_
  rintro v h1 nw K hnw ⟨rfl, rfl, rfl⟩
  dsimp only [Option.toList, List.nil_append]
  refine WP.iloadN (pc' := 14) dUGC_13 rfl rfl ?_
  refine WP.istore (pc' := 16) dUGC_14 rfl rfl rfl ?_
  dsimp only [List.set]
  exact loop_UGC hw hu16 hk hcs hm (T.ne D (by decide)) us.length 0 (by omega) _ T (by rw [List.take_zero, ovr_nil]; exact D)
theorem dGCH_0 : decode jdk_42_method_61_code 0 = .ok (.iload_n 1, 1) := by decide +kernel
theorem dGCH_1 : decode jdk_42_method_61_code 1 = .ok (.iload_n 2, 1) := by decide +kernel
theorem dGCH_2 : decode jdk_42_method_61_code 2 = .ok (.aload_n 0, 1) := by decide +kernel
theorem dGCH_3 : decode jdk_42_method_61_code 3 = .ok (.invokevirtual 505, 3) := by decide +kernel
theorem dGCH_6 : decode jdk_42_method_61_code 6 = .ok (.invokestatic 521, 3) := by decide +kernel
theorem dGCH_9 : decode jdk_42_method_61_code 9 = .ok (.iload 4, 2) := by decide +kernel
theorem dGCH_11 : decode jdk_42_method_61_code 11 = .ok (.iload_n 2, 1) := by decide +kernel
theorem dGCH_12 : decode jdk_42_method_61_code 12 = .ok (.iload_n 1, 1) := by decide +kernel
theorem dGCH_13 : decode jdk_42_method_61_code 13 = .ok (.isub, 1) := by decide +kernel
theorem dGCH_14 : decode jdk_42_method_61_code 14 = .ok (.aload_n 3, 1) := by decide +kernel
theorem dGCH_15 : decode jdk_42_method_61_code 15 = .ok (.arraylength, 1) := by decide +kernel
theorem dGCH_16 : decode jdk_42_method_61_code 16 = .ok (.invokestatic 34, 3) := by decide +kernel
theorem dGCH_19 : decode jdk_42_method_61_code 19 = .ok (.pop, 1) := by decide +kernel
theorem dGCH_20 : decode jdk_42_method_61_code 20 = .ok (.aload_n 0, 1) := by decide +kernel
theorem dGCH_21 : decode jdk_42_method_61_code 21 = .ok (.invokevirtual 492, 3) := by decide +kernel
theorem dGCH_24 : decode jdk_42_method_61_code 24 = .ok (.ifCond .eq 18, 3) := by decide +kernel
theorem dGCH_27 : decode jdk_42_method_61_code 27 = .ok (.aload_n 0, 1) := by decide +kernel
theorem dGCH_28 : decode jdk_42_method_61_code 28 = .ok (.getfield 9, 3) := by decide +kernel
theorem dGCH_31 : decode jdk_42_method_61_code 31 = .ok (.iload_n 1, 1) := by decide +kernel
theorem dGCH_32 : decode jdk_42_method_61_code 32 = .ok (.iload_n 2, 1) := by decide +kernel
theorem dGCH_33 : decode jdk_42_method_61_code 33 = .ok (.aload_n 3, 1) := by decide +kernel
theorem dGCH_34 : decode jdk_42_method_61_code 34 = .ok (.iload 4, 2) := by decide +kernel
theorem dGCH_36 : decode jdk_42_method_61_code 36 = .ok (.invokestatic 525, 3) := by decide +kernel
theorem dGCH_39 : decode jdk_42_method_61_code 39 = .ok (.goto 15, 3) := by decide +kernel
theorem dGCH_42 : decode jdk_42_method_61_code 42 = .ok (.aload_n 0, 1) := by decide +kernel
theorem dGCH_43 : decode jdk_42_method_61_code 43 = .ok (.getfield 9, 3) := by decide +kernel
theorem dGCH_46 : decode jdk_42_method_61_code 46 = .ok (.iload_n 1, 1) := by decide +kernel
theorem dGCH_47 : decode jdk_42_method_61_code 47 = .ok (.iload_n 2, 1) := by decide +kernel
theorem dGCH_48 : decode jdk_42_method_61_code 48 = .ok (.aload_n 3, 1) := by decide +kernel
theorem dGCH_49 : decode jdk_42_method_61_code 49 = .ok (.iload 4, 2) := by decide +kernel
theorem dGCH_51 : decode jdk_42_method_61_code 51 = .ok (.invokestatic 529, 3) := by decide +kernel
theorem dGCH_54 : decode jdk_42_method_61_code 54 = .ok (.return_, 1) := by decide +kernel
theorem pnGCH : plainFor (⟨"java/lang/String", "getChars", "(II[CI)V"⟩ : MethodName) = true := plainFor_of_name (by first | (simp [plainName, overriddenIn]; done) | decide +kernel)
set_option maxRecDepth 65536 in
set_option maxHeartbeats 40000000 in
theorem con_GCH (hw : ∀ d ∈ tables_1, d.before a0 Z = true) {cz : Int32} (hc : Compact Z cz) (hu16 : U16 Z) {vf : Value} (hf : Fmt Z vf) {us : List UInt16} {cs : List Int32} {a t d : Addr} {k : Nat} (hk : k + us.length ≤ cs.length) (hm : d ∈ mine) (S : StrAt Z h a t us) (D : ArI Z h d .char cs) : Con (⟨"java/lang/String", "getChars", "(II[CI)V"⟩ : MethodName) jdk_42_method_61_code 5 none { frames := 4, cells := 0, slots := 0, locals := 60 } Z LT [] #[.ref a, .int 0, .int (Int32.ofNat us.length), .ref d, .int (Int32.ofNat k)] h [d] mine (fun v h' nw => nw = [] ∧ v = none ∧ ArI Z h' d .char (ovr cs k us)) := by
  obtain ⟨e1, v1, c1, b1⟩ := S.open
  have hcs := D.len
  refine Con.of pnGCH (Ls := [.val (.ref a), .val (.int 0), .val (.int (Int32.ofNat us.length)), .val (.ref d), .val (.int (Int32.ofNat k))]) (fun m => by first | (simp [entryFrame, mkF, argsToLocals, Value.category]; done) | (simp [entryFrame, mkF, argsToLocals, Value.category, maxLocals]; done) | rfl) ?_
  refine WP.iloadN (pc' := 1) dGCH_0 rfl rfl ?_
  refine WP.iloadN (pc' := 2) dGCH_1 rfl rfl ?_
  refine WP.aloadN (pc' := 3) dGCH_2 rfl rfl rfl ?_
  refine WP.callV (pc' := 6) (con_LEN hw hc S) e1 (hw _ (List.mem_of_getElem? (i := 65) rfl)) (hw _ (List.mem_of_getElem? (i := 50) rfl)) (fun s hs => notFace_of_selects (args := #[]) (mv hs (hw _ (List.mem_of_getElem? (i := 52) rfl)))) (hw _ (List.mem_of_getElem? (i := 52) rfl)) (hw _ (List.mem_of_getElem? (i := 51) rfl)) (hw _ (List.mem_of_getElem? (i := 7) rfl)) (hw _ (List.mem_of_getElem? (i := 53) rfl)) dGCH_3 (by decide) pdx14 rfl rfl rfl (by first | exact Nat.le_of_ble_eq_true rfl | omega | (simp; done) | (simp; omega) | (dsimp only; omega)) (by first | exact Nat.le_of_ble_eq_true rfl | omega | (simp; done) | (simp; omega) | (dsimp only; omega)) (by first | exact Nat.le_of_ble_eq_true rfl | omega | (simp; done) | (simp; omega) | (dsimp only; omega)) (by first | exact Nat.le_of_ble_eq_true rfl | omega | (simp; done) | (simp; omega) | (dsimp only; omega)) (fun _ hx => nomatch hx) rfl ?_
  rintro v h1 nw K hnw ⟨rfl, rfl, rfl⟩
  dsimp only [Option.toList, List.cons_append, List.nil_append]
  refine WP.callS (pc' := 9) (con_BE hw hf (i := 0) (j := us.length) (n := us.length) (by omega) (by omega) (by omega)) (hw _ (List.mem_of_getElem? (i := 66) rfl)) (hw _ (List.mem_of_getElem? (i := 67) rfl)) (hw _ (List.mem_of_getElem? (i := 7) rfl)) (hw _ (List.mem_of_getElem? (i := 68) rfl)) dGCH_6 (by decide) pdx15 rfl rfl rfl (by first | exact Nat.le_of_ble_eq_true rfl | omega | (simp; done) | (simp; omega) | (dsimp only; omega)) (by first | exact Nat.le_of_ble_eq_true rfl | omega | (simp; done) | (simp; omega) | (dsimp only; omega)) (by first | exact Nat.le_of_ble_eq_true rfl | omega | (simp; done) | (simp; omega) | (dsimp only; omega)) (by first | exact Nat.le_of_ble_eq_true rfl | omega | (simp; done) | (simp; omega) | (dsimp only; omega)) (fun _ hx => nomatch hx) rfl ?_
  rintro v h1 nw K hnw ⟨rfl, rfl, rfl⟩
  dsimp only [Option.toList, List.nil_append]
  refine WP.iload (pc' := 11) dGCH_9 rfl rfl ?_
  refine WP.iloadN (pc' := 12) dGCH_11 rfl rfl ?_
  refine WP.iloadN (pc' := 13) dGCH_12 rfl rfl ?_
  refine WP.isub (pc' := 14) dGCH_13 rfl ?_
  refine WP.aloadN (pc' := 15) dGCH_14 rfl rfl rfl ?_
  refine WP.arraylength (pc' := 16) dGCH_15 D rfl rfl ?_
  rw [i32_sub0]
  refine WP.callS (pc' := 19) (con_OC hw hf (i := k) (k := us.length) (n := cs.length) hk hcs) (hw _ (List.mem_of_getElem? (i := 74) rfl)) (hw _ (List.mem_of_getElem? (i := 75) rfl)) (hw _ (List.mem_of_getElem? (i := 7) rfl)) (hw _ (List.mem_of_getElem? (i := 76) rfl)) dGCH_16 (by decide) pdx11 rfl rfl rfl (by first | exact Nat.le_of_ble_eq_true rfl | omega | (simp; done) | (simp; omega) | (dsimp only; omega)) (by first | exact Nat.le_of_ble_eq_true rfl | omega | (simp; done) | (simp; omega) | (dsimp only; omega)) (by first | exact Nat.le_of_ble_eq_true rfl | omega | (simp; done) | (simp; omega) | (dsimp only; omega)) (by first | exact Nat.le_of_ble_eq_true rfl | omega | (simp; done) | (simp; omega) | (dsimp only; omega)) (fun _ hx => nomatch hx) rfl ?_
  rintro v h1 nw K hnw ⟨rfl, rfl, rfl⟩
  dsimp only [Option.toList, List.cons_append, List.nil_append]
  refine WP.pop (pc' := 20) dGCH_19 rfl rfl ?_
  refine WP.aloadN (pc' := 21) dGCH_20 rfl rfl rfl ?_
  refine WP.callV (pc' := 24) (con_IL hw hc S) e1 (hw _ (List.mem_of_getElem? (i := 80) rfl)) (hw _ (List.mem_of_getElem? (i := 81) rfl)) (fun s hs => notFace_of_selects (args := #[]) (mv hs (hw _ (List.mem_of_getElem? (i := 83) rfl)))) (hw _ (List.mem_of_getElem? (i := 83) rfl)) (hw _ (List.mem_of_getElem? (i := 82) rfl)) (hw _ (List.mem_of_getElem? (i := 7) rfl)) (hw _ (List.mem_of_getElem? (i := 84) rfl)) dGCH_21 (by decide) pdx16 rfl rfl rfl (by first | exact Nat.le_of_ble_eq_true rfl | omega | (simp; done) | (simp; omega) | (dsimp only; omega)) (by first | exact Nat.le_of_ble_eq_true rfl | omega | (simp; done) | (simp; omega) | (dsimp only; omega)) (by first | exact Nat.le_of_ble_eq_true rfl | omega | (simp; done) | (simp; omega) | (dsimp only; omega)) (by first | exact Nat.le_of_ble_eq_true rfl | omega | (simp; done) | (simp; omega) | (dsimp only; omega)) (fun _ hx => nomatch hx) rfl ?_
  rintro v h1 nw K hnw ⟨rfl, rfl, rfl⟩
  dsimp only [Option.toList, List.cons_append, List.nil_append]
  cases hl : lat us
  · rw [if_neg (by decide)]
    rw [byt_utf hl] at b1
    have hpos : 0 < us.length := by
      rcases us with _ | ⟨u, us⟩
      · cases hl
      · simp
    refine WP.ifT (pc' := 42) dGCH_24 (by decide) (by decide) rfl ?_
    refine WP.aloadN (pc' := 43) dGCH_42 rfl rfl rfl ?_
    refine WP.getfield (pc' := 46) (host := "") dGCH_43 (Or.inl (hw _ (List.mem_of_getElem? (i := 24) rfl))) Via.refl v1 rfl ?_
    refine WP.iloadN (pc' := 47) dGCH_46 rfl rfl ?_
    refine WP.iloadN (pc' := 48) dGCH_47 rfl rfl ?_
    refine WP.aloadN (pc' := 49) dGCH_48 rfl rfl rfl ?_
    refine WP.iload (pc' := 51) dGCH_49 rfl rfl ?_
    refine WP.callS (pc' := 54) (con_UGC hw hu16 hf hpos hk hm b1 D) (hw _ (List.mem_of_getElem? (i := 151) rfl)) (hw _ (List.mem_of_getElem? (i := 152) rfl)) (hw _ (List.mem_of_getElem? (i := 124) rfl)) (hw _ (List.mem_of_getElem? (i := 153) rfl)) dGCH_51 (by decide) pdx17 rfl rfl rfl (by first | exact Nat.le_of_ble_eq_true rfl | omega | (simp; done) | (simp; omega) | (dsimp only; omega)) (by first | exact Nat.le_of_ble_eq_true rfl | omega | (simp; done) | (simp; omega) | (dsimp only; omega)) (by first | exact Nat.le_of_ble_eq_true rfl | omega | (simp; done) | (simp; omega) | (dsimp only; omega)) (by first | exact Nat.le_of_ble_eq_true rfl | omega | (simp; done) | (simp; omega) | (dsimp only; omega)) (fun x hx => Or.inl hx) rfl ?_
    rintro v h2 nw K2 hnw ⟨rfl, rfl, D2⟩
    dsimp only [Option.toList, List.nil_append]
    exact WP.vret dGCH_54 rfl ⟨rfl, rfl, D2⟩ (fun _ hx => nomatch hx) (fun _ hx => hx) (by first | exact Nat.le_of_ble_eq_true rfl | omega) (by first | exact Nat.le_of_ble_eq_true rfl | omega)
  · rw [if_pos rfl]
    rw [byt_lat hl] at b1
    refine WP.ifF (pc' := 27) dGCH_24 rfl (show ¬ (1 : Int32) = 0 by decide) ?_
    refine WP.aloadN (pc' := 28) dGCH_27 rfl rfl rfl ?_
    refine WP.getfield (pc' := 31) (host := "") dGCH_28 (Or.inl (hw _ (List.mem_of_getElem? (i := 24) rfl))) Via.refl v1 rfl ?_
    refine WP.iloadN (pc' := 32) dGCH_31 rfl rfl ?_
    refine WP.iloadN (pc' := 33) dGCH_32 rfl rfl ?_
    refine WP.aloadN (pc' := 34) dGCH_33 rfl rfl rfl ?_
    refine WP.iload (pc' := 36) dGCH_34 rfl rfl ?_
    refine WP.callS (pc' := 39) (con_LGC hw hl hk hm b1 D) (hw _ (List.mem_of_getElem? (i := 85) rfl)) (hw _ (List.mem_of_getElem? (i := 86) rfl)) (hw _ (List.mem_of_getElem? (i := 87) rfl)) (hw _ (List.mem_of_getElem? (i := 88) rfl)) dGCH_36 (by decide) pdx17 rfl rfl rfl (by first | exact Nat.le_of_ble_eq_true rfl | omega | (simp; done) | (simp; omega) | (dsimp only; omega)) (by first | exact Nat.le_of_ble_eq_true rfl | omega | (simp; done) | (simp; omega) | (dsimp only; omega)) (by first | exact Nat.le_of_ble_eq_true rfl | omega | (simp; done) | (simp; omega) | (dsimp only; omega)) (by first | exact Nat.le_of_ble_eq_true rfl | omega | (simp; done) | (simp; omega) | (dsimp only; omega)) (fun x hx => Or.inl hx) rfl ?_
    rintro v h2 nw K2 hnw ⟨rfl, rfl, D2⟩
    dsimp only [Option.toList, List.nil_append]
    refine WP.goto (pc' := 54) dGCH_39 (by decide) (by decide) ?_
    exact WP.vret dGCH_54 rfl ⟨rfl, rfl, D2⟩ (fun _ hx => nomatch hx) (fun _ hx => hx) (by first | exact Nat.le_of_ble_eq_true rfl | omega) (by first | exact Nat.le_of_ble_eq_true rfl | omega)
end JdkGch
end Jvm.Pilot.@@N@@

namespace Jvm.Pilot.@@N@@
open Jvm Jvm.ClassFile Sem Op Lib Jvm.Free Jvm.Stand Jvm.LawKit Jvm.RoadKit Bundle Jvm.Pilot.@@N@@.Jvm.D Jvm.OwnW
theorem pdx18 : parseMethodDescriptor "([B[B)Z" = some ⟨[(.array .byte), (.array .byte)], some .boolean⟩ := by decide +kernel
section JdkEq
variable {Z : State} {a0 : Array Value} {h : Heap} {mine : List Addr}
theorem dLEQ_0 : decode jdk_43_method_13_code 0 = .ok (.aload_n 0, 1) := by decide +kernel
theorem dLEQ_1 : decode jdk_43_method_13_code 1 = .ok (.arraylength, 1) := by decide +kernel
theorem dLEQ_2 : decode jdk_43_method_13_code 2 = .ok (.aload_n 1, 1) := by decide +kernel
theorem dLEQ_3 : decode jdk_43_method_13_code 3 = .ok (.arraylength, 1) := by decide +kernel
theorem dLEQ_4 : decode jdk_43_method_13_code 4 = .ok (.if_icmp .ne 30, 3) := by decide +kernel
theorem dLEQ_7 : decode jdk_43_method_13_code 7 = .ok (.iconst 0, 1) := by decide +kernel
theorem dLEQ_8 : decode jdk_43_method_13_code 8 = .ok (.istore_n 2, 1) := by decide +kernel
theorem dLEQ_9 : decode jdk_43_method_13_code 9 = .ok (.iload_n 2, 1) := by decide +kernel
theorem dLEQ_10 : decode jdk_43_method_13_code 10 = .ok (.aload_n 0, 1) := by decide +kernel
theorem dLEQ_11 : decode jdk_43_method_13_code 11 = .ok (.arraylength, 1) := by decide +kernel
theorem dLEQ_12 : decode jdk_43_method_13_code 12 = .ok (.if_icmp .ge 20, 3) := by decide +kernel
theorem dLEQ_15 : decode jdk_43_method_13_code 15 = .ok (.aload_n 0, 1) := by decide +kernel
theorem dLEQ_16 : decode jdk_43_method_13_code 16 = .ok (.iload_n 2, 1) := by decide +kernel
theorem dLEQ_17 : decode jdk_43_method_13_code 17 = .ok (.baload, 1) := by decide +kernel
theorem dLEQ_18 : decode jdk_43_method_13_code 18 = .ok (.aload_n 1, 1) := by decide +kernel
theorem dLEQ_19 : decode jdk_43_method_13_code 19 = .ok (.iload_n 2, 1) := by decide +kernel
theorem dLEQ_20 : decode jdk_43_method_13_code 20 = .ok (.baload, 1) := by decide +kernel
theorem dLEQ_21 : decode jdk_43_method_13_code 21 = .ok (.if_icmp .eq 5, 3) := by decide +kernel
theorem dLEQ_24 : decode jdk_43_method_13_code 24 = .ok (.iconst 0, 1) := by decide +kernel
theorem dLEQ_25 : decode jdk_43_method_13_code 25 = .ok (.ireturn, 1) := by decide +kernel
theorem dLEQ_26 : decode jdk_43_method_13_code 26 = .ok (.iinc 2 1, 3) := by decide +kernel
theorem dLEQ_29 : decode jdk_43_method_13_code 29 = .ok (.goto (-20), 3) := by decide +kernel
theorem dLEQ_32 : decode jdk_43_method_13_code 32 = .ok (.iconst 1, 1) := by decide +kernel
theorem dLEQ_33 : decode jdk_43_method_13_code 33 = .ok (.ireturn, 1) := by decide +kernel
theorem dLEQ_34 : decode jdk_43_method_13_code 34 = .ok (.iconst 0, 1) := by decide +kernel
theorem dLEQ_35 : decode jdk_43_method_13_code 35 = .ok (.ireturn, 1) := by decide +kernel
theorem pnLEQ : plainFor (⟨"java/lang/StringLatin1", "equals", "([B[B)Z"⟩ : MethodName) = true := plainFor_of_name (by first | (simp [plainName, overriddenIn]; done) | decide +kernel)
set_option maxRecDepth 65536 in
set_option maxHeartbeats 40000000 in
theorem loop_LEQ {xs ys : List Int32} {s t : Addr} (A : ArI Z h s .byte xs) (B : ArI Z h t .byte ys) (hl : xs.length = ys.length) {Q : Option Value → Heap → List Addr → Prop} (hq : Q (some (.int (if xs = ys then 1 else 0))) h []) :
    ∀ (r i : Nat), i + r = xs.length → (∀ j, j < i → xs[j]? = ys[j]?) → WP "java/lang/StringLatin1" jdk_43_method_13_code 3 (some .boolean) "equals" R0 Z LT h [] mine Q mine 0 0 h 9 [.val (.ref s), .val (.ref t), .val (.int (Int32.ofNat i))] [] := by
  have hn := A.len
  intro r
  induction r with
  | zero =>
    intro i hi hlt
    obtain rfl : i = xs.length := by omega
    have e : xs = ys := List.ext_getElem? fun j => by
      rcases Nat.lt_or_ge j xs.length with q | q
      · exact hlt j q
      · rw [List.getElem?_eq_none q, List.getElem?_eq_none (by omega)]
    rw [if_pos e] at hq
    refine WP.iloadN (pc' := 10) dLEQ_9 rfl rfl ?_
    refine WP.aloadN (pc' := 11) dLEQ_10 rfl rfl rfl ?_
    refine WP.arraylength (pc' := 12) dLEQ_11 A rfl rfl ?_
    refine WP.icmpT (pc' := 32) dLEQ_12 (by decide) (by decide) (fun q => Nat.lt_irrefl _ ((n32_lt hn hn).mp q)) ?_
    refine WP.iconst (pc' := 33) (x := 1) dLEQ_32 (by decide) rfl ?_
    exact WP.ireturn dLEQ_33 rfl (by simp) rfl hq (fun _ hx => nomatch hx) (fun _ hx => hx) (Nat.le_refl _) (Nat.le_refl _)
  | succ r ih =>
    intro i hi hlt
    have hil : i < xs.length := by omega
    obtain ⟨x, hx⟩ : ∃ x, xs[i]? = some x := ⟨xs[i], List.getElem?_eq_getElem hil⟩
    obtain ⟨y, hy⟩ : ∃ y, ys[i]? = some y := ⟨ys[i]'(by omega), List.getElem?_eq_getElem (by omega)⟩
    refine WP.iloadN (pc' := 10) dLEQ_9 rfl rfl ?_
    refine WP.aloadN (pc' := 11) dLEQ_10 rfl rfl rfl ?_
    refine WP.arraylength (pc' := 12) dLEQ_11 A rfl rfl ?_
    refine WP.icmpF (pc' := 15) dLEQ_12 rfl ((n32_lt (by omega) hn).mpr hil) ?_
    refine WP.aloadN (pc' := 16) dLEQ_15 rfl rfl rfl ?_
    refine WP.iloadN (pc' := 17) dLEQ_16 rfl rfl ?_
    refine WP.baload (pc' := 18) dLEQ_17 A (n32_toInt (by omega)) hx rfl ?_
    refine WP.aloadN (pc' := 19) dLEQ_18 rfl rfl rfl ?_
    refine WP.iloadN (pc' := 20) dLEQ_19 rfl rfl ?_
    refine WP.baload (pc' := 21) dLEQ_20 B (n32_toInt (by omega)) hy rfl ?_
    refine WP.icmp (pc' := 26) (pc2 := 24) dLEQ_21 (by decide) (by decide) rfl (fun hc => ?_) (fun hc => ?_)
    · refine WP.iinc (pc' := 29) dLEQ_26 rfl rfl rfl rfl ?_
      dsimp only [List.set]
      refine WP.goto (pc' := 9) dLEQ_29 (by decide) (by decide) ?_
      rw [show Int32.ofNat i + Int32.ofInt 1 = Int32.ofNat (i + 1) from n32_succ i]
      refine ih (i + 1) (by omega) fun j hj => ?_
      rcases Nat.lt_succ_iff_lt_or_eq.mp hj with q | rfl
      · exact hlt j q
      · rw [hx, hy]; exact congrArg some hc
    · refine WP.iconst (pc' := 25) (x := 0) dLEQ_24 (by decide) rfl ?_
      rw [if_neg fun e => hc (by rw [e] at hx; exact Option.some.inj (hx.symm.trans hy))] at hq
      exact WP.ireturn dLEQ_25 rfl (by simp) rfl hq (fun _ hx => nomatch hx) (fun _ hx => hx) (Nat.le_refl _) (Nat.le_refl _)
set_option maxRecDepth 65536 in
set_option maxHeartbeats 40000000 in
theorem con_LEQ {xs ys : List Int32} {s t : Addr} (A : ArI Z h s .byte xs) (B : ArI Z h t .byte ys) : Con (⟨"java/lang/StringLatin1", "equals", "([B[B)Z"⟩ : MethodName) jdk_43_method_13_code 3 (some .boolean) R0 Z LT [] #[.ref s, .ref t] h [] mine (fun v h' nw => nw = [] ∧ v = some (.int (if xs = ys then 1 else 0)) ∧ h' = h) := by
  refine Con.of pnLEQ (Ls := [.val (.ref s), .val (.ref t), .unset]) (fun m => by first | (simp [entryFrame, mkF, argsToLocals, Value.category]; done) | (simp [entryFrame, mkF, argsToLocals, Value.category, maxLocals]; done) | rfl) ?_
  refine WP.aloadN (pc' := 1) dLEQ_0 rfl rfl rfl ?_
  refine WP.arraylength (pc' := 2) dLEQ_1 A rfl rfl ?_
  refine WP.aloadN (pc' := 3) dLEQ_2 rfl rfl rfl ?_
  refine WP.arraylength (pc' := 4) dLEQ_3 B rfl rfl ?_
  refine WP.icmp (pc' := 34) (pc2 := 7) dLEQ_4 (by decide) (by decide) rfl (fun hc => ?_) (fun hc => ?_)
  · refine WP.iconst (pc' := 35) (x := 0) dLEQ_34 (by decide) rfl ?_
    refine WP.ireturn dLEQ_35 rfl (by simp) rfl ⟨rfl, ?_, rfl⟩ (fun _ hx => nomatch hx) (fun _ hx => hx) (Nat.le_refl _) (Nat.le_refl _)
    rw [if_neg fun e => hc (by rw [e])]
  · have hl : xs.length = ys.length := (n32_eq A.len B.len).mp hc
    refine WP.iconst (pc' := 8) (x := 0) dLEQ_7 (by decide) rfl ?_
    refine WP.istoreN (pc' := 9) dLEQ_8 rfl rfl rfl ?_
    dsimp only [List.set]
    exact loop_LEQ A B hl ⟨rfl, rfl, rfl⟩ xs.length 0 (by omega) (fun j hj => absurd hj (Nat.not_lt_zero _))
theorem dEQ_0 : decode jdk_42_method_66_code 0 = .ok (.aload_n 0, 1) := by decide +kernel
theorem dEQ_1 : decode jdk_42_method_66_code 1 = .ok (.aload_n 1, 1) := by decide +kernel
theorem dEQ_2 : decode jdk_42_method_66_code 2 = .ok (.if_acmp .ne 5, 3) := by decide +kernel
theorem dEQ_5 : decode jdk_42_method_66_code 5 = .ok (.iconst 1, 1) := by decide +kernel
theorem dEQ_6 : decode jdk_42_method_66_code 6 = .ok (.ireturn, 1) := by decide +kernel
theorem dEQ_7 : decode jdk_42_method_66_code 7 = .ok (.aload_n 1, 1) := by decide +kernel
theorem dEQ_8 : decode jdk_42_method_66_code 8 = .ok (.instanceof 10, 3) := by decide +kernel
theorem dEQ_11 : decode jdk_42_method_66_code 11 = .ok (.ifCond .eq 43, 3) := by decide +kernel
theorem dEQ_14 : decode jdk_42_method_66_code 14 = .ok (.aload_n 1, 1) := by decide +kernel
theorem dEQ_15 : decode jdk_42_method_66_code 15 = .ok (.checkcast 10, 3) := by decide +kernel
theorem dEQ_18 : decode jdk_42_method_66_code 18 = .ok (.astore_n 2, 1) := by decide +kernel
theorem dEQ_19 : decode jdk_42_method_66_code 19 = .ok (.getstatic 38, 3) := by decide +kernel
theorem dEQ_22 : decode jdk_42_method_66_code 22 = .ok (.ifCond .eq 14, 3) := by decide +kernel
theorem dEQ_25 : decode jdk_42_method_66_code 25 = .ok (.aload_n 0, 1) := by decide +kernel
theorem dEQ_26 : decode jdk_42_method_66_code 26 = .ok (.getfield 15, 3) := by decide +kernel
theorem dEQ_29 : decode jdk_42_method_66_code 29 = .ok (.aload_n 2, 1) := by decide +kernel
theorem dEQ_30 : decode jdk_42_method_66_code 30 = .ok (.getfield 15, 3) := by decide +kernel
theorem dEQ_33 : decode jdk_42_method_66_code 33 = .ok (.if_icmp .ne 21, 3) := by decide +kernel
theorem dEQ_36 : decode jdk_42_method_66_code 36 = .ok (.aload_n 0, 1) := by decide +kernel
theorem dEQ_37 : decode jdk_42_method_66_code 37 = .ok (.getfield 9, 3) := by decide +kernel
theorem dEQ_40 : decode jdk_42_method_66_code 40 = .ok (.aload_n 2, 1) := by decide +kernel
theorem dEQ_41 : decode jdk_42_method_66_code 41 = .ok (.getfield 9, 3) := by decide +kernel
theorem dEQ_44 : decode jdk_42_method_66_code 44 = .ok (.invokestatic 541, 3) := by decide +kernel
theorem dEQ_47 : decode jdk_42_method_66_code 47 = .ok (.ifCond .eq 7, 3) := by decide +kernel
theorem dEQ_50 : decode jdk_42_method_66_code 50 = .ok (.iconst 1, 1) := by decide +kernel
theorem dEQ_51 : decode jdk_42_method_66_code 51 = .ok (.goto 4, 3) := by decide +kernel
theorem dEQ_54 : decode jdk_42_method_66_code 54 = .ok (.iconst 0, 1) := by decide +kernel
theorem dEQ_55 : decode jdk_42_method_66_code 55 = .ok (.ireturn, 1) := by decide +kernel
theorem pnEQ : plainFor (⟨"java/lang/String", "equals", "(Ljava/lang/Object;)Z"⟩ : MethodName) = true := plainFor_of_name (by first | (simp [plainName, overriddenIn]; done) | decide +kernel)
set_option maxRecDepth 65536 in
set_option maxHeartbeats 40000000 in
theorem con_EQs {a : Addr} : Con (⟨"java/lang/String", "equals", "(Ljava/lang/Object;)Z"⟩ : MethodName) jdk_42_method_66_code 3 (some .boolean) R0 Z LT [] #[.ref a, .ref a] h [] mine (fun v h' nw => nw = [] ∧ v = some (.int 1) ∧ h' = h) := by
  refine Con.of pnEQ (Ls := [.val (.ref a), .val (.ref a), .unset]) (fun m => by first | (simp [entryFrame, mkF, argsToLocals, Value.category]; done) | rfl) ?_
  refine WP.aloadN (pc' := 1) dEQ_0 rfl rfl rfl ?_
  refine WP.aloadN (pc' := 2) dEQ_1 rfl rfl rfl ?_
  refine WP.acmp (pc' := 5) dEQ_2 rfl rfl true (decide_eq_true rfl) (by decide) (by decide) ?_
  refine WP.iconst (pc' := 6) (x := 1) dEQ_5 (by decide) rfl ?_
  exact WP.ireturn dEQ_6 rfl (by simp) rfl ⟨rfl, rfl, rfl⟩ (fun _ hx => nomatch hx) (fun _ hx => hx) (Nat.le_refl _) (Nat.le_refl _)
set_option maxRecDepth 65536 in
set_option maxHeartbeats 40000000 in
theorem con_EQ (hw : ∀ d ∈ tables_1, d.before a0 Z = true) {cz : Int32} (hc : Compact Z cz) {a b t t' : Addr} {us vs : List UInt16} (S : StrAt Z h a t us) (S' : StrAt Z h b t' vs) : Con (⟨"java/lang/String", "equals", "(Ljava/lang/Object;)Z"⟩ : MethodName) jdk_42_method_66_code 3 (some .boolean) { frames := 1, cells := 0, slots := 0, locals := 14 } Z LT [] #[.ref a, .ref b] h [] mine (fun v h' nw => nw = [] ∧ v = some (.int (if us = vs then 1 else 0)) ∧ h' = h) := by
  obtain ⟨e1, v1, c1, b1⟩ := S.open
  obtain ⟨e2, v2, c2, b2⟩ := S'.open
  refine Con.of pnEQ (Ls := [.val (.ref a), .val (.ref b), .unset]) (fun m => by first | (simp [entryFrame, mkF, argsToLocals, Value.category]; done) | (simp [entryFrame, mkF, argsToLocals, Value.category, maxLocals]; done) | rfl) ?_
  refine WP.aloadN (pc' := 1) dEQ_0 rfl rfl rfl ?_
  refine WP.aloadN (pc' := 2) dEQ_1 rfl rfl rfl ?_
  by_cases hab : a = b
  · subst hab
    refine WP.acmp (pc' := 5) dEQ_2 rfl rfl true (decide_eq_true rfl) (by decide) (by decide) ?_
    refine WP.iconst (pc' := 6) (x := 1) dEQ_5 (by decide) rfl ?_
    refine WP.ireturn dEQ_6 rfl (by simp) rfl ⟨rfl, ?_, rfl⟩ (fun _ hx => nomatch hx) (fun _ hx => hx) (Nat.le_refl _) (Nat.le_refl _)
    rw [if_pos (S.uniq S')]
  · refine WP.acmp (pc' := 7) dEQ_2 rfl rfl false (decide_eq_false fun q => hab (Value.ref.inj q)) (by decide) (by decide) ?_
    refine WP.aloadN (pc' := 8) dEQ_7 rfl rfl rfl ?_
    refine WP.instanceofY (pc' := 11) dEQ_8 (hw _ (List.mem_of_getElem? (i := 118) rfl)) (Ins.self e2) rfl ?_
    refine WP.ifF (pc' := 14) dEQ_11 rfl (show ¬ (1 : Int32) = 0 by decide) ?_
    refine WP.aloadN (pc' := 15) dEQ_14 rfl rfl rfl ?_
    refine WP.checkcast (pc' := 18) dEQ_15 (hw _ (List.mem_of_getElem? (i := 118) rfl)) (Ins.self e2) rfl ?_
    refine WP.astoreN (pc' := 19) dEQ_18 rfl rfl rfl rfl rfl ?_
    dsimp only [List.set]
    refine WP.getstatic (pc' := 22) (host := "") dEQ_19 (Or.inl (hw _ (List.mem_of_getElem? (i := 59) rfl))) Via.refl hc.1 rfl ?_
    refine WP.ifF (pc' := 25) dEQ_22 rfl hc.2 ?_
    refine WP.aloadN (pc' := 26) dEQ_25 rfl rfl rfl ?_
    refine WP.getfield (pc' := 29) (host := "") dEQ_26 (Or.inl (hw _ (List.mem_of_getElem? (i := 25) rfl))) Via.refl c1 rfl ?_
    refine WP.aloadN (pc' := 30) dEQ_29 rfl rfl rfl ?_
    refine WP.getfield (pc' := 33) (host := "") dEQ_30 (Or.inl (hw _ (List.mem_of_getElem? (i := 25) rfl))) Via.refl c2 rfl ?_
    refine WP.icmp (pc' := 54) (pc2 := 36) dEQ_33 (by decide) (by decide) rfl (fun hcc => ?_) (fun hcc => ?_)
    · refine WP.iconst (pc' := 55) (x := 0) dEQ_54 (by decide) rfl ?_
      refine WP.ireturn dEQ_55 rfl (by simp) rfl ⟨rfl, ?_, rfl⟩ (fun _ hx => nomatch hx) (fun _ hx => hx) (Nat.le_refl _) (Nat.le_refl _)
      rw [if_neg fun e => hcc (by rw [e])]
    · refine WP.aloadN (pc' := 37) dEQ_36 rfl rfl rfl ?_
      refine WP.getfield (pc' := 40) (host := "") dEQ_37 (Or.inl (hw _ (List.mem_of_getElem? (i := 24) rfl))) Via.refl v1 rfl ?_
      refine WP.aloadN (pc' := 41) dEQ_40 rfl rfl rfl ?_
      refine WP.getfield (pc' := 44) (host := "") dEQ_41 (Or.inl (hw _ (List.mem_of_getElem? (i := 24) rfl))) Via.refl v2 rfl ?_
      refine WP.callS (pc' := 47) (con_LEQ b1 b2) (hw _ (List.mem_of_getElem? (i := 119) rfl)) (hw _ (List.mem_of_getElem? (i := 120) rfl)) (hw _ (List.mem_of_getElem? (i := 87) rfl)) (hw _ (List.mem_of_getElem? (i := 121) rfl)) dEQ_44 (by decide) pdx18 rfl rfl rfl (by first | exact Nat.le_of_ble_eq_true rfl | omega | (simp; done) | (simp; omega) | (dsimp only; omega)) (by first | exact Nat.le_of_ble_eq_true rfl | omega | (simp; done) | (simp; omega) | (dsimp only; omega)) (by first | exact Nat.le_of_ble_eq_true rfl | omega | (simp; done) | (simp; omega) | (dsimp only; omega)) (by first | exact Nat.le_of_ble_eq_true rfl | omega | (simp; done) | (simp; omega) | (dsimp only; omega)) (fun _ hx => nomatch hx) rfl ?_
      rintro v h' nw K hnw ⟨rfl, rfl, rfl⟩
      dsimp only [Option.toList, List.cons_append, List.nil_append]
      by_cases hb : byt us = byt vs
      · rw [if_pos hb]
        refine WP.ifF (pc' := 50) dEQ_47 rfl (show ¬ (1 : Int32) = 0 by decide) ?_
        refine WP.iconst (pc' := 51) (x := 1) dEQ_50 (by decide) rfl ?_
        refine WP.goto (pc' := 55) dEQ_51 (by decide) (by decide) ?_
        refine WP.ireturn dEQ_55 rfl (by simp) rfl ⟨rfl, ?_, rfl⟩ (fun _ hx => nomatch hx) (fun _ hx => hx) (Nat.le_refl _) (Nat.le_refl _)
        rw [if_pos (str_inj hcc hb)]
      · rw [if_neg hb]
        refine WP.ifT (pc' := 54) dEQ_47 (by decide) (by decide) rfl ?_
        refine WP.iconst (pc' := 55) (x := 0) dEQ_54 (by decide) rfl ?_
        refine WP.ireturn dEQ_55 rfl (by simp) rfl ⟨rfl, ?_, rfl⟩ (fun _ hx => nomatch hx) (fun _ hx => hx) (Nat.le_refl _) (Nat.le_refl _)
        rw [if_neg fun e => hb (by rw [e])]
end JdkEq
end Jvm.Pilot.@@N@@

namespace Jvm.Pilot.@@N@@
open Jvm Jvm.ClassFile Sem Op Lib Jvm.Free Jvm.Stand Jvm.LawKit Jvm.RoadKit Bundle Jvm.Pilot.@@N@@.Jvm.D Jvm.OwnW
theorem pdx19 : parseMethodDescriptor "([CII)Ljava/lang/Void;" = some ⟨[(.array .char), .int, .int], some (.object "java/lang/Void")⟩ := by decide +kernel
theorem pdx20 : parseMethodDescriptor "(II)I" = some ⟨[.int, .int], some .int⟩ := by decide +kernel
section JdkCpy
variable {Z : State} {a0 : Array Value} {h : Heap} {mine : List Addr}
theorem dRCK_0 : decode jdk_42_method_5_code 0 = .ok (.iload_n 1, 1) := by decide +kernel
theorem dRCK_1 : decode jdk_42_method_5_code 1 = .ok (.iload_n 2, 1) := by decide +kernel
theorem dRCK_2 : decode jdk_42_method_5_code 2 = .ok (.aload_n 0, 1) := by decide +kernel
theorem dRCK_3 : decode jdk_42_method_5_code 3 = .ok (.arraylength, 1) := by decide +kernel
theorem dRCK_4 : decode jdk_42_method_5_code 4 = .ok (.invokestatic 34, 3) := by decide +kernel
theorem dRCK_7 : decode jdk_42_method_5_code 7 = .ok (.pop, 1) := by decide +kernel
theorem dRCK_8 : decode jdk_42_method_5_code 8 = .ok (.aconst_null, 1) := by decide +kernel
theorem dRCK_9 : decode jdk_42_method_5_code 9 = .ok (.areturn, 1) := by decide +kernel
theorem pnRCK : plainFor (⟨"java/lang/String", "rangeCheck", "([CII)Ljava/lang/Void;"⟩ : MethodName) = true := plainFor_of_name (by first | (simp [plainName, overriddenIn]; done) | decide +kernel)
set_option maxRecDepth 65536 in
set_option maxHeartbeats 40000000 in
theorem con_RCK (hw : ∀ d ∈ tables_1, d.before a0 Z = true) {vf : Value} (hf : Fmt Z vf) {b : Addr} {bs : List Int32} {off n : Nat} (A : ArI Z h b .char bs) (hle : off + n ≤ bs.length) : Con (⟨"java/lang/String", "rangeCheck", "([CII)Ljava/lang/Void;"⟩ : MethodName) jdk_42_method_5_code 3 (some (.object "java/lang/Void")) { frames := 2, cells := 0, slots := 0, locals := 29 } Z LT [] #[.ref b, .int (Int32.ofNat off), .int (Int32.ofNat n)] h [] mine (fun v h' nw => nw = [] ∧ v = some .null ∧ h' = h) := by
  refine Con.of pnRCK (Ls := [.val (.ref b), .val (.int (Int32.ofNat off)), .val (.int (Int32.ofNat n))]) (fun m => by first | (simp [entryFrame, mkF, argsToLocals, Value.category]; done) | (simp [entryFrame, mkF, argsToLocals, Value.category, maxLocals]; done) | rfl) ?_
  refine WP.iloadN (pc' := 1) dRCK_0 rfl rfl ?_
  refine WP.iloadN (pc' := 2) dRCK_1 rfl rfl ?_
  refine WP.aloadN (pc' := 3) dRCK_2 rfl rfl rfl ?_
  refine WP.arraylength (pc' := 4) dRCK_3 A rfl rfl ?_
  refine WP.callS (pc' := 7) (con_OC hw hf hle A.len) (hw _ (List.mem_of_getElem? (i := 74) rfl)) (hw _ (List.mem_of_getElem? (i := 75) rfl)) (hw _ (List.mem_of_getElem? (i := 7) rfl)) (hw _ (List.mem_of_getElem? (i := 76) rfl)) dRCK_4 (by decide) pdx11 rfl rfl rfl (by first | exact Nat.le_of_ble_eq_true rfl | omega | (simp; done) | (simp; omega) | (dsimp only; omega)) (by first | exact Nat.le_of_ble_eq_true rfl | omega | (simp; done) | (simp; omega) | (dsimp only; omega)) (by first | exact Nat.le_of_ble_eq_true rfl | omega | (simp; done) | (simp; omega) | (dsimp only; omega)) (by first | exact Nat.le_of_ble_eq_true rfl | omega | (simp; done) | (simp; omega) | (dsimp only; omega)) (fun _ hx => nomatch hx) rfl ?_
  rintro v h' nw K hnw ⟨rfl, rfl, rfl⟩
  dsimp only [Option.toList, List.cons_append, List.nil_append]
  refine WP.pop (pc' := 8) dRCK_7 rfl rfl ?_
  refine WP.aconstNull (pc' := 9) dRCK_8 rfl ?_
  exact WP.areturn dRCK_9 rfl rfl rfl ⟨rfl, rfl, rfl⟩ (fun _ hx => nomatch hx) (fun _ hx => hx) (by first | exact Nat.le_of_ble_eq_true rfl | omega) (by first | exact Nat.le_of_ble_eq_true rfl | omega)
theorem dSI3_0 : decode jdk_42_method_4_code 0 = .ok (.aload_n 0, 1) := by decide +kernel
theorem dSI3_1 : decode jdk_42_method_4_code 1 = .ok (.aload_n 1, 1) := by decide +kernel
theorem dSI3_2 : decode jdk_42_method_4_code 2 = .ok (.iload_n 2, 1) := by decide +kernel
theorem dSI3_3 : decode jdk_42_method_4_code 3 = .ok (.iload_n 3, 1) := by decide +kernel
theorem dSI3_4 : decode jdk_42_method_4_code 4 = .ok (.aload_n 1, 1) := by decide +kernel
theorem dSI3_5 : decode jdk_42_method_4_code 5 = .ok (.iload_n 2, 1) := by decide +kernel
theorem dSI3_6 : decode jdk_42_method_4_code 6 = .ok (.iload_n 3, 1) := by decide +kernel
theorem dSI3_7 : decode jdk_42_method_4_code 7 = .ok (.invokestatic 30, 3) := by decide +kernel
theorem dSI3_10 : decode jdk_42_method_4_code 10 = .ok (.invokespecial 27, 3) := by decide +kernel
theorem dSI3_13 : decode jdk_42_method_4_code 13 = .ok (.return_, 1) := by decide +kernel
theorem pnSI3 : plainFor (⟨"java/lang/String", "<init>", "([CII)V"⟩ : MethodName) = true := plainFor_of_name (by first | (simp [plainName, overriddenIn]; done) | decide +kernel)
set_option maxRecDepth 65536 in
set_option maxHeartbeats 40000000 in
theorem con_SI3 (hw : ∀ d ∈ tables_1, d.before a0 Z = true) {cz : Int32} (hc : Compact Z cz) {us : List UInt16} (hu : Hu Z us) {vf : Value} (hf : Fmt Z vf) {a b : Addr} {N : Nat} {bs : List Int32} {off : Nat} (hsub : SubC bs off us) (hN : us.length ≤ N) (hn : N ≤ 33554432) (E : Exa Z h a ST) (FV : Fld Z h a ST "value" "[B" .null) (FC : Fld Z h a ST "coder" "B" (.int 0)) (A : ArI Z h b .char bs) (hm : a ∈ mine) :
    Con (⟨"java/lang/String", "<init>", "([CII)V"⟩ : MethodName) jdk_42_method_4_code 4 none { frames := 5, cells := 4, slots := 3 * N + 8, locals := 74 } Z LT [] #[.ref a, .ref b, .int (Int32.ofNat off), .int (Int32.ofNat us.length)] h [a] mine (fun v h' nw => nw = [] ∧ v = none ∧ ∃ t, StrAt Z h' a t us ∧ t ∉ mine) := by
  refine Con.of pnSI3 (Ls := [.val (.ref a), .val (.ref b), .val (.int (Int32.ofNat off)), .val (.int (Int32.ofNat us.length))]) (fun m => by first | (simp [entryFrame, mkF, argsToLocals, Value.category]; done) | (simp [entryFrame, mkF, argsToLocals, Value.category, maxLocals]; done) | rfl) ?_
  refine WP.aloadN (pc' := 1) dSI3_0 rfl rfl rfl ?_
  refine WP.aloadN (pc' := 2) dSI3_1 rfl rfl rfl ?_
  refine WP.iloadN (pc' := 3) dSI3_2 rfl rfl ?_
  refine WP.iloadN (pc' := 4) dSI3_3 rfl rfl ?_
  refine WP.aloadN (pc' := 5) dSI3_4 rfl rfl rfl ?_
  refine WP.iloadN (pc' := 6) dSI3_5 rfl rfl ?_
  refine WP.iloadN (pc' := 7) dSI3_6 rfl rfl ?_
  refine WP.callS (pc' := 10) (con_RCK hw hf A hsub.1) (hw _ (List.mem_of_getElem? (i := 105) rfl)) (hw _ (List.mem_of_getElem? (i := 106) rfl)) (hw _ (List.mem_of_getElem? (i := 7) rfl)) (hw _ (List.mem_of_getElem? (i := 107) rfl)) dSI3_7 (by decide) pdx19 rfl rfl rfl (by first | exact Nat.le_of_ble_eq_true rfl | omega | (simp; done) | (simp; omega) | (dsimp only; omega)) (by first | exact Nat.le_of_ble_eq_true rfl | omega | (simp; done) | (simp; omega) | (dsimp only; omega)) (by first | exact Nat.le_of_ble_eq_true rfl | omega | (simp; done) | (simp; omega) | (dsimp only; omega)) (by first | exact Nat.le_of_ble_eq_true rfl | omega | (simp; done) | (simp; omega) | (dsimp only; omega)) (fun _ hx => nomatch hx) rfl ?_
  rintro v h1 nw K hnw ⟨rfl, rfl, rfl⟩
  dsimp only [Option.toList, List.cons_append, List.nil_append]
  refine WP.callSp (pc' := 13) (con_SI4 hw hc hu hsub hN hn E FV FC A hm) rfl (hw _ (List.mem_of_getElem? (i := 11) rfl)) (hw _ (List.mem_of_getElem? (i := 12) rfl)) (hw _ (List.mem_of_getElem? (i := 7) rfl)) (hw _ (List.mem_of_getElem? (i := 14) rfl)) dSI3_10 (by decide) pdx7 rfl rfl rfl (by first | exact Nat.le_of_ble_eq_true rfl | omega | (simp; done) | (simp; omega) | (dsimp only; omega)) (by first | exact Nat.le_of_ble_eq_true rfl | omega | (simp; done) | (simp; omega) | (dsimp only; omega)) (by first | exact Nat.le_of_ble_eq_true rfl | omega | (simp; done) | (simp; omega) | (dsimp only; omega)) (by first | exact Nat.le_of_ble_eq_true rfl | omega | (simp; done) | (simp; omega) | (dsimp only; omega)) (fun x hx => Or.inl hx) rfl ?_
  rintro v h1 nw K1 hnw ⟨rfl, rfl, t, S, ht⟩
  dsimp only [Option.toList, List.nil_append]
  exact WP.vret dSI3_13 rfl ⟨rfl, rfl, t, S, ht⟩ (fun _ hx => nomatch hx) (fun _ hx => hx) (by dsimp only; omega) (by dsimp only; omega)
theorem dMAX_0 : decode jdk_29_method_65_code 0 = .ok (.iload_n 0, 1) := by decide +kernel
theorem dMAX_1 : decode jdk_29_method_65_code 1 = .ok (.iload_n 1, 1) := by decide +kernel
theorem dMAX_2 : decode jdk_29_method_65_code 2 = .ok (.if_icmp .lt 7, 3) := by decide +kernel
theorem dMAX_5 : decode jdk_29_method_65_code 5 = .ok (.iload_n 0, 1) := by decide +kernel
theorem dMAX_6 : decode jdk_29_method_65_code 6 = .ok (.goto 4, 3) := by decide +kernel
theorem dMAX_9 : decode jdk_29_method_65_code 9 = .ok (.iload_n 1, 1) := by decide +kernel
theorem dMAX_10 : decode jdk_29_method_65_code 10 = .ok (.ireturn, 1) := by decide +kernel
theorem pnMAX : plainFor (⟨"java/lang/Math", "max", "(II)I"⟩ : MethodName) = true := by decide +kernel
set_option maxRecDepth 65536 in
set_option maxHeartbeats 40000000 in
theorem con_MAX {i j : Nat} (hi : i < 2 ^ 31) (hj : j < 2 ^ 31) : Con (⟨"java/lang/Math", "max", "(II)I"⟩ : MethodName) jdk_29_method_65_code 2 (some .int) R0 Z LT [] #[.int (Int32.ofNat i), .int (Int32.ofNat j)] h [] mine (fun v h' nw => nw = [] ∧ v = some (.int (Int32.ofNat (max i j))) ∧ h' = h) := by
  refine Con.of pnMAX (Ls := [.val (.int (Int32.ofNat i)), .val (.int (Int32.ofNat j))]) (fun m => by first | (simp [entryFrame, mkF, argsToLocals, Value.category]; done) | (simp [entryFrame, mkF, argsToLocals, Value.category, maxLocals]; done) | rfl) ?_
  refine WP.iloadN (pc' := 1) dMAX_0 rfl rfl ?_
  refine WP.iloadN (pc' := 2) dMAX_1 rfl rfl ?_
  by_cases q : i < j
  · refine WP.icmpT (pc' := 9) dMAX_2 (by decide) (by decide) ((n32_lt hi hj).mpr q) ?_
    refine WP.iloadN (pc' := 10) dMAX_9 rfl rfl ?_
    exact WP.ireturn dMAX_10 rfl (by simp) rfl ⟨rfl, by rw [Nat.max_eq_right (by omega)], rfl⟩ (fun _ hx => nomatch hx) (fun _ hx => hx) (by first | exact Nat.le_of_ble_eq_true rfl | omega) (by first | exact Nat.le_of_ble_eq_true rfl | omega)
  · refine WP.icmpF (pc' := 5) dMAX_2 rfl (fun r => q ((n32_lt hi hj).mp r)) ?_
    refine WP.iloadN (pc' := 6) dMAX_5 rfl rfl ?_
    refine WP.goto (pc' := 10) dMAX_6 (by decide) (by decide) ?_
    exact WP.ireturn dMAX_10 rfl (by simp) rfl ⟨rfl, by rw [Nat.max_eq_left (by omega)], rfl⟩ (fun _ hx => nomatch hx) (fun _ hx => hx) (by first | exact Nat.le_of_ble_eq_true rfl | omega) (by first | exact Nat.le_of_ble_eq_true rfl | omega)
theorem dMIN_0 : decode jdk_29_method_69_code 0 = .ok (.iload_n 0, 1) := by decide +kernel
theorem dMIN_1 : decode jdk_29_method_69_code 1 = .ok (.iload_n 1, 1) := by decide +kernel
theorem dMIN_2 : decode jdk_29_method_69_code 2 = .ok (.if_icmp .gt 7, 3) := by decide +kernel
theorem dMIN_5 : decode jdk_29_method_69_code 5 = .ok (.iload_n 0, 1) := by decide +kernel
theorem dMIN_6 : decode jdk_29_method_69_code 6 = .ok (.goto 4, 3) := by decide +kernel
theorem dMIN_9 : decode jdk_29_method_69_code 9 = .ok (.iload_n 1, 1) := by decide +kernel
theorem dMIN_10 : decode jdk_29_method_69_code 10 = .ok (.ireturn, 1) := by decide +kernel
theorem pnMIN : plainFor (⟨"java/lang/Math", "min", "(II)I"⟩ : MethodName) = true := by decide +kernel
set_option maxRecDepth 65536 in
set_option maxHeartbeats 40000000 in
theorem con_MIN {i j : Nat} (hi : i < 2 ^ 31) (hj : j < 2 ^ 31) : Con (⟨"java/lang/Math", "min", "(II)I"⟩ : MethodName) jdk_29_method_69_code 2 (some .int) R0 Z LT [] #[.int (Int32.ofNat i), .int (Int32.ofNat j)] h [] mine (fun v h' nw => nw = [] ∧ v = some (.int (Int32.ofNat (min i j))) ∧ h' = h) := by
  refine Con.of pnMIN (Ls := [.val (.int (Int32.ofNat i)), .val (.int (Int32.ofNat j))]) (fun m => by first | (simp [entryFrame, mkF, argsToLocals, Value.category]; done) | (simp [entryFrame, mkF, argsToLocals, Value.category, maxLocals]; done) | rfl) ?_
  refine WP.iloadN (pc' := 1) dMIN_0 rfl rfl ?_
  refine WP.iloadN (pc' := 2) dMIN_1 rfl rfl ?_
  by_cases q : j < i
  · refine WP.icmpT (pc' := 9) dMIN_2 (by decide) (by decide) ((n32_lt hj hi).mpr q) ?_
    refine WP.iloadN (pc' := 10) dMIN_9 rfl rfl ?_
    exact WP.ireturn dMIN_10 rfl (by simp) rfl ⟨rfl, by rw [Nat.min_eq_right (by omega)], rfl⟩ (fun _ hx => nomatch hx) (fun _ hx => hx) (by first | exact Nat.le_of_ble_eq_true rfl | omega) (by first | exact Nat.le_of_ble_eq_true rfl | omega)
  · refine WP.icmpF (pc' := 5) dMIN_2 rfl (fun r => q ((n32_lt hj hi).mp r)) ?_
    refine WP.iloadN (pc' := 6) dMIN_5 rfl rfl ?_
    refine WP.goto (pc' := 10) dMIN_6 (by decide) (by decide) ?_
    exact WP.ireturn dMIN_10 rfl (by simp) rfl ⟨rfl, by rw [Nat.min_eq_left (by omega)], rfl⟩ (fun _ hx => nomatch hx) (fun _ hx => hx) (by first | exact Nat.le_of_ble_eq_true rfl | omega) (by first | exact Nat.le_of_ble_eq_true rfl | omega)
theorem dCPY_0 : decode jdk_65_method_125_code 0 = .ok (.iload_n 1, 1) := by decide +kernel
theorem dCPY_1 : decode jdk_65_method_125_code 1 = .ok (.aload_n 0, 1) := by decide +kernel
theorem dCPY_2 : decode jdk_65_method_125_code 2 = .ok (.arraylength, 1) := by decide +kernel
theorem dCPY_3 : decode jdk_65_method_125_code 3 = .ok (.if_icmp .ne 11, 3) := by decide +kernel
theorem dCPY_6 : decode jdk_65_method_125_code 6 = .ok (.aload_n 0, 1) := by decide +kernel
theorem dCPY_7 : decode jdk_65_method_125_code 7 = .ok (.invokevirtual 322, 3) := by decide +kernel
theorem dCPY_10 : decode jdk_65_method_125_code 10 = .ok (.checkcast 323, 3) := by decide +kernel
theorem dCPY_13 : decode jdk_65_method_125_code 13 = .ok (.areturn, 1) := by decide +kernel
theorem dCPY_14 : decode jdk_65_method_125_code 14 = .ok (.iload_n 1, 1) := by decide +kernel
theorem dCPY_15 : decode jdk_65_method_125_code 15 = .ok (.newarray .char, 2) := by decide +kernel
theorem dCPY_17 : decode jdk_65_method_125_code 17 = .ok (.astore_n 2, 1) := by decide +kernel
theorem dCPY_18 : decode jdk_65_method_125_code 18 = .ok (.aload_n 0, 1) := by decide +kernel
theorem dCPY_19 : decode jdk_65_method_125_code 19 = .ok (.iconst 0, 1) := by decide +kernel
theorem dCPY_20 : decode jdk_65_method_125_code 20 = .ok (.aload_n 2, 1) := by decide +kernel
theorem dCPY_21 : decode jdk_65_method_125_code 21 = .ok (.iconst 0, 1) := by decide +kernel
theorem dCPY_22 : decode jdk_65_method_125_code 22 = .ok (.aload_n 0, 1) := by decide +kernel
theorem dCPY_23 : decode jdk_65_method_125_code 23 = .ok (.arraylength, 1) := by decide +kernel
theorem dCPY_24 : decode jdk_65_method_125_code 24 = .ok (.iload_n 1, 1) := by decide +kernel
theorem dCPY_25 : decode jdk_65_method_125_code 25 = .ok (.invokestatic 304, 3) := by decide +kernel
theorem dCPY_28 : decode jdk_65_method_125_code 28 = .ok (.invokestatic 150, 3) := by decide +kernel
theorem dCPY_31 : decode jdk_65_method_125_code 31 = .ok (.aload_n 2, 1) := by decide +kernel
theorem dCPY_32 : decode jdk_65_method_125_code 32 = .ok (.areturn, 1) := by decide +kernel
theorem pnCPY : plainFor (⟨"java/util/Arrays", "copyOf", "([CI)[C"⟩ : MethodName) = true := plainFor_of_name (by first | (simp [plainName, overriddenIn]; done) | decide +kernel)
set_option maxRecDepth 65536 in
set_option maxHeartbeats 40000000 in
theorem con_CPY (hw : ∀ d ∈ tables_1, d.before a0 Z = true) {c : Addr} {cs : List Int32} {n : Nat} (hlt : cs.length < n) (hn : n ≤ 67108864) (A : ArI Z h c .char cs) (hfc : ∀ x ∈ cs, fits .char (.int x) = true) : Con (⟨"java/util/Arrays", "copyOf", "([CI)[C"⟩ : MethodName) jdk_65_method_125_code 3 (some (.array .char)) { frames := 1, cells := 1, slots := n, locals := 18 } Z LT [] #[.ref c, .int (Int32.ofNat n)] h [] mine (fun v h' nw => ∃ t, nw = [t] ∧ v = some (.ref t) ∧ ArI Z h' t .char (cs ++ List.replicate (n - cs.length) 0)) := by
  refine Con.of pnCPY (Ls := [.val (.ref c), .val (.int (Int32.ofNat n)), .unset]) (fun m => by first | (simp [entryFrame, mkF, argsToLocals, Value.category]; done) | (simp [entryFrame, mkF, argsToLocals, Value.category, maxLocals]; done) | rfl) ?_
  refine WP.iloadN (pc' := 1) dCPY_0 rfl rfl ?_
  refine WP.aloadN (pc' := 2) dCPY_1 rfl rfl rfl ?_
  refine WP.arraylength (pc' := 3) dCPY_2 A rfl rfl ?_
  refine WP.icmpT (pc' := 14) dCPY_3 (by decide) (by decide) (fun q => by have := (n32_eq (by omega) A.len).mp q; omega) ?_
  refine WP.iloadN (pc' := 15) dCPY_14 rfl rfl ?_
  refine WP.newarray (pc' := 17) (N := n) dCPY_15 (hw _ (List.mem_of_getElem? (i := 0) rfl)) rfl (n32_toInt (by omega)) (by first | exact Nat.le_of_ble_eq_true rfl | omega | (simp; done) | (simp; omega) | (dsimp only; omega)) (by first | exact Nat.le_of_ble_eq_true rfl | omega | (simp; done) | (simp; omega) | (dsimp only; omega)) (by first | exact Nat.le_of_ble_eq_true rfl | omega | (simp; done) | (simp; omega) | (dsimp only; omega)) rfl ?_
  intro h1 t et nt mt E1 B
  refine WP.astoreN (pc' := 18) dCPY_17 rfl rfl rfl rfl rfl ?_
  dsimp only [List.set]
  refine WP.aloadN (pc' := 19) dCPY_18 rfl rfl rfl ?_
  refine WP.iconst (pc' := 20) (x := 0) dCPY_19 (by decide) rfl ?_
  refine WP.aloadN (pc' := 21) dCPY_20 rfl rfl rfl ?_
  refine WP.iconst (pc' := 22) (x := 0) dCPY_21 (by decide) rfl ?_
  refine WP.aloadN (pc' := 23) dCPY_22 rfl rfl rfl ?_
  refine WP.arraylength (pc' := 24) dCPY_23 (A.ext E1) rfl rfl ?_
  refine WP.iloadN (pc' := 25) dCPY_24 rfl rfl ?_
  refine WP.callS (pc' := 28) (con_MIN A.len (by omega)) (hw _ (List.mem_of_getElem? (i := 169) rfl)) (hw _ (List.mem_of_getElem? (i := 170) rfl)) (hw _ (List.mem_of_getElem? (i := 163) rfl)) (hw _ (List.mem_of_getElem? (i := 171) rfl)) dCPY_25 (by decide) pdx20 rfl rfl rfl (by first | exact Nat.le_of_ble_eq_true rfl | omega | (simp; done) | (simp; omega) | (dsimp only; omega)) (by first | exact Nat.le_of_ble_eq_true rfl | omega | (simp; done) | (simp; omega) | (dsimp only; omega)) (by first | exact Nat.le_of_ble_eq_true rfl | omega | (simp; done) | (simp; omega) | (dsimp only; omega)) (by first | exact Nat.le_of_ble_eq_true rfl | omega | (simp; done) | (simp; omega) | (dsimp only; omega)) (fun _ hx => nomatch hx) rfl ?_
  rintro v h2 nw K hnw ⟨rfl, rfl, rfl⟩
  dsimp only [Option.toList, List.cons_append, List.nil_append]
  rw [Nat.min_eq_left (by omega)]
  refine WP.arraycopy (pc' := 31) (i := 0) (j := 0) (n := cs.length) (W := 0) (hw _ (List.mem_of_getElem? (i := 172) rfl)) (hw _ (List.mem_of_getElem? (i := 175) rfl)) (hw _ (List.mem_of_getElem? (i := 173) rfl)) (hw _ (List.mem_of_getElem? (i := 174) rfl)) dCPY_28 (A.ext E1) B rfl hfc (fun y hy => by rw [List.eq_of_mem_replicate hy]; rfl) (by decide) (by decide) (n32_toInt A.len) (by omega) (by simp; omega) (List.mem_cons_self ..) (Or.inr mt) rfl (Nat.le_of_ble_eq_true rfl) (by simp) (show 0 + (nativeFrameWords "java/lang/System" "arraycopy" 5 + 11) ≤ 18 by decide) rfl ?_
  intro h3 K3 C
  refine WP.aloadN (pc' := 32) dCPY_31 rfl rfl rfl ?_
  refine WP.areturn (nw := [t]) dCPY_32 rfl rfl rfl ⟨t, rfl, rfl, ?_⟩ (fun x hx => ?_) (fun x hx => List.mem_cons_of_mem _ hx) (by dsimp only; omega) (by dsimp only; omega)
  · simpa using C
  · cases List.mem_singleton.mp hx; exact ⟨List.mem_cons_self .., mt⟩
end JdkCpy
end Jvm.Pilot.@@N@@

namespace Jvm.Pilot.@@N@@
open Jvm Jvm.ClassFile Sem Op Lib Jvm.Free Jvm.Stand Jvm.LawKit Jvm.RoadKit Bundle Jvm.Pilot.@@N@@.Jvm.D Jvm.OwnW
theorem pdx21 : parseMethodDescriptor "(II[CI)V" = some ⟨[.int, .int, (.array .char), .int], none⟩ := by decide +kernel
theorem pdx22 : parseMethodDescriptor "([CI)[C" = some ⟨[(.array .char), .int], some (.array .char)⟩ := by decide +kernel
theorem pdx23 : parseMethodDescriptor "([CII)V" = some ⟨[(.array .char), .int, .int], none⟩ := by decide +kernel
section TextL
variable {Z : State} {a0 : Array Value} {h : Heap} {mine : List Addr}
abbrev TLS : String := "com/example/ratably/ratably/TextList"
/-- a TextList with its two arrays -/
def TL (Z : State) (h : Heap) (o c e : Addr) (cs es : List Int32) (n : Int32) : Prop := Exa Z h o TLS ∧ Fld Z h o TLS "chars" "[C" (.ref c) ∧ Fld Z h o TLS "ends" "[I" (.ref e) ∧ Fld Z h o TLS "size" "I" (.int n) ∧ ArI Z h c .char cs ∧ ArI Z h e .int es ∧ o ≠ c ∧ o ≠ e ∧ c ≠ e
theorem dTLI_0 : decode prog_28_method_1_code 0 = .ok (.aload_n 0, 1) := by decide +kernel
theorem dTLI_1 : decode prog_28_method_1_code 1 = .ok (.invokespecial 1, 3) := by decide +kernel
theorem dTLI_4 : decode prog_28_method_1_code 4 = .ok (.aload_n 0, 1) := by decide +kernel
theorem dTLI_5 : decode prog_28_method_1_code 5 = .ok (.sipush 256, 3) := by decide +kernel
theorem dTLI_8 : decode prog_28_method_1_code 8 = .ok (.newarray .char, 2) := by decide +kernel
theorem dTLI_10 : decode prog_28_method_1_code 10 = .ok (.putfield 7, 3) := by decide +kernel
theorem dTLI_13 : decode prog_28_method_1_code 13 = .ok (.aload_n 0, 1) := by decide +kernel
theorem dTLI_14 : decode prog_28_method_1_code 14 = .ok (.bipush 16, 2) := by decide +kernel
theorem dTLI_16 : decode prog_28_method_1_code 16 = .ok (.newarray .int, 2) := by decide +kernel
theorem dTLI_18 : decode prog_28_method_1_code 18 = .ok (.putfield 13, 3) := by decide +kernel
theorem dTLI_21 : decode prog_28_method_1_code 21 = .ok (.return_, 1) := by decide +kernel
theorem pnTLI : plainFor (⟨"com/example/ratably/ratably/TextList", "<init>", "()V"⟩ : MethodName) = true := plainFor_of_name (by first | (simp [plainName, overriddenIn]; done) | decide +kernel)
set_option maxRecDepth 65536 in
set_option maxHeartbeats 40000000 in
theorem con_TLI (hw : ∀ d ∈ tables_1, d.before a0 Z = true) {o : Addr} (E : Exa Z h o TLS) (F1 : Fld Z h o TLS "chars" "[C" .null) (F2 : Fld Z h o TLS "ends" "[I" .null) (F3 : Fld Z h o TLS "size" "I" (.int 0)) (hm : o ∈ mine) : Con (⟨"com/example/ratably/ratably/TextList", "<init>", "()V"⟩ : MethodName) prog_28_method_1_code 1 none { frames := 1, cells := 2, slots := 272, locals := 12 } Z LT [] #[.ref o] h [o] mine (fun v h' nw => ∃ c e, nw = [e, c] ∧ v = none ∧ TL Z h' o c e (List.replicate 256 0) (List.replicate 16 0) 0) := by
  have ws : o ∈ [o] ∨ h.size ≤ o := Or.inl (List.mem_singleton.mpr rfl)
  have n12 : Jvm.RoadKit.slotOf Z TLS "ends" "[I" ≠ Jvm.RoadKit.slotOf Z TLS "chars" "[C" := slot_ne (Or.inl (hw _ (List.mem_of_getElem? (i := 37) rfl))) (Or.inl (hw _ (List.mem_of_getElem? (i := 34) rfl))) (by decide) (t := .array .int) (t' := .array .char) (by decide) (by decide)
  have n13 : Jvm.RoadKit.slotOf Z TLS "size" "I" ≠ Jvm.RoadKit.slotOf Z TLS "chars" "[C" := slot_ne (Or.inl (hw _ (List.mem_of_getElem? (i := 44) rfl))) (Or.inl (hw _ (List.mem_of_getElem? (i := 34) rfl))) (by decide) (t := .int) (t' := .array .char) (by decide) (by decide)
  have n23 : Jvm.RoadKit.slotOf Z TLS "size" "I" ≠ Jvm.RoadKit.slotOf Z TLS "ends" "[I" := slot_ne (Or.inl (hw _ (List.mem_of_getElem? (i := 44) rfl))) (Or.inl (hw _ (List.mem_of_getElem? (i := 37) rfl))) (by decide) (t := .int) (t' := .array .int) (by decide) (by decide)
  refine Con.of pnTLI (Ls := [.val (.ref o)]) (fun m => by first | (simp [entryFrame, mkF, argsToLocals, Value.category]; done) | (simp [entryFrame, mkF, argsToLocals, Value.category, maxLocals]; done) | rfl) ?_
  refine WP.aloadN (pc' := 1) dTLI_0 rfl rfl rfl ?_
  refine WP.initObj (pc' := 4) (W := 0) dTLI_1 (hw _ (List.mem_of_getElem? (i := 32) rfl)) (hw _ (List.mem_of_getElem? (i := 16) rfl)) (hw _ (List.mem_of_getElem? (i := 17) rfl)) rfl (by first | exact Nat.le_of_ble_eq_true rfl | omega | (simp; done) | (simp; omega) | (dsimp only; omega)) (by first | exact Nat.le_of_ble_eq_true rfl | omega | (simp; done) | (simp; omega) | (dsimp only; omega)) (by first | exact Nat.le_of_ble_eq_true rfl | omega | (simp; done) | (simp; omega) | (dsimp only; omega)) rfl ?_
  refine WP.aloadN (pc' := 5) dTLI_4 rfl rfl rfl ?_
  refine WP.sipush (pc' := 8) (x := 256) dTLI_5 (by decide) rfl ?_
  refine WP.newarray (pc' := 10) (N := 256) dTLI_8 (hw _ (List.mem_of_getElem? (i := 0) rfl)) rfl (by decide) (by first | exact Nat.le_of_ble_eq_true rfl | omega | (simp; done) | (simp; omega) | (dsimp only; omega)) (by first | exact Nat.le_of_ble_eq_true rfl | omega | (simp; done) | (simp; omega) | (dsimp only; omega)) (by first | exact Nat.le_of_ble_eq_true rfl | omega | (simp; done) | (simp; omega) | (dsimp only; omega)) rfl ?_
  intro h1 c ec nc mc E1 A1
  have noc : o ≠ c := fun q => nc (q ▸ hm)
  refine WP.putfield (pc' := 13) (host := "") dTLI_10 (Or.inl (hw _ (List.mem_of_getElem? (i := 33) rfl))) Via.refl (F1.ext E1) (E.ext E1) (Or.inl (hw _ (List.mem_of_getElem? (i := 34) rfl))) (hw _ (List.mem_of_getElem? (i := 27) rfl)) (ty := (.array .char)) (by decide) rfl rfl (List.mem_cons_of_mem _ hm) ws rfl ?_
  intro h2 W2 G2 E2
  replace A1 := A1.other W2 (Ne.symm noc)
  refine WP.aloadN (pc' := 14) dTLI_13 rfl rfl rfl ?_
  refine WP.bipush (pc' := 16) (x := 16) dTLI_14 (by decide) rfl ?_
  refine WP.newarray (pc' := 18) (N := 16) dTLI_16 (hw _ (List.mem_of_getElem? (i := 35) rfl)) rfl (by decide) (by first | exact Nat.le_of_ble_eq_true rfl | omega | (simp; done) | (simp; omega) | (dsimp only; omega)) (by first | exact Nat.le_of_ble_eq_true rfl | omega | (simp; done) | (simp; omega) | (dsimp only; omega)) (by first | exact Nat.le_of_ble_eq_true rfl | omega | (simp; done) | (simp; omega) | (dsimp only; omega)) rfl ?_
  intro h3 e ee ne me E3 A3
  have noe : o ≠ e := fun q => ne (q ▸ List.mem_cons_of_mem _ hm)
  have nce : c ≠ e := fun q => ne (q ▸ List.mem_cons_self ..)
  refine WP.putfield (pc' := 21) (host := "") dTLI_18 (Or.inl (hw _ (List.mem_of_getElem? (i := 36) rfl))) Via.refl ((F2.ext E1).other W2 (Or.inr n12)|>.ext E3) (E2.ext E3) (Or.inl (hw _ (List.mem_of_getElem? (i := 37) rfl))) (hw _ (List.mem_of_getElem? (i := 27) rfl)) (ty := (.array .int)) (by decide) rfl rfl (List.mem_cons_of_mem _ (List.mem_cons_of_mem _ hm)) ws rfl ?_
  intro h4 W4 G4 E4
  refine WP.vret (nw := [e, c]) dTLI_21 rfl ⟨c, e, rfl, rfl, E4, (G2.ext E3).other W4 (Or.inr (Ne.symm n12)), G4, ((((F3.ext E1).other W2 (Or.inr n13)).ext E3).other W4 (Or.inr n23)), (A1.ext E3).other W4 (Ne.symm noc), A3.other W4 (Ne.symm noe), noc, noe, nce⟩ (fun x hx => ?_) (fun x hx => List.mem_cons_of_mem _ (List.mem_cons_of_mem _ hx)) (Nat.le_of_ble_eq_true rfl) (Nat.le_of_ble_eq_true rfl)
  rcases List.mem_cons.mp hx with rfl | hx
  · exact ⟨List.mem_cons_self .., me⟩
  · cases List.mem_singleton.mp hx; exact ⟨List.mem_cons_of_mem _ (List.mem_cons_self ..), mc⟩
/-- where text k begins -/
def StA (es : List Int32) (k st : Nat) : Prop := (k = 0 ∧ st = 0) ∨ (0 < k ∧ es[k - 1]? = some (Int32.ofNat st))
theorem dTST_0 : decode prog_28_method_7_code 0 = .ok (.iload_n 1, 1) := by decide +kernel
theorem dTST_1 : decode prog_28_method_7_code 1 = .ok (.ifCond .ne 7, 3) := by decide +kernel
theorem dTST_4 : decode prog_28_method_7_code 4 = .ok (.iconst 0, 1) := by decide +kernel
theorem dTST_5 : decode prog_28_method_7_code 5 = .ok (.goto 11, 3) := by decide +kernel
theorem dTST_8 : decode prog_28_method_7_code 8 = .ok (.aload_n 0, 1) := by decide +kernel
theorem dTST_9 : decode prog_28_method_7_code 9 = .ok (.getfield 13, 3) := by decide +kernel
theorem dTST_12 : decode prog_28_method_7_code 12 = .ok (.iload_n 1, 1) := by decide +kernel
theorem dTST_13 : decode prog_28_method_7_code 13 = .ok (.iconst 1, 1) := by decide +kernel
theorem dTST_14 : decode prog_28_method_7_code 14 = .ok (.isub, 1) := by decide +kernel
theorem dTST_15 : decode prog_28_method_7_code 15 = .ok (.iaload, 1) := by decide +kernel
theorem dTST_16 : decode prog_28_method_7_code 16 = .ok (.ireturn, 1) := by decide +kernel
theorem pnTST : plainFor (⟨"com/example/ratably/ratably/TextList", "start", "(I)I"⟩ : MethodName) = true := plainFor_of_name (by first | (simp [plainName, overriddenIn]; done) | decide +kernel)
set_option maxRecDepth 65536 in
set_option maxHeartbeats 40000000 in
theorem con_TST (hw : ∀ d ∈ tables_1, d.before a0 Z = true) {o e : Addr} {es : List Int32} {k st : Nat} (F : Fld Z h o TLS "ends" "[I" (.ref e)) (A : ArI Z h e .int es) (hs : StA es k st) (hk : k < 2 ^ 31) : Con (⟨"com/example/ratably/ratably/TextList", "start", "(I)I"⟩ : MethodName) prog_28_method_7_code 2 (some .int) R0 Z LT [] #[.ref o, .int (Int32.ofNat k)] h [] mine (fun v h' nw => nw = [] ∧ v = some (.int (Int32.ofNat st)) ∧ h' = h) := by
  refine Con.of pnTST (Ls := [.val (.ref o), .val (.int (Int32.ofNat k))]) (fun m => by first | (simp [entryFrame, mkF, argsToLocals, Value.category]; done) | (simp [entryFrame, mkF, argsToLocals, Value.category, maxLocals]; done) | rfl) ?_
  refine WP.iloadN (pc' := 1) dTST_0 rfl rfl ?_
  rcases hs with ⟨rfl, rfl⟩ | ⟨h0, he⟩
  · refine WP.ifF (pc' := 4) dTST_1 rfl rfl ?_
    refine WP.iconst (pc' := 5) (x := 0) dTST_4 (by decide) rfl ?_
    refine WP.goto (pc' := 16) dTST_5 (by decide) (by decide) ?_
    exact WP.ireturn dTST_16 rfl (by simp) rfl ⟨rfl, rfl, rfl⟩ (fun _ hx => nomatch hx) (fun _ hx => hx) (by first | exact Nat.le_of_ble_eq_true rfl | omega) (by first | exact Nat.le_of_ble_eq_true rfl | omega)
  · refine WP.ifT (pc' := 8) dTST_1 (by decide) (by decide) (fun q => by have := (n32_eq (n := 0) hk (by omega)).mp q; omega) ?_
    refine WP.aloadN (pc' := 9) dTST_8 rfl rfl rfl ?_
    refine WP.getfield (pc' := 12) (host := "") dTST_9 (Or.inl (hw _ (List.mem_of_getElem? (i := 36) rfl))) Via.refl F rfl ?_
    refine WP.iloadN (pc' := 13) dTST_12 rfl rfl ?_
    refine WP.iconst (pc' := 14) (x := 1) dTST_13 (by decide) rfl ?_
    refine WP.isub (pc' := 15) dTST_14 rfl ?_
    rw [show Int32.ofNat k - 1 = Int32.ofNat (k - 1) from n32_sub (k := 1) h0 hk]
    refine WP.iaload (pc' := 16) dTST_15 A (n32_toInt (by omega)) he rfl ?_
    exact WP.ireturn dTST_16 rfl (by simp) rfl ⟨rfl, rfl, rfl⟩ (fun _ hx => nomatch hx) (fun _ hx => hx) (by first | exact Nat.le_of_ble_eq_true rfl | omega) (by first | exact Nat.le_of_ble_eq_true rfl | omega)
theorem dTLN_0 : decode prog_28_method_6_code 0 = .ok (.aload_n 0, 1) := by decide +kernel
theorem dTLN_1 : decode prog_28_method_6_code 1 = .ok (.getfield 13, 3) := by decide +kernel
theorem dTLN_4 : decode prog_28_method_6_code 4 = .ok (.iload_n 1, 1) := by decide +kernel
theorem dTLN_5 : decode prog_28_method_6_code 5 = .ok (.iaload, 1) := by decide +kernel
theorem dTLN_6 : decode prog_28_method_6_code 6 = .ok (.aload_n 0, 1) := by decide +kernel
theorem dTLN_7 : decode prog_28_method_6_code 7 = .ok (.iload_n 1, 1) := by decide +kernel
theorem dTLN_8 : decode prog_28_method_6_code 8 = .ok (.invokevirtual 21, 3) := by decide +kernel
theorem dTLN_11 : decode prog_28_method_6_code 11 = .ok (.isub, 1) := by decide +kernel
theorem dTLN_12 : decode prog_28_method_6_code 12 = .ok (.ireturn, 1) := by decide +kernel
theorem pnTLN : plainFor (⟨"com/example/ratably/ratably/TextList", "length", "(I)I"⟩ : MethodName) = true := plainFor_of_name (by first | (simp [plainName, overriddenIn]; done) | decide +kernel)
set_option maxRecDepth 65536 in
set_option maxHeartbeats 40000000 in
theorem con_TLN (hw : ∀ d ∈ tables_1, d.before a0 Z = true) {o e : Addr} (E : Exa Z h o TLS) {es : List Int32} {k st en : Nat} (F : Fld Z h o TLS "ends" "[I" (.ref e)) (A : ArI Z h e .int es) (hs : StA es k st) (he : es[k]? = some (Int32.ofNat en)) (hle : st ≤ en) (hen : en < 2 ^ 31) (hk : k < 2 ^ 31) : Con (⟨"com/example/ratably/ratably/TextList", "length", "(I)I"⟩ : MethodName) prog_28_method_6_code 2 (some .int) { frames := 1, cells := 0, slots := 0, locals := 14 } Z LT [] #[.ref o, .int (Int32.ofNat k)] h [] mine (fun v h' nw => nw = [] ∧ v = some (.int (Int32.ofNat (en - st))) ∧ h' = h) := by
  refine Con.of pnTLN (Ls := [.val (.ref o), .val (.int (Int32.ofNat k))]) (fun m => by first | (simp [entryFrame, mkF, argsToLocals, Value.category]; done) | (simp [entryFrame, mkF, argsToLocals, Value.category, maxLocals]; done) | rfl) ?_
  refine WP.aloadN (pc' := 1) dTLN_0 rfl rfl rfl ?_
  refine WP.getfield (pc' := 4) (host := "") dTLN_1 (Or.inl (hw _ (List.mem_of_getElem? (i := 36) rfl))) Via.refl F rfl ?_
  refine WP.iloadN (pc' := 5) dTLN_4 rfl rfl ?_
  refine WP.iaload (pc' := 6) dTLN_5 A (n32_toInt hk) he rfl ?_
  refine WP.aloadN (pc' := 7) dTLN_6 rfl rfl rfl ?_
  refine WP.iloadN (pc' := 8) dTLN_7 rfl rfl ?_
  refine WP.callP (pc' := 11) (con_TST hw F A hs hk) E.cell (hw _ (List.mem_of_getElem? (i := 45) rfl)) (hw _ (List.mem_of_getElem? (i := 46) rfl)) (hw _ (List.mem_of_getElem? (i := 47) rfl)) (hw _ (List.mem_of_getElem? (i := 27) rfl)) (hw _ (List.mem_of_getElem? (i := 28) rfl)) (hw _ (List.mem_of_getElem? (i := 48) rfl)) dTLN_8 (by decide) pdx0 rfl rfl rfl (by first | exact Nat.le_of_ble_eq_true rfl | omega | (simp; done) | (simp; omega) | (dsimp only; omega)) (by first | exact Nat.le_of_ble_eq_true rfl | omega | (simp; done) | (simp; omega) | (dsimp only; omega)) (by first | exact Nat.le_of_ble_eq_true rfl | omega | (simp; done) | (simp; omega) | (dsimp only; omega)) (by first | exact Nat.le_of_ble_eq_true rfl | omega | (simp; done) | (simp; omega) | (dsimp only; omega)) (fun _ hx => nomatch hx) rfl ?_
  rintro v h' nw K hnw ⟨rfl, rfl, rfl⟩
  dsimp only [Option.toList, List.cons_append, List.nil_append]
  refine WP.isub (pc' := 12) dTLN_11 rfl ?_
  rw [n32_sub hle hen]
  exact WP.ireturn dTLN_12 rfl (by simp) rfl ⟨rfl, rfl, rfl⟩ (fun _ hx => nomatch hx) (fun _ hx => hx) (by first | exact Nat.le_of_ble_eq_true rfl | omega) (by first | exact Nat.le_of_ble_eq_true rfl | omega)
theorem dADD_0 : decode prog_28_method_2_code 0 = .ok (.aload_n 0, 1) := by decide +kernel
theorem dADD_1 : decode prog_28_method_2_code 1 = .ok (.aload_n 0, 1) := by decide +kernel
theorem dADD_2 : decode prog_28_method_2_code 2 = .ok (.getfield 17, 3) := by decide +kernel
theorem dADD_5 : decode prog_28_method_2_code 5 = .ok (.invokevirtual 21, 3) := by decide +kernel
theorem dADD_8 : decode prog_28_method_2_code 8 = .ok (.istore_n 2, 1) := by decide +kernel
theorem dADD_9 : decode prog_28_method_2_code 9 = .ok (.iload_n 2, 1) := by decide +kernel
theorem dADD_10 : decode prog_28_method_2_code 10 = .ok (.aload_n 1, 1) := by decide +kernel
theorem dADD_11 : decode prog_28_method_2_code 11 = .ok (.invokevirtual 25, 3) := by decide +kernel
theorem dADD_14 : decode prog_28_method_2_code 14 = .ok (.iadd, 1) := by decide +kernel
theorem dADD_15 : decode prog_28_method_2_code 15 = .ok (.istore_n 3, 1) := by decide +kernel
theorem dADD_16 : decode prog_28_method_2_code 16 = .ok (.iload_n 3, 1) := by decide +kernel
theorem dADD_17 : decode prog_28_method_2_code 17 = .ok (.aload_n 0, 1) := by decide +kernel
theorem dADD_18 : decode prog_28_method_2_code 18 = .ok (.getfield 7, 3) := by decide +kernel
theorem dADD_21 : decode prog_28_method_2_code 21 = .ok (.arraylength, 1) := by decide +kernel
theorem dADD_22 : decode prog_28_method_2_code 22 = .ok (.if_icmp .le 25, 3) := by decide +kernel
theorem dADD_25 : decode prog_28_method_2_code 25 = .ok (.aload_n 0, 1) := by decide +kernel
theorem dADD_26 : decode prog_28_method_2_code 26 = .ok (.aload_n 0, 1) := by decide +kernel
theorem dADD_27 : decode prog_28_method_2_code 27 = .ok (.getfield 7, 3) := by decide +kernel
theorem dADD_30 : decode prog_28_method_2_code 30 = .ok (.iload_n 3, 1) := by decide +kernel
theorem dADD_31 : decode prog_28_method_2_code 31 = .ok (.aload_n 0, 1) := by decide +kernel
theorem dADD_32 : decode prog_28_method_2_code 32 = .ok (.getfield 7, 3) := by decide +kernel
theorem dADD_35 : decode prog_28_method_2_code 35 = .ok (.arraylength, 1) := by decide +kernel
theorem dADD_36 : decode prog_28_method_2_code 36 = .ok (.iconst 2, 1) := by decide +kernel
theorem dADD_37 : decode prog_28_method_2_code 37 = .ok (.imul, 1) := by decide +kernel
theorem dADD_38 : decode prog_28_method_2_code 38 = .ok (.invokestatic 31, 3) := by decide +kernel
theorem dADD_41 : decode prog_28_method_2_code 41 = .ok (.invokestatic 37, 3) := by decide +kernel
theorem dADD_44 : decode prog_28_method_2_code 44 = .ok (.putfield 7, 3) := by decide +kernel
theorem dADD_47 : decode prog_28_method_2_code 47 = .ok (.aload_n 0, 1) := by decide +kernel
theorem dADD_48 : decode prog_28_method_2_code 48 = .ok (.getfield 17, 3) := by decide +kernel
theorem dADD_51 : decode prog_28_method_2_code 51 = .ok (.aload_n 0, 1) := by decide +kernel
theorem dADD_52 : decode prog_28_method_2_code 52 = .ok (.getfield 13, 3) := by decide +kernel
theorem dADD_55 : decode prog_28_method_2_code 55 = .ok (.arraylength, 1) := by decide +kernel
theorem dADD_56 : decode prog_28_method_2_code 56 = .ok (.if_icmp .ne 20, 3) := by decide +kernel
theorem dADD_59 : decode prog_28_method_2_code 59 = .ok (.aload_n 0, 1) := by decide +kernel
theorem dADD_60 : decode prog_28_method_2_code 60 = .ok (.aload_n 0, 1) := by decide +kernel
theorem dADD_61 : decode prog_28_method_2_code 61 = .ok (.getfield 13, 3) := by decide +kernel
theorem dADD_64 : decode prog_28_method_2_code 64 = .ok (.aload_n 0, 1) := by decide +kernel
theorem dADD_65 : decode prog_28_method_2_code 65 = .ok (.getfield 17, 3) := by decide +kernel
theorem dADD_68 : decode prog_28_method_2_code 68 = .ok (.iconst 2, 1) := by decide +kernel
theorem dADD_69 : decode prog_28_method_2_code 69 = .ok (.imul, 1) := by decide +kernel
theorem dADD_70 : decode prog_28_method_2_code 70 = .ok (.invokestatic 43, 3) := by decide +kernel
theorem dADD_73 : decode prog_28_method_2_code 73 = .ok (.putfield 13, 3) := by decide +kernel
theorem dADD_76 : decode prog_28_method_2_code 76 = .ok (.aload_n 1, 1) := by decide +kernel
theorem dADD_77 : decode prog_28_method_2_code 77 = .ok (.iconst 0, 1) := by decide +kernel
theorem dADD_78 : decode prog_28_method_2_code 78 = .ok (.aload_n 1, 1) := by decide +kernel
theorem dADD_79 : decode prog_28_method_2_code 79 = .ok (.invokevirtual 25, 3) := by decide +kernel
theorem dADD_82 : decode prog_28_method_2_code 82 = .ok (.aload_n 0, 1) := by decide +kernel
theorem dADD_83 : decode prog_28_method_2_code 83 = .ok (.getfield 7, 3) := by decide +kernel
theorem dADD_86 : decode prog_28_method_2_code 86 = .ok (.iload_n 2, 1) := by decide +kernel
theorem dADD_87 : decode prog_28_method_2_code 87 = .ok (.invokevirtual 46, 3) := by decide +kernel
theorem dADD_90 : decode prog_28_method_2_code 90 = .ok (.aload_n 0, 1) := by decide +kernel
theorem dADD_91 : decode prog_28_method_2_code 91 = .ok (.getfield 13, 3) := by decide +kernel
theorem dADD_94 : decode prog_28_method_2_code 94 = .ok (.aload_n 0, 1) := by decide +kernel
theorem dADD_95 : decode prog_28_method_2_code 95 = .ok (.getfield 17, 3) := by decide +kernel
theorem dADD_98 : decode prog_28_method_2_code 98 = .ok (.iload_n 3, 1) := by decide +kernel
theorem dADD_99 : decode prog_28_method_2_code 99 = .ok (.iastore, 1) := by decide +kernel
theorem dADD_100 : decode prog_28_method_2_code 100 = .ok (.aload_n 0, 1) := by decide +kernel
theorem dADD_101 : decode prog_28_method_2_code 101 = .ok (.dup, 1) := by decide +kernel
theorem dADD_102 : decode prog_28_method_2_code 102 = .ok (.getfield 17, 3) := by decide +kernel
theorem dADD_105 : decode prog_28_method_2_code 105 = .ok (.dup_x1, 1) := by decide +kernel
theorem dADD_106 : decode prog_28_method_2_code 106 = .ok (.iconst 1, 1) := by decide +kernel
theorem dADD_107 : decode prog_28_method_2_code 107 = .ok (.iadd, 1) := by decide +kernel
theorem dADD_108 : decode prog_28_method_2_code 108 = .ok (.putfield 17, 3) := by decide +kernel
theorem dADD_111 : decode prog_28_method_2_code 111 = .ok (.ireturn, 1) := by decide +kernel
theorem pnADD : plainFor (⟨"com/example/ratably/ratably/TextList", "add", "(Ljava/lang/String;)I"⟩ : MethodName) = true := plainFor_of_name (by first | (simp [plainName, overriddenIn]; done) | decide +kernel)
set_option maxRecDepth 65536 in
set_option maxHeartbeats 40000000 in
theorem con_ADD (hw : ∀ d ∈ tables_1, d.before a0 Z = true) {cz : Int32} (hc : Compact Z cz) (hu16 : U16 Z) {vf : Value} (hf : Fmt Z vf) {o c e s t : Addr} {cs es : List Int32} {k st M : Nat} {us : List UInt16} (L : TL Z h o c e cs es (Int32.ofNat k)) (S : StrAt Z h s t us) (hcs : cs.length = M) (hes : es.length = 16) (hk : k < 16) (hs : StA es k st) (hfit : st + us.length ≤ M) (ho : o ∈ mine) (hcm : c ∈ mine) (hem : e ∈ mine) :
    Con (⟨"com/example/ratably/ratably/TextList", "add", "(Ljava/lang/String;)I"⟩ : MethodName) prog_28_method_2_code 4 (some .int) { frames := 5, cells := 0, slots := 0, locals := 76 } Z LT [] #[.ref o, .ref s] h [o, c, e] mine (fun v h' nw => nw = [] ∧ v = some (.int (Int32.ofNat k)) ∧ TL Z h' o c e (ovr cs st us) (es.set k (Int32.ofNat (st + us.length))) (Int32.ofNat (k + 1))) := by
  obtain ⟨E, Fc, Fe, Fn, Ac, Ae, noc, noe, nce⟩ := L
  have n1 : Jvm.RoadKit.slotOf Z TLS "chars" "[C" ≠ Jvm.RoadKit.slotOf Z TLS "size" "I" := slot_ne (Or.inl (hw _ (List.mem_of_getElem? (i := 34) rfl))) (Or.inl (hw _ (List.mem_of_getElem? (i := 44) rfl))) (by decide) (t := .array .char) (t' := .int) (by decide) (by decide)
  have n2 : Jvm.RoadKit.slotOf Z TLS "ends" "[I" ≠ Jvm.RoadKit.slotOf Z TLS "size" "I" := slot_ne (Or.inl (hw _ (List.mem_of_getElem? (i := 37) rfl))) (Or.inl (hw _ (List.mem_of_getElem? (i := 44) rfl))) (by decide) (t := .array .int) (t' := .int) (by decide) (by decide)
  refine Con.of pnADD (Ls := [.val (.ref o), .val (.ref s), .unset, .unset]) (fun m => by first | (simp [entryFrame, mkF, argsToLocals, Value.category]; done) | (simp [entryFrame, mkF, argsToLocals, Value.category, maxLocals]; done) | rfl) ?_
  refine WP.aloadN (pc' := 1) dADD_0 rfl rfl rfl ?_
  refine WP.aloadN (pc' := 2) dADD_1 rfl rfl rfl ?_
  refine WP.getfield (pc' := 5) (host := "") dADD_2 (Or.inl (hw _ (List.mem_of_getElem? (i := 43) rfl))) Via.refl Fn rfl ?_
  refine WP.callP (pc' := 8) (con_TST hw Fe Ae hs (by omega)) E.cell (hw _ (List.mem_of_getElem? (i := 45) rfl)) (hw _ (List.mem_of_getElem? (i := 46) rfl)) (hw _ (List.mem_of_getElem? (i := 47) rfl)) (hw _ (List.mem_of_getElem? (i := 27) rfl)) (hw _ (List.mem_of_getElem? (i := 28) rfl)) (hw _ (List.mem_of_getElem? (i := 48) rfl)) dADD_5 (by decide) pdx0 rfl rfl rfl (by first | exact Nat.le_of_ble_eq_true rfl | omega | (simp; done) | (simp; omega) | (dsimp only; omega)) (by first | exact Nat.le_of_ble_eq_true rfl | omega | (simp; done) | (simp; omega) | (dsimp only; omega)) (by first | exact Nat.le_of_ble_eq_true rfl | omega | (simp; done) | (simp; omega) | (dsimp only; omega)) (by first | exact Nat.le_of_ble_eq_true rfl | omega | (simp; done) | (simp; omega) | (dsimp only; omega)) (fun _ hx => nomatch hx) rfl ?_
  rintro v h1 nw K hnw ⟨rfl, rfl, rfl⟩
  dsimp only [Option.toList, List.cons_append, List.nil_append]
  refine WP.istoreN (pc' := 9) dADD_8 rfl rfl rfl ?_
  dsimp only [List.set]
  refine WP.iloadN (pc' := 10) dADD_9 rfl rfl ?_
  refine WP.aloadN (pc' := 11) dADD_10 rfl rfl rfl ?_
  refine WP.callV (pc' := 14) (con_LEN hw hc S) S.1 (hw _ (List.mem_of_getElem? (i := 49) rfl)) (hw _ (List.mem_of_getElem? (i := 50) rfl)) (fun s hs => notFace_of_selects (args := #[]) (mv hs (hw _ (List.mem_of_getElem? (i := 52) rfl)))) (hw _ (List.mem_of_getElem? (i := 52) rfl)) (hw _ (List.mem_of_getElem? (i := 51) rfl)) (hw _ (List.mem_of_getElem? (i := 7) rfl)) (hw _ (List.mem_of_getElem? (i := 53) rfl)) dADD_11 (by decide) pdx14 rfl rfl rfl (by first | exact Nat.le_of_ble_eq_true rfl | omega | (simp; done) | (simp; omega) | (dsimp only; omega)) (by first | exact Nat.le_of_ble_eq_true rfl | omega | (simp; done) | (simp; omega) | (dsimp only; omega)) (by first | exact Nat.le_of_ble_eq_true rfl | omega | (simp; done) | (simp; omega) | (dsimp only; omega)) (by first | exact Nat.le_of_ble_eq_true rfl | omega | (simp; done) | (simp; omega) | (dsimp only; omega)) (fun _ hx => nomatch hx) rfl ?_
  rintro v h1 nw K hnw ⟨rfl, rfl, rfl⟩
  dsimp only [Option.toList, List.cons_append, List.nil_append]
  refine WP.iadd (pc' := 15) dADD_14 rfl ?_
  rw [n32_add]
  refine WP.istoreN (pc' := 16) dADD_15 rfl rfl rfl ?_
  dsimp only [List.set]
  refine WP.iloadN (pc' := 17) dADD_16 rfl rfl ?_
  refine WP.aloadN (pc' := 18) dADD_17 rfl rfl rfl ?_
  refine WP.getfield (pc' := 21) (host := "") dADD_18 (Or.inl (hw _ (List.mem_of_getElem? (i := 33) rfl))) Via.refl Fc rfl ?_
  refine WP.arraylength (pc' := 22) dADD_21 Ac (n := Int32.ofNat M) (by rw [hcs]) rfl ?_
  have hM := Ac.len
  rw [hcs] at hM
  refine WP.icmpT (pc' := 47) dADD_22 (by decide) (by decide) (fun q => by have := (n32_lt (i := M) (by omega) (by omega)).mp q; omega) ?_
  refine WP.aloadN (pc' := 48) dADD_47 rfl rfl rfl ?_
  refine WP.getfield (pc' := 51) (host := "") dADD_48 (Or.inl (hw _ (List.mem_of_getElem? (i := 43) rfl))) Via.refl Fn rfl ?_
  refine WP.aloadN (pc' := 52) dADD_51 rfl rfl rfl ?_
  refine WP.getfield (pc' := 55) (host := "") dADD_52 (Or.inl (hw _ (List.mem_of_getElem? (i := 36) rfl))) Via.refl Fe rfl ?_
  refine WP.arraylength (pc' := 56) dADD_55 Ae (n := Int32.ofNat 16) (by rw [hes]) rfl ?_
  refine WP.icmpT (pc' := 76) dADD_56 (by decide) (by decide) (fun q => by have := (n32_eq (n := 16) (by omega) (by omega)).mp q; omega) ?_
  refine WP.aloadN (pc' := 77) dADD_76 rfl rfl rfl ?_
  refine WP.iconst (pc' := 78) (x := 0) dADD_77 (by decide) rfl ?_
  refine WP.aloadN (pc' := 79) dADD_78 rfl rfl rfl ?_
  refine WP.callV (pc' := 82) (con_LEN hw hc S) S.1 (hw _ (List.mem_of_getElem? (i := 49) rfl)) (hw _ (List.mem_of_getElem? (i := 50) rfl)) (fun s hs => notFace_of_selects (args := #[]) (mv hs (hw _ (List.mem_of_getElem? (i := 52) rfl)))) (hw _ (List.mem_of_getElem? (i := 52) rfl)) (hw _ (List.mem_of_getElem? (i := 51) rfl)) (hw _ (List.mem_of_getElem? (i := 7) rfl)) (hw _ (List.mem_of_getElem? (i := 53) rfl)) dADD_79 (by decide) pdx14 rfl rfl rfl (by first | exact Nat.le_of_ble_eq_true rfl | omega | (simp; done) | (simp; omega) | (dsimp only; omega)) (by first | exact Nat.le_of_ble_eq_true rfl | omega | (simp; done) | (simp; omega) | (dsimp only; omega)) (by first | exact Nat.le_of_ble_eq_true rfl | omega | (simp; done) | (simp; omega) | (dsimp only; omega)) (by first | exact Nat.le_of_ble_eq_true rfl | omega | (simp; done) | (simp; omega) | (dsimp only; omega)) (fun _ hx => nomatch hx) rfl ?_
  rintro v h1 nw K hnw ⟨rfl, rfl, rfl⟩
  dsimp only [Option.toList, List.cons_append, List.nil_append]
  refine WP.aloadN (pc' := 83) dADD_82 rfl rfl rfl ?_
  refine WP.getfield (pc' := 86) (host := "") dADD_83 (Or.inl (hw _ (List.mem_of_getElem? (i := 33) rfl))) Via.refl Fc rfl ?_
  refine WP.iloadN (pc' := 87) dADD_86 rfl rfl ?_
  refine WP.callV (pc' := 90) (con_GCH hw hc hu16 hf (k := st) (by rw [hcs]; exact hfit) hcm S Ac) S.1 (hw _ (List.mem_of_getElem? (i := 60) rfl)) (hw _ (List.mem_of_getElem? (i := 61) rfl)) (fun s hs => notFace_of_selects (args := #[]) (mv hs (hw _ (List.mem_of_getElem? (i := 63) rfl)))) (hw _ (List.mem_of_getElem? (i := 63) rfl)) (hw _ (List.mem_of_getElem? (i := 62) rfl)) (hw _ (List.mem_of_getElem? (i := 7) rfl)) (hw _ (List.mem_of_getElem? (i := 64) rfl)) dADD_87 (by decide) pdx21 rfl rfl rfl (by first | exact Nat.le_of_ble_eq_true rfl | omega | (simp; done) | (simp; omega) | (dsimp only; omega)) (by first | exact Nat.le_of_ble_eq_true rfl | omega | (simp; done) | (simp; omega) | (dsimp only; omega)) (by first | exact Nat.le_of_ble_eq_true rfl | omega | (simp; done) | (simp; omega) | (dsimp only; omega)) (by first | exact Nat.le_of_ble_eq_true rfl | omega | (simp; done) | (simp; omega) | (dsimp only; omega)) (fun x hx => by cases List.mem_singleton.mp hx; exact Or.inl (List.mem_cons_of_mem _ (List.mem_cons_self ..))) rfl ?_
  rintro v h1 nw K1 hnw1 ⟨rfl, rfl, Ac1⟩
  dsimp only [Option.toList, List.cons_append, List.nil_append]
  have E1 := E.keep K1
  have Fc1 := Fc.keep K1 (fun q => noc (List.mem_singleton.mp q))
  have Fe1 := Fe.keep K1 (fun q => noc (List.mem_singleton.mp q))
  have Fn1 := Fn.keep K1 (fun q => noc (List.mem_singleton.mp q))
  have Ae1 := Ae.keep K1 (fun q => nce (List.mem_singleton.mp q).symm)
  refine WP.aloadN (pc' := 91) dADD_90 rfl rfl rfl ?_
  refine WP.getfield (pc' := 94) (host := "") dADD_91 (Or.inl (hw _ (List.mem_of_getElem? (i := 36) rfl))) Via.refl Fe1 rfl ?_
  refine WP.aloadN (pc' := 95) dADD_94 rfl rfl rfl ?_
  refine WP.getfield (pc' := 98) (host := "") dADD_95 (Or.inl (hw _ (List.mem_of_getElem? (i := 43) rfl))) Via.refl Fn1 rfl ?_
  refine WP.iloadN (pc' := 99) dADD_98 rfl rfl ?_
  refine WP.iastore (pc' := 100) dADD_99 Ae1 (n32_toInt (by omega)) (by rw [hes]; exact hk) hem (Or.inl (by simp)) rfl ?_
  intro h2 W2 Ae2
  refine WP.aloadN (pc' := 101) dADD_100 rfl rfl rfl ?_
  refine WP.dup (pc' := 102) dADD_101 rfl rfl ?_
  refine WP.getfield (pc' := 105) (host := "") dADD_102 (Or.inl (hw _ (List.mem_of_getElem? (i := 43) rfl))) Via.refl (Fn1.other W2 (Or.inl noe)) rfl ?_
  refine WP.dupX1 (pc' := 106) dADD_105 rfl rfl rfl ?_
  refine WP.iconst (pc' := 107) (x := 1) dADD_106 (by decide) rfl ?_
  refine WP.iadd (pc' := 108) dADD_107 rfl ?_
  rw [show Int32.ofNat k + 1 = Int32.ofNat (k + 1) from n32_succ k]
  refine WP.putfield (pc' := 111) (host := "") dADD_108 (Or.inl (hw _ (List.mem_of_getElem? (i := 43) rfl))) Via.refl (Fn1.other W2 (Or.inl noe)) (E1.wr W2) (Or.inl (hw _ (List.mem_of_getElem? (i := 44) rfl))) (hw _ (List.mem_of_getElem? (i := 27) rfl)) (ty := .int) (by decide) rfl rfl ho (Or.inl (by simp)) rfl ?_
  intro h3 W3 Fn3 E3
  exact WP.ireturn dADD_111 rfl (by simp) rfl ⟨rfl, rfl, E3, (Fc1.other W2 (Or.inl noe)).other W3 (Or.inr n1), (Fe1.other W2 (Or.inl noe)).other W3 (Or.inr n2), Fn3, (Ac1.other W2 nce).other W3 (Ne.symm noc), Ae2.other W3 (Ne.symm noe), noc, noe, nce⟩ (fun _ hx => nomatch hx) (fun _ hx => hx) (by first | exact Nat.le_of_ble_eq_true rfl | omega) (by first | exact Nat.le_of_ble_eq_true rfl | omega)
set_option maxRecDepth 65536 in
set_option maxHeartbeats 40000000 in
theorem con_ADDg (hw : ∀ d ∈ tables_1, d.before a0 Z = true) {cz : Int32} (hc : Compact Z cz) (hu16 : U16 Z) {vf : Value} (hf : Fmt Z vf) {o c e s t : Addr} {cs es : List Int32} {k st : Nat} {us : List UInt16} (L : TL Z h o c e cs es (Int32.ofNat k)) (S : StrAt Z h s t us) (hcs : cs.length = 256) (hfc : ∀ x ∈ cs, fits .char (.int x) = true) (hes : es.length = 16) (hk : k < 16) (hs : StA es k st) (hfit : st + us.length ≤ 512) (hbig : 256 < st + us.length) (ho : o ∈ mine) (hem : e ∈ mine) (hso : s ≠ o) (hto : t ≠ o) :
    Con (⟨"com/example/ratably/ratably/TextList", "add", "(Ljava/lang/String;)I"⟩ : MethodName) prog_28_method_2_code 4 (some .int) { frames := 5, cells := 1, slots := 512, locals := 76 } Z LT [] #[.ref o, .ref s] h [o, e] mine (fun v h' nw => ∃ c', nw = [c'] ∧ v = some (.int (Int32.ofNat k)) ∧ TL Z h' o c' e (ovr (cs ++ List.replicate 256 0) st us) (es.set k (Int32.ofNat (st + us.length))) (Int32.ofNat (k + 1))) := by
  obtain ⟨E, Fc, Fe, Fn, Ac, Ae, noc, noe, nce⟩ := L
  have n1 : Jvm.RoadKit.slotOf Z TLS "chars" "[C" ≠ Jvm.RoadKit.slotOf Z TLS "size" "I" := slot_ne (Or.inl (hw _ (List.mem_of_getElem? (i := 34) rfl))) (Or.inl (hw _ (List.mem_of_getElem? (i := 44) rfl))) (by decide) (t := .array .char) (t' := .int) (by decide) (by decide)
  have n2 : Jvm.RoadKit.slotOf Z TLS "ends" "[I" ≠ Jvm.RoadKit.slotOf Z TLS "size" "I" := slot_ne (Or.inl (hw _ (List.mem_of_getElem? (i := 37) rfl))) (Or.inl (hw _ (List.mem_of_getElem? (i := 44) rfl))) (by decide) (t := .array .int) (t' := .int) (by decide) (by decide)
  have n3 : Jvm.RoadKit.slotOf Z TLS "ends" "[I" ≠ Jvm.RoadKit.slotOf Z TLS "chars" "[C" := slot_ne (Or.inl (hw _ (List.mem_of_getElem? (i := 37) rfl))) (Or.inl (hw _ (List.mem_of_getElem? (i := 34) rfl))) (by decide) (t := .array .int) (t' := .array .char) (by decide) (by decide)
  have n4 : Jvm.RoadKit.slotOf Z TLS "size" "I" ≠ Jvm.RoadKit.slotOf Z TLS "chars" "[C" := slot_ne (Or.inl (hw _ (List.mem_of_getElem? (i := 44) rfl))) (Or.inl (hw _ (List.mem_of_getElem? (i := 34) rfl))) (by decide) (t := .int) (t' := .array .char) (by decide) (by decide)
  refine Con.of pnADD (Ls := [.val (.ref o), .val (.ref s), .unset, .unset]) (fun m => by first | (simp [entryFrame, mkF, argsToLocals, Value.category]; done) | (simp [entryFrame, mkF, argsToLocals, Value.category, maxLocals]; done) | rfl) ?_
  refine WP.know fun _ _ hmine => ?_
  have hos := (hmine o ho).2
  have hes' := (hmine e hem).2
  refine WP.aloadN (pc' := 1) dADD_0 rfl rfl rfl ?_
  refine WP.aloadN (pc' := 2) dADD_1 rfl rfl rfl ?_
  refine WP.getfield (pc' := 5) (host := "") dADD_2 (Or.inl (hw _ (List.mem_of_getElem? (i := 43) rfl))) Via.refl Fn rfl ?_
  refine WP.callP (pc' := 8) (con_TST hw Fe Ae hs (by omega)) E.cell (hw _ (List.mem_of_getElem? (i := 45) rfl)) (hw _ (List.mem_of_getElem? (i := 46) rfl)) (hw _ (List.mem_of_getElem? (i := 47) rfl)) (hw _ (List.mem_of_getElem? (i := 27) rfl)) (hw _ (List.mem_of_getElem? (i := 28) rfl)) (hw _ (List.mem_of_getElem? (i := 48) rfl)) dADD_5 (by decide) pdx0 rfl rfl rfl (by first | exact Nat.le_of_ble_eq_true rfl | omega | (simp; done) | (simp; omega) | (dsimp only; omega)) (by first | exact Nat.le_of_ble_eq_true rfl | omega | (simp; done) | (simp; omega) | (dsimp only; omega)) (by first | exact Nat.le_of_ble_eq_true rfl | omega | (simp; done) | (simp; omega) | (dsimp only; omega)) (by first | exact Nat.le_of_ble_eq_true rfl | omega | (simp; done) | (simp; omega) | (dsimp only; omega)) (fun _ hx => nomatch hx) rfl ?_
  rintro v h1 nw K hnw ⟨rfl, rfl, rfl⟩
  dsimp only [Option.toList, List.cons_append, List.nil_append]
  refine WP.istoreN (pc' := 9) dADD_8 rfl rfl rfl ?_
  dsimp only [List.set]
  refine WP.iloadN (pc' := 10) dADD_9 rfl rfl ?_
  refine WP.aloadN (pc' := 11) dADD_10 rfl rfl rfl ?_
  refine WP.callV (pc' := 14) (con_LEN hw hc S) S.1 (hw _ (List.mem_of_getElem? (i := 49) rfl)) (hw _ (List.mem_of_getElem? (i := 50) rfl)) (fun s hs => notFace_of_selects (args := #[]) (mv hs (hw _ (List.mem_of_getElem? (i := 52) rfl)))) (hw _ (List.mem_of_getElem? (i := 52) rfl)) (hw _ (List.mem_of_getElem? (i := 51) rfl)) (hw _ (List.mem_of_getElem? (i := 7) rfl)) (hw _ (List.mem_of_getElem? (i := 53) rfl)) dADD_11 (by decide) pdx14 rfl rfl rfl (by first | exact Nat.le_of_ble_eq_true rfl | omega | (simp; done) | (simp; omega) | (dsimp only; omega)) (by first | exact Nat.le_of_ble_eq_true rfl | omega | (simp; done) | (simp; omega) | (dsimp only; omega)) (by first | exact Nat.le_of_ble_eq_true rfl | omega | (simp; done) | (simp; omega) | (dsimp only; omega)) (by first | exact Nat.le_of_ble_eq_true rfl | omega | (simp; done) | (simp; omega) | (dsimp only; omega)) (fun _ hx => nomatch hx) rfl ?_
  rintro v h1 nw K hnw ⟨rfl, rfl, rfl⟩
  dsimp only [Option.toList, List.cons_append, List.nil_append]
  refine WP.iadd (pc' := 15) dADD_14 rfl ?_
  rw [n32_add]
  refine WP.istoreN (pc' := 16) dADD_15 rfl rfl rfl ?_
  dsimp only [List.set]
  refine WP.iloadN (pc' := 17) dADD_16 rfl rfl ?_
  refine WP.aloadN (pc' := 18) dADD_17 rfl rfl rfl ?_
  refine WP.getfield (pc' := 21) (host := "") dADD_18 (Or.inl (hw _ (List.mem_of_getElem? (i := 33) rfl))) Via.refl Fc rfl ?_
  refine WP.arraylength (pc' := 22) dADD_21 Ac (n := Int32.ofNat 256) (by rw [hcs]) rfl ?_
  refine WP.icmpF (pc' := 25) dADD_22 rfl ((n32_lt (i := 256) (by omega) (by omega)).mpr hbig) ?_
  refine WP.aloadN (pc' := 26) dADD_25 rfl rfl rfl ?_
  refine WP.aloadN (pc' := 27) dADD_26 rfl rfl rfl ?_
  refine WP.getfield (pc' := 30) (host := "") dADD_27 (Or.inl (hw _ (List.mem_of_getElem? (i := 33) rfl))) Via.refl Fc rfl ?_
  refine WP.iloadN (pc' := 31) dADD_30 rfl rfl ?_
  refine WP.aloadN (pc' := 32) dADD_31 rfl rfl rfl ?_
  refine WP.getfield (pc' := 35) (host := "") dADD_32 (Or.inl (hw _ (List.mem_of_getElem? (i := 33) rfl))) Via.refl Fc rfl ?_
  refine WP.arraylength (pc' := 36) dADD_35 Ac (n := Int32.ofNat 256) (by rw [hcs]) rfl ?_
  refine WP.iconst (pc' := 37) (x := 2) dADD_36 (by decide) rfl ?_
  refine WP.imul (pc' := 38) dADD_37 rfl ?_
  rw [show Int32.ofNat 256 * 2 = Int32.ofNat 512 by decide]
  refine WP.callS (pc' := 41) (con_MAX (i := st + us.length) (j := 512) (by omega) (by omega)) (hw _ (List.mem_of_getElem? (i := 161) rfl)) (hw _ (List.mem_of_getElem? (i := 162) rfl)) (hw _ (List.mem_of_getElem? (i := 163) rfl)) (hw _ (List.mem_of_getElem? (i := 164) rfl)) dADD_38 (by decide) pdx20 rfl rfl rfl (by first | exact Nat.le_of_ble_eq_true rfl | omega | (simp; done) | (simp; omega) | (dsimp only; omega)) (by first | exact Nat.le_of_ble_eq_true rfl | omega | (simp; done) | (simp; omega) | (dsimp only; omega)) (by first | exact Nat.le_of_ble_eq_true rfl | omega | (simp; done) | (simp; omega) | (dsimp only; omega)) (by first | exact Nat.le_of_ble_eq_true rfl | omega | (simp; done) | (simp; omega) | (dsimp only; omega)) (fun _ hx => nomatch hx) rfl ?_
  rintro v h1 nw K hnw ⟨rfl, rfl, rfl⟩
  dsimp only [Option.toList, List.cons_append, List.nil_append]
  rw [show max (st + us.length) 512 = 512 by omega]
  refine WP.callS (pc' := 44) (con_CPY hw (n := 512) (by rw [hcs]; omega) (by omega) Ac hfc) (hw _ (List.mem_of_getElem? (i := 165) rfl)) (hw _ (List.mem_of_getElem? (i := 166) rfl)) (hw _ (List.mem_of_getElem? (i := 167) rfl)) (hw _ (List.mem_of_getElem? (i := 168) rfl)) dADD_41 (by decide) pdx22 rfl rfl rfl (by first | exact Nat.le_of_ble_eq_true rfl | omega | (simp; done) | (simp; omega) | (dsimp only; omega)) (by first | exact Nat.le_of_ble_eq_true rfl | omega | (simp; done) | (simp; omega) | (dsimp only; omega)) (by first | exact Nat.le_of_ble_eq_true rfl | omega | (simp; done) | (simp; omega) | (dsimp only; omega)) (by first | exact Nat.le_of_ble_eq_true rfl | omega | (simp; done) | (simp; omega) | (dsimp only; omega)) (fun _ hx => nomatch hx) rfl ?_
  rintro v h1 nw K0 hnw0 ⟨c', rfl, rfl, A1⟩
  dsimp only [Option.toList, List.cons_append, List.nil_append]
  rw [hcs] at A1
  have hc' := hnw0 c' (by simp)
  have noc1 : o ≠ c' := fun q => absurd hos (Nat.not_lt.mpr (q ▸ hc'))
  have nce1 : c' ≠ e := fun q => absurd hes' (Nat.not_lt.mpr (q ▸ hc'))
  replace E := E.keep K0
  replace Fe := Fe.keep K0 nin0
  replace Fn := Fn.keep K0 nin0
  replace Ae := Ae.keep K0 nin0
  replace S := S.cells (fun c hc => K0.2.1 _ _ hc nin0) (fun c hc => K0.2.1 _ _ hc nin0)
  refine WP.putfield (pc' := 47) (host := "") dADD_44 (Or.inl (hw _ (List.mem_of_getElem? (i := 33) rfl))) Via.refl (Fc.keep K0 nin0) E (Or.inl (hw _ (List.mem_of_getElem? (i := 34) rfl))) (hw _ (List.mem_of_getElem? (i := 27) rfl)) (ty := (.array .char)) (by decide) rfl rfl (List.mem_cons_of_mem _ ho) (Or.inl (by simp)) rfl ?_
  intro h2 W2 Fc2 E2
  replace Fe := Fe.other W2 (Or.inr n3)
  replace Fn := Fn.other W2 (Or.inr n4)
  replace Ae := Ae.other W2 (Ne.symm noe)
  replace A1 := A1.other W2 (Ne.symm noc1)
  have nso : s ≠ o := hso
  have nto : t ≠ o := hto
  replace S := S.cells (fun c hc => by obtain ⟨c', g1, -, -, -, g5, -⟩ := wr_at W2 hc; rw [← g5 nso]; exact g1) (fun c hc => by obtain ⟨c', g1, -, -, -, g5, -⟩ := wr_at W2 hc; rw [← g5 nto]; exact g1)
  refine WP.aloadN (pc' := 48) dADD_47 rfl rfl rfl ?_
  refine WP.getfield (pc' := 51) (host := "") dADD_48 (Or.inl (hw _ (List.mem_of_getElem? (i := 43) rfl))) Via.refl Fn rfl ?_
  refine WP.aloadN (pc' := 52) dADD_51 rfl rfl rfl ?_
  refine WP.getfield (pc' := 55) (host := "") dADD_52 (Or.inl (hw _ (List.mem_of_getElem? (i := 36) rfl))) Via.refl Fe rfl ?_
  refine WP.arraylength (pc' := 56) dADD_55 Ae (n := Int32.ofNat 16) (by rw [hes]) rfl ?_
  refine WP.icmpT (pc' := 76) dADD_56 (by decide) (by decide) (fun q => by have := (n32_eq (n := 16) (by omega) (by omega)).mp q; omega) ?_
  refine WP.aloadN (pc' := 77) dADD_76 rfl rfl rfl ?_
  refine WP.iconst (pc' := 78) (x := 0) dADD_77 (by decide) rfl ?_
  refine WP.aloadN (pc' := 79) dADD_78 rfl rfl rfl ?_
  refine WP.callV (pc' := 82) (con_LEN hw hc S) S.1 (hw _ (List.mem_of_getElem? (i := 49) rfl)) (hw _ (List.mem_of_getElem? (i := 50) rfl)) (fun s hs => notFace_of_selects (args := #[]) (mv hs (hw _ (List.mem_of_getElem? (i := 52) rfl)))) (hw _ (List.mem_of_getElem? (i := 52) rfl)) (hw _ (List.mem_of_getElem? (i := 51) rfl)) (hw _ (List.mem_of_getElem? (i := 7) rfl)) (hw _ (List.mem_of_getElem? (i := 53) rfl)) dADD_79 (by decide) pdx14 rfl rfl rfl (by first | exact Nat.le_of_ble_eq_true rfl | omega | (simp; done) | (simp; omega) | (dsimp only; omega)) (by first | exact Nat.le_of_ble_eq_true rfl | omega | (simp; done) | (simp; omega) | (dsimp only; omega)) (by first | exact Nat.le_of_ble_eq_true rfl | omega | (simp; done) | (simp; omega) | (dsimp only; omega)) (by first | exact Nat.le_of_ble_eq_true rfl | omega | (simp; done) | (simp; omega) | (dsimp only; omega)) (fun _ hx => nomatch hx) rfl ?_
  rintro v h1 nw K hnw ⟨rfl, rfl, rfl⟩
  dsimp only [Option.toList, List.cons_append, List.nil_append]
  refine WP.aloadN (pc' := 83) dADD_82 rfl rfl rfl ?_
  refine WP.getfield (pc' := 86) (host := "") dADD_83 (Or.inl (hw _ (List.mem_of_getElem? (i := 33) rfl))) Via.refl Fc2 rfl ?_
  refine WP.iloadN (pc' := 87) dADD_86 rfl rfl ?_
  refine WP.callV (pc' := 90) (con_GCH hw hc hu16 hf (k := st) (by simp [hcs]; exact hfit) (List.mem_cons_self ..) S A1) S.1 (hw _ (List.mem_of_getElem? (i := 60) rfl)) (hw _ (List.mem_of_getElem? (i := 61) rfl)) (fun s hs => notFace_of_selects (args := #[]) (mv hs (hw _ (List.mem_of_getElem? (i := 63) rfl)))) (hw _ (List.mem_of_getElem? (i := 63) rfl)) (hw _ (List.mem_of_getElem? (i := 62) rfl)) (hw _ (List.mem_of_getElem? (i := 7) rfl)) (hw _ (List.mem_of_getElem? (i := 64) rfl)) dADD_87 (by decide) pdx21 rfl rfl rfl (by first | exact Nat.le_of_ble_eq_true rfl | omega | (simp; done) | (simp; omega) | (dsimp only; omega)) (by first | exact Nat.le_of_ble_eq_true rfl | omega | (simp; done) | (simp; omega) | (dsimp only; omega)) (by first | exact Nat.le_of_ble_eq_true rfl | omega | (simp; done) | (simp; omega) | (dsimp only; omega)) (by first | exact Nat.le_of_ble_eq_true rfl | omega | (simp; done) | (simp; omega) | (dsimp only; omega)) (fun x hx => by cases List.mem_singleton.mp hx; exact Or.inr hc') rfl ?_
  rintro v h1 nw K1 hnw1 ⟨rfl, rfl, Ac1⟩
  dsimp only [Option.toList, List.cons_append, List.nil_append]
  have E1 := E2.keep K1
  have Fc1 := Fc2.keep K1 (fun q => noc1 (List.mem_singleton.mp q))
  have Fe1 := Fe.keep K1 (fun q => noc1 (List.mem_singleton.mp q))
  have Fn1 := Fn.keep K1 (fun q => noc1 (List.mem_singleton.mp q))
  have Ae1 := Ae.keep K1 (fun q => nce1 (List.mem_singleton.mp q).symm)
  refine WP.aloadN (pc' := 91) dADD_90 rfl rfl rfl ?_
  refine WP.getfield (pc' := 94) (host := "") dADD_91 (Or.inl (hw _ (List.mem_of_getElem? (i := 36) rfl))) Via.refl Fe1 rfl ?_
  refine WP.aloadN (pc' := 95) dADD_94 rfl rfl rfl ?_
  refine WP.getfield (pc' := 98) (host := "") dADD_95 (Or.inl (hw _ (List.mem_of_getElem? (i := 43) rfl))) Via.refl Fn1 rfl ?_
  refine WP.iloadN (pc' := 99) dADD_98 rfl rfl ?_
  refine WP.iastore (pc' := 100) dADD_99 Ae1 (n32_toInt (by omega)) (by rw [hes]; exact hk) (List.mem_cons_of_mem _ hem) (Or.inl (by simp)) rfl ?_
  intro h3 W3 Ae2
  refine WP.aloadN (pc' := 101) dADD_100 rfl rfl rfl ?_
  refine WP.dup (pc' := 102) dADD_101 rfl rfl ?_
  refine WP.getfield (pc' := 105) (host := "") dADD_102 (Or.inl (hw _ (List.mem_of_getElem? (i := 43) rfl))) Via.refl (Fn1.other W3 (Or.inl noe)) rfl ?_
  refine WP.dupX1 (pc' := 106) dADD_105 rfl rfl rfl ?_
  refine WP.iconst (pc' := 107) (x := 1) dADD_106 (by decide) rfl ?_
  refine WP.iadd (pc' := 108) dADD_107 rfl ?_
  rw [show Int32.ofNat k + 1 = Int32.ofNat (k + 1) from n32_succ k]
  refine WP.putfield (pc' := 111) (host := "") dADD_108 (Or.inl (hw _ (List.mem_of_getElem? (i := 43) rfl))) Via.refl (Fn1.other W3 (Or.inl noe)) (E1.wr W3) (Or.inl (hw _ (List.mem_of_getElem? (i := 44) rfl))) (hw _ (List.mem_of_getElem? (i := 27) rfl)) (ty := .int) (by decide) rfl rfl (List.mem_cons_of_mem _ ho) (Or.inl (by simp)) rfl ?_
  intro h4 W4 Fn3 E3
  refine WP.ireturn (nw := [c']) dADD_111 rfl (by simp) rfl ⟨c', rfl, rfl, E3, (Fc1.other W3 (Or.inl noe)).other W4 (Or.inr n1), (Fe1.other W3 (Or.inl noe)).other W4 (Or.inr n2), Fn3, (Ac1.other W3 nce1).other W4 (Ne.symm noc1), Ae2.other W4 (Ne.symm noe), noc1, noe, nce1⟩ (fun x hx => ?_) (fun x hx => List.mem_cons_of_mem _ hx) (by first | exact Nat.le_of_ble_eq_true rfl | omega) (by first | exact Nat.le_of_ble_eq_true rfl | omega)
  cases List.mem_singleton.mp hx
  exact ⟨List.mem_cons_self .., hc'⟩
theorem dGET_0 : decode prog_28_method_4_code 0 = .ok (.new 26, 3) := by decide +kernel
theorem dGET_3 : decode prog_28_method_4_code 3 = .ok (.dup, 1) := by decide +kernel
theorem dGET_4 : decode prog_28_method_4_code 4 = .ok (.aload_n 0, 1) := by decide +kernel
theorem dGET_5 : decode prog_28_method_4_code 5 = .ok (.getfield 7, 3) := by decide +kernel
theorem dGET_8 : decode prog_28_method_4_code 8 = .ok (.aload_n 0, 1) := by decide +kernel
theorem dGET_9 : decode prog_28_method_4_code 9 = .ok (.iload_n 1, 1) := by decide +kernel
theorem dGET_10 : decode prog_28_method_4_code 10 = .ok (.invokevirtual 21, 3) := by decide +kernel
theorem dGET_13 : decode prog_28_method_4_code 13 = .ok (.aload_n 0, 1) := by decide +kernel
theorem dGET_14 : decode prog_28_method_4_code 14 = .ok (.iload_n 1, 1) := by decide +kernel
theorem dGET_15 : decode prog_28_method_4_code 15 = .ok (.invokevirtual 50, 3) := by decide +kernel
theorem dGET_18 : decode prog_28_method_4_code 18 = .ok (.invokespecial 52, 3) := by decide +kernel
theorem dGET_21 : decode prog_28_method_4_code 21 = .ok (.areturn, 1) := by decide +kernel
theorem pnGET : plainFor (⟨"com/example/ratably/ratably/TextList", "get", "(I)Ljava/lang/String;"⟩ : MethodName) = true := plainFor_of_name (by first | (simp [plainName, overriddenIn]; done) | decide +kernel)
set_option maxRecDepth 65536 in
set_option maxHeartbeats 40000000 in
theorem con_GET (hw : ∀ d ∈ tables_1, d.before a0 Z = true) {cz : Int32} (hc : Compact Z cz) (hu16 : U16 Z) {vf : Value} (hf : Fmt Z vf) {o c e : Addr} {cs es : List Int32} {n : Int32} {k st N : Nat} {us : List UInt16} (L : TL Z h o c e cs es n) (hk : k < 2 ^ 31) (hs : StA es k st) (he : es[k]? = some (Int32.ofNat (st + us.length))) (hsub : SubC cs st us) (hN : us.length ≤ N) (hN2 : N ≤ 33554432) :
    Con (⟨"com/example/ratably/ratably/TextList", "get", "(I)Ljava/lang/String;"⟩ : MethodName) prog_28_method_4_code 2 (some (.object "java/lang/String")) { frames := 6, cells := 5, slots := 3 * N + 12, locals := 90 } Z LT [] #[.ref o, .int (Int32.ofNat k)] h [] mine (fun v h' nw => nw = [] ∧ ∃ r, v = some (.ref r) ∧ FStr Z h' mine r us) := by
  obtain ⟨E, Fc, Fe, Fn, Ac, Ae, noc, noe, nce⟩ := L
  have hl := Ac.len
  have hsl := hsub.1
  refine Con.of pnGET (Ls := [.val (.ref o), .val (.int (Int32.ofNat k))]) (fun m => by first | (simp [entryFrame, mkF, argsToLocals, Value.category]; done) | (simp [entryFrame, mkF, argsToLocals, Value.category, maxLocals]; done) | rfl) ?_
  refine WP.new (pc' := 3) dGET_0 (hw _ (List.mem_of_getElem? (i := 97) rfl)) (hw _ (List.mem_of_getElem? (i := 6) rfl)) (hw _ (List.mem_of_getElem? (i := 7) rfl)) (by first | exact Nat.le_of_ble_eq_true rfl | omega | (simp; done) | (simp; omega) | (dsimp only; omega)) (by first | exact Nat.le_of_ble_eq_true rfl | omega | (simp; done) | (simp; omega) | (dsimp only; omega)) rfl ?_
  intro h1 a ea na ma E1 X D
  have V : Fld Z h1 a ST "value" "[B" .null := D (Or.inr (hw _ (List.mem_of_getElem? (i := 20) rfl))) (ty := .array .byte) (by decide)
  have C : Fld Z h1 a ST "coder" "B" (.int 0) := D (Or.inr (hw _ (List.mem_of_getElem? (i := 21) rfl))) (ty := .byte) (by decide)
  refine WP.dup (pc' := 4) dGET_3 rfl rfl ?_
  refine WP.aloadN (pc' := 5) dGET_4 rfl rfl rfl ?_
  refine WP.getfield (pc' := 8) (host := "") dGET_5 (Or.inl (hw _ (List.mem_of_getElem? (i := 33) rfl))) Via.refl (Fc.ext E1) rfl ?_
  refine WP.aloadN (pc' := 9) dGET_8 rfl rfl rfl ?_
  refine WP.iloadN (pc' := 10) dGET_9 rfl rfl ?_
  refine WP.callP (pc' := 13) (con_TST hw (Fe.ext E1) (Ae.ext E1) hs hk) (E.ext E1).cell (hw _ (List.mem_of_getElem? (i := 45) rfl)) (hw _ (List.mem_of_getElem? (i := 46) rfl)) (hw _ (List.mem_of_getElem? (i := 47) rfl)) (hw _ (List.mem_of_getElem? (i := 27) rfl)) (hw _ (List.mem_of_getElem? (i := 28) rfl)) (hw _ (List.mem_of_getElem? (i := 48) rfl)) dGET_10 (by decide) pdx0 rfl rfl rfl (by first | exact Nat.le_of_ble_eq_true rfl | omega | (simp; done) | (simp; omega) | (dsimp only; omega)) (by first | exact Nat.le_of_ble_eq_true rfl | omega | (simp; done) | (simp; omega) | (dsimp only; omega)) (by first | exact Nat.le_of_ble_eq_true rfl | omega | (simp; done) | (simp; omega) | (dsimp only; omega)) (by first | exact Nat.le_of_ble_eq_true rfl | omega | (simp; done) | (simp; omega) | (dsimp only; omega)) (fun _ hx => nomatch hx) rfl ?_
  rintro v h2 nw K hnw ⟨rfl, rfl, rfl⟩
  dsimp only [Option.toList, List.cons_append, List.nil_append]
  refine WP.aloadN (pc' := 14) dGET_13 rfl rfl rfl ?_
  refine WP.iloadN (pc' := 15) dGET_14 rfl rfl ?_
  refine WP.callP (pc' := 18) (con_TLN hw (E.ext E1) (Fe.ext E1) (Ae.ext E1) hs he (by omega) (by omega) hk) (E.ext E1).cell (hw _ (List.mem_of_getElem? (i := 98) rfl)) (hw _ (List.mem_of_getElem? (i := 99) rfl)) (hw _ (List.mem_of_getElem? (i := 100) rfl)) (hw _ (List.mem_of_getElem? (i := 27) rfl)) (hw _ (List.mem_of_getElem? (i := 28) rfl)) (hw _ (List.mem_of_getElem? (i := 101) rfl)) dGET_15 (by decide) pdx0 rfl rfl rfl (by first | exact Nat.le_of_ble_eq_true rfl | omega | (simp; done) | (simp; omega) | (dsimp only; omega)) (by first | exact Nat.le_of_ble_eq_true rfl | omega | (simp; done) | (simp; omega) | (dsimp only; omega)) (by first | exact Nat.le_of_ble_eq_true rfl | omega | (simp; done) | (simp; omega) | (dsimp only; omega)) (by first | exact Nat.le_of_ble_eq_true rfl | omega | (simp; done) | (simp; omega) | (dsimp only; omega)) (fun _ hx => nomatch hx) rfl ?_
  rintro v h2 nw K hnw ⟨rfl, rfl, rfl⟩
  dsimp only [Option.toList, List.cons_append, List.nil_append]
  rw [show st + us.length - st = us.length by omega]
  refine WP.callSp (pc' := 21) (con_SI3 hw hc hu16 hf hsub hN hN2 X V C (Ac.ext E1) (List.mem_cons_self ..)) rfl (hw _ (List.mem_of_getElem? (i := 102) rfl)) (hw _ (List.mem_of_getElem? (i := 103) rfl)) (hw _ (List.mem_of_getElem? (i := 7) rfl)) (hw _ (List.mem_of_getElem? (i := 104) rfl)) dGET_18 (by decide) pdx23 rfl rfl rfl (by first | exact Nat.le_of_ble_eq_true rfl | omega | (simp; done) | (simp; omega) | (dsimp only; omega)) (by first | exact Nat.le_of_ble_eq_true rfl | omega | (simp; done) | (simp; omega) | (dsimp only; omega)) (by first | exact Nat.le_of_ble_eq_true rfl | omega | (simp; done) | (simp; omega) | (dsimp only; omega)) (by first | exact Nat.le_of_ble_eq_true rfl | omega | (simp; done) | (simp; omega) | (dsimp only; omega)) (fun x hx => by cases List.mem_singleton.mp hx; exact Or.inr ma) rfl ?_
  rintro v h3 nw K3 hnw3 ⟨rfl, rfl, t, S, ht⟩
  dsimp only [Option.toList, List.cons_append, List.nil_append]
  exact WP.areturn dGET_21 rfl rfl rfl ⟨rfl, a, rfl, t, S, na, fun q => ht (List.mem_cons_of_mem _ q)⟩ (fun _ hx => nomatch hx) (fun x hx => List.mem_cons_of_mem _ hx) (by dsimp only; omega) (by dsimp only; omega)
theorem dSZ_0 : decode prog_28_method_3_code 0 = .ok (.aload_n 0, 1) := by decide +kernel
theorem dSZ_1 : decode prog_28_method_3_code 1 = .ok (.getfield 17, 3) := by decide +kernel
theorem dSZ_4 : decode prog_28_method_3_code 4 = .ok (.ireturn, 1) := by decide +kernel
theorem pnSZ : plainFor (⟨"com/example/ratably/ratably/TextList", "size", "()I"⟩ : MethodName) = true := plainFor_of_name (by first | (simp [plainName, overriddenIn]; done) | decide +kernel)
set_option maxRecDepth 65536 in
set_option maxHeartbeats 40000000 in
theorem con_SZ (hw : ∀ d ∈ tables_1, d.before a0 Z = true) {o c e : Addr} {cs es : List Int32} {n : Int32} (L : TL Z h o c e cs es n) : Con (⟨"com/example/ratably/ratably/TextList", "size", "()I"⟩ : MethodName) prog_28_method_3_code 1 (some .int) R0 Z LT [] #[.ref o] h [] mine (fun v h' nw => nw = [] ∧ v = some (.int n) ∧ h' = h) := by
  refine Con.of pnSZ (Ls := [.val (.ref o)]) (fun m => by first | (simp [entryFrame, mkF, argsToLocals, Value.category]; done) | (simp [entryFrame, mkF, argsToLocals, Value.category, maxLocals]; done) | rfl) ?_
  refine WP.aloadN (pc' := 1) dSZ_0 rfl rfl rfl ?_
  refine WP.getfield (pc' := 4) (host := "") dSZ_1 (Or.inl (hw _ (List.mem_of_getElem? (i := 43) rfl))) Via.refl L.2.2.2.1 rfl ?_
  exact WP.ireturn dSZ_4 rfl (by simp) rfl ⟨rfl, rfl, rfl⟩ (fun _ hx => nomatch hx) (fun _ hx => hx) (by first | exact Nat.le_of_ble_eq_true rfl | omega) (by first | exact Nat.le_of_ble_eq_true rfl | omega)
end TextL
end Jvm.Pilot.@@N@@

namespace Jvm.Pilot.@@N@@
open Jvm Jvm.ClassFile Sem Op Lib Jvm.Free Jvm.Stand Jvm.LawKit Jvm.RoadKit Bundle Jvm.Pilot.@@N@@.Jvm.D Jvm.OwnW
theorem pdx24 : parseMethodDescriptor "([C)V" = some ⟨[(.array .char)], none⟩ := by decide +kernel
theorem pdx25 : parseMethodDescriptor "(I)Ljava/lang/String;" = some ⟨[.int], some (.object "java/lang/String")⟩ := by decide +kernel
theorem pdx26 : parseMethodDescriptor "(Ljava/lang/Object;)Z" = some ⟨[(.object "java/lang/Object")], some .boolean⟩ := by decide +kernel
theorem pdx27 : parseMethodDescriptor "(IJ)Ljava/lang/String;" = some ⟨[.int, .long], some (.object "java/lang/String")⟩ := by decide +kernel
theorem pdx28 : parseMethodDescriptor "()V" = some ⟨[], none⟩ := by decide +kernel
theorem pdx29 : parseMethodDescriptor "(Ljava/lang/String;)I" = some ⟨[(.object "java/lang/String")], some .int⟩ := by decide +kernel
section LawBodies
variable {Z : State} {a0 : Array Value} {h : Heap} {mine : List Addr}
abbrev RD : Room := { frames := 6, cells := 6, slots := 24, locals := 88 }
theorem dMK_0 : decode method_2_code 0 = .ok (.iload_n 0, 1) := by decide +kernel
theorem dMK_1 : decode method_2_code 1 = .ok (.ifCond .ne 10, 3) := by decide +kernel
theorem dMK_4 : decode method_2_code 4 = .ok (.iconst 0, 1) := by decide +kernel
theorem dMK_5 : decode method_2_code 5 = .ok (.newarray .char, 2) := by decide +kernel
theorem dMK_7 : decode method_2_code 7 = .ok (.astore_n 3, 1) := by decide +kernel
theorem dMK_8 : decode method_2_code 8 = .ok (.goto 76, 3) := by decide +kernel
theorem dMK_11 : decode method_2_code 11 = .ok (.iload_n 0, 1) := by decide +kernel
theorem dMK_12 : decode method_2_code 12 = .ok (.iconst 1, 1) := by decide +kernel
theorem dMK_13 : decode method_2_code 13 = .ok (.if_icmp .ne 16, 3) := by decide +kernel
theorem dMK_16 : decode method_2_code 16 = .ok (.iconst 1, 1) := by decide +kernel
theorem dMK_17 : decode method_2_code 17 = .ok (.newarray .char, 2) := by decide +kernel
theorem dMK_19 : decode method_2_code 19 = .ok (.astore_n 3, 1) := by decide +kernel
theorem dMK_20 : decode method_2_code 20 = .ok (.aload_n 3, 1) := by decide +kernel
theorem dMK_21 : decode method_2_code 21 = .ok (.iconst 0, 1) := by decide +kernel
theorem dMK_22 : decode method_2_code 22 = .ok (.lload_n 1, 1) := by decide +kernel
theorem dMK_23 : decode method_2_code 23 = .ok (.l2i, 1) := by decide +kernel
theorem dMK_24 : decode method_2_code 24 = .ok (.i2c, 1) := by decide +kernel
theorem dMK_25 : decode method_2_code 25 = .ok (.castore, 1) := by decide +kernel
theorem dMK_26 : decode method_2_code 26 = .ok (.goto 58, 3) := by decide +kernel
theorem dMK_29 : decode method_2_code 29 = .ok (.iload_n 0, 1) := by decide +kernel
theorem dMK_30 : decode method_2_code 30 = .ok (.iconst 2, 1) := by decide +kernel
theorem dMK_31 : decode method_2_code 31 = .ok (.if_icmp .ne 25, 3) := by decide +kernel
theorem dMK_34 : decode method_2_code 34 = .ok (.iconst 2, 1) := by decide +kernel
theorem dMK_35 : decode method_2_code 35 = .ok (.newarray .char, 2) := by decide +kernel
theorem dMK_37 : decode method_2_code 37 = .ok (.astore_n 3, 1) := by decide +kernel
theorem dMK_38 : decode method_2_code 38 = .ok (.aload_n 3, 1) := by decide +kernel
theorem dMK_39 : decode method_2_code 39 = .ok (.iconst 0, 1) := by decide +kernel
theorem dMK_40 : decode method_2_code 40 = .ok (.lload_n 1, 1) := by decide +kernel
theorem dMK_41 : decode method_2_code 41 = .ok (.l2i, 1) := by decide +kernel
theorem dMK_42 : decode method_2_code 42 = .ok (.i2c, 1) := by decide +kernel
theorem dMK_43 : decode method_2_code 43 = .ok (.castore, 1) := by decide +kernel
theorem dMK_44 : decode method_2_code 44 = .ok (.aload_n 3, 1) := by decide +kernel
theorem dMK_45 : decode method_2_code 45 = .ok (.iconst 1, 1) := by decide +kernel
theorem dMK_46 : decode method_2_code 46 = .ok (.lload_n 1, 1) := by decide +kernel
theorem dMK_47 : decode method_2_code 47 = .ok (.bipush 16, 2) := by decide +kernel
theorem dMK_49 : decode method_2_code 49 = .ok (.lushr, 1) := by decide +kernel
theorem dMK_50 : decode method_2_code 50 = .ok (.l2i, 1) := by decide +kernel
theorem dMK_51 : decode method_2_code 51 = .ok (.i2c, 1) := by decide +kernel
theorem dMK_52 : decode method_2_code 52 = .ok (.castore, 1) := by decide +kernel
theorem dMK_53 : decode method_2_code 53 = .ok (.goto 31, 3) := by decide +kernel
theorem dMK_56 : decode method_2_code 56 = .ok (.iconst 3, 1) := by decide +kernel
theorem dMK_57 : decode method_2_code 57 = .ok (.newarray .char, 2) := by decide +kernel
theorem dMK_59 : decode method_2_code 59 = .ok (.astore_n 3, 1) := by decide +kernel
theorem dMK_60 : decode method_2_code 60 = .ok (.aload_n 3, 1) := by decide +kernel
theorem dMK_61 : decode method_2_code 61 = .ok (.iconst 0, 1) := by decide +kernel
theorem dMK_62 : decode method_2_code 62 = .ok (.lload_n 1, 1) := by decide +kernel
theorem dMK_63 : decode method_2_code 63 = .ok (.l2i, 1) := by decide +kernel
theorem dMK_64 : decode method_2_code 64 = .ok (.i2c, 1) := by decide +kernel
theorem dMK_65 : decode method_2_code 65 = .ok (.castore, 1) := by decide +kernel
theorem dMK_66 : decode method_2_code 66 = .ok (.aload_n 3, 1) := by decide +kernel
theorem dMK_67 : decode method_2_code 67 = .ok (.iconst 1, 1) := by decide +kernel
theorem dMK_68 : decode method_2_code 68 = .ok (.lload_n 1, 1) := by decide +kernel
theorem dMK_69 : decode method_2_code 69 = .ok (.bipush 16, 2) := by decide +kernel
theorem dMK_71 : decode method_2_code 71 = .ok (.lushr, 1) := by decide +kernel
theorem dMK_72 : decode method_2_code 72 = .ok (.l2i, 1) := by decide +kernel
theorem dMK_73 : decode method_2_code 73 = .ok (.i2c, 1) := by decide +kernel
theorem dMK_74 : decode method_2_code 74 = .ok (.castore, 1) := by decide +kernel
theorem dMK_75 : decode method_2_code 75 = .ok (.aload_n 3, 1) := by decide +kernel
theorem dMK_76 : decode method_2_code 76 = .ok (.iconst 2, 1) := by decide +kernel
theorem dMK_77 : decode method_2_code 77 = .ok (.lload_n 1, 1) := by decide +kernel
theorem dMK_78 : decode method_2_code 78 = .ok (.bipush 32, 2) := by decide +kernel
theorem dMK_80 : decode method_2_code 80 = .ok (.lushr, 1) := by decide +kernel
theorem dMK_81 : decode method_2_code 81 = .ok (.l2i, 1) := by decide +kernel
theorem dMK_82 : decode method_2_code 82 = .ok (.i2c, 1) := by decide +kernel
theorem dMK_83 : decode method_2_code 83 = .ok (.castore, 1) := by decide +kernel
theorem dMK_84 : decode method_2_code 84 = .ok (.new 7, 3) := by decide +kernel
theorem dMK_87 : decode method_2_code 87 = .ok (.dup, 1) := by decide +kernel
theorem dMK_88 : decode method_2_code 88 = .ok (.aload_n 3, 1) := by decide +kernel
theorem dMK_89 : decode method_2_code 89 = .ok (.invokespecial 9, 3) := by decide +kernel
theorem dMK_92 : decode method_2_code 92 = .ok (.areturn, 1) := by decide +kernel
theorem pnMK : plainFor (⟨"com/example/ratably/ratably/TextListGetPinLaw", "mk", "(IJ)Ljava/lang/String;"⟩ : MethodName) = true := plainFor_of_name (by first | (simp [plainName, overriddenIn]; done) | decide +kernel)
set_option maxRecDepth 65536 in
set_option maxHeartbeats 40000000 in
theorem tail_MK (hw : ∀ d ∈ tables_1, d.before a0 Z = true) {cz : Int32} (hc : Compact Z cz) (hu : U16 Z) {h1 : Heap} {l0 l1 l2 : Slot} {b : Addr} {us : List UInt16} (hlen : us.length ≤ 3) (A : ArI Z h1 b .char (us.map chv)) {mn : List Addr} (hmn : ∀ x ∈ mine, x ∈ mn) :
    WP "com/example/ratably/ratably/TextListGetPinLaw" method_2_code 4 (some (.object "java/lang/String")) "mk" RD Z LT h [] mine (fun v h' nw => nw = [] ∧ ∃ us r, us.length ≤ 3 ∧ v = some (.ref r) ∧ FStr Z h' mine r us) mn 1 3 h1 84 [l0, l1, l2, .val (.ref b)] [] := by
  refine WP.new (pc' := 87) dMK_84 (hw _ (List.mem_of_getElem? (i := 5) rfl)) (hw _ (List.mem_of_getElem? (i := 6) rfl)) (hw _ (List.mem_of_getElem? (i := 7) rfl)) (by first | exact Nat.le_of_ble_eq_true rfl | omega | (simp; done) | (simp; omega) | (dsimp only; omega)) (by first | exact Nat.le_of_ble_eq_true rfl | omega | (simp; done) | (simp; omega) | (dsimp only; omega)) rfl ?_
  intro h2 a ea na ma E2 X D
  have V : Fld Z h2 a ST "value" "[B" .null := D (Or.inr (hw _ (List.mem_of_getElem? (i := 20) rfl))) (ty := .array .byte) (by decide)
  have C : Fld Z h2 a ST "coder" "B" (.int 0) := D (Or.inr (hw _ (List.mem_of_getElem? (i := 21) rfl))) (ty := .byte) (by decide)
  refine WP.dup (pc' := 88) dMK_87 rfl rfl ?_
  refine WP.aloadN (pc' := 89) dMK_88 rfl rfl rfl ?_
  refine WP.callSp (pc' := 92) (con_SI1 hw hc hu (us := us) (N := 3) hlen (by decide) X V C (A.ext E2) (List.mem_cons_self ..)) rfl (hw _ (List.mem_of_getElem? (i := 8) rfl)) (hw _ (List.mem_of_getElem? (i := 9) rfl)) (hw _ (List.mem_of_getElem? (i := 7) rfl)) (hw _ (List.mem_of_getElem? (i := 10) rfl)) dMK_89 (by decide) pdx24 rfl rfl rfl (by first | exact Nat.le_of_ble_eq_true rfl | omega | (simp; done) | (simp; omega) | (dsimp only; omega)) (by first | exact Nat.le_of_ble_eq_true rfl | omega | (simp; done) | (simp; omega) | (dsimp only; omega)) (by first | exact Nat.le_of_ble_eq_true rfl | omega | (simp; done) | (simp; omega) | (dsimp only; omega)) (by first | exact Nat.le_of_ble_eq_true rfl | omega | (simp; done) | (simp; omega) | (dsimp only; omega)) (fun x hx => by cases List.mem_singleton.mp hx; exact Or.inr ma) rfl ?_
  rintro v h3 nw K3 hnw ⟨rfl, rfl, t, S, ht⟩
  dsimp only [Option.toList, List.cons_append, List.nil_append]
  exact WP.areturn dMK_92 rfl rfl rfl ⟨rfl, us, a, hlen, rfl, t, S, fun q => na (hmn _ q), fun q => ht (List.mem_cons_of_mem _ (hmn _ q))⟩ (fun _ hx => nomatch hx) (fun x hx => List.mem_cons_of_mem _ (hmn x hx)) (Nat.le_of_ble_eq_true rfl) (Nat.le_of_ble_eq_true rfl)
set_option maxRecDepth 65536 in
set_option maxHeartbeats 40000000 in
theorem con_MK (hw : ∀ d ∈ tables_1, d.before a0 Z = true) {cz : Int32} (hc : Compact Z cz) (hu : U16 Z) {n : Int32} {w : Int64} : Con (⟨"com/example/ratably/ratably/TextListGetPinLaw", "mk", "(IJ)Ljava/lang/String;"⟩ : MethodName) method_2_code 4 (some (.object "java/lang/String")) RD Z LT [] #[.int n, .long w] h [] mine (fun v h' nw => nw = [] ∧ ∃ us r, us.length ≤ 3 ∧ v = some (.ref r) ∧ FStr Z h' mine r us) := by
  refine Con.of pnMK (Ls := [.val (.int n), .val (.long w), .second, .unset]) (fun m => by first | (simp [entryFrame, mkF, argsToLocals, Value.category]; done) | (simp [entryFrame, mkF, argsToLocals, Value.category, maxLocals]; done) | rfl) ?_
  have hmn : ∀ (q : Addr), ∀ x ∈ mine, x ∈ q :: mine := fun q x hx => List.mem_cons_of_mem _ hx
  refine WP.iloadN (pc' := 1) dMK_0 rfl rfl ?_
  by_cases h0 : n = 0
  · refine WP.ifF (pc' := 4) dMK_1 rfl h0 ?_
    refine WP.iconst (pc' := 5) (x := 0) dMK_4 (by decide) rfl ?_
    refine WP.newarray (pc' := 7) (N := 0) dMK_5 (hw _ (List.mem_of_getElem? (i := 0) rfl)) rfl (by decide) (by first | exact Nat.le_of_ble_eq_true rfl | omega | (simp; done) | (simp; omega) | (dsimp only; omega)) (by first | exact Nat.le_of_ble_eq_true rfl | omega | (simp; done) | (simp; omega) | (dsimp only; omega)) (by first | exact Nat.le_of_ble_eq_true rfl | omega | (simp; done) | (simp; omega) | (dsimp only; omega)) rfl ?_
    intro h1 q eq nq mq E1 A
    refine WP.astoreN (pc' := 8) dMK_7 rfl rfl rfl rfl rfl ?_
    dsimp only [List.set]
    refine WP.goto (pc' := 84) dMK_8 (by decide) (by decide) ?_
    refine WP.more (ce' := 1) (sl' := 3) ?_ (Nat.le_of_ble_eq_true rfl) (Nat.le_of_ble_eq_true rfl)
    exact tail_MK hw hc hu (us := []) (by simp) A (hmn q)
  · refine WP.ifT (pc' := 11) dMK_1 (by decide) (by decide) h0 ?_
    refine WP.iloadN (pc' := 12) dMK_11 rfl rfl ?_
    refine WP.iconst (pc' := 13) (x := 1) dMK_12 (by decide) rfl ?_
    by_cases h1 : n = 1
    · refine WP.icmpF (pc' := 16) dMK_13 rfl h1 ?_
      refine WP.iconst (pc' := 17) (x := 1) dMK_16 (by decide) rfl ?_
      refine WP.newarray (pc' := 19) (N := 1) dMK_17 (hw _ (List.mem_of_getElem? (i := 0) rfl)) rfl (by decide) (by first | exact Nat.le_of_ble_eq_true rfl | omega | (simp; done) | (simp; omega) | (dsimp only; omega)) (by first | exact Nat.le_of_ble_eq_true rfl | omega | (simp; done) | (simp; omega) | (dsimp only; omega)) (by first | exact Nat.le_of_ble_eq_true rfl | omega | (simp; done) | (simp; omega) | (dsimp only; omega)) rfl ?_
      intro h1 q eq nq mq E1 A
      refine WP.astoreN (pc' := 20) dMK_19 rfl rfl rfl rfl rfl ?_
      dsimp only [List.set]
      refine WP.aloadN (pc' := 21) dMK_20 rfl rfl rfl ?_
      refine WP.iconst (pc' := 22) (x := 0) dMK_21 (by decide) rfl ?_
      refine WP.lloadN (pc' := 23) dMK_22 rfl rfl ?_
      refine WP.l2i (pc' := 24) dMK_23 rfl ?_
      refine WP.i2c (pc' := 25) dMK_24 rfl ?_
      refine WP.castoreU (pc' := 26) (i := 0) dMK_25 A (by decide) (by simp) (List.mem_cons_self ..) (Or.inr mq) rfl ?_
      intro h2 u W A
      refine WP.goto (pc' := 84) dMK_26 (by decide) (by decide) ?_
      refine WP.more (ce' := 1) (sl' := 3) ?_ (Nat.le_of_ble_eq_true rfl) (Nat.le_of_ble_eq_true rfl)
      exact tail_MK hw hc hu (us := [u]) (by simp) A (hmn q)
    · refine WP.icmpT (pc' := 29) dMK_13 (by decide) (by decide) h1 ?_
      refine WP.iloadN (pc' := 30) dMK_29 rfl rfl ?_
      refine WP.iconst (pc' := 31) (x := 2) dMK_30 (by decide) rfl ?_
      by_cases h2 : n = 2
      · refine WP.icmpF (pc' := 34) dMK_31 rfl h2 ?_
        refine WP.iconst (pc' := 35) (x := 2) dMK_34 (by decide) rfl ?_
        refine WP.newarray (pc' := 37) (N := 2) dMK_35 (hw _ (List.mem_of_getElem? (i := 0) rfl)) rfl (by decide) (by first | exact Nat.le_of_ble_eq_true rfl | omega | (simp; done) | (simp; omega) | (dsimp only; omega)) (by first | exact Nat.le_of_ble_eq_true rfl | omega | (simp; done) | (simp; omega) | (dsimp only; omega)) (by first | exact Nat.le_of_ble_eq_true rfl | omega | (simp; done) | (simp; omega) | (dsimp only; omega)) rfl ?_
        intro h1 q eq nq mq E1 A
        refine WP.astoreN (pc' := 38) dMK_37 rfl rfl rfl rfl rfl ?_
        dsimp only [List.set]
        refine WP.aloadN (pc' := 39) dMK_38 rfl rfl rfl ?_
        refine WP.iconst (pc' := 40) (x := 0) dMK_39 (by decide) rfl ?_
        refine WP.lloadN (pc' := 41) dMK_40 rfl rfl ?_
        refine WP.l2i (pc' := 42) dMK_41 rfl ?_
        refine WP.i2c (pc' := 43) dMK_42 rfl ?_
        refine WP.castoreU (pc' := 44) (i := 0) dMK_43 A (by decide) (by simp) (List.mem_cons_self ..) (Or.inr mq) rfl ?_
        intro h2 u W A
        refine WP.aloadN (pc' := 45) dMK_44 rfl rfl rfl ?_
        refine WP.iconst (pc' := 46) (x := 1) dMK_45 (by decide) rfl ?_
        refine WP.lloadN (pc' := 47) dMK_46 rfl rfl ?_
        refine WP.bipush (pc' := 49) (x := 16) dMK_47 (by decide) rfl ?_
        refine WP.lushr (pc' := 50) dMK_49 rfl ?_
        refine WP.l2i (pc' := 51) dMK_50 rfl ?_
        refine WP.i2c (pc' := 52) dMK_51 rfl ?_
        refine WP.castoreU (pc' := 53) (i := 1) dMK_52 A (by decide) (by simp) (List.mem_cons_self ..) (Or.inr mq) rfl ?_
        intro h3 u2 W2 A
        refine WP.goto (pc' := 84) dMK_53 (by decide) (by decide) ?_
        refine WP.more (ce' := 1) (sl' := 3) ?_ (Nat.le_of_ble_eq_true rfl) (Nat.le_of_ble_eq_true rfl)
        exact tail_MK hw hc hu (us := [u, u2]) (by simp) A (hmn q)
      · refine WP.icmpT (pc' := 56) dMK_31 (by decide) (by decide) h2 ?_
        refine WP.iconst (pc' := 57) (x := 3) dMK_56 (by decide) rfl ?_
        refine WP.newarray (pc' := 59) (N := 3) dMK_57 (hw _ (List.mem_of_getElem? (i := 0) rfl)) rfl (by decide) (by first | exact Nat.le_of_ble_eq_true rfl | omega | (simp; done) | (simp; omega) | (dsimp only; omega)) (by first | exact Nat.le_of_ble_eq_true rfl | omega | (simp; done) | (simp; omega) | (dsimp only; omega)) (by first | exact Nat.le_of_ble_eq_true rfl | omega | (simp; done) | (simp; omega) | (dsimp only; omega)) rfl ?_
        intro h1 q eq nq mq E1 A
        refine WP.astoreN (pc' := 60) dMK_59 rfl rfl rfl rfl rfl ?_
        dsimp only [List.set]
        refine WP.aloadN (pc' := 61) dMK_60 rfl rfl rfl ?_
        refine WP.iconst (pc' := 62) (x := 0) dMK_61 (by decide) rfl ?_
        refine WP.lloadN (pc' := 63) dMK_62 rfl rfl ?_
        refine WP.l2i (pc' := 64) dMK_63 rfl ?_
        refine WP.i2c (pc' := 65) dMK_64 rfl ?_
        refine WP.castoreU (pc' := 66) (i := 0) dMK_65 A (by decide) (by simp) (List.mem_cons_self ..) (Or.inr mq) rfl ?_
        intro h2 u W A
        refine WP.aloadN (pc' := 67) dMK_66 rfl rfl rfl ?_
        refine WP.iconst (pc' := 68) (x := 1) dMK_67 (by decide) rfl ?_
        refine WP.lloadN (pc' := 69) dMK_68 rfl rfl ?_
        refine WP.bipush (pc' := 71) (x := 16) dMK_69 (by decide) rfl ?_
        refine WP.lushr (pc' := 72) dMK_71 rfl ?_
        refine WP.l2i (pc' := 73) dMK_72 rfl ?_
        refine WP.i2c (pc' := 74) dMK_73 rfl ?_
        refine WP.castoreU (pc' := 75) (i := 1) dMK_74 A (by decide) (by simp) (List.mem_cons_self ..) (Or.inr mq) rfl ?_
        intro h3 u2 W2 A
        refine WP.aloadN (pc' := 76) dMK_75 rfl rfl rfl ?_
        refine WP.iconst (pc' := 77) (x := 2) dMK_76 (by decide) rfl ?_
        refine WP.lloadN (pc' := 78) dMK_77 rfl rfl ?_
        refine WP.bipush (pc' := 80) (x := 32) dMK_78 (by decide) rfl ?_
        refine WP.lushr (pc' := 81) dMK_80 rfl ?_
        refine WP.l2i (pc' := 82) dMK_81 rfl ?_
        refine WP.i2c (pc' := 83) dMK_82 rfl ?_
        refine WP.castoreU (pc' := 84) (i := 2) dMK_83 A (by decide) (by simp) (List.mem_cons_self ..) (Or.inr mq) rfl ?_
        intro h4 u3 W3 A
        exact tail_MK hw hc hu (us := [u, u2, u3]) (by simp) A (hmn q)
theorem laid {pad : List Int32} {u0 u1 u2 : List UInt16} (l0 : u0.length ≤ 3) (lt : u0.length + u1.length + u2.length ≤ 256 + pad.length) :
    SubC (ovr (ovr (ovr (List.replicate 256 0) 0 u0 ++ pad) u0.length u1) (u0.length + u1.length) u2) 0 u0 ∧
    SubC (ovr (ovr (ovr (List.replicate 256 0) 0 u0 ++ pad) u0.length u1) (u0.length + u1.length) u2) u0.length u1 ∧
    SubC (ovr (ovr (ovr (List.replicate 256 0) 0 u0 ++ pad) u0.length u1) (u0.length + u1.length) u2) (u0.length + u1.length) u2 := by
  have c0 : (ovr (List.replicate 256 0) 0 u0).length = 256 := by rw [ovr_len (by rw [List.length_replicate]; omega), List.length_replicate]
  have cp : (ovr (List.replicate 256 0) 0 u0 ++ pad).length = 256 + pad.length := by rw [List.length_append, c0]
  have c1 : (ovr (ovr (List.replicate 256 0) 0 u0 ++ pad) u0.length u1).length = 256 + pad.length := by rw [ovr_len (by rw [cp]; omega), cp]
  have c2 : (ovr (ovr (ovr (List.replicate 256 0) 0 u0 ++ pad) u0.length u1) (u0.length + u1.length) u2).length = 256 + pad.length := by rw [ovr_len (by rw [c1]; omega), c1]
  refine ⟨⟨by rw [c2]; omega, fun i v hv => ?_⟩, ⟨by rw [c2]; omega, fun i v hv => ?_⟩, ⟨by rw [c2]; omega, fun i v hv => ?_⟩⟩
  · have hi := (List.getElem?_eq_some_iff.mp hv).1
    rw [ovr_get (by rw [c1]; omega), if_pos (by omega), ovr_get (by rw [cp]; omega), if_pos (by omega), List.getElem?_append_left (by rw [c0]; omega), ovr_get (by rw [List.length_replicate]; omega), if_neg (by omega), if_pos (by omega)]
    simp [hv]
  · have hi := (List.getElem?_eq_some_iff.mp hv).1
    rw [ovr_get (by rw [c1]; omega), if_pos (by omega), ovr_get (by rw [cp]; omega), if_neg (by omega), if_pos (by omega), show u0.length + i - u0.length = i by omega]
    simp [hv]
  · have hi := (List.getElem?_eq_some_iff.mp hv).1
    rw [ovr_get (by rw [c1]; omega), if_neg (by omega), if_pos (by omega), show u0.length + u1.length + i - (u0.length + u1.length) = i by omega]
    simp [hv]
theorem TL.ext {h' : Heap} {o c e : Addr} {cs es : List Int32} {n : Int32} (L : TL Z h o c e cs es n) (E : Ext h h') : TL Z h' o c e cs es n := ⟨L.1.ext E, L.2.1.ext E, L.2.2.1.ext E, L.2.2.2.1.ext E, L.2.2.2.2.1.ext E, L.2.2.2.2.2.1.ext E, L.2.2.2.2.2.2⟩
theorem pnLAW : plainFor (⟨"com/example/ratably/ratably/TextListGetPinLaw", "law", "(IJJJ)Z"⟩ : MethodName) = true := plainFor_of_name (by first | (simp [plainName, overriddenIn]; done) | decide +kernel)
set_option maxRecDepth 65536 in
set_option maxHeartbeats 40000000 in
theorem rest_LAW (hw : ∀ d ∈ tables_1, d.before a0 Z = true) {cz : Int32} (hc : Compact Z cz) (hu16 : U16 Z) {vf : Value} (hf : Fmt Z vf) {h1 : Heap} {o c e t0 t1 t2 : Addr} {cs es : List Int32} {u0 u1 u2 : List UInt16} {mn : List Addr} (hmn : ∀ x ∈ mine, x ∈ mn) (L : TL Z h1 o c e cs es (Int32.ofNat 3)) (S0 : FStr Z h1 mn t0 u0) (S1 : FStr Z h1 mn t1 u1) (S2 : FStr Z h1 mn t2 u2) (n0 : u0.length ≤ 3) (n1 : u1.length ≤ 300) (n2 : u2.length ≤ 3)
    (g0 : SubC cs 0 u0) (g1 : SubC cs u0.length u1) (g2 : SubC cs (u0.length + u1.length) u2) (e0 : es[0]? = some (Int32.ofNat u0.length)) (e1 : es[1]? = some (Int32.ofNat (u0.length + u1.length))) (e2 : es[2]? = some (Int32.ofNat (u0.length + u1.length + u2.length)))
    {l0 l1 l2 l3 l4 l5 l6 l7 l8 l9 l10 l11 : Slot} :
    WP "com/example/ratably/ratably/TextListGetPinLaw" code 22 ret "law" room_1 Z LT h [] mine (fun v h' nw => v = some (.int 1)) mn 23 2047 h1 151 [l0, l1, l2, l3, l4, l5, l6, l7, l8, l9, l10, l11, .val (.ref t0), .val (.ref t1), .val (.ref t2), .val (.ref o), .val (.int (Int32.ofNat 0)), .val (.int (Int32.ofNat 1)), .val (.int (Int32.ofNat 2)), .unset, .unset, .unset] [] := by
  refine WP.aload (pc' := 153) at_151 rfl rfl rfl ?_
  refine WP.iconst (pc' := 154) (x := 0) at_153 (by decide) rfl ?_
  refine WP.callV (pc' := 157) (con_GET hw hc hu16 hf (k := 0) (st := 0) (N := 3) L (by omega) (Or.inl ⟨rfl, rfl⟩) (by rw [e0, Nat.zero_add]) g0 n0 (by omega)) L.1 (hw _ (List.mem_of_getElem? (i := 92) rfl)) (hw _ (List.mem_of_getElem? (i := 93) rfl)) (fun s hs => notFace_of_selects (args := #[]) (mv hs (hw _ (List.mem_of_getElem? (i := 95) rfl)))) (hw _ (List.mem_of_getElem? (i := 95) rfl)) (hw _ (List.mem_of_getElem? (i := 94) rfl)) (hw _ (List.mem_of_getElem? (i := 28) rfl)) (hw _ (List.mem_of_getElem? (i := 96) rfl)) at_154 (by decide) pdx25 rfl rfl rfl (by first | exact Nat.le_of_ble_eq_true rfl | omega | (simp; done) | (simp; omega) | (dsimp only; omega)) (by first | exact Nat.le_of_ble_eq_true rfl | omega | (simp; done) | (simp; omega) | (dsimp only; omega)) (by first | exact Nat.le_of_ble_eq_true rfl | omega | (simp; done) | (simp; omega) | (dsimp only; omega)) (by first | exact Nat.le_of_ble_eq_true rfl | omega | (simp; done) | (simp; omega) | (dsimp only; omega)) (fun _ hx => nomatch hx) rfl ?_
  rintro v h2 nw K hnw ⟨rfl, r0, rfl, G0⟩
  dsimp only [Option.toList, List.cons_append, List.nil_append]
  replace L := L.ext (keep_ext K)
  replace S0 := S0.ext (keep_ext K)
  replace S1 := S1.ext (keep_ext K)
  replace S2 := S2.ext (keep_ext K)
  refine WP.astore (pc' := 159) at_157 rfl rfl rfl rfl rfl ?_
  dsimp only [List.set]
  refine WP.aload (pc' := 161) at_159 rfl rfl rfl ?_
  refine WP.iconst (pc' := 162) (x := 1) at_161 (by decide) rfl ?_
  refine WP.callV (pc' := 165) (con_GET hw hc hu16 hf (k := 1) (st := u0.length) (N := 300) L (by omega) (Or.inr ⟨by omega, e0⟩) e1 g1 n1 (by omega)) L.1 (hw _ (List.mem_of_getElem? (i := 92) rfl)) (hw _ (List.mem_of_getElem? (i := 93) rfl)) (fun s hs => notFace_of_selects (args := #[]) (mv hs (hw _ (List.mem_of_getElem? (i := 95) rfl)))) (hw _ (List.mem_of_getElem? (i := 95) rfl)) (hw _ (List.mem_of_getElem? (i := 94) rfl)) (hw _ (List.mem_of_getElem? (i := 28) rfl)) (hw _ (List.mem_of_getElem? (i := 96) rfl)) at_162 (by decide) pdx25 rfl rfl rfl (by first | exact Nat.le_of_ble_eq_true rfl | omega | (simp; done) | (simp; omega) | (dsimp only; omega)) (by first | exact Nat.le_of_ble_eq_true rfl | omega | (simp; done) | (simp; omega) | (dsimp only; omega)) (by first | exact Nat.le_of_ble_eq_true rfl | omega | (simp; done) | (simp; omega) | (dsimp only; omega)) (by first | exact Nat.le_of_ble_eq_true rfl | omega | (simp; done) | (simp; omega) | (dsimp only; omega)) (fun _ hx => nomatch hx) rfl ?_
  rintro v h3 nw K hnw ⟨rfl, r1, rfl, G1⟩
  dsimp only [Option.toList, List.cons_append, List.nil_append]
  replace L := L.ext (keep_ext K)
  replace S0 := S0.ext (keep_ext K)
  replace S1 := S1.ext (keep_ext K)
  replace S2 := S2.ext (keep_ext K)
  replace G0 := G0.ext (keep_ext K)
  refine WP.astore (pc' := 167) at_165 rfl rfl rfl rfl rfl ?_
  dsimp only [List.set]
  refine WP.aload (pc' := 169) at_167 rfl rfl rfl ?_
  refine WP.iconst (pc' := 170) (x := 2) at_169 (by decide) rfl ?_
  refine WP.callV (pc' := 173) (con_GET hw hc hu16 hf (k := 2) (st := u0.length + u1.length) (N := 3) L (by omega) (Or.inr ⟨by omega, e1⟩) e2 g2 n2 (by omega)) L.1 (hw _ (List.mem_of_getElem? (i := 92) rfl)) (hw _ (List.mem_of_getElem? (i := 93) rfl)) (fun s hs => notFace_of_selects (args := #[]) (mv hs (hw _ (List.mem_of_getElem? (i := 95) rfl)))) (hw _ (List.mem_of_getElem? (i := 95) rfl)) (hw _ (List.mem_of_getElem? (i := 94) rfl)) (hw _ (List.mem_of_getElem? (i := 28) rfl)) (hw _ (List.mem_of_getElem? (i := 96) rfl)) at_170 (by decide) pdx25 rfl rfl rfl (by first | exact Nat.le_of_ble_eq_true rfl | omega | (simp; done) | (simp; omega) | (dsimp only; omega)) (by first | exact Nat.le_of_ble_eq_true rfl | omega | (simp; done) | (simp; omega) | (dsimp only; omega)) (by first | exact Nat.le_of_ble_eq_true rfl | omega | (simp; done) | (simp; omega) | (dsimp only; omega)) (by first | exact Nat.le_of_ble_eq_true rfl | omega | (simp; done) | (simp; omega) | (dsimp only; omega)) (fun _ hx => nomatch hx) rfl ?_
  rintro v h4 nw K hnw ⟨rfl, r2, rfl, G2⟩
  dsimp only [Option.toList, List.cons_append, List.nil_append]
  replace L := L.ext (keep_ext K)
  obtain ⟨z0, S0, -, -⟩ := S0.ext (keep_ext K)
  obtain ⟨z1, S1, -, -⟩ := S1.ext (keep_ext K)
  obtain ⟨z2, S2, -, -⟩ := S2.ext (keep_ext K)
  obtain ⟨y0, G0, -, -⟩ := G0.ext (keep_ext K)
  obtain ⟨y1, G1, -, -⟩ := G1.ext (keep_ext K)
  obtain ⟨y2, G2, -, -⟩ := G2
  refine WP.astore (pc' := 175) at_173 rfl rfl rfl rfl rfl ?_
  dsimp only [List.set]
  refine WP.iload (pc' := 177) at_175 rfl rfl ?_
  refine WP.ifF (pc' := 180) at_177 rfl (show Int32.ofNat 0 = 0 by decide) ?_
  refine WP.iload (pc' := 182) at_180 rfl rfl ?_
  refine WP.iconst (pc' := 183) (x := 1) at_182 (by decide) rfl ?_
  refine WP.icmpF (pc' := 186) at_183 rfl (show Int32.ofNat 1 = 1 by decide) ?_
  refine WP.iload (pc' := 188) at_186 rfl rfl ?_
  refine WP.iconst (pc' := 189) (x := 2) at_188 (by decide) rfl ?_
  refine WP.icmpF (pc' := 192) at_189 rfl (show Int32.ofNat 2 = 2 by decide) ?_
  refine WP.aload (pc' := 194) at_192 rfl rfl rfl ?_
  refine WP.callV (pc' := 197) (con_SZ hw L) L.1 (hw _ (List.mem_of_getElem? (i := 108) rfl)) (hw _ (List.mem_of_getElem? (i := 109) rfl)) (fun s hs => notFace_of_selects (args := #[]) (mv hs (hw _ (List.mem_of_getElem? (i := 111) rfl)))) (hw _ (List.mem_of_getElem? (i := 111) rfl)) (hw _ (List.mem_of_getElem? (i := 110) rfl)) (hw _ (List.mem_of_getElem? (i := 28) rfl)) (hw _ (List.mem_of_getElem? (i := 112) rfl)) at_194 (by decide) pdx14 rfl rfl rfl (by first | exact Nat.le_of_ble_eq_true rfl | omega | (simp; done) | (simp; omega) | (dsimp only; omega)) (by first | exact Nat.le_of_ble_eq_true rfl | omega | (simp; done) | (simp; omega) | (dsimp only; omega)) (by first | exact Nat.le_of_ble_eq_true rfl | omega | (simp; done) | (simp; omega) | (dsimp only; omega)) (by first | exact Nat.le_of_ble_eq_true rfl | omega | (simp; done) | (simp; omega) | (dsimp only; omega)) (fun _ hx => nomatch hx) rfl ?_
  rintro v h5 nw K hnw ⟨rfl, rfl, rfl⟩
  dsimp only [Option.toList, List.cons_append, List.nil_append]
  refine WP.iconst (pc' := 198) (x := 3) at_197 (by decide) rfl ?_
  refine WP.icmpF (pc' := 201) at_198 rfl (show Int32.ofNat 3 = 3 by decide) ?_
  refine WP.aload (pc' := 203) at_201 rfl rfl rfl ?_
  refine WP.aload (pc' := 205) at_203 rfl rfl rfl ?_
  refine WP.callV (pc' := 208) (con_EQ hw hc G0 S0) G0.1 (hw _ (List.mem_of_getElem? (i := 113) rfl)) (hw _ (List.mem_of_getElem? (i := 114) rfl)) (fun s hs => notFace_of_selects (args := #[]) (mv hs (hw _ (List.mem_of_getElem? (i := 116) rfl)))) (hw _ (List.mem_of_getElem? (i := 116) rfl)) (hw _ (List.mem_of_getElem? (i := 115) rfl)) (hw _ (List.mem_of_getElem? (i := 7) rfl)) (hw _ (List.mem_of_getElem? (i := 117) rfl)) at_205 (by decide) pdx26 rfl rfl rfl (by first | exact Nat.le_of_ble_eq_true rfl | omega | (simp; done) | (simp; omega) | (dsimp only; omega)) (by first | exact Nat.le_of_ble_eq_true rfl | omega | (simp; done) | (simp; omega) | (dsimp only; omega)) (by first | exact Nat.le_of_ble_eq_true rfl | omega | (simp; done) | (simp; omega) | (dsimp only; omega)) (by first | exact Nat.le_of_ble_eq_true rfl | omega | (simp; done) | (simp; omega) | (dsimp only; omega)) (fun _ hx => nomatch hx) rfl ?_
  rintro v h5 nw K hnw ⟨rfl, rfl, rfl⟩
  dsimp only [Option.toList, List.cons_append, List.nil_append]
  rw [if_pos rfl]
  refine WP.ifF (pc' := 211) at_208 rfl (show ¬ (1 : Int32) = 0 by decide) ?_
  refine WP.aload (pc' := 213) at_211 rfl rfl rfl ?_
  refine WP.aload (pc' := 215) at_213 rfl rfl rfl ?_
  refine WP.callV (pc' := 218) (con_EQ hw hc G1 S1) G1.1 (hw _ (List.mem_of_getElem? (i := 113) rfl)) (hw _ (List.mem_of_getElem? (i := 114) rfl)) (fun s hs => notFace_of_selects (args := #[]) (mv hs (hw _ (List.mem_of_getElem? (i := 116) rfl)))) (hw _ (List.mem_of_getElem? (i := 116) rfl)) (hw _ (List.mem_of_getElem? (i := 115) rfl)) (hw _ (List.mem_of_getElem? (i := 7) rfl)) (hw _ (List.mem_of_getElem? (i := 117) rfl)) at_215 (by decide) pdx26 rfl rfl rfl (by first | exact Nat.le_of_ble_eq_true rfl | omega | (simp; done) | (simp; omega) | (dsimp only; omega)) (by first | exact Nat.le_of_ble_eq_true rfl | omega | (simp; done) | (simp; omega) | (dsimp only; omega)) (by first | exact Nat.le_of_ble_eq_true rfl | omega | (simp; done) | (simp; omega) | (dsimp only; omega)) (by first | exact Nat.le_of_ble_eq_true rfl | omega | (simp; done) | (simp; omega) | (dsimp only; omega)) (fun _ hx => nomatch hx) rfl ?_
  rintro v h5 nw K hnw ⟨rfl, rfl, rfl⟩
  dsimp only [Option.toList, List.cons_append, List.nil_append]
  rw [if_pos rfl]
  refine WP.ifF (pc' := 221) at_218 rfl (show ¬ (1 : Int32) = 0 by decide) ?_
  refine WP.aload (pc' := 223) at_221 rfl rfl rfl ?_
  refine WP.aload (pc' := 225) at_223 rfl rfl rfl ?_
  refine WP.callV (pc' := 228) (con_EQ hw hc G2 S2) G2.1 (hw _ (List.mem_of_getElem? (i := 113) rfl)) (hw _ (List.mem_of_getElem? (i := 114) rfl)) (fun s hs => notFace_of_selects (args := #[]) (mv hs (hw _ (List.mem_of_getElem? (i := 116) rfl)))) (hw _ (List.mem_of_getElem? (i := 116) rfl)) (hw _ (List.mem_of_getElem? (i := 115) rfl)) (hw _ (List.mem_of_getElem? (i := 7) rfl)) (hw _ (List.mem_of_getElem? (i := 117) rfl)) at_225 (by decide) pdx26 rfl rfl rfl (by first | exact Nat.le_of_ble_eq_true rfl | omega | (simp; done) | (simp; omega) | (dsimp only; omega)) (by first | exact Nat.le_of_ble_eq_true rfl | omega | (simp; done) | (simp; omega) | (dsimp only; omega)) (by first | exact Nat.le_of_ble_eq_true rfl | omega | (simp; done) | (simp; omega) | (dsimp only; omega)) (by first | exact Nat.le_of_ble_eq_true rfl | omega | (simp; done) | (simp; omega) | (dsimp only; omega)) (fun _ hx => nomatch hx) rfl ?_
  rintro v h5 nw K hnw ⟨rfl, rfl, rfl⟩
  dsimp only [Option.toList, List.cons_append, List.nil_append]
  rw [if_pos rfl]
  refine WP.ifF (pc' := 231) at_228 rfl (show ¬ (1 : Int32) = 0 by decide) ?_
  refine WP.iconst (pc' := 232) (x := 1) at_231 (by decide) rfl ?_
  refine WP.goto (pc' := 236) at_232 (by decide) (by decide) ?_
  exact WP.ireturn (nw := []) at_236 rfl (by simp) rfl rfl (fun _ hx => nomatch hx) hmn (Nat.le_of_ble_eq_true rfl) (Nat.le_of_ble_eq_true rfl)
set_option maxRecDepth 65536 in
set_option maxHeartbeats 40000000 in
theorem tail_LAW (hw : ∀ d ∈ tables_1, d.before a0 Z = true) {cz : Int32} (hc : Compact Z cz) (hu16 : U16 Z) {vf : Value} (hf : Fmt Z vf) {h1 : Heap} {t0 t1 : Addr} {u0 u1 : List UInt16} {z : Int64} {i2 : Int32} {mn : List Addr} (hmn : ∀ x ∈ mine, x ∈ mn) (S0 : FStr Z h1 mn t0 u0) (S1 : FStr Z h1 mn t1 u1) (n0 : u0.length ≤ 3) (n1 : u1.length ≤ 3 ∨ u1.length = 300)
    {l0 l1 l2 l3 l4 l7 l8 l10 l11 : Slot} :
    WP "com/example/ratably/ratably/TextListGetPinLaw" code 22 ret "law" room_1 Z LT h [] mine (fun v h' nw => v = some (.int 1)) mn 13 1236 h1 104 [l0, l1, l2, l3, l4, .val (.long z), .second, l7, l8, .val (.int i2), l10, l11, .val (.ref t0), .unset, .unset, .unset, .unset, .unset, .unset, .unset, .unset, .unset] [.ref t1] := by
  refine WP.astore (pc' := 106) at_104 rfl rfl rfl rfl rfl ?_
  dsimp only [List.set]
  refine WP.iload (pc' := 108) at_106 rfl rfl ?_
  refine WP.lload (pc' := 110) at_108 rfl rfl ?_
  refine WP.callS (pc' := 113) (con_MK hw hc hu16) (hw _ (List.mem_of_getElem? (i := 1) rfl)) (hw _ (List.mem_of_getElem? (i := 2) rfl)) (hw _ (List.mem_of_getElem? (i := 3) rfl)) (hw _ (List.mem_of_getElem? (i := 4) rfl)) at_110 (by decide) pdx27 rfl rfl rfl (by first | exact Nat.le_of_ble_eq_true rfl | omega | (simp; done) | (simp; omega) | (dsimp only; omega)) (by first | exact Nat.le_of_ble_eq_true rfl | omega | (simp; done) | (simp; omega) | (dsimp only; omega)) (by first | exact Nat.le_of_ble_eq_true rfl | omega | (simp; done) | (simp; omega) | (dsimp only; omega)) (by first | exact Nat.le_of_ble_eq_true rfl | omega | (simp; done) | (simp; omega) | (dsimp only; omega)) (fun _ hx => nomatch hx) rfl ?_
  rintro v hA nw K hnw ⟨rfl, u2, t2, n2, rfl, S2⟩
  dsimp only [Option.toList, List.cons_append, List.nil_append]
  replace S0 := S0.ext (keep_ext K)
  replace S1 := S1.ext (keep_ext K)
  refine WP.know fun _ kz _ => ?_
  have hz := kz.1
  refine WP.astore (pc' := 115) at_113 rfl rfl rfl rfl rfl ?_
  dsimp only [List.set]
  refine WP.new (pc' := 118) at_115 (hw _ (List.mem_of_getElem? (i := 26) rfl)) (hw _ (List.mem_of_getElem? (i := 27) rfl)) (hw _ (List.mem_of_getElem? (i := 28) rfl)) (by first | exact Nat.le_of_ble_eq_true rfl | omega | (simp; done) | (simp; omega) | (dsimp only; omega)) (by first | exact Nat.le_of_ble_eq_true rfl | omega | (simp; done) | (simp; omega) | (dsimp only; omega)) rfl ?_
  intro h2 o eo no mo E2 X D
  have F1 : Fld Z h2 o TLS "chars" "[C" .null := D (Or.inl (hw _ (List.mem_of_getElem? (i := 34) rfl))) (ty := .array .char) (by decide)
  have F2 : Fld Z h2 o TLS "ends" "[I" .null := D (Or.inl (hw _ (List.mem_of_getElem? (i := 37) rfl))) (ty := .array .int) (by decide)
  have F3 : Fld Z h2 o TLS "size" "I" (.int 0) := D (Or.inl (hw _ (List.mem_of_getElem? (i := 44) rfl))) (ty := .int) (by decide)
  replace S0 := S0.new E2 eo
  replace S1 := S1.new E2 eo
  replace S2 := S2.new E2 eo
  refine WP.dup (pc' := 119) at_118 rfl rfl ?_
  refine WP.callSp (pc' := 122) (con_TLI hw X F1 F2 F3 (List.mem_cons_self ..)) rfl (hw _ (List.mem_of_getElem? (i := 29) rfl)) (hw _ (List.mem_of_getElem? (i := 30) rfl)) (hw _ (List.mem_of_getElem? (i := 28) rfl)) (hw _ (List.mem_of_getElem? (i := 31) rfl)) at_119 (by decide) pdx28 rfl rfl rfl (by first | exact Nat.le_of_ble_eq_true rfl | omega | (simp; done) | (simp; omega) | (dsimp only; omega)) (by first | exact Nat.le_of_ble_eq_true rfl | omega | (simp; done) | (simp; omega) | (dsimp only; omega)) (by first | exact Nat.le_of_ble_eq_true rfl | omega | (simp; done) | (simp; omega) | (dsimp only; omega)) (by first | exact Nat.le_of_ble_eq_true rfl | omega | (simp; done) | (simp; omega) | (dsimp only; omega)) (fun x hx => by cases List.mem_singleton.mp hx; exact Or.inr mo) rfl ?_
  rintro v h3 nw K3 hnw3 ⟨c, e, rfl, rfl, L⟩
  have wo : ∀ x ∈ [o], x ∈ o :: mn := fun x hx => by cases List.mem_singleton.mp hx; exact List.mem_cons_self ..
  replace S0 := S0.call K3 wo hnw3
  replace S1 := S1.call K3 wo hnw3
  replace S2 := S2.call K3 wo hnw3
  dsimp only [Option.toList, List.cons_append, List.nil_append] at S0 S1 S2 ⊢
  have mmo : o ∈ e :: c :: o :: mn := by simp
  have mmc : c ∈ e :: c :: o :: mn := by simp
  have mme : e ∈ e :: c :: o :: mn := by simp
  have wso : ∀ x ∈ [o, c, e], x ∈ e :: c :: o :: mn := fun x hx => by simp at hx ⊢; rcases hx with rfl | rfl | rfl <;> simp
  have wso2 : ∀ x ∈ [o, e], x ∈ e :: c :: o :: mn := fun x hx => by simp at hx ⊢; rcases hx with rfl | rfl <;> simp
  have hh2 : h.size ≤ h2.size := Nat.le_trans hz E2.1
  have zc : h.size ≤ c := Nat.le_trans hh2 (hnw3 _ (by simp))
  have ze : h.size ≤ e := Nat.le_trans hh2 (hnw3 _ (by simp))
  have zso : ∀ x ∈ [o, c, e], x ∈ ([] : List Addr) ∨ h.size ≤ x := fun x hx => Or.inr (by
    simp at hx
    rcases hx with rfl | rfl | rfl
    · exact mo
    · exact zc
    · exact ze)
  have zso2 : ∀ x ∈ [o, e], x ∈ ([] : List Addr) ∨ h.size ≤ x := fun x hx => Or.inr (by
    simp at hx
    rcases hx with rfl | rfl
    · exact mo
    · exact ze)
  refine WP.astore (pc' := 124) at_122 rfl rfl rfl rfl rfl ?_
  dsimp only [List.set]
  refine WP.aload (pc' := 126) at_124 rfl rfl rfl ?_
  refine WP.aload (pc' := 128) at_126 rfl rfl rfl ?_
  obtain ⟨w0, S0', -, -⟩ := id S0
  refine WP.callV (pc' := 131) (con_ADD (M := 256) hw hc hu16 hf (k := 0) (st := 0) L S0' (by simp) (by simp) (by omega) (Or.inl ⟨rfl, rfl⟩) (by omega) mmo mmc mme) L.1 (hw _ (List.mem_of_getElem? (i := 38) rfl)) (hw _ (List.mem_of_getElem? (i := 39) rfl)) (fun s hs => notFace_of_selects (args := #[]) (mv hs (hw _ (List.mem_of_getElem? (i := 41) rfl)))) (hw _ (List.mem_of_getElem? (i := 41) rfl)) (hw _ (List.mem_of_getElem? (i := 40) rfl)) (hw _ (List.mem_of_getElem? (i := 28) rfl)) (hw _ (List.mem_of_getElem? (i := 42) rfl)) at_128 (by decide) pdx29 rfl rfl rfl (by first | exact Nat.le_of_ble_eq_true rfl | omega | (simp; done) | (simp; omega) | (dsimp only; omega)) (by first | exact Nat.le_of_ble_eq_true rfl | omega | (simp; done) | (simp; omega) | (dsimp only; omega)) (by first | exact Nat.le_of_ble_eq_true rfl | omega | (simp; done) | (simp; omega) | (dsimp only; omega)) (by first | exact Nat.le_of_ble_eq_true rfl | omega | (simp; done) | (simp; omega) | (dsimp only; omega)) zso rfl ?_
  rintro v h4 nw K4 hnw4 ⟨rfl, rfl, L4⟩
  replace S0 := S0.call K4 wso hnw4
  replace S1 := S1.call K4 wso hnw4
  replace S2 := S2.call K4 wso hnw4
  dsimp only [Option.toList, List.cons_append, List.nil_append] at S0 S1 S2 ⊢
  have c0 : (ovr (List.replicate 256 0) 0 u0).length = 256 := by rw [ovr_len (by rw [List.length_replicate]; omega), List.length_replicate]
  rw [show 0 + u0.length = u0.length by omega] at L4
  refine WP.istore (pc' := 133) at_131 rfl rfl rfl ?_
  dsimp only [List.set]
  refine WP.aload (pc' := 135) at_133 rfl rfl rfl ?_
  refine WP.aload (pc' := 137) at_135 rfl rfl rfl ?_
  obtain ⟨w1, S1', na1, nt1⟩ := id S1
  rcases n1 with n1 | n1
  · refine WP.callV (pc' := 140) (con_ADD (M := 256) hw hc hu16 hf (k := 1) (st := u0.length) L4 S1' c0 (by simp) (by omega) (Or.inr ⟨by omega, by simp⟩) (by omega) mmo mmc mme) L4.1 (hw _ (List.mem_of_getElem? (i := 38) rfl)) (hw _ (List.mem_of_getElem? (i := 39) rfl)) (fun s hs => notFace_of_selects (args := #[]) (mv hs (hw _ (List.mem_of_getElem? (i := 41) rfl)))) (hw _ (List.mem_of_getElem? (i := 41) rfl)) (hw _ (List.mem_of_getElem? (i := 40) rfl)) (hw _ (List.mem_of_getElem? (i := 28) rfl)) (hw _ (List.mem_of_getElem? (i := 42) rfl)) at_137 (by decide) pdx29 rfl rfl rfl (by first | exact Nat.le_of_ble_eq_true rfl | omega | (simp; done) | (simp; omega) | (dsimp only; omega)) (by first | exact Nat.le_of_ble_eq_true rfl | omega | (simp; done) | (simp; omega) | (dsimp only; omega)) (by first | exact Nat.le_of_ble_eq_true rfl | omega | (simp; done) | (simp; omega) | (dsimp only; omega)) (by first | exact Nat.le_of_ble_eq_true rfl | omega | (simp; done) | (simp; omega) | (dsimp only; omega)) zso rfl ?_
    rintro v h5 nw K5 hnw5 ⟨rfl, rfl, L5⟩
    replace S0 := S0.call K5 wso hnw5
    replace S1 := S1.call K5 wso hnw5
    replace S2 := S2.call K5 wso hnw5
    dsimp only [Option.toList, List.cons_append, List.nil_append] at S0 S1 S2 ⊢
    have c1 : (ovr (ovr (List.replicate 256 0) 0 u0) u0.length u1).length = 256 := by rw [ovr_len (by rw [c0]; omega), c0]
    refine WP.istore (pc' := 142) at_140 rfl rfl rfl ?_
    dsimp only [List.set]
    refine WP.aload (pc' := 144) at_142 rfl rfl rfl ?_
    refine WP.aload (pc' := 146) at_144 rfl rfl rfl ?_
    obtain ⟨w2, S2', -, -⟩ := id S2
    refine WP.callV (pc' := 149) (con_ADD (M := 256) hw hc hu16 hf (k := 2) (st := u0.length + u1.length) L5 S2' c1 (by simp) (by omega) (Or.inr ⟨by omega, by simp⟩) (by omega) mmo mmc mme) L5.1 (hw _ (List.mem_of_getElem? (i := 38) rfl)) (hw _ (List.mem_of_getElem? (i := 39) rfl)) (fun s hs => notFace_of_selects (args := #[]) (mv hs (hw _ (List.mem_of_getElem? (i := 41) rfl)))) (hw _ (List.mem_of_getElem? (i := 41) rfl)) (hw _ (List.mem_of_getElem? (i := 40) rfl)) (hw _ (List.mem_of_getElem? (i := 28) rfl)) (hw _ (List.mem_of_getElem? (i := 42) rfl)) at_146 (by decide) pdx29 rfl rfl rfl (by first | exact Nat.le_of_ble_eq_true rfl | omega | (simp; done) | (simp; omega) | (dsimp only; omega)) (by first | exact Nat.le_of_ble_eq_true rfl | omega | (simp; done) | (simp; omega) | (dsimp only; omega)) (by first | exact Nat.le_of_ble_eq_true rfl | omega | (simp; done) | (simp; omega) | (dsimp only; omega)) (by first | exact Nat.le_of_ble_eq_true rfl | omega | (simp; done) | (simp; omega) | (dsimp only; omega)) zso rfl ?_
    rintro v h6 nw K6 hnw6 ⟨rfl, rfl, L6⟩
    replace S0 := S0.call K6 wso hnw6
    replace S1 := S1.call K6 wso hnw6
    replace S2 := S2.call K6 wso hnw6
    dsimp only [Option.toList, List.cons_append, List.nil_append] at S0 S1 S2 ⊢
    refine WP.istore (pc' := 151) at_149 rfl rfl rfl ?_
    dsimp only [List.set]
    obtain ⟨g0, g1, g2⟩ := laid (pad := []) (u0 := u0) (u1 := u1) (u2 := u2) n0 (by simp; omega)
    rw [List.append_nil] at g0 g1 g2
    refine WP.more (ce' := 23) (sl' := 2047) ?_ (Nat.le_of_ble_eq_true rfl) (Nat.le_of_ble_eq_true rfl)
    exact rest_LAW hw hc hu16 hf (fun x hx => List.mem_cons_of_mem _ (List.mem_cons_of_mem _ (List.mem_cons_of_mem _ (hmn x hx)))) L6 S0 S1 S2 n0 (by omega) n2 g0 g1 g2 (by simp) (by simp) (by simp)
  · have hfc : ∀ x ∈ ovr (List.replicate 256 0) 0 u0, fits .char (.int x) = true := ovr_fits (fun x hx => by rw [List.eq_of_mem_replicate hx]; rfl)
    refine WP.callV (pc' := 140) (con_ADDg hw hc hu16 hf (k := 1) (st := u0.length) L4 S1' c0 hfc (by simp) (by omega) (Or.inr ⟨by omega, by simp⟩) (by omega) (by omega) mmo mme (fun q => na1 (q ▸ mmo)) (fun q => nt1 (q ▸ mmo))) L4.1 (hw _ (List.mem_of_getElem? (i := 38) rfl)) (hw _ (List.mem_of_getElem? (i := 39) rfl)) (fun s hs => notFace_of_selects (args := #[]) (mv hs (hw _ (List.mem_of_getElem? (i := 41) rfl)))) (hw _ (List.mem_of_getElem? (i := 41) rfl)) (hw _ (List.mem_of_getElem? (i := 40) rfl)) (hw _ (List.mem_of_getElem? (i := 28) rfl)) (hw _ (List.mem_of_getElem? (i := 42) rfl)) at_137 (by decide) pdx29 rfl rfl rfl (by first | exact Nat.le_of_ble_eq_true rfl | omega | (simp; done) | (simp; omega) | (dsimp only; omega)) (by first | exact Nat.le_of_ble_eq_true rfl | omega | (simp; done) | (simp; omega) | (dsimp only; omega)) (by first | exact Nat.le_of_ble_eq_true rfl | omega | (simp; done) | (simp; omega) | (dsimp only; omega)) (by first | exact Nat.le_of_ble_eq_true rfl | omega | (simp; done) | (simp; omega) | (dsimp only; omega)) zso2 rfl ?_
    rintro v h5 nw K5 hnw5 ⟨c', rfl, rfl, L5⟩
    have hc' : h.size ≤ c' := Nat.le_trans (Nat.le_trans (Nat.le_trans hh2 K3.1) K4.1) (hnw5 _ (by simp))
    replace S0 := S0.call K5 wso2 hnw5
    replace S1 := S1.call K5 wso2 hnw5
    replace S2 := S2.call K5 wso2 hnw5
    dsimp only [Option.toList, List.cons_append, List.nil_append] at S0 S1 S2 ⊢
    have cp : (ovr (List.replicate 256 0) 0 u0 ++ List.replicate 256 0).length = 512 := by rw [List.length_append, c0, List.length_replicate]
    have c1 : (ovr (ovr (List.replicate 256 0) 0 u0 ++ List.replicate 256 0) u0.length u1).length = 512 := by rw [ovr_len (by rw [cp]; omega), cp]
    have wso3 : ∀ x ∈ [o, c', e], x ∈ c' :: e :: c :: o :: mn := fun x hx => by simp at hx ⊢; rcases hx with rfl | rfl | rfl <;> simp
    have zso3 : ∀ x ∈ [o, c', e], x ∈ ([] : List Addr) ∨ h.size ≤ x := fun x hx => Or.inr (by
      simp at hx
      rcases hx with rfl | rfl | rfl
      · exact mo
      · exact hc'
      · exact ze)
    refine WP.istore (pc' := 142) at_140 rfl rfl rfl ?_
    dsimp only [List.set]
    refine WP.aload (pc' := 144) at_142 rfl rfl rfl ?_
    refine WP.aload (pc' := 146) at_144 rfl rfl rfl ?_
    obtain ⟨w2, S2', -, -⟩ := id S2
    refine WP.callV (pc' := 149) (con_ADD (M := 512) hw hc hu16 hf (k := 2) (st := u0.length + u1.length) L5 S2' c1 (by simp) (by omega) (Or.inr ⟨by omega, by simp⟩) (by omega) (List.mem_cons_of_mem _ mmo) (List.mem_cons_self ..) (List.mem_cons_of_mem _ mme)) L5.1 (hw _ (List.mem_of_getElem? (i := 38) rfl)) (hw _ (List.mem_of_getElem? (i := 39) rfl)) (fun s hs => notFace_of_selects (args := #[]) (mv hs (hw _ (List.mem_of_getElem? (i := 41) rfl)))) (hw _ (List.mem_of_getElem? (i := 41) rfl)) (hw _ (List.mem_of_getElem? (i := 40) rfl)) (hw _ (List.mem_of_getElem? (i := 28) rfl)) (hw _ (List.mem_of_getElem? (i := 42) rfl)) at_146 (by decide) pdx29 rfl rfl rfl (by first | exact Nat.le_of_ble_eq_true rfl | omega | (simp; done) | (simp; omega) | (dsimp only; omega)) (by first | exact Nat.le_of_ble_eq_true rfl | omega | (simp; done) | (simp; omega) | (dsimp only; omega)) (by first | exact Nat.le_of_ble_eq_true rfl | omega | (simp; done) | (simp; omega) | (dsimp only; omega)) (by first | exact Nat.le_of_ble_eq_true rfl | omega | (simp; done) | (simp; omega) | (dsimp only; omega)) zso3 rfl ?_
    rintro v h6 nw K6 hnw6 ⟨rfl, rfl, L6⟩
    replace S0 := S0.call K6 wso3 hnw6
    replace S1 := S1.call K6 wso3 hnw6
    replace S2 := S2.call K6 wso3 hnw6
    dsimp only [Option.toList, List.cons_append, List.nil_append] at S0 S1 S2 ⊢
    refine WP.istore (pc' := 151) at_149 rfl rfl rfl ?_
    dsimp only [List.set]
    obtain ⟨g0, g1, g2⟩ := laid (pad := List.replicate 256 0) (u0 := u0) (u1 := u1) (u2 := u2) n0 (by simp; omega)
    refine WP.more (ce' := 23) (sl' := 2047) ?_ (Nat.le_of_ble_eq_true rfl) (Nat.le_of_ble_eq_true rfl)
    exact rest_LAW hw hc hu16 hf (fun x hx => List.mem_cons_of_mem _ (List.mem_cons_of_mem _ (List.mem_cons_of_mem _ (List.mem_cons_of_mem _ (hmn x hx))))) L6 S0 S1 S2 n0 (by omega) n2 g0 g1 g2 (by simp) (by simp) (by simp)
set_option maxRecDepth 65536 in
set_option maxHeartbeats 40000000 in
theorem tail_LAWm (hw : ∀ d ∈ tables_1, d.before a0 Z = true) {cz : Int32} (hc : Compact Z cz) (hu16 : U16 Z) {vf : Value} (hf : Fmt Z vf) {x y z : Int64} {a i0 i1 i2 bg : Int32} :
    WP "com/example/ratably/ratably/TextListGetPinLaw" code 22 ret "law" room_1 Z LT h [] mine (fun v h' nw => v = some (.int 1)) mine 0 0 h 33 [.val (.int a), .val (.long x), .second, .val (.long y), .second, .val (.long z), .second, .val (.int i0), .val (.int i1), .val (.int i2), .unset, .unset, .unset, .unset, .unset, .unset, .unset, .unset, .unset, .unset, .unset, .unset] [.int bg] := by
  refine WP.istore (pc' := 35) at_33 rfl rfl rfl ?_
  dsimp only [List.set]
  refine WP.sipush (pc' := 38) (x := 300) at_35 (by decide) rfl ?_
  refine WP.newarray (pc' := 40) (N := 300) at_38 (hw _ (List.mem_of_getElem? (i := 0) rfl)) rfl (by decide) (by first | exact Nat.le_of_ble_eq_true rfl | omega | (simp; done) | (simp; omega) | (dsimp only; omega)) (by first | exact Nat.le_of_ble_eq_true rfl | omega | (simp; done) | (simp; omega) | (dsimp only; omega)) (by first | exact Nat.le_of_ble_eq_true rfl | omega | (simp; done) | (simp; omega) | (dsimp only; omega)) rfl ?_
  intro h1 q eq nq mq E1 A
  refine WP.astore (pc' := 42) at_40 rfl rfl rfl rfl rfl ?_
  dsimp only [List.set]
  refine WP.aload (pc' := 44) at_42 rfl rfl rfl ?_
  refine WP.iconst (pc' := 45) (x := 0) at_44 (by decide) rfl ?_
  refine WP.lloadN (pc' := 46) at_45 rfl rfl ?_
  refine WP.l2i (pc' := 47) at_46 rfl ?_
  refine WP.i2c (pc' := 48) at_47 rfl ?_
  refine WP.castoreU (pc' := 49) (i := 0) at_48 A (by decide) (by simp) (List.mem_cons_self ..) (Or.inr mq) rfl ?_
  intro h2 v1 W2 A
  refine WP.aload (pc' := 51) at_49 rfl rfl rfl ?_
  refine WP.sipush (pc' := 54) (x := 150) at_51 (by decide) rfl ?_
  refine WP.lloadN (pc' := 55) at_54 rfl rfl ?_
  refine WP.bipush (pc' := 57) (x := 16) at_55 (by decide) rfl ?_
  refine WP.lushr (pc' := 58) at_57 rfl ?_
  refine WP.l2i (pc' := 59) at_58 rfl ?_
  refine WP.i2c (pc' := 60) at_59 rfl ?_
  refine WP.castoreU (pc' := 61) (i := 150) at_60 A (by decide) (by simp) (List.mem_cons_self ..) (Or.inr mq) rfl ?_
  intro h3 v2 W3 A
  refine WP.aload (pc' := 63) at_61 rfl rfl rfl ?_
  refine WP.sipush (pc' := 66) (x := 299) at_63 (by decide) rfl ?_
  refine WP.lloadN (pc' := 67) at_66 rfl rfl ?_
  refine WP.bipush (pc' := 69) (x := 48) at_67 (by decide) rfl ?_
  refine WP.lushr (pc' := 70) at_69 rfl ?_
  refine WP.l2i (pc' := 71) at_70 rfl ?_
  refine WP.i2c (pc' := 72) at_71 rfl ?_
  refine WP.castoreU (pc' := 73) (i := 299) at_72 A (by decide) (by simp) (List.mem_cons_self ..) (Or.inr mq) rfl ?_
  intro h4 v3 W4 A
  obtain ⟨us, hus, A⟩ : ∃ us : List UInt16, us.length = 300 ∧ ArI Z h4 q .char (us.map chv) := by
    refine ⟨(((List.replicate 300 0).set 0 v1).set 150 v2).set 299 v3, by simp, ?_⟩
    rw [List.map_set, List.map_set, List.map_set, List.map_replicate]
    exact A
  refine WP.iload (pc' := 75) at_73 rfl rfl ?_
  refine WP.lloadN (pc' := 76) at_75 rfl rfl ?_
  refine WP.callS (pc' := 79) (con_MK hw hc hu16) (hw _ (List.mem_of_getElem? (i := 1) rfl)) (hw _ (List.mem_of_getElem? (i := 2) rfl)) (hw _ (List.mem_of_getElem? (i := 3) rfl)) (hw _ (List.mem_of_getElem? (i := 4) rfl)) at_76 (by decide) pdx27 rfl rfl rfl (by first | exact Nat.le_of_ble_eq_true rfl | omega | (simp; done) | (simp; omega) | (dsimp only; omega)) (by first | exact Nat.le_of_ble_eq_true rfl | omega | (simp; done) | (simp; omega) | (dsimp only; omega)) (by first | exact Nat.le_of_ble_eq_true rfl | omega | (simp; done) | (simp; omega) | (dsimp only; omega)) (by first | exact Nat.le_of_ble_eq_true rfl | omega | (simp; done) | (simp; omega) | (dsimp only; omega)) (fun _ hx => nomatch hx) rfl ?_
  rintro v h5 nw K5 hnw ⟨rfl, u0, t0, n0, rfl, S0⟩
  dsimp only [Option.toList, List.cons_append, List.nil_append]
  refine WP.astore (pc' := 81) at_79 rfl rfl rfl rfl rfl ?_
  dsimp only [List.set]
  refine WP.iload (pc' := 83) at_81 rfl rfl ?_
  have hmn : ∀ x ∈ mine, x ∈ q :: mine := fun x hx => List.mem_cons_of_mem _ hx
  refine WP.ifC (pc' := 98) (pc2 := 86) at_83 (by decide) (by decide) rfl (fun hb => ?_) (fun hb => ?_)
  · refine WP.iload (pc' := 100) at_98 rfl rfl ?_
    refine WP.lloadN (pc' := 101) at_100 rfl rfl ?_
    refine WP.callS (pc' := 104) (con_MK hw hc hu16) (hw _ (List.mem_of_getElem? (i := 1) rfl)) (hw _ (List.mem_of_getElem? (i := 2) rfl)) (hw _ (List.mem_of_getElem? (i := 3) rfl)) (hw _ (List.mem_of_getElem? (i := 4) rfl)) at_101 (by decide) pdx27 rfl rfl rfl (by first | exact Nat.le_of_ble_eq_true rfl | omega | (simp; done) | (simp; omega) | (dsimp only; omega)) (by first | exact Nat.le_of_ble_eq_true rfl | omega | (simp; done) | (simp; omega) | (dsimp only; omega)) (by first | exact Nat.le_of_ble_eq_true rfl | omega | (simp; done) | (simp; omega) | (dsimp only; omega)) (by first | exact Nat.le_of_ble_eq_true rfl | omega | (simp; done) | (simp; omega) | (dsimp only; omega)) (fun _ hx => nomatch hx) rfl ?_
    rintro v h6 nw K6 hnw6 ⟨rfl, u1, t1, n1, rfl, S1⟩
    dsimp only [Option.toList, List.cons_append, List.nil_append]
    refine WP.more (ce' := 13) (sl' := 1236) ?_ (Nat.le_of_ble_eq_true rfl) (Nat.le_of_ble_eq_true rfl)
    exact tail_LAW hw hc hu16 hf hmn (S0.ext (keep_ext K6)) S1 n0 (Or.inl n1)
  · refine WP.new (pc' := 89) at_86 (hw _ (List.mem_of_getElem? (i := 5) rfl)) (hw _ (List.mem_of_getElem? (i := 6) rfl)) (hw _ (List.mem_of_getElem? (i := 7) rfl)) (by first | exact Nat.le_of_ble_eq_true rfl | omega | (simp; done) | (simp; omega) | (dsimp only; omega)) (by first | exact Nat.le_of_ble_eq_true rfl | omega | (simp; done) | (simp; omega) | (dsimp only; omega)) rfl ?_
    intro h6 b eb nb mb E6 X D
    have V : Fld Z h6 b ST "value" "[B" .null := D (Or.inr (hw _ (List.mem_of_getElem? (i := 20) rfl))) (ty := .array .byte) (by decide)
    have C : Fld Z h6 b ST "coder" "B" (.int 0) := D (Or.inr (hw _ (List.mem_of_getElem? (i := 21) rfl))) (ty := .byte) (by decide)
    refine WP.dup (pc' := 90) at_89 rfl rfl ?_
    refine WP.aload (pc' := 92) at_90 rfl rfl rfl ?_
    refine WP.callSp (pc' := 95) (con_SI1 hw hc hu16 (us := us) (N := 300) (by omega) (by decide) X V C ((A.keep K5 nin0).ext E6) (List.mem_cons_self ..)) rfl (hw _ (List.mem_of_getElem? (i := 8) rfl)) (hw _ (List.mem_of_getElem? (i := 9) rfl)) (hw _ (List.mem_of_getElem? (i := 7) rfl)) (hw _ (List.mem_of_getElem? (i := 10) rfl)) at_92 (by decide) pdx24 rfl rfl rfl (by first | exact Nat.le_of_ble_eq_true rfl | omega | (simp; done) | (simp; omega) | (dsimp only; omega)) (by first | exact Nat.le_of_ble_eq_true rfl | omega | (simp; done) | (simp; omega) | (dsimp only; omega)) (by first | exact Nat.le_of_ble_eq_true rfl | omega | (simp; done) | (simp; omega) | (dsimp only; omega)) (by first | exact Nat.le_of_ble_eq_true rfl | omega | (simp; done) | (simp; omega) | (dsimp only; omega)) (fun x hx => by cases List.mem_singleton.mp hx; exact Or.inr mb) rfl ?_
    rintro v h7 nw K7 hnw7 ⟨rfl, rfl, t, S, ht⟩
    dsimp only [Option.toList, List.cons_append, List.nil_append]
    have S1 : FStr Z h7 (q :: mine) b us := ⟨t, S, nb, fun r => ht (List.mem_cons_of_mem _ r)⟩
    have G : Ext h5 h7 := ext_keep E6 K7 (fun x hx => by cases List.mem_singleton.mp hx; exact Nat.le_of_eq eb.symm)
    refine WP.freeze (mine' := q :: mine) ?_ (fun x hx => List.mem_cons_of_mem _ hx)
    refine WP.goto (pc' := 104) at_95 (by decide) (by decide) ?_
    refine WP.more (ce' := 13) (sl' := 1236) ?_ (Nat.le_of_ble_eq_true rfl) (Nat.le_of_ble_eq_true rfl)
    exact tail_LAW hw hc hu16 hf hmn (S0.ext G) S1 n0 (Or.inr hus)
set_option maxRecDepth 65536 in
set_option maxHeartbeats 40000000 in
theorem con_LAW (hw : ∀ d ∈ tables_1, d.before a0 Z = true) {cz : Int32} (hc : Compact Z cz) (hu16 : U16 Z) {vf : Value} (hf : Fmt Z vf) {x0 y z : Int64} {a : Int32} :
    Con x code maxLocals ret room_1 Z LT tables_1 #[.int a, .long x0, .long y, .long z] h [] mine (fun v h' nw => v = some (.int 1)) := by
  refine Con.of pnLAW (Ls := [.val (.int a), .val (.long x0), .second, .val (.long y), .second, .val (.long z), .second, .unset, .unset, .unset, .unset, .unset, .unset, .unset, .unset, .unset, .unset, .unset, .unset, .unset, .unset, .unset]) (fun m => by first | (simp [entryFrame, mkF, argsToLocals, Value.category]; done) | (simp [entryFrame, mkF, argsToLocals, Value.category, maxLocals]; done) | rfl) ?_
  refine WP.iloadN (pc' := 1) at_0 rfl rfl ?_
  refine WP.iconst (pc' := 2) (x := 3) at_1 (by decide) rfl ?_
  refine WP.iand (pc' := 3) at_2 rfl ?_
  refine WP.istore (pc' := 5) at_3 rfl rfl rfl ?_
  dsimp only [List.set]
  refine WP.iloadN (pc' := 6) at_5 rfl rfl ?_
  refine WP.iconst (pc' := 7) (x := 2) at_6 (by decide) rfl ?_
  refine WP.iushr (pc' := 8) at_7 rfl ?_
  refine WP.iconst (pc' := 9) (x := 3) at_8 (by decide) rfl ?_
  refine WP.iand (pc' := 10) at_9 rfl ?_
  refine WP.istore (pc' := 12) at_10 rfl rfl rfl ?_
  dsimp only [List.set]
  refine WP.iloadN (pc' := 13) at_12 rfl rfl ?_
  refine WP.iconst (pc' := 14) (x := 4) at_13 (by decide) rfl ?_
  refine WP.iushr (pc' := 15) at_14 rfl ?_
  refine WP.iconst (pc' := 16) (x := 3) at_15 (by decide) rfl ?_
  refine WP.iand (pc' := 17) at_16 rfl ?_
  refine WP.istore (pc' := 19) at_17 rfl rfl rfl ?_
  dsimp only [List.set]
  refine WP.iloadN (pc' := 20) at_19 rfl rfl ?_
  refine WP.bipush (pc' := 22) (x := 6) at_20 (by decide) rfl ?_
  refine WP.iushr (pc' := 23) at_22 rfl ?_
  refine WP.iconst (pc' := 24) (x := 1) at_23 (by decide) rfl ?_
  refine WP.iand (pc' := 25) at_24 rfl ?_
  refine WP.ifC (pc' := 32) (pc2 := 28) at_25 (by decide) (by decide) rfl (fun hb => ?_) (fun hb => ?_)
  · refine WP.iconst (pc' := 33) (x := 0) at_32 (by decide) rfl ?_
    exact tail_LAWm hw hc hu16 hf
  · refine WP.iconst (pc' := 29) (x := 1) at_28 (by decide) rfl ?_
    refine WP.goto (pc' := 33) at_29 (by decide) (by decide) ?_
    exact tail_LAWm hw hc hu16 hf
end LawBodies
set_option maxRecDepth 65536 in
set_option maxHeartbeats 40000000 in
theorem comes_1 {Post : Tables → Env → Array Value → State → Outcome → State → Prop} (hpost : ∀ tb e args s v u, (limb_1_1.after args s (.returned v) u = true ∧ limb_1_2.after args s (.returned v) u = true ∧ True) → ReturnedEndW s (.returned v) u (Jvm.fieldLocs frame_1_writes args s ++ Jvm.arrayLocs frame_1_arrays args s ++ Jvm.staticLocs frame_1_statics s) 64 7040 → Post tb e args s (.returned v) u) :
    ArmFor flags0 classFile x code maxLocals ret World_1 tables_1 room_1 Calls_1 rest_1 Pre_1 Post := by
  intro l hfl _ _ p e ha hc1 hk s m args below hf hA hF happ hP
  obtain ⟨hcalls, hrest, hpre⟩ := hP
  obtain ⟨-, -, -, hnamed, -, -, -, hat⟩ := (Spec.applies_iff hf).mp happ
  obtain ⟨hg, hn⟩ := and_e (Cond.before_iff.mp (show (Jvm.Cond.and given_1 narrow_1).before args s = true from hpre))
  obtain ⟨g1, g2⟩ := and_e hg
  obtain ⟨g3, g4⟩ := and_e g2
  obtain ⟨g5, g6⟩ := and_e g4
  obtain ⟨g7, g8⟩ := and_e g6
  obtain ⟨w0, w1, w2, w3, rfl⟩ : ∃ w0 w1 w2 w3 : Value, args = #[w0, w1, w2, w3] := by
    have hs : args.size = 4 := by simpa [Cond.value, given_1] using g1
    obtain ⟨L⟩ := args
    match L, hs with
    | [w0, w1, w2, w3], _ => exact ⟨w0, w1, w2, w3, rfl⟩
  have hw := fun d (hd : d ∈ tables_1) => atoms_spec (ws := Jvm.Cond.code x code maxLocals ret :: tables_1) hat d (List.mem_cons_of_mem _ hd)
  have hfit : Fit s := fun {y c} hc i hi => by
    obtain ⟨ha, rfl⟩ := Array.getElem?_eq_some_iff.mp hc
    have q := List.all_eq_true.mp ((Array.all_eq_true_iff_forall_mem.mp hF) _ (Array.getElem_mem ha)) i (List.mem_range.mpr hi)
    simpa [Array.getElem?_eq_getElem hi] using q
  obtain ⟨hsets, hown0⟩ := atoms_of _ (rest_1_c_eq ▸ (show rest_1_c.before _ s = true from hrest))
  obtain ⟨i0, ei0⟩ := is_v g3
  obtain rfl : w0 = (.int i0) := Option.some.inj ei0
  obtain ⟨i1, ei1⟩ := isL_v g5
  obtain rfl : w1 = (.long i1) := Option.some.inj ei1
  obtain ⟨i2, ei2⟩ := isL_v g7
  obtain rfl : w2 = (.long i2) := Option.some.inj ei2
  obtain ⟨i3, ei3⟩ := isL_v g8
  obtain rfl : w3 = (.long i3) := Option.some.inj ei3
  have wS := atoms hw
  have hcw : Jvm.Lit.compactW.before _ s = true := (hsets _ (List.mem_of_getElem? (i := 2) rfl))
  have hlink : Links s LT := fun q hq => by
    simp only [LT, List.mem_cons, List.not_mem_nil, or_false] at hq
    rcases hq with rfl
    · exact ⟨_, (hw _ (List.mem_of_getElem? (i := 18) rfl))⟩
  have hheld : ∀ q ∈ LT, ConstHeldL s q.1 q.2.1 := fun q hq => by
    have hh : ∀ p ∈ consts_1, Jvm.Lit.constHeld s p.1 p.2 := hcalls.1
    simp only [LT, List.mem_cons, List.not_mem_nil, or_false] at hq
    rcases hq with rfl
    · exact heldStart (hh (_, _) (by simp [consts_1])) (hw _ (List.mem_of_getElem? (i := 18) rfl)) (by decide) hcw (hw _ (List.mem_of_getElem? (i := 19) rfl)) (hw _ (List.mem_of_getElem? (i := 6) rfl))
  have hinv := inv_start hlink hheld
  obtain ⟨cz, Scz, ecz⟩ := sta_int (hsets _ (List.mem_of_getElem? (i := 1) rfl)) (hsets _ (List.mem_of_getElem? (i := 0) rfl))
  have hcz : Compact s cz := ⟨Scz, sta_nz ecz hcw⟩
  have hu16 : U16 s := ⟨sta_eq (hsets _ (List.mem_of_getElem? (i := 12) rfl)) (hsets _ (List.mem_of_getElem? (i := 11) rfl)), sta_eq (hsets _ (List.mem_of_getElem? (i := 15) rfl)) (hsets _ (List.mem_of_getElem? (i := 14) rfl)), sta_eq (hsets _ (List.mem_of_getElem? (i := 18) rfl)) (hsets _ (List.mem_of_getElem? (i := 17) rfl))⟩
  obtain ⟨vf, sf, hvf⟩ := sta_isref (hsets _ (List.mem_of_getElem? (i := 8) rfl)) (hsets _ (List.mem_of_getElem? (i := 7) rfl))
  obtain ⟨n, o, h1, h2, h3, v, locs, nw, rfl, hq, N, -, -, -, rfl⟩ := (con_LAW hw hcz hu16 ⟨sf, hvf⟩ : Con x code maxLocals ret room_1 s LT tables_1 _ s.heap [] [] _) l p e ha hc1 hk s m _ below hf ((Spec.applies_iff_loose hf).mp happ).1 ⟨rfl, rfl, hinv⟩ trivial
  refine ⟨n, _, h1, h2, h3, hpost _ _ _ _ _ _ ⟨Cond.after_iff.mpr rfl, Cond.after_iff.mpr (eq_i res_at (Term.int_eval (1)) rfl), trivial⟩ ⟨hq.1, hq.2.1, hq.2.2.1, (hq.2.2.2.sift fun y hy => Or.inr (N y hy)).mono (by decide) (by decide)⟩⟩
theorem main_1_1 : Claimed_1_1 := comes_1 fun _ _ _ _ _ _ h hF => ⟨h.1, hF⟩
theorem main_1_2 : Claimed_1_2 := comes_1 fun _ _ _ _ _ _ h hF => ⟨h.2.1, hF⟩
end Jvm.Pilot.@@N@@
namespace Jvm.Pilot.@@N@@
open Jvm Jvm.ClassFile Sem Op Lib Jvm.Free Jvm.Stand Jvm.Pilot.@@N@@.Jvm.D
/-! MADE BY PROGRAM (witnessworld.py) out of the Statement's table words and the real class files: 23 classes; the members and pool entries that the words name. The judged class is class 1, her method 2. -/
namespace start1
open Jvm.ClassFile
def u (s : String) : CpInfo := .utf8 (stringToUtf16 s)
/-- a pool by its gaps: so many unusable entries, then the entry; so many at the end -/
def gap : Nat → List CpInfo → List CpInfo
  | 0, r => r
  | n + 1, r => .unusable :: gap n r
def poolList (es : List (Nat × CpInfo)) (last : Nat) : List CpInfo := es.foldr (fun e r => gap e.1 (e.2 :: r)) (gap last [])
def pool (es : List (Nat × CpInfo)) (last : Nat) : Array CpInfo := ⟨poolList es last⟩
def fileOf (pool : Array CpInfo) (this : Nat) (attrs : Array Attribute := #[]) (ms : Array MethodInfo := #[]) (fl : Nat := 33) (sup : Nat := 0) (ifs : Array Nat := #[]) (fds : Array FieldInfo := #[]) : ClassFile where
  minorVersion := 0
  majorVersion := 65
  constantPool := pool
  accessFlags := fl
  thisClass := this
  superClass := sup
  interfaces := ifs
  fields := fds
  methods := ms
  attributes := attrs
def plain (name : String) (sup : Option ClassId) : Class where
  name := name
  kind := .ordinary
  loader := none
  accessFlags := 33
  super := sup
  interfaces := #[]
  cf := none
  fields := #[]
  methods := #[]
  instanceTypes := #[]
  staticTypes := #[]
  resolved := #[]
  callSites := []
  init := .initialized
  statics := none
  mirror := none

def pool0 : Array CpInfo := pool [(5, u "<init>"), (0, u "()V"), (1, .class_ 10), (1, u "java/lang/Object")] 113

def k0c0 : Code := { maxStack := 0, maxLocals := 1, code := object_method_1_code, exceptionTable := #[], attributes := #[] }
def k0m0 : Method := { name := "<init>", desc := "()V", sig := { parameters := [], returnType := none }, accessFlags := 1, code := some k0c0 }
/-- java/lang/Object -/
def k0 : Class := { plain "java/lang/Object" none with
  accessFlags := 33
  interfaces := #[]
  cf := some (fileOf pool0 8 #[] #[{ accessFlags := 1, nameIndex := 5, descriptorIndex := 6, attributes := #[] }] 33 0 #[] #[])
  fields := #[]
  methods := #[k0m0]
  instanceTypes := #[]
  staticTypes := #[]
  resolved := Array.replicate 124 none
  statics := none }

def pool1 : Array CpInfo := pool [(2, .class_ 4), (0, .nameAndType 5 6), (0, u "java/lang/Object"), (0, u "<init>"), (0, u "()V"), (0, .class_ 8), (0, u "java/lang/String"), (0, .methodref 7 10), (0, .nameAndType 5 11), (0, u "([C)V"), (0, .methodref 13 14), (0, .class_ 15), (0, .nameAndType 16 17), (0, u "com/example/ratably/ratably/TextListGetPinLaw"), (0, u "mk"), (0, u "(IJ)Ljava/lang/String;"), (0, .class_ 19), (0, u "com/example/ratably/ratably/TextList"), (0, .methodref 18 3), (0, .methodref 18 22), (0, .nameAndType 23 24), (0, u "add"), (0, u "(Ljava/lang/String;)I"), (0, .methodref 18 26), (0, .nameAndType 27 28), (0, u "get"), (0, u "(I)Ljava/lang/String;"), (0, .methodref 18 30), (0, .nameAndType 31 32), (0, u "size"), (0, u "()I"), (0, .methodref 7 34), (0, .nameAndType 35 36), (0, u "equals"), (0, u "(Ljava/lang/Object;)Z"), (5, u "law"), (0, u "(IJJJ)Z")] 2

def k1m0 : Method := { name := "<init>", desc := "()V", sig := { parameters := [], returnType := none }, accessFlags := 1, code := none }
def k1c1 : Code := { maxStack := 5, maxLocals := 4, code := method_2_code, exceptionTable := #[], attributes := #[] }
def k1m1 : Method := { name := "mk", desc := "(IJ)Ljava/lang/String;", sig := { parameters := [.int, .long], returnType := some (.object "java/lang/String") }, accessFlags := 10, code := some k1c1 }
def k1c2 : Code := { maxStack := 5, maxLocals := 22, code := code, exceptionTable := #[], attributes := #[] }
def k1m2 : Method := { name := "law", desc := "(IJJJ)Z", sig := { parameters := [.int, .long, .long, .long], returnType := some .boolean }, accessFlags := 9, code := some k1c2 }
/-- com/example/ratably/ratably/TextListGetPinLaw -/
def k1 : Class := { plain "com/example/ratably/ratably/TextListGetPinLaw" (some 0) with
  accessFlags := 49
  interfaces := #[]
  cf := some (fileOf pool1 13 #[] #[{ accessFlags := 1, nameIndex := 5, descriptorIndex := 6, attributes := #[] }, { accessFlags := 10, nameIndex := 16, descriptorIndex := 17, attributes := #[] }, { accessFlags := 9, nameIndex := 42, descriptorIndex := 43, attributes := #[] }] 49 2 #[] #[])
  fields := #[]
  methods := #[k1m0, k1m1, k1m2]
  instanceTypes := #[]
  staticTypes := #[]
  resolved := Array.replicate 46 none
  statics := none }

def pool2 : Array CpInfo := pool [(1, .class_ 2), (0, u "java/io/Serializable"), (0, .class_ 4), (0, u "java/lang/Object")] 2

/-- java/io/Serializable -/
def k2 : Class := { plain "java/io/Serializable" (some 0) with
  accessFlags := 1537
  interfaces := #[]
  cf := some (fileOf pool2 1 #[] #[] 1537 3 #[] #[])
  fields := #[]
  methods := #[]
  instanceTypes := #[]
  staticTypes := #[]
  resolved := Array.replicate 7 none
  statics := none }

def pool3 : Array CpInfo := pool [(1, .class_ 2), (0, u "java/lang/Comparable"), (0, .class_ 4), (0, u "java/lang/Object")] 7

/-- java/lang/Comparable -/
def k3 : Class := { plain "java/lang/Comparable" (some 0) with
  accessFlags := 1537
  interfaces := #[]
  cf := some (fileOf pool3 1 #[] #[] 1537 3 #[] #[])
  fields := #[]
  methods := #[]
  instanceTypes := #[]
  staticTypes := #[]
  resolved := Array.replicate 12 none
  statics := none }

def pool4 : Array CpInfo := pool [(2, .class_ 4), (1, u "java/lang/CharSequence"), (42, .class_ 48), (0, u "java/lang/CharSequence$1CodePointIterator"), (10, .class_ 60), (0, u "java/lang/CharSequence$1CharIterator"), (5, .class_ 67), (0, u "java/lang/Object")] 63

/-- java/lang/CharSequence -/
def k4 : Class := { plain "java/lang/CharSequence" (some 0) with
  accessFlags := 1537
  interfaces := #[]
  cf := some (fileOf pool4 2 #[.nestMembers #[47, 59]] #[] 1537 66 #[] #[])
  fields := #[]
  methods := #[]
  instanceTypes := #[]
  staticTypes := #[]
  resolved := Array.replicate 131 none
  statics := none }

def pool5 : Array CpInfo := pool [(1, .class_ 2), (0, u "java/lang/constant/Constable"), (0, .class_ 4), (0, u "java/lang/Object")] 6

/-- java/lang/constant/Constable -/
def k5 : Class := { plain "java/lang/constant/Constable" (some 0) with
  accessFlags := 1537
  interfaces := #[]
  cf := some (fileOf pool5 1 #[] #[] 1537 3 #[] #[])
  fields := #[]
  methods := #[]
  instanceTypes := #[]
  staticTypes := #[]
  resolved := Array.replicate 11 none
  statics := none }

def pool6 : Array CpInfo := pool [(1, .class_ 2), (0, u "java/lang/constant/ConstantDesc"), (0, .class_ 4), (0, u "java/lang/Object")] 32

/-- java/lang/constant/ConstantDesc -/
def k6 : Class := { plain "java/lang/constant/ConstantDesc" (some 0) with
  accessFlags := 1537
  interfaces := #[]
  cf := some (fileOf pool6 1 #[] #[] 1537 3 #[] #[])
  fields := #[]
  methods := #[]
  instanceTypes := #[]
  staticTypes := #[]
  resolved := Array.replicate 37 none
  statics := none }

def pool7 : Array CpInfo := pool [(1, .methodref 2 3), (0, .class_ 4), (0, .nameAndType 5 6), (0, u "java/lang/Object"), (0, u "<init>"), (0, u "()V"), (0, .string 8), (0, u ""), (0, .fieldref 10 11), (0, .class_ 12), (0, .nameAndType 13 14), (0, u "java/lang/String"), (0, u "value"), (0, u "[B"), (0, .fieldref 10 16), (0, .nameAndType 17 18), (0, u "coder"), (0, u "B"), (2, u "hash"), (0, u "I"), (2, u "hashIsZero"), (0, u "Z"), (0, .methodref 10 28), (0, .nameAndType 5 29), (0, u "([CIILjava/lang/Void;)V"), (0, .methodref 10 31), (0, .nameAndType 32 33), (0, u "rangeCheck"), (0, u "([CII)Ljava/lang/Void;"), (0, .methodref 10 35), (0, .nameAndType 36 37), (0, u "checkBoundsOffCount"), (0, u "(III)I"), (0, .fieldref 10 39), (0, .nameAndType 40 26), (0, u "COMPACT_STRINGS"), (1, .class_ 44), (1, u "java/lang/StringUTF16"), (0, u "compress"), (1, .methodref 42 48), (0, .nameAndType 49 50), (0, u "coderFromArrayLen"), (0, u "([BI)B"), (56, .class_ 109), (1, u "java/lang/StringLatin1"), (32, u "()Z"), (34, .methodref 42 178), (0, .nameAndType 45 179), (0, u "([CII)[B"), (154, u "()I"), (0, .methodref 10 336), (0, .nameAndType 17 337), (0, u "()B"), (154, .methodref 10 493), (0, .nameAndType 494 142), (0, u "isLatin1"), (10, .methodref 10 506), (0, .nameAndType 507 334), (0, u "length"), (5, u "checkFromToIndex"), (7, .methodref 10 522), (0, .nameAndType 523 524), (0, u "checkBoundsBeginEnd"), (0, u "(III)V"), (0, .methodref 107 526), (0, .nameAndType 527 528), (0, u "getChars"), (0, u "([BII[CI)V"), (0, .methodref 42 526), (11, .methodref 107 542), (0, .nameAndType 543 544), (0, u "equals"), (0, u "([B[B)Z"), (28, u "(Ljava/lang/Object;)Z"), (1, .class_ 576), (0, u "java/lang/CharSequence"), (22, u "CASE_INSENSITIVE_ORDER"), (0, u "Ljava/util/Comparator;"), (371, u "([CII)V"), (37, u "([C)V"), (42, .fieldref 1054 1055), (0, .class_ 1056), (0, .nameAndType 1057 1058), (0, u "jdk/internal/util/Preconditions"), (0, u "SIOOBE_FORMATTER"), (0, u "Ljava/util/function/BiFunction;"), (3, .methodref 1054 1063), (0, .nameAndType 513 1064), (0, u "(IIILjava/util/function/BiFunction;)I"), (0, .methodref 1054 1066), (0, .nameAndType 1067 1064), (0, u "checkFromIndexSize"), (33, u "serialPersistentFields"), (0, u "[Ljava/io/ObjectStreamField;"), (0, .class_ 1104), (0, u "java/lang/String$CaseInsensitiveComparator"), (1, .class_ 1107), (0, u "java/io/Serializable"), (0, .class_ 1109), (0, u "java/lang/Comparable"), (0, .class_ 1111), (0, u "java/lang/constant/Constable"), (0, .class_ 1113), (0, u "java/lang/constant/ConstantDesc"), (2, u "serialVersionUID"), (0, u "J"), (3, u "REPL"), (0, u "C"), (2, u "LATIN1"), (1, u "UTF16"), (112, u "(II[CI)V")] 210

def k7m0 : Method := { name := "<init>", desc := "()V", sig := { parameters := [], returnType := none }, accessFlags := 1, code := none }
def k7c1 : Code := { maxStack := 5, maxLocals := 2, code := jdk_42_method_3_code, exceptionTable := #[], attributes := #[] }
def k7m1 : Method := { name := "<init>", desc := "([C)V", sig := { parameters := [(.array .char)], returnType := none }, accessFlags := 1, code := some k7c1 }
def k7c2 : Code := { maxStack := 7, maxLocals := 4, code := jdk_42_method_4_code, exceptionTable := #[], attributes := #[] }
def k7m2 : Method := { name := "<init>", desc := "([CII)V", sig := { parameters := [(.array .char), .int, .int], returnType := none }, accessFlags := 1, code := some k7c2 }
def k7c3 : Code := { maxStack := 3, maxLocals := 3, code := jdk_42_method_5_code, exceptionTable := #[], attributes := #[] }
def k7m3 : Method := { name := "rangeCheck", desc := "([CII)Ljava/lang/Void;", sig := { parameters := [(.array .char), .int, .int], returnType := some (.object "java/lang/Void") }, accessFlags := 10, code := some k7c3 }
def k7c4 : Code := { maxStack := 2, maxLocals := 1, code := jdk_42_method_54_code, exceptionTable := #[], attributes := #[] }
def k7m4 : Method := { name := "length", desc := "()I", sig := { parameters := [], returnType := some .int }, accessFlags := 1, code := some k7c4 }
def k7c5 : Code := { maxStack := 5, maxLocals := 5, code := jdk_42_method_61_code, exceptionTable := #[], attributes := #[] }
def k7m5 : Method := { name := "getChars", desc := "(II[CI)V", sig := { parameters := [.int, .int, (.array .char), .int], returnType := none }, accessFlags := 1, code := some k7c5 }
def k7c6 : Code := { maxStack := 2, maxLocals := 3, code := jdk_42_method_66_code, exceptionTable := #[], attributes := #[] }
def k7m6 : Method := { name := "equals", desc := "(Ljava/lang/Object;)Z", sig := { parameters := [(.object "java/lang/Object")], returnType := some .boolean }, accessFlags := 1, code := some k7c6 }
def k7c7 : Code := { maxStack := 4, maxLocals := 6, code := jdk_42_method_149_code, exceptionTable := #[], attributes := #[] }
def k7m7 : Method := { name := "<init>", desc := "([CIILjava/lang/Void;)V", sig := { parameters := [(.array .char), .int, .int, (.object "java/lang/Void")], returnType := none }, accessFlags := 2, code := some k7c7 }
def k7c8 : Code := { maxStack := 1, maxLocals := 1, code := jdk_42_method_152_code, exceptionTable := #[], attributes := #[] }
def k7m8 : Method := { name := "coder", desc := "()B", sig := { parameters := [], returnType := some .byte }, accessFlags := 0, code := some k7c8 }
def k7c9 : Code := { maxStack := 1, maxLocals := 1, code := jdk_42_method_154_code, exceptionTable := #[], attributes := #[] }
def k7m9 : Method := { name := "isLatin1", desc := "()Z", sig := { parameters := [], returnType := some .boolean }, accessFlags := 0, code := some k7c9 }
def k7c10 : Code := { maxStack := 4, maxLocals := 3, code := jdk_42_method_157_code, exceptionTable := #[], attributes := #[] }
def k7m10 : Method := { name := "checkBoundsOffCount", desc := "(III)I", sig := { parameters := [.int, .int, .int], returnType := some .int }, accessFlags := 8, code := some k7c10 }
def k7c11 : Code := { maxStack := 4, maxLocals := 3, code := jdk_42_method_158_code, exceptionTable := #[], attributes := #[] }
def k7m11 : Method := { name := "checkBoundsBeginEnd", desc := "(III)V", sig := { parameters := [.int, .int, .int], returnType := none }, accessFlags := 8, code := some k7c11 }
/-- java/lang/String -/
def k7 : Class := { plain "java/lang/String" (some 0) with
  accessFlags := 49
  interfaces := #[2, 3, 4, 5, 6]
  cf := some (fileOf pool7 10 #[.nestMembers #[1103]] #[{ accessFlags := 1, nameIndex := 5, descriptorIndex := 6, attributes := #[] }, { accessFlags := 1, nameIndex := 5, descriptorIndex := 1010, attributes := #[] }, { accessFlags := 1, nameIndex := 5, descriptorIndex := 972, attributes := #[] }, { accessFlags := 10, nameIndex := 32, descriptorIndex := 33, attributes := #[] }, { accessFlags := 1, nameIndex := 507, descriptorIndex := 334, attributes := #[] }, { accessFlags := 1, nameIndex := 527, descriptorIndex := 1240, attributes := #[] }, { accessFlags := 1, nameIndex := 543, descriptorIndex := 573, attributes := #[] }, { accessFlags := 2, nameIndex := 5, descriptorIndex := 29, attributes := #[] }, { accessFlags := 0, nameIndex := 17, descriptorIndex := 337, attributes := #[] }, { accessFlags := 0, nameIndex := 494, descriptorIndex := 142, attributes := #[] }, { accessFlags := 8, nameIndex := 36, descriptorIndex := 37, attributes := #[] }, { accessFlags := 8, nameIndex := 523, descriptorIndex := 524, attributes := #[] }] 49 2 #[1106, 1108, 575, 1110, 1112] #[{ accessFlags := 18, nameIndex := 13, descriptorIndex := 14, attributes := #[] }, { accessFlags := 18, nameIndex := 17, descriptorIndex := 18, attributes := #[] }, { accessFlags := 2, nameIndex := 21, descriptorIndex := 22, attributes := #[] }, { accessFlags := 2, nameIndex := 25, descriptorIndex := 26, attributes := #[] }, { accessFlags := 26, nameIndex := 1116, descriptorIndex := 1117, attributes := #[] }, { accessFlags := 24, nameIndex := 40, descriptorIndex := 26, attributes := #[] }, { accessFlags := 26, nameIndex := 1101, descriptorIndex := 1102, attributes := #[] }, { accessFlags := 26, nameIndex := 1121, descriptorIndex := 1122, attributes := #[] }, { accessFlags := 25, nameIndex := 599, descriptorIndex := 600, attributes := #[] }, { accessFlags := 24, nameIndex := 1125, descriptorIndex := 18, attributes := #[] }, { accessFlags := 24, nameIndex := 1127, descriptorIndex := 18, attributes := #[] }])
  fields := #[{ name := "value", type := (.array .byte), accessFlags := 18, slot := 0, constantValue := 0 }, { name := "coder", type := .byte, accessFlags := 18, slot := 1, constantValue := 0 }, { name := "hash", type := .int, accessFlags := 2, slot := 2, constantValue := 0 }, { name := "hashIsZero", type := .boolean, accessFlags := 2, slot := 3, constantValue := 0 }, { name := "serialVersionUID", type := .long, accessFlags := 26, slot := 0, constantValue := 0 }, { name := "COMPACT_STRINGS", type := .boolean, accessFlags := 24, slot := 1, constantValue := 0 }, { name := "serialPersistentFields", type := (.array (.object "java/io/ObjectStreamField")), accessFlags := 26, slot := 2, constantValue := 0 }, { name := "REPL", type := .char, accessFlags := 26, slot := 3, constantValue := 0 }, { name := "CASE_INSENSITIVE_ORDER", type := (.object "java/util/Comparator"), accessFlags := 25, slot := 4, constantValue := 0 }, { name := "LATIN1", type := .byte, accessFlags := 24, slot := 5, constantValue := 0 }, { name := "UTF16", type := .byte, accessFlags := 24, slot := 6, constantValue := 0 }]
  methods := #[k7m0, k7m1, k7m2, k7m3, k7m4, k7m5, k7m6, k7m7, k7m8, k7m9, k7m10, k7m11]
  instanceTypes := #[(.array .byte), .byte, .int, .boolean]
  staticTypes := #[.long, .boolean, (.array (.object "java/io/ObjectStreamField")), .char, (.object "java/util/Comparator"), .byte, .byte]
  resolved := Array.replicate 1451 none
  statics := some 0 }

def pool8 : Array CpInfo := pool [(1, .methodref 2 3), (0, .class_ 4), (0, .nameAndType 5 6), (0, u "java/lang/Object"), (0, u "<init>"), (0, u "()V"), (0, .fieldref 8 9), (0, .class_ 10), (0, .nameAndType 11 12), (0, u "com/example/ratably/ratably/TextList"), (0, u "chars"), (0, u "[C"), (0, .fieldref 8 14), (0, .nameAndType 15 16), (0, u "ends"), (0, u "[I"), (0, .fieldref 8 18), (0, .nameAndType 19 20), (0, u "size"), (0, u "I"), (0, .methodref 8 22), (0, .nameAndType 23 24), (0, u "start"), (0, u "(I)I"), (0, .methodref 26 27), (0, .class_ 28), (0, .nameAndType 29 30), (0, u "java/lang/String"), (0, u "length"), (0, u "()I"), (0, .methodref 32 33), (0, .class_ 34), (0, .nameAndType 35 36), (0, u "java/lang/Math"), (0, u "max"), (0, u "(II)I"), (0, .methodref 38 39), (0, .class_ 40), (0, .nameAndType 41 42), (0, u "java/util/Arrays"), (0, u "copyOf"), (0, u "([CI)[C"), (3, .methodref 26 47), (0, .nameAndType 48 49), (0, u "getChars"), (0, u "(II[CI)V"), (0, .methodref 8 51), (0, .nameAndType 29 24), (0, .methodref 26 53), (0, .nameAndType 5 54), (0, u "([CII)V"), (6, u "add"), (0, u "(Ljava/lang/String;)I"), (1, u "get"), (0, u "(I)Ljava/lang/String;")] 4

def k8c0 : Code := { maxStack := 2, maxLocals := 1, code := prog_28_method_1_code, exceptionTable := #[], attributes := #[] }
def k8m0 : Method := { name := "<init>", desc := "()V", sig := { parameters := [], returnType := none }, accessFlags := 1, code := some k8c0 }
def k8c1 : Code := { maxStack := 5, maxLocals := 4, code := prog_28_method_2_code, exceptionTable := #[], attributes := #[] }
def k8m1 : Method := { name := "add", desc := "(Ljava/lang/String;)I", sig := { parameters := [(.object "java/lang/String")], returnType := some .int }, accessFlags := 1, code := some k8c1 }
def k8c2 : Code := { maxStack := 1, maxLocals := 1, code := prog_28_method_3_code, exceptionTable := #[], attributes := #[] }
def k8m2 : Method := { name := "size", desc := "()I", sig := { parameters := [], returnType := some .int }, accessFlags := 1, code := some k8c2 }
def k8c3 : Code := { maxStack := 6, maxLocals := 2, code := prog_28_method_4_code, exceptionTable := #[], attributes := #[] }
def k8m3 : Method := { name := "get", desc := "(I)Ljava/lang/String;", sig := { parameters := [.int], returnType := some (.object "java/lang/String") }, accessFlags := 1, code := some k8c3 }
def k8c4 : Code := { maxStack := 3, maxLocals := 2, code := prog_28_method_6_code, exceptionTable := #[], attributes := #[] }
def k8m4 : Method := { name := "length", desc := "(I)I", sig := { parameters := [.int], returnType := some .int }, accessFlags := 2, code := some k8c4 }
def k8c5 : Code := { maxStack := 3, maxLocals := 2, code := prog_28_method_7_code, exceptionTable := #[], attributes := #[] }
def k8m5 : Method := { name := "start", desc := "(I)I", sig := { parameters := [.int], returnType := some .int }, accessFlags := 2, code := some k8c5 }
/-- com/example/ratably/ratably/TextList -/
def k8 : Class := { plain "com/example/ratably/ratably/TextList" (some 0) with
  accessFlags := 49
  interfaces := #[]
  cf := some (fileOf pool8 8 #[] #[{ accessFlags := 1, nameIndex := 5, descriptorIndex := 6, attributes := #[] }, { accessFlags := 1, nameIndex := 61, descriptorIndex := 62, attributes := #[] }, { accessFlags := 1, nameIndex := 19, descriptorIndex := 30, attributes := #[] }, { accessFlags := 1, nameIndex := 64, descriptorIndex := 65, attributes := #[] }, { accessFlags := 2, nameIndex := 29, descriptorIndex := 24, attributes := #[] }, { accessFlags := 2, nameIndex := 23, descriptorIndex := 24, attributes := #[] }] 49 2 #[] #[{ accessFlags := 2, nameIndex := 11, descriptorIndex := 12, attributes := #[] }, { accessFlags := 2, nameIndex := 15, descriptorIndex := 16, attributes := #[] }, { accessFlags := 2, nameIndex := 19, descriptorIndex := 20, attributes := #[] }])
  fields := #[{ name := "chars", type := (.array .char), accessFlags := 2, slot := 0, constantValue := 0 }, { name := "ends", type := (.array .int), accessFlags := 2, slot := 1, constantValue := 0 }, { name := "size", type := .int, accessFlags := 2, slot := 2, constantValue := 0 }]
  methods := #[k8m0, k8m1, k8m2, k8m3, k8m4, k8m5]
  instanceTypes := #[(.array .char), (.array .int), .int]
  staticTypes := #[]
  resolved := Array.replicate 70 none
  statics := none }

def pool9 : Array CpInfo := pool [(2, .class_ 4), (1, u "java/lang/Object"), (0, u "<init>"), (0, u "()V"), (17, .class_ 26), (1, u "jdk/internal/util/Preconditions"), (20, u "checkFromToIndex"), (1, u "checkFromIndexSize"), (5, .class_ 56), (0, u "jdk/internal/util/Preconditions$4"), (57, .class_ 115), (0, u "jdk/internal/util/Preconditions$1"), (7, u "SIOOBE_FORMATTER"), (0, u "Ljava/util/function/BiFunction;"), (0, .class_ 126), (0, u "jdk/internal/util/Preconditions$2"), (3, u "AIOOBE_FORMATTER"), (0, .class_ 132), (0, u "jdk/internal/util/Preconditions$3"), (3, u "IOOBE_FORMATTER"), (46, u "(IIILjava/util/function/BiFunction;)I")] 10

def k9m0 : Method := { name := "<init>", desc := "()V", sig := { parameters := [], returnType := none }, accessFlags := 1, code := none }
def k9c1 : Code := { maxStack := 4, maxLocals := 4, code := jdk_41_method_12_code, exceptionTable := #[], attributes := #[] }
def k9m1 : Method := { name := "checkFromToIndex", desc := "(IIILjava/util/function/BiFunction;)I", sig := { parameters := [.int, .int, .int, (.object "java/util/function/BiFunction")], returnType := some .int }, accessFlags := 9, code := some k9c1 }
def k9c2 : Code := { maxStack := 4, maxLocals := 4, code := jdk_41_method_13_code, exceptionTable := #[], attributes := #[] }
def k9m2 : Method := { name := "checkFromIndexSize", desc := "(IIILjava/util/function/BiFunction;)I", sig := { parameters := [.int, .int, .int, (.object "java/util/function/BiFunction")], returnType := some .int }, accessFlags := 9, code := some k9c2 }
/-- jdk/internal/util/Preconditions -/
def k9 : Class := { plain "jdk/internal/util/Preconditions" (some 0) with
  accessFlags := 33
  interfaces := #[]
  cf := some (fileOf pool9 24 #[.nestMembers #[55, 131, 125, 114]] #[{ accessFlags := 1, nameIndex := 5, descriptorIndex := 6, attributes := #[] }, { accessFlags := 9, nameIndex := 47, descriptorIndex := 183, attributes := #[] }, { accessFlags := 9, nameIndex := 49, descriptorIndex := 183, attributes := #[] }] 33 2 #[] #[{ accessFlags := 25, nameIndex := 123, descriptorIndex := 124, attributes := #[] }, { accessFlags := 25, nameIndex := 130, descriptorIndex := 124, attributes := #[] }, { accessFlags := 25, nameIndex := 136, descriptorIndex := 124, attributes := #[] }])
  fields := #[{ name := "SIOOBE_FORMATTER", type := (.object "java/util/function/BiFunction"), accessFlags := 25, slot := 0, constantValue := 0 }, { name := "AIOOBE_FORMATTER", type := (.object "java/util/function/BiFunction"), accessFlags := 25, slot := 1, constantValue := 0 }, { name := "IOOBE_FORMATTER", type := (.object "java/util/function/BiFunction"), accessFlags := 25, slot := 2, constantValue := 0 }]
  methods := #[k9m0, k9m1, k9m2]
  instanceTypes := #[]
  staticTypes := #[(.object "java/util/function/BiFunction"), (.object "java/util/function/BiFunction"), (.object "java/util/function/BiFunction")]
  resolved := Array.replicate 194 none
  statics := some 1 }

def pool10 : Array CpInfo := pool [(4, .class_ 6), (1, u "java/lang/Object"), (0, u "<init>"), (0, u "()V"), (4, .methodref 14 15), (0, .class_ 16), (0, .nameAndType 17 18), (0, u "java/lang/StringLatin1"), (0, u "inflate"), (0, u "([BI[CII)V"), (102, u "$assertionsDisabled"), (0, u "Z"), (98, .class_ 223), (1, u "java/lang/StringLatin1$LinesSpliterator"), (50, u "getChars"), (0, u "([BII[CI)V"), (5, u "equals"), (0, u "([B[B)Z"), (107, .class_ 391), (0, u "java/lang/StringLatin1$CharsSpliterator")] 3

def k10m0 : Method := { name := "<init>", desc := "()V", sig := { parameters := [], returnType := none }, accessFlags := 0, code := none }
def k10c1 : Code := { maxStack := 6, maxLocals := 5, code := jdk_43_method_11_code, exceptionTable := #[], attributes := #[] }
def k10m1 : Method := { name := "getChars", desc := "([BII[CI)V", sig := { parameters := [(.array .byte), .int, .int, (.array .char), .int], returnType := none }, accessFlags := 9, code := some k10c1 }
def k10c2 : Code := { maxStack := 3, maxLocals := 3, code := jdk_43_method_13_code, exceptionTable := #[], attributes := #[] }
def k10m2 : Method := { name := "equals", desc := "([B[B)Z", sig := { parameters := [(.array .byte), (.array .byte)], returnType := some .boolean }, accessFlags := 9, code := some k10c2 }
def k10c3 : Code := { maxStack := 4, maxLocals := 6, code := jdk_43_method_49_code, exceptionTable := #[], attributes := #[] }
def k10m3 : Method := { name := "inflate", desc := "([BI[CII)V", sig := { parameters := [(.array .byte), .int, (.array .char), .int, .int], returnType := none }, accessFlags := 9, code := some k10c3 }
/-- java/lang/StringLatin1 -/
def k10 : Class := { plain "java/lang/StringLatin1" (some 0) with
  accessFlags := 48
  interfaces := #[]
  cf := some (fileOf pool10 14 #[.nestMembers #[390, 221]] #[{ accessFlags := 0, nameIndex := 7, descriptorIndex := 8, attributes := #[] }, { accessFlags := 9, nameIndex := 274, descriptorIndex := 275, attributes := #[] }, { accessFlags := 9, nameIndex := 281, descriptorIndex := 282, attributes := #[] }, { accessFlags := 9, nameIndex := 17, descriptorIndex := 18, attributes := #[] }] 48 4 #[] #[{ accessFlags := 4120, nameIndex := 121, descriptorIndex := 122, attributes := #[] }])
  fields := #[{ name := "$assertionsDisabled", type := .boolean, accessFlags := 4120, slot := 0, constantValue := 0 }]
  methods := #[k10m0, k10m1, k10m2, k10m3]
  instanceTypes := #[]
  staticTypes := #[.boolean]
  resolved := Array.replicate 395 none
  statics := none }

def pool11 : Array CpInfo := pool [(3, .class_ 4), (0, u "java/lang/String"), (1, .class_ 8), (1, u "java/lang/Object"), (0, u "<init>"), (0, u "()V"), (0, .methodref 12 13), (0, .class_ 14), (0, .nameAndType 15 16), (0, u "java/lang/StringUTF16"), (0, u "newBytesLength"), (0, u "(I)I"), (3, .integer 1073741823), (23, .fieldref 12 45), (0, .nameAndType 46 47), (0, u "$assertionsDisabled"), (0, u "Z"), (0, .methodref 12 49), (0, .nameAndType 50 51), (0, u "length"), (0, u "([B)I"), (7, .fieldref 12 60), (0, .nameAndType 61 62), (0, u "HI_BYTE_SHIFT"), (0, u "I"), (0, .fieldref 12 64), (0, .nameAndType 65 62), (0, u "LO_BYTE_SHIFT"), (5, .methodref 12 72), (0, .nameAndType 73 74), (0, u "getChar"), (0, u "([BI)C"), (24, u "(II[B)V"), (5, u "getChars"), (0, u "([BII[CI)V"), (0, .methodref 12 108), (0, .nameAndType 109 110), (0, u "newBytesFor"), (0, u "(I)[B"), (0, .methodref 12 112), (0, .nameAndType 113 114), (0, u "putChar"), (0, u "([BII)V"), (0, .methodref 12 116), (0, .nameAndType 117 118), (0, u "compress"), (0, u "([CI[BII)I"), (0, .methodref 12 120), (0, .nameAndType 121 122), (0, u "toBytes"), (0, u "([CII)[B"), (50, .methodref 12 174), (0, .nameAndType 175 99), (0, u "checkBoundsOffCount"), (85, u "coderFromArrayLen"), (0, u "([BI)B"), (18, u "(III)I"), (87, .class_ 371), (1, u "java/lang/StringUTF16$LinesSpliterator"), (47, .methodref 3 420), (0, .nameAndType 175 281), (9, u "MAX_LENGTH"), (196, .class_ 628), (0, u "java/lang/StringUTF16$CodePointsSpliterator"), (0, .class_ 630), (0, u "java/lang/StringUTF16$CharsSpliterator")] 4

def k11m0 : Method := { name := "<init>", desc := "()V", sig := { parameters := [], returnType := none }, accessFlags := 0, code := none }
def k11c1 : Code := { maxStack := 1, maxLocals := 1, code := jdk_52_method_2_code, exceptionTable := #[], attributes := #[] }
def k11m1 : Method := { name := "newBytesFor", desc := "(I)[B", sig := { parameters := [.int], returnType := some (.array .byte) }, accessFlags := 9, code := some k11c1 }
def k11c2 : Code := { maxStack := 4, maxLocals := 1, code := jdk_52_method_3_code, exceptionTable := #[], attributes := #[] }
def k11m2 : Method := { name := "newBytesLength", desc := "(I)I", sig := { parameters := [.int], returnType := some .int }, accessFlags := 9, code := some k11c2 }
def k11c3 : Code := { maxStack := 4, maxLocals := 3, code := jdk_52_method_4_code, exceptionTable := #[], attributes := #[] }
def k11m3 : Method := { name := "putChar", desc := "([BII)V", sig := { parameters := [(.array .byte), .int, .int], returnType := none }, accessFlags := 8, code := some k11c3 }
def k11c4 : Code := { maxStack := 3, maxLocals := 2, code := jdk_52_method_5_code, exceptionTable := #[], attributes := #[] }
def k11m4 : Method := { name := "getChar", desc := "([BI)C", sig := { parameters := [(.array .byte), .int], returnType := some .char }, accessFlags := 8, code := some k11c4 }
def k11c5 : Code := { maxStack := 2, maxLocals := 1, code := jdk_52_method_6_code, exceptionTable := #[], attributes := #[] }
def k11m5 : Method := { name := "length", desc := "([B)I", sig := { parameters := [(.array .byte)], returnType := some .int }, accessFlags := 9, code := some k11c5 }
def k11c6 : Code := { maxStack := 4, maxLocals := 5, code := jdk_52_method_14_code, exceptionTable := #[], attributes := #[] }
def k11m6 : Method := { name := "toBytes", desc := "([CII)[B", sig := { parameters := [(.array .char), .int, .int], returnType := some (.array .byte) }, accessFlags := 9, code := some k11c6 }
def k11c7 : Code := { maxStack := 2, maxLocals := 2, code := jdk_52_method_15_code, exceptionTable := #[], attributes := #[] }
def k11m7 : Method := { name := "coderFromArrayLen", desc := "([BI)B", sig := { parameters := [(.array .byte), .int], returnType := some .byte }, accessFlags := 8, code := some k11c7 }
def k11c8 : Code := { maxStack := 5, maxLocals := 6, code := jdk_52_method_16_code, exceptionTable := #[], attributes := #[] }
def k11m8 : Method := { name := "compress", desc := "([CII)[B", sig := { parameters := [(.array .char), .int, .int], returnType := some (.array .byte) }, accessFlags := 9, code := some k11c8 }
def k11c9 : Code := { maxStack := 3, maxLocals := 7, code := jdk_52_method_21_code, exceptionTable := #[], attributes := #[] }
def k11m9 : Method := { name := "compress", desc := "([CI[BII)I", sig := { parameters := [(.array .char), .int, (.array .byte), .int, .int], returnType := some .int }, accessFlags := 9, code := some k11c9 }
def k11c10 : Code := { maxStack := 4, maxLocals := 6, code := jdk_52_method_26_code, exceptionTable := #[], attributes := #[] }
def k11m10 : Method := { name := "getChars", desc := "([BII[CI)V", sig := { parameters := [(.array .byte), .int, .int, (.array .char), .int], returnType := none }, accessFlags := 9, code := some k11c10 }
def k11c11 : Code := { maxStack := 3, maxLocals := 3, code := jdk_52_method_94_code, exceptionTable := #[], attributes := #[] }
def k11m11 : Method := { name := "checkBoundsOffCount", desc := "(II[B)V", sig := { parameters := [.int, .int, (.array .byte)], returnType := none }, accessFlags := 9, code := some k11c11 }
/-- java/lang/StringUTF16 -/
def k11 : Class := { plain "java/lang/StringUTF16" (some 0) with
  accessFlags := 48
  interfaces := #[]
  cf := some (fileOf pool11 12 #[.nestMembers #[627, 629, 369]] #[{ accessFlags := 0, nameIndex := 9, descriptorIndex := 10, attributes := #[] }, { accessFlags := 9, nameIndex := 109, descriptorIndex := 110, attributes := #[] }, { accessFlags := 9, nameIndex := 15, descriptorIndex := 16, attributes := #[] }, { accessFlags := 8, nameIndex := 113, descriptorIndex := 114, attributes := #[] }, { accessFlags := 8, nameIndex := 73, descriptorIndex := 74, attributes := #[] }, { accessFlags := 9, nameIndex := 50, descriptorIndex := 51, attributes := #[] }, { accessFlags := 9, nameIndex := 121, descriptorIndex := 122, attributes := #[] }, { accessFlags := 8, nameIndex := 261, descriptorIndex := 262, attributes := #[] }, { accessFlags := 9, nameIndex := 117, descriptorIndex := 122, attributes := #[] }, { accessFlags := 9, nameIndex := 117, descriptorIndex := 118, attributes := #[] }, { accessFlags := 9, nameIndex := 105, descriptorIndex := 106, attributes := #[] }, { accessFlags := 9, nameIndex := 175, descriptorIndex := 99, attributes := #[] }] 48 6 #[] #[{ accessFlags := 26, nameIndex := 61, descriptorIndex := 62, attributes := #[] }, { accessFlags := 26, nameIndex := 65, descriptorIndex := 62, attributes := #[] }, { accessFlags := 24, nameIndex := 430, descriptorIndex := 62, attributes := #[] }, { accessFlags := 4120, nameIndex := 46, descriptorIndex := 47, attributes := #[] }])
  fields := #[{ name := "HI_BYTE_SHIFT", type := .int, accessFlags := 26, slot := 0, constantValue := 0 }, { name := "LO_BYTE_SHIFT", type := .int, accessFlags := 26, slot := 1, constantValue := 0 }, { name := "MAX_LENGTH", type := .int, accessFlags := 24, slot := 2, constantValue := 0 }, { name := "$assertionsDisabled", type := .boolean, accessFlags := 4120, slot := 3, constantValue := 0 }]
  methods := #[k11m0, k11m1, k11m2, k11m3, k11m4, k11m5, k11m6, k11m7, k11m8, k11m9, k11m10, k11m11]
  instanceTypes := #[]
  staticTypes := #[.int, .int, .int, .boolean]
  resolved := Array.replicate 635 none
  statics := some 2 }

def pool12 : Array CpInfo := pool [(1, .class_ 2), (0, u "java/lang/Math"), (1, .class_ 6), (1, u "java/lang/Object"), (0, u "<init>"), (0, u "()V"), (89, .class_ 100), (1, u "java/lang/Math$RandomNumberGeneratorHolder"), (71, u "negativeZeroFloatBits"), (0, u "J"), (2, u "negativeZeroDoubleBits"), (21, u "max"), (2, u "min"), (43, u "$assertionsDisabled"), (0, u "Z"), (88, u "(II)I"), (2, u "twoToTheDoubleScaleDown"), (0, u "D"), (4, u "twoToTheDoubleScaleUp"), (9, u "E"), (3, u "PI"), (2, u "TAU"), (2, u "DEGREES_TO_RADIANS"), (0, u "RADIANS_TO_DEGREES")] 94

def k12m0 : Method := { name := "<init>", desc := "()V", sig := { parameters := [], returnType := none }, accessFlags := 2, code := none }
def k12c1 : Code := { maxStack := 2, maxLocals := 2, code := jdk_29_method_65_code, exceptionTable := #[], attributes := #[] }
def k12m1 : Method := { name := "max", desc := "(II)I", sig := { parameters := [.int, .int], returnType := some .int }, accessFlags := 9, code := some k12c1 }
def k12c2 : Code := { maxStack := 2, maxLocals := 2, code := jdk_29_method_69_code, exceptionTable := #[], attributes := #[] }
def k12m2 : Method := { name := "min", desc := "(II)I", sig := { parameters := [.int, .int], returnType := some .int }, accessFlags := 9, code := some k12c2 }
/-- java/lang/Math -/
def k12 : Class := { plain "java/lang/Math" (some 0) with
  accessFlags := 49
  interfaces := #[]
  cf := some (fileOf pool12 1 #[.nestMembers #[98]] #[{ accessFlags := 2, nameIndex := 7, descriptorIndex := 8, attributes := #[] }, { accessFlags := 9, nameIndex := 198, descriptorIndex := 335, attributes := #[] }, { accessFlags := 9, nameIndex := 201, descriptorIndex := 335, attributes := #[] }] 49 4 #[] #[{ accessFlags := 25, nameIndex := 354, descriptorIndex := 339, attributes := #[] }, { accessFlags := 25, nameIndex := 358, descriptorIndex := 339, attributes := #[] }, { accessFlags := 25, nameIndex := 361, descriptorIndex := 339, attributes := #[] }, { accessFlags := 26, nameIndex := 364, descriptorIndex := 339, attributes := #[] }, { accessFlags := 26, nameIndex := 365, descriptorIndex := 339, attributes := #[] }, { accessFlags := 26, nameIndex := 172, descriptorIndex := 173, attributes := #[] }, { accessFlags := 26, nameIndex := 176, descriptorIndex := 173, attributes := #[] }, { accessFlags := 8, nameIndex := 344, descriptorIndex := 339, attributes := #[] }, { accessFlags := 8, nameIndex := 338, descriptorIndex := 339, attributes := #[] }, { accessFlags := 4120, nameIndex := 245, descriptorIndex := 246, attributes := #[] }])
  fields := #[{ name := "E", type := .double, accessFlags := 25, slot := 0, constantValue := 0 }, { name := "PI", type := .double, accessFlags := 25, slot := 1, constantValue := 0 }, { name := "TAU", type := .double, accessFlags := 25, slot := 2, constantValue := 0 }, { name := "DEGREES_TO_RADIANS", type := .double, accessFlags := 26, slot := 3, constantValue := 0 }, { name := "RADIANS_TO_DEGREES", type := .double, accessFlags := 26, slot := 4, constantValue := 0 }, { name := "negativeZeroFloatBits", type := .long, accessFlags := 26, slot := 5, constantValue := 0 }, { name := "negativeZeroDoubleBits", type := .long, accessFlags := 26, slot := 6, constantValue := 0 }, { name := "twoToTheDoubleScaleUp", type := .double, accessFlags := 8, slot := 7, constantValue := 0 }, { name := "twoToTheDoubleScaleDown", type := .double, accessFlags := 8, slot := 8, constantValue := 0 }, { name := "$assertionsDisabled", type := .boolean, accessFlags := 4120, slot := 9, constantValue := 0 }]
  methods := #[k12m0, k12m1, k12m2]
  instanceTypes := #[]
  staticTypes := #[.double, .double, .double, .double, .double, .long, .long, .double, .double, .boolean]
  resolved := Array.replicate 460 none
  statics := none }

def pool13 : Array CpInfo := pool [(2, .class_ 4), (1, u "java/lang/Object"), (0, u "<init>"), (0, u "()V"), (7, .class_ 16), (1, u "java/util/Arrays"), (57, .class_ 76), (1, u "java/util/Arrays$NaturalOrder"), (36, .class_ 115), (1, u "java/util/Arrays$LegacyMergeSort"), (1, u "Z"), (32, .methodref 151 152), (0, .class_ 153), (0, .nameAndType 154 155), (0, u "java/lang/System"), (0, u "arraycopy"), (0, u "(Ljava/lang/Object;ILjava/lang/Object;II)V"), (146, u "copyOf"), (1, .methodref 305 306), (0, .class_ 307), (0, .nameAndType 308 309), (0, u "java/lang/Math"), (0, u "min"), (0, u "(II)I"), (65, .class_ 376), (0, u "java/util/Arrays$ArrayList"), (68, u "$assertionsDisabled"), (269, u "MIN_ARRAY_SORT_GRAN"), (0, u "I"), (2, u "INSERTIONSORT_THRESHOLD"), (153, u "([CI)[C"), (101, .class_ 976), (0, u "java/util/Arrays$ArrayItr")] 52

def k13m0 : Method := { name := "<init>", desc := "()V", sig := { parameters := [], returnType := none }, accessFlags := 2, code := none }
def k13c1 : Code := { maxStack := 6, maxLocals := 3, code := jdk_65_method_125_code, exceptionTable := #[], attributes := #[] }
def k13m1 : Method := { name := "copyOf", desc := "([CI)[C", sig := { parameters := [(.array .char), .int], returnType := some (.array .char) }, accessFlags := 9, code := some k13c1 }
/-- java/util/Arrays -/
def k13 : Class := { plain "java/util/Arrays" (some 0) with
  accessFlags := 49
  interfaces := #[]
  cf := some (fileOf pool13 14 #[.nestMembers #[975, 375, 113, 74]] #[{ accessFlags := 2, nameIndex := 5, descriptorIndex := 6, attributes := #[] }, { accessFlags := 9, nameIndex := 302, descriptorIndex := 873, attributes := #[] }] 49 2 #[] #[{ accessFlags := 26, nameIndex := 715, descriptorIndex := 716, attributes := #[] }, { accessFlags := 26, nameIndex := 719, descriptorIndex := 716, attributes := #[] }, { accessFlags := 4120, nameIndex := 445, descriptorIndex := 117, attributes := #[] }])
  fields := #[{ name := "MIN_ARRAY_SORT_GRAN", type := .int, accessFlags := 26, slot := 0, constantValue := 0 }, { name := "INSERTIONSORT_THRESHOLD", type := .int, accessFlags := 26, slot := 1, constantValue := 0 }, { name := "$assertionsDisabled", type := .boolean, accessFlags := 4120, slot := 2, constantValue := 0 }]
  methods := #[k13m0, k13m1]
  instanceTypes := #[]
  staticTypes := #[.int, .int, .boolean]
  resolved := Array.replicate 1029 none
  statics := none }

def pool14 : Array CpInfo := pool [(2, .class_ 4), (1, u "java/lang/Object"), (0, u "<init>"), (0, u "()V"), (1, .class_ 10), (1, u "java/lang/System"), (0, u "allowSecurityManager"), (0, u "I"), (16, u "cons"), (0, u "Ljava/io/Console;"), (77, .class_ 110), (1, u "java/lang/System$CallersHolder"), (43, u "initialErrStream"), (0, u "Ljava/io/PrintStream;"), (19, u "security"), (0, u "Ljava/lang/SecurityManager;"), (31, .class_ 209), (0, u "java/lang/System$1"), (7, u "props"), (0, u "Ljava/util/Properties;"), (2, u "lineSeparator"), (0, u "Ljava/lang/String;"), (96, .class_ 321), (1, u "java/lang/System$LoggerFinder"), (5, .class_ 328), (0, u "java/lang/System$Logger"), (67, u "err"), (2, u "out"), (91, u "notSupportedJnuEncoding"), (15, u "in"), (17, u "initialIn"), (0, u "Ljava/io/InputStream;"), (35, u "bootLayer"), (0, u "Ljava/lang/ModuleLayer;"), (99, .class_ 664), (0, u "java/lang/System$2"), (9, u "NEVER"), (2, u "MAYBE"), (49, u "arraycopy"), (0, u "(Ljava/lang/Object;ILjava/lang/Object;II)V"), (72, .class_ 802), (0, u "java/lang/System$Logger$Level")] 31

def k14m0 : Method := { name := "<init>", desc := "()V", sig := { parameters := [], returnType := none }, accessFlags := 2, code := none }
def k14m1 : Method := { name := "arraycopy", desc := "(Ljava/lang/Object;ILjava/lang/Object;II)V", sig := { parameters := [(.object "java/lang/Object"), .int, (.object "java/lang/Object"), .int, .int], returnType := none }, accessFlags := 265, code := none }
/-- java/lang/System -/
def k14 : Class := { plain "java/lang/System" (some 0) with
  accessFlags := 49
  interfaces := #[]
  cf := some (fileOf pool14 8 #[.nestMembers #[319, 327, 801, 108, 663, 208]] #[{ accessFlags := 2, nameIndex := 5, descriptorIndex := 6, attributes := #[] }, { accessFlags := 265, nameIndex := 727, descriptorIndex := 728, attributes := #[] }] 49 2 #[] #[{ accessFlags := 25, nameIndex := 507, descriptorIndex := 526, attributes := #[] }, { accessFlags := 25, nameIndex := 399, descriptorIndex := 155, attributes := #[] }, { accessFlags := 25, nameIndex := 396, descriptorIndex := 155, attributes := #[] }, { accessFlags := 10, nameIndex := 525, descriptorIndex := 526, attributes := #[] }, { accessFlags := 26, nameIndex := 674, descriptorIndex := 12, attributes := #[] }, { accessFlags := 26, nameIndex := 677, descriptorIndex := 12, attributes := #[] }, { accessFlags := 10, nameIndex := 11, descriptorIndex := 12, attributes := #[] }, { accessFlags := 74, nameIndex := 175, descriptorIndex := 176, attributes := #[] }, { accessFlags := 10, nameIndex := 491, descriptorIndex := 222, attributes := #[] }, { accessFlags := 74, nameIndex := 29, descriptorIndex := 30, attributes := #[] }, { accessFlags := 74, nameIndex := 154, descriptorIndex := 155, attributes := #[] }, { accessFlags := 10, nameIndex := 217, descriptorIndex := 218, attributes := #[] }, { accessFlags := 10, nameIndex := 221, descriptorIndex := 222, attributes := #[] }, { accessFlags := 8, nameIndex := 562, descriptorIndex := 563, attributes := #[] }])
  fields := #[{ name := "in", type := (.object "java/io/InputStream"), accessFlags := 25, slot := 0, constantValue := 0 }, { name := "out", type := (.object "java/io/PrintStream"), accessFlags := 25, slot := 1, constantValue := 0 }, { name := "err", type := (.object "java/io/PrintStream"), accessFlags := 25, slot := 2, constantValue := 0 }, { name := "initialIn", type := (.object "java/io/InputStream"), accessFlags := 10, slot := 3, constantValue := 0 }, { name := "NEVER", type := .int, accessFlags := 26, slot := 4, constantValue := 0 }, { name := "MAYBE", type := .int, accessFlags := 26, slot := 5, constantValue := 0 }, { name := "allowSecurityManager", type := .int, accessFlags := 10, slot := 6, constantValue := 0 }, { name := "security", type := (.object "java/lang/SecurityManager"), accessFlags := 74, slot := 7, constantValue := 0 }, { name := "notSupportedJnuEncoding", type := (.object "java/lang/String"), accessFlags := 10, slot := 8, constantValue := 0 }, { name := "cons", type := (.object "java/io/Console"), accessFlags := 74, slot := 9, constantValue := 0 }, { name := "initialErrStream", type := (.object "java/io/PrintStream"), accessFlags := 74, slot := 10, constantValue := 0 }, { name := "props", type := (.object "java/util/Properties"), accessFlags := 10, slot := 11, constantValue := 0 }, { name := "lineSeparator", type := (.object "java/lang/String"), accessFlags := 10, slot := 12, constantValue := 0 }, { name := "bootLayer", type := (.object "java/lang/ModuleLayer"), accessFlags := 8, slot := 13, constantValue := 0 }]
  methods := #[k14m0, k14m1]
  instanceTypes := #[]
  staticTypes := #[(.object "java/io/InputStream"), (.object "java/io/PrintStream"), (.object "java/io/PrintStream"), (.object "java/io/InputStream"), .int, .int, .int, (.object "java/lang/SecurityManager"), (.object "java/lang/String"), (.object "java/io/Console"), (.object "java/io/PrintStream"), (.object "java/util/Properties"), (.object "java/lang/String"), (.object "java/lang/ModuleLayer")]
  resolved := Array.replicate 834 none
  statics := none }

def pool15 : Array CpInfo := pool [(9, u "<init>"), (6, .class_ 18), (1, u "java/lang/Object"), (0, u "()V"), (1, .class_ 23), (1, u "jdk/internal/util/ArraysSupport"), (0, u "LOG2_ARRAY_LONG_INDEX_SCALE"), (0, u "I"), (2, u "U"), (0, u "Ljdk/internal/misc/Unsafe;"), (8, u "BIG_ENDIAN"), (0, u "Z"), (8, u "LOG2_BYTE_BIT_SIZE"), (4, u "LOG2_ARRAY_INT_INDEX_SCALE"), (54, u "JLA"), (0, u "Ljdk/internal/access/JavaLangAccess;"), (11, u "LOG2_ARRAY_BOOLEAN_INDEX_SCALE"), (9, u "LOG2_ARRAY_BYTE_INDEX_SCALE"), (5, u "LOG2_ARRAY_CHAR_INDEX_SCALE"), (5, u "LOG2_ARRAY_SHORT_INDEX_SCALE"), (18, u "LOG2_ARRAY_FLOAT_INDEX_SCALE"), (24, u "LOG2_ARRAY_DOUBLE_INDEX_SCALE"), (89, u "T_BOOLEAN"), (2, u "T_CHAR"), (1, u "T_FLOAT"), (1, u "T_DOUBLE"), (1, u "T_BYTE"), (1, u "T_SHORT"), (1, u "T_INT"), (1, u "T_LONG"), (1, u "SOFT_MAX_ARRAY_LENGTH")] 83

def k15m0 : Method := { name := "<init>", desc := "()V", sig := { parameters := [], returnType := none }, accessFlags := 2, code := none }
/-- jdk/internal/util/ArraysSupport -/
def k15 : Class := { plain "jdk/internal/util/ArraysSupport" (some 0) with
  accessFlags := 33
  interfaces := #[]
  cf := some (fileOf pool15 21 #[] #[{ accessFlags := 2, nameIndex := 9, descriptorIndex := 19, attributes := #[] }] 33 16 #[] #[{ accessFlags := 24, nameIndex := 28, descriptorIndex := 29, attributes := #[] }, { accessFlags := 26, nameIndex := 38, descriptorIndex := 39, attributes := #[] }, { accessFlags := 25, nameIndex := 121, descriptorIndex := 25, attributes := #[] }, { accessFlags := 25, nameIndex := 131, descriptorIndex := 25, attributes := #[] }, { accessFlags := 25, nameIndex := 137, descriptorIndex := 25, attributes := #[] }, { accessFlags := 25, nameIndex := 143, descriptorIndex := 25, attributes := #[] }, { accessFlags := 25, nameIndex := 53, descriptorIndex := 25, attributes := #[] }, { accessFlags := 25, nameIndex := 24, descriptorIndex := 25, attributes := #[] }, { accessFlags := 25, nameIndex := 162, descriptorIndex := 25, attributes := #[] }, { accessFlags := 25, nameIndex := 187, descriptorIndex := 25, attributes := #[] }, { accessFlags := 26, nameIndex := 48, descriptorIndex := 25, attributes := #[] }, { accessFlags := 25, nameIndex := 277, descriptorIndex := 25, attributes := #[] }, { accessFlags := 25, nameIndex := 280, descriptorIndex := 25, attributes := #[] }, { accessFlags := 25, nameIndex := 282, descriptorIndex := 25, attributes := #[] }, { accessFlags := 25, nameIndex := 284, descriptorIndex := 25, attributes := #[] }, { accessFlags := 25, nameIndex := 286, descriptorIndex := 25, attributes := #[] }, { accessFlags := 25, nameIndex := 288, descriptorIndex := 25, attributes := #[] }, { accessFlags := 25, nameIndex := 290, descriptorIndex := 25, attributes := #[] }, { accessFlags := 25, nameIndex := 292, descriptorIndex := 25, attributes := #[] }, { accessFlags := 26, nameIndex := 108, descriptorIndex := 109, attributes := #[] }, { accessFlags := 25, nameIndex := 294, descriptorIndex := 25, attributes := #[] }])
  fields := #[{ name := "U", type := (.object "jdk/internal/misc/Unsafe"), accessFlags := 24, slot := 0, constantValue := 0 }, { name := "BIG_ENDIAN", type := .boolean, accessFlags := 26, slot := 1, constantValue := 0 }, { name := "LOG2_ARRAY_BOOLEAN_INDEX_SCALE", type := .int, accessFlags := 25, slot := 2, constantValue := 0 }, { name := "LOG2_ARRAY_BYTE_INDEX_SCALE", type := .int, accessFlags := 25, slot := 3, constantValue := 0 }, { name := "LOG2_ARRAY_CHAR_INDEX_SCALE", type := .int, accessFlags := 25, slot := 4, constantValue := 0 }, { name := "LOG2_ARRAY_SHORT_INDEX_SCALE", type := .int, accessFlags := 25, slot := 5, constantValue := 0 }, { name := "LOG2_ARRAY_INT_INDEX_SCALE", type := .int, accessFlags := 25, slot := 6, constantValue := 0 }, { name := "LOG2_ARRAY_LONG_INDEX_SCALE", type := .int, accessFlags := 25, slot := 7, constantValue := 0 }, { name := "LOG2_ARRAY_FLOAT_INDEX_SCALE", type := .int, accessFlags := 25, slot := 8, constantValue := 0 }, { name := "LOG2_ARRAY_DOUBLE_INDEX_SCALE", type := .int, accessFlags := 25, slot := 9, constantValue := 0 }, { name := "LOG2_BYTE_BIT_SIZE", type := .int, accessFlags := 26, slot := 10, constantValue := 0 }, { name := "T_BOOLEAN", type := .int, accessFlags := 25, slot := 11, constantValue := 0 }, { name := "T_CHAR", type := .int, accessFlags := 25, slot := 12, constantValue := 0 }, { name := "T_FLOAT", type := .int, accessFlags := 25, slot := 13, constantValue := 0 }, { name := "T_DOUBLE", type := .int, accessFlags := 25, slot := 14, constantValue := 0 }, { name := "T_BYTE", type := .int, accessFlags := 25, slot := 15, constantValue := 0 }, { name := "T_SHORT", type := .int, accessFlags := 25, slot := 16, constantValue := 0 }, { name := "T_INT", type := .int, accessFlags := 25, slot := 17, constantValue := 0 }, { name := "T_LONG", type := .int, accessFlags := 25, slot := 18, constantValue := 0 }, { name := "JLA", type := (.object "jdk/internal/access/JavaLangAccess"), accessFlags := 26, slot := 19, constantValue := 0 }, { name := "SOFT_MAX_ARRAY_LENGTH", type := .int, accessFlags := 25, slot := 20, constantValue := 0 }]
  methods := #[k15m0]
  instanceTypes := #[]
  staticTypes := #[(.object "jdk/internal/misc/Unsafe"), .boolean, .int, .int, .int, .int, .int, .int, .int, .int, .int, .int, .int, .int, .int, .int, .int, .int, .int, (.object "jdk/internal/access/JavaLangAccess"), .int]
  resolved := Array.replicate 378 none
  statics := none }

def pool16 : Array CpInfo := pool [(1, u "java/lang/Cloneable"), (0, .class_ 1), (0, u "java/lang/Object"), (0, .class_ 3)] 3

/-- java/lang/Cloneable -/
def k16 : Class := { plain "java/lang/Cloneable" (some 0) with
  accessFlags := 1537
  interfaces := #[]
  cf := some (fileOf pool16 2 #[] #[] 1537 4 #[] #[])
  fields := #[]
  methods := #[]
  instanceTypes := #[]
  staticTypes := #[]
  resolved := Array.replicate 8 none
  statics := none }

/-- the primitive byte -/
def k17 : Class := { plain "byte" none with kind := .primitive 'B', accessFlags := 0x411 }
/-- [B -/
def k18 : Class := { plain "[B" (some 0) with kind := .array 17 .byte, interfaces := #[16, 2], accessFlags := 1041 }

/-- the primitive char -/
def k19 : Class := { plain "char" none with kind := .primitive 'C', accessFlags := 0x411 }
/-- [C -/
def k20 : Class := { plain "[C" (some 0) with kind := .array 19 .char, interfaces := #[16, 2], accessFlags := 1041 }

/-- the primitive int -/
def k21 : Class := { plain "int" none with kind := .primitive 'I', accessFlags := 0x411 }
/-- [I -/
def k22 : Class := { plain "[I" (some 0) with kind := .array 21 .int, interfaces := #[16, 2], accessFlags := 1041 }

def heap : Heap := #[{ cls := 7, slots := #[.long 0, .int 1, .null, .int 0, .null, .int 0, .int 0], vm := .statics 7 },
  { cls := 9, slots := #[.null, .null, .null], vm := .statics 9 },
  { cls := 11, slots := #[.int 0, .int 8, .int 0, .int 1], vm := .statics 11 }]
def classes : Array Class := #[k0, k1, k2, k3, k4, k5, k6, k7, k8, k9, k10, k11, k12, k13, k14, k15, k16, k17, k18, k19, k20, k21, k22]
def interned : List (Array UInt16 × Addr) := []
def slotsUsed : Nat := 14
def theMethod : MethodId := ⟨1, 2⟩
def args0 : Array Value := #[.int 91, .long 4295032898, .long 65, .long 300]
def aboutOver (below : List Frame) : State where
  vm := { classes := classes, interned := interned.toArray }
  heap := heap
  slotsUsed := slotsUsed
  threads := #[{ frames := .invoking theMethod args0 :: below }]
def below0 : List Frame := [.native { method := ⟨0, 0⟩, args := #[] }]
def about1 : State := aboutOver below0
def p0 : Program := .bare "" "" ""
def e0 : Env := launch0.env 0 0 0
theorem w_frames : about1.frames = Frame.invoking theMethod args0 :: below0 := rfl
set_option maxRecDepth 65536 in
theorem w_args : argsFit about1.vm theMethod args0 = true := by decide +kernel
set_option maxRecDepth 65536 in
theorem w_heap : heapFits about1 = true := by decide +kernel
set_option maxRecDepth 65536 in
theorem w_runnable : about1.curStatus? = some .runnable := by decide +kernel
set_option maxRecDepth 65536 in
theorem w_alone : about1.alone = true := by decide +kernel
set_option maxRecDepth 65536 in
theorem w_named : about1.methodNamed? x = some theMethod := by decide +kernel
set_option maxRecDepth 65536 in
theorem w_hears : about1.hears theMethod below0 = true := by decide +kernel
set_option maxRecDepth 65536 in
theorem w_ripe : about1.ripe theMethod args0 below0 = true := by decide +kernel
theorem w_running : about1.status = .running := rfl
set_option maxRecDepth 65536 in
theorem w_room : about1.hasRoom e0.platform room_1 = true :=
  launch0.hasRoom_least _ room_1 (by decide +kernel) (by decide +kernel) (by decide +kernel) (by decide +kernel) (by decide +kernel) (by decide +kernel)
theorem allAtoms_all (ts : List Jvm.Cond) (a : Array Jvm.Value) (st : Jvm.State) : (allAtoms ts).before a st = ts.all (fun c => c.before a st) := by
  induction ts with
  | nil => rfl
  | cons c t ih =>
    show (Jvm.Cond.and c (allAtoms t)).before a st = _
    rw [Jvm.Cond.before_and, ih, List.all_cons]
def words1 : List Jvm.Cond := Jvm.Cond.code x code maxLocals ret :: tables_1
/-- a 'code' word, met by the world's own term for the bytes: nothing is compared byte by byte -/
theorem code_word {y : MethodName} {bytes : ByteArray} {mx : Nat} {rt : Option FieldType} {a : Array Value} {s : State} {m : MethodId} {meth : Method} {c : Code} (h1 : s.methodNamed? y = some m) (h2 : s.vm.method? m = some meth) (h3 : meth.code = some c) (h4 : c.code = bytes)
    (h5 : (c.maxLocals == mx && c.exceptionTable.isEmpty && decide (c.maxStack ≤ mostOperands) && decide (meth.sig.returnType = rt) && !meth.locks && decide (parseMethodDescriptor y.desc = some meth.sig)) = true) : (Jvm.Cond.code y bytes mx rt).before a s = true := by
  simp only [Bool.and_eq_true, beq_iff_eq, Bool.not_eq_true', decide_eq_true_eq] at h5
  obtain ⟨⟨⟨⟨⟨g1, g2⟩, g3⟩, g4⟩, g5⟩, g6⟩ := h5
  simp [Cond.before, Cond.holds, Cond.value, h1, h2, h3, h4, g1, g2, g3, g4, g5, g6]
def isCode : Jvm.Cond → Bool
  | .code _ _ _ _ => true
  | _ => false
theorem all_split {L : List Jvm.Cond} {P : Jvm.Cond → Bool} (h1 : L.all (fun c => isCode c || P c) = true) (h2 : ∀ c ∈ L.filter isCode, P c = true) : L.all P = true := by
  refine List.all_eq_true.mpr fun c hc => ?_
  have h := List.all_eq_true.mp h1 c hc
  rcases Bool.eq_false_or_eq_true (isCode c) with hi | hi
  · exact h2 c (List.mem_filter.mpr ⟨hc, hi⟩)
  · simpa [hi] using h
set_option maxRecDepth 65536 in
theorem w_c0 : (Jvm.Cond.code x code maxLocals ret).before args0 about1 = true := code_word (m := ⟨1, 2⟩) (meth := k1m2) (c := k1c2) (by decide +kernel) rfl rfl rfl (by decide +kernel)
set_option maxRecDepth 65536 in
theorem w_c1 : (Jvm.Cond.code ({ cls := "com/example/ratably/ratably/TextListGetPinLaw", name := "mk", desc := "(IJ)Ljava/lang/String;" } : Jvm.MethodName) method_2_code (4 : Nat) (Option.some (Jvm.ClassFile.FieldType.object "java/lang/String"))).before args0 about1 = true := code_word (m := ⟨1, 1⟩) (meth := k1m1) (c := k1c1) (by decide +kernel) rfl rfl rfl (by decide +kernel)
set_option maxRecDepth 65536 in
theorem w_c2 : (Jvm.Cond.code ({ cls := "java/lang/String", name := "<init>", desc := "([C)V" } : Jvm.MethodName) jdk_42_method_3_code (2 : Nat) (Option.none : Option Jvm.ClassFile.FieldType)).before args0 about1 = true := code_word (m := ⟨7, 1⟩) (meth := k7m1) (c := k7c1) (by decide +kernel) rfl rfl rfl (by decide +kernel)
set_option maxRecDepth 65536 in
theorem w_c3 : (Jvm.Cond.code ({ cls := "java/lang/String", name := "<init>", desc := "([CIILjava/lang/Void;)V" } : Jvm.MethodName) jdk_42_method_149_code (6 : Nat) (Option.none : Option Jvm.ClassFile.FieldType)).before args0 about1 = true := code_word (m := ⟨7, 7⟩) (meth := k7m7) (c := k7c7) (by decide +kernel) rfl rfl rfl (by decide +kernel)
set_option maxRecDepth 65536 in
theorem w_c4 : (Jvm.Cond.code ({ cls := "java/lang/Object", name := "<init>", desc := "()V" } : Jvm.MethodName) object_method_1_code (1 : Nat) (Option.none : Option Jvm.ClassFile.FieldType)).before args0 about1 = true := code_word (m := ⟨0, 0⟩) (meth := k0m0) (c := k0c0) (by decide +kernel) rfl rfl rfl (by decide +kernel)
set_option maxRecDepth 65536 in
theorem w_c5 : (Jvm.Cond.code ({ cls := "com/example/ratably/ratably/TextList", name := "<init>", desc := "()V" } : Jvm.MethodName) prog_28_method_1_code (1 : Nat) (Option.none : Option Jvm.ClassFile.FieldType)).before args0 about1 = true := code_word (m := ⟨8, 0⟩) (meth := k8m0) (c := k8c0) (by decide +kernel) rfl rfl rfl (by decide +kernel)
set_option maxRecDepth 65536 in
theorem w_c6 : (Jvm.Cond.code ({ cls := "com/example/ratably/ratably/TextList", name := "add", desc := "(Ljava/lang/String;)I" } : Jvm.MethodName) prog_28_method_2_code (4 : Nat) (Option.some Jvm.ClassFile.FieldType.int)).before args0 about1 = true := code_word (m := ⟨8, 1⟩) (meth := k8m1) (c := k8c1) (by decide +kernel) rfl rfl rfl (by decide +kernel)
set_option maxRecDepth 65536 in
theorem w_c7 : (Jvm.Cond.code ({ cls := "com/example/ratably/ratably/TextList", name := "start", desc := "(I)I" } : Jvm.MethodName) prog_28_method_7_code (2 : Nat) (Option.some Jvm.ClassFile.FieldType.int)).before args0 about1 = true := code_word (m := ⟨8, 5⟩) (meth := k8m5) (c := k8c5) (by decide +kernel) rfl rfl rfl (by decide +kernel)
set_option maxRecDepth 65536 in
theorem w_c8 : (Jvm.Cond.code ({ cls := "java/lang/String", name := "length", desc := "()I" } : Jvm.MethodName) jdk_42_method_54_code (1 : Nat) (Option.some Jvm.ClassFile.FieldType.int)).before args0 about1 = true := code_word (m := ⟨7, 4⟩) (meth := k7m4) (c := k7c4) (by decide +kernel) rfl rfl rfl (by decide +kernel)
set_option maxRecDepth 65536 in
theorem w_c9 : (Jvm.Cond.code ({ cls := "java/lang/String", name := "coder", desc := "()B" } : Jvm.MethodName) jdk_42_method_152_code (1 : Nat) (Option.some Jvm.ClassFile.FieldType.byte)).before args0 about1 = true := code_word (m := ⟨7, 8⟩) (meth := k7m8) (c := k7c8) (by decide +kernel) rfl rfl rfl (by decide +kernel)
set_option maxRecDepth 65536 in
theorem w_c10 : (Jvm.Cond.code ({ cls := "java/lang/String", name := "getChars", desc := "(II[CI)V" } : Jvm.MethodName) jdk_42_method_61_code (5 : Nat) (Option.none : Option Jvm.ClassFile.FieldType)).before args0 about1 = true := code_word (m := ⟨7, 5⟩) (meth := k7m5) (c := k7c5) (by decide +kernel) rfl rfl rfl (by decide +kernel)
set_option maxRecDepth 65536 in
theorem w_c11 : (Jvm.Cond.code ({ cls := "java/lang/String", name := "checkBoundsBeginEnd", desc := "(III)V" } : Jvm.MethodName) jdk_42_method_158_code (3 : Nat) (Option.none : Option Jvm.ClassFile.FieldType)).before args0 about1 = true := code_word (m := ⟨7, 11⟩) (meth := k7m11) (c := k7c11) (by decide +kernel) rfl rfl rfl (by decide +kernel)
set_option maxRecDepth 65536 in
theorem w_c12 : (Jvm.Cond.code ({ cls := "jdk/internal/util/Preconditions", name := "checkFromToIndex", desc := "(IIILjava/util/function/BiFunction;)I" } : Jvm.MethodName) jdk_41_method_12_code (4 : Nat) (Option.some Jvm.ClassFile.FieldType.int)).before args0 about1 = true := code_word (m := ⟨9, 1⟩) (meth := k9m1) (c := k9c1) (by decide +kernel) rfl rfl rfl (by decide +kernel)
set_option maxRecDepth 65536 in
theorem w_c13 : (Jvm.Cond.code ({ cls := "java/lang/String", name := "checkBoundsOffCount", desc := "(III)I" } : Jvm.MethodName) jdk_42_method_157_code (3 : Nat) (Option.some Jvm.ClassFile.FieldType.int)).before args0 about1 = true := code_word (m := ⟨7, 10⟩) (meth := k7m10) (c := k7c10) (by decide +kernel) rfl rfl rfl (by decide +kernel)
set_option maxRecDepth 65536 in
theorem w_c14 : (Jvm.Cond.code ({ cls := "jdk/internal/util/Preconditions", name := "checkFromIndexSize", desc := "(IIILjava/util/function/BiFunction;)I" } : Jvm.MethodName) jdk_41_method_13_code (4 : Nat) (Option.some Jvm.ClassFile.FieldType.int)).before args0 about1 = true := code_word (m := ⟨9, 2⟩) (meth := k9m2) (c := k9c2) (by decide +kernel) rfl rfl rfl (by decide +kernel)
set_option maxRecDepth 65536 in
theorem w_c15 : (Jvm.Cond.code ({ cls := "java/lang/String", name := "isLatin1", desc := "()Z" } : Jvm.MethodName) jdk_42_method_154_code (1 : Nat) (Option.some Jvm.ClassFile.FieldType.boolean)).before args0 about1 = true := code_word (m := ⟨7, 9⟩) (meth := k7m9) (c := k7c9) (by decide +kernel) rfl rfl rfl (by decide +kernel)
set_option maxRecDepth 65536 in
theorem w_c16 : (Jvm.Cond.code ({ cls := "java/lang/StringLatin1", name := "getChars", desc := "([BII[CI)V" } : Jvm.MethodName) jdk_43_method_11_code (5 : Nat) (Option.none : Option Jvm.ClassFile.FieldType)).before args0 about1 = true := code_word (m := ⟨10, 1⟩) (meth := k10m1) (c := k10c1) (by decide +kernel) rfl rfl rfl (by decide +kernel)
set_option maxRecDepth 65536 in
theorem w_c17 : (Jvm.Cond.code ({ cls := "java/lang/StringLatin1", name := "inflate", desc := "([BI[CII)V" } : Jvm.MethodName) jdk_43_method_49_code (6 : Nat) (Option.none : Option Jvm.ClassFile.FieldType)).before args0 about1 = true := code_word (m := ⟨10, 3⟩) (meth := k10m3) (c := k10c3) (by decide +kernel) rfl rfl rfl (by decide +kernel)
set_option maxRecDepth 65536 in
theorem w_c18 : (Jvm.Cond.code ({ cls := "com/example/ratably/ratably/TextList", name := "get", desc := "(I)Ljava/lang/String;" } : Jvm.MethodName) prog_28_method_4_code (2 : Nat) (Option.some (Jvm.ClassFile.FieldType.object "java/lang/String"))).before args0 about1 = true := code_word (m := ⟨8, 3⟩) (meth := k8m3) (c := k8c3) (by decide +kernel) rfl rfl rfl (by decide +kernel)
set_option maxRecDepth 65536 in
theorem w_c19 : (Jvm.Cond.code ({ cls := "com/example/ratably/ratably/TextList", name := "length", desc := "(I)I" } : Jvm.MethodName) prog_28_method_6_code (2 : Nat) (Option.some Jvm.ClassFile.FieldType.int)).before args0 about1 = true := code_word (m := ⟨8, 4⟩) (meth := k8m4) (c := k8c4) (by decide +kernel) rfl rfl rfl (by decide +kernel)
set_option maxRecDepth 65536 in
theorem w_c20 : (Jvm.Cond.code ({ cls := "java/lang/String", name := "<init>", desc := "([CII)V" } : Jvm.MethodName) jdk_42_method_4_code (4 : Nat) (Option.none : Option Jvm.ClassFile.FieldType)).before args0 about1 = true := code_word (m := ⟨7, 2⟩) (meth := k7m2) (c := k7c2) (by decide +kernel) rfl rfl rfl (by decide +kernel)
set_option maxRecDepth 65536 in
theorem w_c21 : (Jvm.Cond.code ({ cls := "java/lang/String", name := "rangeCheck", desc := "([CII)Ljava/lang/Void;" } : Jvm.MethodName) jdk_42_method_5_code (3 : Nat) (Option.some (Jvm.ClassFile.FieldType.object "java/lang/Void"))).before args0 about1 = true := code_word (m := ⟨7, 3⟩) (meth := k7m3) (c := k7c3) (by decide +kernel) rfl rfl rfl (by decide +kernel)
set_option maxRecDepth 65536 in
theorem w_c22 : (Jvm.Cond.code ({ cls := "com/example/ratably/ratably/TextList", name := "size", desc := "()I" } : Jvm.MethodName) prog_28_method_3_code (1 : Nat) (Option.some Jvm.ClassFile.FieldType.int)).before args0 about1 = true := code_word (m := ⟨8, 2⟩) (meth := k8m2) (c := k8c2) (by decide +kernel) rfl rfl rfl (by decide +kernel)
set_option maxRecDepth 65536 in
theorem w_c23 : (Jvm.Cond.code ({ cls := "java/lang/String", name := "equals", desc := "(Ljava/lang/Object;)Z" } : Jvm.MethodName) jdk_42_method_66_code (3 : Nat) (Option.some Jvm.ClassFile.FieldType.boolean)).before args0 about1 = true := code_word (m := ⟨7, 6⟩) (meth := k7m6) (c := k7c6) (by decide +kernel) rfl rfl rfl (by decide +kernel)
set_option maxRecDepth 65536 in
theorem w_c24 : (Jvm.Cond.code ({ cls := "java/lang/StringLatin1", name := "equals", desc := "([B[B)Z" } : Jvm.MethodName) jdk_43_method_13_code (3 : Nat) (Option.some Jvm.ClassFile.FieldType.boolean)).before args0 about1 = true := code_word (m := ⟨10, 2⟩) (meth := k10m2) (c := k10c2) (by decide +kernel) rfl rfl rfl (by decide +kernel)
set_option maxRecDepth 65536 in
theorem w_c25 : (Jvm.Cond.code ({ cls := "java/lang/StringUTF16", name := "compress", desc := "([CII)[B" } : Jvm.MethodName) jdk_52_method_16_code (6 : Nat) (Option.some (Jvm.ClassFile.FieldType.array Jvm.ClassFile.FieldType.byte))).before args0 about1 = true := code_word (m := ⟨11, 8⟩) (meth := k11m8) (c := k11c8) (by decide +kernel) rfl rfl rfl (by decide +kernel)
set_option maxRecDepth 65536 in
theorem w_c26 : (Jvm.Cond.code ({ cls := "java/lang/StringUTF16", name := "compress", desc := "([CI[BII)I" } : Jvm.MethodName) jdk_52_method_21_code (7 : Nat) (Option.some Jvm.ClassFile.FieldType.int)).before args0 about1 = true := code_word (m := ⟨11, 9⟩) (meth := k11m9) (c := k11c9) (by decide +kernel) rfl rfl rfl (by decide +kernel)
set_option maxRecDepth 65536 in
theorem w_c27 : (Jvm.Cond.code ({ cls := "java/lang/StringUTF16", name := "coderFromArrayLen", desc := "([BI)B" } : Jvm.MethodName) jdk_52_method_15_code (2 : Nat) (Option.some Jvm.ClassFile.FieldType.byte)).before args0 about1 = true := code_word (m := ⟨11, 7⟩) (meth := k11m7) (c := k11c7) (by decide +kernel) rfl rfl rfl (by decide +kernel)
set_option maxRecDepth 65536 in
theorem w_c28 : (Jvm.Cond.code ({ cls := "java/lang/StringUTF16", name := "toBytes", desc := "([CII)[B" } : Jvm.MethodName) jdk_52_method_14_code (5 : Nat) (Option.some (Jvm.ClassFile.FieldType.array Jvm.ClassFile.FieldType.byte))).before args0 about1 = true := code_word (m := ⟨11, 6⟩) (meth := k11m6) (c := k11c6) (by decide +kernel) rfl rfl rfl (by decide +kernel)
set_option maxRecDepth 65536 in
theorem w_c29 : (Jvm.Cond.code ({ cls := "java/lang/StringUTF16", name := "newBytesFor", desc := "(I)[B" } : Jvm.MethodName) jdk_52_method_2_code (1 : Nat) (Option.some (Jvm.ClassFile.FieldType.array Jvm.ClassFile.FieldType.byte))).before args0 about1 = true := code_word (m := ⟨11, 1⟩) (meth := k11m1) (c := k11c1) (by decide +kernel) rfl rfl rfl (by decide +kernel)
set_option maxRecDepth 65536 in
theorem w_c30 : (Jvm.Cond.code ({ cls := "java/lang/StringUTF16", name := "newBytesLength", desc := "(I)I" } : Jvm.MethodName) jdk_52_method_3_code (1 : Nat) (Option.some Jvm.ClassFile.FieldType.int)).before args0 about1 = true := code_word (m := ⟨11, 2⟩) (meth := k11m2) (c := k11c2) (by decide +kernel) rfl rfl rfl (by decide +kernel)
set_option maxRecDepth 65536 in
theorem w_c31 : (Jvm.Cond.code ({ cls := "java/lang/StringUTF16", name := "putChar", desc := "([BII)V" } : Jvm.MethodName) jdk_52_method_4_code (3 : Nat) (Option.none : Option Jvm.ClassFile.FieldType)).before args0 about1 = true := code_word (m := ⟨11, 3⟩) (meth := k11m3) (c := k11c3) (by decide +kernel) rfl rfl rfl (by decide +kernel)
set_option maxRecDepth 65536 in
theorem w_c32 : (Jvm.Cond.code ({ cls := "java/lang/StringUTF16", name := "getChar", desc := "([BI)C" } : Jvm.MethodName) jdk_52_method_5_code (2 : Nat) (Option.some Jvm.ClassFile.FieldType.char)).before args0 about1 = true := code_word (m := ⟨11, 4⟩) (meth := k11m4) (c := k11c4) (by decide +kernel) rfl rfl rfl (by decide +kernel)
set_option maxRecDepth 65536 in
theorem w_c33 : (Jvm.Cond.code ({ cls := "java/lang/StringUTF16", name := "getChars", desc := "([BII[CI)V" } : Jvm.MethodName) jdk_52_method_26_code (6 : Nat) (Option.none : Option Jvm.ClassFile.FieldType)).before args0 about1 = true := code_word (m := ⟨11, 10⟩) (meth := k11m10) (c := k11c10) (by decide +kernel) rfl rfl rfl (by decide +kernel)
set_option maxRecDepth 65536 in
theorem w_c34 : (Jvm.Cond.code ({ cls := "java/lang/StringUTF16", name := "checkBoundsOffCount", desc := "(II[B)V" } : Jvm.MethodName) jdk_52_method_94_code (3 : Nat) (Option.none : Option Jvm.ClassFile.FieldType)).before args0 about1 = true := code_word (m := ⟨11, 11⟩) (meth := k11m11) (c := k11c11) (by decide +kernel) rfl rfl rfl (by decide +kernel)
set_option maxRecDepth 65536 in
theorem w_c35 : (Jvm.Cond.code ({ cls := "java/lang/StringUTF16", name := "length", desc := "([B)I" } : Jvm.MethodName) jdk_52_method_6_code (1 : Nat) (Option.some Jvm.ClassFile.FieldType.int)).before args0 about1 = true := code_word (m := ⟨11, 5⟩) (meth := k11m5) (c := k11c5) (by decide +kernel) rfl rfl rfl (by decide +kernel)
set_option maxRecDepth 65536 in
theorem w_c36 : (Jvm.Cond.code ({ cls := "java/lang/Math", name := "max", desc := "(II)I" } : Jvm.MethodName) jdk_29_method_65_code (2 : Nat) (Option.some Jvm.ClassFile.FieldType.int)).before args0 about1 = true := code_word (m := ⟨12, 1⟩) (meth := k12m1) (c := k12c1) (by decide +kernel) rfl rfl rfl (by decide +kernel)
set_option maxRecDepth 65536 in
theorem w_c37 : (Jvm.Cond.code ({ cls := "java/util/Arrays", name := "copyOf", desc := "([CI)[C" } : Jvm.MethodName) jdk_65_method_125_code (3 : Nat) (Option.some (Jvm.ClassFile.FieldType.array Jvm.ClassFile.FieldType.char))).before args0 about1 = true := code_word (m := ⟨13, 1⟩) (meth := k13m1) (c := k13c1) (by decide +kernel) rfl rfl rfl (by decide +kernel)
set_option maxRecDepth 65536 in
theorem w_c38 : (Jvm.Cond.code ({ cls := "java/lang/Math", name := "min", desc := "(II)I" } : Jvm.MethodName) jdk_29_method_69_code (2 : Nat) (Option.some Jvm.ClassFile.FieldType.int)).before args0 about1 = true := code_word (m := ⟨12, 2⟩) (meth := k12m2) (c := k12c2) (by decide +kernel) rfl rfl rfl (by decide +kernel)
def codes1 : List Jvm.Cond := [Jvm.Cond.code x code maxLocals ret, Jvm.Cond.code ({ cls := "com/example/ratably/ratably/TextListGetPinLaw", name := "mk", desc := "(IJ)Ljava/lang/String;" } : Jvm.MethodName) method_2_code (4 : Nat) (Option.some (Jvm.ClassFile.FieldType.object "java/lang/String")), Jvm.Cond.code ({ cls := "java/lang/String", name := "<init>", desc := "([C)V" } : Jvm.MethodName) jdk_42_method_3_code (2 : Nat) (Option.none : Option Jvm.ClassFile.FieldType), Jvm.Cond.code ({ cls := "java/lang/String", name := "<init>", desc := "([CIILjava/lang/Void;)V" } : Jvm.MethodName) jdk_42_method_149_code (6 : Nat) (Option.none : Option Jvm.ClassFile.FieldType), Jvm.Cond.code ({ cls := "java/lang/Object", name := "<init>", desc := "()V" } : Jvm.MethodName) object_method_1_code (1 : Nat) (Option.none : Option Jvm.ClassFile.FieldType), Jvm.Cond.code ({ cls := "com/example/ratably/ratably/TextList", name := "<init>", desc := "()V" } : Jvm.MethodName) prog_28_method_1_code (1 : Nat) (Option.none : Option Jvm.ClassFile.FieldType), Jvm.Cond.code ({ cls := "com/example/ratably/ratably/TextList", name := "add", desc := "(Ljava/lang/String;)I" } : Jvm.MethodName) prog_28_method_2_code (4 : Nat) (Option.some Jvm.ClassFile.FieldType.int), Jvm.Cond.code ({ cls := "com/example/ratably/ratably/TextList", name := "start", desc := "(I)I" } : Jvm.MethodName) prog_28_method_7_code (2 : Nat) (Option.some Jvm.ClassFile.FieldType.int), Jvm.Cond.code ({ cls := "java/lang/String", name := "length", desc := "()I" } : Jvm.MethodName) jdk_42_method_54_code (1 : Nat) (Option.some Jvm.ClassFile.FieldType.int), Jvm.Cond.code ({ cls := "java/lang/String", name := "coder", desc := "()B" } : Jvm.MethodName) jdk_42_method_152_code (1 : Nat) (Option.some Jvm.ClassFile.FieldType.byte), Jvm.Cond.code ({ cls := "java/lang/String", name := "getChars", desc := "(II[CI)V" } : Jvm.MethodName) jdk_42_method_61_code (5 : Nat) (Option.none : Option Jvm.ClassFile.FieldType), Jvm.Cond.code ({ cls := "java/lang/String", name := "checkBoundsBeginEnd", desc := "(III)V" } : Jvm.MethodName) jdk_42_method_158_code (3 : Nat) (Option.none : Option Jvm.ClassFile.FieldType), Jvm.Cond.code ({ cls := "jdk/internal/util/Preconditions", name := "checkFromToIndex", desc := "(IIILjava/util/function/BiFunction;)I" } : Jvm.MethodName) jdk_41_method_12_code (4 : Nat) (Option.some Jvm.ClassFile.FieldType.int), Jvm.Cond.code ({ cls := "java/lang/String", name := "checkBoundsOffCount", desc := "(III)I" } : Jvm.MethodName) jdk_42_method_157_code (3 : Nat) (Option.some Jvm.ClassFile.FieldType.int), Jvm.Cond.code ({ cls := "jdk/internal/util/Preconditions", name := "checkFromIndexSize", desc := "(IIILjava/util/function/BiFunction;)I" } : Jvm.MethodName) jdk_41_method_13_code (4 : Nat) (Option.some Jvm.ClassFile.FieldType.int), Jvm.Cond.code ({ cls := "java/lang/String", name := "isLatin1", desc := "()Z" } : Jvm.MethodName) jdk_42_method_154_code (1 : Nat) (Option.some Jvm.ClassFile.FieldType.boolean), Jvm.Cond.code ({ cls := "java/lang/StringLatin1", name := "getChars", desc := "([BII[CI)V" } : Jvm.MethodName) jdk_43_method_11_code (5 : Nat) (Option.none : Option Jvm.ClassFile.FieldType), Jvm.Cond.code ({ cls := "java/lang/StringLatin1", name := "inflate", desc := "([BI[CII)V" } : Jvm.MethodName) jdk_43_method_49_code (6 : Nat) (Option.none : Option Jvm.ClassFile.FieldType), Jvm.Cond.code ({ cls := "com/example/ratably/ratably/TextList", name := "get", desc := "(I)Ljava/lang/String;" } : Jvm.MethodName) prog_28_method_4_code (2 : Nat) (Option.some (Jvm.ClassFile.FieldType.object "java/lang/String")), Jvm.Cond.code ({ cls := "com/example/ratably/ratably/TextList", name := "length", desc := "(I)I" } : Jvm.MethodName) prog_28_method_6_code (2 : Nat) (Option.some Jvm.ClassFile.FieldType.int), Jvm.Cond.code ({ cls := "java/lang/String", name := "<init>", desc := "([CII)V" } : Jvm.MethodName) jdk_42_method_4_code (4 : Nat) (Option.none : Option Jvm.ClassFile.FieldType), Jvm.Cond.code ({ cls := "java/lang/String", name := "rangeCheck", desc := "([CII)Ljava/lang/Void;" } : Jvm.MethodName) jdk_42_method_5_code (3 : Nat) (Option.some (Jvm.ClassFile.FieldType.object "java/lang/Void")), Jvm.Cond.code ({ cls := "com/example/ratably/ratably/TextList", name := "size", desc := "()I" } : Jvm.MethodName) prog_28_method_3_code (1 : Nat) (Option.some Jvm.ClassFile.FieldType.int), Jvm.Cond.code ({ cls := "java/lang/String", name := "equals", desc := "(Ljava/lang/Object;)Z" } : Jvm.MethodName) jdk_42_method_66_code (3 : Nat) (Option.some Jvm.ClassFile.FieldType.boolean), Jvm.Cond.code ({ cls := "java/lang/StringLatin1", name := "equals", desc := "([B[B)Z" } : Jvm.MethodName) jdk_43_method_13_code (3 : Nat) (Option.some Jvm.ClassFile.FieldType.boolean), Jvm.Cond.code ({ cls := "java/lang/StringUTF16", name := "compress", desc := "([CII)[B" } : Jvm.MethodName) jdk_52_method_16_code (6 : Nat) (Option.some (Jvm.ClassFile.FieldType.array Jvm.ClassFile.FieldType.byte)), Jvm.Cond.code ({ cls := "java/lang/StringUTF16", name := "compress", desc := "([CI[BII)I" } : Jvm.MethodName) jdk_52_method_21_code (7 : Nat) (Option.some Jvm.ClassFile.FieldType.int), Jvm.Cond.code ({ cls := "java/lang/StringUTF16", name := "coderFromArrayLen", desc := "([BI)B" } : Jvm.MethodName) jdk_52_method_15_code (2 : Nat) (Option.some Jvm.ClassFile.FieldType.byte), Jvm.Cond.code ({ cls := "java/lang/StringUTF16", name := "toBytes", desc := "([CII)[B" } : Jvm.MethodName) jdk_52_method_14_code (5 : Nat) (Option.some (Jvm.ClassFile.FieldType.array Jvm.ClassFile.FieldType.byte)), Jvm.Cond.code ({ cls := "java/lang/StringUTF16", name := "newBytesFor", desc := "(I)[B" } : Jvm.MethodName) jdk_52_method_2_code (1 : Nat) (Option.some (Jvm.ClassFile.FieldType.array Jvm.ClassFile.FieldType.byte)), Jvm.Cond.code ({ cls := "java/lang/StringUTF16", name := "newBytesLength", desc := "(I)I" } : Jvm.MethodName) jdk_52_method_3_code (1 : Nat) (Option.some Jvm.ClassFile.FieldType.int), Jvm.Cond.code ({ cls := "java/lang/StringUTF16", name := "putChar", desc := "([BII)V" } : Jvm.MethodName) jdk_52_method_4_code (3 : Nat) (Option.none : Option Jvm.ClassFile.FieldType), Jvm.Cond.code ({ cls := "java/lang/StringUTF16", name := "getChar", desc := "([BI)C" } : Jvm.MethodName) jdk_52_method_5_code (2 : Nat) (Option.some Jvm.ClassFile.FieldType.char), Jvm.Cond.code ({ cls := "java/lang/StringUTF16", name := "getChars", desc := "([BII[CI)V" } : Jvm.MethodName) jdk_52_method_26_code (6 : Nat) (Option.none : Option Jvm.ClassFile.FieldType), Jvm.Cond.code ({ cls := "java/lang/StringUTF16", name := "checkBoundsOffCount", desc := "(II[B)V" } : Jvm.MethodName) jdk_52_method_94_code (3 : Nat) (Option.none : Option Jvm.ClassFile.FieldType), Jvm.Cond.code ({ cls := "java/lang/StringUTF16", name := "length", desc := "([B)I" } : Jvm.MethodName) jdk_52_method_6_code (1 : Nat) (Option.some Jvm.ClassFile.FieldType.int), Jvm.Cond.code ({ cls := "java/lang/Math", name := "max", desc := "(II)I" } : Jvm.MethodName) jdk_29_method_65_code (2 : Nat) (Option.some Jvm.ClassFile.FieldType.int), Jvm.Cond.code ({ cls := "java/util/Arrays", name := "copyOf", desc := "([CI)[C" } : Jvm.MethodName) jdk_65_method_125_code (3 : Nat) (Option.some (Jvm.ClassFile.FieldType.array Jvm.ClassFile.FieldType.char)), Jvm.Cond.code ({ cls := "java/lang/Math", name := "min", desc := "(II)I" } : Jvm.MethodName) jdk_29_method_69_code (2 : Nat) (Option.some Jvm.ClassFile.FieldType.int)]
set_option maxRecDepth 65536 in
theorem codes_eq : words1.filter isCode = codes1 := rfl
theorem w_codes : ∀ c ∈ words1.filter isCode, c.before args0 about1 = true := by
  rw [codes_eq]
  intro c hc
  simp only [codes1, List.mem_cons, List.not_mem_nil, or_false] at hc
  rcases hc with rfl | rfl | rfl | rfl | rfl | rfl | rfl | rfl | rfl | rfl | rfl | rfl | rfl | rfl | rfl | rfl | rfl | rfl | rfl | rfl | rfl | rfl | rfl | rfl | rfl | rfl | rfl | rfl | rfl | rfl | rfl | rfl | rfl | rfl | rfl | rfl | rfl | rfl | rfl
  · exact w_c0
  · exact w_c1
  · exact w_c2
  · exact w_c3
  · exact w_c4
  · exact w_c5
  · exact w_c6
  · exact w_c7
  · exact w_c8
  · exact w_c9
  · exact w_c10
  · exact w_c11
  · exact w_c12
  · exact w_c13
  · exact w_c14
  · exact w_c15
  · exact w_c16
  · exact w_c17
  · exact w_c18
  · exact w_c19
  · exact w_c20
  · exact w_c21
  · exact w_c22
  · exact w_c23
  · exact w_c24
  · exact w_c25
  · exact w_c26
  · exact w_c27
  · exact w_c28
  · exact w_c29
  · exact w_c30
  · exact w_c31
  · exact w_c32
  · exact w_c33
  · exact w_c34
  · exact w_c35
  · exact w_c36
  · exact w_c37
  · exact w_c38
set_option maxRecDepth 65536 in
theorem w_t1 : (words1.take 24).all (fun c => isCode c || c.before args0 about1) = true := by decide +kernel
set_option maxRecDepth 65536 in
theorem w_t2 : ((words1.drop 24).take 24).all (fun c => isCode c || c.before args0 about1) = true := by decide +kernel
set_option maxRecDepth 65536 in
theorem w_t3 : (((words1.drop 24).drop 24).take 24).all (fun c => isCode c || c.before args0 about1) = true := by decide +kernel
set_option maxRecDepth 65536 in
theorem w_t4 : ((((words1.drop 24).drop 24).drop 24).take 24).all (fun c => isCode c || c.before args0 about1) = true := by decide +kernel
set_option maxRecDepth 65536 in
theorem w_t5 : (((((words1.drop 24).drop 24).drop 24).drop 24).take 24).all (fun c => isCode c || c.before args0 about1) = true := by decide +kernel
set_option maxRecDepth 65536 in
theorem w_t6 : ((((((words1.drop 24).drop 24).drop 24).drop 24).drop 24).take 24).all (fun c => isCode c || c.before args0 about1) = true := by decide +kernel
set_option maxRecDepth 65536 in
theorem w_t7 : (((((((words1.drop 24).drop 24).drop 24).drop 24).drop 24).drop 24).take 24).all (fun c => isCode c || c.before args0 about1) = true := by decide +kernel
set_option maxRecDepth 65536 in
theorem w_t8 : (((((((words1.drop 24).drop 24).drop 24).drop 24).drop 24).drop 24).drop 24).all (fun c => isCode c || c.before args0 about1) = true := by decide +kernel
theorem w_tables : (allAtoms (Jvm.Cond.code x code maxLocals ret :: tables_1)).before args0 about1 = true := by
  rw [allAtoms_all]
  show words1.all (fun c => c.before args0 about1) = true
  refine all_split ?_ w_codes
  rw [← List.take_append_drop 24 words1, List.all_append, w_t1, ← List.take_append_drop 24 (words1.drop 24), List.all_append, w_t2, ← List.take_append_drop 24 ((words1.drop 24).drop 24), List.all_append, w_t3, ← List.take_append_drop 24 (((words1.drop 24).drop 24).drop 24), List.all_append, w_t4, ← List.take_append_drop 24 ((((words1.drop 24).drop 24).drop 24).drop 24), List.all_append, w_t5, ← List.take_append_drop 24 (((((words1.drop 24).drop 24).drop 24).drop 24).drop 24), List.all_append, w_t6, ← List.take_append_drop 24 ((((((words1.drop 24).drop 24).drop 24).drop 24).drop 24).drop 24), List.all_append, w_t7, w_t8]
  rfl
set_option maxRecDepth 65536 in
theorem w_rest : rest_1_c.before args0 about1 = true := by decide +kernel
set_option maxRecDepth 65536 in
theorem w_case : (Jvm.Cond.and given_1 narrow_1).before args0 about1 = true := by decide +kernel
set_option maxRecDepth 65536 in
theorem w_consts : constsHeld consts_1 about1 := Jvm.Lit.constsHeldB_iff.mp (by decide +kernel)
theorem w_applies : (headSpec (Jvm.Cond.code x code maxLocals ret :: tables_1) room_1).applies x e0.platform about1 = true :=
  (Spec.applies_iff w_frames).mpr ⟨w_running, w_runnable, w_alone, w_named, w_hears, w_ripe, w_room, w_tables⟩
theorem atStart : AtStart classFile x code maxLocals ret World_1 tables_1 room_1 Calls_1 rest_1 Pre_1 launch0 p0 e0 about1 theMethod args0 below0 :=
  ⟨lists_1, trivial, launch0.admits_env _ _ _, launch0.least_env, fairChoices_fair.cas, fairChoices_fair.clock, w_frames, w_args, w_heap, w_applies, ⟨w_consts, trivial⟩, w_rest, w_case⟩
end start1
theorem witness_1 : WitnessClaimed_1 := ⟨start1.p0, start1.e0, start1.about1, start1.theMethod, start1.args0, start1.below0, start1.atStart⟩
end Jvm.Pilot.@@N@@
