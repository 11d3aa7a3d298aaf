import JvmDerived
import JvmDerived.Pilot.@@N@@Statement
import JvmDerived.Pilot.@@N@@Code
set_option linter.unusedVariables false
set_option linter.unusedSimpArgs false
namespace Jvm.OwnW
open Jvm Jvm.ClassFile Sem Op Lib Jvm.Free Jvm.Stand Jvm.LawKit Jvm.RoadKit Bundle
open Jvm.Free.SB Jvm.Free.SBG
abbrev Lits := List (String × Nat × String)
def wst (Z : State) (vm : Vm) (h : Heap) : State := { Z with vm := vm, heap := h }
/-- a compact String with these units, her two cells outside 'mine' -/
def SlM (W : State) (a : Addr) (units : Array UInt16) (mine : List Addr) : Prop :=
  ∃ (q : SQ) (cS : ClassId), q.sa = a ∧ Sl q cS W ∧ (∃ kS : Class, W.vm.classes[cS]? = some kS ∧ kS.kind = .ordinary ∧ q.sC.slots.size = kS.instanceTypes.size) ∧ W.vm.findClass "[B" = some q.SA.cls ∧ q.SA.slots = stringBytes units ∧ q.sa ∉ mine ∧ q.sd ∉ mine
def KH (Z : State) (L : Lits) (vm : Vm) (h : Heap) (mine : List Addr) : Prop :=
  ∀ q ∈ L, ∀ (c : ClassId) (k : Class) (cf : ClassFile) (i : Nat) (units : Array UInt16) (a : Addr), vm.findClass q.1 = some c → vm.classes[c]? = some k → k.cf = some cf →
    cf.constantPool[q.2.1]? = some (.string i) → cf.constantPool[i]? = some (.utf8 units) →
    (k.resolved[q.2.1]? = some (some (.string a)) ∨ (k.resolved[q.2.1]? = some none ∧ vm.interned.find? (fun p => p.1 == units) = some (units, a))) → SlM (wst Z vm h) a units mine
def Links (Z : State) (L : Lits) : Prop := ∀ q ∈ L, ∃ a0 : Array Value, (Jvm.Cond.stringLink q.1 q.2.1 q.2.2).before a0 Z = true
def Inv (Z : State) (L : Lits) (vm : Vm) (h : Heap) (mine : List Addr) : Prop :=
  Z.Warmed39 vm ∧ Ext Z.heap h ∧ (∀ x ∈ mine, Z.heap.size ≤ x ∧ x < h.size) ∧ Links Z L ∧ KH Z L vm h mine
theorem SlM.go {Z : State} {vm vm' : Vm} {h h' : Heap} {a : Addr} {u : Array UInt16} {mine mine' : List Addr} (S : SlM (wst Z vm h) a u mine) (hal : vm.Alike vm')
    (hk : ∀ x c, h[x]? = some c → x ∉ mine → h'[x]? = some c) (hm : ∀ x ∈ mine', x ∈ mine ∨ h.size ≤ x) : SlM (wst Z vm' h') a u mine' := by
  obtain ⟨q, cS, h1, h2, ⟨kS, k1, k2, k3⟩, h4, h5, h6, h7⟩ := S
  obtain ⟨kS', hk', ek⟩ := hal.2.2 _ _ k1
  have c1 : h[q.sa]? = some q.sC := h2.1.1
  have c2 : h[q.sd]? = some q.SA := h2.1.2.2.2.2.2.2.2.2.2.1
  refine ⟨q, cS, h1, h2.carry (U' := wst Z vm' h') hal (hk _ _ c1 h6) (hk _ _ c2 h7), ⟨kS', hk', by rw [ek]; exact k2, by rw [ek]; exact k3⟩, by rw [show (wst Z vm' h').vm.findClass "[B" = vm.findClass "[B" from hal.findClass _ _]; exact h4, h5, fun hx => ?_, fun hx => ?_⟩
  · rcases hm _ hx with q1 | q1
    · exact h6 q1
    · exact absurd (Array.getElem?_eq_some_iff.mp c1).1 (Nat.not_lt.mpr q1)
  · rcases hm _ hx with q1 | q1
    · exact h7 q1
    · exact absurd (Array.getElem?_eq_some_iff.mp c2).1 (Nat.not_lt.mpr q1)
theorem KH.go {Z : State} {L : Lits} {vm vm' : Vm} {h h' : Heap} {mine mine' : List Addr} {U : State} (K : KH Z L vm h mine) (hZ : Z.Warmed39 vm) (hL : Links Z L) (hU : U.vm = vm) (hW : U.WarmedH vm')
    (hk : ∀ x c, h[x]? = some c → x ∉ mine → h'[x]? = some c) (hm : ∀ x ∈ mine', x ∈ mine ∨ h.size ≤ x) : KH Z L vm' h' mine' := by
  subst hU
  have hal : U.vm.Alike vm' := hW.alike
  intro q hq c k' cf i units a hc hk' hcf hp hu hor
  have hcU : U.vm.findClass q.1 = some c := by rw [← hal.findClass]; exact hc
  have hcZ : Z.vm.findClass q.1 = some c := by rw [← hZ.alike.findClass]; exact hcU
  obtain ⟨a0, w⟩ := hL q hq
  obtain ⟨kZ, cf0, i0, units0, hkZ, hcfZ, hp0, hu0, hnm, htext, -⟩ := Cond.stringLink_spec hcZ w
  obtain ⟨kU, hkU, ekU⟩ := hZ.alike.2.2 _ _ hkZ
  obtain ⟨k'', hk'', hke, -, ee, -⟩ := hW.wide.2.2.2 c kU hkU
  cases hk'.symm.trans hk''
  have hcfU : kU.cf = some cf := by
    have : k'.cf = kU.cf := by rw [hke]
    rw [← this]; exact hcf
  have hcf0 : kU.cf = some cf0 := by rw [ekU]; exact hcfZ
  cases hcfU.symm.trans hcf0
  have hint : vm'.interned = U.vm.interned := hW.interned_eq
  have key : SlM (wst Z U.vm h) a units mine := by
    refine K q hq c kU cf i units a hcU hkU hcfU hp hu ?_
    obtain ⟨k3, hk3, -, -, ee3, -⟩ := hW.2.2 c kU hkU
    cases hk'.symm.trans hk3
    rcases ee3 q.2.1 with e0 | ⟨hop, r, e1, hr⟩
    · rcases hor with h0 | ⟨h0, hf⟩
      · exact Or.inl (e0 ▸ h0)
      · exact Or.inr ⟨e0 ▸ h0, by rw [← hint]; exact hf⟩
    · exfalso
      cases r <;> simp [State.rightAt, hkU, hcfU, hnm] at hr
  exact key.go hal hk hm
theorem KH.mono {Z : State} {L : Lits} {vm : Vm} {h : Heap} {mine mine' : List Addr} (K : KH Z L vm h mine) (hm : ∀ x ∈ mine', x ∈ mine) : KH Z L vm h mine' :=
  fun q hq c k cf i units a h1 h2 h3 h4 h5 h6 => by
    obtain ⟨s, cS, r1, r2, r3, r4, r5, r6, r7⟩ := K q hq c k cf i units a h1 h2 h3 h4 h5 h6
    exact ⟨s, cS, r1, r2, r3, r4, r5, fun hx => r6 (hm _ hx), fun hx => r7 (hm _ hx)⟩
theorem Inv.mono {Z : State} {L : Lits} {vm : Vm} {h : Heap} {mine mine' : List Addr} (I : Inv Z L vm h mine) (hm : ∀ x ∈ mine', x ∈ mine) : Inv Z L vm h mine' :=
  ⟨I.1, I.2.1, fun x hx => I.2.2.1 x (hm x hx), I.2.2.2.1, I.2.2.2.2.mono hm⟩
/-- the invariant over a step that warms the tables and moves the heap outside what is frozen -/
theorem Inv.go {Z : State} {L : Lits} {vm vm' : Vm} {h h' : Heap} {mine mine' : List Addr} {U : State} (I : Inv Z L vm h mine) (hU : U.vm = vm) (hW : U.WarmedH vm') (hs : h.size ≤ h'.size)
    (hk : ∀ x c, h[x]? = some c → x ∉ mine → h'[x]? = some c) (hm : ∀ x ∈ mine', x ∈ mine ∨ (h.size ≤ x ∧ x < h'.size)) : Inv Z L vm' h' mine' := by
  refine ⟨State.Warmed39.trans (t := U) (hU ▸ I.1) hW.wide, ⟨Nat.le_trans I.2.1.1 hs, fun a c hc => hk _ _ (I.2.1.2 a c hc) fun hx => ?_⟩, fun x hx => ?_, I.2.2.2.1, I.2.2.2.2.go I.1 I.2.2.2.1 hU hW hk fun x hx => (hm x hx).imp id (·.1)⟩
  · exact absurd (Array.getElem?_eq_some_iff.mp hc).1 (Nat.not_lt.mpr (I.2.2.1 _ hx).1)
  · rcases hm x hx with q | q
    · exact ⟨(I.2.2.1 x q).1, Nat.lt_of_lt_of_le (I.2.2.1 x q).2 hs⟩
    · exact ⟨Nat.le_trans I.2.1.1 q.1, q.2⟩
def Bdy (p : Program) (s : State) (m : MethodId) (meth : Method) (c : Code) (own : String) (code : ByteArray) (maxL : Nat) (ret : Option FieldType) (nm : String) : Prop :=
  p.tables.exec = Jvm.exec ∧ c.code = code ∧ c.maxLocals = maxL ∧ s.vm.findClass own = some m.cls ∧ meth.sig.returnType = ret ∧ meth.locks = false ∧ meth.name = nm
def St (p : Program) (l : Launch) (e : Env) (R : Room) (s : State) (m : MethodId) (args : Array Value) (below : List Frame) (meth : Method) (c : Code) (Z : State) (L : Lits) (h0 : Heap) (ws : List Addr) (T : State) (locs : List Loc) (ce sl : Nat) (mine : List Addr) : Prop :=
  Stand p l e R (s.setVm T.vm) m args below meth c T locs ce sl ∧ s.Since T.vm T.heap.size ∧ Fr Z.heap.size locs ∧ Keep h0 T.heap ws ∧ Inv Z L T.vm T.heap mine
def Fini (p : Program) (l : Launch) (e : Env) (R : Room) (s : State) (below : List Frame) (Z : State) (L : Lits) (h0 : Heap) (ws mine0 : List Addr) (Q : Option Value → Heap → List Addr → Prop) (start : State) : Prop :=
  ∃ (s₂ : State) (v : Option Value) (locs : List Loc) (nw : List Addr), Steps p.tables e below start s₂ ∧ s₂.status = .running ∧ Ended s₂ below (.returned v) ∧ ReturnedEndW s (.returned v) s₂ locs R.cells R.slots ∧ Fr Z.heap.size locs ∧ Keep h0 s₂.heap ws ∧ (∀ x ∈ nw, h0.size ≤ x) ∧ Inv Z L s₂.vm s₂.heap (nw ++ mine0) ∧ Q v s₂.heap nw
def WP (own : String) (code : ByteArray) (maxL : Nat) (ret : Option FieldType) (nm : String) (R : Room) (Z : State) (L : Lits) (h0 : Heap) (ws mine0 : List Addr) (Q : Option Value → Heap → List Addr → Prop) (mine : List Addr) (ce sl : Nat) (h : Heap) (pc : Nat) (Ls : List Slot) (st : List Value) : Prop :=
  ∀ (p : Program) (l : Launch) (e : Env) (s : State) (m : MethodId) (args : Array Value) (below : List Frame) (meth : Method) (c : Code), Bdy p s m meth c own code maxL ret nm →
    ∀ (T : State) (locs : List Loc), St p l e R s m args below meth c Z L h0 ws T locs ce sl mine → T.heap = h → Fini p l e R s below Z L h0 ws mine0 Q (T.setTop (mkF m pc Ls.toArray st))
section Basic
variable {p : Program} {l : Launch} {e : Env} {R : Room} {s : State} {m : MethodId} {args : Array Value} {below : List Frame} {meth : Method} {c : Code} {Z : State} {L : Lits} {h0 h h' : Heap} {ws mine0 mine mine' : List Addr} {T T' : State} {locs locs' : List Loc} {ce sl ce' sl' : Nat}
  {own : String} {code : ByteArray} {maxL : Nat} {ret : Option FieldType} {nm : String} {Q : Option Value → Heap → List Addr → Prop}
theorem Fini.step {a b : State} (F : Fini p l e R s below Z L h0 ws mine0 Q b) (k : ∀ target, Steps p.tables e below b target → Steps p.tables e below a target) : Fini p l e R s below Z L h0 ws mine0 Q a := by
  obtain ⟨s₂, v, lo, nw, r1, r⟩ := F
  exact ⟨s₂, v, lo, nw, k _ r1, r⟩
theorem St.hown (X : St p l e R s m args below meth c Z L h0 ws T locs ce sl mine) (B : Bdy p s m meth c own code maxL ret nm) : (s.setVm T.vm).vm.findClass own = some m.cls := by
  rw [show (s.setVm T.vm).vm = T.vm from rfl, X.2.1.1.alike.findClass]; exact B.2.2.2.1
theorem St.warm (X : St p l e R s m args below meth c Z L h0 ws T locs ce sl mine) : Z.Warmed39 (s.setVm T.vm).vm := X.2.2.2.2.1
/-- a step of the library's, over the base at hand: re-based -/
theorem St.rebase (X : St p l e R s m args below meth c Z L h0 ws T locs ce sl mine) (Y : Stand p l e R (s.setVm T.vm) m args below meth c T' locs' ce' sl') (hF : Fr Z.heap.size locs') (hs : T.heap.size ≤ T'.heap.size)
    (hk : ∀ x c, T.heap[x]? = some c → x ∉ mine → T'.heap[x]? = some c) (hm : ∀ x ∈ mine', x ∈ mine ∨ (T.heap.size ≤ x ∧ x < T'.heap.size)) (K : Keep h0 T'.heap ws) : St p l e R s m args below meth c Z L h0 ws T' locs' ce' sl' mine' :=
  ⟨Y.retabled Y.warmed.wide, X.2.1.trans (Y.warmed.since T'.heap.size) hs, hF, K, X.2.2.2.2.go (U := s.setVm T.vm) rfl Y.warmed hs hk hm⟩
theorem St.same (X : St p l e R s m args below meth c Z L h0 ws T locs ce sl mine) (Y : Stand p l e R (s.setVm T.vm) m args below meth c T' locs ce sl) (hh : T'.heap = T.heap) : St p l e R s m args below meth c Z L h0 ws T' locs ce sl mine :=
  X.rebase Y X.2.2.1 (by rw [hh]; exact Nat.le_refl _) (fun x c hc _ => by rw [hh]; exact hc) (fun x hx => Or.inl hx) (by rw [hh]; exact X.2.2.2.1)
theorem WP.pure1 {pc pc' : Nat} {Ls Ls' : List Slot} {st st' : List Value} (k : WP own code maxL ret nm R Z L h0 ws mine0 Q mine ce sl h pc' Ls' st')
    (hstep : ∀ (p : Program) (e : Env) (below : List Frame) (T : State) (m : MethodId) (c : Code) (target : State), At T m c below → p.tables.exec = Jvm.exec → c.code = code → Steps p.tables e below (T.setTop (mkF m pc' Ls'.toArray st')) target → Steps p.tables e below (T.setTop (mkF m pc Ls.toArray st)) target) :
    WP own code maxL ret nm R Z L h0 ws mine0 Q mine ce sl h pc Ls st := by
  intro p l e s m args below meth c B T locs X hT
  exact (k p l e s m args below meth c B T locs X hT).step fun t => hstep p e below T m c t X.1.here B.1 B.2.1
/-- what the invariant says here -/
theorem WP.know {pc : Nat} {Ls : List Slot} {st : List Value} (k : Ext Z.heap h → Keep h0 h ws → (∀ x ∈ mine, Z.heap.size ≤ x ∧ x < h.size) → WP own code maxL ret nm R Z L h0 ws mine0 Q mine ce sl h pc Ls st) : WP own code maxL ret nm R Z L h0 ws mine0 Q mine ce sl h pc Ls st := by
  intro p l e s m args below meth c B T locs X hT
  subst hT
  exact k X.2.2.2.2.2.1 X.2.2.2.1 X.2.2.2.2.2.2.1 p l e s m args below meth c B T locs X rfl
theorem WP.freeze {pc : Nat} {Ls : List Slot} {st : List Value} (k : WP own code maxL ret nm R Z L h0 ws mine0 Q mine' ce sl h pc Ls st) (hm : ∀ x ∈ mine', x ∈ mine) : WP own code maxL ret nm R Z L h0 ws mine0 Q mine ce sl h pc Ls st := by
  intro p l e s m args below meth c B T locs X hT
  exact k p l e s m args below meth c B T locs ⟨X.1, X.2.1, X.2.2.1, X.2.2.2.1, X.2.2.2.2.mono hm⟩ hT
theorem WP.post {Q' : Option Value → Heap → List Addr → Prop} {pc : Nat} {Ls : List Slot} {st : List Value} (k : WP own code maxL ret nm R Z L h0 ws mine0 Q mine ce sl h pc Ls st) (hq : ∀ v h nw, Q v h nw → Q' v h nw) : WP own code maxL ret nm R Z L h0 ws mine0 Q' mine ce sl h pc Ls st := by
  intro p l e s m args below meth c B T locs X hT
  obtain ⟨s₂, v, lo, nw, r1, r2, r3, r4, r5, r6, r7, r8, r9⟩ := k p l e s m args below meth c B T locs X hT
  exact ⟨s₂, v, lo, nw, r1, r2, r3, r4, r5, r6, r7, r8, hq _ _ _ r9⟩
theorem WP.more {pc : Nat} {Ls : List Slot} {st : List Value} (k : WP own code maxL ret nm R Z L h0 ws mine0 Q mine ce' sl' h pc Ls st) (hc : ce ≤ ce') (hs : sl ≤ sl') : WP own code maxL ret nm R Z L h0 ws mine0 Q mine ce sl h pc Ls st := by
  intro p l e s m args below meth c B T locs X hT
  exact k p l e s m args below meth c B T locs ⟨X.1.mono hc hs, X.2⟩ hT
end Basic
end Jvm.OwnW
namespace Jvm.OwnW
open Jvm Jvm.ClassFile Sem Op Lib Jvm.Free Jvm.Stand Jvm.LawKit Jvm.RoadKit Bundle
section Plain
variable {R : Room} {Z : State} {L : Lits} {h0 h : Heap} {ws mine0 mine : List Addr} {ce sl : Nat} {own : String} {code : ByteArray} {maxL : Nat} {ret : Option FieldType} {nm : String} {Q : Option Value → Heap → List Addr → Prop} {pc pc' : Nat} {Ls : List Slot} {rest : List Value}
def one : Option Slot → Bool
  | some .unset => true
  | some (.val v) => v.category == 1
  | _ => false
theorem one_spec {o : Option Slot} (h : one o = true) : ∃ x, o = some x ∧ (x = .unset ∨ ∃ w, x = .val w ∧ w.category = 1) := by
  rcases o with _ | (_ | _ | v)
  · simp [one] at h
  · exact ⟨_, rfl, Or.inl rfl⟩
  · simp [one] at h
  · exact ⟨_, rfl, Or.inr ⟨v, rfl, by simpa [one] using h⟩⟩
theorem sto1 {Ls Ls' : List Slot} {k : Nat} {v : Value} (ho : one Ls[k]? = true) (hv : v.category = 1) (he : Ls.set k (.val v) = Ls') : storeLocals Ls.toArray k v = some Ls'.toArray := by
  obtain ⟨x, h1, h2⟩ := one_spec ho
  rw [XS.store1 (o := x) (by simpa using h1) h2 hv, ← he]
  simp
theorem sto2 {Ls Ls' : List Slot} {k : Nat} {x : Int64} (ho : one Ls[k]? = true) (ho' : one Ls[k+1]? = true) (he : (Ls.set k (.val (.long x))).set (k + 1) .second = Ls') : storeLocals Ls.toArray k (.long x) = some Ls'.toArray := by
  obtain ⟨y, h1, h2⟩ := one_spec ho
  obtain ⟨z, g1, g2⟩ := one_spec ho'
  subst he
  have k1 : k < Ls.length := (List.getElem?_eq_some_iff.mp h1).1
  have k2 : k + 1 < Ls.length := (List.getElem?_eq_some_iff.mp g1).1
  have e1 : Ls[k] = y := (List.getElem?_eq_some_iff.mp h1).2
  have e2 : Ls[k+1] = z := (List.getElem?_eq_some_iff.mp g1).2
  have hlc : (Value.long x).category = 2 := rfl
  rcases h2 with rfl | ⟨w, rfl, hw⟩ <;> rcases g2 with rfl | ⟨w', rfl, hw'⟩ <;> simp [storeLocals, storeSelf, setAt, hlc, k1, k2, e1, e2, *]
theorem sto2L {Ls Ls' : List Slot} {k : Nat} {x y : Int64} (ho : Ls[k]? = some (.val (.long y))) (ho' : Ls[k+1]? = some .second) (he : Ls.set k (.val (.long x)) = Ls') : storeLocals Ls.toArray k (.long x) = some Ls'.toArray := by
  subst he
  have k1 : k < Ls.length := (List.getElem?_eq_some_iff.mp ho).1
  have k2 : k + 1 < Ls.length := (List.getElem?_eq_some_iff.mp ho').1
  have e1 : Ls[k] = .val (.long y) := (List.getElem?_eq_some_iff.mp ho).2
  have e2 : Ls[k+1] = .second := (List.getElem?_eq_some_iff.mp ho').2
  have : ((Ls.set (k+1) .unset).set k (.val (.long x))).set (k+1) .second = Ls.set k (.val (.long x)) := by
    have this : Ls.set (k+1) .second = Ls := by rw [← e2]; exact List.set_getElem_self _
    rw [List.set_comm _ _ (by omega), List.set_set, this]
  have hlc : ∀ z : Int64, (Value.long z).category = 2 := fun _ => rfl
  simp [storeLocals, storeSelf, setAt, hlc, k1, k2, e1, e2, this]

theorem WP.aloadN {k : Fin 4} {v : Value} (hd : decode code pc = .ok (.aload_n k, 1)) (hl : Ls[k.val]? = some (.val v)) (hv : v.isRef = true) (hp : pc + 1 = pc') (K : WP own code maxL ret nm R Z L h0 ws mine0 Q mine ce sl h pc' Ls (v :: rest)) : WP own code maxL ret nm R Z L h0 ws mine0 Q mine ce sl h pc Ls (rest) := by
  subst hp; exact K.pure1 fun p e below T m c t h hx hc hr => XS.aloadN h hx rfl (hb hc hd) (by simpa using hl) hv hr
theorem WP.iloadN {k : Fin 4} {v : Int32} (hd : decode code pc = .ok (.iload_n k, 1)) (hl : Ls[k.val]? = some (.val (.int v))) (hp : pc + 1 = pc') (K : WP own code maxL ret nm R Z L h0 ws mine0 Q mine ce sl h pc' Ls (.int v :: rest)) : WP own code maxL ret nm R Z L h0 ws mine0 Q mine ce sl h pc Ls (rest) := by
  subst hp; exact K.pure1 fun p e below T m c t h hx hc hr => XS.iloadN h hx rfl (hb hc hd) (by simpa using hl) hr
theorem WP.lloadN {k : Fin 4} {v : Int64} (hd : decode code pc = .ok (.lload_n k, 1)) (hl : Ls[k.val]? = some (.val (.long v))) (hp : pc + 1 = pc') (K : WP own code maxL ret nm R Z L h0 ws mine0 Q mine ce sl h pc' Ls (.long v :: rest)) : WP own code maxL ret nm R Z L h0 ws mine0 Q mine ce sl h pc Ls (rest) := by
  subst hp; exact K.pure1 fun p e below T m c t h hx hc hr => XS.lloadN h hx rfl (hb hc hd) (by simpa using hl) hr
theorem WP.istoreN {k : Fin 4} {x : Int32} {Ls' : List Slot} (hd : decode code pc = .ok (.istore_n k, 1)) (ho : one Ls[k.val]? = true) (he : Ls.set k.val (.val (.int x)) = Ls') (hp : pc + 1 = pc') (K : WP own code maxL ret nm R Z L h0 ws mine0 Q mine ce sl h pc' Ls' (rest)) : WP own code maxL ret nm R Z L h0 ws mine0 Q mine ce sl h pc Ls (.int x :: rest) := by
  subst hp; exact K.pure1 fun p e below T m c t h hx hc hr => XS.istoreN h hx rfl (hb hc hd) rfl (sto1 ho rfl he) hr
theorem WP.astoreN {k : Fin 4} {x : Value} {Ls' : List Slot} (hd : decode code pc = .ok (.astore_n k, 1)) (hv : x.isRef = true) (hc1 : x.category = 1) (ho : one Ls[k.val]? = true) (he : Ls.set k.val (.val x) = Ls') (hp : pc + 1 = pc') (K : WP own code maxL ret nm R Z L h0 ws mine0 Q mine ce sl h pc' Ls' (rest)) : WP own code maxL ret nm R Z L h0 ws mine0 Q mine ce sl h pc Ls (x :: rest) := by
  subst hp; exact K.pure1 fun p e below T m c t h hx hc hr => XS.astoreN h hx rfl (hb hc hd) rfl hv (sto1 ho hc1 he) hr
theorem WP.lstoreN {k : Fin 4} {x : Int64} {Ls' : List Slot} (hd : decode code pc = .ok (.lstore_n k, 1)) (ho : one Ls[k.val]? = true) (ho' : one Ls[k.val+1]? = true) (he : (Ls.set k.val (.val (.long x))).set (k.val + 1) .second = Ls') (hp : pc + 1 = pc') (K : WP own code maxL ret nm R Z L h0 ws mine0 Q mine ce sl h pc' Ls' (rest)) : WP own code maxL ret nm R Z L h0 ws mine0 Q mine ce sl h pc Ls (.long x :: rest) := by
  subst hp; exact K.pure1 fun p e below T m c t h hx hc hr => XS.lstoreN h hx rfl (hb hc hd) rfl (sto2 ho ho' he) hr
theorem WP.lstoreLN {k : Fin 4} {x y : Int64} {Ls' : List Slot} (hd : decode code pc = .ok (.lstore_n k, 1)) (ho : Ls[k.val]? = some (.val (.long y))) (ho' : Ls[k.val+1]? = some .second) (he : Ls.set k.val (.val (.long x)) = Ls') (hp : pc + 1 = pc') (K : WP own code maxL ret nm R Z L h0 ws mine0 Q mine ce sl h pc' Ls' (rest)) : WP own code maxL ret nm R Z L h0 ws mine0 Q mine ce sl h pc Ls (.long x :: rest) := by
  subst hp; exact K.pure1 fun p e below T m c t h hx hc hr => XS.lstoreN h hx rfl (hb hc hd) rfl (sto2L ho ho' he) hr
theorem WP.aload {k : Nat} {v : Value} (hd : decode code pc = .ok (.aload k, 2)) (hl : Ls[k]? = some (.val v)) (hv : v.isRef = true) (hp : pc + 2 = pc') (K : WP own code maxL ret nm R Z L h0 ws mine0 Q mine ce sl h pc' Ls (v :: rest)) : WP own code maxL ret nm R Z L h0 ws mine0 Q mine ce sl h pc Ls (rest) := by
  subst hp; exact K.pure1 fun p e below T m c t h hx hc hr => XS.aload h hx rfl (hb hc hd) (by simpa using hl) hv hr
theorem WP.iload {k : Nat} {v : Int32} (hd : decode code pc = .ok (.iload k, 2)) (hl : Ls[k]? = some (.val (.int v))) (hp : pc + 2 = pc') (K : WP own code maxL ret nm R Z L h0 ws mine0 Q mine ce sl h pc' Ls (.int v :: rest)) : WP own code maxL ret nm R Z L h0 ws mine0 Q mine ce sl h pc Ls (rest) := by
  subst hp; exact K.pure1 fun p e below T m c t h hx hc hr => XS.iload h hx rfl (hb hc hd) (by simpa using hl) hr
theorem WP.lload {k : Nat} {v : Int64} (hd : decode code pc = .ok (.lload k, 2)) (hl : Ls[k]? = some (.val (.long v))) (hp : pc + 2 = pc') (K : WP own code maxL ret nm R Z L h0 ws mine0 Q mine ce sl h pc' Ls (.long v :: rest)) : WP own code maxL ret nm R Z L h0 ws mine0 Q mine ce sl h pc Ls (rest) := by
  subst hp; exact K.pure1 fun p e below T m c t h hx hc hr => XS.lload h hx rfl (hb hc hd) (by simpa using hl) hr
theorem WP.istore {k : Nat} {x : Int32} {Ls' : List Slot} (hd : decode code pc = .ok (.istore k, 2)) (ho : one Ls[k]? = true) (he : Ls.set k (.val (.int x)) = Ls') (hp : pc + 2 = pc') (K : WP own code maxL ret nm R Z L h0 ws mine0 Q mine ce sl h pc' Ls' (rest)) : WP own code maxL ret nm R Z L h0 ws mine0 Q mine ce sl h pc Ls (.int x :: rest) := by
  subst hp; exact K.pure1 fun p e below T m c t h hx hc hr => XS.istore h hx rfl (hb hc hd) rfl (sto1 ho rfl he) hr
theorem WP.astore {k : Nat} {x : Value} {Ls' : List Slot} (hd : decode code pc = .ok (.astore k, 2)) (hv : x.isRef = true) (hc1 : x.category = 1) (ho : one Ls[k]? = true) (he : Ls.set k (.val x) = Ls') (hp : pc + 2 = pc') (K : WP own code maxL ret nm R Z L h0 ws mine0 Q mine ce sl h pc' Ls' (rest)) : WP own code maxL ret nm R Z L h0 ws mine0 Q mine ce sl h pc Ls (x :: rest) := by
  subst hp; exact K.pure1 fun p e below T m c t h hx hc hr => XS.astore h hx rfl (hb hc hd) rfl hv (sto1 ho hc1 he) hr
theorem WP.lstore {k : Nat} {x : Int64} {Ls' : List Slot} (hd : decode code pc = .ok (.lstore k, 2)) (ho : one Ls[k]? = true) (ho' : one Ls[k+1]? = true) (he : (Ls.set k (.val (.long x))).set (k + 1) .second = Ls') (hp : pc + 2 = pc') (K : WP own code maxL ret nm R Z L h0 ws mine0 Q mine ce sl h pc' Ls' (rest)) : WP own code maxL ret nm R Z L h0 ws mine0 Q mine ce sl h pc Ls (.long x :: rest) := by
  subst hp; exact K.pure1 fun p e below T m c t h hx hc hr => XS.lstore h hx rfl (hb hc hd) rfl (sto2 ho ho' he) hr
theorem WP.lstoreL {k : Nat} {x y : Int64} {Ls' : List Slot} (hd : decode code pc = .ok (.lstore k, 2)) (ho : Ls[k]? = some (.val (.long y))) (ho' : Ls[k+1]? = some .second) (he : Ls.set k (.val (.long x)) = Ls') (hp : pc + 2 = pc') (K : WP own code maxL ret nm R Z L h0 ws mine0 Q mine ce sl h pc' Ls' (rest)) : WP own code maxL ret nm R Z L h0 ws mine0 Q mine ce sl h pc Ls (.long x :: rest) := by
  subst hp; exact K.pure1 fun p e below T m c t h hx hc hr => XS.lstore h hx rfl (hb hc hd) rfl (sto2L ho ho' he) hr
theorem WP.iconst {i : Int} {x : Int32} (hd : decode code pc = .ok (.iconst i, 1)) (hx1 : Int32.ofInt i = x) (hp : pc + 1 = pc') (K : WP own code maxL ret nm R Z L h0 ws mine0 Q mine ce sl h pc' Ls (.int x :: rest)) : WP own code maxL ret nm R Z L h0 ws mine0 Q mine ce sl h pc Ls (rest) := by
  subst hp; exact K.pure1 fun p e below T m c t h hx hc hr => XS.iconst h hx rfl (hb hc hd) (by rw [hx1]; exact hr)
theorem WP.bipush {i : Int} {x : Int32} (hd : decode code pc = .ok (.bipush i, 2)) (hx1 : (Int8.ofInt i).toInt32 = x) (hp : pc + 2 = pc') (K : WP own code maxL ret nm R Z L h0 ws mine0 Q mine ce sl h pc' Ls (.int x :: rest)) : WP own code maxL ret nm R Z L h0 ws mine0 Q mine ce sl h pc Ls (rest) := by
  subst hp; exact K.pure1 fun p e below T m c t h hx hc hr => XS.bipush h hx rfl (hb hc hd) (by rw [hx1]; exact hr)
theorem WP.sipush {i : Int} {x : Int32} (hd : decode code pc = .ok (.sipush i, 3)) (hx1 : (Int16.ofInt i).toInt32 = x) (hp : pc + 3 = pc') (K : WP own code maxL ret nm R Z L h0 ws mine0 Q mine ce sl h pc' Ls (.int x :: rest)) : WP own code maxL ret nm R Z L h0 ws mine0 Q mine ce sl h pc Ls (rest) := by
  subst hp; exact K.pure1 fun p e below T m c t h hx hc hr => XS.sipush h hx rfl (hb hc hd) (by rw [hx1]; exact hr)
theorem WP.aconstNull  (hd : decode code pc = .ok (.aconst_null, 1))  (hp : pc + 1 = pc') (K : WP own code maxL ret nm R Z L h0 ws mine0 Q mine ce sl h pc' Ls (.null :: rest)) : WP own code maxL ret nm R Z L h0 ws mine0 Q mine ce sl h pc Ls (rest) := by
  subst hp; exact K.pure1 fun p e below T m c t h hx hc hr => XS.aconstNull h hx rfl (hb hc hd) hr
theorem WP.iadd {x y : Int32} (hd : decode code pc = .ok (.iadd, 1))  (hp : pc + 1 = pc') (K : WP own code maxL ret nm R Z L h0 ws mine0 Q mine ce sl h pc' Ls (.int (x + y) :: rest)) : WP own code maxL ret nm R Z L h0 ws mine0 Q mine ce sl h pc Ls (.int y :: .int x :: rest) := by
  subst hp; exact K.pure1 fun p e below T m c t h hx hc hr => XS.iadd h hx rfl (hb hc hd) rfl hr
theorem WP.isub {x y : Int32} (hd : decode code pc = .ok (.isub, 1))  (hp : pc + 1 = pc') (K : WP own code maxL ret nm R Z L h0 ws mine0 Q mine ce sl h pc' Ls (.int (x - y) :: rest)) : WP own code maxL ret nm R Z L h0 ws mine0 Q mine ce sl h pc Ls (.int y :: .int x :: rest) := by
  subst hp; exact K.pure1 fun p e below T m c t h hx hc hr => XS.isub h hx rfl (hb hc hd) rfl hr
theorem WP.imul {x y : Int32} (hd : decode code pc = .ok (.imul, 1))  (hp : pc + 1 = pc') (K : WP own code maxL ret nm R Z L h0 ws mine0 Q mine ce sl h pc' Ls (.int (x * y) :: rest)) : WP own code maxL ret nm R Z L h0 ws mine0 Q mine ce sl h pc Ls (.int y :: .int x :: rest) := by
  subst hp; exact K.pure1 fun p e below T m c t h hx hc hr => XS.imul h hx rfl (hb hc hd) rfl hr
theorem WP.iand {x y : Int32} (hd : decode code pc = .ok (.iand, 1))  (hp : pc + 1 = pc') (K : WP own code maxL ret nm R Z L h0 ws mine0 Q mine ce sl h pc' Ls (.int (x &&& y) :: rest)) : WP own code maxL ret nm R Z L h0 ws mine0 Q mine ce sl h pc Ls (.int y :: .int x :: rest) := by
  subst hp; exact K.pure1 fun p e below T m c t h hx hc hr => XS.iand h hx rfl (hb hc hd) rfl hr
theorem WP.ior {x y : Int32} (hd : decode code pc = .ok (.ior, 1))  (hp : pc + 1 = pc') (K : WP own code maxL ret nm R Z L h0 ws mine0 Q mine ce sl h pc' Ls (.int (x ||| y) :: rest)) : WP own code maxL ret nm R Z L h0 ws mine0 Q mine ce sl h pc Ls (.int y :: .int x :: rest) := by
  subst hp; exact K.pure1 fun p e below T m c t h hx hc hr => XS.ior h hx rfl (hb hc hd) rfl hr
theorem WP.ixor {x y : Int32} (hd : decode code pc = .ok (.ixor, 1))  (hp : pc + 1 = pc') (K : WP own code maxL ret nm R Z L h0 ws mine0 Q mine ce sl h pc' Ls (.int (x ^^^ y) :: rest)) : WP own code maxL ret nm R Z L h0 ws mine0 Q mine ce sl h pc Ls (.int y :: .int x :: rest) := by
  subst hp; exact K.pure1 fun p e below T m c t h hx hc hr => XS.ixor h hx rfl (hb hc hd) rfl hr
theorem WP.ishl {x y : Int32} (hd : decode code pc = .ok (.ishl, 1))  (hp : pc + 1 = pc') (K : WP own code maxL ret nm R Z L h0 ws mine0 Q mine ce sl h pc' Ls (.int (x <<< (y &&& 31)) :: rest)) : WP own code maxL ret nm R Z L h0 ws mine0 Q mine ce sl h pc Ls (.int y :: .int x :: rest) := by
  subst hp; exact K.pure1 fun p e below T m c t h hx hc hr => XS.ishl h hx rfl (hb hc hd) rfl hr
theorem WP.ishr {x y : Int32} (hd : decode code pc = .ok (.ishr, 1))  (hp : pc + 1 = pc') (K : WP own code maxL ret nm R Z L h0 ws mine0 Q mine ce sl h pc' Ls (.int (x >>> (y &&& 31)) :: rest)) : WP own code maxL ret nm R Z L h0 ws mine0 Q mine ce sl h pc Ls (.int y :: .int x :: rest) := by
  subst hp; exact K.pure1 fun p e below T m c t h hx hc hr => XS.ishr h hx rfl (hb hc hd) rfl hr
theorem WP.iushr {x y : Int32} (hd : decode code pc = .ok (.iushr, 1))  (hp : pc + 1 = pc') (K : WP own code maxL ret nm R Z L h0 ws mine0 Q mine ce sl h pc' Ls (.int ((x.toUInt32 >>> (y &&& 31).toUInt32).toInt32) :: rest)) : WP own code maxL ret nm R Z L h0 ws mine0 Q mine ce sl h pc Ls (.int y :: .int x :: rest) := by
  subst hp; exact K.pure1 fun p e below T m c t h hx hc hr => XS.iushr h hx rfl (hb hc hd) rfl hr
theorem WP.ladd {x y : Int64} (hd : decode code pc = .ok (.ladd, 1))  (hp : pc + 1 = pc') (K : WP own code maxL ret nm R Z L h0 ws mine0 Q mine ce sl h pc' Ls (.long (x + y) :: rest)) : WP own code maxL ret nm R Z L h0 ws mine0 Q mine ce sl h pc Ls (.long y :: .long x :: rest) := by
  subst hp; exact K.pure1 fun p e below T m c t h hx hc hr => XS.ladd h hx rfl (hb hc hd) rfl hr
theorem WP.lsub {x y : Int64} (hd : decode code pc = .ok (.lsub, 1))  (hp : pc + 1 = pc') (K : WP own code maxL ret nm R Z L h0 ws mine0 Q mine ce sl h pc' Ls (.long (x - y) :: rest)) : WP own code maxL ret nm R Z L h0 ws mine0 Q mine ce sl h pc Ls (.long y :: .long x :: rest) := by
  subst hp; exact K.pure1 fun p e below T m c t h hx hc hr => XS.lsub h hx rfl (hb hc hd) rfl hr
theorem WP.lmul {x y : Int64} (hd : decode code pc = .ok (.lmul, 1))  (hp : pc + 1 = pc') (K : WP own code maxL ret nm R Z L h0 ws mine0 Q mine ce sl h pc' Ls (.long (x * y) :: rest)) : WP own code maxL ret nm R Z L h0 ws mine0 Q mine ce sl h pc Ls (.long y :: .long x :: rest) := by
  subst hp; exact K.pure1 fun p e below T m c t h hx hc hr => XS.lmul h hx rfl (hb hc hd) rfl hr
theorem WP.land {x y : Int64} (hd : decode code pc = .ok (.land, 1))  (hp : pc + 1 = pc') (K : WP own code maxL ret nm R Z L h0 ws mine0 Q mine ce sl h pc' Ls (.long (x &&& y) :: rest)) : WP own code maxL ret nm R Z L h0 ws mine0 Q mine ce sl h pc Ls (.long y :: .long x :: rest) := by
  subst hp; exact K.pure1 fun p e below T m c t h hx hc hr => XS.land h hx rfl (hb hc hd) rfl hr
theorem WP.lor {x y : Int64} (hd : decode code pc = .ok (.lor, 1))  (hp : pc + 1 = pc') (K : WP own code maxL ret nm R Z L h0 ws mine0 Q mine ce sl h pc' Ls (.long (x ||| y) :: rest)) : WP own code maxL ret nm R Z L h0 ws mine0 Q mine ce sl h pc Ls (.long y :: .long x :: rest) := by
  subst hp; exact K.pure1 fun p e below T m c t h hx hc hr => XS.lor h hx rfl (hb hc hd) rfl hr
theorem WP.lxor {x y : Int64} (hd : decode code pc = .ok (.lxor, 1))  (hp : pc + 1 = pc') (K : WP own code maxL ret nm R Z L h0 ws mine0 Q mine ce sl h pc' Ls (.long (x ^^^ y) :: rest)) : WP own code maxL ret nm R Z L h0 ws mine0 Q mine ce sl h pc Ls (.long y :: .long x :: rest) := by
  subst hp; exact K.pure1 fun p e below T m c t h hx hc hr => XS.lxor h hx rfl (hb hc hd) rfl hr
theorem WP.lshl {x : Int64} {y : Int32} (hd : decode code pc = .ok (.lshl, 1))  (hp : pc + 1 = pc') (K : WP own code maxL ret nm R Z L h0 ws mine0 Q mine ce sl h pc' Ls (.long (x <<< (y &&& 0x3f).toInt64) :: rest)) : WP own code maxL ret nm R Z L h0 ws mine0 Q mine ce sl h pc Ls (.int y :: .long x :: rest) := by
  subst hp; exact K.pure1 fun p e below T m c t h hx hc hr => XS.lshl h hx rfl (hb hc hd) rfl hr
theorem WP.lshr {x : Int64} {y : Int32} (hd : decode code pc = .ok (.lshr, 1))  (hp : pc + 1 = pc') (K : WP own code maxL ret nm R Z L h0 ws mine0 Q mine ce sl h pc' Ls (.long (x >>> (y &&& 0x3f).toInt64) :: rest)) : WP own code maxL ret nm R Z L h0 ws mine0 Q mine ce sl h pc Ls (.int y :: .long x :: rest) := by
  subst hp; exact K.pure1 fun p e below T m c t h hx hc hr => XS.lshr h hx rfl (hb hc hd) rfl hr
theorem WP.lushr {x : Int64} {y : Int32} (hd : decode code pc = .ok (.lushr, 1))  (hp : pc + 1 = pc') (K : WP own code maxL ret nm R Z L h0 ws mine0 Q mine ce sl h pc' Ls (.long ((x.toUInt64 >>> (y &&& 0x3f).toInt64.toUInt64).toInt64) :: rest)) : WP own code maxL ret nm R Z L h0 ws mine0 Q mine ce sl h pc Ls (.int y :: .long x :: rest) := by
  subst hp; exact K.pure1 fun p e below T m c t h hx hc hr => XS.lushr h hx rfl (hb hc hd) rfl hr
theorem WP.idiv {x y : Int32} (hd : decode code pc = .ok (.idiv, 1)) (hy : y ≠ 0) (hp : pc + 1 = pc') (K : WP own code maxL ret nm R Z L h0 ws mine0 Q mine ce sl h pc' Ls (.int (x / y) :: rest)) : WP own code maxL ret nm R Z L h0 ws mine0 Q mine ce sl h pc Ls (.int y :: .int x :: rest) := by
  subst hp; exact K.pure1 fun p e below T m c t h hx hc hr => XS.idiv h hx rfl (hb hc hd) rfl hy hr
theorem WP.irem {x y : Int32} (hd : decode code pc = .ok (.irem, 1)) (hy : y ≠ 0) (hp : pc + 1 = pc') (K : WP own code maxL ret nm R Z L h0 ws mine0 Q mine ce sl h pc' Ls (.int (x % y) :: rest)) : WP own code maxL ret nm R Z L h0 ws mine0 Q mine ce sl h pc Ls (.int y :: .int x :: rest) := by
  subst hp; exact K.pure1 fun p e below T m c t h hx hc hr => XS.irem h hx rfl (hb hc hd) rfl hy (by rw [irem_eq_mod]; exact hr)
theorem WP.ldiv {x y : Int64} (hd : decode code pc = .ok (.ldiv, 1)) (hy : y ≠ 0) (hp : pc + 1 = pc') (K : WP own code maxL ret nm R Z L h0 ws mine0 Q mine ce sl h pc' Ls (.long (x / y) :: rest)) : WP own code maxL ret nm R Z L h0 ws mine0 Q mine ce sl h pc Ls (.long y :: .long x :: rest) := by
  subst hp; exact K.pure1 fun p e below T m c t h hx hc hr => XS.ldiv h hx rfl (hb hc hd) rfl hy hr
theorem WP.lrem {x y : Int64} (hd : decode code pc = .ok (.lrem, 1)) (hy : y ≠ 0) (hp : pc + 1 = pc') (K : WP own code maxL ret nm R Z L h0 ws mine0 Q mine ce sl h pc' Ls (.long (x % y) :: rest)) : WP own code maxL ret nm R Z L h0 ws mine0 Q mine ce sl h pc Ls (.long y :: .long x :: rest) := by
  subst hp; exact K.pure1 fun p e below T m c t h hx hc hr => XS.lrem h hx rfl (hb hc hd) rfl hy (by rw [lrem_mod]; exact hr)
theorem WP.ineg {x : Int32} (hd : decode code pc = .ok (.ineg, 1))  (hp : pc + 1 = pc') (K : WP own code maxL ret nm R Z L h0 ws mine0 Q mine ce sl h pc' Ls (.int (-x) :: rest)) : WP own code maxL ret nm R Z L h0 ws mine0 Q mine ce sl h pc Ls (.int x :: rest) := by
  subst hp; exact K.pure1 fun p e below T m c t h hx hc hr => XS.ineg h hx rfl (hb hc hd) rfl hr
theorem WP.lneg {x : Int64} (hd : decode code pc = .ok (.lneg, 1))  (hp : pc + 1 = pc') (K : WP own code maxL ret nm R Z L h0 ws mine0 Q mine ce sl h pc' Ls (.long (-x) :: rest)) : WP own code maxL ret nm R Z L h0 ws mine0 Q mine ce sl h pc Ls (.long x :: rest) := by
  subst hp; exact K.pure1 fun p e below T m c t h hx hc hr => XS.lneg h hx rfl (hb hc hd) rfl hr
theorem WP.i2b {x : Int32} (hd : decode code pc = .ok (.i2b, 1))  (hp : pc + 1 = pc') (K : WP own code maxL ret nm R Z L h0 ws mine0 Q mine ce sl h pc' Ls (.int x.toInt8.toInt32 :: rest)) : WP own code maxL ret nm R Z L h0 ws mine0 Q mine ce sl h pc Ls (.int x :: rest) := by
  subst hp; exact K.pure1 fun p e below T m c t h hx hc hr => XS.i2b h hx rfl (hb hc hd) rfl hr
theorem WP.i2s {x : Int32} (hd : decode code pc = .ok (.i2s, 1))  (hp : pc + 1 = pc') (K : WP own code maxL ret nm R Z L h0 ws mine0 Q mine ce sl h pc' Ls (.int x.toInt16.toInt32 :: rest)) : WP own code maxL ret nm R Z L h0 ws mine0 Q mine ce sl h pc Ls (.int x :: rest) := by
  subst hp; exact K.pure1 fun p e below T m c t h hx hc hr => XS.i2s h hx rfl (hb hc hd) rfl hr
theorem WP.i2c {x : Int32} (hd : decode code pc = .ok (.i2c, 1))  (hp : pc + 1 = pc') (K : WP own code maxL ret nm R Z L h0 ws mine0 Q mine ce sl h pc' Ls (.int x.toUInt32.toUInt16.toUInt32.toInt32 :: rest)) : WP own code maxL ret nm R Z L h0 ws mine0 Q mine ce sl h pc Ls (.int x :: rest) := by
  subst hp; exact K.pure1 fun p e below T m c t h hx hc hr => XS.i2c h hx rfl (hb hc hd) rfl hr
theorem WP.i2l {x : Int32} (hd : decode code pc = .ok (.i2l, 1))  (hp : pc + 1 = pc') (K : WP own code maxL ret nm R Z L h0 ws mine0 Q mine ce sl h pc' Ls (.long x.toInt64 :: rest)) : WP own code maxL ret nm R Z L h0 ws mine0 Q mine ce sl h pc Ls (.int x :: rest) := by
  subst hp; exact K.pure1 fun p e below T m c t h hx hc hr => XS.i2l h hx rfl (hb hc hd) rfl hr
theorem WP.l2i {x : Int64} (hd : decode code pc = .ok (.l2i, 1))  (hp : pc + 1 = pc') (K : WP own code maxL ret nm R Z L h0 ws mine0 Q mine ce sl h pc' Ls (.int x.toInt32 :: rest)) : WP own code maxL ret nm R Z L h0 ws mine0 Q mine ce sl h pc Ls (.long x :: rest) := by
  subst hp; exact K.pure1 fun p e below T m c t h hx hc hr => XS.l2i h hx rfl (hb hc hd) rfl hr
theorem WP.lcmp {x y : Int64} (hd : decode code pc = .ok (.lcmp, 1))  (hp : pc + 1 = pc') (K : WP own code maxL ret nm R Z L h0 ws mine0 Q mine ce sl h pc' Ls (.int (lcmpW x y) :: rest)) : WP own code maxL ret nm R Z L h0 ws mine0 Q mine ce sl h pc Ls (.long y :: .long x :: rest) := by
  subst hp; exact K.pure1 fun p e below T m c t h hx hc hr => XS.lcmp h hx rfl (hb hc hd) rfl hr
theorem WP.lconst {k : Fin 2} {x : Int64} (hd : decode code pc = .ok (.lconst k, 1)) (hx1 : Int64.ofNat k.val = x) (hp : pc + 1 = pc') (K : WP own code maxL ret nm R Z L h0 ws mine0 Q mine ce sl h pc' Ls (.long x :: rest)) : WP own code maxL ret nm R Z L h0 ws mine0 Q mine ce sl h pc Ls (rest) := by
  subst hp; exact K.pure1 fun p e below T m c t h hx hc hr => XS.lconst h hx rfl (hb hc hd) (by rw [← hx1] at hr; simpa using hr)
theorem WP.dup {v : Value} (hd : decode code pc = .ok (.dup, 1)) (hc1 : v.category = 1) (hp : pc + 1 = pc') (K : WP own code maxL ret nm R Z L h0 ws mine0 Q mine ce sl h pc' Ls (v :: v :: rest)) : WP own code maxL ret nm R Z L h0 ws mine0 Q mine ce sl h pc Ls (v :: rest) := by
  subst hp; exact K.pure1 fun p e below T m c t h hx hc hr => XS.dup h hx rfl (hb hc hd) rfl hc1 hr
theorem WP.pop {v : Value} (hd : decode code pc = .ok (.pop, 1)) (hc1 : v.category = 1) (hp : pc + 1 = pc') (K : WP own code maxL ret nm R Z L h0 ws mine0 Q mine ce sl h pc' Ls (rest)) : WP own code maxL ret nm R Z L h0 ws mine0 Q mine ce sl h pc Ls (v :: rest) := by
  subst hp; exact K.pure1 fun p e below T m c t h hx hc hr => XS.pop h hx rfl (hb hc hd) rfl hc1 hr
theorem WP.swap {v w : Value} (hd : decode code pc = .ok (.swap, 1)) (hc1 : v.category = 1) (hc2 : w.category = 1) (hp : pc + 1 = pc') (K : WP own code maxL ret nm R Z L h0 ws mine0 Q mine ce sl h pc' Ls (w :: v :: rest)) : WP own code maxL ret nm R Z L h0 ws mine0 Q mine ce sl h pc Ls (v :: w :: rest) := by
  subst hp; exact K.pure1 fun p e below T m c t h hx hc hr => XS.swap h hx rfl (hb hc hd) rfl hc1 hc2 hr
theorem WP.dupX1 {v w : Value} (hd : decode code pc = .ok (.dup_x1, 1)) (hc1 : v.category = 1) (hc2 : w.category = 1) (hp : pc + 1 = pc') (K : WP own code maxL ret nm R Z L h0 ws mine0 Q mine ce sl h pc' Ls (v :: w :: v :: rest)) : WP own code maxL ret nm R Z L h0 ws mine0 Q mine ce sl h pc Ls (v :: w :: rest) := by
  subst hp; exact K.pure1 fun p e below T m c t h hx hc hr => XS.dupX1 h hx rfl (hb hc hd) rfl hc1 hc2 hr
theorem WP.iinc {k : Nat} {i : Int} {x y : Int32} {Ls' : List Slot} (hd : decode code pc = .ok (.iinc k i, 3)) (hl : Ls[k]? = some (.val (.int x))) (hy : x + Int32.ofInt i = y) (he : Ls.set k (.val (.int y)) = Ls') (hp : pc + 3 = pc') (K : WP own code maxL ret nm R Z L h0 ws mine0 Q mine ce sl h pc' Ls' (rest)) : WP own code maxL ret nm R Z L h0 ws mine0 Q mine ce sl h pc Ls (rest) := by
  subst hp; exact K.pure1 fun p e below T m c t h hx hc hr => XS.iinc h hx rfl (hb hc hd) (by simpa using hl) (sto1 (by rw [hl]; rfl) rfl (by rw [hy]; exact he)) hr
theorem WP.goto {o : Int} (hd : decode code pc = .ok (.goto o, 3)) (ho : 0 ≤ (pc : Int) + o) (hp : ((pc : Int) + o).toNat = pc') (K : WP own code maxL ret nm R Z L h0 ws mine0 Q mine ce sl h pc' Ls rest) : WP own code maxL ret nm R Z L h0 ws mine0 Q mine ce sl h pc Ls rest := 
  K.pure1 fun p e below T m c t h hx hc hr => XS.goto h hx rfl rfl (hb hc hd) ho hp hr
def cndT (cd : ClassFile.Cond) (x y : Int32) : Prop := match cd with
  | .eq => x = y | .ne => ¬ x = y | .lt => x < y | .ge => ¬ x < y | .gt => y < x | .le => ¬ y < x
def cndF (cd : ClassFile.Cond) (x y : Int32) : Prop := match cd with
  | .eq => ¬ x = y | .ne => x = y | .lt => ¬ x < y | .ge => x < y | .gt => ¬ y < x | .le => y < x
theorem cnd_t {cd : ClassFile.Cond} {x y : Int32} (h : cndT cd x y) : if_icmp.holds cd x y = true := by
  cases cd
  · exact (teq h).1
  · exact (feq h).2
  · exact (tlt h).1
  · exact (flt h).2.1
  · exact (tlt h).2.2.1
  · exact (flt h).2.2.2
theorem cnd_f {cd : ClassFile.Cond} {x y : Int32} (h : cndF cd x y) : if_icmp.holds cd x y = false := by
  cases cd
  · exact (feq h).1
  · exact (teq h).2
  · exact (flt h).1
  · exact (tlt h).2.1
  · exact (flt h).2.2.1
  · exact (tlt h).2.2.2
theorem cnd_or (cd : ClassFile.Cond) (x y : Int32) : cndT cd x y ∨ cndF cd x y := by
  cases cd <;> simp only [cndT, cndF] <;> first | exact Classical.em _ | exact (Classical.em _).symm
theorem WP.icmpT {cd : ClassFile.Cond} {o : Int} {x y : Int32} (hd : decode code pc = .ok (.if_icmp cd o, 3)) (ho : 0 ≤ (pc : Int) + o) (hp : ((pc : Int) + o).toNat = pc') (hc1 : cndT cd x y) (K : WP own code maxL ret nm R Z L h0 ws mine0 Q mine ce sl h pc' Ls rest) : WP own code maxL ret nm R Z L h0 ws mine0 Q mine ce sl h pc Ls (.int y :: .int x :: rest) :=
  K.pure1 fun p e below T m c t h hx hc hr => XS.icmpYes h hx rfl rfl (hb hc hd) rfl (cnd_t hc1) ho hp hr
theorem WP.icmpF {cd : ClassFile.Cond} {o : Int} {x y : Int32} (hd : decode code pc = .ok (.if_icmp cd o, 3)) (hp : pc + 3 = pc') (hc1 : cndF cd x y) (K : WP own code maxL ret nm R Z L h0 ws mine0 Q mine ce sl h pc' Ls rest) : WP own code maxL ret nm R Z L h0 ws mine0 Q mine ce sl h pc Ls (.int y :: .int x :: rest) := by
  subst hp; exact K.pure1 fun p e below T m c t h hx hc hr => XS.icmpNo h hx rfl (hb hc hd) rfl (cnd_f hc1) hr
theorem WP.icmp {cd : ClassFile.Cond} {o : Int} {x y : Int32} {pc2 : Nat} (hd : decode code pc = .ok (.if_icmp cd o, 3)) (ho : 0 ≤ (pc : Int) + o) (hp : ((pc : Int) + o).toNat = pc') (hp2 : pc + 3 = pc2) (K1 : cndT cd x y → WP own code maxL ret nm R Z L h0 ws mine0 Q mine ce sl h pc' Ls rest) (K2 : cndF cd x y → WP own code maxL ret nm R Z L h0 ws mine0 Q mine ce sl h pc2 Ls rest) : WP own code maxL ret nm R Z L h0 ws mine0 Q mine ce sl h pc Ls (.int y :: .int x :: rest) := by
  rcases cnd_or cd x y with q | q
  · exact WP.icmpT hd ho hp q (K1 q)
  · exact WP.icmpF hd hp2 q (K2 q)
theorem WP.ifT {cd : ClassFile.Cond} {o : Int} {x : Int32} (hd : decode code pc = .ok (.ifCond cd o, 3)) (ho : 0 ≤ (pc : Int) + o) (hp : ((pc : Int) + o).toNat = pc') (hc1 : cndT cd x 0) (K : WP own code maxL ret nm R Z L h0 ws mine0 Q mine ce sl h pc' Ls rest) : WP own code maxL ret nm R Z L h0 ws mine0 Q mine ce sl h pc Ls (.int x :: rest) :=
  K.pure1 fun p e below T m c t h hx hc hr => XS.ifYes h hx rfl rfl (hb hc hd) rfl ((if0 _ _).trans (cnd_t hc1)) ho hp hr
theorem WP.ifF {cd : ClassFile.Cond} {o : Int} {x : Int32} (hd : decode code pc = .ok (.ifCond cd o, 3)) (hp : pc + 3 = pc') (hc1 : cndF cd x 0) (K : WP own code maxL ret nm R Z L h0 ws mine0 Q mine ce sl h pc' Ls rest) : WP own code maxL ret nm R Z L h0 ws mine0 Q mine ce sl h pc Ls (.int x :: rest) := by
  subst hp; exact K.pure1 fun p e below T m c t h hx hc hr => XS.ifNo h hx rfl (hb hc hd) rfl ((if0 _ _).trans (cnd_f hc1)) hr
theorem WP.ifC {cd : ClassFile.Cond} {o : Int} {x : Int32} {pc2 : Nat} (hd : decode code pc = .ok (.ifCond cd o, 3)) (ho : 0 ≤ (pc : Int) + o) (hp : ((pc : Int) + o).toNat = pc') (hp2 : pc + 3 = pc2) (K1 : cndT cd x 0 → WP own code maxL ret nm R Z L h0 ws mine0 Q mine ce sl h pc' Ls rest) (K2 : cndF cd x 0 → WP own code maxL ret nm R Z L h0 ws mine0 Q mine ce sl h pc2 Ls rest) : WP own code maxL ret nm R Z L h0 ws mine0 Q mine ce sl h pc Ls (.int x :: rest) := by
  rcases cnd_or cd x 0 with q | q
  · exact WP.ifT hd ho hp q (K1 q)
  · exact WP.ifF hd hp2 q (K2 q)
theorem WP.ifnullT {o : Int} (hd : decode code pc = .ok (.ifnull o, 3)) (ho : 0 ≤ (pc : Int) + o) (hp : ((pc : Int) + o).toNat = pc') (K : WP own code maxL ret nm R Z L h0 ws mine0 Q mine ce sl h pc' Ls rest) : WP own code maxL ret nm R Z L h0 ws mine0 Q mine ce sl h pc Ls (.null :: rest) :=
  K.pure1 fun p e below T m c t h hx hc hr => XS.ifnullYes h hx rfl rfl (hb hc hd) rfl ho hp hr
theorem WP.ifnullF {o : Int} {a : Addr} (hd : decode code pc = .ok (.ifnull o, 3)) (hp : pc + 3 = pc') (K : WP own code maxL ret nm R Z L h0 ws mine0 Q mine ce sl h pc' Ls rest) : WP own code maxL ret nm R Z L h0 ws mine0 Q mine ce sl h pc Ls (.ref a :: rest) := by
  subst hp; exact K.pure1 fun p e below T m c t h hx hc hr => XS.ifnullNo h hx rfl (hb hc hd) rfl hr
theorem WP.ifnonnullT {o : Int} {a : Addr} (hd : decode code pc = .ok (.ifnonnull o, 3)) (ho : 0 ≤ (pc : Int) + o) (hp : ((pc : Int) + o).toNat = pc') (K : WP own code maxL ret nm R Z L h0 ws mine0 Q mine ce sl h pc' Ls rest) : WP own code maxL ret nm R Z L h0 ws mine0 Q mine ce sl h pc Ls (.ref a :: rest) :=
  K.pure1 fun p e below T m c t h hx hc hr => XS.ifnonnullYes h hx rfl rfl (hb hc hd) rfl ho hp hr
theorem WP.ifnonnullF {o : Int} (hd : decode code pc = .ok (.ifnonnull o, 3)) (hp : pc + 3 = pc') (K : WP own code maxL ret nm R Z L h0 ws mine0 Q mine ce sl h pc' Ls rest) : WP own code maxL ret nm R Z L h0 ws mine0 Q mine ce sl h pc Ls (.null :: rest) := by
  subst hp; exact K.pure1 fun p e below T m c t h hx hc hr => XS.ifnonnullNo h hx rfl (hb hc hd) rfl hr
theorem WP.acmp {cd : ACond} {o : Int} {x y : Value} (hd : decode code pc = .ok (.if_acmp cd o, 3)) (h1 : x.isRef = true) (h2 : y.isRef = true) (same : Bool) (hq : decide (x = y) = same) (ho : 0 ≤ (pc : Int) + o) (hp : pc' = if acV cd same = true then ((pc : Int) + o).toNat else pc + 3) (K : WP own code maxL ret nm R Z L h0 ws mine0 Q mine ce sl h pc' Ls rest) : WP own code maxL ret nm R Z L h0 ws mine0 Q mine ce sl h pc Ls (y :: x :: rest) := by
  intro p l e s m args below meth c B T locs X hT
  exact (K p l e s m args below meth c B T locs X hT).step fun t hr => Jvm.RoadKit.acmp X.1 B.1 rfl h1 h2 rfl (hb B.2.1 hd) rfl hq ho hp hr
end Plain
end Jvm.OwnW
namespace Jvm.OwnW
open Jvm Jvm.ClassFile Sem Op Lib Jvm.Free Jvm.Stand Jvm.LawKit Jvm.RoadKit Bundle
/-- an array of ints, chars, bytes or booleans with these components -/
def ArI (Z : State) (h : Heap) (a : Addr) (ty : FieldType) (xs : List Int32) : Prop := ∃ c : Cell, Arr Z h a c ty ∧ c.slots = (xs.map Value.int).toArray ∧ xs.length < 2 ^ 31
section Ar
variable {Z : State} {h h' : Heap} {a b : Addr} {ty : FieldType} {xs : List Int32} {ws : List Addr}
theorem ArI.lt (A : ArI Z h a ty xs) : a < h.size := by obtain ⟨c, A, -⟩ := A; exact A.lt
theorem ArI.len (A : ArI Z h a ty xs) : xs.length < 2 ^ 31 := by obtain ⟨c, -, -, r⟩ := A; exact r
theorem ArI.ext (A : ArI Z h a ty xs) (E : Ext h h') : ArI Z h' a ty xs := by obtain ⟨c, A, r⟩ := A; exact ⟨c, A.ext E, r⟩
theorem ArI.other {sl : Nat} {v : Value} (A : ArI Z h a ty xs) (W : Wr h h' b sl v) (q : a ≠ b) : ArI Z h' a ty xs := by obtain ⟨c, A, r⟩ := A; exact ⟨c, A.other W q, r⟩
theorem ArI.cell (A : ArI Z h a ty xs) (hk : ∀ c, h[a]? = some c → h'[a]? = some c) : ArI Z h' a ty xs := by obtain ⟨c, A, r⟩ := A; exact ⟨c, ⟨hk _ A.1, A.2⟩, r⟩
theorem ArI.keep (A : ArI Z h a ty xs) (K : Keep h h' ws) (q : a ∉ ws) : ArI Z h' a ty xs := A.cell fun c hc => K.2.1 a c hc q
theorem ArI.set {i : Nat} {x : Int32} (A : ArI Z h a ty xs) (W : Wr h h' a i (.int x)) : ArI Z h' a ty (xs.set i x) := by
  obtain ⟨c, A, r1, r2⟩ := A
  refine ⟨_, A.same W, ?_, by simpa using r2⟩
  show c.slots.setIfInBounds i (.int x) = _
  rw [r1]; simp [List.map_set]
theorem nat_clamp {j : Int32} {i : Nat} (hj : j.toInt = (i : Int)) : j.toNatClampNeg = i := by simp [Int32.toNatClampNeg, hj]
theorem ArI.inb {c : Cell} {j : Int32} {i : Nat} (r : c.slots = (xs.map Value.int).toArray) (hj : j.toInt = (i : Int)) (hi : i < xs.length) : ¬ (j < 0 ∨ c.slots.size ≤ j.toNatClampNeg) := by
  rw [nat_clamp hj, r]
  rw [Int32.lt_iff_toInt_lt, hj]
  simp; omega
end Ar
section Heap
variable {R : Room} {Z : State} {L : Lits} {h0 h : Heap} {ws mine0 mine : List Addr} {ce sl : Nat} {own : String} {code : ByteArray} {maxL : Nat} {ret : Option FieldType} {nm : String} {Q : Option Value → Heap → List Addr → Prop} {pc pc' : Nat} {Ls : List Slot} {rest : List Value} {a0 : Array Value} {a : Addr}
theorem WP.getfield {R0 O n d host : String} {idx : Nat} {v : Value} (hd : decode code pc = .ok (.getfield idx, 3)) (w : (Jvm.Cond.fieldLink own idx R0 n d).before a0 Z = true ∨ (Jvm.Cond.fieldLinkNest own idx R0 n d host).before a0 Z = true) (via : Via Z R0 O n d) (F : Fld Z h a O n d v) (hp : pc + 3 = pc')
    (K : WP own code maxL ret nm R Z L h0 ws mine0 Q mine ce sl h pc' Ls (v :: rest)) : WP own code maxL ret nm R Z L h0 ws mine0 Q mine ce sl h pc Ls (.ref a :: rest) := by
  intro p l e s m args below meth c B T locs X hT
  subst hp
  obtain ⟨T', Y, eT, st⟩ := getF X.1 B.1 X.warm (X.hown B) w via hT F (g := mkF m pc Ls.toArray (.ref a :: rest)) rfl rfl (hb B.2.1 hd)
  exact (K p l e s m args below meth c B T' locs (X.same Y (eT.trans hT.symm)) eT).step st
theorem WP.getstatic {R0 O n d host : String} {idx : Nat} {v : Value} (hd : decode code pc = .ok (.getstatic idx, 3)) (w : (Jvm.Cond.fieldLink own idx R0 n d).before a0 Z = true ∨ (Jvm.Cond.fieldLinkNest own idx R0 n d host).before a0 Z = true) (via : Via Z R0 O n d) (F : Sta Z Z.heap O n d v) (hp : pc + 3 = pc')
    (K : WP own code maxL ret nm R Z L h0 ws mine0 Q mine ce sl h pc' Ls (v :: rest)) : WP own code maxL ret nm R Z L h0 ws mine0 Q mine ce sl h pc Ls rest := by
  intro p l e s m args below meth c B T locs X hT
  subst hp
  have F' : Sta Z h O n d v := F.ext (hT ▸ X.2.2.2.2.2.1)
  obtain ⟨T', Y, eT, st⟩ := getS2 X.1 B.1 X.warm (X.hown B) w via hT F' (g := mkF m pc Ls.toArray rest) rfl (hb B.2.1 hd)
  exact (K p l e s m args below meth c B T' locs (X.same Y (eT.trans hT.symm)) eT).step st
theorem WP.putfield {R0 O n d host C : String} {idx kk : Nat} {ty : FieldType} {v old : Value} (hd : decode code pc = .ok (.putfield idx, 3)) (w : (Jvm.Cond.fieldLink own idx R0 n d).before a0 Z = true ∨ (Jvm.Cond.fieldLinkNest own idx R0 n d host).before a0 Z = true) (via : Via Z R0 O n d) (F : Fld Z h a O n d old) (E : Exa Z h a C)
    (La : (Jvm.Cond.lays C O n d).before a0 Z = true ∨ ((Jvm.Cond.laysFinal C O n d).before a0 Z = true ∧ own = O ∧ nm = "<init>")) (wi : (Jvm.Cond.instantiable C kk).before a0 Z = true) (hty : parseFieldDescriptor d = some ty) (hn : narrow ty v = v) (hf : fits ty v = true) (hm : a ∈ mine) (hw : a ∈ ws ∨ h0.size ≤ a) (hp : pc + 3 = pc')
    (K : ∀ h', Wr h h' a (Jvm.RoadKit.slotOf Z O n d) v → Fld Z h' a O n d v → Exa Z h' a C → WP own code maxL ret nm R Z L h0 ws mine0 Q mine ce sl h' pc' Ls rest) : WP own code maxL ret nm R Z L h0 ws mine0 Q mine ce sl h pc Ls (v :: .ref a :: rest) := by
  intro p l e s m args below meth c B T locs X hT
  subst hp
  obtain ⟨T', h', Y, eT, W, st⟩ := putF X.1 B.1 X.warm (X.hown B) w via hT F E (La.imp id fun q => ⟨q.1, q.2.1, B.2.2.2.2.2.2.trans q.2.2⟩) wi hty hn hf (g := mkF m pc Ls.toArray (v :: .ref a :: rest)) rfl rfl (hb B.2.1 hd)
  subst hT
  subst eT
  refine (K _ W (F.same W) (E.wr W) p l e s m args below meth c B T' _ (X.rebase Y (Fr.snoc Y X.2.2.1 (X.2.2.2.2.2.2.1 _ hm).1) (by rw [W.size]; exact Nat.le_refl _) (fun x c hc hx => ?_) (fun x hx => Or.inl hx) (X.2.2.2.1.wr W hw)) rfl).step st
  obtain ⟨c', q1, -, -, -, q5, -⟩ := wr_at W hc
  rw [← q5 fun q => hx (q ▸ hm)]; exact q1
theorem WP.new {C : String} {idx n : Nat} (hd : decode code pc = .ok (.new idx, 3)) (w : (Jvm.Cond.classLink own idx C).before a0 Z = true) (wi : (Jvm.Cond.instantiable C n).before a0 Z = true) (wz : (Jvm.Cond.initialized C).before a0 Z = true) (hc : ce + 1 ≤ R.cells) (hl : sl + n ≤ R.slots) (hp : pc + 3 = pc')
    (K : ∀ h' a, a = h.size → a ∉ mine → h0.size ≤ a → Ext h h' → Exa Z h' a C → (∀ {O nm d : String} {ty : FieldType}, Laid Z a0 C O nm d → parseFieldDescriptor d = some ty → Fld Z h' a O nm d (defaultValue ty)) → WP own code maxL ret nm R Z L h0 ws mine0 Q (a :: mine) (ce + 1) (sl + n) h' pc' Ls (.ref a :: rest)) : WP own code maxL ret nm R Z L h0 ws mine0 Q mine ce sl h pc Ls rest := by
  intro p l e s m args below meth c B T locs X hT
  subst hp
  obtain ⟨T', h', Y, eT, E, A, D, -, st⟩ := newO X.1 B.1 X.warm (X.hown B) w wi wz hT (g := mkF m pc Ls.toArray rest) rfl (hb B.2.1 hd) hc hl
  subst hT
  subst eT
  refine (K _ _ rfl (fun hx => absurd (X.2.2.2.2.2.2.1 _ hx).2 (Nat.lt_irrefl _)) X.2.2.2.1.1 E A D p l e s m args below meth c B T' _ (X.rebase Y X.2.2.1 E.1 (fun x c hc hx => E.2 _ _ hc) (fun x hx => ?_) (X.2.2.2.1.ext E)) rfl).step st
  rcases List.mem_cons.mp hx with rfl | hx
  · exact Or.inr ⟨Nat.le_refl _, A.lt⟩
  · exact Or.inl hx
theorem WP.newarray {aty : ArrayType} {n : Int32} {N : Nat} (hd : decode code pc = .ok (.newarray aty, 2)) (w : (Jvm.Cond.arrayClass (newarray.typeOf aty)).before a0 Z = true) (hdv : defaultValue (newarray.typeOf aty) = .int 0) (hn : n.toInt = (N : Int)) (hb1 : N * 8 ≤ 536870912) (hc : ce + 1 ≤ R.cells) (hl : sl + N ≤ R.slots) (hp : pc + 2 = pc')
    (K : ∀ h' a, a = h.size → a ∉ mine → h0.size ≤ a → Ext h h' → ArI Z h' a (newarray.typeOf aty) (List.replicate N 0) → WP own code maxL ret nm R Z L h0 ws mine0 Q (a :: mine) (ce + 1) (sl + N) h' pc' Ls (.ref a :: rest)) : WP own code maxL ret nm R Z L h0 ws mine0 Q mine ce sl h pc Ls (.int n :: rest) := by
  intro p l e s m args below meth c B T locs X hT
  subst hp
  obtain ⟨T', h', cA, Y, eT, E, A, st⟩ := newP X.1 B.1 X.warm w hT (g := mkF m pc Ls.toArray (.int n :: rest)) rfl (hb B.2.1 hd) rfl (by rw [Int32.lt_iff_toInt_lt, hn]; simp) (cap := N) (by rw [nat_clamp hn]; exact Nat.le_refl _) hb1 hc hl
  subst hT
  subst eT
  have A' : ArI Z T'.heap T.heap.size (newarray.typeOf aty) (List.replicate N 0) := ⟨_, A, by simp [newA, nat_clamp hn, hdv], by simp; omega⟩
  refine (K _ _ rfl (fun hx => absurd (X.2.2.2.2.2.2.1 _ hx).2 (Nat.lt_irrefl _)) X.2.2.2.1.1 E A' p l e s m args below meth c B T' _ (X.rebase Y X.2.2.1 E.1 (fun x c hc hx => E.2 _ _ hc) (fun x hx => ?_) (X.2.2.2.1.ext E)) rfl).step st
  rcases List.mem_cons.mp hx with rfl | hx
  · exact Or.inr ⟨Nat.le_refl _, A.lt⟩
  · exact Or.inl hx
theorem wr_mine {h h' : Heap} {a : Addr} {sl : Nat} {v : Value} {mine : List Addr} (W : Wr h h' a sl v) (hm : a ∈ mine) : ∀ x c, h[x]? = some c → x ∉ mine → h'[x]? = some c := fun x c hc hx => by
  obtain ⟨c', q1, -, -, -, q5, -⟩ := wr_at W hc
  rw [← q5 fun q => hx (q ▸ hm)]; exact q1
theorem WP.castore {xs : List Int32} {i : Nat} {j x : Int32} (hd : decode code pc = .ok (.castore, 1)) (A : ArI Z h a .char xs) (hj : j.toInt = (i : Int)) (hi : i < xs.length) (hm : a ∈ mine) (hw : a ∈ ws ∨ h0.size ≤ a) (hp : pc + 1 = pc')
    (K : ∀ h', Wr h h' a i (.int (nar .char x)) → ArI Z h' a .char (xs.set i (nar .char x)) → WP own code maxL ret nm R Z L h0 ws mine0 Q mine ce sl h' pc' Ls rest) : WP own code maxL ret nm R Z L h0 ws mine0 Q mine ce sl h pc Ls (.int x :: .int j :: .ref a :: rest) := by
  intro p l e s m args below meth c B T locs X hT
  subst hp
  obtain ⟨cl, A', r1, r2⟩ := id A
  obtain ⟨T', h', Y, eT, W, st⟩ := stC X.1 B.1 X.warm hT A' (ArI.inb r1 hj hi) (g := mkF m pc Ls.toArray (.int x :: .int j :: .ref a :: rest)) rfl rfl (hb B.2.1 hd)
  rw [nat_clamp hj] at W Y
  subst hT
  subst eT
  exact (K _ W (A.set W) p l e s m args below meth c B T' _ (X.rebase Y (Fr.snoc Y X.2.2.1 (X.2.2.2.2.2.2.1 _ hm).1) (by rw [W.size]; exact Nat.le_refl _) (wr_mine W hm) (fun x hx => Or.inl hx) (X.2.2.2.1.wr W hw)) rfl).step st
theorem WP.bastore {xs : List Int32} {i : Nat} {j x : Int32} (hd : decode code pc = .ok (.bastore, 1)) (A : ArI Z h a .byte xs) (hj : j.toInt = (i : Int)) (hi : i < xs.length) (hm : a ∈ mine) (hw : a ∈ ws ∨ h0.size ≤ a) (hp : pc + 1 = pc')
    (K : ∀ h', Wr h h' a i (.int (nar .byte x)) → ArI Z h' a .byte (xs.set i (nar .byte x)) → WP own code maxL ret nm R Z L h0 ws mine0 Q mine ce sl h' pc' Ls rest) : WP own code maxL ret nm R Z L h0 ws mine0 Q mine ce sl h pc Ls (.int x :: .int j :: .ref a :: rest) := by
  intro p l e s m args below meth c B T locs X hT
  subst hp
  obtain ⟨cl, A', r1, r2⟩ := id A
  obtain ⟨T', h', Y, eT, W, st⟩ := stB X.1 B.1 X.warm hT A' (ArI.inb r1 hj hi) (g := mkF m pc Ls.toArray (.int x :: .int j :: .ref a :: rest)) rfl rfl (hb B.2.1 hd)
  rw [nat_clamp hj] at W Y
  subst hT
  subst eT
  exact (K _ W (A.set W) p l e s m args below meth c B T' _ (X.rebase Y (Fr.snoc Y X.2.2.1 (X.2.2.2.2.2.2.1 _ hm).1) (by rw [W.size]; exact Nat.le_refl _) (wr_mine W hm) (fun x hx => Or.inl hx) (X.2.2.2.1.wr W hw)) rfl).step st
theorem WP.iastore {xs : List Int32} {i : Nat} {j x : Int32} (hd : decode code pc = .ok (.iastore, 1)) (A : ArI Z h a .int xs) (hj : j.toInt = (i : Int)) (hi : i < xs.length) (hm : a ∈ mine) (hw : a ∈ ws ∨ h0.size ≤ a) (hp : pc + 1 = pc')
    (K : ∀ h', Wr h h' a i (.int x) → ArI Z h' a .int (xs.set i x) → WP own code maxL ret nm R Z L h0 ws mine0 Q mine ce sl h' pc' Ls rest) : WP own code maxL ret nm R Z L h0 ws mine0 Q mine ce sl h pc Ls (.int x :: .int j :: .ref a :: rest) := by
  intro p l e s m args below meth c B T locs X hT
  subst hp
  obtain ⟨cl, A', r1, r2⟩ := id A
  obtain ⟨T', h', Y, eT, W, st⟩ := stI X.1 B.1 X.warm hT A' (ArI.inb r1 hj hi) (g := mkF m pc Ls.toArray (.int x :: .int j :: .ref a :: rest)) rfl rfl (hb B.2.1 hd)
  rw [nat_clamp hj] at W Y
  subst hT
  subst eT
  exact (K _ W (A.set W) p l e s m args below meth c B T' _ (X.rebase Y (Fr.snoc Y X.2.2.1 (X.2.2.2.2.2.2.1 _ hm).1) (by rw [W.size]; exact Nat.le_refl _) (wr_mine W hm) (fun x hx => Or.inl hx) (X.2.2.2.1.wr W hw)) rfl).step st
theorem ArI.at {Z : State} {xs : List Int32} {c : Cell} {j x : Int32} {i : Nat} (r : c.slots = (xs.map Value.int).toArray) (hj : j.toInt = (i : Int)) (hx : xs[i]? = some x) : c.slots[j.toNatClampNeg]? = some (.int x) := by
  rw [nat_clamp hj, r]; simp [hx]
theorem lt_of_some {xs : List Int32} {i : Nat} {x : Int32} (h : xs[i]? = some x) : i < xs.length := (List.getElem?_eq_some_iff.mp h).1
theorem WP.caload {xs : List Int32} {i : Nat} {j x : Int32} (hd : decode code pc = .ok (.caload, 1)) (A : ArI Z h a .char xs) (hj : j.toInt = (i : Int)) (hx : xs[i]? = some x) (hp : pc + 1 = pc')
    (K : WP own code maxL ret nm R Z L h0 ws mine0 Q mine ce sl h pc' Ls (.int x :: rest)) : WP own code maxL ret nm R Z L h0 ws mine0 Q mine ce sl h pc Ls (.int j :: .ref a :: rest) := by
  intro p l e s m args below meth c B T locs X hT
  subst hp
  obtain ⟨cl, A', r1, r2⟩ := A
  exact (K p l e s m args below meth c B T locs X hT).step fun t hr => X.1.caload B.1 (j := j) (v := .int x) (by rw [hT]; exact A'.1) (State.isArrayOf_alike X.warm.alike A'.2.1) A'.2.2 (ArI.inb r1 hj (lt_of_some hx)) (ArI.at (Z := Z) r1 hj hx) (g := mkF m pc Ls.toArray (.int j :: .ref a :: rest)) rfl rfl (hb B.2.1 hd) _ hr
theorem WP.baload {xs : List Int32} {i : Nat} {j x : Int32} (hd : decode code pc = .ok (.baload, 1)) (A : ArI Z h a .byte xs) (hj : j.toInt = (i : Int)) (hx : xs[i]? = some x) (hp : pc + 1 = pc')
    (K : WP own code maxL ret nm R Z L h0 ws mine0 Q mine ce sl h pc' Ls (.int x :: rest)) : WP own code maxL ret nm R Z L h0 ws mine0 Q mine ce sl h pc Ls (.int j :: .ref a :: rest) := by
  intro p l e s m args below meth c B T locs X hT
  subst hp
  obtain ⟨cl, A', r1, r2⟩ := A
  exact (K p l e s m args below meth c B T locs X hT).step fun t hr => X.1.baloadBytes B.1 (j := j) (v := .int x) (by rw [hT]; exact A'.1) (State.isArrayOf_alike X.warm.alike A'.2.1) A'.2.2 (ArI.inb r1 hj (lt_of_some hx)) (ArI.at (Z := Z) r1 hj hx) (g := mkF m pc Ls.toArray (.int j :: .ref a :: rest)) rfl rfl (hb B.2.1 hd) _ hr
theorem WP.iaload {xs : List Int32} {i : Nat} {j x : Int32} (hd : decode code pc = .ok (.iaload, 1)) (A : ArI Z h a .int xs) (hj : j.toInt = (i : Int)) (hx : xs[i]? = some x) (hp : pc + 1 = pc')
    (K : WP own code maxL ret nm R Z L h0 ws mine0 Q mine ce sl h pc' Ls (.int x :: rest)) : WP own code maxL ret nm R Z L h0 ws mine0 Q mine ce sl h pc Ls (.int j :: .ref a :: rest) := by
  intro p l e s m args below meth c B T locs X hT
  subst hp
  obtain ⟨cl, A', r1, r2⟩ := A
  exact (K p l e s m args below meth c B T locs X hT).step fun t hr => X.1.iaload B.1 (j := j) (v := .int x) (by rw [hT]; exact A'.1) (State.isArrayOf_alike X.warm.alike A'.2.1) A'.2.2 (ArI.inb r1 hj (lt_of_some hx)) (ArI.at (Z := Z) r1 hj hx) (g := mkF m pc Ls.toArray (.int j :: .ref a :: rest)) rfl rfl (hb B.2.1 hd) _ hr
theorem WP.arraylength {ty : FieldType} {xs : List Int32} {n : Int32} (hd : decode code pc = .ok (.arraylength, 1)) (A : ArI Z h a ty xs) (hn : Int32.ofNat xs.length = n) (hp : pc + 1 = pc')
    (K : WP own code maxL ret nm R Z L h0 ws mine0 Q mine ce sl h pc' Ls (.int n :: rest)) : WP own code maxL ret nm R Z L h0 ws mine0 Q mine ce sl h pc Ls (.ref a :: rest) := by
  intro p l e s m args below meth c B T locs X hT
  subst hp
  obtain ⟨cl, A', r1, r2⟩ := A
  have hsz : cl.slots.size.toInt32 = n := by rw [r1, ← hn]; simp
  exact (K p l e s m args below meth c B T locs X hT).step fun t hr => X.1.arraylength B.1 (by rw [hT]; exact A'.1) (State.isArrayOf_alike X.warm.alike A'.2.1) (g := mkF m pc Ls.toArray (.ref a :: rest)) rfl rfl (hb B.2.1 hd) _ (by rw [hsz]; exact hr)
theorem WP.checkcast {K' : String} {idx : Nat} (hd : decode code pc = .ok (.checkcast idx, 3)) (w : (Jvm.Cond.classLink own idx K').before a0 Z = true) (F : Ins Z h a K' true) (hp : pc + 3 = pc')
    (K : WP own code maxL ret nm R Z L h0 ws mine0 Q mine ce sl h pc' Ls (.ref a :: rest)) : WP own code maxL ret nm R Z L h0 ws mine0 Q mine ce sl h pc Ls (.ref a :: rest) := by
  intro p l e s m args below meth c B T locs X hT
  subst hp
  obtain ⟨T', Y, eT, st⟩ := castY X.1 B.1 X.warm (X.hown B) w hT F (g := mkF m pc Ls.toArray (.ref a :: rest)) rfl rfl (hb B.2.1 hd)
  exact (K p l e s m args below meth c B T' locs (X.same Y (eT.trans hT.symm)) eT).step st
theorem WP.checkcastNull {idx : Nat} (hd : decode code pc = .ok (.checkcast idx, 3)) (hp : pc + 3 = pc')
    (K : WP own code maxL ret nm R Z L h0 ws mine0 Q mine ce sl h pc' Ls (.null :: rest)) : WP own code maxL ret nm R Z L h0 ws mine0 Q mine ce sl h pc Ls (.null :: rest) := by
  intro p l e s m args below meth c B T locs X hT
  subst hp
  exact (K p l e s m args below meth c B T locs X hT).step fun t hr => X.1.checkcastNull B.1 (g := mkF m pc Ls.toArray (.null :: rest)) rfl rfl (hb B.2.1 hd) _ hr
theorem WP.instanceofY {K' : String} {idx : Nat} (hd : decode code pc = .ok (.instanceof idx, 3)) (w : (Jvm.Cond.classLink own idx K').before a0 Z = true) (F : Ins Z h a K' true) (hp : pc + 3 = pc')
    (K : WP own code maxL ret nm R Z L h0 ws mine0 Q mine ce sl h pc' Ls (.int 1 :: rest)) : WP own code maxL ret nm R Z L h0 ws mine0 Q mine ce sl h pc Ls (.ref a :: rest) := by
  intro p l e s m args below meth c B T locs X hT
  subst hp
  obtain ⟨T', Y, eT, st⟩ := instY X.1 B.1 X.warm (X.hown B) w hT F (g := mkF m pc Ls.toArray (.ref a :: rest)) rfl rfl (hb B.2.1 hd)
  exact (K p l e s m args below meth c B T' locs (X.same Y (eT.trans hT.symm)) eT).step st
theorem WP.ldcInt {idx : Nat} {v : Int32} (hd : decode code pc = .ok (.ldc idx, 2)) (w : (Jvm.Cond.constant own idx v).before a0 Z = true) (hp : pc + 2 = pc')
    (K : WP own code maxL ret nm R Z L h0 ws mine0 Q mine ce sl h pc' Ls (.int v :: rest)) : WP own code maxL ret nm R Z L h0 ws mine0 Q mine ce sl h pc Ls rest := by
  intro p l e s m args below meth c B T locs X hT
  subst hp
  exact (K p l e s m args below meth c B T locs X hT).step fun t hr => X.1.ldcInt B.1 (X.hown B) (mv X.warm w) (g := mkF m pc Ls.toArray rest) rfl (hb B.2.1 hd) _ hr
theorem WP.ldc2Long {idx : Nat} {v : Int64} (hd : decode code pc = .ok (.ldc2_w idx, 3)) (w : (Jvm.Cond.constantLong own idx v).before a0 Z = true) (hp : pc + 3 = pc')
    (K : WP own code maxL ret nm R Z L h0 ws mine0 Q mine ce sl h pc' Ls (.long v :: rest)) : WP own code maxL ret nm R Z L h0 ws mine0 Q mine ce sl h pc Ls rest := by
  intro p l e s m args below meth c B T locs X hT
  subst hp
  exact (K p l e s m args below meth c B T locs X hT).step fun t hr => X.1.ldc2Long B.1 (X.hown B) (mv X.warm w) (g := mkF m pc Ls.toArray rest) rfl (hb B.2.1 hd) _ hr
theorem WP.initObj {idx : Nat} {W : Nat} (hd : decode code pc = .ok (.invokespecial idx, 3)) (w1 : (Jvm.Cond.methodLink own idx Lib.objectInit).before a0 Z = true) (w2 : (Jvm.Cond.instanceMethod Lib.objectInit).before a0 Z = true) (w3 : (Jvm.Cond.code Lib.objectInit ⟨#[0xb1]⟩ 1 none).before a0 Z = true)
    (hLs : Ls.length = maxL) (hf : 1 ≤ R.frames) (hW : (rest.map fun v => v.category).sum ≤ W) (hl : W + 12 ≤ R.locals) (hp : pc + 3 = pc')
    (K : WP own code maxL ret nm R Z L h0 ws mine0 Q mine ce sl h pc' Ls rest) : WP own code maxL ret nm R Z L h0 ws mine0 Q mine ce sl h pc Ls (.ref a :: rest) := by
  intro p l e s m args below meth c B T locs X hT
  subst hp
  obtain ⟨T', Y, eT, st⟩ := initO X.1 B.1 X.warm (X.hown B) w1 w2 w3 hT (g := mkF m pc Ls.toArray (.ref a :: rest)) rfl (by simp [hLs, B.2.2.1]) rfl (hb B.2.1 hd) hf (W := W) (by simpa using hW) hl
  exact (K p l e s m args below meth c B T' locs (X.same Y (eT.trans hT.symm)) eT).step st
/-- the end of a walk -/
theorem WP.leave {v : Option Value} {st : List Value} {nw : List Addr} (hv : ret = none → v = none) (hq : Q v h nw) (hn : ∀ x ∈ nw, x ∈ mine ∧ h0.size ≤ x) (hm : ∀ x ∈ mine0, x ∈ mine) (hc : ce ≤ R.cells) (hs : sl ≤ R.slots)
    (hstep : ∀ (p : Program) (l : Launch) (e : Env) (s : State) (m : MethodId) (args : Array Value) (below : List Frame) (meth : Method) (c : Code) (T : State) (locs : List Loc), Bdy p s m meth c own code maxL ret nm → Stand p l e R (s.setVm T.vm) m args below meth c T locs ce sl → ∀ fs, (∀ (f : JFrame) (acts : List Action), f.method = m → f.locked = none → f.entered = [] → (doReturn e (T.setTop f) acts v).1 = T.setFrames fs) → Steps p.tables e below (T.setTop (mkF m pc Ls.toArray st)) (T.setFrames fs)) :
    WP own code maxL ret nm R Z L h0 ws mine0 Q mine ce sl h pc Ls st := by
  intro p l e s m args below meth c B T locs X hT
  have hlk : meth.locks = false := B.2.2.2.2.2.1
  obtain ⟨fs, h1, h2, h3, h4⟩ := X.1.leaveW X.2.1 (Nat.le_refl _) (v := v) (fun q => hv (B.2.2.2.2.1.symm.trans q)) hlk
  subst hT
  refine ⟨T.setFrames fs, v, locs, nw, hstep p l e s m args below meth c T locs B X.1 fs h1, h2, h3, ⟨h4.1, h4.2.1, h4.2.2.1, h4.2.2.2.mono hc hs⟩, X.2.2.1, X.2.2.2.1, fun x hx => (hn x hx).2, X.2.2.2.2.mono (fun x hx => ?_), hq⟩
  rcases List.mem_append.mp hx with q | q
  · exact (hn x q).1
  · exact hm x q
theorem WP.vret {nw : List Addr} (hd : decode code pc = .ok (.return_, 1)) (hret : ret = none) (hq : Q none h nw) (hn : ∀ x ∈ nw, x ∈ mine ∧ h0.size ≤ x) (hm : ∀ x ∈ mine0, x ∈ mine) (hc : ce ≤ R.cells) (hs : sl ≤ R.slots) : WP own code maxL ret nm R Z L h0 ws mine0 Q mine ce sl h pc Ls [] :=
  WP.leave (fun _ => rfl) hq hn hm hc hs fun p l e s m args below meth c T locs B X fs hr => X.returnOut B.1 (B.2.2.2.2.1.trans hret) (hb B.2.1 hd) hr
theorem WP.areturn {v : Value} {t : FieldType} {nw : List Addr} (hd : decode code pc = .ok (.areturn, 1)) (hret : ret = some t) (ht : t.isReference = true) (hv : v.isRef = true) (hq : Q (some v) h nw) (hn : ∀ x ∈ nw, x ∈ mine ∧ h0.size ≤ x) (hm : ∀ x ∈ mine0, x ∈ mine) (hc : ce ≤ R.cells) (hs : sl ≤ R.slots) : WP own code maxL ret nm R Z L h0 ws mine0 Q mine ce sl h pc Ls [v] :=
  WP.leave (fun q => by rw [hret] at q; cases q) hq hn hm hc hs fun p l e s m args below meth c T locs B X fs hr => X.areturnOut B.1 hv (B.2.2.2.2.1.trans hret) ht (hb B.2.1 hd) hr
theorem WP.ireturn {x : Int32} {t : FieldType} {nw : List Addr} (hd : decode code pc = .ok (.ireturn, 1)) (hret : ret = some t) (ht : t = .int ∨ t = .boolean ∨ t = .byte ∨ t = .char ∨ t = .short) (hx : narrow t (.int x) = .int x) (hq : Q (some (.int x)) h nw) (hn : ∀ x ∈ nw, x ∈ mine ∧ h0.size ≤ x) (hm : ∀ x ∈ mine0, x ∈ mine) (hc : ce ≤ R.cells) (hs : sl ≤ R.slots) : WP own code maxL ret nm R Z L h0 ws mine0 Q mine ce sl h pc Ls [.int x] :=
  WP.leave (fun q => by rw [hret] at q; cases q) hq hn hm hc hs fun p l e s m args below meth c T locs B X fs hr => X.ireturnOut B.1 (B.2.2.2.2.1.trans hret) hx ht (hb B.2.1 hd) hr
end Heap
/-- a method's contract: these arguments, this heap, this 'mine'; it writes of the old cells only ws -/
def Con (y : MethodName) (code : ByteArray) (maxL : Nat) (ret : Option FieldType) (R : Room) (Z : State) (L : Lits) (cs : List Jvm.Cond) (as : Array Value) (h : Heap) (ws mine : List Addr) (Q : Option Value → Heap → List Addr → Prop) : Prop :=
  ∀ l : Launch, MetFree l y (head1 (Jvm.Cond.code y code maxL ret :: cs) R) (fun a U => a = as ∧ U.heap = h ∧ Inv Z L U.vm U.heap mine) (fun _ _ _ _ _ => True)
    (fun _ U o U' => ∃ (v : Option Value) (locs : List Loc) (nw : List Addr), o = .returned v ∧ ReturnedEndW U o U' locs R.cells R.slots ∧ Fr Z.heap.size locs ∧ Keep h U'.heap ws ∧ (∀ x ∈ nw, h.size ≤ x) ∧ Inv Z L U'.vm U'.heap (nw ++ mine) ∧ Q v U'.heap nw)
theorem Con.of {y : MethodName} {code : ByteArray} {maxL : Nat} {ret : Option FieldType} {R : Room} {Z : State} {L : Lits} {cs : List Jvm.Cond} {as : Array Value} {h : Heap} {ws mine : List Addr} {Q : Option Value → Heap → List Addr → Prop} {Ls : List Slot}
    (hx : plainFor y = true) (hef : ∀ m, entryFrame m as maxL = mkF m 0 Ls.toArray []) (K : WP y.cls code maxL ret y.name R Z L h ws mine Q mine 0 0 h 0 Ls []) : Con y code maxL ret R Z L cs as h ws mine Q := by
  intro l
  refine MetFree.of_bodySF hx hisR ?_
  intro p e s m args below meth c s₁ Bd hml hP _
  obtain ⟨rfl, hh, hI⟩ := hP
  have X0 : Stand p l e R s m args below meth c s₁ [] 0 0 := Stand.of_body Bd
  have e0 : s₁.heap = h := by rw [← hh, Bd.state]; rfl
  have ev : s₁.vm = s.vm := by rw [Bd.state]; rfl
  have hB : Bdy p s m meth c y.cls code maxL ret y.name := ⟨Bd.exec, Bd.bytes, hml, findClass_of_methodNamed Bd.named, Bd.returns, Bd.notSynchronized, (name_of_methodNamed Bd.named Bd.method).1⟩
  have hX : St p l e R s m args below meth c Z L h ws s₁ [] 0 0 mine := by
    refine ⟨X0.retabled X0.warmed.wide, X0.warmed.since _, Fr.nil _, by rw [e0]; exact Keep.refl _ _, ?_⟩
    rw [ev, e0, ← hh]; exact hI
  obtain ⟨s₂, v, lo, nw, r1, r2, r3, r4, r5, r6, r7, r8, r9⟩ := K p l e s m args below meth c hB s₁ [] hX e0
  exact ⟨s₂, _, by rw [hef]; exact r1, r2, r3, v, lo, nw, rfl, r4, r5, r6, r7, r8, r9⟩
section Call
variable {R R' : Room} {Z : State} {L : Lits} {h0 h : Heap} {ws ws' mine0 mine : List Addr} {ce sl : Nat} {own : String} {code : ByteArray} {maxL : Nat} {ret : Option FieldType} {nm : String} {Q : Option Value → Heap → List Addr → Prop} {pc pc' : Nat} {Ls : List Slot} {rest argsL : List Value} {a0 : Array Value} {a : Addr}
  {y z : MethodName} {cb : ByteArray} {mL : Nat} {rt : Option FieldType} {Q' : Option Value → Heap → List Addr → Prop} {idx : Nat} {as : Array Value}
theorem Con.back {p : Program} {l : Launch} {e : Env} {below : List Frame} {s : State} {sargs : Array Value} {len W : Nat} (C : Con y cb mL rt R' Z L [] as h ws' mine Q') (hZ : Z.Warmed39 s.vm) (wc : (Jvm.Cond.code y cb mL rt).before a0 Z = true) (wz : (Jvm.Cond.initialized y.cls).before a0 Z = true) (hf : R'.frames + 1 ≤ R.frames) (hl : W + (mL + 11) + R'.locals ≤ R.locals) :
    BackS l R p e below s sargs y len W (fun A b => b = as ∧ A.U.heap = h ∧ Inv Z L A.U.vm A.U.heap mine ∧ A.cells + R'.cells ≤ R.cells ∧ A.slots + R'.slots ≤ R.slots)
      (fun A _ v B => ∃ L' nw, B.locs = A.locs ++ L' ∧ B.cells = A.cells + R'.cells ∧ B.slots = A.slots + R'.slots ∧ Fr Z.heap.size L' ∧ Keep h B.U.heap ws' ∧ (∀ x ∈ nw, h.size ≤ x) ∧ Inv Z L B.U.vm B.U.heap (nw ++ mine) ∧ Q' v B.U.heap nw) :=
  BackS.of_freeW (bytes := cb) (maxL := mL) (ret := rt) (E := fun _ _ o t L1 k n => k = R'.cells ∧ n = R'.slots ∧ ∃ v nw, o = .returned v ∧ Fr Z.heap.size L1 ∧ Keep h t.heap ws' ∧ (∀ x ∈ nw, h.size ≤ x) ∧ Inv Z L t.vm t.heap (nw ++ mine) ∧ Q' v t.heap nw) (C l) hf hl
    (fun m meth c A b Y hp => have hU : Z.Warmed39 A.U.vm := wtrans hZ Y.warmed
      ⟨by show (Jvm.Cond.and _ .tt).before b A.U = true; rw [Cond.before_and, mv hU wc]; rfl, mv hU wc, mv hU wz, hp.2.2.2.1, hp.2.2.2.2⟩)
    (fun m meth c A b g mk Y hp => ⟨hp.1, hp.2.1, hp.2.2.1⟩) (fun _ _ _ _ _ _ _ _ _ => trivial)
    (fun _ _ _ _ ⟨v, L1, nw, h1, h2, h3, h4, h5, h6, h7⟩ => ⟨L1, _, _, h2, rfl, rfl, v, nw, h1, h3, h4, h5, h6, h7⟩)
    (fun m meth c A b g mk v t L1 k n Y hp _ _ ⟨e1, e2, v', nw, e3, e4, e5, e6, e7, e8⟩ => by cases e3; subst e1 e2; exact ⟨L1, nw, rfl, rfl, rfl, e4, e5, e6, e7, e8⟩)
theorem St.called {p : Program} {l : Launch} {e : Env} {s : State} {m : MethodId} {args : Array Value} {below : List Frame} {meth : Method} {c : Code} {T : State} {locs : List Loc} {B : Pt} {nw : List Addr} {L' : List Loc} {ce' sl' : Nat}
    (X : St p l e R s m args below meth c Z L h0 ws T locs ce sl mine) (hT : T.heap = h) (Y : Stand p l e R ((s.setVm T.vm).setVm B.U.vm) m args below meth c B.U B.locs B.cells B.slots) (hS : (s.setVm T.vm).Since B.U.vm B.U.heap.size) (hg : T.heap.size ≤ B.U.heap.size)
    (q1 : B.locs = locs ++ L') (q2 : B.cells = ce') (q3 : B.slots = sl') (q4 : Fr Z.heap.size L') (q5 : Keep h B.U.heap ws') (q7 : Inv Z L B.U.vm B.U.heap (nw ++ mine)) (hw : ∀ x ∈ ws', x ∈ ws ∨ h0.size ≤ x) : St p l e R s m args below meth c Z L h0 ws B.U (locs ++ L') ce' sl' (nw ++ mine) := by
  subst hT q2 q3
  exact ⟨q1 ▸ Y, X.2.1.trans hS hg, X.2.2.1.app q4, X.2.2.2.1.trans q5 hw, q7⟩
theorem WP.callS (C : Con y cb mL rt R' Z L [] argsL.toArray h ws' mine Q') (wl : (Jvm.Cond.methodLink own idx y).before a0 Z = true) (wst : (Jvm.Cond.static y).before a0 Z = true) (wz : (Jvm.Cond.initialized y.cls).before a0 Z = true) (wc : (Jvm.Cond.code y cb mL rt).before a0 Z = true)
    (hd : decode code pc = .ok (.invokestatic idx, 3)) (hy : y.cls ≠ "java/lang/invoke/MethodHandle" ∧ y.cls ≠ "java/lang/invoke/VarHandle") {sig : MethodDescriptor} (hsig : parseMethodDescriptor y.desc = some sig) (hlen : argsL.length = sig.parameters.length) {st : List Value} (hst : st = argsL.reverse ++ rest) (hLs : Ls.length = maxL)
    (hf : R'.frames + 1 ≤ R.frames) (hl : (rest.map fun v => v.category).sum + (mL + 11) + R'.locals ≤ R.locals) (hc : ce + R'.cells ≤ R.cells) (hs : sl + R'.slots ≤ R.slots) (hw : ∀ x ∈ ws', x ∈ ws ∨ h0.size ≤ x) (hp : pc + 3 = pc')
    (K : ∀ v h' nw, Keep h h' ws' → (∀ x ∈ nw, h.size ≤ x) → Q' v h' nw → WP own code maxL ret nm R Z L h0 ws mine0 Q (nw ++ mine) (ce + R'.cells) (sl + R'.slots) h' pc' Ls (v.toList ++ rest)) :
    WP own code maxL ret nm R Z L h0 ws mine0 Q mine ce sl h pc Ls st := by
  intro p l e s m args below meth c B T locs X hT
  subst hp hst
  obtain ⟨v, vm₁, Bp, hW, Y, hS, hg, ⟨L', nw, q1, q2, q3, q4, q5, q6, q7, q8⟩, st⟩ := callSS X.1 B.1 (X.hown B) (mv X.warm wl) (mv X.warm wst) (mv X.warm wz) (mv X.warm wc) hy (C.back X.warm wc wz hf hl) (g := mkF m pc Ls.toArray (argsL.reverse ++ rest)) rfl (by simp [hLs, B.2.2.1]) (argsL := argsL) (rest := rest) (fun sg h => by rw [hsig] at h; cases h; exact hlen) rfl (by simp) (hb B.2.1 hd)
    (fun vm₁ hv => ⟨rfl, hT, by show Inv Z L vm₁ T.heap mine; exact X.2.2.2.2.go (U := s.setVm T.vm) rfl hv (Nat.le_refl _) (fun _ _ hc _ => hc) (fun _ hx => Or.inl hx), hc, hs⟩)
  exact (K v Bp.U.heap nw q5 q6 q8 p l e s m args below meth c B Bp.U _ (X.called hT Y hS hg q1 q2 q3 q4 q5 q7 hw) rfl).step fun t hr => st.trans hr
theorem WP.callSp (C : Con y cb mL none R' Z L [] (.ref a :: argsL).toArray h ws' mine Q') (hy1 : y.name = "<init>") (wl : (Jvm.Cond.methodLink own idx y).before a0 Z = true) (wi : (Jvm.Cond.instanceMethod y).before a0 Z = true) (wz : (Jvm.Cond.initialized y.cls).before a0 Z = true) (wc : (Jvm.Cond.code y cb mL none).before a0 Z = true)
    (hd : decode code pc = .ok (.invokespecial idx, 3)) (hy : y.cls ≠ "java/lang/invoke/MethodHandle" ∧ y.cls ≠ "java/lang/invoke/VarHandle") {sig : MethodDescriptor} (hsig : parseMethodDescriptor y.desc = some sig) (hlen : argsL.length = sig.parameters.length) {st : List Value} (hst : st = argsL.reverse ++ .ref a :: rest) (hLs : Ls.length = maxL)
    (hf : R'.frames + 1 ≤ R.frames) (hl : (rest.map fun v => v.category).sum + (mL + 11) + R'.locals ≤ R.locals) (hc : ce + R'.cells ≤ R.cells) (hs : sl + R'.slots ≤ R.slots) (hw : ∀ x ∈ ws', x ∈ ws ∨ h0.size ≤ x) (hp : pc + 3 = pc')
    (K : ∀ v h' nw, Keep h h' ws' → (∀ x ∈ nw, h.size ≤ x) → Q' v h' nw → WP own code maxL ret nm R Z L h0 ws mine0 Q (nw ++ mine) (ce + R'.cells) (sl + R'.slots) h' pc' Ls (v.toList ++ rest)) :
    WP own code maxL ret nm R Z L h0 ws mine0 Q mine ce sl h pc Ls st := by
  intro p l e s m args below meth c B T locs X hT
  subst hp hst
  obtain ⟨v, vm₁, Bp, hW, Y, hS, hg, ⟨L', nw, q1, q2, q3, q4, q5, q6, q7, q8⟩, st⟩ := X.1.specialBackS B.1 hy1 (X.hown B) (mv X.warm wl) (mv X.warm wi) (mv X.warm wc) hy (C.back X.warm wc wz hf hl) (g := mkF m pc Ls.toArray (argsL.reverse ++ .ref a :: rest)) rfl (by simp [hLs, B.2.2.1]) (Steps.refl _) (a := a) (argsL := argsL) (rest := rest) (fun sg h => by rw [hsig] at h; cases h; exact hlen) rfl (by simp) (hb B.2.1 hd)
    (fun vm₁ hv => ⟨rfl, hT, by show Inv Z L vm₁ T.heap mine; exact X.2.2.2.2.go (U := s.setVm T.vm) rfl hv (Nat.le_refl _) (fun _ _ hc _ => hc) (fun _ hx => Or.inl hx), hc, hs⟩)
  exact (K v Bp.U.heap nw q5 q6 q8 p l e s m args below meth c B Bp.U _ (X.called hT Y hS hg q1 q2 q3 q4 q5 q7 hw) rfl).step fun t hr => st.trans hr
theorem WP.callV {Cl : String} (C : Con z cb mL rt R' Z L [] (.ref a :: argsL).toArray h ws' mine Q') (E : Exa Z h a Cl) (wl : (Jvm.Cond.methodLink own idx y).before a0 Z = true) (wd : (Jvm.Cond.declares y).before a0 Z = true) (hnf : ∀ s : State, Z.Warmed39 s.vm → NotFace s y) (wsel : (Jvm.Cond.selects Cl y z).before a0 Z = true) (wi : (Jvm.Cond.instanceMethod z).before a0 Z = true) (wz : (Jvm.Cond.initialized z.cls).before a0 Z = true) (wc : (Jvm.Cond.code z cb mL rt).before a0 Z = true)
    (hd : decode code pc = .ok (.invokevirtual idx, 3)) (hy : y.cls ≠ "java/lang/invoke/MethodHandle" ∧ y.cls ≠ "java/lang/invoke/VarHandle") {sig : MethodDescriptor} (hsig : parseMethodDescriptor y.desc = some sig) (hlen : argsL.length = sig.parameters.length) {st : List Value} (hst : st = argsL.reverse ++ .ref a :: rest) (hLs : Ls.length = maxL)
    (hf : R'.frames + 1 ≤ R.frames) (hl : (rest.map fun v => v.category).sum + (mL + 11) + R'.locals ≤ R.locals) (hc : ce + R'.cells ≤ R.cells) (hs : sl + R'.slots ≤ R.slots) (hw : ∀ x ∈ ws', x ∈ ws ∨ h0.size ≤ x) (hp : pc + 3 = pc')
    (K : ∀ v h' nw, Keep h h' ws' → (∀ x ∈ nw, h.size ≤ x) → Q' v h' nw → WP own code maxL ret nm R Z L h0 ws mine0 Q (nw ++ mine) (ce + R'.cells) (sl + R'.slots) h' pc' Ls (v.toList ++ rest)) :
    WP own code maxL ret nm R Z L h0 ws mine0 Q mine ce sl h pc Ls st := by
  intro p l e s m args below meth c B T locs X hT
  subst hp hst
  obtain ⟨cq, kq, qa, qb, qc⟩ := isOf (s := s.setVm T.vm) X.warm hT E
  obtain ⟨v, vm₁, Bp, hW, Y, hS, hg, ⟨L', nw, q1, q2, q3, q4, q5, q6, q7, q8⟩, st⟩ := X.1.virtualBackS B.1 (X.hown B) (mv X.warm wl) (mv X.warm wd) (hnf _ X.warm) (mv X.warm wsel) (mv X.warm wi) hy (C.back X.warm wc wz hf hl) qa qc (g := mkF m pc Ls.toArray (argsL.reverse ++ .ref a :: rest)) rfl (by simp [hLs, B.2.2.1]) (Steps.refl _) (argsL := argsL) (rest := rest) (fun sg h => by rw [hsig] at h; cases h; exact hlen) rfl (by simp) (hb B.2.1 hd)
    (fun vm₁ hv => ⟨rfl, hT, by show Inv Z L vm₁ T.heap mine; exact X.2.2.2.2.go (U := s.setVm T.vm) rfl hv (Nat.le_refl _) (fun _ _ hc _ => hc) (fun _ hx => Or.inl hx), hc, hs⟩)
  exact (K v Bp.U.heap nw q5 q6 q8 p l e s m args below meth c B Bp.U _ (X.called hT Y hS hg q1 q2 q3 q4 q5 q7 hw) rfl).step fun t hr => st.trans hr
theorem WP.callI {Cl : String} {count : Nat} (C : Con z cb mL rt R' Z L [] (.ref a :: argsL).toArray h ws' mine Q') (E : Exa Z h a Cl) (wl : (Jvm.Cond.methodLink own idx y).before a0 Z = true) (wd : (Jvm.Cond.declares y).before a0 Z = true) (wif : (Jvm.Cond.interfaceMethod y.cls y.cls y.name y.desc).before a0 Z = true) (wsel : (Jvm.Cond.selects Cl y z).before a0 Z = true) (wi : (Jvm.Cond.instanceMethod z).before a0 Z = true) (wpub : (Jvm.Cond.publicMethod z).before a0 Z = true) (wun : (Jvm.Cond.unhidden Cl y.name y.desc).before a0 Z = true) (wca : (Jvm.Cond.castable Cl y.cls).before a0 Z = true) (wz : (Jvm.Cond.initialized z.cls).before a0 Z = true) (wc : (Jvm.Cond.code z cb mL rt).before a0 Z = true)
    (hd : decode code pc = .ok (.invokeinterface idx count, 5)) (hy : y.cls ≠ "java/lang/invoke/MethodHandle" ∧ y.cls ≠ "java/lang/invoke/VarHandle") {sig : MethodDescriptor} (hsig : parseMethodDescriptor y.desc = some sig) (hlen : argsL.length = sig.parameters.length) {st : List Value} (hst : st = argsL.reverse ++ .ref a :: rest) (hLs : Ls.length = maxL)
    (hf : R'.frames + 1 ≤ R.frames) (hl : (rest.map fun v => v.category).sum + (mL + 11) + R'.locals ≤ R.locals) (hc : ce + R'.cells ≤ R.cells) (hs : sl + R'.slots ≤ R.slots) (hw : ∀ x ∈ ws', x ∈ ws ∨ h0.size ≤ x) (hp : pc + 5 = pc')
    (K : ∀ v h' nw, Keep h h' ws' → (∀ x ∈ nw, h.size ≤ x) → Q' v h' nw → WP own code maxL ret nm R Z L h0 ws mine0 Q (nw ++ mine) (ce + R'.cells) (sl + R'.slots) h' pc' Ls (v.toList ++ rest)) :
    WP own code maxL ret nm R Z L h0 ws mine0 Q mine ce sl h pc Ls st := by
  intro p l e s m args below meth c B T locs X hT
  subst hp hst
  obtain ⟨cq, kq, qa, qb, qc⟩ := isOf (s := s.setVm T.vm) X.warm hT E
  obtain ⟨v, vm₁, Bp, hW, Y, hS, hg, ⟨L', nw, q1, q2, q3, q4, q5, q6, q7, q8⟩, st⟩ := X.1.interfaceBackS B.1 (X.hown B) (mv X.warm wl) (mv X.warm wd) (mv X.warm wif (by simp [Cond.onTables, Cond.keepsFace, Cond.keeps, Cond.steady, Cond.faceAtom, hy.1, hy.2])) (mv X.warm wsel) (mv X.warm wi) (mv X.warm wpub) (mv X.warm wun) (mv X.warm wca) hy (C.back X.warm wc wz hf hl) qa qb qc (g := mkF m pc Ls.toArray (argsL.reverse ++ .ref a :: rest)) rfl (by simp [hLs, B.2.2.1]) (Steps.refl _) (argsL := argsL) (rest := rest) (fun sg h => by rw [hsig] at h; cases h; exact hlen) rfl (by simp) (hb B.2.1 hd)
    (fun vm₁ hv => ⟨rfl, hT, by show Inv Z L vm₁ T.heap mine; exact X.2.2.2.2.go (U := s.setVm T.vm) rfl hv (Nat.le_refl _) (fun _ _ hc _ => hc) (fun _ hx => Or.inl hx), hc, hs⟩)
  exact (K v Bp.U.heap nw q5 q6 q8 p l e s m args below meth c B Bp.U _ (X.called hT Y hS hg q1 q2 q3 q4 q5 q7 hw) rfl).step fun t hr => st.trans hr
end Call
end Jvm.OwnW
namespace Jvm.OwnW
open Jvm Jvm.ClassFile Sem Op Lib Jvm.Free Jvm.Stand Jvm.LawKit Jvm.RoadKit Bundle
open Jvm.Free.SB Jvm.Free.SBG
abbrev ST : String := "java/lang/String"
/-- a char as an int -/
def chv (u : UInt16) : Int32 := u.toUInt32.toInt32
/-- a char's low byte, its high byte, as signed bytes -/
def lo8 (u : UInt16) : Int32 := u.toUInt8.toInt8.toInt32
def hi8 (u : UInt16) : Int32 := (u >>> 8).toUInt8.toInt8.toInt32
def lat (us : List UInt16) : Bool := us.all (· < 256)
def b16 (us : List UInt16) : List Int32 := us.flatMap fun u => [lo8 u, hi8 u]
def StrAt (Z : State) (h : Heap) (a t : Addr) (us : List UInt16) : Prop :=
  Exa Z h a ST ∧ Fld Z h a ST "value" "[B" (.ref t) ∧ ((lat us = true ∧ Fld Z h a ST "coder" "B" (.int 0) ∧ ArI Z h t .byte (us.map lo8)) ∨ (lat us = false ∧ Fld Z h a ST "coder" "B" (.int 1) ∧ ArI Z h t .byte (b16 us)))
/-- a finished String: none of her two cells is written any more -/
def FStr (Z : State) (h : Heap) (mine : List Addr) (a : Addr) (us : List UInt16) : Prop := ∃ t, StrAt Z h a t us ∧ a ∉ mine ∧ t ∉ mine
section Frozen
variable {Z : State} {h h' : Heap} {mine mine' ws nw : List Addr} {a t : Addr} {us : List UInt16} {C n d : String} {v : Value}
theorem exa_cell (E : Exa Z h a C) (hk : ∀ c, h[a]? = some c → h'[a]? = some c) : Exa Z h' a C := by obtain ⟨c, k, h1, r⟩ := E; exact ⟨c, k, hk _ h1, r⟩
theorem fld_cell (F : Fld Z h a C n d v) (hk : ∀ c, h[a]? = some c → h'[a]? = some c) : Fld Z h' a C n d v := by obtain ⟨c, cf, k, i, f, h1, r⟩ := F; exact ⟨c, cf, k, i, f, hk _ h1, r⟩
theorem StrAt.cells (S : StrAt Z h a t us) (hk : ∀ c, h[a]? = some c → h'[a]? = some c) (hk' : ∀ c, h[t]? = some c → h'[t]? = some c) : StrAt Z h' a t us :=
  ⟨exa_cell S.1 hk, fld_cell S.2.1 hk, S.2.2.imp (fun q => ⟨q.1, fld_cell q.2.1 hk, q.2.2.cell hk'⟩) fun q => ⟨q.1, fld_cell q.2.1 hk, q.2.2.cell hk'⟩⟩
theorem StrAt.lt (S : StrAt Z h a t us) : a < h.size ∧ t < h.size := ⟨S.1.lt, by rcases S.2.2 with q | q <;> exact q.2.2.lt⟩
/-- over a step that keeps what is outside 'mine' -/
theorem FStr.go (S : FStr Z h mine a us) (hk : ∀ x c, h[x]? = some c → x ∉ mine → h'[x]? = some c) (hm : ∀ x ∈ mine', x ∈ mine ∨ h.size ≤ x) : FStr Z h' mine' a us := by
  obtain ⟨t, S, h1, h2⟩ := S
  refine ⟨t, S.cells (fun c hc => hk _ _ hc h1) (fun c hc => hk _ _ hc h2), fun q => ?_, fun q => ?_⟩
  · rcases hm _ q with r | r
    · exact h1 r
    · exact absurd S.lt.1 (Nat.not_lt.mpr r)
  · rcases hm _ q with r | r
    · exact h2 r
    · exact absurd S.lt.2 (Nat.not_lt.mpr r)
theorem FStr.ext (S : FStr Z h mine a us) (E : Ext h h') : FStr Z h' mine a us := S.go (fun x c hc _ => E.2 x c hc) fun x hx => Or.inl hx
/-- over 'new', which makes b one's own -/
theorem FStr.new {b : Addr} (S : FStr Z h mine a us) (E : Ext h h') (hb : b = h.size) : FStr Z h' (b :: mine) a us := S.go (fun x c hc _ => E.2 x c hc) fun x hx => by
  rcases List.mem_cons.mp hx with rfl | hx
  · exact Or.inr (Nat.le_of_eq hb.symm)
  · exact Or.inl hx
theorem FStr.wr {b : Addr} {sl : Nat} (S : FStr Z h mine a us) (W : Wr h h' b sl v) (hb : b ∈ mine) : FStr Z h' mine a us := S.go (wr_mine W hb) fun x hx => Or.inl hx
/-- over a call -/
theorem FStr.call (S : FStr Z h mine a us) (K : Keep h h' ws) (hw : ∀ x ∈ ws, x ∈ mine) (hn : ∀ x ∈ nw, h.size ≤ x) : FStr Z h' (nw ++ mine) a us :=
  S.go (fun x c hc hx => K.2.1 x c hc fun q => hx (hw x q)) fun x hx => (List.mem_append.mp hx).elim (fun q => Or.inr (hn x q)) Or.inl
theorem FStr.mono (S : FStr Z h mine a us) (hm : ∀ x ∈ mine', x ∈ mine) : FStr Z h mine' a us := by
  obtain ⟨t, S, h1, h2⟩ := S; exact ⟨t, S, fun q => h1 (hm _ q), fun q => h2 (hm _ q)⟩
theorem FStr.exa (S : FStr Z h mine a us) : Exa Z h a ST := by obtain ⟨t, S, -⟩ := S; exact S.1
end Frozen
theorem lat_units {units : Array UInt16} (h : units.all (· < 256) = true) : lat units.toList = true := by simpa [lat] using h
theorem SlM.fstr {Z : State} {vm : Vm} {h : Heap} {a : Addr} {units : Array UInt16} {mine : List Addr} (hZ : Z.Warmed39 vm) (S : SlM (wst Z vm h) a units mine) (hl : units.all (· < 256) = true) : FStr Z h mine a units.toList := by
  have hal : Z.vm.Alike vm := hZ.alike
  obtain ⟨q, cS, rfl, ⟨⟨s1, s2, s3, ⟨cv, kv, iv, s4, s4'⟩, ⟨cc, kc, ic, s5, s5'⟩, s6, s7, s8, s9, s10, s11, s12, s13, s14, s15, s16⟩, hfS, hcS⟩, ⟨kS, k1, k2, k3⟩, hB, hbyt, n1, n2⟩ := S
  obtain ⟨kv', z4⟩ := ff_back (U := wst Z vm h) hal s4
  obtain ⟨kc', z5⟩ := ff_back (U := wst Z vm h) hal s5
  have hfZ : Z.vm.findClass ST = some q.sC.cls := by rw [← hal.findClass, hcS]; exact hfS
  obtain ⟨kz, hkz, -⟩ := Vm.findClass_spec hfZ
  obtain ⟨kz', hkz', ekz⟩ := hal.2.2 _ _ hkz
  have ekS : kz' = kS := Option.some.inj (hkz'.symm.trans (hcS ▸ k1))
  obtain ⟨hst, k9, hk9, comp, hkind9⟩ := s11
  have hBZ : Z.vm.findClass "[B" = some q.SA.cls := by rw [← hal.findClass]; exact hB
  obtain ⟨kb, hkb, -⟩ := Vm.findClass_spec hBZ
  obtain ⟨kb', hkb', ekb⟩ := hal.2.2 _ _ hkb
  have ek9 : k9 = kb' := Option.some.inj (hk9.symm.trans hkb')
  have hAZ : Z.isArrayOf q.SA .byte := ⟨hst, kb, hkb, comp, by rw [ek9, ekb] at hkind9; exact hkind9⟩
  have hsl : q.SA.slots = ((units.toList.map lo8).map Value.int).toArray := by
    rw [hbyt, SBG.stringBytes_lat hl]
    apply Array.toList_inj.mp
    simp [List.map_map, Function.comp_def, byteValue, lo8]
  have hlen : (units.toList.map lo8).length < 2 ^ 31 := by
    have : q.SA.slots.size = (units.toList.map lo8).length := by rw [hsl]; simp
    rw [← this, s13]; exact s14
  exact ⟨q.sd, ⟨⟨q.sC, kz, s1, hfZ, hkz, s3, fun ho => by rw [k3, ← ekS, ekz]⟩, ⟨q.sC, cv, kv', iv, q.fSV, s1, z4, s6, s2, s3, by rw [← hal.assignable]; exact s4', s8⟩,
    Or.inl ⟨lat_units hl, ⟨q.sC, cc, kc', ic, q.fSC, s1, z5, s7, s2, s3, by rw [← hal.assignable]; exact s5', s9⟩, ⟨q.SA, ⟨s10, hAZ, s12⟩, hsl, hlen⟩⟩⟩, n1, n2⟩
/-- the state at hand as an invocation's start -/
def anew (T : State) (m : MethodId) (args : Array Value) (below : List Frame) : State := T.setFrames (.invoking m args :: below)
theorem stand_anew {p : Program} {l : Launch} {e : Env} {R : Room} {s : State} {m : MethodId} {args : Array Value} {below : List Frame} {meth : Method} {c : Code} {T : State} {locs : List Loc} {cells slots : Nat}
    (X : Stand p l e R s m args below meth c T locs cells slots) (hv : s.vm = T.vm) (hc : cells ≤ R.cells) (hs : slots ≤ R.slots) :
    Stand p l e { frames := R.frames, locals := R.locals, cells := R.cells - cells, slots := R.slots - slots } (anew T m args below) m args below meth c T [] 0 0 := by
  obtain ⟨g₀, hfr⟩ := X.frames_eq
  have hcur : T.cur < T.threads.size := State.cur_lt_of_frames hfr
  have hF : (anew T m args below).frames = .invoking m args :: below := State.frames_setFrames _ hcur
  have hm1 : (anew T m args below).vm.method? m = some meth := by show T.vm.method? m = _; rw [← hv]; exact X.method
  have hlim : e.platform.stackLimits (anew T m args below).me = e.platform.stackLimits s.me := by rw [anew, State.stackLimits_setFrames]; exact X.limits
  have hby : (anew T m args below).me.stackBytes = s.me.stackBytes := by rw [anew, State.stackBytes_setFrames]; exact X.bytes
  have hroom : (anew T m args below).hasRoom e.platform { frames := R.frames, locals := R.locals, cells := R.cells - cells, slots := R.slots - slots } = true := by
    have h := X.room
    simp only [State.hasRoom, Bool.and_eq_true, decide_eq_true_eq] at h
    rw [State.localsInUse_invoking X.frames X.method X.code, X.frames] at h
    simp only [State.hasRoom, Bool.and_eq_true, decide_eq_true_eq, hF, hlim, hby, State.localsInUse_invoking hF hm1 X.code]
    have hh := X.heapSize
    have hu := X.used
    refine ⟨⟨⟨h.1.1.1, ?_⟩, ?_⟩, X.book⟩
    · have := h.1.1.2
      show T.heap.size + (R.cells - cells) ≤ _; omega
    · have := h.1.2
      show T.slotsUsed + (R.slots - slots) ≤ _; omega
  obtain ⟨t, ht, -⟩ := State.frames_cons hF
  obtain ⟨t', ht', -⟩ := State.frames_cons hfr
  have hcur' : (anew T m args below).cur < (anew T m args below).threads.size := State.cur_lt_of_frames hF
  have hback : T = (anew T m args below).setFrames T.frames := by
    rw [anew, State.setFrames_setFrames, State.setFrames_self ht']
  have hhears : (anew T m args below).hears m below = true := by
    have h := X.hears
    have e1 : (anew T m args below).hears m below = (s.setVm T.vm).hears m below := by
      rcases below with _ | ⟨f, r⟩
      · rfl
      · cases f <;> rfl
    rw [e1, ← hv]; exact h
  refine ⟨X.admits, X.cas, X.clock, hF, hroom, hhears, hm1, X.code, X.here, X.tail, State.WarmedH.refl _, by rw [hlim]; exact X.limits, by rw [hby]; exact X.bytes, ?_⟩
  have h1 := (State.sameButNew.refl (anew T m args below) ht).setFrames T.frames hcur'
  rw [← hback] at h1
  exact h1
theorem find_push {A : Array (Array UInt16 × Addr)} {u u1 : Array UInt16} {b a1 : Addr} (h : (A.push (u1, a1)).find? (fun p => p.1 == u) = some (u, b)) : A.find? (fun p => p.1 == u) = some (u, b) ∨ (A.find? (fun p => p.1 == u) = none ∧ u1 = u ∧ a1 = b) := by
  rw [Array.find?_push] at h
  cases hf : A.find? (fun p => p.1 == u) with
  | some x => rw [hf] at h; left; simpa using h
  | none =>
    rw [hf] at h
    right
    by_cases e : u1 == u
    · simp [e] at h; exact ⟨rfl, h.1, h.2⟩
    · simp [e] at h
theorem text_inj {u u' : Array UInt16} {text : String} (ht : ∀ c ∈ text.toList, c.toNat < 256) (h : utf16ToString? u = some text) (h' : utf16ToString? u' = some text) : u = u' :=
  Array.toList_inj.mp ((Jvm.ClassFile.units_of_text h ht).trans (Jvm.ClassFile.units_of_text h' ht).symm)
def txt (s : String) : List UInt16 := s.toList.map fun c => c.toNat.toUInt16
/-- a load that changes the tables: the held constants, behind -/
theorem KH.load {Z T T₂ : State} {L : Lits} {mine : List Addr} {own text : String} {idx : Nat} {a : Addr} {k k₂ : Class} {co : ClassId} {lo : Nat} {U : State} (hU : U.vm = T.vm)
    (K : KH Z L T.vm T.heap mine) (hZ : Z.Warmed39 T.vm) (hL : Links Z L) (hq : (own, idx, text) ∈ L) (hmine : ∀ x ∈ mine, x < T.heap.size) (ht : ∀ c ∈ text.toList, c.toNat < 256) (hW : U.Warmed39 T₂.vm) (E : Ext T.heap T₂.heap)
    (hco : T.vm.findClass own = some co) (hko : T.vm.classes[co]? = some k) (hopen : k.resolved[idx]? = some none) (hk₂ : T₂.vm.classes[co]? = some k₂) (hres : k₂.resolved[idx]? = some (some (.string a)))
    (hone : T.Interned1 T₂) (hint : T₂.vm.interned = T.vm.interned ∨ ∃ (units : Array UInt16) (a' : Addr), utf16ToString? units = some text ∧ T₂.vm.interned = T.vm.interned.push (units, a'))
    (hin : ∃ units : Array UInt16, utf16ToString? units = some text ∧ SlIn lo T.heap.size T₂ a units) (hlo : lo = T.heap.size) : KH Z L T₂.vm T₂.heap mine ∧ ∃ units : Array UInt16, utf16ToString? units = some text ∧ SlM (wst Z T₂.vm T₂.heap) a units mine := by
  have hal : T.vm.Alike T₂.vm := hU ▸ hW.alike
  -- the entry of the loaded constant
  obtain ⟨a0, w⟩ := hL _ hq
  have hcoZ : Z.vm.findClass own = some co := by rw [← hZ.alike.findClass]; exact hco
  obtain ⟨kZ, cfo, io, uo, hkZ, hcfZ, hpo, huo, hnmo, htexto, -⟩ := Cond.stringLink_spec hcoZ w
  obtain ⟨kT, hkT, ekT⟩ := hZ.alike.2.2 _ _ hkZ
  cases hko.symm.trans hkT
  have hcfo : k.cf = some cfo := by rw [ekT]; exact hcfZ
  have hfo : T₂.vm.interned.find? (fun p => p.1 == uo) = some (uo, a) := by
    obtain ⟨k3, hk3, -, -, ee, -⟩ := hW.2.2.2 co k (by rw [hU]; exact hko)
    cases hk₂.symm.trans hk3
    rcases ee idx with e0 | ⟨hop, r, e1, hr | ⟨a3, t3, si, us, rfl, -, q3, q4, q5⟩⟩
    · rw [hres, hopen] at e0; cases e0
    · exfalso
      cases r <;> simp [State.rightAt, hU, hko, hcfo, hnmo] at hr
    · rw [hcfo] at q3 q4
      have e3 : si = io := by have := q3.symm.trans hpo; simpa using this
      subst e3
      have e4 : us = uo := by simpa [ConstantPool.utf8?, huo] using q4.symm
      subst e4
      have ea : a3 = a := by have := e1.symm.trans hres; simpa using this
      subst ea
      exact q5
  -- who is found behind was found ahead, or is the one just made
  have fresh : ∀ (u : Array UInt16) (b : Addr), T₂.vm.interned.find? (fun p => p.1 == u) = some (u, b) → T.vm.interned.find? (fun p => p.1 == u) = some (u, b) ∨ (SlM (wst Z T₂.vm T₂.heap) b u mine) := fun u b hf => by
    rcases hint with e | ⟨u1, a1, ht1, e⟩
    · left; rw [← e]; exact hf
    · rw [e] at hf
      rcases find_push hf with q | ⟨q0, rfl, rfl⟩
      · exact Or.inl q
      · right
        have eu : u1 = uo := text_inj ht ht1 htexto
        subst eu
        have ea : a1 = a := by
          rw [e] at hfo
          rcases find_push hfo with q | ⟨-, -, q⟩
          · rw [q0] at q; cases q
          · exact q
        subst ea
        obtain ⟨units, hut, q, cS, r1, r2, ⟨kS, r3, r4, r5⟩, r6, r7, r8⟩ := hin
        have eu : units = u1 := text_inj ht hut ht1
        subst eu
        have hge : T.heap.size ≤ a1 := by
          rcases hone.2 with e' | ⟨u2, a2, e2, g1, -⟩
          · rw [e] at e'
            have := congrArg Array.size e'
            simp at this
          · rw [e] at e2
            have e3 := congrArg (fun z => z.back?) e2
            simp at e3
            rw [e3.2]; exact g1
        have hloc : T.heap.size ≤ q.sa ∧ T.heap.size ≤ q.sd := by
          rcases r8 with ⟨g1, g2⟩ | g
          · rw [r1, hlo] at g1; exact absurd g1 (Nat.not_lt.mpr hge)
          · exact g
        exact ⟨q, cS, r1, r2.carry (U' := wst Z T₂.vm T₂.heap) (Vm.Alike.refl _) r2.1.1 r2.1.2.2.2.2.2.2.2.2.2.1, ⟨kS, r3, r4, r5⟩, r6, r7, fun hx => absurd (hmine _ hx) (Nat.not_lt.mpr hloc.1), fun hx => absurd (hmine _ hx) (Nat.not_lt.mpr hloc.2)⟩
  have ride : ∀ (b : Addr) (u : Array UInt16), SlM (wst Z T.vm T.heap) b u mine → SlM (wst Z T₂.vm T₂.heap) b u mine := fun b u S => S.go hal (fun x c hc _ => E.2 x c hc) fun x hx => Or.inl hx
  have new : KH Z L T₂.vm T₂.heap mine := by
    intro q hq c k' cf i units b hc hk' hcf hp hu hor
    have hcT : T.vm.findClass q.1 = some c := by rw [← hal.findClass]; exact hc
    have hcZ : Z.vm.findClass q.1 = some c := by rw [← hZ.alike.findClass]; exact hcT
    obtain ⟨a1, w1⟩ := hL q hq
    obtain ⟨kZ1, cf0, i0, units0, hkZ1, hcfZ1, hp0, hu0, hnm, -, -⟩ := Cond.stringLink_spec hcZ w1
    obtain ⟨kU, hkU, ekU⟩ := hZ.alike.2.2 _ _ hkZ1
    obtain ⟨k'', hk'', hke, -, ee, -⟩ := hW.2.2.2 c kU (by rw [hU]; exact hkU)
    cases hk'.symm.trans hk''
    have hcf0 : kU.cf = some cf0 := by rw [ekU]; exact hcfZ1
    have hcfU : kU.cf = some cf := by
      have : k'.cf = kU.cf := by rw [hke]
      rw [← this]; exact hcf
    cases hcfU.symm.trans hcf0
    rcases ee q.2.1 with e0 | ⟨hop, r, e1, hr | ⟨a3, t3, si, us, rfl, -, q3, q4, q5⟩⟩
    · rcases hor with h0 | ⟨h0, hf⟩
      · exact ride _ _ (K q hq c kU cf i units b hcT hkU hcfU hp hu (Or.inl (e0 ▸ h0)))
      · rcases fresh _ _ hf with hf' | S
        · exact ride _ _ (K q hq c kU cf i units b hcT hkU hcfU hp hu (Or.inr ⟨e0 ▸ h0, hf'⟩))
        · exact S
    · exfalso
      cases r <;> simp [State.rightAt, hU, hkU, hcfU, hnm] at hr
    · rw [hcfU] at q3 q4
      have e3 : si = i := by have := q3.symm.trans hp; simpa using this
      subst e3
      have e4 : us = units := by simpa [ConstantPool.utf8?, hu] using q4.symm
      subst e4
      rcases hor with h0 | ⟨h0, -⟩
      · have ea : a3 = b := by have := e1.symm.trans h0; simpa using this
        subst ea
        rcases fresh _ _ q5 with hf' | S
        · exact ride _ _ (K q hq c kU cf si us a3 hcT hkU hcfU hp hu (Or.inr ⟨hop, hf'⟩))
        · exact S
      · have := e1.symm.trans h0; simp at this
  refine ⟨new, uo, htexto, ?_⟩
  obtain ⟨k4, hk4, ek4⟩ := hal.2.2 _ _ hko
  cases hk₂.symm.trans hk4
  exact new _ hq co k₂ cfo io uo a (by rw [hal.findClass]; exact hco) hk₂ (by rw [ek4]; exact hcfo) hpo huo (Or.inl hres)
section Ldc
variable {R : Room} {Z : State} {L : Lits} {h0 h : Heap} {ws mine0 mine : List Addr} {ce sl : Nat} {own : String} {code : ByteArray} {maxL : Nat} {ret : Option FieldType} {nm : String} {Q : Option Value → Heap → List Addr → Prop} {pc pc' : Nat} {Ls : List Slot} {rest : List Value} {a0 : Array Value} {a : Addr}
theorem WP.ldcS {idx n : Nat} {text : String} (hd : decode code pc = .ok (.ldc idx, 2)) (hq : (own, idx, text) ∈ L) (wS : ∀ a ∈ Bundle.stringAtoms, a.before a0 Z = true) (ht : ∀ c ∈ text.toList, c.toNat < 256) (hn : 4 * text.toList.length ≤ n) (hbig : n ≤ 536870912) (hc : ce + 2 ≤ R.cells) (hs : sl + (n + 4) ≤ R.slots) (hp : pc + 2 = pc')
    (K : ∀ h' a, Ext h h' → FStr Z h' mine a (txt text) → WP own code maxL ret nm R Z L h0 ws mine0 Q mine (ce + 2) (sl + (n + 4)) h' pc' Ls (.ref a :: rest)) : WP own code maxL ret nm R Z L h0 ws mine0 Q mine ce sl h pc Ls rest := by
  intro p l e s m args below meth c B T locs X hT
  subst hp
  subst hT
  have hZ : Z.Warmed39 T.vm := X.warm
  obtain ⟨a1, w⟩ := X.2.2.2.2.2.2.2.1 _ hq
  have hown : T.vm.findClass own = some m.cls := X.hown B
  have hL := X.2.2.2.2.2.2.2.1
  have hK := X.2.2.2.2.2.2.2.2
  have wT : (Jvm.Cond.stringLink own idx text).before args (anew T m args below) = true := mvS (s := anew T m args below) (vm0 := T.vm) hZ w
  obtain ⟨k, cf, i, units, hk, hcf, hcp, hu, hnm, hdec, hres⟩ := Cond.stringLink_spec (s := anew T m args below) (show (anew T m args below).vm.findClass own = some m.cls from hown) wT
  have hk : T.vm.classes[m.cls]? = some k := hk
  rcases hres with hopen | ⟨a, hr⟩
  · have Y0 := stand_anew X.1 rfl (Nat.le_trans (Nat.le_add_right _ _) hc) (Nat.le_trans (Nat.le_add_right _ _) hs)
    have hheld : ConstHeldL (anew T m args below) own idx := by
      intro c1 k1 cf1 i1 u1 b1 g1 g2 g3 g4 g5 g6
      obtain ⟨q, cS, r1, r2, ⟨kS, r3, r4, r5⟩, r6, r7, -⟩ := hK _ hq c1 k1 cf1 i1 u1 b1 g1 g2 g3 g4 g5 g6
      exact ⟨q, cS, r1, r2.carry (U' := anew T m args below) (Vm.Alike.refl _) r2.1.1 r2.1.2.2.2.2.2.2.2.2.2.1, ⟨kS, r3, r4, r5⟩, r6, r7⟩
    obtain ⟨a, T₂, Y, hS', ⟨k₂, hk₂, hres₂⟩, hb', hone, hint, hin, st⟩ := Y0.ldcColdF (fun b cl hb => hb) B.1 (own := own) (show (anew T m args below).vm.findClass own = some m.cls from hown) wT (fun d hd => by
        have q := wS d hd
        simp only [Bundle.stringAtoms, List.mem_cons, List.not_mem_nil, or_false] at hd
        rcases hd with rfl | rfl | rfl | rfl | rfl | rfl | rfl
        · exact mv (s := anew T m args below) hZ q
        · exact mv (s := anew T m args below) hZ q
        · exact mvA (s := anew T m args below) hZ q
        · exact mv (s := anew T m args below) hZ q
        · exact mv (s := anew T m args below) hZ q
        · exact mv (s := anew T m args below) hZ q
        · exact mv (s := anew T m args below) hZ q) hheld (fun units hu => Jvm.ClassFile.lat_of_text hu ht) (g := mkF m pc Ls.toArray rest) rfl (hb B.2.1 hd) hn hbig (by show 0 + 2 ≤ R.cells - ce; omega) (by show 0 + (n + 4) ≤ R.slots - sl; omega)
    have E : Ext T.heap T₂.heap := ext_of hb'
    have hW : (s.setVm T.vm).Warmed39 T₂.vm := hS'.1
    obtain ⟨hKn, u2, hu2, hSl⟩ := KH.load (T := T) (U := s.setVm T.vm) rfl hK hZ hL hq (fun x hx => (X.2.2.2.2.2.2.1 x hx).2) ht hW E hown hk hopen hk₂ hres₂ hone hint hin rfl
    have hZ2 : Z.Warmed39 T₂.vm := State.Warmed39.trans (t := s.setVm T.vm) hZ hW
    have F : FStr Z T₂.heap mine a (txt text) := by
      have := hSl.fstr hZ2 (Jvm.ClassFile.lat_of_text hu2 ht)
      rw [Jvm.ClassFile.units_of_text hu2 ht] at this
      exact this
    obtain ⟨g₀, hfr⟩ := X.1.frames_eq
    obtain ⟨t', ht', -⟩ := State.frames_cons hfr
    have hcur : T.cur < T.threads.size := State.cur_lt_of_frames hfr
    have Z1 := X.1.retabled hW
    have hsame : (T.setVm T₂.vm).sameButNew (T₂.setVm T₂.vm) [] 2 (n + 4) := by
      have h1 : ((T.setVm T₂.vm).setFrames (.invoking m args :: below)).sameButNew (T₂.setVm T₂.vm) [] (0 + 2) (0 + (n + 4)) := Y.same
      rw [Nat.zero_add, Nat.zero_add] at h1
      obtain ⟨e1, e2⟩ := h1
      rw [State.setFrames_setFrames] at e1
      exact ⟨e1, e2⟩
    have Z2 := Z1.moved (T₂ := T₂) Y.here Y.tail (Y.limits.trans (by rw [show (anew T m args below).setVm T₂.vm = (T.setVm T₂.vm).setFrames (.invoking m args :: below) from rfl, State.stackLimits_setFrames])) (Y.bytes.trans (by rw [show (anew T m args below).setVm T₂.vm = (T.setVm T₂.vm).setFrames (.invoking m args :: below) from rfl, State.stackBytes_setFrames])) (State.WarmedH.refl _) hsame
    rw [List.append_nil] at Z2
    have hB2 : (s.setVm T.vm).Booked T₂.vm T₂.heap.size := fun j pr hj hpr => by
      obtain ⟨b1, b2⟩ := hS'.2 j pr hj hpr
      exact ⟨Nat.le_trans X.1.same.2.1 b1, b2⟩
    refine (K T₂.heap a E F p l e s m args below meth c B T₂ locs ⟨Z2, X.2.1.trans ⟨hW, hB2⟩ E.1, X.2.2.1, X.2.2.2.1.ext E, hZ2, ⟨Nat.le_trans X.2.2.2.2.2.1.1 E.1, fun b cl hb => E.2 _ _ (X.2.2.2.2.2.1.2 b cl hb)⟩, fun x hx => ⟨(X.2.2.2.2.2.2.1 x hx).1, Nat.lt_of_lt_of_le (X.2.2.2.2.2.2.1 x hx).2 E.1⟩, hL, hKn⟩ rfl).step st
  · have hSl := hK _ hq m.cls k cf i units a hown hk hcf hcp hu (Or.inl hr)
    have F : FStr Z T.heap mine a (txt text) := by
      have := hSl.fstr hZ (Jvm.ClassFile.lat_of_text hdec ht)
      rw [Jvm.ClassFile.units_of_text hdec ht] at this
      exact this
    have Lt : Lit (s.setVm T.vm) own idx a := by
      simp [Lit, State.resolvedAt?, hown, hk, hr]
    refine (K T.heap a ⟨Nat.le_refl _, fun _ _ hc => hc⟩ F p l e s m args below meth c B T locs ⟨X.1.mono (by omega) (by omega), X.2⟩ rfl).step ?_
    exact ldcAgain (s := s) (vm0 := T.vm) X.1 B.1 hZ hown w Lt (g := mkF m pc Ls.toArray rest) rfl (hb B.2.1 hd)
end Ldc
end Jvm.OwnW
namespace Jvm.OwnW
open Jvm Jvm.ClassFile Sem Op Lib Jvm.Free Jvm.Stand Jvm.LawKit Jvm.RoadKit Bundle
theorem ext_trans {h h' h'' : Heap} (A : Ext h h') (B : Ext h' h'') : Ext h h'' := ⟨Nat.le_trans A.1 B.1, fun a c hc => B.2 a c (A.2 a c hc)⟩
theorem ext_wr {h h' h'' : Heap} {a : Addr} {sl : Nat} {v : Value} (A : Ext h h') (W : Wr h' h'' a sl v) (ha : h.size ≤ a) : Ext h h'' := ⟨by rw [W.size]; exact A.1, fun x c hc => by
  obtain ⟨c', q1, -, -, -, q5, -⟩ := wr_at W (A.2 x c hc)
  rw [← q5 fun q => by subst q; exact absurd (Array.getElem?_eq_some_iff.mp hc).1 (Nat.not_lt.mpr ha)]; exact q1⟩
theorem ext_keep {h h' h'' : Heap} {ws : List Addr} (A : Ext h h') (K : Keep h' h'' ws) (ha : ∀ x ∈ ws, h.size ≤ x) : Ext h h'' := ⟨Nat.le_trans A.1 K.1, fun x c hc => K.2.1 x c (A.2 x c hc) fun q => absurd (Array.getElem?_eq_some_iff.mp hc).1 (Nat.not_lt.mpr (ha x q))⟩
theorem keep_ext {h h' : Heap} (K : Keep h h' []) : Ext h h' := ⟨K.1, fun x c hc => K.2.1 x c hc nin0⟩
theorem n32_toInt {i : Nat} (h : i < 2 ^ 31) : (Int32.ofNat i).toInt = (i : Int) := Int32.toInt_ofNat_small h
theorem n32_lt {i n : Nat} (hi : i < 2 ^ 31) (hn : n < 2 ^ 31) : Int32.ofNat i < Int32.ofNat n ↔ i < n := by
  rw [Int32.lt_iff_toInt_lt, n32_toInt hi, n32_toInt hn]; omega
theorem n32_eq {i n : Nat} (hi : i < 2 ^ 31) (hn : n < 2 ^ 31) : Int32.ofNat i = Int32.ofNat n ↔ i = n := by
  rw [← Int32.toInt_inj, n32_toInt hi, n32_toInt hn]; omega
theorem n32_add (i k : Nat) : Int32.ofNat i + Int32.ofNat k = Int32.ofNat (i + k) := by simp [Int32.ofNat_add]
theorem n32_succ (i : Nat) : Int32.ofNat i + 1 = Int32.ofNat (i + 1) := n32_add i 1
theorem chv_toInt (u : UInt16) : (chv u).toInt = (u.toNat : Int) := by
  have hu := u.toNat_lt
  have : (chv u) = Int32.ofNat u.toNat := by
    apply Int32.toBitVec_inj.mp
    apply BitVec.eq_of_toNat_eq
    simp [chv]
  rw [this, n32_toInt (by omega)]
theorem chv_inj {u v : UInt16} (h : chv u = chv v) : u = v := by
  have := congrArg Int32.toInt h
  rw [chv_toInt, chv_toInt] at this
  exact UInt16.toNat_inj.mp (by omega)
theorem chv_gt (u : UInt16) : (255 : Int32) < chv u ↔ ¬ u < 256 := by
  rw [Int32.lt_iff_toInt_lt, chv_toInt, UInt16.lt_iff_toNat_lt]
  show (255 : Int) < _ ↔ ¬ _ < 256
  omega
theorem chv_nar (u : UInt16) : nar .char (chv u) = chv u := by
  show (chv u).toUInt32.toUInt16.toUInt32.toInt32 = chv u
  simp [chv]
theorem chv_lo8 (u : UInt16) : nar .byte (chv u) = lo8 u := by
  have e : (chv u).toInt8 = u.toUInt8.toInt8 := by
    apply Int8.toBitVec_inj.mp
    simp [chv]
    rw [BitVec.signExtend_eq_setWidth_of_le _ (by decide), BitVec.setWidth_setWidth_of_le _ (by decide)]
  show (chv u).toInt8.toInt32 = u.toUInt8.toInt8.toInt32
  rw [e]
theorem nar_i2b (x : Int32) : nar .byte (x.toInt8.toInt32) = x.toInt8.toInt32 := by
  show (x.toInt8.toInt32).toInt8.toInt32 = _
  simp
theorem lat_iff (us : List UInt16) : lat us = true ↔ ∀ (i : Nat) (u : UInt16), us[i]? = some u → u < 256 := by
  simp only [lat, List.all_eq_true, decide_eq_true_eq]
  constructor
  · intro h i u hu; exact h u (List.mem_of_getElem? hu)
  · intro h u hu
    obtain ⟨i, hi⟩ := List.getElem?_of_mem hu
    exact h i u hi
end Jvm.OwnW
namespace Jvm.OwnW
open Jvm Jvm.ClassFile Sem Op Lib Jvm.Free Jvm.Stand Jvm.LawKit Jvm.RoadKit Bundle
theorem ArI.ne {Z : State} {h : Heap} {a b : Addr} {ty ty' : FieldType} {xs ys : List Int32} (A : ArI Z h a ty xs) (B : ArI Z h b ty' ys) (hne : ty ≠ ty') : a ≠ b := fun e => by
  subst e
  obtain ⟨c, A, -⟩ := A
  obtain ⟨c', B, -⟩ := B
  cases A.1.symm.trans B.1
  obtain ⟨-, k, hk, comp, hkind⟩ := A.2.1
  obtain ⟨-, k', hk', comp', hkind'⟩ := B.2.1
  cases hk.symm.trans hk'
  rw [hkind] at hkind'
  cases hkind'
  exact hne rfl
theorem ArI.uniq {Z : State} {h : Heap} {a : Addr} {ty ty' : FieldType} {xs ys : List Int32} (A : ArI Z h a ty xs) (B : ArI Z h a ty' ys) : xs = ys := by
  obtain ⟨c, A, r, -⟩ := A
  obtain ⟨c', B, r', -⟩ := B
  cases A.1.symm.trans B.1
  rw [r] at r'
  have := congrArg Array.toList r'
  simp only [List.toList_toArray] at this
  exact List.map_inj_right (fun _ _ h => Value.int.inj h) |>.mp this
theorem Fld.uniq {Z : State} {h : Heap} {a : Addr} {C n d : String} {v w : Value} (F : Fld Z h a C n d v) (G : Fld Z h a C n d w) : v = w := by
  obtain ⟨c, cf, k, i, f, h1, h2, -, -, -, -, h7⟩ := F
  obtain ⟨c', cf', k', i', f', g1, g2, -, -, -, -, g7⟩ := G
  cases h1.symm.trans g1
  cases h2.symm.trans g2
  exact Option.some.inj (h7.symm.trans g7)
theorem lo8_toInt (u : UInt16) : (lo8 u).toInt = if u.toNat % 256 < 128 then ((u.toNat % 256 : Nat) : Int) else ((u.toNat % 256 : Nat) : Int) - 256 := by
  have h := c_i2b (chv u)
  have e : (chv u).toInt8.toInt32 = lo8 u := chv_lo8 u
  rw [e, chv_toInt] at h
  split <;> omega
theorem hi8_chv (u : UInt16) : hi8 u = (chv u >>> ((8 : Int32) &&& 31)).toInt8.toInt32 := by
  have e : (chv u >>> ((8 : Int32) &&& 31)) = chv (u >>> 8) := by
    apply Int32.toInt_inj.mp
    rw [c_ishr _ _ 8 (by decide), chv_toInt, chv_toInt, UInt16.toNat_shiftRight]
    simp [Nat.shiftRight_eq_div_pow]
  rw [e]
  exact (chv_lo8 _).symm
theorem hi8_toInt (u : UInt16) : (hi8 u).toInt = if u.toNat / 256 < 128 then ((u.toNat / 256 : Nat) : Int) else ((u.toNat / 256 : Nat) : Int) - 256 := by
  have hu := u.toNat_lt
  have e : hi8 u = lo8 (u >>> 8) := rfl
  have e2 : (u >>> 8).toNat = u.toNat / 256 := by
    rw [UInt16.toNat_shiftRight]; simp [Nat.shiftRight_eq_div_pow]
  rw [e, lo8_toInt, e2, Nat.mod_eq_of_lt (by omega)]
theorem chv_shr0 (u : UInt16) : (chv u >>> ((0 : Int32) &&& 31)).toInt8.toInt32 = lo8 u := by
  have e : (chv u >>> ((0 : Int32) &&& 31)) = chv u := by
    apply Int32.toInt_inj.mp
    rw [c_ishr _ _ 0 (by decide)]; simp
  rw [e]; exact chv_lo8 u
/-- StringUTF16.getChar's sum -/
theorem getChar_val (u : UInt16) : (((lo8 u &&& 255) <<< ((0 : Int32) &&& 31)) ||| ((hi8 u &&& 255) <<< ((8 : Int32) &&& 31))).toUInt32.toUInt16.toUInt32.toInt32 = chv u := by
  have hu := u.toNat_lt
  have m1 := c_mask (lo8 u) 255 8 (by decide) (by decide)
  have m2 := c_mask (hi8 u) 255 8 (by decide) (by decide)
  have s1 := c_ishl (lo8 u &&& 255) 0 0 (by decide)
  have s2 := c_ishl (hi8 u &&& 255) 8 8 (by decide)
  have l1 := lo8_toInt u
  have l2 := hi8_toInt u
  generalize e1 : (lo8 u &&& 255) <<< ((0 : Int32) &&& 31) = A at *
  generalize e2 : (hi8 u &&& 255) <<< ((8 : Int32) &&& 31) = Bv at *
  have r1 := rng32 A
  have r2 := rng32 Bv
  have k1 : (lo8 u &&& 255).toInt = (u.toNat % 256 : Nat) := by rw [m1, l1]; split <;> omega
  have k2 : (hi8 u &&& 255).toInt = (u.toNat / 256 : Nat) := by rw [m2, l2]; split <;> omega
  rw [k1] at s1
  rw [k2] at s2
  have q := c_or' A Bv 8 (by decide) 256 (by decide) (by omega) (by omega) (by omega)
  have c := c_i2c (A ||| Bv)
  apply Int32.toInt_inj.mp
  rw [chv_toInt]
  have r3 := rng32 (A ||| Bv)
  omega
theorem n32_shl1 {i : Nat} (h : 2 * i < 2 ^ 31) : Int32.ofNat i <<< ((1 : Int32) &&& 31) = Int32.ofNat (2 * i) := by
  have s := c_ishl (Int32.ofNat i) 1 1 (by decide)
  apply Int32.toInt_inj.mp
  rw [n32_toInt h]
  rw [n32_toInt (by omega)] at s
  have r := rng32 (Int32.ofNat i <<< ((1 : Int32) &&& 31))
  omega
theorem b16_len (us : List UInt16) : (b16 us).length = 2 * us.length := by
  induction us with
  | nil => rfl
  | cons u us ih => simp only [b16, List.flatMap_cons, List.length_append, List.length_cons, List.length_nil] at ih ⊢; omega
theorem b16_app (us vs : List UInt16) : b16 (us ++ vs) = b16 us ++ b16 vs := by simp [b16]
theorem b16_get {us : List UInt16} {i : Nat} {u : UInt16} (h : us[i]? = some u) : (b16 us)[2 * i]? = some (lo8 u) ∧ (b16 us)[2 * i + 1]? = some (hi8 u) := by
  have hi : i < us.length := (List.getElem?_eq_some_iff.mp h).1
  have e : us = us.take i ++ u :: us.drop (i + 1) := by
    have hg : us[i] = u := (List.getElem?_eq_some_iff.mp h).2
    rw [← hg, List.getElem_cons_drop, List.take_append_drop]
  have hl : (b16 (us.take i)).length = 2 * i := by rw [b16_len, List.length_take]; omega
  have e2 : b16 us = b16 (us.take i) ++ (lo8 u :: hi8 u :: b16 (us.drop (i + 1))) := by
    conv => lhs; rw [e, b16_app]
    simp [b16]
  rw [e2]
  constructor
  · rw [List.getElem?_append_right (by omega), hl]; simp
  · rw [List.getElem?_append_right (by omega), hl, show 2 * i + 1 - 2 * i = 1 by omega]; simp
theorem lo8_inj {u v : UInt16} (hu : u < 256) (hv : v < 256) (h : lo8 u = lo8 v) : u = v := by
  have := congrArg Int32.toInt h
  rw [lo8_toInt, lo8_toInt] at this
  rw [UInt16.lt_iff_toNat_lt] at hu hv
  have h1 : u.toNat < 256 := hu
  have h2 : v.toNat < 256 := hv
  apply UInt16.toNat_inj.mp
  split at this <;> split at this <;> omega
theorem pair_inj {u v : UInt16} (h1 : lo8 u = lo8 v) (h2 : hi8 u = hi8 v) : u = v := by
  have a1 := congrArg Int32.toInt h1
  have a2 := congrArg Int32.toInt h2
  rw [lo8_toInt, lo8_toInt] at a1
  rw [hi8_toInt, hi8_toInt] at a2
  have b1 := u.toNat_lt
  have b2 := v.toNat_lt
  apply UInt16.toNat_inj.mp
  split at a1 <;> split at a1 <;> split at a2 <;> split at a2 <;> omega
theorem b16_inj : ∀ {us vs : List UInt16}, b16 us = b16 vs → us = vs
  | [], [], _ => rfl
  | [], v :: vs, h => by simp [b16] at h
  | u :: us, [], h => by simp [b16] at h
  | u :: us, v :: vs, h => by
    simp only [b16, List.flatMap_cons, List.cons_append, List.nil_append, List.cons.injEq] at h
    rw [pair_inj h.1 h.2.1, b16_inj (us := us) (vs := vs) h.2.2]
theorem lo8s_inj : ∀ {us vs : List UInt16}, lat us = true → lat vs = true → us.map lo8 = vs.map lo8 → us = vs
  | [], [], _, _, _ => rfl
  | [], v :: vs, _, _, h => by simp at h
  | u :: us, [], _, _, h => by simp at h
  | u :: us, v :: vs, h1, h2, h => by
    simp only [lat, List.all_cons, Bool.and_eq_true, decide_eq_true_eq] at h1 h2
    simp only [List.map_cons, List.cons.injEq] at h
    rw [lo8_inj h1.1 h2.1 h.1, lo8s_inj (us := us) (vs := vs) h1.2 h2.2 h.2]
theorem take_set {α : Type} {xs : List α} {ys : List α} {i : Nat} {x : α} (h1 : xs.length = i) (h2 : i < xs.length + ys.length) : (xs ++ ys).set i x = xs ++ x :: ys.drop 1 := by
  subst h1
  rw [List.set_append_right _ _ (Nat.le_refl _), Nat.sub_self]
  cases ys with
  | nil => simp at h2
  | cons y ys => rfl
theorem take_succ' {us : List UInt16} {i : Nat} {u : UInt16} (h : us[i]? = some u) : us.take (i + 1) = us.take i ++ [u] := by
  rw [List.take_add_one, h]; rfl
end Jvm.OwnW
namespace Jvm.OwnW
open Jvm Jvm.ClassFile Sem Op Lib Jvm.Free Jvm.Stand Jvm.LawKit Jvm.RoadKit Bundle
def cod (us : List UInt16) : Int32 := if lat us = true then 0 else 1
def byt (us : List UInt16) : List Int32 := if lat us = true then us.map lo8 else b16 us
theorem StrAt.open {Z : State} {h : Heap} {a t : Addr} {us : List UInt16} (S : StrAt Z h a t us) : Exa Z h a ST ∧ Fld Z h a ST "value" "[B" (.ref t) ∧ Fld Z h a ST "coder" "B" (.int (cod us)) ∧ ArI Z h t .byte (byt us) := by
  obtain ⟨h1, h2, h3⟩ := S
  refine ⟨h1, h2, ?_⟩
  rcases h3 with ⟨q, r⟩ | ⟨q, r⟩
  · simpa [cod, byt, q] using r
  · simpa [cod, byt, q] using r
theorem StrAt.mk {Z : State} {h : Heap} {a t : Addr} {us : List UInt16} (h1 : Exa Z h a ST) (h2 : Fld Z h a ST "value" "[B" (.ref t)) (h3 : Fld Z h a ST "coder" "B" (.int (cod us))) (h4 : ArI Z h t .byte (byt us)) : StrAt Z h a t us := by
  refine ⟨h1, h2, ?_⟩
  cases hl : lat us
  · exact Or.inr ⟨rfl, by simpa [cod, hl] using h3, by simpa [byt, hl] using h4⟩
  · exact Or.inl ⟨rfl, by simpa [cod, hl] using h3, by simpa [byt, hl] using h4⟩
theorem str_inj {us vs : List UInt16} (hc : cod us = cod vs) (hb : byt us = byt vs) : us = vs := by
  unfold cod at hc
  unfold byt at hb
  cases h1 : lat us <;> cases h2 : lat vs <;> simp [h1, h2] at hc hb
  · exact b16_inj hb
  · exact lo8s_inj h1 h2 hb
theorem StrAt.uniq {Z : State} {h : Heap} {a t t' : Addr} {us vs : List UInt16} (S : StrAt Z h a t us) (S' : StrAt Z h a t' vs) : us = vs := by
  obtain ⟨-, v1, c1, b1⟩ := S.open
  obtain ⟨-, v2, c2, b2⟩ := S'.open
  have e1 : t = t' := Value.ref.inj (Fld.uniq v1 v2)
  subst e1
  exact str_inj (Value.int.inj (Fld.uniq c1 c2)) (ArI.uniq b1 b2)
theorem byt_lt {Z : State} {h : Heap} {t : Addr} {us : List UInt16} (A : ArI Z h t .byte (byt us)) : us.length < 2 ^ 31 := by
  have := A.len
  unfold byt at this
  split at this
  · simpa using this
  · rw [b16_len] at this; omega
end Jvm.OwnW
namespace Jvm.OwnW
open Jvm Jvm.ClassFile Sem Op Lib Jvm.Free Jvm.Stand Jvm.LawKit Jvm.RoadKit Bundle
theorem n32_half {i : Nat} (h : 2 * i < 2 ^ 31) : Int32.ofNat (2 * i) >>> ((1 : Int32) &&& 31) = Int32.ofNat i := by
  apply Int32.toInt_inj.mp
  rw [c_ishr _ _ 1 (by decide), n32_toInt h, n32_toInt (by omega)]
  omega
theorem n32_sub {i k : Nat} (h : k ≤ i) (hi : i < 2 ^ 31) : Int32.ofNat i - Int32.ofNat k = Int32.ofNat (i - k) := by
  have d := c_isub (Int32.ofNat i) (Int32.ofNat k)
  have r := rng32 (Int32.ofNat i - Int32.ofNat k)
  apply Int32.toInt_inj.mp
  rw [n32_toInt (by omega)]
  rw [n32_toInt hi, n32_toInt (by omega)] at d
  omega
theorem lo8_and (u : UInt16) (h : u < 256) : (lo8 u &&& 255) = chv u := by
  have m1 := c_mask (lo8 u) 255 8 (by decide) (by decide)
  have l1 := lo8_toInt u
  rw [UInt16.lt_iff_toNat_lt] at h
  have h1 : u.toNat < 256 := h
  apply Int32.toInt_inj.mp
  rw [m1, chv_toInt, l1]
  split <;> omega
theorem chv_i2c (u : UInt16) : (chv u).toUInt32.toUInt16.toUInt32.toInt32 = chv u := chv_nar u
theorem cod_lat {us : List UInt16} (h : lat us = true) : cod us = 0 := if_pos h
theorem cod_utf {us : List UInt16} (h : lat us = false) : cod us = 1 := if_neg (by rw [h]; decide)
theorem byt_lat {us : List UInt16} (h : lat us = true) : byt us = us.map lo8 := if_pos h
theorem byt_utf {us : List UInt16} (h : lat us = false) : byt us = b16 us := if_neg (by rw [h]; decide)
theorem mem_lo8 {us : List UInt16} {c : UInt16} (hl : lat us = true) (hc : c < 256) : lo8 c ∈ us.map lo8 ↔ c ∈ us := by
  constructor
  · intro h
    obtain ⟨u, hu, e⟩ := List.mem_map.mp h
    have : u < 256 := by simp only [lat, List.all_eq_true, decide_eq_true_eq] at hl; exact hl u hu
    rw [← lo8_inj this hc e]; exact hu
  · exact fun h => List.mem_map_of_mem h
end Jvm.OwnW
namespace Jvm.OwnW
open Jvm Jvm.ClassFile Sem Op Lib Jvm.Free Jvm.Stand Jvm.LawKit Jvm.RoadKit Bundle
section Start
variable {s : State} {args : Array Value} {C n d : String} {x : Int32}
theorem sta_eq (w : (Jvm.Cond.eq (.static C n d) (.int x)).before args s = true) (wi : (Jvm.Cond.initializedFor C n d).before args s = true) : Sta s s.heap C n d (.int x) :=
  Sta.start (args := args) (Cond.eq_int w rfl) (Or.inl wi)
theorem sta_int (w : (Jvm.Cond.isInt (.static C n d)).before args s = true) (wi : (Jvm.Cond.initializedFor C n d).before args s = true) : ∃ z, Sta s s.heap C n d (.int z) ∧ (Term.static C n d).eval args s none [] s = some (.int z) := by
  obtain ⟨z, e⟩ := is_v (Cond.before_iff.mp w)
  exact ⟨z, Sta.start e (Or.inl wi), e⟩
theorem sta_nz {z : Int32} (e : (Term.static C n d).eval args s none [] s = some (.int z)) (w : (Jvm.Cond.not (.eq (.static C n d) (.int 0))).before args s = true) : ¬ z = 0 := fun q => by
  have h := not_v (Cond.before_iff.mp w)
  subst q
  have h2 : (Jvm.Cond.eq (Term.static C n d) (.int 0)).value args s none s [] = some true := eq_i e rfl rfl
  rw [h2] at h; cases h
theorem sta_ref {K : String} (w : (Jvm.Cond.exactly (.static C n d) K).before args s = true) (wi : (Jvm.Cond.initializedFor C n d).before args s = true ∨ ((Jvm.Cond.initialized C).before args s = true ∧ (Jvm.Cond.laysStatic C n d).before args s = true)) : ∃ a, Sta s s.heap C n d (.ref a) ∧ Exa s s.heap a K ∧ (Term.static C n d).eval args s none [] s = some (.ref a) := by
  obtain ⟨a, e⟩ := exa_v (Cond.before_iff.mp w)
  exact ⟨a, Sta.start e wi, Exa.start e (Cond.before_iff.mp w), e⟩
theorem fld_null {t : Term} {a : Addr} (e : t.eval args s none [] s = some (.ref a)) (w : (Jvm.Cond.eq (.field t C n d) .null).before args s = true) : Fld s s.heap a C n d .null :=
  Fld.start (by have := null_v (Cond.before_iff.mp w); rw [fld_at e] at this; exact this)
theorem fld_int {t : Term} {a : Addr} (e : t.eval args s none [] s = some (.ref a)) (w : (Jvm.Cond.eq (.field t C n d) (.int x)).before args s = true) : Fld s s.heap a C n d (.int x) :=
  Fld.start (by have := Cond.eq_int w rfl; rw [fld_at e] at this; exact this)
theorem sta_any {ty : FieldType} (hf : Fit s) (w : (Jvm.Cond.laysStatic C n d).before args s = true) (wz : (Jvm.Cond.initialized C).before args s = true) (ht : parseFieldDescriptor d = some ty) : ∃ v, Sta s s.heap C n d v ∧ fits ty v = true := by
  obtain ⟨v, e, f⟩ := static_fit hf w ht
  exact ⟨v, Sta.start e (Or.inr ⟨wz, w⟩), f⟩
theorem kh_start {L : Lits} (h : ∀ q ∈ L, ConstHeldL s q.1 q.2.1) : KH s L s.vm s.heap [] := fun q hq c k cf i units a h1 h2 h3 h4 h5 h6 => by
  obtain ⟨sq, cS, r1, r2, r3, r4, r5⟩ := h q hq c k cf i units a h1 h2 h3 h4 h5 h6
  exact ⟨sq, cS, r1, r2, r3, r4, r5, List.not_mem_nil, List.not_mem_nil⟩
theorem inv_start {L : Lits} (hl : Links s L) (h : ∀ q ∈ L, ConstHeldL s q.1 q.2.1) : Inv s L s.vm s.heap [] :=
  ⟨State.Warmed39.refl s, ⟨Nat.le_refl _, fun _ _ q => q⟩, fun _ q => (nomatch q), hl, kh_start h⟩
end Start
end Jvm.OwnW
namespace Jvm.OwnW
open Jvm Jvm.ClassFile Sem Op Lib Jvm.Free Jvm.Stand Jvm.LawKit Jvm.RoadKit Bundle
section More
variable {R R' : Room} {Z : State} {L : Lits} {h0 h h' : Heap} {ws ws' mine0 mine : List Addr} {ce sl : Nat} {own : String} {code : ByteArray} {maxL : Nat} {ret : Option FieldType} {nm : String} {Q : Option Value → Heap → List Addr → Prop} {pc pc' : Nat} {Ls : List Slot} {rest argsL : List Value} {a0 : Array Value} {a : Addr}
  {y z : MethodName} {cb : ByteArray} {mL : Nat} {rt : Option FieldType} {Q' : Option Value → Heap → List Addr → Prop} {idx : Nat} {as : Array Value}
theorem WP.tsw {dflt low high : Int} {offs : Array Int} {len : Nat} {o : Int} {i : Int32} (hd : decode code pc = .ok (.tableswitch dflt low high offs, len)) (hin : ¬ (i.toInt < low ∨ i.toInt > high)) (hoff : offs[(i.toInt - low).toNat]? = some o) (ho : 0 ≤ (pc : Int) + o) (hp : ((pc : Int) + o).toNat = pc')
    (K : WP own code maxL ret nm R Z L h0 ws mine0 Q mine ce sl h pc' Ls rest) : WP own code maxL ret nm R Z L h0 ws mine0 Q mine ce sl h pc Ls (.int i :: rest) :=
  K.pure1 fun p e below T m c t h hx hc hr => XS.tswIn h hx rfl rfl (hb hc hd) rfl hin hoff ho hp hr
theorem WP.tswD {dflt low high : Int} {offs : Array Int} {len : Nat} {i : Int32} (hd : decode code pc = .ok (.tableswitch dflt low high offs, len)) (hout : i.toInt < low ∨ i.toInt > high) (ho : 0 ≤ (pc : Int) + dflt) (hp : ((pc : Int) + dflt).toNat = pc')
    (K : WP own code maxL ret nm R Z L h0 ws mine0 Q mine ce sl h pc' Ls rest) : WP own code maxL ret nm R Z L h0 ws mine0 Q mine ce sl h pc Ls (.int i :: rest) :=
  K.pure1 fun p e below T m c t h hx hc hr => XS.tswOut h hx rfl rfl (hb hc hd) rfl hout ho hp hr
/-- invokevirtual of a method that a superclass declares -/
theorem WP.callVU {Cl owner : String} (C : Con z cb mL rt R' Z L [] (.ref a :: argsL).toArray h ws' mine Q') (E : Exa Z h a Cl) (wl : (Jvm.Cond.methodLink own idx y).before a0 Z = true) (wsm : (Jvm.Cond.sameMethod y.cls owner y.name y.desc).before a0 Z = true) (wd : (Jvm.Cond.declares ⟨owner, y.name, y.desc⟩).before a0 Z = true) (wsel : (Jvm.Cond.selects Cl y z).before a0 Z = true) (wi : (Jvm.Cond.instanceMethod z).before a0 Z = true) (wz : (Jvm.Cond.initialized z.cls).before a0 Z = true) (wc : (Jvm.Cond.code z cb mL rt).before a0 Z = true)
    (hd : decode code pc = .ok (.invokevirtual idx, 3)) (hy : owner ≠ "java/lang/invoke/MethodHandle" ∧ owner ≠ "java/lang/invoke/VarHandle") {sig : MethodDescriptor} (hsig : parseMethodDescriptor y.desc = some sig) (hlen : argsL.length = sig.parameters.length) {st : List Value} (hst : st = argsL.reverse ++ .ref a :: rest) (hLs : Ls.length = maxL)
    (hf : R'.frames + 1 ≤ R.frames) (hl : (rest.map fun v => v.category).sum + (mL + 11) + R'.locals ≤ R.locals) (hc : ce + R'.cells ≤ R.cells) (hs : sl + R'.slots ≤ R.slots) (hw : ∀ x ∈ ws', x ∈ ws ∨ h0.size ≤ x) (hp : pc + 3 = pc')
    (K : ∀ v h' nw, Keep h h' ws' → (∀ x ∈ nw, h.size ≤ x) → Q' v h' nw → WP own code maxL ret nm R Z L h0 ws mine0 Q (nw ++ mine) (ce + R'.cells) (sl + R'.slots) h' pc' Ls (v.toList ++ rest)) :
    WP own code maxL ret nm R Z L h0 ws mine0 Q mine ce sl h pc Ls st := by
  intro p l e s m args below meth c B T locs X hT
  subst hp hst
  obtain ⟨cq, kq, qa, qb, qc⟩ := isOf (s := s.setVm T.vm) X.warm hT E
  obtain ⟨v, vm₁, Bp, hW, Y, hS, hg, ⟨L', nw, q1, q2, q3, q4, q5, q6, q7, q8⟩, st⟩ := virtualBackUpS X.1 B.1 (X.hown B) (mv X.warm wl) (mv X.warm wsm) (mv X.warm wd) hy (mv X.warm wsel) (mv X.warm wi) (C.back X.warm wc wz hf hl) qa qc (g := mkF m pc Ls.toArray (argsL.reverse ++ .ref a :: rest)) rfl (by simp [hLs, B.2.2.1]) (Steps.refl _) (argsL := argsL) (rest := rest) (fun sg h => by rw [hsig] at h; cases h; exact hlen) rfl (by simp) (hb B.2.1 hd)
    (fun vm₁ hv => ⟨rfl, hT, by show Inv Z L vm₁ T.heap mine; exact X.2.2.2.2.go (U := s.setVm T.vm) rfl hv (Nat.le_refl _) (fun _ _ hc _ => hc) (fun _ hx => Or.inl hx), hc, hs⟩)
  exact (K v Bp.U.heap nw q5 q6 q8 p l e s m args below meth c B Bp.U _ (X.called hT Y hS hg q1 q2 q3 q4 q5 q7 hw) rfl).step fun t hr => st.trans hr
/-- invokevirtual of a private method -/
theorem WP.callP {n : Nat} (C : Con y cb mL rt R' Z L [] (.ref a :: argsL).toArray h ws' mine Q') (F : ∃ c : Cell, h[a]? = some c ∧ ∀ q, c.vm ≠ .statics q) (wl : (Jvm.Cond.methodLink own idx y).before a0 Z = true) (wi : (Jvm.Cond.instanceMethod y).before a0 Z = true) (wp : (Jvm.Cond.privateMethod y).before a0 Z = true) (win : (Jvm.Cond.instantiable y.cls n).before a0 Z = true) (wz : (Jvm.Cond.initialized y.cls).before a0 Z = true) (wc : (Jvm.Cond.code y cb mL rt).before a0 Z = true)
    (hd : decode code pc = .ok (.invokevirtual idx, 3)) (hy : y.cls ≠ "java/lang/invoke/MethodHandle" ∧ y.cls ≠ "java/lang/invoke/VarHandle") {sig : MethodDescriptor} (hsig : parseMethodDescriptor y.desc = some sig) (hlen : argsL.length = sig.parameters.length) {st : List Value} (hst : st = argsL.reverse ++ .ref a :: rest) (hLs : Ls.length = maxL)
    (hf : R'.frames + 1 ≤ R.frames) (hl : (rest.map fun v => v.category).sum + (mL + 11) + R'.locals ≤ R.locals) (hc : ce + R'.cells ≤ R.cells) (hs : sl + R'.slots ≤ R.slots) (hw : ∀ x ∈ ws', x ∈ ws ∨ h0.size ≤ x) (hp : pc + 3 = pc')
    (K : ∀ v h' nw, Keep h h' ws' → (∀ x ∈ nw, h.size ≤ x) → Q' v h' nw → WP own code maxL ret nm R Z L h0 ws mine0 Q (nw ++ mine) (ce + R'.cells) (sl + R'.slots) h' pc' Ls (v.toList ++ rest)) :
    WP own code maxL ret nm R Z L h0 ws mine0 Q mine ce sl h pc Ls st := by
  intro p l e s m args below meth c B T locs X hT
  subst hp hst
  obtain ⟨cl, hcl, hst⟩ := F
  have win' := mv (args := args) X.warm win
  obtain ⟨ci, ki, hci, hki, -, hab, -⟩ := Cond.instantiable_spec (first := s.setVm T.vm) (o := none) (idx := []) win'
  have hni : ki.isInterface = false := (Bool.or_eq_false_iff.mp hab).1
  have hpv : (s.setVm T.vm).PrivateAt y := Cond.privateMethod_at (args := args) (mvP X.warm wp)
  obtain ⟨v, vm₁, Bp, hW, Y, hS, hg, ⟨L', nw, q1, q2, q3, q4, q5, q6, q7, q8⟩, st⟩ := privateBackS X.1 B.1 (X.hown B) (mv X.warm wl) (mv X.warm wi) (selects_self_of_private hci hki hni hpv (mv X.warm wi) hy) hpv (mv X.warm wc) hy (C.back X.warm wc wz hf hl) (g := mkF m pc Ls.toArray (argsL.reverse ++ .ref a :: rest)) rfl (by simp [hLs, B.2.2.1]) (Steps.refl _) (a := a) (cell := cl) (by rw [hT]; exact hcl) hst (argsL := argsL) (rest := rest) (fun sg h => by rw [hsig] at h; cases h; exact hlen) rfl (by simp) (hb B.2.1 hd)
    (fun vm₁ hv => ⟨rfl, hT, by show Inv Z L vm₁ T.heap mine; exact X.2.2.2.2.go (U := s.setVm T.vm) rfl hv (Nat.le_refl _) (fun _ _ hc _ => hc) (fun _ hx => Or.inl hx), hc, hs⟩)
  exact (K v Bp.U.heap nw q5 q6 q8 p l e s m args below meth c B Bp.U _ (X.called hT Y hS hg q1 q2 q3 q4 q5 q7 hw) rfl).step fun t hr => st.trans hr
end More
section Facts
variable {Z : State} {h h' : Heap} {a b : Addr} {C n d : String} {v w : Value} {sl : Nat} {args : Array Value} {t u : Term}
/-- after a write the field still has some value -/
theorem fld_some (F : ∃ v, Fld Z h b C n d v) (W : Wr h h' a sl w) : ∃ v', Fld Z h' b C n d v' := by
  obtain ⟨v, F⟩ := F
  by_cases e : b = a
  · subst e
    by_cases q : Jvm.RoadKit.slotOf Z C n d = sl
    · subst q; exact ⟨w, F.same W⟩
    · exact ⟨v, F.other W (Or.inr q)⟩
  · exact ⟨v, F.other W (Or.inl e)⟩
theorem fld_ref {K : String} (e : t.eval args Z none [] Z = some (.ref a)) (w : (Jvm.Cond.exactly (.field t C n d) K).value args Z none Z [] = some true) : ∃ b, Fld Z Z.heap a C n d (.ref b) ∧ Exa Z Z.heap b K ∧ (Term.field t C n d).eval args Z none [] Z = some (.ref b) := by
  obtain ⟨b, eb⟩ := exa_v w
  exact ⟨b, Fld.start (by rw [← fld_at e]; exact eb), Exa.start eb w, eb⟩
theorem len_lt {c : Cell} (e : t.eval args Z none [] Z = some (.ref a)) (e2 : Z.arrayAt? a = some c) (el : (Term.length t).eval args Z none [] Z = some v) : c.slots.size < 2 ^ 31 := by
  simp only [Term.eval, Option.bind_eq_bind, e, Option.bind_some, e2] at el
  split at el
  · assumption
  · cases el
theorem fld_arr0 {ty : FieldType} (e : t.eval args Z none [] Z = some (.ref a)) (w : (Jvm.Cond.arrayOf (.field t C n d) ty).value args Z none Z [] = some true) (wl : (Jvm.Cond.eq (.length (.field t C n d)) (.int 0)).value args Z none Z [] = some true) : ∃ b, Fld Z Z.heap a C n d (.ref b) ∧ ArI Z Z.heap b ty [] := by
  obtain ⟨b, eb⟩ := arr_v w
  obtain ⟨c, A⟩ := Arr.start eb w
  have el := Cond.eq_int (Cond.before_iff.mpr wl) rfl
  obtain ⟨b', c', e1, e2, e3⟩ := Term.length_spec el
  cases eb.symm.trans e1
  have ec : c' = c := by
    have := Arr.fin (Vm.Alike.refl _) A
    rw [this] at e2; exact (Option.some.inj e2).symm
  subst ec
  have hb : c'.slots.size < 2 ^ 31 := by
    exact len_lt eb e2 el
  have hz : c'.slots.size = 0 := by
    have q : Int32.ofNat c'.slots.size = Int32.ofNat 0 := (Value.int.inj e3).symm
    exact (n32_eq hb (by omega)).mp q
  refine ⟨b, Fld.start (by rw [← fld_at e]; exact eb), c', A, ?_, by simp⟩
  simpa using hz
theorem fld_same (e : t.eval args Z none [] Z = some (.ref a)) (eu : u.eval args Z none [] Z = some (.ref b)) (w : (Jvm.Cond.eq (.field t C n d) u).value args Z none Z [] = some true) : Fld Z Z.heap a C n d (.ref b) := by
  refine Fld.start ?_
  rw [← fld_at e]
  cases hf : (Term.field t C n d).eval args Z none [] Z with
  | none => simp [Cond.value, hf] at w
  | some x => cases x <;> simp [Cond.value, hf, eu] at w; rw [w]
/-- a static that holds a reference -/
theorem sta_isref (w : (Jvm.Cond.isRef (.static C n d)).before args Z = true) (wi : (Jvm.Cond.initializedFor C n d).before args Z = true) : ∃ v, Sta Z Z.heap C n d v ∧ v.isRef = true := by
  obtain ⟨v, e, hv⟩ := isR_v (Cond.before_iff.mp w)
  exact ⟨v, Sta.start e (Or.inl wi), hv⟩
end Facts
/-- cs with us laid over it from k on -/
def ovr (cs : List Int32) (k : Nat) (us : List UInt16) : List Int32 := cs.take k ++ us.map chv ++ cs.drop (k + us.length)
theorem ovr_len {cs : List Int32} {k : Nat} {us : List UInt16} (h : k + us.length ≤ cs.length) : (ovr cs k us).length = cs.length := by
  simp [ovr, List.length_take, List.length_drop]; omega
theorem ovr_nil {cs : List Int32} {k : Nat} : ovr cs k [] = cs := by simp [ovr]
theorem ovr_set {cs : List Int32} {k i : Nat} {us : List UInt16} {u : UInt16} (hu : us[i]? = some u) (h : k + us.length ≤ cs.length) : (ovr cs k (us.take i)).set (k + i) (chv u) = ovr cs k (us.take (i + 1)) := by
  have hi : i < us.length := (List.getElem?_eq_some_iff.mp hu).1
  have l1 : (cs.take k ++ (us.take i).map chv).length = k + i := by simp [List.length_take]; omega
  unfold ovr
  rw [take_set l1 (by rw [l1]; simp [List.length_take, List.length_drop]; omega), take_succ' hu]
  have l2 : (us.take i ++ [u]).length = i + 1 := by simp [List.length_take]; omega
  have l3 : (us.take i).length = i := by simp [List.length_take]; omega
  rw [l2, l3]
  simp [List.drop_drop, Nat.add_assoc]
theorem ovr_get {cs : List Int32} {k i : Nat} {us : List UInt16} (h : k + us.length ≤ cs.length) : (ovr cs k us)[i]? = if i < k then cs[i]? else if i < k + us.length then (us[i - k]?).map chv else cs[i]? := by
  unfold ovr
  have lk : (cs.take k).length = k := by simp [List.length_take]; omega
  split
  · rename_i q
    rw [List.append_assoc, List.getElem?_append_left (by rw [lk]; exact q), List.getElem?_take_of_lt q]
  · rename_i q
    split
    · rename_i q2
      rw [List.append_assoc, List.getElem?_append_right (by rw [lk]; omega), List.getElem?_append_left (by rw [lk]; simp; omega), lk]; simp
    · rename_i q2
      rw [List.getElem?_append_right (by simp [lk]; omega), List.getElem?_drop]
      congr 1
      simp [lk]; omega
/-- us stands in bs from off on -/
def SubC (bs : List Int32) (off : Nat) (us : List UInt16) : Prop := off + us.length ≤ bs.length ∧ ∀ (i : Nat) (u : UInt16), us[i]? = some u → bs[off + i]? = some (chv u)
theorem SubC.full (us : List UInt16) : SubC (us.map chv) 0 us := ⟨by simp, fun i u hu => by simp [hu]⟩
section Copy
variable {Z : State} {h : Heap} {a b : Addr} {ty : FieldType} {xs ys : List Int32}
theorem ArI.arv (A : ArI Z h a ty xs) (hf : ∀ x ∈ xs, fits ty (.int x) = true) : ∃ k, Arv Z h a k ty (Int32.ofNat xs.length) (xs.map Value.int) (.int 0) := by
  obtain ⟨c, A', r1, r2⟩ := A
  have hs : c.slots.size = xs.length := by rw [r1]; simp
  refine ⟨c.cls, c, A', rfl, by rw [hs, nat_clamp (n32_toInt r2)], ?_, fun k hk => ?_, fun i hi => ?_⟩
  · rw [Int32.lt_iff_toInt_lt, n32_toInt r2]; simp
  · rw [r1]
    have : k < xs.length := hs ▸ hk
    simp [List.getD_eq_getElem?_getD, this]
  · have hi' : i < xs.length := hs ▸ hi
    simp [List.getD_eq_getElem?_getD, hi']
    exact hf _ (List.getElem_mem hi')
theorem ArI.ofArv {k : ClassId} {n : Int32} {dd : Value} (A : Arv Z h a k ty n (xs.map Value.int) dd) (hn : n.toNatClampNeg = xs.length) (hl : xs.length < 2 ^ 31) : ArI Z h a ty xs := by
  obtain ⟨c, A', -, hs, -, hH, -⟩ := A
  refine ⟨c, A', ?_, hl⟩
  rw [hn] at hs
  apply Array.ext_getElem?
  intro i
  by_cases hi : i < c.slots.size
  · rw [hH i hi]
    have hi' : i < xs.length := hs ▸ hi
    simp [List.getD_eq_getElem?_getD, hi']
  · rw [Array.getElem?_eq_none (by omega), Array.getElem?_eq_none (by simp; omega)]
variable {R : Room} {L : Lits} {h0 : Heap} {ws mine0 mine : List Addr} {ce sl : Nat} {own : String} {code : ByteArray} {maxL : Nat} {ret : Option FieldType} {nm : String} {Q : Option Value → Heap → List Addr → Prop} {pc pc' : Nat} {Ls : List Slot} {rest : List Value} {a0 : Array Value} {idx : Nat}
theorem WP.arraycopy {i j n : Nat} {W : Nat} {sp dp nn : Int32} (w1 : (Jvm.Cond.methodLink own idx Jvm.Stand.acN).before a0 Z = true) (w2 : (Jvm.Cond.native Jvm.Stand.acN).before a0 Z = true) (w3 : (Jvm.Cond.static Jvm.Stand.acN).before a0 Z = true) (w4 : (Jvm.Cond.initialized "java/lang/System").before a0 Z = true) (hd : decode code pc = .ok (.invokestatic idx, 3))
    (A : ArI Z h a ty xs) (B : ArI Z h b ty ys) (hty : refKind ty = false) (hfx : ∀ x ∈ xs, fits ty (.int x) = true) (hfy : ∀ y ∈ ys, fits ty (.int y) = true) (hsp : sp.toInt = (i : Int)) (hdp : dp.toInt = (j : Int)) (hnn : nn.toInt = (n : Int)) (h1 : i + n ≤ xs.length) (h2 : j + n ≤ ys.length)
    (hm : b ∈ mine) (hw : b ∈ ws ∨ h0.size ≤ b) (hLs : Ls.length = maxL) (hf : 1 ≤ R.frames) (hW : (rest.map fun v => v.category).sum ≤ W) (hl : W + (nativeFrameWords "java/lang/System" "arraycopy" 5 + 11) ≤ R.locals) (hp : pc + 3 = pc')
    (K : ∀ h', Keep h h' [b] → ArI Z h' b ty (ys.take j ++ (xs.drop i).take n ++ ys.drop (j + n)) → WP own code maxL ret nm R Z L h0 ws mine0 Q mine ce sl h' pc' Ls rest) : WP own code maxL ret nm R Z L h0 ws mine0 Q mine ce sl h pc Ls (.int nn :: .int dp :: .ref b :: .int sp :: .ref a :: rest) := by
  intro p l e s m args below meth c B' T locs X hT
  subst hp
  obtain ⟨ka, A'⟩ := A.arv hfx
  obtain ⟨kb, Bv⟩ := B.arv hfy
  have ci := nat_clamp hsp
  have cj := nat_clamp hdp
  have cn := nat_clamp hnn
  have cx := nat_clamp (n32_toInt A.len)
  have cy := nat_clamp (n32_toInt B.len)
  have nn0 : ∀ {x : Int32} {k : Nat}, x.toInt = (k : Int) → ¬ x < 0 := fun {x k} q r => by rw [Int32.lt_iff_toInt_lt, q] at r; simp at r; omega
  obtain ⟨T', h', L', Y, eT, N, Kp, Cv, st⟩ := cpA (us := ((xs.drop i).take n).map Value.int) X.1 B'.1 X.warm (X.hown B') w1 w2 w3 w4 hT A' Bv (Or.inl ⟨rfl, hty⟩) (nn0 hsp) (nn0 hdp) (nn0 hnn) (by rw [ci, cn, cx]; exact h1) (by rw [cj, cn, cy]; exact h2)
    (by
      rw [ci, cn]
      apply List.ext_getElem?
      intro k
      by_cases hk : k < n
      · have : i + k < xs.length := by omega
        simp [List.getD_eq_getElem?_getD, hk, List.getElem?_take, List.getElem?_drop, this]
      · simp [hk, List.getElem?_take])
    (by rw [cj, cn]; simp; exact h2) X.2.2.1 (X.2.2.2.2.2.2.1 _ hm).1 (g := mkF m pc Ls.toArray (.int nn :: .int dp :: .ref b :: .int sp :: .ref a :: rest)) rfl (by simp [hLs, B'.2.2.1]) rfl (hb B'.2.1 hd) hf (W := W) (by simpa using hW) hl
  rw [cj, cn] at Cv
  have C : ArI Z h' b ty (ys.take j ++ (xs.drop i).take n ++ ys.drop (j + n)) := by
    have e : (ys.map Value.int).take j ++ ((xs.drop i).take n).map Value.int ++ (ys.map Value.int).drop (j + n) = (ys.take j ++ (xs.drop i).take n ++ ys.drop (j + n)).map Value.int := by simp [List.map_take, List.map_drop]
    rw [e] at Cv
    have hlen : (ys.take j ++ (xs.drop i).take n ++ ys.drop (j + n)).length = ys.length := by simp [List.length_take, List.length_drop]; omega
    exact ArI.ofArv Cv (by rw [cy, hlen]) (by rw [hlen]; exact B.len)
  subst hT
  subst eT
  refine (K _ Kp C p l e s m args below meth c B' T' _ (X.rebase Y N Kp.1 (fun x c hc hx => Kp.2.1 _ _ hc (fun q => hx ((List.mem_singleton.mp q) ▸ hm))) (fun x hx => Or.inl hx) (X.2.2.2.1.trans Kp (fun x hx => by cases List.mem_singleton.mp hx; exact hw))) rfl).step st
end Copy
section Chars
variable {R : Room} {Z : State} {L : Lits} {h0 h : Heap} {ws mine0 mine : List Addr} {ce sl : Nat} {own : String} {code : ByteArray} {maxL : Nat} {ret : Option FieldType} {nm : String} {Q : Option Value → Heap → List Addr → Prop} {pc pc' : Nat} {Ls : List Slot} {rest : List Value} {a : Addr}
/-- castore of whatever: some unit stands there -/
theorem WP.castoreU {xs : List Int32} {i : Nat} {j x : Int32} (hd : decode code pc = .ok (.castore, 1)) (A : ArI Z h a .char xs) (hj : j.toInt = (i : Int)) (hi : i < xs.length) (hm : a ∈ mine) (hw : a ∈ ws ∨ h0.size ≤ a) (hp : pc + 1 = pc')
    (K : ∀ h' u, Wr h h' a i (.int (chv u)) → ArI Z h' a .char (xs.set i (chv u)) → WP own code maxL ret nm R Z L h0 ws mine0 Q mine ce sl h' pc' Ls rest) : WP own code maxL ret nm R Z L h0 ws mine0 Q mine ce sl h pc Ls (.int x :: .int j :: .ref a :: rest) :=
  WP.castore hd A hj hi hm hw hp fun h' W A' => K h' x.toUInt32.toUInt16 W A'
theorem chv_fits (u : UInt16) : fits .char (.int (chv u)) = true := by
  have e := chv_toInt u
  have l : u.toNat < 65536 := u.toNat_lt
  simp only [fits, Bool.and_eq_true, decide_eq_true_eq, Int32.le_iff_toInt_le]
  have e0 : (0 : Int32).toInt = 0 := rfl
  have e1 : (65535 : Int32).toInt = 65535 := rfl
  omega
theorem ovr_fits {cs : List Int32} {k : Nat} {us : List UInt16} (h : ∀ x ∈ cs, fits .char (.int x) = true) : ∀ x ∈ ovr cs k us, fits .char (.int x) = true := fun x hx => by
  unfold ovr at hx
  rcases List.mem_append.mp hx with hx | hx
  · rcases List.mem_append.mp hx with hx | hx
    · exact h x (List.mem_of_mem_take hx)
    · obtain ⟨u, -, rfl⟩ := List.mem_map.mp hx; exact chv_fits u
  · exact h x (List.mem_of_mem_drop hx)
end Chars
end Jvm.OwnW
namespace Jvm.OwnW
open Jvm Jvm.ClassFile Sem Op Lib Jvm.Free Jvm.Stand Jvm.LawKit Jvm.RoadKit Bundle
/-- the class called so is there and no interface -/
def NI (s : State) (cls : String) : Prop := ∃ (c : ClassId) (k : Class), s.vm.findClass cls = some c ∧ s.vm.classes[c]? = some k ∧ k.isInterface = false
theorem ni_sel {s : State} {args : Array Value} {C : String} {x y : MethodName} (w : (Jvm.Cond.selects C x y).before args s = true) : NI s y.cls := by
  obtain ⟨c2, r2, m2, q1, q2, q3, q4, kP, hkP, hkPi⟩ := Cond.selects_spec (first := s) (o := none) (idx := []) w
  exact ⟨_, kP, findClass_of_methodNamed q3, hkP, hkPi⟩
theorem same_self {s : State} {args : Array Value} {y : MethodName} (hn : NI s y.cls) (wi : (Jvm.Cond.instanceMethod y).before args s = true) (hy : y.cls ≠ "java/lang/invoke/MethodHandle" ∧ y.cls ≠ "java/lang/invoke/VarHandle") : (Jvm.Cond.sameMethod y.cls y.cls y.name y.desc).before args s = true := by
  obtain ⟨c, k, hc, hk, hni⟩ := hn
  obtain ⟨mk, methM, hnamed, hmethM, -, -⟩ := Cond.instanceMethod_spec wi
  have hfound : s.methodFound? y.cls y.name y.desc = some mk := State.methodFound?_of_named hnamed hy
  simp [Cond.before, Cond.holds, Cond.value, hc, hk, hni, hfound, hnamed]
theorem nf_ni {s : State} {y : MethodName} (h : NI s y.cls) : NotFace s y := fun r0 h0 => by
  obtain ⟨c, k, hc, hk, hni⟩ := h
  cases (findClass_of_methodNamed h0).symm.trans hc
  exact ⟨k, hk, hni⟩
section More
variable {R R' : Room} {Z : State} {L : Lits} {h0 h h' : Heap} {ws ws' mine0 mine : List Addr} {ce sl : Nat} {own : String} {code : ByteArray} {maxL : Nat} {ret : Option FieldType} {nm : String} {Q : Option Value → Heap → List Addr → Prop} {pc pc' : Nat} {Ls : List Slot} {rest argsL : List Value} {a0 : Array Value} {a : Addr}
  {y z : MethodName} {cb : ByteArray} {mL : Nat} {rt : Option FieldType} {Q' : Option Value → Heap → List Addr → Prop} {idx : Nat} {as : Array Value}
/-- invokevirtual of a private method of a class that need not be instantiable -/
theorem WP.callPn (C : Con y cb mL rt R' Z L [] (.ref a :: argsL).toArray h ws' mine Q') (F : ∃ c : Cell, h[a]? = some c ∧ ∀ q, c.vm ≠ .statics q) (wl : (Jvm.Cond.methodLink own idx y).before a0 Z = true) (wi : (Jvm.Cond.instanceMethod y).before a0 Z = true) (wp : (Jvm.Cond.privateMethod y).before a0 Z = true) (hni : ∀ s : State, Z.Warmed39 s.vm → NI s y.cls) (wz : (Jvm.Cond.initialized y.cls).before a0 Z = true) (wc : (Jvm.Cond.code y cb mL rt).before a0 Z = true)
    (hd : decode code pc = .ok (.invokevirtual idx, 3)) (hy : y.cls ≠ "java/lang/invoke/MethodHandle" ∧ y.cls ≠ "java/lang/invoke/VarHandle") {sig : MethodDescriptor} (hsig : parseMethodDescriptor y.desc = some sig) (hlen : argsL.length = sig.parameters.length) {st : List Value} (hst : st = argsL.reverse ++ .ref a :: rest) (hLs : Ls.length = maxL)
    (hf : R'.frames + 1 ≤ R.frames) (hl : (rest.map fun v => v.category).sum + (mL + 11) + R'.locals ≤ R.locals) (hc : ce + R'.cells ≤ R.cells) (hs : sl + R'.slots ≤ R.slots) (hw : ∀ x ∈ ws', x ∈ ws ∨ h0.size ≤ x) (hp : pc + 3 = pc')
    (K : ∀ v h' nw, Keep h h' ws' → (∀ x ∈ nw, h.size ≤ x) → Q' v h' nw → WP own code maxL ret nm R Z L h0 ws mine0 Q (nw ++ mine) (ce + R'.cells) (sl + R'.slots) h' pc' Ls (v.toList ++ rest)) :
    WP own code maxL ret nm R Z L h0 ws mine0 Q mine ce sl h pc Ls st := by
  intro p l e s m args below meth c B T locs X hT
  subst hp hst
  obtain ⟨cl, hcl, hst⟩ := F
  obtain ⟨ci, ki, hci, hki, hni⟩ := hni (s.setVm T.vm) X.warm
  have hpv : (s.setVm T.vm).PrivateAt y := Cond.privateMethod_at (args := args) (mvP X.warm wp)
  obtain ⟨v, vm₁, Bp, hW, Y, hS, hg, ⟨L', nw, q1, q2, q3, q4, q5, q6, q7, q8⟩, st⟩ := privateBackS X.1 B.1 (X.hown B) (mv X.warm wl) (mv X.warm wi) (selects_self_of_private hci hki hni hpv (mv X.warm wi) hy) hpv (mv X.warm wc) hy (C.back X.warm wc wz hf hl) (g := mkF m pc Ls.toArray (argsL.reverse ++ .ref a :: rest)) rfl (by simp [hLs, B.2.2.1]) (Steps.refl _) (a := a) (cell := cl) (by rw [hT]; exact hcl) hst (argsL := argsL) (rest := rest) (fun sg h => by rw [hsig] at h; cases h; exact hlen) rfl (by simp) (hb B.2.1 hd)
    (fun vm₁ hv => ⟨rfl, hT, by show Inv Z L vm₁ T.heap mine; exact X.2.2.2.2.go (U := s.setVm T.vm) rfl hv (Nat.le_refl _) (fun _ _ hc _ => hc) (fun _ hx => Or.inl hx), hc, hs⟩)
  exact (K v Bp.U.heap nw q5 q6 q8 p l e s m args below meth c B Bp.U _ (X.called hT Y hS hg q1 q2 q3 q4 q5 q7 hw) rfl).step fun t hr => st.trans hr
/-- invokespecial of the superclass's method -/
theorem WP.callSup {Cl : String} (C : Con y cb mL rt R' Z L [] (.ref a :: argsL).toArray h ws' mine Q') (E : Exa Z h a Cl) (wl : (Jvm.Cond.methodLink own idx y).before a0 Z = true) (wi : (Jvm.Cond.instanceMethod y).before a0 Z = true) (wsu : (Jvm.Cond.superclass own y.cls).before a0 Z = true) (hni : NI Z y.cls) (hnn : y.name ≠ "<init>") (wz : (Jvm.Cond.initialized y.cls).before a0 Z = true) (wc : (Jvm.Cond.code y cb mL rt).before a0 Z = true)
    (hd : decode code pc = .ok (.invokespecial idx, 3)) (hy : y.cls ≠ "java/lang/invoke/MethodHandle" ∧ y.cls ≠ "java/lang/invoke/VarHandle") {sig : MethodDescriptor} (hsig : parseMethodDescriptor y.desc = some sig) (hlen : argsL.length = sig.parameters.length) {st : List Value} (hst : st = argsL.reverse ++ .ref a :: rest) (hLs : Ls.length = maxL)
    (hf : R'.frames + 1 ≤ R.frames) (hl : (rest.map fun v => v.category).sum + (mL + 11) + R'.locals ≤ R.locals) (hc : ce + R'.cells ≤ R.cells) (hs : sl + R'.slots ≤ R.slots) (hw : ∀ x ∈ ws', x ∈ ws ∨ h0.size ≤ x) (hp : pc + 3 = pc')
    (K : ∀ v h' nw, Keep h h' ws' → (∀ x ∈ nw, h.size ≤ x) → Q' v h' nw → WP own code maxL ret nm R Z L h0 ws mine0 Q (nw ++ mine) (ce + R'.cells) (sl + R'.slots) h' pc' Ls (v.toList ++ rest)) :
    WP own code maxL ret nm R Z L h0 ws mine0 Q mine ce sl h pc Ls st := by
  intro p l e s m args below meth c B T locs X hT
  subst hp hst
  obtain ⟨v, vm₁, Bp, hW, Y, hS, hg, ⟨L', nw, q1, q2, q3, q4, q5, q6, q7, q8⟩, st⟩ := superBackS X.1 B.1 X.warm (X.hown B) wl (same_self hni wi hy) wi wsu hnn (C.back X.warm wc wz hf hl) hT (Ins.self E) (g := mkF m pc Ls.toArray (argsL.reverse ++ .ref a :: rest)) rfl (by simp [hLs, B.2.2.1]) wc (argsL := argsL) (rest := rest) (fun sg h => by rw [hsig] at h; cases h; exact hlen) rfl (by simp) (hb B.2.1 hd)
    (fun vm₁ hv => ⟨rfl, hT, by show Inv Z L vm₁ T.heap mine; exact X.2.2.2.2.go (U := s.setVm T.vm) rfl hv (Nat.le_refl _) (fun _ _ hc _ => hc) (fun _ hx => Or.inl hx), hc, hs⟩)
  exact (K v Bp.U.heap nw q5 q6 q8 p l e s m args below meth c B Bp.U _ (X.called hT Y hS hg q1 q2 q3 q4 q5 q7 hw) rfl).step fun t hr => st.trans hr
/-- newarray, the new array's exact class said -/
theorem WP.newarrayE {aty : ArrayType} {n : Int32} {N : Nat} {ad : String} (hd : decode code pc = .ok (.newarray aty, 2)) (w : (Jvm.Cond.arrayClass (newarray.typeOf aty)).before a0 Z = true) (had : "[" ++ (newarray.typeOf aty).toString = ad) (hdv : defaultValue (newarray.typeOf aty) = .int 0) (hn : n.toInt = (N : Int)) (hb1 : N * 8 ≤ 536870912) (hc : ce + 1 ≤ R.cells) (hl : sl + N ≤ R.slots) (hp : pc + 2 = pc')
    (K : ∀ h' a, a = h.size → a ∉ mine → h0.size ≤ a → Ext h h' → ArI Z h' a (newarray.typeOf aty) (List.replicate N 0) → Exa Z h' a ad → WP own code maxL ret nm R Z L h0 ws mine0 Q (a :: mine) (ce + 1) (sl + N) h' pc' Ls (.ref a :: rest)) : WP own code maxL ret nm R Z L h0 ws mine0 Q mine ce sl h pc Ls (.int n :: rest) := by
  intro p l e s m args below meth c B T locs X hT
  subst hp
  obtain ⟨T', h', cA, Y, eT, E, A, Ex, st⟩ := newPE X.1 B.1 X.warm w hT (g := mkF m pc Ls.toArray (.int n :: rest)) rfl (hb B.2.1 hd) rfl (by rw [Int32.lt_iff_toInt_lt, hn]; simp) (cap := N) (by rw [nat_clamp hn]; exact Nat.le_refl _) hb1 hc hl had
  subst hT
  subst eT
  have A' : ArI Z T'.heap T.heap.size (newarray.typeOf aty) (List.replicate N 0) := ⟨_, A, by simp [newA, nat_clamp hn, hdv], by simp; omega⟩
  refine (K _ _ rfl (fun hx => absurd (X.2.2.2.2.2.2.1 _ hx).2 (Nat.lt_irrefl _)) X.2.2.2.1.1 E A' Ex p l e s m args below meth c B T' _ (X.rebase Y X.2.2.1 E.1 (fun x c hc hx => E.2 _ _ hc) (fun x hx => ?_) (X.2.2.2.1.ext E)) rfl).step st
  rcases List.mem_cons.mp hx with rfl | hx
  · exact Or.inr ⟨Nat.le_refl _, A.lt⟩
  · exact Or.inl hx
theorem fitc {xs : List Int32} {cl : Cell} {ty : FieldType} (A : Arr Z h a cl ty) (r : cl.slots = (xs.map Value.int).toArray) (hf : ∀ x ∈ xs, fits ty (.int x) = true) : FitC Z cl := fun i v hv => by
  obtain ⟨hs, k, hk, comp, hkind⟩ := A.2.1
  rw [r] at hv
  have hv' : (xs.map Value.int)[i]? = some v := by simpa using hv
  obtain ⟨x, hx, rfl⟩ := List.mem_map.mp (List.mem_of_getElem? hv')
  simp [State.fitsSlot, State.slotType?, hk, hkind, hf x hx]
/-- clone of an array -/
theorem WP.clone {ad : String} {ty : FieldType} {xs : List Int32} {N : Nat} (w1 : (Jvm.Cond.methodLink own idx ⟨ad, "clone", "()Ljava/lang/Object;"⟩).before a0 Z = true) (w2 : (Jvm.Cond.sameMethod ad "java/lang/Object" "clone" "()Ljava/lang/Object;").before a0 Z = true) (w3 : (Jvm.Cond.native ⟨"java/lang/Object", "clone", "()Ljava/lang/Object;"⟩).before a0 Z = true)
    (w4 : (Jvm.Cond.instanceMethod ⟨"java/lang/Object", "clone", "()Ljava/lang/Object;"⟩).before a0 Z = true) (w5 : (Jvm.Cond.selects ad ⟨ad, "clone", "()Ljava/lang/Object;"⟩ ⟨"java/lang/Object", "clone", "()Ljava/lang/Object;"⟩).before a0 Z = true) (w6 : (Jvm.Cond.castable ad "java/lang/Cloneable").before a0 Z = true)
    (hd : decode code pc = .ok (.invokevirtual idx, 3)) (A : ArI Z h a ty xs) (E : Exa Z h a ad) (hfx : ∀ x ∈ xs, fits ty (.int x) = true) (hLs : Ls.length = maxL) (hf : 1 ≤ R.frames) {W : Nat} (hW : (rest.map fun v => v.category).sum ≤ W) (hlo : W + 14 ≤ R.locals) (hN : xs.length ≤ N) (hc : ce + 1 ≤ R.cells) (hl : sl + N ≤ R.slots) (hp : pc + 3 = pc')
    (K : ∀ h' b, b = h.size → b ∉ mine → h0.size ≤ b → Ext h h' → ArI Z h' b ty xs → Exa Z h' b ad → WP own code maxL ret nm R Z L h0 ws mine0 Q (b :: mine) (ce + 1) (sl + N) h' pc' Ls (.ref b :: rest)) : WP own code maxL ret nm R Z L h0 ws mine0 Q mine ce sl h pc Ls (.ref a :: rest) := by
  intro p l e s m args below meth c B T locs X hT
  subst hp
  obtain ⟨cl, A', r1, r2⟩ := A
  obtain ⟨T', h', Y, eT, E', A2, E2, st⟩ := cloneA X.1 B.1 X.warm (X.hown B) w1 w2 w3 w4 w5 w6 hT A' E (fitc A' r1 hfx) (g := mkF m pc Ls.toArray (.ref a :: rest)) rfl (by simp [hLs, B.2.2.1]) rfl (hb B.2.1 hd) hf (W := W) (by simpa using hW) hlo (cap := N) (by rw [r1]; simpa using hN) hc hl
  subst hT
  subst eT
  have A3 : ArI Z T'.heap T.heap.size ty xs := ⟨_, A2, r1, r2⟩
  refine (K _ _ rfl (fun hx => absurd (X.2.2.2.2.2.2.1 _ hx).2 (Nat.lt_irrefl _)) X.2.2.2.1.1 E' A3 E2 p l e s m args below meth c B T' _ (X.rebase Y X.2.2.1 E'.1 (fun x c hc hx => E'.2 _ _ hc) (fun x hx => ?_) (X.2.2.2.1.ext E')) rfl).step st
  rcases List.mem_cons.mp hx with rfl | hx
  · exact Or.inr ⟨Nat.le_refl _, A2.lt⟩
  · exact Or.inl hx
theorem lsw {tb : Tables} [Ours tb] {e : Env} {below : List Frame} {T target : State} {m : MethodId} {c : Code} {g : JFrame} (h : At T m c below) (hx : tb.exec = Jvm.exec) (hg : g.method = m) {dflt : Int} {pairs : Array (Int × Int)} {len : Nat} {o : Int} {pc0 pc' : Nat} (hpc : g.pc = pc0) (hd : decode c.code g.pc = .ok (.lookupswitch dflt pairs, len)) {i : Int32} {rest : List Value} (hs : g.stack = .int i :: rest)
    (hord : (pairs.toList.zip (pairs.toList.drop 1)).all (fun (a, next) => a.1 < next.1) = true) {k : Int} (hoff : pairs.find? (fun x => x.fst == i.toInt) = some (k, o)) (ho : 0 ≤ (pc0 : Int) + o) (hp : ((pc0 : Int) + o).toNat = pc')
    (hr : Steps tb e below (T.setTop { g with pc := pc', stack := rest }) target) : Steps tb e below (T.setTop g) target := by
  subst hg hpc hp
  jvm_step h [h.top, hx, hd, hs, hoff, ho, lookupswitch.wp_whole]
  exact ⟨by simpa using hord, hr⟩
theorem WP.lsw {dflt : Int} {pairs : Array (Int × Int)} {len : Nat} {o : Int} {i : Int32} (hd : decode code pc = .ok (.lookupswitch dflt pairs, len)) (hord : (pairs.toList.zip (pairs.toList.drop 1)).all (fun (a, next) => a.1 < next.1) = true) {k : Int} (hoff : pairs.find? (fun x => x.fst == i.toInt) = some (k, o)) (ho : 0 ≤ (pc : Int) + o) (hp : ((pc : Int) + o).toNat = pc')
    (K : WP own code maxL ret nm R Z L h0 ws mine0 Q mine ce sl h pc' Ls rest) : WP own code maxL ret nm R Z L h0 ws mine0 Q mine ce sl h pc Ls (.int i :: rest) :=
  K.pure1 fun p e below T m c t h hx hc hr => Jvm.OwnW.lsw h hx rfl rfl (hb hc hd) rfl hord hoff ho hp hr
end More
end Jvm.OwnW
namespace Jvm.Pilot.@@N@@
open Jvm Jvm.ClassFile Sem Op Lib Jvm.Free Jvm.Stand Jvm.LawKit Jvm.RoadKit Bundle Jvm.Pilot.@@N@@.Jvm.D Jvm.OwnW
def LT : Lits := [("com/example/orunmila/orunmila/Location", 7, "source"), ("com/example/orunmila/orunmila/Location", 35, ":"), ("java/lang/String", 7, "")]
theorem pdx0 : parseMethodDescriptor "([CI[BII)I" = some ⟨[(.array .char), .int, (.array .byte), .int, .int], some .int⟩ := by decide +kernel
theorem pdx1 : parseMethodDescriptor "([CII)[B" = some ⟨[(.array .char), .int, .int], some (.array .byte)⟩ := by decide +kernel
theorem pdx2 : parseMethodDescriptor "([BI)B" = some ⟨[(.array .byte), .int], some .byte⟩ := by decide +kernel
theorem pdx3 : parseMethodDescriptor "([CIILjava/lang/Void;)V" = some ⟨[(.array .char), .int, .int, (.object "java/lang/Void")], none⟩ := by decide +kernel
theorem atoms {Z : State} {a0 : Array Value} (hw : ∀ d ∈ tables_1, d.before a0 Z = true) : ∀ a ∈ Bundle.stringAtoms, a.before a0 Z = true := by
  intro a ha
  simp only [Bundle.stringAtoms, Bundle.sN, List.mem_cons, List.not_mem_nil, or_false] at ha
  rcases ha with rfl | rfl | rfl | rfl | rfl | rfl | rfl
  all_goals first | exact (hw _ (List.mem_of_getElem? (i := 3) rfl)) | exact (hw _ (List.mem_of_getElem? (i := 4) rfl)) | exact (hw _ (List.mem_of_getElem? (i := 20) rfl)) | exact (hw _ (List.mem_of_getElem? (i := 30) rfl)) | exact (hw _ (List.mem_of_getElem? (i := 28) rfl)) | exact (hw _ (List.mem_of_getElem? (i := 44) rfl)) | exact (hw _ (List.mem_of_getElem? (i := 45) rfl))
def Compact (Z : State) (cz : Int32) : Prop := Sta Z Z.heap "java/lang/String" "COMPACT_STRINGS" "Z" (.int cz) ∧ ¬ cz = 0
def U16 (Z : State) : Prop := Sta Z Z.heap "java/lang/StringUTF16" "$assertionsDisabled" "Z" (.int 1) ∧ Sta Z Z.heap "java/lang/StringUTF16" "HI_BYTE_SHIFT" "I" (.int 0) ∧ Sta Z Z.heap "java/lang/StringUTF16" "LO_BYTE_SHIFT" "I" (.int 8)
abbrev HuA (Z : State) (us : List UInt16) : Prop := lat us = true
abbrev Hu (Z : State) (us : List UInt16) : Prop := HuA Z us
theorem Hu.a {Z : State} {us : List UInt16} (h : Hu Z us) : HuA Z us := h
def cu (x : Int32) : UInt16 := x.toUInt32.toUInt16
theorem lat_cu (a : Int32) : cu (a &&& 255) < 256 := by
  have m := c_mask a 255 8 (by decide) (by decide)
  have e := chv_toInt (cu (a &&& 255))
  have q := c_i2c (a &&& 255)
  rw [show ((a &&& 255).toUInt32.toUInt16.toUInt32.toInt32) = chv (cu (a &&& 255)) from rfl] at q
  rw [UInt16.lt_iff_toNat_lt]
  show _ < 256
  omega
abbrev R0 : Room := { frames := 0, cells := 0, slots := 0, locals := 0 }
section JdkStr
variable {Z : State} {a0 : Array Value} {h : Heap} {mine : List Addr}

theorem dCP5_0 : decode jdk_52_method_21_code 0 = .ok (.iconst 0, 1) := by decide +kernel
theorem dCP5_1 : decode jdk_52_method_21_code 1 = .ok (.istore 5, 2) := by decide +kernel
theorem dCP5_3 : decode jdk_52_method_21_code 3 = .ok (.iload 5, 2) := by decide +kernel
theorem dCP5_5 : decode jdk_52_method_21_code 5 = .ok (.iload 4, 2) := by decide +kernel
theorem dCP5_7 : decode jdk_52_method_21_code 7 = .ok (.if_icmp .ge 37, 3) := by decide +kernel
theorem dCP5_10 : decode jdk_52_method_21_code 10 = .ok (.aload_n 0, 1) := by decide +kernel
theorem dCP5_11 : decode jdk_52_method_21_code 11 = .ok (.iload_n 1, 1) := by decide +kernel
theorem dCP5_12 : decode jdk_52_method_21_code 12 = .ok (.caload, 1) := by decide +kernel
theorem dCP5_13 : decode jdk_52_method_21_code 13 = .ok (.istore 6, 2) := by decide +kernel
theorem dCP5_15 : decode jdk_52_method_21_code 15 = .ok (.iload 6, 2) := by decide +kernel
theorem dCP5_17 : decode jdk_52_method_21_code 17 = .ok (.sipush 255, 3) := by decide +kernel
theorem dCP5_20 : decode jdk_52_method_21_code 20 = .ok (.if_icmp .le 6, 3) := by decide +kernel
theorem dCP5_23 : decode jdk_52_method_21_code 23 = .ok (.iload 5, 2) := by decide +kernel
theorem dCP5_25 : decode jdk_52_method_21_code 25 = .ok (.ireturn, 1) := by decide +kernel
theorem dCP5_26 : decode jdk_52_method_21_code 26 = .ok (.aload_n 2, 1) := by decide +kernel
theorem dCP5_27 : decode jdk_52_method_21_code 27 = .ok (.iload_n 3, 1) := by decide +kernel
theorem dCP5_28 : decode jdk_52_method_21_code 28 = .ok (.iload 6, 2) := by decide +kernel
theorem dCP5_30 : decode jdk_52_method_21_code 30 = .ok (.i2b, 1) := by decide +kernel
theorem dCP5_31 : decode jdk_52_method_21_code 31 = .ok (.bastore, 1) := by decide +kernel
theorem dCP5_32 : decode jdk_52_method_21_code 32 = .ok (.iinc 1 1, 3) := by decide +kernel
theorem dCP5_35 : decode jdk_52_method_21_code 35 = .ok (.iinc 3 1, 3) := by decide +kernel
theorem dCP5_38 : decode jdk_52_method_21_code 38 = .ok (.iinc 5 1, 3) := by decide +kernel
theorem dCP5_41 : decode jdk_52_method_21_code 41 = .ok (.goto (-38), 3) := by decide +kernel
theorem dCP5_44 : decode jdk_52_method_21_code 44 = .ok (.iload 4, 2) := by decide +kernel
theorem dCP5_46 : decode jdk_52_method_21_code 46 = .ok (.ireturn, 1) := by decide +kernel
theorem pnCP5 : plainFor (⟨"java/lang/StringUTF16", "compress", "([CI[BII)I"⟩ : MethodName) = true := plainFor_of_name (by first | (simp [plainName, overriddenIn]; done) | decide +kernel)
set_option maxRecDepth 65536 in
set_option maxHeartbeats 40000000 in
theorem loop_CP5 {us : List UInt16} {xs : List Int32} {b d : Addr} {bs : List Int32} {off : Nat} (hx : xs.length = us.length) (hsub : SubC bs off us) (hbl : bs.length < 2 ^ 31) (hn : us.length < 2 ^ 31) (hm : d ∈ mine) (hbd : b ≠ d) :
    ∀ (r i : Nat), i + r = us.length → ∀ (h' : Heap) (o : Slot), one (some o) = true → ArI Z h' b .char bs → ArI Z h' d .byte ((us.take i).map lo8 ++ xs.drop i) → (∀ (j : Nat) (u : UInt16), j < i → us[j]? = some u → u < 256) →
    WP "java/lang/StringUTF16" jdk_52_method_21_code 7 (some .int) "compress" R0 Z LT h [d] mine (fun v h' nw => nw = [] ∧ ((lat us = true ∧ v = some (.int (Int32.ofNat us.length)) ∧ ArI Z h' d .byte (us.map lo8)) ∨ (lat us = false ∧ ∃ (k : Nat) (u : UInt16), us[k]? = some u ∧ ¬ u < 256 ∧ v = some (.int (Int32.ofNat k))))) mine 0 0 h' 3 [.val (.ref b), .val (.int (Int32.ofNat (off + i))), .val (.ref d), .val (.int (Int32.ofNat i)), .val (.int (Int32.ofNat us.length)), .val (.int (Int32.ofNat i)), o] [] := by
  intro r
  induction r with
  | zero =>
    intro i hi h' o ho A D hlt
    obtain rfl : i = us.length := by omega
    refine WP.iload (pc' := 5) dCP5_3 rfl rfl ?_
    refine WP.iload (pc' := 7) dCP5_5 rfl rfl ?_
    refine WP.icmpT (pc' := 44) dCP5_7 (by decide) (by decide) (fun q => Nat.lt_irrefl _ ((n32_lt hn hn).mp q)) ?_
    refine WP.iload (pc' := 46) dCP5_44 rfl rfl ?_
    refine WP.ireturn dCP5_46 rfl (Or.inl rfl) rfl ⟨rfl, Or.inl ⟨(lat_iff us).mpr fun j u hu => hlt j u (List.getElem?_eq_some_iff.mp hu).1 hu, rfl, ?_⟩⟩ (fun _ hx => nomatch hx) (fun _ hx => hx) (Nat.le_refl _) (Nat.le_refl _)
    have e : (us.take us.length).map lo8 ++ xs.drop us.length = us.map lo8 := by rw [List.take_length, ← hx, List.drop_length, List.append_nil]
    rw [e] at D; exact D
  | succ r ih =>
    intro i hi h' o ho A D hlt
    have hil : i < us.length := by omega
    obtain ⟨u, hu⟩ : ∃ u, us[i]? = some u := ⟨us[i], List.getElem?_eq_getElem hil⟩
    have hi31 : i < 2 ^ 31 := by omega
    have hoff := hsub.1
    refine WP.iload (pc' := 5) dCP5_3 rfl rfl ?_
    refine WP.iload (pc' := 7) dCP5_5 rfl rfl ?_
    refine WP.icmpF (pc' := 10) dCP5_7 rfl ((n32_lt hi31 hn).mpr hil) ?_
    refine WP.aloadN (pc' := 11) dCP5_10 rfl rfl rfl ?_
    refine WP.iloadN (pc' := 12) dCP5_11 rfl rfl ?_
    refine WP.caload (pc' := 13) dCP5_12 A (n32_toInt (by omega)) (x := chv u) (hsub.2 i u hu) rfl ?_
    refine WP.istore (pc' := 15) dCP5_13 ho rfl rfl ?_
    dsimp only [List.set]
    refine WP.iload (pc' := 17) dCP5_15 rfl rfl ?_
    refine WP.sipush (pc' := 20) (x := 255) dCP5_17 (by decide) rfl ?_
    by_cases h256 : u < 256
    · refine WP.icmpT (pc' := 26) dCP5_20 (by decide) (by decide) (fun q => (chv_gt u).mp q h256) ?_
      refine WP.aloadN (pc' := 27) dCP5_26 rfl rfl rfl ?_
      refine WP.iloadN (pc' := 28) dCP5_27 rfl rfl ?_
      refine WP.iload (pc' := 30) dCP5_28 rfl rfl ?_
      refine WP.i2b (pc' := 31) dCP5_30 rfl ?_
      refine WP.bastore (pc' := 32) dCP5_31 D (n32_toInt hi31) (by simp; omega) hm (Or.inl (List.mem_singleton.mpr rfl)) rfl ?_
      intro h2 W D2
      refine WP.iinc (pc' := 35) dCP5_32 rfl rfl rfl rfl ?_
      dsimp only [List.set]
      refine WP.iinc (pc' := 38) dCP5_35 rfl rfl rfl rfl ?_
      dsimp only [List.set]
      refine WP.iinc (pc' := 41) dCP5_38 rfl rfl rfl rfl ?_
      dsimp only [List.set]
      refine WP.goto (pc' := 3) dCP5_41 (by decide) (by decide) ?_
      have e1 : nar .byte ((chv u).toInt8.toInt32) = lo8 u := by rw [nar_i2b]; exact chv_lo8 u
      rw [e1, take_set (by simp; omega) (by simp; omega), List.drop_drop] at D2
      have e2 : (us.take (i + 1)).map lo8 ++ xs.drop (i + 1) = (us.take i).map lo8 ++ lo8 u :: xs.drop (i + 1) := by rw [take_succ' hu]; simp
      rw [show Int32.ofNat i + Int32.ofInt 1 = Int32.ofNat (i + 1) from n32_succ i, show Int32.ofNat (off + i) + Int32.ofInt 1 = Int32.ofNat (off + (i + 1)) from n32_succ (off + i)]
      refine ih (i + 1) (by omega) h2 _ rfl (A.other W hbd) (by rw [e2]; exact D2) fun j v hj hv => ?_
      rcases Nat.lt_succ_iff_lt_or_eq.mp hj with q | rfl
      · exact hlt j v q hv
      · cases hu.symm.trans hv; exact h256
    · refine WP.icmpF (pc' := 23) dCP5_20 rfl ((chv_gt u).mpr h256) ?_
      refine WP.iload (pc' := 25) dCP5_23 rfl rfl ?_
      refine WP.ireturn dCP5_25 rfl (Or.inl rfl) rfl ⟨rfl, Or.inr ⟨?_, i, u, hu, h256, rfl⟩⟩ (fun _ hx => nomatch hx) (fun _ hx => hx) (Nat.le_refl _) (Nat.le_refl _)
      exact Bool.eq_false_iff.mpr fun q => h256 ((lat_iff us).mp q i u hu)

set_option maxRecDepth 65536 in
set_option maxHeartbeats 40000000 in
theorem con_CP5 {us : List UInt16} {xs bs : List Int32} {off : Nat} {b d : Addr} (hsub : SubC bs off us) (A : ArI Z h b .char bs) (D : ArI Z h d .byte xs) (hx : xs.length = us.length) (hm : d ∈ mine) :
    Con (⟨"java/lang/StringUTF16", "compress", "([CI[BII)I"⟩ : MethodName) jdk_52_method_21_code 7 (some .int) R0 Z LT [] #[.ref b, .int (Int32.ofNat off), .ref d, .int 0, .int (Int32.ofNat us.length)] h [d] mine (fun v h' nw => nw = [] ∧ ((lat us = true ∧ v = some (.int (Int32.ofNat us.length)) ∧ ArI Z h' d .byte (us.map lo8)) ∨ (lat us = false ∧ ∃ (k : Nat) (u : UInt16), us[k]? = some u ∧ ¬ u < 256 ∧ v = some (.int (Int32.ofNat k))))) := by
  refine Con.of pnCP5 (Ls := [.val (.ref b), .val (.int (Int32.ofNat off)), .val (.ref d), .val (.int 0), .val (.int (Int32.ofNat us.length)), .unset, .unset]) (fun m => by first | (simp [entryFrame, mkF, argsToLocals, Value.category]; done) | (simp [entryFrame, mkF, argsToLocals, Value.category, maxLocals]; done) | rfl) ?_
  refine WP.iconst (pc' := 1) (x := 0) dCP5_0 (by decide) rfl ?_
  refine WP.istore (pc' := 3) dCP5_1 rfl rfl rfl ?_
  dsimp only [List.set]
  have hn : us.length < 2 ^ 31 := by have := A.len; have := hsub.1; omega
  exact loop_CP5 hx hsub A.len hn hm (A.ne D (by decide)) us.length 0 (by omega) h .unset rfl A (by simpa using D) (fun j u hj => absurd hj (Nat.not_lt_zero _))
theorem dCL_0 : decode jdk_52_method_15_code 0 = .ok (.iload_n 1, 1) := by decide +kernel
theorem dCL_1 : decode jdk_52_method_15_code 1 = .ok (.aload_n 0, 1) := by decide +kernel
theorem dCL_2 : decode jdk_52_method_15_code 2 = .ok (.arraylength, 1) := by decide +kernel
theorem dCL_3 : decode jdk_52_method_15_code 3 = .ok (.isub, 1) := by decide +kernel
theorem dCL_4 : decode jdk_52_method_15_code 4 = .ok (.bipush 31, 2) := by decide +kernel
theorem dCL_6 : decode jdk_52_method_15_code 6 = .ok (.iushr, 1) := by decide +kernel
theorem dCL_7 : decode jdk_52_method_15_code 7 = .ok (.i2b, 1) := by decide +kernel
theorem dCL_8 : decode jdk_52_method_15_code 8 = .ok (.ireturn, 1) := by decide +kernel
theorem pnCL : plainFor (⟨"java/lang/StringUTF16", "coderFromArrayLen", "([BI)B"⟩ : MethodName) = true := plainFor_of_name (by first | (simp [plainName, overriddenIn]; done) | decide +kernel)
set_option maxRecDepth 65536 in
set_option maxHeartbeats 40000000 in
theorem con_CL {us : List UInt16} {t : Addr} {xs : List Int32} (T : ArI Z h t .byte xs) (hn : us.length < 2 ^ 31) (ht : (lat us = true ∧ xs = us.map lo8) ∨ (lat us = false ∧ xs = b16 us)) : Con (⟨"java/lang/StringUTF16", "coderFromArrayLen", "([BI)B"⟩ : MethodName) jdk_52_method_15_code 2 (some .byte) R0 Z LT [] #[.ref t, .int (Int32.ofNat us.length)] h [] mine (fun v h' nw => nw = [] ∧ v = some (.int (if lat us = true then 0 else 1)) ∧ h' = h) := by
  have hl := T.len
  refine Con.of pnCL (Ls := [.val (.ref t), .val (.int (Int32.ofNat us.length))]) (fun m => by first | (simp [entryFrame, mkF, argsToLocals, Value.category]; done) | (simp [entryFrame, mkF, argsToLocals, Value.category, maxLocals]; done) | rfl) ?_
  refine WP.iloadN (pc' := 1) dCL_0 rfl rfl ?_
  refine WP.aloadN (pc' := 2) dCL_1 rfl rfl rfl ?_
  refine WP.arraylength (pc' := 3) dCL_2 T rfl rfl ?_
  refine WP.isub (pc' := 4) dCL_3 rfl ?_
  refine WP.bipush (pc' := 6) (x := 31) dCL_4 (by decide) rfl ?_
  refine WP.iushr (pc' := 7) dCL_6 rfl ?_
  refine WP.i2b (pc' := 8) dCL_7 rfl ?_
  have e : ((Int32.ofNat us.length - Int32.ofNat xs.length).toUInt32 >>> ((31 : Int32) &&& 31).toUInt32).toInt32.toInt8.toInt32 = if lat us = true then 0 else 1 := by
    have s := c_iushr (Int32.ofNat us.length - Int32.ofNat xs.length) 31 31 (by decide) (by decide)
    have d := c_isub (Int32.ofNat us.length) (Int32.ofNat xs.length)
    have r := rng32 (Int32.ofNat us.length - Int32.ofNat xs.length)
    rw [n32_toInt hn, n32_toInt hl] at d
    have b := c_i2b ((Int32.ofNat us.length - Int32.ofNat xs.length).toUInt32 >>> ((31 : Int32) &&& 31).toUInt32).toInt32
    rcases ht with ⟨h1, rfl⟩ | ⟨h1, rfl⟩
    · rw [if_pos h1]
      simp only [List.length_map] at *
      apply Int32.toInt_inj.mp
      show _ = (0 : Int)
      omega
    · rw [if_neg (by rw [h1]; decide)]
      rw [b16_len] at *
      have : 0 < us.length := by
        rcases us with _ | ⟨u, us⟩
        · cases h1
        · simp
      apply Int32.toInt_inj.mp
      show _ = (1 : Int)
      omega
  rw [e]
  exact WP.ireturn dCL_8 rfl (by simp) (by split <;> rfl) ⟨rfl, rfl, rfl⟩ (fun _ hx => nomatch hx) (fun _ hx => hx) (Nat.le_refl _) (Nat.le_refl _)
theorem dCP3_0 : decode jdk_52_method_16_code 0 = .ok (.iload_n 2, 1) := by decide +kernel
theorem dCP3_1 : decode jdk_52_method_16_code 1 = .ok (.newarray .byte, 2) := by decide +kernel
theorem dCP3_3 : decode jdk_52_method_16_code 3 = .ok (.astore_n 3, 1) := by decide +kernel
theorem dCP3_4 : decode jdk_52_method_16_code 4 = .ok (.aload_n 0, 1) := by decide +kernel
theorem dCP3_5 : decode jdk_52_method_16_code 5 = .ok (.iload_n 1, 1) := by decide +kernel
theorem dCP3_6 : decode jdk_52_method_16_code 6 = .ok (.aload_n 3, 1) := by decide +kernel
theorem dCP3_7 : decode jdk_52_method_16_code 7 = .ok (.iconst 0, 1) := by decide +kernel
theorem dCP3_8 : decode jdk_52_method_16_code 8 = .ok (.iload_n 2, 1) := by decide +kernel
theorem dCP3_9 : decode jdk_52_method_16_code 9 = .ok (.invokestatic 115, 3) := by decide +kernel
theorem dCP3_12 : decode jdk_52_method_16_code 12 = .ok (.istore 4, 2) := by decide +kernel
theorem dCP3_14 : decode jdk_52_method_16_code 14 = .ok (.iload 4, 2) := by decide +kernel
theorem dCP3_16 : decode jdk_52_method_16_code 16 = .ok (.iload_n 2, 1) := by decide +kernel
theorem dCP3_17 : decode jdk_52_method_16_code 17 = .ok (.if_icmp .eq 40, 3) := by decide +kernel
theorem dCP3_20 : decode jdk_52_method_16_code 20 = .ok (.aload_n 0, 1) := by decide +kernel
theorem dCP3_21 : decode jdk_52_method_16_code 21 = .ok (.iload_n 1, 1) := by decide +kernel
theorem dCP3_22 : decode jdk_52_method_16_code 22 = .ok (.iload_n 2, 1) := by decide +kernel
theorem dCP3_23 : decode jdk_52_method_16_code 23 = .ok (.invokestatic 119, 3) := by decide +kernel
theorem dCP3_26 : decode jdk_52_method_16_code 26 = .ok (.astore 5, 2) := by decide +kernel
theorem dCP3_28 : decode jdk_52_method_16_code 28 = .ok (.aload 5, 2) := by decide +kernel
theorem dCP3_30 : decode jdk_52_method_16_code 30 = .ok (.iload 4, 2) := by decide +kernel
theorem dCP3_32 : decode jdk_52_method_16_code 32 = .ok (.invokestatic 71, 3) := by decide +kernel
theorem dCP3_35 : decode jdk_52_method_16_code 35 = .ok (.sipush 255, 3) := by decide +kernel
theorem dCP3_38 : decode jdk_52_method_16_code 38 = .ok (.if_icmp .gt 16, 3) := by decide +kernel
theorem dCP3_41 : decode jdk_52_method_16_code 41 = .ok (.aload 5, 2) := by decide +kernel
theorem dCP3_43 : decode jdk_52_method_16_code 43 = .ok (.iconst 0, 1) := by decide +kernel
theorem dCP3_44 : decode jdk_52_method_16_code 44 = .ok (.aload_n 3, 1) := by decide +kernel
theorem dCP3_45 : decode jdk_52_method_16_code 45 = .ok (.iconst 0, 1) := by decide +kernel
theorem dCP3_46 : decode jdk_52_method_16_code 46 = .ok (.iload_n 2, 1) := by decide +kernel
theorem dCP3_47 : decode jdk_52_method_16_code 47 = .ok (.invokestatic 123, 3) := by decide +kernel
theorem dCP3_50 : decode jdk_52_method_16_code 50 = .ok (.iload_n 2, 1) := by decide +kernel
theorem dCP3_51 : decode jdk_52_method_16_code 51 = .ok (.if_icmp .eq 6, 3) := by decide +kernel
theorem dCP3_54 : decode jdk_52_method_16_code 54 = .ok (.aload 5, 2) := by decide +kernel
theorem dCP3_56 : decode jdk_52_method_16_code 56 = .ok (.areturn, 1) := by decide +kernel
theorem dCP3_57 : decode jdk_52_method_16_code 57 = .ok (.aload_n 3, 1) := by decide +kernel
theorem dCP3_58 : decode jdk_52_method_16_code 58 = .ok (.areturn, 1) := by decide +kernel
theorem pnCP3 : plainFor (⟨"java/lang/StringUTF16", "compress", "([CII)[B"⟩ : MethodName) = true := plainFor_of_name (by first | (simp [plainName, overriddenIn]; done) | decide +kernel)
set_option maxRecDepth 65536 in
set_option maxHeartbeats 40000000 in
theorem con_CP3 (hw : ∀ d ∈ tables_1, d.before a0 Z = true) {us : List UInt16} (hu : HuA Z us) {b : Addr} {N : Nat} {bs : List Int32} {off : Nat} (hsub : SubC bs off us) (hN : us.length ≤ N) (hn : N ≤ 33554432) (A : ArI Z h b .char bs) : Con (⟨"java/lang/StringUTF16", "compress", "([CII)[B"⟩ : MethodName) jdk_52_method_16_code 6 (some (.array .byte)) { frames := 3, cells := 2, slots := 3 * N, locals := 40 } Z LT [] #[.ref b, .int (Int32.ofNat off), .int (Int32.ofNat us.length)] h [] mine (fun v h' nw => nw = [] ∧ ∃ t, v = some (.ref t) ∧ h.size ≤ t ∧ ((lat us = true ∧ ArI Z h' t .byte (us.map lo8)) ∨ (lat us = false ∧ ArI Z h' t .byte (b16 us)))) := by
  refine Con.of pnCP3 (Ls := [.val (.ref b), .val (.int (Int32.ofNat off)), .val (.int (Int32.ofNat us.length)), .unset, .unset, .unset]) (fun m => by first | (simp [entryFrame, mkF, argsToLocals, Value.category]; done) | (simp [entryFrame, mkF, argsToLocals, Value.category, maxLocals]; done) | rfl) ?_
  refine WP.iloadN (pc' := 1) dCP3_0 rfl rfl ?_
  refine WP.newarray (pc' := 3) (N := us.length) dCP3_1 (hw _ (List.mem_of_getElem? (i := 20) rfl)) rfl (n32_toInt (by omega)) (by first | exact Nat.le_of_ble_eq_true rfl | omega | (simp; done) | (simp; omega) | (dsimp only; omega)) (by first | exact Nat.le_of_ble_eq_true rfl | omega | (simp; done) | (simp; omega) | (dsimp only; omega)) (by first | exact Nat.le_of_ble_eq_true rfl | omega | (simp; done) | (simp; omega) | (dsimp only; omega)) rfl ?_
  intro h1 t ht htm ht0 E D
  refine WP.astoreN (pc' := 4) dCP3_3 rfl rfl rfl rfl rfl ?_
  dsimp only [List.set]
  refine WP.aloadN (pc' := 5) dCP3_4 rfl rfl rfl ?_
  refine WP.iloadN (pc' := 6) dCP3_5 rfl rfl ?_
  refine WP.aloadN (pc' := 7) dCP3_6 rfl rfl rfl ?_
  refine WP.iconst (pc' := 8) (x := 0) dCP3_7 (by decide) rfl ?_
  refine WP.iloadN (pc' := 9) dCP3_8 rfl rfl ?_
  refine WP.callS (pc' := 12) (con_CP5 hsub (A.ext E) D (by simp) (List.mem_cons_self ..)) (hw _ (List.mem_of_getElem? (i := 21) rfl)) (hw _ (List.mem_of_getElem? (i := 22) rfl)) (hw _ (List.mem_of_getElem? (i := 18) rfl)) (hw _ (List.mem_of_getElem? (i := 23) rfl)) dCP3_9 (by decide) pdx0 rfl rfl rfl (by first | exact Nat.le_of_ble_eq_true rfl | omega | (simp; done) | (simp; omega) | (dsimp only; omega)) (by first | exact Nat.le_of_ble_eq_true rfl | omega | (simp; done) | (simp; omega) | (dsimp only; omega)) (by first | exact Nat.le_of_ble_eq_true rfl | omega | (simp; done) | (simp; omega) | (dsimp only; omega)) (by first | exact Nat.le_of_ble_eq_true rfl | omega | (simp; done) | (simp; omega) | (dsimp only; omega)) (fun x hx => by cases List.mem_singleton.mp hx; exact Or.inr ht0) rfl ?_
  rintro v h2 nw K hnw ⟨rfl, hq⟩
  rcases hq with ⟨hl, rfl, D2⟩ | ⟨hl, k, u, hk, hu256, rfl⟩
  · dsimp only [Option.toList, List.cons_append, List.nil_append]
    refine WP.istore (pc' := 14) dCP3_12 rfl rfl rfl ?_
    dsimp only [List.set]
    refine WP.iload (pc' := 16) dCP3_14 rfl rfl ?_
    refine WP.iloadN (pc' := 17) dCP3_16 rfl rfl ?_
    refine WP.icmpT (pc' := 57) dCP3_17 (by decide) (by decide) rfl ?_
    refine WP.aloadN (pc' := 58) dCP3_57 rfl rfl rfl ?_
    exact WP.areturn dCP3_58 rfl rfl rfl ⟨rfl, t, rfl, ht0, Or.inl ⟨hl, D2⟩⟩ (fun _ hx => nomatch hx) (fun x hx => List.mem_cons_of_mem _ hx) (by dsimp only; omega) (by dsimp only; omega)
  · exact absurd (hl.symm.trans hu) (by decide)
theorem dSI4_0 : decode jdk_42_method_149_code 0 = .ok (.aload_n 0, 1) := by decide +kernel
theorem dSI4_1 : decode jdk_42_method_149_code 1 = .ok (.invokespecial 1, 3) := by decide +kernel
theorem dSI4_4 : decode jdk_42_method_149_code 4 = .ok (.iload_n 3, 1) := by decide +kernel
theorem dSI4_5 : decode jdk_42_method_149_code 5 = .ok (.ifCond .ne 22, 3) := by decide +kernel
theorem dSI4_8 : decode jdk_42_method_149_code 8 = .ok (.aload_n 0, 1) := by decide +kernel
theorem dSI4_9 : decode jdk_42_method_149_code 9 = .ok (.ldc 7, 2) := by decide +kernel
theorem dSI4_11 : decode jdk_42_method_149_code 11 = .ok (.getfield 9, 3) := by decide +kernel
theorem dSI4_14 : decode jdk_42_method_149_code 14 = .ok (.putfield 9, 3) := by decide +kernel
theorem dSI4_17 : decode jdk_42_method_149_code 17 = .ok (.aload_n 0, 1) := by decide +kernel
theorem dSI4_18 : decode jdk_42_method_149_code 18 = .ok (.ldc 7, 2) := by decide +kernel
theorem dSI4_20 : decode jdk_42_method_149_code 20 = .ok (.getfield 15, 3) := by decide +kernel
theorem dSI4_23 : decode jdk_42_method_149_code 23 = .ok (.putfield 15, 3) := by decide +kernel
theorem dSI4_26 : decode jdk_42_method_149_code 26 = .ok (.return_, 1) := by decide +kernel
theorem dSI4_27 : decode jdk_42_method_149_code 27 = .ok (.getstatic 38, 3) := by decide +kernel
theorem dSI4_30 : decode jdk_42_method_149_code 30 = .ok (.ifCond .eq 28, 3) := by decide +kernel
theorem dSI4_33 : decode jdk_42_method_149_code 33 = .ok (.aload_n 1, 1) := by decide +kernel
theorem dSI4_34 : decode jdk_42_method_149_code 34 = .ok (.iload_n 2, 1) := by decide +kernel
theorem dSI4_35 : decode jdk_42_method_149_code 35 = .ok (.iload_n 3, 1) := by decide +kernel
theorem dSI4_36 : decode jdk_42_method_149_code 36 = .ok (.invokestatic 177, 3) := by decide +kernel
theorem dSI4_39 : decode jdk_42_method_149_code 39 = .ok (.astore 5, 2) := by decide +kernel
theorem dSI4_41 : decode jdk_42_method_149_code 41 = .ok (.aload_n 0, 1) := by decide +kernel
theorem dSI4_42 : decode jdk_42_method_149_code 42 = .ok (.aload 5, 2) := by decide +kernel
theorem dSI4_44 : decode jdk_42_method_149_code 44 = .ok (.iload_n 3, 1) := by decide +kernel
theorem dSI4_45 : decode jdk_42_method_149_code 45 = .ok (.invokestatic 47, 3) := by decide +kernel
theorem dSI4_48 : decode jdk_42_method_149_code 48 = .ok (.putfield 15, 3) := by decide +kernel
theorem dSI4_51 : decode jdk_42_method_149_code 51 = .ok (.aload_n 0, 1) := by decide +kernel
theorem dSI4_52 : decode jdk_42_method_149_code 52 = .ok (.aload 5, 2) := by decide +kernel
theorem dSI4_54 : decode jdk_42_method_149_code 54 = .ok (.putfield 9, 3) := by decide +kernel
theorem dSI4_57 : decode jdk_42_method_149_code 57 = .ok (.return_, 1) := by decide +kernel
theorem dSI4_58 : decode jdk_42_method_149_code 58 = .ok (.aload_n 0, 1) := by decide +kernel
theorem dSI4_59 : decode jdk_42_method_149_code 59 = .ok (.iconst 1, 1) := by decide +kernel
theorem dSI4_60 : decode jdk_42_method_149_code 60 = .ok (.putfield 15, 3) := by decide +kernel
theorem dSI4_63 : decode jdk_42_method_149_code 63 = .ok (.aload_n 0, 1) := by decide +kernel
theorem dSI4_64 : decode jdk_42_method_149_code 64 = .ok (.aload_n 1, 1) := by decide +kernel
theorem dSI4_65 : decode jdk_42_method_149_code 65 = .ok (.iload_n 2, 1) := by decide +kernel
theorem dSI4_66 : decode jdk_42_method_149_code 66 = .ok (.iload_n 3, 1) := by decide +kernel
theorem dSI4_67 : decode jdk_42_method_149_code 67 = .ok (.invokestatic 180, 3) := by decide +kernel
theorem dSI4_70 : decode jdk_42_method_149_code 70 = .ok (.putfield 9, 3) := by decide +kernel
theorem dSI4_73 : decode jdk_42_method_149_code 73 = .ok (.return_, 1) := by decide +kernel
theorem pnSI4 : plainFor (⟨"java/lang/String", "<init>", "([CIILjava/lang/Void;)V"⟩ : MethodName) = true := plainFor_of_name (by first | (simp [plainName, overriddenIn]; done) | decide +kernel)
set_option maxRecDepth 65536 in
set_option maxHeartbeats 40000000 in
theorem con_SI4 (hw : ∀ d ∈ tables_1, d.before a0 Z = true) {cz : Int32} (hc : Compact Z cz) {us : List UInt16} (hu : Hu Z us) {a b : Addr} {N : Nat} {bs : List Int32} {off : Nat} (hsub : SubC bs off us) (hN : us.length ≤ N) (hn : N ≤ 33554432) (E : Exa Z h a ST) (FV : Fld Z h a ST "value" "[B" .null) (FC : Fld Z h a ST "coder" "B" (.int 0)) (A : ArI Z h b .char bs) (hm : a ∈ mine) :
    Con (⟨"java/lang/String", "<init>", "([CIILjava/lang/Void;)V"⟩ : MethodName) jdk_42_method_149_code 6 none { frames := 4, cells := 4, slots := 3 * N + 8, locals := 57 } Z LT [] #[.ref a, .ref b, .int (Int32.ofNat off), .int (Int32.ofNat us.length), .null] h [a] mine (fun v h' nw => nw = [] ∧ v = none ∧ ∃ t, StrAt Z h' a t us ∧ t ∉ mine) := by
  have hl : us.length < 2 ^ 31 := by have := A.len; have := hsub.1; omega
  refine Con.of pnSI4 (Ls := [.val (.ref a), .val (.ref b), .val (.int (Int32.ofNat off)), .val (.int (Int32.ofNat us.length)), .val .null, .unset]) (fun m => by first | (simp [entryFrame, mkF, argsToLocals, Value.category]; done) | (simp [entryFrame, mkF, argsToLocals, Value.category, maxLocals]; done) | rfl) ?_
  refine WP.know fun _ _ hmine => ?_
  refine WP.aloadN (pc' := 1) dSI4_0 rfl rfl rfl ?_
  refine WP.initObj (pc' := 4) (W := 0) dSI4_1 (hw _ (List.mem_of_getElem? (i := 12) rfl)) (hw _ (List.mem_of_getElem? (i := 13) rfl)) (hw _ (List.mem_of_getElem? (i := 14) rfl)) rfl (by first | exact Nat.le_of_ble_eq_true rfl | omega | (simp; done) | (simp; omega) | (dsimp only; omega)) (by first | exact Nat.le_of_ble_eq_true rfl | omega | (simp; done) | (simp; omega) | (dsimp only; omega)) (by first | exact Nat.le_of_ble_eq_true rfl | omega | (simp; done) | (simp; omega) | (dsimp only; omega)) rfl ?_
  refine WP.iloadN (pc' := 5) dSI4_4 rfl rfl ?_
  rcases Nat.eq_zero_or_pos us.length with h0 | h0
  · obtain rfl : us = [] := List.eq_nil_of_length_eq_zero h0
    refine WP.ifF (pc' := 8) dSI4_5 rfl rfl ?_
    refine WP.aloadN (pc' := 9) dSI4_8 rfl rfl rfl ?_
    refine WP.ldcS (pc' := 11) (text := "") (n := 0) dSI4_9 (by decide) (atoms hw) (by decide) (by decide) (by decide) (by first | exact Nat.le_of_ble_eq_true rfl | omega | (simp; done) | (simp; omega) | (dsimp only; omega)) (by first | exact Nat.le_of_ble_eq_true rfl | omega | (simp; done) | (simp; omega) | (dsimp only; omega)) rfl ?_
    intro h1 q1 E1 S1
    obtain ⟨t1, S1, hq1, ht1⟩ := S1
    obtain ⟨-, V1, h1c⟩ := id S1
    have hne1 : q1 ≠ a := fun q => hq1 (q ▸ hm)
    refine WP.getfield (pc' := 14) (host := "") dSI4_11 (Or.inl (hw _ (List.mem_of_getElem? (i := 29) rfl))) Via.refl V1 rfl ?_
    refine WP.putfield (pc' := 17) (host := "") dSI4_14 (Or.inl (hw _ (List.mem_of_getElem? (i := 29) rfl))) Via.refl (FV.ext E1) (E.ext E1) (Or.inr ⟨(hw _ (List.mem_of_getElem? (i := 30) rfl)), rfl, rfl⟩) (hw _ (List.mem_of_getElem? (i := 3) rfl)) (ty := (.array .byte)) (by decide) rfl rfl hm (Or.inl (List.mem_singleton.mpr rfl)) rfl ?_
    intro h2 W2 V2 E2
    refine WP.aloadN (pc' := 18) dSI4_17 rfl rfl rfl ?_
    refine WP.ldcS (pc' := 20) (text := "") (n := 0) dSI4_18 (by decide) (atoms hw) (by decide) (by decide) (by decide) (by first | exact Nat.le_of_ble_eq_true rfl | omega | (simp; done) | (simp; omega) | (dsimp only; omega)) (by first | exact Nat.le_of_ble_eq_true rfl | omega | (simp; done) | (simp; omega) | (dsimp only; omega)) rfl ?_
    intro h3 q3 E3 S3
    obtain ⟨t3, S3, hq3, ht3⟩ := S3
    have C3 : Fld Z h3 q3 ST "coder" "B" (.int 0) := by
      rcases S3.2.2 with q | q
      · exact q.2.1
      · exact absurd q.1 (by decide)
    refine WP.getfield (pc' := 23) (host := "") dSI4_20 (Or.inl (hw _ (List.mem_of_getElem? (i := 27) rfl))) Via.refl C3 rfl ?_
    have sne : Jvm.RoadKit.slotOf Z ST "value" "[B" ≠ Jvm.RoadKit.slotOf Z ST "coder" "B" := slot_ne (Or.inr (hw _ (List.mem_of_getElem? (i := 30) rfl))) (Or.inr (hw _ (List.mem_of_getElem? (i := 28) rfl))) (by decide) (t := .array .byte) (t' := .byte) (by decide) (by decide)
    have FC2 : Fld Z h3 a ST "coder" "B" (.int 0) := ((FC.ext E1).other W2 (Or.inr (Ne.symm sne))).ext E3
    refine WP.putfield (pc' := 26) (host := "") dSI4_23 (Or.inl (hw _ (List.mem_of_getElem? (i := 27) rfl))) Via.refl FC2 (E2.ext E3) (Or.inr ⟨(hw _ (List.mem_of_getElem? (i := 28) rfl)), rfl, rfl⟩) (hw _ (List.mem_of_getElem? (i := 3) rfl)) (ty := .byte) (by decide) rfl rfl hm (Or.inl (List.mem_singleton.mpr rfl)) rfl ?_
    intro h4 W4 C4 E4
    have S1' : StrAt Z h4 q1 t1 [] := (((S1.cells (fun c hc => by have := wr_at W2 hc; obtain ⟨c', g1, -, -, -, g5, -⟩ := this; rw [← g5 hne1]; exact g1) (fun c hc => by obtain ⟨c', g1, -, -, -, g5, -⟩ := wr_at W2 hc; rw [← g5 (fun q => ht1 (q ▸ hm))]; exact g1)).cells (fun c hc => E3.2 _ _ hc) (fun c hc => E3.2 _ _ hc)).cells (fun c hc => by obtain ⟨c', g1, -, -, -, g5, -⟩ := wr_at W4 hc; rw [← g5 hne1]; exact g1) (fun c hc => by obtain ⟨c', g1, -, -, -, g5, -⟩ := wr_at W4 hc; rw [← g5 (fun q => ht1 (q ▸ hm))]; exact g1))
    refine WP.vret dSI4_26 rfl ⟨rfl, rfl, t1, ⟨E4, (V2.ext E3).other W4 (Or.inr sne), Or.inl ⟨rfl, C4, ?_⟩⟩, ht1⟩ (fun _ hx => nomatch hx) (fun _ hx => hx) (by dsimp only; omega) (by dsimp only; omega)
    rcases S1'.2.2 with q | q
    · exact q.2.2
    · exact absurd q.1 (by decide)
  · refine WP.ifT (pc' := 27) dSI4_5 (by decide) (by decide) (fun q => by rw [show (0 : Int32) = Int32.ofNat 0 from rfl, n32_eq hl (by omega)] at q; omega) ?_
    refine WP.getstatic (pc' := 30) (host := "") dSI4_27 (Or.inl (hw _ (List.mem_of_getElem? (i := 15) rfl))) Via.refl hc.1 rfl ?_
    refine WP.ifF (pc' := 33) dSI4_30 rfl hc.2 ?_
    refine WP.aloadN (pc' := 34) dSI4_33 rfl rfl rfl ?_
    refine WP.iloadN (pc' := 35) dSI4_34 rfl rfl ?_
    refine WP.iloadN (pc' := 36) dSI4_35 rfl rfl ?_
    refine WP.callS (pc' := 39) (con_CP3 hw hu.a hsub hN hn A) (hw _ (List.mem_of_getElem? (i := 16) rfl)) (hw _ (List.mem_of_getElem? (i := 17) rfl)) (hw _ (List.mem_of_getElem? (i := 18) rfl)) (hw _ (List.mem_of_getElem? (i := 19) rfl)) dSI4_36 (by decide) pdx1 rfl rfl rfl (by first | exact Nat.le_of_ble_eq_true rfl | omega | (simp; done) | (simp; omega) | (dsimp only; omega)) (by first | exact Nat.le_of_ble_eq_true rfl | omega | (simp; done) | (simp; omega) | (dsimp only; omega)) (by first | exact Nat.le_of_ble_eq_true rfl | omega | (simp; done) | (simp; omega) | (dsimp only; omega)) (by first | exact Nat.le_of_ble_eq_true rfl | omega | (simp; done) | (simp; omega) | (dsimp only; omega)) (fun _ hx => nomatch hx) rfl ?_
    rintro v h1 nw K1 hnw ⟨rfl, t, rfl, ht, hT⟩
    dsimp only [Option.toList, List.cons_append, List.nil_append]
    refine WP.astore (pc' := 41) dSI4_39 rfl rfl rfl rfl rfl ?_
    dsimp only [List.set]
    refine WP.aloadN (pc' := 42) dSI4_41 rfl rfl rfl ?_
    refine WP.aload (pc' := 44) dSI4_42 rfl rfl rfl ?_
    refine WP.iloadN (pc' := 45) dSI4_44 rfl rfl ?_
    obtain ⟨xs, T, hxs⟩ : ∃ xs, ArI Z h1 t .byte xs ∧ ((lat us = true ∧ xs = us.map lo8) ∨ (lat us = false ∧ xs = b16 us)) := by
      rcases hT with ⟨q1, q2⟩ | ⟨q1, q2⟩
      · exact ⟨_, q2, Or.inl ⟨q1, rfl⟩⟩
      · exact ⟨_, q2, Or.inr ⟨q1, rfl⟩⟩
    have hta : t ≠ a := fun q => absurd E.lt (Nat.not_lt.mpr (q ▸ ht))
    refine WP.callS (pc' := 48) (con_CL T hl hxs) (hw _ (List.mem_of_getElem? (i := 24) rfl)) (hw _ (List.mem_of_getElem? (i := 25) rfl)) (hw _ (List.mem_of_getElem? (i := 18) rfl)) (hw _ (List.mem_of_getElem? (i := 26) rfl)) dSI4_45 (by decide) pdx2 rfl rfl rfl (by first | exact Nat.le_of_ble_eq_true rfl | omega | (simp; done) | (simp; omega) | (dsimp only; omega)) (by first | exact Nat.le_of_ble_eq_true rfl | omega | (simp; done) | (simp; omega) | (dsimp only; omega)) (by first | exact Nat.le_of_ble_eq_true rfl | omega | (simp; done) | (simp; omega) | (dsimp only; omega)) (by first | exact Nat.le_of_ble_eq_true rfl | omega | (simp; done) | (simp; omega) | (dsimp only; omega)) (fun _ hx => nomatch hx) rfl ?_
    rintro v h2 nw K2 hnw2 ⟨rfl, rfl, rfl⟩
    dsimp only [Option.toList, List.cons_append, List.nil_append]
    have E1 := E.keep K1
    refine WP.putfield (pc' := 51) (host := "") dSI4_48 (Or.inl (hw _ (List.mem_of_getElem? (i := 27) rfl))) Via.refl (FC.keep K1 nin0) E1 (Or.inr ⟨(hw _ (List.mem_of_getElem? (i := 28) rfl)), rfl, rfl⟩) (hw _ (List.mem_of_getElem? (i := 3) rfl)) (ty := .byte) (by decide) (by split <;> rfl) (by split <;> rfl) hm (Or.inl (List.mem_singleton.mpr rfl)) rfl ?_
    intro h3 W3 C3 E3
    refine WP.aloadN (pc' := 52) dSI4_51 rfl rfl rfl ?_
    refine WP.aload (pc' := 54) dSI4_52 rfl rfl rfl ?_
    have sne : Jvm.RoadKit.slotOf Z ST "value" "[B" ≠ Jvm.RoadKit.slotOf Z ST "coder" "B" := slot_ne (Or.inr (hw _ (List.mem_of_getElem? (i := 30) rfl))) (Or.inr (hw _ (List.mem_of_getElem? (i := 28) rfl))) (by decide) (t := .array .byte) (t' := .byte) (by decide) (by decide)
    refine WP.putfield (pc' := 57) (host := "") dSI4_54 (Or.inl (hw _ (List.mem_of_getElem? (i := 29) rfl))) Via.refl ((FV.keep K1 nin0).other W3 (Or.inr sne)) E3 (Or.inr ⟨(hw _ (List.mem_of_getElem? (i := 30) rfl)), rfl, rfl⟩) (hw _ (List.mem_of_getElem? (i := 3) rfl)) (ty := (.array .byte)) (by decide) rfl rfl hm (Or.inl (List.mem_singleton.mpr rfl)) rfl ?_
    intro h4 W4 V4 E4
    refine WP.vret dSI4_57 rfl ⟨rfl, rfl, t, ⟨E4, V4, ?_⟩, fun q => ?_⟩ (fun _ hx => nomatch hx) (fun _ hx => hx) (by dsimp only; omega) (by dsimp only; omega)
    · have T4 : ArI Z h4 t .byte xs := (T.other W3 hta).other W4 hta
      rcases hxs with ⟨q1, rfl⟩ | ⟨q1, rfl⟩
      · rw [if_pos q1] at C3
        exact Or.inl ⟨q1, C3.other W4 (Or.inr (Ne.symm sne)), T4⟩
      · rw [if_neg (by rw [q1]; decide)] at C3
        exact Or.inr ⟨q1, C3.other W4 (Or.inr (Ne.symm sne)), T4⟩
    · exact absurd (hmine t q).2 (Nat.not_lt.mpr ht)
theorem dSI1_0 : decode jdk_42_method_3_code 0 = .ok (.aload_n 0, 1) := by decide +kernel
theorem dSI1_1 : decode jdk_42_method_3_code 1 = .ok (.aload_n 1, 1) := by decide +kernel
theorem dSI1_2 : decode jdk_42_method_3_code 2 = .ok (.iconst 0, 1) := by decide +kernel
theorem dSI1_3 : decode jdk_42_method_3_code 3 = .ok (.aload_n 1, 1) := by decide +kernel
theorem dSI1_4 : decode jdk_42_method_3_code 4 = .ok (.arraylength, 1) := by decide +kernel
theorem dSI1_5 : decode jdk_42_method_3_code 5 = .ok (.aconst_null, 1) := by decide +kernel
theorem dSI1_6 : decode jdk_42_method_3_code 6 = .ok (.invokespecial 27, 3) := by decide +kernel
theorem dSI1_9 : decode jdk_42_method_3_code 9 = .ok (.return_, 1) := by decide +kernel
theorem pnSI1 : plainFor (⟨"java/lang/String", "<init>", "([C)V"⟩ : MethodName) = true := plainFor_of_name (by first | (simp [plainName, overriddenIn]; done) | decide +kernel)
set_option maxRecDepth 65536 in
set_option maxHeartbeats 40000000 in
theorem con_SI1 (hw : ∀ d ∈ tables_1, d.before a0 Z = true) {cz : Int32} (hc : Compact Z cz) {us : List UInt16} (hu : Hu Z us) {a b : Addr} {N : Nat} (hN : us.length ≤ N) (hn : N ≤ 33554432) (E : Exa Z h a ST) (FV : Fld Z h a ST "value" "[B" .null) (FC : Fld Z h a ST "coder" "B" (.int 0)) (A : ArI Z h b .char (us.map chv)) (hm : a ∈ mine) :
    Con (⟨"java/lang/String", "<init>", "([C)V"⟩ : MethodName) jdk_42_method_3_code 2 none { frames := 5, cells := 4, slots := 3 * N + 8, locals := 74 } Z LT [] #[.ref a, .ref b] h [a] mine (fun v h' nw => nw = [] ∧ v = none ∧ ∃ t, StrAt Z h' a t us ∧ t ∉ mine) := by
  refine Con.of pnSI1 (Ls := [.val (.ref a), .val (.ref b)]) (fun m => by first | (simp [entryFrame, mkF, argsToLocals, Value.category]; done) | (simp [entryFrame, mkF, argsToLocals, Value.category, maxLocals]; done) | rfl) ?_
  refine WP.aloadN (pc' := 1) dSI1_0 rfl rfl rfl ?_
  refine WP.aloadN (pc' := 2) dSI1_1 rfl rfl rfl ?_
  refine WP.iconst (pc' := 3) (x := 0) dSI1_2 (by decide) rfl ?_
  refine WP.aloadN (pc' := 4) dSI1_3 rfl rfl rfl ?_
  refine WP.arraylength (pc' := 5) dSI1_4 A (n := Int32.ofNat us.length) (by simp) rfl ?_
  refine WP.aconstNull (pc' := 6) dSI1_5 rfl ?_
  refine WP.callSp (pc' := 9) (con_SI4 (off := 0) hw hc hu (SubC.full us) hN hn E FV FC A hm) rfl (hw _ (List.mem_of_getElem? (i := 8) rfl)) (hw _ (List.mem_of_getElem? (i := 9) rfl)) (hw _ (List.mem_of_getElem? (i := 4) rfl)) (hw _ (List.mem_of_getElem? (i := 11) rfl)) dSI1_6 (by decide) pdx3 rfl rfl rfl (by first | exact Nat.le_of_ble_eq_true rfl | omega | (simp; done) | (simp; omega) | (dsimp only; omega)) (by first | exact Nat.le_of_ble_eq_true rfl | omega | (simp; done) | (simp; omega) | (dsimp only; omega)) (by first | exact Nat.le_of_ble_eq_true rfl | omega | (simp; done) | (simp; omega) | (dsimp only; omega)) (by first | exact Nat.le_of_ble_eq_true rfl | omega | (simp; done) | (simp; omega) | (dsimp only; omega)) (fun x hx => Or.inl hx) rfl ?_
  rintro v h1 nw K1 hnw ⟨rfl, rfl, t, S, ht⟩
  dsimp only [Option.toList, List.nil_append]
  exact WP.vret dSI1_9 rfl ⟨rfl, rfl, t, S, ht⟩ (fun _ hx => nomatch hx) (fun _ hx => hx) (by dsimp only; omega) (by dsimp only; omega)
end JdkStr
end Jvm.Pilot.@@N@@

namespace Jvm.Pilot.@@N@@
open Jvm Jvm.ClassFile Sem Op Lib Jvm.Free Jvm.Stand Jvm.LawKit Jvm.RoadKit Bundle Jvm.Pilot.@@N@@.Jvm.D Jvm.OwnW

section JdkCod
variable {Z : State} {a0 : Array Value} {h : Heap} {mine : List Addr}
theorem dCO_0 : decode jdk_42_method_152_code 0 = .ok (.getstatic 38, 3) := by decide +kernel
theorem dCO_3 : decode jdk_42_method_152_code 3 = .ok (.ifCond .eq 10, 3) := by decide +kernel
theorem dCO_6 : decode jdk_42_method_152_code 6 = .ok (.aload_n 0, 1) := by decide +kernel
theorem dCO_7 : decode jdk_42_method_152_code 7 = .ok (.getfield 15, 3) := by decide +kernel
theorem dCO_10 : decode jdk_42_method_152_code 10 = .ok (.goto 4, 3) := by decide +kernel
theorem dCO_13 : decode jdk_42_method_152_code 13 = .ok (.iconst 1, 1) := by decide +kernel
theorem dCO_14 : decode jdk_42_method_152_code 14 = .ok (.ireturn, 1) := by decide +kernel
theorem pnCO : plainFor (⟨"java/lang/String", "coder", "()B"⟩ : MethodName) = true := plainFor_of_name (by first | (simp [plainName, overriddenIn]; done) | decide +kernel)
set_option maxRecDepth 65536 in
set_option maxHeartbeats 40000000 in
theorem con_CO (hw : ∀ d ∈ tables_1, d.before a0 Z = true) {cz : Int32} (hc : Compact Z cz) {a t : Addr} {us : List UInt16} (S : StrAt Z h a t us) : Con (⟨"java/lang/String", "coder", "()B"⟩ : MethodName) jdk_42_method_152_code 1 (some .byte) R0 Z LT [] #[.ref a] h [] mine (fun v h' nw => nw = [] ∧ v = some (.int (cod us)) ∧ h' = h) := by
  obtain ⟨e1, v1, c1, b1⟩ := S.open
  refine Con.of pnCO (Ls := [.val (.ref a)]) (fun m => by first | (simp [entryFrame, mkF, argsToLocals, Value.category]; done) | (simp [entryFrame, mkF, argsToLocals, Value.category, maxLocals]; done) | rfl) ?_
  refine WP.getstatic (pc' := 3) (host := "") dCO_0 (Or.inl (hw _ (List.mem_of_getElem? (i := 15) rfl))) Via.refl hc.1 rfl ?_
  refine WP.ifF (pc' := 6) dCO_3 rfl hc.2 ?_
  refine WP.aloadN (pc' := 7) dCO_6 rfl rfl rfl ?_
  refine WP.getfield (pc' := 10) (host := "") dCO_7 (Or.inl (hw _ (List.mem_of_getElem? (i := 27) rfl))) Via.refl c1 rfl ?_
  refine WP.goto (pc' := 14) dCO_10 (by decide) (by decide) ?_
  exact WP.ireturn dCO_14 rfl (by simp) (by unfold cod; split <;> rfl) ⟨rfl, rfl, rfl⟩ (fun _ hx => nomatch hx) (fun _ hx => hx) (Nat.le_refl _) (Nat.le_refl _)
theorem dIL_0 : decode jdk_42_method_154_code 0 = .ok (.getstatic 38, 3) := by decide +kernel
theorem dIL_3 : decode jdk_42_method_154_code 3 = .ok (.ifCond .eq 14, 3) := by decide +kernel
theorem dIL_6 : decode jdk_42_method_154_code 6 = .ok (.aload_n 0, 1) := by decide +kernel
theorem dIL_7 : decode jdk_42_method_154_code 7 = .ok (.getfield 15, 3) := by decide +kernel
theorem dIL_10 : decode jdk_42_method_154_code 10 = .ok (.ifCond .ne 7, 3) := by decide +kernel
theorem dIL_13 : decode jdk_42_method_154_code 13 = .ok (.iconst 1, 1) := by decide +kernel
theorem dIL_14 : decode jdk_42_method_154_code 14 = .ok (.goto 4, 3) := by decide +kernel
theorem dIL_17 : decode jdk_42_method_154_code 17 = .ok (.iconst 0, 1) := by decide +kernel
theorem dIL_18 : decode jdk_42_method_154_code 18 = .ok (.ireturn, 1) := by decide +kernel
theorem pnIL : plainFor (⟨"java/lang/String", "isLatin1", "()Z"⟩ : MethodName) = true := plainFor_of_name (by first | (simp [plainName, overriddenIn]; done) | decide +kernel)
set_option maxRecDepth 65536 in
set_option maxHeartbeats 40000000 in
theorem con_IL (hw : ∀ d ∈ tables_1, d.before a0 Z = true) {cz : Int32} (hc : Compact Z cz) {a t : Addr} {us : List UInt16} (S : StrAt Z h a t us) : Con (⟨"java/lang/String", "isLatin1", "()Z"⟩ : MethodName) jdk_42_method_154_code 1 (some .boolean) R0 Z LT [] #[.ref a] h [] mine (fun v h' nw => nw = [] ∧ v = some (.int (if lat us = true then 1 else 0)) ∧ h' = h) := by
  obtain ⟨e1, v1, c1, b1⟩ := S.open
  refine Con.of pnIL (Ls := [.val (.ref a)]) (fun m => by first | (simp [entryFrame, mkF, argsToLocals, Value.category]; done) | (simp [entryFrame, mkF, argsToLocals, Value.category, maxLocals]; done) | rfl) ?_
  refine WP.getstatic (pc' := 3) (host := "") dIL_0 (Or.inl (hw _ (List.mem_of_getElem? (i := 15) rfl))) Via.refl hc.1 rfl ?_
  refine WP.ifF (pc' := 6) dIL_3 rfl hc.2 ?_
  refine WP.aloadN (pc' := 7) dIL_6 rfl rfl rfl ?_
  refine WP.getfield (pc' := 10) (host := "") dIL_7 (Or.inl (hw _ (List.mem_of_getElem? (i := 27) rfl))) Via.refl c1 rfl ?_
  cases hl : lat us
  · rw [cod_utf hl]
    refine WP.ifT (pc' := 17) dIL_10 (by decide) (by decide) (show ¬ (1 : Int32) = 0 by decide) ?_
    refine WP.iconst (pc' := 18) (x := 0) dIL_17 (by decide) rfl ?_
    exact WP.ireturn dIL_18 rfl (by simp) rfl ⟨rfl, rfl, rfl⟩ (fun _ hx => nomatch hx) (fun _ hx => hx) (Nat.le_refl _) (Nat.le_refl _)
  · rw [cod_lat hl]
    refine WP.ifF (pc' := 13) dIL_10 rfl rfl ?_
    refine WP.iconst (pc' := 14) (x := 1) dIL_13 (by decide) rfl ?_
    refine WP.goto (pc' := 18) dIL_14 (by decide) (by decide) ?_
    exact WP.ireturn dIL_18 rfl (by simp) rfl ⟨rfl, rfl, rfl⟩ (fun _ hx => nomatch hx) (fun _ hx => hx) (Nat.le_refl _) (Nat.le_refl _)
end JdkCod
end Jvm.Pilot.@@N@@

namespace Jvm.Pilot.@@N@@
open Jvm Jvm.ClassFile Sem Op Lib Jvm.Free Jvm.Stand Jvm.LawKit Jvm.RoadKit Bundle Jvm.Pilot.@@N@@.Jvm.D Jvm.OwnW
theorem pdx4 : parseMethodDescriptor "()B" = some ⟨[], some .byte⟩ := by decide +kernel
theorem pdx5 : parseMethodDescriptor "(IILjava/util/function/BiFunction;)I" = some ⟨[.int, .int, (.object "java/util/function/BiFunction")], some .int⟩ := by decide +kernel
theorem pdx6 : parseMethodDescriptor "(II)V" = some ⟨[.int, .int], none⟩ := by decide +kernel
theorem pdx7 : parseMethodDescriptor "()Z" = some ⟨[], some .boolean⟩ := by decide +kernel
theorem pdx8 : parseMethodDescriptor "([BI)C" = some ⟨[(.array .byte), .int], some .char⟩ := by decide +kernel
def Fmt (Z : State) (vf : Value) : Prop := Sta Z Z.heap "jdk/internal/util/Preconditions" "SIOOBE_FORMATTER" "Ljava/util/function/BiFunction;" vf ∧ vf.isRef = true
theorem n32_nn {i : Nat} (h : i < 2 ^ 31) : ¬ Int32.ofNat i < 0 := fun q => by rw [Int32.lt_iff_toInt_lt, n32_toInt h] at q; simp at q; omega
theorem n32_or3 {i j k : Nat} (hi : i < 2 ^ 31) (hj : j < 2 ^ 31) (hk : k < 2 ^ 31) : ¬ ((Int32.ofNat i ||| Int32.ofNat j) ||| Int32.ofNat k) < 0 := fun q => by
  rw [Int32.lt_iff_toInt_lt] at q
  have h1 := (c_orS (Int32.ofNat i) (Int32.ofNat j)).1
  have h2 := (c_orS (Int32.ofNat i ||| Int32.ofNat j) (Int32.ofNat k)).1
  rw [n32_toInt hi, n32_toInt hj] at h1
  rw [n32_toInt hk] at h2
  have h3 := h2 (h1 (by omega) (by omega)) (by omega)
  have e0 : (0 : Int32).toInt = 0 := rfl
  omega
theorem i32_sub0 (x : Int32) : x - 0 = x := by simp
theorem len_shr {us : List UInt16} (h : (byt us).length < 2 ^ 31) : Int32.ofNat (byt us).length >>> (cod us &&& 31) = Int32.ofNat us.length := by
  cases hl : lat us
  · rw [cod_utf hl, byt_utf hl] at *
    rw [b16_len] at *
    exact n32_half h
  · rw [cod_lat hl, byt_lat hl] at *
    have s := c_ishr (Int32.ofNat (us.map lo8).length) 0 0 (by decide)
    apply Int32.toInt_inj.mp
    rw [s]; simp
section JdkChr
variable {Z : State} {a0 : Array Value} {h : Heap} {mine : List Addr}
theorem dLEN_0 : decode jdk_42_method_54_code 0 = .ok (.aload_n 0, 1) := by decide +kernel
theorem dLEN_1 : decode jdk_42_method_54_code 1 = .ok (.getfield 9, 3) := by decide +kernel
theorem dLEN_4 : decode jdk_42_method_54_code 4 = .ok (.arraylength, 1) := by decide +kernel
theorem dLEN_5 : decode jdk_42_method_54_code 5 = .ok (.aload_n 0, 1) := by decide +kernel
theorem dLEN_6 : decode jdk_42_method_54_code 6 = .ok (.invokevirtual 335, 3) := by decide +kernel
theorem dLEN_9 : decode jdk_42_method_54_code 9 = .ok (.ishr, 1) := by decide +kernel
theorem dLEN_10 : decode jdk_42_method_54_code 10 = .ok (.ireturn, 1) := by decide +kernel
theorem pnLEN : plainFor (⟨"java/lang/String", "length", "()I"⟩ : MethodName) = true := plainFor_of_name (by first | (simp [plainName, overriddenIn]; done) | decide +kernel)
set_option maxRecDepth 65536 in
set_option maxHeartbeats 40000000 in
theorem con_LEN (hw : ∀ d ∈ tables_1, d.before a0 Z = true) {cz : Int32} (hc : Compact Z cz) {a t : Addr} {us : List UInt16} (S : StrAt Z h a t us) : Con (⟨"java/lang/String", "length", "()I"⟩ : MethodName) jdk_42_method_54_code 1 (some .int) { frames := 1, cells := 0, slots := 0, locals := 13 } Z LT [] #[.ref a] h [] mine (fun v h' nw => nw = [] ∧ v = some (.int (Int32.ofNat us.length)) ∧ h' = h) := by
  obtain ⟨e1, v1, c1, b1⟩ := S.open
  refine Con.of pnLEN (Ls := [.val (.ref a)]) (fun m => by first | (simp [entryFrame, mkF, argsToLocals, Value.category]; done) | (simp [entryFrame, mkF, argsToLocals, Value.category, maxLocals]; done) | rfl) ?_
  refine WP.aloadN (pc' := 1) dLEN_0 rfl rfl rfl ?_
  refine WP.getfield (pc' := 4) (host := "") dLEN_1 (Or.inl (hw _ (List.mem_of_getElem? (i := 29) rfl))) Via.refl v1 rfl ?_
  refine WP.arraylength (pc' := 5) dLEN_4 b1 rfl rfl ?_
  refine WP.aloadN (pc' := 6) dLEN_5 rfl rfl rfl ?_
  refine WP.callV (pc' := 9) (con_CO hw hc S) e1 (hw _ (List.mem_of_getElem? (i := 94) rfl)) (hw _ (List.mem_of_getElem? (i := 95) rfl)) (fun s hs => notFace_of_selects (args := #[]) (mv hs (hw _ (List.mem_of_getElem? (i := 97) rfl)))) (hw _ (List.mem_of_getElem? (i := 97) rfl)) (hw _ (List.mem_of_getElem? (i := 96) rfl)) (hw _ (List.mem_of_getElem? (i := 4) rfl)) (hw _ (List.mem_of_getElem? (i := 98) rfl)) dLEN_6 (by decide) pdx4 rfl rfl rfl (by first | exact Nat.le_of_ble_eq_true rfl | omega | (simp; done) | (simp; omega) | (dsimp only; omega)) (by first | exact Nat.le_of_ble_eq_true rfl | omega | (simp; done) | (simp; omega) | (dsimp only; omega)) (by first | exact Nat.le_of_ble_eq_true rfl | omega | (simp; done) | (simp; omega) | (dsimp only; omega)) (by first | exact Nat.le_of_ble_eq_true rfl | omega | (simp; done) | (simp; omega) | (dsimp only; omega)) (fun _ hx => nomatch hx) rfl ?_
  rintro v h' nw K hnw ⟨rfl, rfl, rfl⟩
  dsimp only [Option.toList, List.cons_append, List.nil_append]
  refine WP.ishr (pc' := 10) dLEN_9 rfl ?_
  rw [len_shr b1.len]
  exact WP.ireturn dLEN_10 rfl (by simp) rfl ⟨rfl, rfl, rfl⟩ (fun _ hx => nomatch hx) (fun _ hx => hx) (by first | exact Nat.le_of_ble_eq_true rfl | omega) (by first | exact Nat.le_of_ble_eq_true rfl | omega)
theorem dPCI_0 : decode jdk_41_method_11_code 0 = .ok (.iload_n 0, 1) := by decide +kernel
theorem dPCI_1 : decode jdk_41_method_11_code 1 = .ok (.ifCond .lt 8, 3) := by decide +kernel
theorem dPCI_4 : decode jdk_41_method_11_code 4 = .ok (.iload_n 0, 1) := by decide +kernel
theorem dPCI_5 : decode jdk_41_method_11_code 5 = .ok (.iload_n 1, 1) := by decide +kernel
theorem dPCI_6 : decode jdk_41_method_11_code 6 = .ok (.if_icmp .lt 10, 3) := by decide +kernel
theorem dPCI_9 : decode jdk_41_method_11_code 9 = .ok (.aload_n 2, 1) := by decide +kernel
theorem dPCI_10 : decode jdk_41_method_11_code 10 = .ok (.iload_n 0, 1) := by decide +kernel
theorem dPCI_11 : decode jdk_41_method_11_code 11 = .ok (.iload_n 1, 1) := by decide +kernel
theorem dPCI_12 : decode jdk_41_method_11_code 12 = .ok (.invokestatic 95, 3) := by decide +kernel
theorem dPCI_15 : decode jdk_41_method_11_code 15 = .ok (.athrow, 1) := by decide +kernel
theorem dPCI_16 : decode jdk_41_method_11_code 16 = .ok (.iload_n 0, 1) := by decide +kernel
theorem dPCI_17 : decode jdk_41_method_11_code 17 = .ok (.ireturn, 1) := by decide +kernel
theorem pnPCI : plainFor (⟨"jdk/internal/util/Preconditions", "checkIndex", "(IILjava/util/function/BiFunction;)I"⟩ : MethodName) = true := plainFor_of_name (by first | (simp [plainName, overriddenIn]; done) | decide +kernel)
set_option maxRecDepth 65536 in
set_option maxHeartbeats 40000000 in
theorem con_PCI {vf : Value} (hf : Fmt Z vf) {i n : Nat} (hi : i < n) (hn : n < 2 ^ 31) : Con (⟨"jdk/internal/util/Preconditions", "checkIndex", "(IILjava/util/function/BiFunction;)I"⟩ : MethodName) jdk_41_method_11_code 3 (some .int) R0 Z LT [] #[.int (Int32.ofNat i), .int (Int32.ofNat n), vf] h [] mine (fun v h' nw => nw = [] ∧ v = some (.int (Int32.ofNat i)) ∧ h' = h) := by
  refine Con.of pnPCI (Ls := [.val (.int (Int32.ofNat i)), .val (.int (Int32.ofNat n)), .val vf]) (fun m => by rcases ref_cases hf.2 with rfl | ⟨q, rfl⟩ <;> simp [entryFrame, mkF, argsToLocals, Value.category]) ?_
  refine WP.iloadN (pc' := 1) dPCI_0 rfl rfl ?_
  refine WP.ifF (pc' := 4) dPCI_1 rfl (n32_nn (by omega)) ?_
  refine WP.iloadN (pc' := 5) dPCI_4 rfl rfl ?_
  refine WP.iloadN (pc' := 6) dPCI_5 rfl rfl ?_
  refine WP.icmpT (pc' := 16) dPCI_6 (by decide) (by decide) ((n32_lt (by omega) hn).mpr hi) ?_
  refine WP.iloadN (pc' := 17) dPCI_16 rfl rfl ?_
  exact WP.ireturn dPCI_17 rfl (by simp) rfl ⟨rfl, rfl, rfl⟩ (fun _ hx => nomatch hx) (fun _ hx => hx) (by first | exact Nat.le_of_ble_eq_true rfl | omega) (by first | exact Nat.le_of_ble_eq_true rfl | omega)
theorem dCI_0 : decode jdk_42_method_155_code 0 = .ok (.iload_n 0, 1) := by decide +kernel
theorem dCI_1 : decode jdk_42_method_155_code 1 = .ok (.iload_n 1, 1) := by decide +kernel
theorem dCI_2 : decode jdk_42_method_155_code 2 = .ok (.getstatic 1053, 3) := by decide +kernel
theorem dCI_5 : decode jdk_42_method_155_code 5 = .ok (.invokestatic 1059, 3) := by decide +kernel
theorem dCI_8 : decode jdk_42_method_155_code 8 = .ok (.pop, 1) := by decide +kernel
theorem dCI_9 : decode jdk_42_method_155_code 9 = .ok (.return_, 1) := by decide +kernel
theorem pnCI : plainFor (⟨"java/lang/String", "checkIndex", "(II)V"⟩ : MethodName) = true := plainFor_of_name (by first | (simp [plainName, overriddenIn]; done) | decide +kernel)
set_option maxRecDepth 65536 in
set_option maxHeartbeats 40000000 in
theorem con_CI (hw : ∀ d ∈ tables_1, d.before a0 Z = true) {vf : Value} (hf : Fmt Z vf) {i n : Nat} (hi : i < n) (hn : n < 2 ^ 31) : Con (⟨"java/lang/String", "checkIndex", "(II)V"⟩ : MethodName) jdk_42_method_155_code 2 none { frames := 1, cells := 0, slots := 0, locals := 14 } Z LT [] #[.int (Int32.ofNat i), .int (Int32.ofNat n)] h [] mine (fun v h' nw => nw = [] ∧ v = none ∧ h' = h) := by
  refine Con.of pnCI (Ls := [.val (.int (Int32.ofNat i)), .val (.int (Int32.ofNat n))]) (fun m => by first | (simp [entryFrame, mkF, argsToLocals, Value.category]; done) | (simp [entryFrame, mkF, argsToLocals, Value.category, maxLocals]; done) | rfl) ?_
  refine WP.iloadN (pc' := 1) dCI_0 rfl rfl ?_
  refine WP.iloadN (pc' := 2) dCI_1 rfl rfl ?_
  refine WP.getstatic (pc' := 5) (host := "") dCI_2 (Or.inl (hw _ (List.mem_of_getElem? (i := 272) rfl))) Via.refl hf.1 rfl ?_
  refine WP.callS (pc' := 8) (con_PCI hf hi hn) (hw _ (List.mem_of_getElem? (i := 274) rfl)) (hw _ (List.mem_of_getElem? (i := 275) rfl)) (hw _ (List.mem_of_getElem? (i := 273) rfl)) (hw _ (List.mem_of_getElem? (i := 276) rfl)) dCI_5 (by decide) pdx5 rfl rfl rfl (by first | exact Nat.le_of_ble_eq_true rfl | omega | (simp; done) | (simp; omega) | (dsimp only; omega)) (by first | exact Nat.le_of_ble_eq_true rfl | omega | (simp; done) | (simp; omega) | (dsimp only; omega)) (by first | exact Nat.le_of_ble_eq_true rfl | omega | (simp; done) | (simp; omega) | (dsimp only; omega)) (by first | exact Nat.le_of_ble_eq_true rfl | omega | (simp; done) | (simp; omega) | (dsimp only; omega)) (fun _ hx => nomatch hx) rfl ?_
  rintro v h' nw K hnw ⟨rfl, rfl, rfl⟩
  dsimp only [Option.toList, List.cons_append, List.nil_append]
  refine WP.pop (pc' := 9) dCI_8 rfl rfl ?_
  exact WP.vret dCI_9 rfl ⟨rfl, rfl, rfl⟩ (fun _ hx => nomatch hx) (fun _ hx => hx) (by first | exact Nat.le_of_ble_eq_true rfl | omega) (by first | exact Nat.le_of_ble_eq_true rfl | omega)
theorem dLCA_0 : decode jdk_43_method_2_code 0 = .ok (.iload_n 1, 1) := by decide +kernel
theorem dLCA_1 : decode jdk_43_method_2_code 1 = .ok (.aload_n 0, 1) := by decide +kernel
theorem dLCA_2 : decode jdk_43_method_2_code 2 = .ok (.arraylength, 1) := by decide +kernel
theorem dLCA_3 : decode jdk_43_method_2_code 3 = .ok (.invokestatic 9, 3) := by decide +kernel
theorem dLCA_6 : decode jdk_43_method_2_code 6 = .ok (.aload_n 0, 1) := by decide +kernel
theorem dLCA_7 : decode jdk_43_method_2_code 7 = .ok (.iload_n 1, 1) := by decide +kernel
theorem dLCA_8 : decode jdk_43_method_2_code 8 = .ok (.baload, 1) := by decide +kernel
theorem dLCA_9 : decode jdk_43_method_2_code 9 = .ok (.sipush 255, 3) := by decide +kernel
theorem dLCA_12 : decode jdk_43_method_2_code 12 = .ok (.iand, 1) := by decide +kernel
theorem dLCA_13 : decode jdk_43_method_2_code 13 = .ok (.i2c, 1) := by decide +kernel
theorem dLCA_14 : decode jdk_43_method_2_code 14 = .ok (.ireturn, 1) := by decide +kernel
theorem pnLCA : plainFor (⟨"java/lang/StringLatin1", "charAt", "([BI)C"⟩ : MethodName) = true := plainFor_of_name (by first | (simp [plainName, overriddenIn]; done) | decide +kernel)
set_option maxRecDepth 65536 in
set_option maxHeartbeats 40000000 in
theorem con_LCA (hw : ∀ d ∈ tables_1, d.before a0 Z = true) {vf : Value} (hf : Fmt Z vf) {t : Addr} {us : List UInt16} {i : Nat} {u : UInt16} (hl : lat us = true) (T : ArI Z h t .byte (us.map lo8)) (hu : us[i]? = some u) : Con (⟨"java/lang/StringLatin1", "charAt", "([BI)C"⟩ : MethodName) jdk_43_method_2_code 2 (some .char) { frames := 2, cells := 0, slots := 0, locals := 27 } Z LT [] #[.ref t, .int (Int32.ofNat i)] h [] mine (fun v h' nw => nw = [] ∧ v = some (.int (chv u)) ∧ h' = h) := by
  have hil : i < us.length := (List.getElem?_eq_some_iff.mp hu).1
  have hn : us.length < 2 ^ 31 := by simpa using T.len
  refine Con.of pnLCA (Ls := [.val (.ref t), .val (.int (Int32.ofNat i))]) (fun m => by first | (simp [entryFrame, mkF, argsToLocals, Value.category]; done) | (simp [entryFrame, mkF, argsToLocals, Value.category, maxLocals]; done) | rfl) ?_
  refine WP.iloadN (pc' := 1) dLCA_0 rfl rfl ?_
  refine WP.aloadN (pc' := 2) dLCA_1 rfl rfl rfl ?_
  refine WP.arraylength (pc' := 3) dLCA_2 T (n := Int32.ofNat us.length) (by simp) rfl ?_
  refine WP.callS (pc' := 6) (con_CI hw hf hil hn) (hw _ (List.mem_of_getElem? (i := 269) rfl)) (hw _ (List.mem_of_getElem? (i := 270) rfl)) (hw _ (List.mem_of_getElem? (i := 4) rfl)) (hw _ (List.mem_of_getElem? (i := 271) rfl)) dLCA_3 (by decide) pdx6 rfl rfl rfl (by first | exact Nat.le_of_ble_eq_true rfl | omega | (simp; done) | (simp; omega) | (dsimp only; omega)) (by first | exact Nat.le_of_ble_eq_true rfl | omega | (simp; done) | (simp; omega) | (dsimp only; omega)) (by first | exact Nat.le_of_ble_eq_true rfl | omega | (simp; done) | (simp; omega) | (dsimp only; omega)) (by first | exact Nat.le_of_ble_eq_true rfl | omega | (simp; done) | (simp; omega) | (dsimp only; omega)) (fun _ hx => nomatch hx) rfl ?_
  rintro v h' nw K hnw ⟨rfl, rfl, rfl⟩
  dsimp only [Option.toList, List.nil_append]
  refine WP.aloadN (pc' := 7) dLCA_6 rfl rfl rfl ?_
  refine WP.iloadN (pc' := 8) dLCA_7 rfl rfl ?_
  refine WP.baload (pc' := 9) dLCA_8 T (n32_toInt (by omega)) (x := lo8 u) (by simp [hu]) rfl ?_
  refine WP.sipush (pc' := 12) (x := 255) dLCA_9 (by decide) rfl ?_
  refine WP.iand (pc' := 13) dLCA_12 rfl ?_
  refine WP.i2c (pc' := 14) dLCA_13 rfl ?_
  rw [lo8_and u ((lat_iff us).mp hl i u hu), chv_i2c]
  exact WP.ireturn dLCA_14 rfl (by simp) (congrArg Value.int (chv_nar u)) ⟨rfl, rfl, rfl⟩ (fun _ hx => nomatch hx) (fun _ hx => hx) (by first | exact Nat.le_of_ble_eq_true rfl | omega) (by first | exact Nat.le_of_ble_eq_true rfl | omega)
theorem dCA_0 : decode jdk_42_method_56_code 0 = .ok (.aload_n 0, 1) := by decide +kernel
theorem dCA_1 : decode jdk_42_method_56_code 1 = .ok (.invokevirtual 492, 3) := by decide +kernel
theorem dCA_4 : decode jdk_42_method_56_code 4 = .ok (.ifCond .eq 12, 3) := by decide +kernel
theorem dCA_7 : decode jdk_42_method_56_code 7 = .ok (.aload_n 0, 1) := by decide +kernel
theorem dCA_8 : decode jdk_42_method_56_code 8 = .ok (.getfield 9, 3) := by decide +kernel
theorem dCA_11 : decode jdk_42_method_56_code 11 = .ok (.iload_n 1, 1) := by decide +kernel
theorem dCA_12 : decode jdk_42_method_56_code 12 = .ok (.invokestatic 495, 3) := by decide +kernel
theorem dCA_15 : decode jdk_42_method_56_code 15 = .ok (.ireturn, 1) := by decide +kernel
theorem dCA_16 : decode jdk_42_method_56_code 16 = .ok (.aload_n 0, 1) := by decide +kernel
theorem dCA_17 : decode jdk_42_method_56_code 17 = .ok (.getfield 9, 3) := by decide +kernel
theorem dCA_20 : decode jdk_42_method_56_code 20 = .ok (.iload_n 1, 1) := by decide +kernel
theorem dCA_21 : decode jdk_42_method_56_code 21 = .ok (.invokestatic 498, 3) := by decide +kernel
theorem dCA_24 : decode jdk_42_method_56_code 24 = .ok (.ireturn, 1) := by decide +kernel
theorem pnCA : plainFor (⟨"java/lang/String", "charAt", "(I)C"⟩ : MethodName) = true := plainFor_of_name (by first | (simp [plainName, overriddenIn]; done) | decide +kernel)
set_option maxRecDepth 65536 in
set_option maxHeartbeats 40000000 in
theorem con_CA (hw : ∀ d ∈ tables_1, d.before a0 Z = true) {cz : Int32} (hc : Compact Z cz) {vf : Value} (hf : Fmt Z vf) {a t : Addr} {us : List UInt16} (hlat : lat us = true) {i : Nat} {u : UInt16} (S : StrAt Z h a t us) (hu : us[i]? = some u) : Con (⟨"java/lang/String", "charAt", "(I)C"⟩ : MethodName) jdk_42_method_56_code 2 (some .char) { frames := 4, cells := 0, slots := 0, locals := 53 } Z LT [] #[.ref a, .int (Int32.ofNat i)] h [] mine (fun v h' nw => nw = [] ∧ v = some (.int (chv u)) ∧ h' = h) := by
  obtain ⟨e1, v1, c1, b1⟩ := S.open
  refine Con.of pnCA (Ls := [.val (.ref a), .val (.int (Int32.ofNat i))]) (fun m => by first | (simp [entryFrame, mkF, argsToLocals, Value.category]; done) | (simp [entryFrame, mkF, argsToLocals, Value.category, maxLocals]; done) | rfl) ?_
  refine WP.aloadN (pc' := 1) dCA_0 rfl rfl rfl ?_
  refine WP.callV (pc' := 4) (con_IL hw hc S) e1 (hw _ (List.mem_of_getElem? (i := 260) rfl)) (hw _ (List.mem_of_getElem? (i := 261) rfl)) (fun s hs => notFace_of_selects (args := #[]) (mv hs (hw _ (List.mem_of_getElem? (i := 263) rfl)))) (hw _ (List.mem_of_getElem? (i := 263) rfl)) (hw _ (List.mem_of_getElem? (i := 262) rfl)) (hw _ (List.mem_of_getElem? (i := 4) rfl)) (hw _ (List.mem_of_getElem? (i := 264) rfl)) dCA_1 (by decide) pdx7 rfl rfl rfl (by first | exact Nat.le_of_ble_eq_true rfl | omega | (simp; done) | (simp; omega) | (dsimp only; omega)) (by first | exact Nat.le_of_ble_eq_true rfl | omega | (simp; done) | (simp; omega) | (dsimp only; omega)) (by first | exact Nat.le_of_ble_eq_true rfl | omega | (simp; done) | (simp; omega) | (dsimp only; omega)) (by first | exact Nat.le_of_ble_eq_true rfl | omega | (simp; done) | (simp; omega) | (dsimp only; omega)) (fun _ hx => nomatch hx) rfl ?_
  rintro v h' nw K hnw ⟨rfl, rfl, rfl⟩
  dsimp only [Option.toList, List.cons_append, List.nil_append]
  cases hl : lat us
  · rw [hlat] at hl; cases hl
  · rw [if_pos rfl]
    rw [byt_lat hl] at b1
    refine WP.ifF (pc' := 7) dCA_4 rfl (show ¬ (1 : Int32) = 0 by decide) ?_
    refine WP.aloadN (pc' := 8) dCA_7 rfl rfl rfl ?_
    refine WP.getfield (pc' := 11) (host := "") dCA_8 (Or.inl (hw _ (List.mem_of_getElem? (i := 29) rfl))) Via.refl v1 rfl ?_
    refine WP.iloadN (pc' := 12) dCA_11 rfl rfl ?_
    refine WP.callS (pc' := 15) (con_LCA hw hf hl b1 hu) (hw _ (List.mem_of_getElem? (i := 265) rfl)) (hw _ (List.mem_of_getElem? (i := 266) rfl)) (hw _ (List.mem_of_getElem? (i := 267) rfl)) (hw _ (List.mem_of_getElem? (i := 268) rfl)) dCA_12 (by decide) pdx8 rfl rfl rfl (by first | exact Nat.le_of_ble_eq_true rfl | omega | (simp; done) | (simp; omega) | (dsimp only; omega)) (by first | exact Nat.le_of_ble_eq_true rfl | omega | (simp; done) | (simp; omega) | (dsimp only; omega)) (by first | exact Nat.le_of_ble_eq_true rfl | omega | (simp; done) | (simp; omega) | (dsimp only; omega)) (by first | exact Nat.le_of_ble_eq_true rfl | omega | (simp; done) | (simp; omega) | (dsimp only; omega)) (fun _ hx => nomatch hx) rfl ?_
    rintro v h' nw K hnw ⟨rfl, rfl, rfl⟩
    dsimp only [Option.toList, List.cons_append, List.nil_append]
    exact WP.ireturn dCA_15 rfl (by simp) (congrArg Value.int (chv_nar u)) ⟨rfl, rfl, rfl⟩ (fun _ hx => nomatch hx) (fun _ hx => hx) (by first | exact Nat.le_of_ble_eq_true rfl | omega) (by first | exact Nat.le_of_ble_eq_true rfl | omega)
end JdkChr
end Jvm.Pilot.@@N@@

namespace Jvm.Pilot.@@N@@
open Jvm Jvm.ClassFile Sem Op Lib Jvm.Free Jvm.Stand Jvm.LawKit Jvm.RoadKit Bundle Jvm.Pilot.@@N@@.Jvm.D Jvm.OwnW

section JdkCpy
variable {Z : State} {a0 : Array Value} {h : Heap} {mine : List Addr}
theorem dMAX_0 : decode jdk_29_method_65_code 0 = .ok (.iload_n 0, 1) := by decide +kernel
theorem dMAX_1 : decode jdk_29_method_65_code 1 = .ok (.iload_n 1, 1) := by decide +kernel
theorem dMAX_2 : decode jdk_29_method_65_code 2 = .ok (.if_icmp .lt 7, 3) := by decide +kernel
theorem dMAX_5 : decode jdk_29_method_65_code 5 = .ok (.iload_n 0, 1) := by decide +kernel
theorem dMAX_6 : decode jdk_29_method_65_code 6 = .ok (.goto 4, 3) := by decide +kernel
theorem dMAX_9 : decode jdk_29_method_65_code 9 = .ok (.iload_n 1, 1) := by decide +kernel
theorem dMAX_10 : decode jdk_29_method_65_code 10 = .ok (.ireturn, 1) := by decide +kernel
theorem pnMAX : plainFor (⟨"java/lang/Math", "max", "(II)I"⟩ : MethodName) = true := by decide +kernel
set_option maxRecDepth 65536 in
set_option maxHeartbeats 40000000 in
theorem con_MAX {i j : Nat} (hi : i < 2 ^ 31) (hj : j < 2 ^ 31) : Con (⟨"java/lang/Math", "max", "(II)I"⟩ : MethodName) jdk_29_method_65_code 2 (some .int) R0 Z LT [] #[.int (Int32.ofNat i), .int (Int32.ofNat j)] h [] mine (fun v h' nw => nw = [] ∧ v = some (.int (Int32.ofNat (max i j))) ∧ h' = h) := by
  refine Con.of pnMAX (Ls := [.val (.int (Int32.ofNat i)), .val (.int (Int32.ofNat j))]) (fun m => by first | (simp [entryFrame, mkF, argsToLocals, Value.category]; done) | (simp [entryFrame, mkF, argsToLocals, Value.category, maxLocals]; done) | rfl) ?_
  refine WP.iloadN (pc' := 1) dMAX_0 rfl rfl ?_
  refine WP.iloadN (pc' := 2) dMAX_1 rfl rfl ?_
  by_cases q : i < j
  · refine WP.icmpT (pc' := 9) dMAX_2 (by decide) (by decide) ((n32_lt hi hj).mpr q) ?_
    refine WP.iloadN (pc' := 10) dMAX_9 rfl rfl ?_
    exact WP.ireturn dMAX_10 rfl (by simp) rfl ⟨rfl, by rw [Nat.max_eq_right (by omega)], rfl⟩ (fun _ hx => nomatch hx) (fun _ hx => hx) (by first | exact Nat.le_of_ble_eq_true rfl | omega) (by first | exact Nat.le_of_ble_eq_true rfl | omega)
  · refine WP.icmpF (pc' := 5) dMAX_2 rfl (fun r => q ((n32_lt hi hj).mp r)) ?_
    refine WP.iloadN (pc' := 6) dMAX_5 rfl rfl ?_
    refine WP.goto (pc' := 10) dMAX_6 (by decide) (by decide) ?_
    exact WP.ireturn dMAX_10 rfl (by simp) rfl ⟨rfl, by rw [Nat.max_eq_left (by omega)], rfl⟩ (fun _ hx => nomatch hx) (fun _ hx => hx) (by first | exact Nat.le_of_ble_eq_true rfl | omega) (by first | exact Nat.le_of_ble_eq_true rfl | omega)
theorem dMIN_0 : decode jdk_29_method_69_code 0 = .ok (.iload_n 0, 1) := by decide +kernel
theorem dMIN_1 : decode jdk_29_method_69_code 1 = .ok (.iload_n 1, 1) := by decide +kernel
theorem dMIN_2 : decode jdk_29_method_69_code 2 = .ok (.if_icmp .gt 7, 3) := by decide +kernel
theorem dMIN_5 : decode jdk_29_method_69_code 5 = .ok (.iload_n 0, 1) := by decide +kernel
theorem dMIN_6 : decode jdk_29_method_69_code 6 = .ok (.goto 4, 3) := by decide +kernel
theorem dMIN_9 : decode jdk_29_method_69_code 9 = .ok (.iload_n 1, 1) := by decide +kernel
theorem dMIN_10 : decode jdk_29_method_69_code 10 = .ok (.ireturn, 1) := by decide +kernel
theorem pnMIN : plainFor (⟨"java/lang/Math", "min", "(II)I"⟩ : MethodName) = true := by decide +kernel
set_option maxRecDepth 65536 in
set_option maxHeartbeats 40000000 in
theorem con_MIN {i j : Nat} (hi : i < 2 ^ 31) (hj : j < 2 ^ 31) : Con (⟨"java/lang/Math", "min", "(II)I"⟩ : MethodName) jdk_29_method_69_code 2 (some .int) R0 Z LT [] #[.int (Int32.ofNat i), .int (Int32.ofNat j)] h [] mine (fun v h' nw => nw = [] ∧ v = some (.int (Int32.ofNat (min i j))) ∧ h' = h) := by
  refine Con.of pnMIN (Ls := [.val (.int (Int32.ofNat i)), .val (.int (Int32.ofNat j))]) (fun m => by first | (simp [entryFrame, mkF, argsToLocals, Value.category]; done) | (simp [entryFrame, mkF, argsToLocals, Value.category, maxLocals]; done) | rfl) ?_
  refine WP.iloadN (pc' := 1) dMIN_0 rfl rfl ?_
  refine WP.iloadN (pc' := 2) dMIN_1 rfl rfl ?_
  by_cases q : j < i
  · refine WP.icmpT (pc' := 9) dMIN_2 (by decide) (by decide) ((n32_lt hj hi).mpr q) ?_
    refine WP.iloadN (pc' := 10) dMIN_9 rfl rfl ?_
    exact WP.ireturn dMIN_10 rfl (by simp) rfl ⟨rfl, by rw [Nat.min_eq_right (by omega)], rfl⟩ (fun _ hx => nomatch hx) (fun _ hx => hx) (by first | exact Nat.le_of_ble_eq_true rfl | omega) (by first | exact Nat.le_of_ble_eq_true rfl | omega)
  · refine WP.icmpF (pc' := 5) dMIN_2 rfl (fun r => q ((n32_lt hj hi).mp r)) ?_
    refine WP.iloadN (pc' := 6) dMIN_5 rfl rfl ?_
    refine WP.goto (pc' := 10) dMIN_6 (by decide) (by decide) ?_
    exact WP.ireturn dMIN_10 rfl (by simp) rfl ⟨rfl, by rw [Nat.min_eq_left (by omega)], rfl⟩ (fun _ hx => nomatch hx) (fun _ hx => hx) (by first | exact Nat.le_of_ble_eq_true rfl | omega) (by first | exact Nat.le_of_ble_eq_true rfl | omega)
end JdkCpy
end Jvm.Pilot.@@N@@

namespace Jvm.Pilot.@@N@@
open Jvm Jvm.ClassFile Sem Op Lib Jvm.Free Jvm.Stand Jvm.LawKit Jvm.RoadKit Bundle Jvm.Pilot.@@N@@.Jvm.D Jvm.OwnW
theorem pdx9 : parseMethodDescriptor "(II)I" = some ⟨[.int, .int], some .int⟩ := by decide +kernel
theorem pdx10 : parseMethodDescriptor "([BII)[B" = some ⟨[(.array .byte), .int, .int], some (.array .byte)⟩ := by decide +kernel
section JdkCpb
variable {Z : State} {a0 : Array Value} {h : Heap} {mine : List Addr}
theorem dCKL_0 : decode jdk_65_method_131_code 0 = .ok (.iload_n 1, 1) := by decide +kernel
theorem dCKL_1 : decode jdk_65_method_131_code 1 = .ok (.iload_n 0, 1) := by decide +kernel
theorem dCKL_2 : decode jdk_65_method_131_code 2 = .ok (.if_icmp .ge 35, 3) := by decide +kernel
theorem dCKL_5 : decode jdk_65_method_131_code 5 = .ok (.new 43, 3) := by decide +kernel
theorem dCKL_8 : decode jdk_65_method_131_code 8 = .ok (.dup, 1) := by decide +kernel
theorem dCKL_9 : decode jdk_65_method_131_code 9 = .ok (.new 45, 3) := by decide +kernel
theorem dCKL_12 : decode jdk_65_method_131_code 12 = .ok (.dup, 1) := by decide +kernel
theorem dCKL_13 : decode jdk_65_method_131_code 13 = .ok (.invokespecial 47, 3) := by decide +kernel
theorem dCKL_16 : decode jdk_65_method_131_code 16 = .ok (.iload_n 0, 1) := by decide +kernel
theorem dCKL_17 : decode jdk_65_method_131_code 17 = .ok (.invokevirtual 54, 3) := by decide +kernel
theorem dCKL_20 : decode jdk_65_method_131_code 20 = .ok (.ldc_w 337, 3) := by decide +kernel
theorem dCKL_23 : decode jdk_65_method_131_code 23 = .ok (.invokevirtual 50, 3) := by decide +kernel
theorem dCKL_26 : decode jdk_65_method_131_code 26 = .ok (.iload_n 1, 1) := by decide +kernel
theorem dCKL_27 : decode jdk_65_method_131_code 27 = .ok (.invokevirtual 54, 3) := by decide +kernel
theorem dCKL_30 : decode jdk_65_method_131_code 30 = .ok (.invokevirtual 61, 3) := by decide +kernel
theorem dCKL_33 : decode jdk_65_method_131_code 33 = .ok (.invokespecial 65, 3) := by decide +kernel
theorem dCKL_36 : decode jdk_65_method_131_code 36 = .ok (.athrow, 1) := by decide +kernel
theorem dCKL_37 : decode jdk_65_method_131_code 37 = .ok (.return_, 1) := by decide +kernel
theorem pnCKL : plainFor (⟨"java/util/Arrays", "checkLength", "(II)V"⟩ : MethodName) = true := plainFor_of_name (by first | (simp [plainName, overriddenIn]; done) | decide +kernel)
set_option maxRecDepth 65536 in
set_option maxHeartbeats 40000000 in
theorem con_CKL {i j : Nat} (hij : i ≤ j) (hj : j < 2 ^ 31) : Con (⟨"java/util/Arrays", "checkLength", "(II)V"⟩ : MethodName) jdk_65_method_131_code 2 none R0 Z LT [] #[.int (Int32.ofNat i), .int (Int32.ofNat j)] h [] mine (fun v h' nw => nw = [] ∧ v = none ∧ h' = h) := by
  refine Con.of pnCKL (Ls := [.val (.int (Int32.ofNat i)), .val (.int (Int32.ofNat j))]) (fun m => by first | (simp [entryFrame, mkF, argsToLocals, Value.category]; done) | (simp [entryFrame, mkF, argsToLocals, Value.category, maxLocals]; done) | rfl) ?_
  refine WP.iloadN (pc' := 1) dCKL_0 rfl rfl ?_
  refine WP.iloadN (pc' := 2) dCKL_1 rfl rfl ?_
  refine WP.icmpT (pc' := 37) dCKL_2 (by decide) (by decide) (fun q => by have := (n32_lt (by omega) (by omega)).mp q; omega) ?_
  exact WP.vret dCKL_37 rfl ⟨rfl, rfl, rfl⟩ (fun _ hx => nomatch hx) (fun _ hx => hx) (by first | exact Nat.le_of_ble_eq_true rfl | omega) (by first | exact Nat.le_of_ble_eq_true rfl | omega)
theorem dCRB_0 : decode jdk_65_method_133_code 0 = .ok (.iload_n 1, 1) := by decide +kernel
theorem dCRB_1 : decode jdk_65_method_133_code 1 = .ok (.iload_n 2, 1) := by decide +kernel
theorem dCRB_2 : decode jdk_65_method_133_code 2 = .ok (.invokestatic 343, 3) := by decide +kernel
theorem dCRB_5 : decode jdk_65_method_133_code 5 = .ok (.iload_n 2, 1) := by decide +kernel
theorem dCRB_6 : decode jdk_65_method_133_code 6 = .ok (.iload_n 1, 1) := by decide +kernel
theorem dCRB_7 : decode jdk_65_method_133_code 7 = .ok (.isub, 1) := by decide +kernel
theorem dCRB_8 : decode jdk_65_method_133_code 8 = .ok (.istore_n 3, 1) := by decide +kernel
theorem dCRB_9 : decode jdk_65_method_133_code 9 = .ok (.iload_n 3, 1) := by decide +kernel
theorem dCRB_10 : decode jdk_65_method_133_code 10 = .ok (.newarray .byte, 2) := by decide +kernel
theorem dCRB_12 : decode jdk_65_method_133_code 12 = .ok (.astore 4, 2) := by decide +kernel
theorem dCRB_14 : decode jdk_65_method_133_code 14 = .ok (.aload_n 0, 1) := by decide +kernel
theorem dCRB_15 : decode jdk_65_method_133_code 15 = .ok (.iload_n 1, 1) := by decide +kernel
theorem dCRB_16 : decode jdk_65_method_133_code 16 = .ok (.aload 4, 2) := by decide +kernel
theorem dCRB_18 : decode jdk_65_method_133_code 18 = .ok (.iconst 0, 1) := by decide +kernel
theorem dCRB_19 : decode jdk_65_method_133_code 19 = .ok (.aload_n 0, 1) := by decide +kernel
theorem dCRB_20 : decode jdk_65_method_133_code 20 = .ok (.arraylength, 1) := by decide +kernel
theorem dCRB_21 : decode jdk_65_method_133_code 21 = .ok (.iload_n 1, 1) := by decide +kernel
theorem dCRB_22 : decode jdk_65_method_133_code 22 = .ok (.isub, 1) := by decide +kernel
theorem dCRB_23 : decode jdk_65_method_133_code 23 = .ok (.iload_n 3, 1) := by decide +kernel
theorem dCRB_24 : decode jdk_65_method_133_code 24 = .ok (.invokestatic 304, 3) := by decide +kernel
theorem dCRB_27 : decode jdk_65_method_133_code 27 = .ok (.invokestatic 150, 3) := by decide +kernel
theorem dCRB_30 : decode jdk_65_method_133_code 30 = .ok (.aload 4, 2) := by decide +kernel
theorem dCRB_32 : decode jdk_65_method_133_code 32 = .ok (.areturn, 1) := by decide +kernel
theorem pnCRB : plainFor (⟨"java/util/Arrays", "copyOfRangeByte", "([BII)[B"⟩ : MethodName) = true := plainFor_of_name (by first | (simp [plainName, overriddenIn]; done) | decide +kernel)
set_option maxRecDepth 65536 in
set_option maxHeartbeats 40000000 in
theorem con_CRB (hw : ∀ d ∈ tables_1, d.before a0 Z = true) {c : Addr} {cs : List Int32} {i j N : Nat} (hij : i ≤ j) (hj : j ≤ cs.length) (hN : j - i ≤ N) (hn : N ≤ 67108864) (A : ArI Z h c .byte cs) (hfc : ∀ x ∈ cs, fits .byte (.int x) = true) : Con (⟨"java/util/Arrays", "copyOfRangeByte", "([BII)[B"⟩ : MethodName) jdk_65_method_133_code 5 (some (.array .byte)) { frames := 1, cells := 1, slots := N, locals := 18 } Z LT [] #[.ref c, .int (Int32.ofNat i), .int (Int32.ofNat j)] h [] mine (fun v h' nw => ∃ t, nw = [t] ∧ v = some (.ref t) ∧ ArI Z h' t .byte ((cs.drop i).take (j - i)) ∧ Exa Z h' t "[B") := by
  have hl := A.len
  refine Con.of pnCRB (Ls := [.val (.ref c), .val (.int (Int32.ofNat i)), .val (.int (Int32.ofNat j)), .unset, .unset]) (fun m => by first | (simp [entryFrame, mkF, argsToLocals, Value.category]; done) | (simp [entryFrame, mkF, argsToLocals, Value.category, maxLocals]; done) | rfl) ?_
  refine WP.iloadN (pc' := 1) dCRB_0 rfl rfl ?_
  refine WP.iloadN (pc' := 2) dCRB_1 rfl rfl ?_
  refine WP.callS (pc' := 5) (con_CKL hij (by omega)) (hw _ (List.mem_of_getElem? (i := 226) rfl)) (hw _ (List.mem_of_getElem? (i := 227) rfl)) (hw _ (List.mem_of_getElem? (i := 159) rfl)) (hw _ (List.mem_of_getElem? (i := 228) rfl)) dCRB_2 (by decide) pdx6 rfl rfl rfl (by first | exact Nat.le_of_ble_eq_true rfl | omega | (simp; done) | (simp; omega) | (dsimp only; omega)) (by first | exact Nat.le_of_ble_eq_true rfl | omega | (simp; done) | (simp; omega) | (dsimp only; omega)) (by first | exact Nat.le_of_ble_eq_true rfl | omega | (simp; done) | (simp; omega) | (dsimp only; omega)) (by first | exact Nat.le_of_ble_eq_true rfl | omega | (simp; done) | (simp; omega) | (dsimp only; omega)) (fun _ hx => nomatch hx) rfl ?_
  rintro v h1 nw K hnw ⟨rfl, rfl, rfl⟩
  dsimp only [Option.toList, List.nil_append]
  refine WP.iloadN (pc' := 6) dCRB_5 rfl rfl ?_
  refine WP.iloadN (pc' := 7) dCRB_6 rfl rfl ?_
  refine WP.isub (pc' := 8) dCRB_7 rfl ?_
  rw [n32_sub hij (by omega)]
  refine WP.istoreN (pc' := 9) dCRB_8 rfl rfl rfl ?_
  dsimp only [List.set]
  refine WP.iloadN (pc' := 10) dCRB_9 rfl rfl ?_
  refine WP.newarrayE (pc' := 12) (N := (j - i)) (ad := "[B") dCRB_10 (hw _ (List.mem_of_getElem? (i := 20) rfl)) (by decide) rfl (n32_toInt (by omega)) (by first | exact Nat.le_of_ble_eq_true rfl | omega | (simp; done) | (simp; omega) | (dsimp only; omega)) (by first | exact Nat.le_of_ble_eq_true rfl | omega | (simp; done) | (simp; omega) | (dsimp only; omega)) (by first | exact Nat.le_of_ble_eq_true rfl | omega | (simp; done) | (simp; omega) | (dsimp only; omega)) rfl ?_
  intro h1 t et nt mt E1 B X
  refine WP.astore (pc' := 14) dCRB_12 rfl rfl rfl rfl rfl ?_
  dsimp only [List.set]
  refine WP.aloadN (pc' := 15) dCRB_14 rfl rfl rfl ?_
  refine WP.iloadN (pc' := 16) dCRB_15 rfl rfl ?_
  refine WP.aload (pc' := 18) dCRB_16 rfl rfl rfl ?_
  refine WP.iconst (pc' := 19) (x := 0) dCRB_18 (by decide) rfl ?_
  refine WP.aloadN (pc' := 20) dCRB_19 rfl rfl rfl ?_
  refine WP.arraylength (pc' := 21) dCRB_20 (A.ext E1) rfl rfl ?_
  refine WP.iloadN (pc' := 22) dCRB_21 rfl rfl ?_
  refine WP.isub (pc' := 23) dCRB_22 rfl ?_
  rw [n32_sub (by omega) hl]
  refine WP.iloadN (pc' := 24) dCRB_23 rfl rfl ?_
  refine WP.callS (pc' := 27) (con_MIN (by omega) (by omega)) (hw _ (List.mem_of_getElem? (i := 161) rfl)) (hw _ (List.mem_of_getElem? (i := 162) rfl)) (hw _ (List.mem_of_getElem? (i := 153) rfl)) (hw _ (List.mem_of_getElem? (i := 163) rfl)) dCRB_24 (by decide) pdx9 rfl rfl rfl (by first | exact Nat.le_of_ble_eq_true rfl | omega | (simp; done) | (simp; omega) | (dsimp only; omega)) (by first | exact Nat.le_of_ble_eq_true rfl | omega | (simp; done) | (simp; omega) | (dsimp only; omega)) (by first | exact Nat.le_of_ble_eq_true rfl | omega | (simp; done) | (simp; omega) | (dsimp only; omega)) (by first | exact Nat.le_of_ble_eq_true rfl | omega | (simp; done) | (simp; omega) | (dsimp only; omega)) (fun _ hx => nomatch hx) rfl ?_
  rintro v h2 nw K hnw ⟨rfl, rfl, rfl⟩
  dsimp only [Option.toList, List.cons_append, List.nil_append]
  rw [Nat.min_eq_right (by omega)]
  refine WP.arraycopy (pc' := 30) (i := i) (j := 0) (n := j - i) (W := 0) (hw _ (List.mem_of_getElem? (i := 164) rfl)) (hw _ (List.mem_of_getElem? (i := 125) rfl)) (hw _ (List.mem_of_getElem? (i := 123) rfl)) (hw _ (List.mem_of_getElem? (i := 124) rfl)) dCRB_27 (A.ext E1) B rfl hfc (fun y hy => by rw [List.eq_of_mem_replicate hy]; rfl) (n32_toInt (by omega)) (by decide) (n32_toInt (by omega)) (by omega) (by simp) (List.mem_cons_self ..) (Or.inr mt) rfl (Nat.le_of_ble_eq_true rfl) (by simp) (show 0 + (nativeFrameWords "java/lang/System" "arraycopy" 5 + 11) ≤ 18 by decide) rfl ?_
  intro h3 K3 C
  refine WP.aload (pc' := 32) dCRB_30 rfl rfl rfl ?_
  refine WP.areturn (nw := [t]) dCRB_32 rfl rfl rfl ⟨t, rfl, rfl, ?_, X.keep K3⟩ (fun x hx => ?_) (fun x hx => List.mem_cons_of_mem _ hx) (by dsimp only; omega) (by dsimp only; omega)
  · simpa using C
  · cases List.mem_singleton.mp hx; exact ⟨List.mem_cons_self .., mt⟩
theorem dCRG_0 : decode jdk_65_method_132_code 0 = .ok (.iload_n 1, 1) := by decide +kernel
theorem dCRG_1 : decode jdk_65_method_132_code 1 = .ok (.ifCond .ne 9, 3) := by decide +kernel
theorem dCRG_4 : decode jdk_65_method_132_code 4 = .ok (.iload_n 2, 1) := by decide +kernel
theorem dCRG_5 : decode jdk_65_method_132_code 5 = .ok (.aload_n 0, 1) := by decide +kernel
theorem dCRG_6 : decode jdk_65_method_132_code 6 = .ok (.arraylength, 1) := by decide +kernel
theorem dCRG_7 : decode jdk_65_method_132_code 7 = .ok (.if_icmp .eq 10, 3) := by decide +kernel
theorem dCRG_10 : decode jdk_65_method_132_code 10 = .ok (.aload_n 0, 1) := by decide +kernel
theorem dCRG_11 : decode jdk_65_method_132_code 11 = .ok (.iload_n 1, 1) := by decide +kernel
theorem dCRG_12 : decode jdk_65_method_132_code 12 = .ok (.iload_n 2, 1) := by decide +kernel
theorem dCRG_13 : decode jdk_65_method_132_code 13 = .ok (.invokestatic 339, 3) := by decide +kernel
theorem dCRG_16 : decode jdk_65_method_132_code 16 = .ok (.areturn, 1) := by decide +kernel
theorem dCRG_17 : decode jdk_65_method_132_code 17 = .ok (.aload_n 0, 1) := by decide +kernel
theorem dCRG_18 : decode jdk_65_method_132_code 18 = .ok (.invokevirtual 310, 3) := by decide +kernel
theorem dCRG_21 : decode jdk_65_method_132_code 21 = .ok (.checkcast 311, 3) := by decide +kernel
theorem dCRG_24 : decode jdk_65_method_132_code 24 = .ok (.areturn, 1) := by decide +kernel
theorem pnCRG : plainFor (⟨"java/util/Arrays", "copyOfRange", "([BII)[B"⟩ : MethodName) = true := plainFor_of_name (by first | (simp [plainName, overriddenIn]; done) | decide +kernel)
def ClOK (i j n : Nat) : Prop := True
set_option maxRecDepth 65536 in
set_option maxHeartbeats 40000000 in
theorem con_CRG (hw : ∀ d ∈ tables_1, d.before a0 Z = true) {c : Addr} {cs : List Int32} {i j N : Nat} (hij : i ≤ j) (hj : j ≤ cs.length) (hcl : ClOK i j cs.length) (hN : j - i ≤ N) (hn : N ≤ 67108864) (A : ArI Z h c .byte cs) (X : Exa Z h c "[B") (hfc : ∀ x ∈ cs, fits .byte (.int x) = true) : Con (⟨"java/util/Arrays", "copyOfRange", "([BII)[B"⟩ : MethodName) jdk_65_method_132_code 3 (some (.array .byte)) { frames := 2, cells := 1, slots := N, locals := 34 } Z LT [] #[.ref c, .int (Int32.ofNat i), .int (Int32.ofNat j)] h [] mine (fun v h' nw => ∃ t, nw = [t] ∧ v = some (.ref t) ∧ ArI Z h' t .byte ((cs.drop i).take (j - i)) ∧ Exa Z h' t "[B") := by
  have hl := A.len
  refine Con.of pnCRG (Ls := [.val (.ref c), .val (.int (Int32.ofNat i)), .val (.int (Int32.ofNat j))]) (fun m => by first | (simp [entryFrame, mkF, argsToLocals, Value.category]; done) | (simp [entryFrame, mkF, argsToLocals, Value.category, maxLocals]; done) | rfl) ?_
  refine WP.iloadN (pc' := 1) dCRG_0 rfl rfl ?_
  by_cases h0 : i = 0 ∧ j = cs.length
  · obtain ⟨rfl, rfl⟩ := h0
    refine WP.ifF (pc' := 4) dCRG_1 rfl rfl ?_
    refine WP.iloadN (pc' := 5) dCRG_4 rfl rfl ?_
    refine WP.aloadN (pc' := 6) dCRG_5 rfl rfl rfl ?_
    refine WP.arraylength (pc' := 7) dCRG_6 A rfl rfl ?_
    refine WP.icmpT (pc' := 17) dCRG_7 (by decide) (by decide) rfl ?_
    refine WP.aloadN (pc' := 18) dCRG_17 rfl rfl rfl ?_
    refine WP.clone (pc' := 21) (N := N) (W := 0) (hw _ (List.mem_of_getElem? (i := 286) rfl)) (hw _ (List.mem_of_getElem? (i := 287) rfl)) (hw _ (List.mem_of_getElem? (i := 291) rfl)) (hw _ (List.mem_of_getElem? (i := 289) rfl)) (hw _ (List.mem_of_getElem? (i := 290) rfl)) (hw _ (List.mem_of_getElem? (i := 292) rfl)) dCRG_18 A X hfc rfl (by first | exact Nat.le_of_ble_eq_true rfl | omega | (simp; done) | (simp; omega) | (dsimp only; omega)) (by simp) (by first | exact Nat.le_of_ble_eq_true rfl | omega | (simp; done) | (simp; omega) | (dsimp only; omega)) (by omega) (by first | exact Nat.le_of_ble_eq_true rfl | omega | (simp; done) | (simp; omega) | (dsimp only; omega)) (by first | exact Nat.le_of_ble_eq_true rfl | omega | (simp; done) | (simp; omega) | (dsimp only; omega)) rfl ?_
    intro h1 t et nt mt E1 B X1
    refine WP.checkcast (pc' := 24) dCRG_21 (hw _ (List.mem_of_getElem? (i := 293) rfl)) (Ins.self X1) rfl ?_
    refine WP.areturn (nw := [t]) dCRG_24 rfl rfl rfl ⟨t, rfl, rfl, by simpa using B, X1⟩ (fun x hx => ?_) (fun x hx => List.mem_cons_of_mem _ hx) (by dsimp only; omega) (by dsimp only; omega)
    cases List.mem_singleton.mp hx; exact ⟨List.mem_cons_self .., mt⟩
  · have go : WP "java/util/Arrays" jdk_65_method_132_code 3 (some (.array .byte)) "copyOfRange" { frames := 2, cells := 1, slots := N, locals := 34 } Z LT h [] mine (fun v h' nw => ∃ t, nw = [t] ∧ v = some (.ref t) ∧ ArI Z h' t .byte ((cs.drop i).take (j - i)) ∧ Exa Z h' t "[B") mine 0 0 h 10 [.val (.ref c), .val (.int (Int32.ofNat i)), .val (.int (Int32.ofNat j))] [] := by
      refine WP.aloadN (pc' := 11) dCRG_10 rfl rfl rfl ?_
      refine WP.iloadN (pc' := 12) dCRG_11 rfl rfl ?_
      refine WP.iloadN (pc' := 13) dCRG_12 rfl rfl ?_
      refine WP.callS (pc' := 16) (con_CRB hw hij hj hN hn A hfc) (hw _ (List.mem_of_getElem? (i := 223) rfl)) (hw _ (List.mem_of_getElem? (i := 224) rfl)) (hw _ (List.mem_of_getElem? (i := 159) rfl)) (hw _ (List.mem_of_getElem? (i := 225) rfl)) dCRG_13 (by decide) pdx10 rfl rfl rfl (by first | exact Nat.le_of_ble_eq_true rfl | omega | (simp; done) | (simp; omega) | (dsimp only; omega)) (by first | exact Nat.le_of_ble_eq_true rfl | omega | (simp; done) | (simp; omega) | (dsimp only; omega)) (by first | exact Nat.le_of_ble_eq_true rfl | omega | (simp; done) | (simp; omega) | (dsimp only; omega)) (by first | exact Nat.le_of_ble_eq_true rfl | omega | (simp; done) | (simp; omega) | (dsimp only; omega)) (fun _ hx => nomatch hx) rfl ?_
      rintro v h1 nw K hnw ⟨t, rfl, rfl, B, X1⟩
      dsimp only [Option.toList, List.cons_append, List.nil_append]
      refine WP.areturn (nw := [t]) dCRG_16 rfl rfl rfl ⟨t, rfl, rfl, B, X1⟩ (fun x hx => ?_) (fun x hx => List.mem_cons_of_mem _ hx) (by dsimp only; omega) (by dsimp only; omega)
      cases List.mem_singleton.mp hx; exact ⟨List.mem_cons_self .., hnw _ (by simp)⟩
    by_cases hi : i = 0
    · subst hi
      refine WP.ifF (pc' := 4) dCRG_1 rfl rfl ?_
      refine WP.iloadN (pc' := 5) dCRG_4 rfl rfl ?_
      refine WP.aloadN (pc' := 6) dCRG_5 rfl rfl rfl ?_
      refine WP.arraylength (pc' := 7) dCRG_6 A rfl rfl ?_
      refine WP.icmpF (pc' := 10) dCRG_7 rfl (fun q => h0 ⟨rfl, (n32_eq (by omega) hl).mp q⟩) ?_
      exact go
    · refine WP.ifT (pc' := 10) dCRG_1 (by decide) (by decide) (fun q => hi ((n32_eq (n := 0) (by omega) (by omega)).mp q)) ?_
      exact go
theorem dCPB_0 : decode jdk_65_method_121_code 0 = .ok (.iload_n 1, 1) := by decide +kernel
theorem dCPB_1 : decode jdk_65_method_121_code 1 = .ok (.aload_n 0, 1) := by decide +kernel
theorem dCPB_2 : decode jdk_65_method_121_code 2 = .ok (.arraylength, 1) := by decide +kernel
theorem dCPB_3 : decode jdk_65_method_121_code 3 = .ok (.if_icmp .ne 11, 3) := by decide +kernel
theorem dCPB_6 : decode jdk_65_method_121_code 6 = .ok (.aload_n 0, 1) := by decide +kernel
theorem dCPB_7 : decode jdk_65_method_121_code 7 = .ok (.invokevirtual 310, 3) := by decide +kernel
theorem dCPB_10 : decode jdk_65_method_121_code 10 = .ok (.checkcast 311, 3) := by decide +kernel
theorem dCPB_13 : decode jdk_65_method_121_code 13 = .ok (.areturn, 1) := by decide +kernel
theorem dCPB_14 : decode jdk_65_method_121_code 14 = .ok (.iload_n 1, 1) := by decide +kernel
theorem dCPB_15 : decode jdk_65_method_121_code 15 = .ok (.newarray .byte, 2) := by decide +kernel
theorem dCPB_17 : decode jdk_65_method_121_code 17 = .ok (.astore_n 2, 1) := by decide +kernel
theorem dCPB_18 : decode jdk_65_method_121_code 18 = .ok (.aload_n 0, 1) := by decide +kernel
theorem dCPB_19 : decode jdk_65_method_121_code 19 = .ok (.iconst 0, 1) := by decide +kernel
theorem dCPB_20 : decode jdk_65_method_121_code 20 = .ok (.aload_n 2, 1) := by decide +kernel
theorem dCPB_21 : decode jdk_65_method_121_code 21 = .ok (.iconst 0, 1) := by decide +kernel
theorem dCPB_22 : decode jdk_65_method_121_code 22 = .ok (.aload_n 0, 1) := by decide +kernel
theorem dCPB_23 : decode jdk_65_method_121_code 23 = .ok (.arraylength, 1) := by decide +kernel
theorem dCPB_24 : decode jdk_65_method_121_code 24 = .ok (.iload_n 1, 1) := by decide +kernel
theorem dCPB_25 : decode jdk_65_method_121_code 25 = .ok (.invokestatic 304, 3) := by decide +kernel
theorem dCPB_28 : decode jdk_65_method_121_code 28 = .ok (.invokestatic 150, 3) := by decide +kernel
theorem dCPB_31 : decode jdk_65_method_121_code 31 = .ok (.aload_n 2, 1) := by decide +kernel
theorem dCPB_32 : decode jdk_65_method_121_code 32 = .ok (.areturn, 1) := by decide +kernel
theorem pnCPB : plainFor (⟨"java/util/Arrays", "copyOf", "([BI)[B"⟩ : MethodName) = true := plainFor_of_name (by first | (simp [plainName, overriddenIn]; done) | decide +kernel)
set_option maxRecDepth 65536 in
set_option maxHeartbeats 40000000 in
theorem con_CPB (hw : ∀ d ∈ tables_1, d.before a0 Z = true) {c : Addr} {cs : List Int32} {n N : Nat} (hlt : cs.length < n) (hN : n ≤ N) (hn : N ≤ 67108864) (A : ArI Z h c .byte cs) (hfc : ∀ x ∈ cs, fits .byte (.int x) = true) : Con (⟨"java/util/Arrays", "copyOf", "([BI)[B"⟩ : MethodName) jdk_65_method_121_code 3 (some (.array .byte)) { frames := 1, cells := 1, slots := N, locals := 18 } Z LT [] #[.ref c, .int (Int32.ofNat n)] h [] mine (fun v h' nw => ∃ t, nw = [t] ∧ v = some (.ref t) ∧ ArI Z h' t .byte (cs ++ List.replicate (n - cs.length) 0) ∧ Exa Z h' t "[B") := by
  refine Con.of pnCPB (Ls := [.val (.ref c), .val (.int (Int32.ofNat n)), .unset]) (fun m => by first | (simp [entryFrame, mkF, argsToLocals, Value.category]; done) | (simp [entryFrame, mkF, argsToLocals, Value.category, maxLocals]; done) | rfl) ?_
  refine WP.iloadN (pc' := 1) dCPB_0 rfl rfl ?_
  refine WP.aloadN (pc' := 2) dCPB_1 rfl rfl rfl ?_
  refine WP.arraylength (pc' := 3) dCPB_2 A rfl rfl ?_
  refine WP.icmpT (pc' := 14) dCPB_3 (by decide) (by decide) (fun q => by have := (n32_eq (by omega) A.len).mp q; omega) ?_
  refine WP.iloadN (pc' := 15) dCPB_14 rfl rfl ?_
  refine WP.newarrayE (pc' := 17) (N := n) (ad := "[B") dCPB_15 (hw _ (List.mem_of_getElem? (i := 20) rfl)) (by decide) rfl (n32_toInt (by omega)) (by first | exact Nat.le_of_ble_eq_true rfl | omega | (simp; done) | (simp; omega) | (dsimp only; omega)) (by first | exact Nat.le_of_ble_eq_true rfl | omega | (simp; done) | (simp; omega) | (dsimp only; omega)) (by first | exact Nat.le_of_ble_eq_true rfl | omega | (simp; done) | (simp; omega) | (dsimp only; omega)) rfl ?_
  intro h1 t et nt mt E1 B X
  refine WP.astoreN (pc' := 18) dCPB_17 rfl rfl rfl rfl rfl ?_
  dsimp only [List.set]
  refine WP.aloadN (pc' := 19) dCPB_18 rfl rfl rfl ?_
  refine WP.iconst (pc' := 20) (x := 0) dCPB_19 (by decide) rfl ?_
  refine WP.aloadN (pc' := 21) dCPB_20 rfl rfl rfl ?_
  refine WP.iconst (pc' := 22) (x := 0) dCPB_21 (by decide) rfl ?_
  refine WP.aloadN (pc' := 23) dCPB_22 rfl rfl rfl ?_
  refine WP.arraylength (pc' := 24) dCPB_23 (A.ext E1) rfl rfl ?_
  refine WP.iloadN (pc' := 25) dCPB_24 rfl rfl ?_
  refine WP.callS (pc' := 28) (con_MIN A.len (by omega)) (hw _ (List.mem_of_getElem? (i := 161) rfl)) (hw _ (List.mem_of_getElem? (i := 162) rfl)) (hw _ (List.mem_of_getElem? (i := 153) rfl)) (hw _ (List.mem_of_getElem? (i := 163) rfl)) dCPB_25 (by decide) pdx9 rfl rfl rfl (by first | exact Nat.le_of_ble_eq_true rfl | omega | (simp; done) | (simp; omega) | (dsimp only; omega)) (by first | exact Nat.le_of_ble_eq_true rfl | omega | (simp; done) | (simp; omega) | (dsimp only; omega)) (by first | exact Nat.le_of_ble_eq_true rfl | omega | (simp; done) | (simp; omega) | (dsimp only; omega)) (by first | exact Nat.le_of_ble_eq_true rfl | omega | (simp; done) | (simp; omega) | (dsimp only; omega)) (fun _ hx => nomatch hx) rfl ?_
  rintro v h2 nw K hnw ⟨rfl, rfl, rfl⟩
  dsimp only [Option.toList, List.cons_append, List.nil_append]
  rw [Nat.min_eq_left (by omega)]
  refine WP.arraycopy (pc' := 31) (i := 0) (j := 0) (n := cs.length) (W := 0) (hw _ (List.mem_of_getElem? (i := 164) rfl)) (hw _ (List.mem_of_getElem? (i := 125) rfl)) (hw _ (List.mem_of_getElem? (i := 123) rfl)) (hw _ (List.mem_of_getElem? (i := 124) rfl)) dCPB_28 (A.ext E1) B rfl hfc (fun y hy => by rw [List.eq_of_mem_replicate hy]; rfl) (by decide) (by decide) (n32_toInt A.len) (by omega) (by simp; omega) (List.mem_cons_self ..) (Or.inr mt) rfl (Nat.le_of_ble_eq_true rfl) (by simp) (show 0 + (nativeFrameWords "java/lang/System" "arraycopy" 5 + 11) ≤ 18 by decide) rfl ?_
  intro h3 K3 C
  refine WP.aloadN (pc' := 32) dCPB_31 rfl rfl rfl ?_
  refine WP.areturn (nw := [t]) dCPB_32 rfl rfl rfl ⟨t, rfl, rfl, ?_, X.keep K3⟩ (fun x hx => ?_) (fun x hx => List.mem_cons_of_mem _ hx) (by dsimp only; omega) (by dsimp only; omega)
  · simpa using C
  · cases List.mem_singleton.mp hx; exact ⟨List.mem_cons_self .., mt⟩
end JdkCpb
end Jvm.Pilot.@@N@@

namespace Jvm.Pilot.@@N@@
open Jvm Jvm.ClassFile Sem Op Lib Jvm.Free Jvm.Stand Jvm.LawKit Jvm.RoadKit Bundle Jvm.Pilot.@@N@@.Jvm.D Jvm.OwnW
theorem pdx11 : parseMethodDescriptor "(III)I" = some ⟨[.int, .int, .int], some .int⟩ := by decide +kernel
theorem pdx12 : parseMethodDescriptor "(I)I" = some ⟨[.int], some .int⟩ := by decide +kernel
theorem pdx13 : parseMethodDescriptor "([BI)[B" = some ⟨[(.array .byte), .int], some (.array .byte)⟩ := by decide +kernel
section JdkSb
variable {Z : State} {a0 : Array Value} {h : Heap} {mine : List Addr}
abbrev SBN : String := "java/lang/StringBuilder"
abbrev ASBN : String := "java/lang/AbstractStringBuilder"
theorem n32_shl0 (x : Int32) : x <<< ((0 : Int32) &&& 31) = x := by simp
theorem n32_shr0 (x : Int32) : x >>> ((0 : Int32) &&& 31) = x := by
  have s := c_ishr x 0 0 (by decide)
  apply Int32.toInt_inj.mp
  rw [s]; simp
theorem s_vc (hw : ∀ d ∈ tables_1, d.before a0 Z = true) : Jvm.RoadKit.slotOf Z ASBN "value" "[B" ≠ Jvm.RoadKit.slotOf Z ASBN "coder" "B" := slot_ne (Or.inl (hw _ (List.mem_of_getElem? (i := 76) rfl))) (Or.inl (hw _ (List.mem_of_getElem? (i := 78) rfl))) (by decide) (t := .array .byte) (t' := .byte) (by decide) (by decide)
theorem s_vn (hw : ∀ d ∈ tables_1, d.before a0 Z = true) : Jvm.RoadKit.slotOf Z ASBN "value" "[B" ≠ Jvm.RoadKit.slotOf Z ASBN "count" "I" := slot_ne (Or.inl (hw _ (List.mem_of_getElem? (i := 76) rfl))) (Or.inl (hw _ (List.mem_of_getElem? (i := 100) rfl))) (by decide) (t := .array .byte) (t' := .int) (by decide) (by decide)
theorem s_cn (hw : ∀ d ∈ tables_1, d.before a0 Z = true) : Jvm.RoadKit.slotOf Z ASBN "coder" "B" ≠ Jvm.RoadKit.slotOf Z ASBN "count" "I" := slot_ne (Or.inl (hw _ (List.mem_of_getElem? (i := 78) rfl))) (Or.inl (hw _ (List.mem_of_getElem? (i := 100) rfl))) (by decide) (t := .byte) (t' := .int) (by decide) (by decide)
def ML (Z : State) (h : Heap) (b : Addr) : Prop := True
theorem ML.keep {h' : Heap} {b : Addr} {ws : List Addr} (M : ML Z h b) (K : Keep h h' ws) (q : b ∉ ws) : ML Z h' b := trivial
theorem ML.ext {h' : Heap} {b : Addr} (M : ML Z h b) (E : Ext h h') : ML Z h' b := trivial
theorem ML.ne {h' : Heap} {b x : Addr} {s : Nat} {w : Value} (M : ML Z h b) (W : Wr h h' x s w) (q : b ≠ x) : ML Z h' b := trivial
theorem ML.wv (hw : ∀ d ∈ tables_1, d.before a0 Z = true) {h' : Heap} {b : Addr} {w : Value} (M : ML Z h b) (W : Wr h h' b (Jvm.RoadKit.slotOf Z ASBN "value" "[B") w) : ML Z h' b := trivial
theorem ML.wc (hw : ∀ d ∈ tables_1, d.before a0 Z = true) {h' : Heap} {b : Addr} {w : Value} (M : ML Z h b) (W : Wr h h' b (Jvm.RoadKit.slotOf Z ASBN "coder" "B") w) : ML Z h' b := trivial
theorem ML.wn (hw : ∀ d ∈ tables_1, d.before a0 Z = true) {h' : Heap} {b : Addr} {w : Value} (M : ML Z h b) (W : Wr h h' b (Jvm.RoadKit.slotOf Z ASBN "count" "I") w) : ML Z h' b := trivial
/-- a StringBuilder with its array, raw -/
def SBr (Z : State) (h : Heap) (b v : Addr) (xs : List Int32) (cc : Int32) (n : Nat) : Prop := Exa Z h b SBN ∧ Fld Z h b ASBN "value" "[B" (.ref v) ∧ Fld Z h b ASBN "coder" "B" (.int cc) ∧ Fld Z h b ASBN "count" "I" (.int (Int32.ofNat n)) ∧ ML Z h b ∧ ArI Z h v .byte xs ∧ Exa Z h v "[B" ∧ b ≠ v ∧ (∀ x ∈ xs, fits .byte (.int x) = true)
theorem SBr.keep {h' : Heap} {b v : Addr} {xs : List Int32} {cc : Int32} {n : Nat} {ws : List Addr} (B : SBr Z h b v xs cc n) (K : Keep h h' ws) (q : b ∉ ws) (r : v ∉ ws) : SBr Z h' b v xs cc n := ⟨B.1.keep K, B.2.1.keep K q, B.2.2.1.keep K q, B.2.2.2.1.keep K q, B.2.2.2.2.1.keep K q, B.2.2.2.2.2.1.keep K r, B.2.2.2.2.2.2.1.keep K, B.2.2.2.2.2.2.2⟩
theorem dASI_0 : decode jdk_68_method_2_code 0 = .ok (.aload_n 0, 1) := by decide +kernel
theorem dASI_1 : decode jdk_68_method_2_code 1 = .ok (.invokespecial 3, 3) := by decide +kernel
theorem dASI_4 : decode jdk_68_method_2_code 4 = .ok (.getstatic 18, 3) := by decide +kernel
theorem dASI_7 : decode jdk_68_method_2_code 7 = .ok (.ifCond .eq 18, 3) := by decide +kernel
theorem dASI_10 : decode jdk_68_method_2_code 10 = .ok (.aload_n 0, 1) := by decide +kernel
theorem dASI_11 : decode jdk_68_method_2_code 11 = .ok (.iload_n 1, 1) := by decide +kernel
theorem dASI_12 : decode jdk_68_method_2_code 12 = .ok (.newarray .byte, 2) := by decide +kernel
theorem dASI_14 : decode jdk_68_method_2_code 14 = .ok (.putfield 15, 3) := by decide +kernel
theorem dASI_17 : decode jdk_68_method_2_code 17 = .ok (.aload_n 0, 1) := by decide +kernel
theorem dASI_18 : decode jdk_68_method_2_code 18 = .ok (.iconst 0, 1) := by decide +kernel
theorem dASI_19 : decode jdk_68_method_2_code 19 = .ok (.putfield 22, 3) := by decide +kernel
theorem dASI_22 : decode jdk_68_method_2_code 22 = .ok (.goto 16, 3) := by decide +kernel
theorem dASI_25 : decode jdk_68_method_2_code 25 = .ok (.aload_n 0, 1) := by decide +kernel
theorem dASI_26 : decode jdk_68_method_2_code 26 = .ok (.iload_n 1, 1) := by decide +kernel
theorem dASI_27 : decode jdk_68_method_2_code 27 = .ok (.invokestatic 26, 3) := by decide +kernel
theorem dASI_30 : decode jdk_68_method_2_code 30 = .ok (.putfield 15, 3) := by decide +kernel
theorem dASI_33 : decode jdk_68_method_2_code 33 = .ok (.aload_n 0, 1) := by decide +kernel
theorem dASI_34 : decode jdk_68_method_2_code 34 = .ok (.iconst 1, 1) := by decide +kernel
theorem dASI_35 : decode jdk_68_method_2_code 35 = .ok (.putfield 22, 3) := by decide +kernel
theorem dASI_38 : decode jdk_68_method_2_code 38 = .ok (.return_, 1) := by decide +kernel
theorem pnASI : plainFor (⟨"java/lang/AbstractStringBuilder", "<init>", "(I)V"⟩ : MethodName) = true := plainFor_of_name (by first | (simp [plainName, overriddenIn]; done) | decide +kernel)
set_option maxRecDepth 65536 in
set_option maxHeartbeats 40000000 in
theorem con_ASI (hw : ∀ d ∈ tables_1, d.before a0 Z = true) {cz : Int32} (hc : Compact Z cz) {b : Addr} {C : Nat} (hC : C ≤ 67108864) (E : Exa Z h b SBN) (F1 : Fld Z h b ASBN "value" "[B" .null) (F2 : Fld Z h b ASBN "coder" "B" (.int 0)) (F3 : Fld Z h b ASBN "count" "I" (.int 0)) (M : ML Z h b) (hm : b ∈ mine) : Con (⟨"java/lang/AbstractStringBuilder", "<init>", "(I)V"⟩ : MethodName) jdk_68_method_2_code 2 none { frames := 1, cells := 1, slots := C, locals := 12 } Z LT [] #[.ref b, .int (Int32.ofNat C)] h [b] mine (fun v h' nw => ∃ t, nw = [t] ∧ v = none ∧ SBr Z h' b t (List.replicate C 0) 0 0) := by
  have ws : b ∈ [b] ∨ h.size ≤ b := Or.inl (List.mem_singleton.mpr rfl)
  refine Con.of pnASI (Ls := [.val (.ref b), .val (.int (Int32.ofNat C))]) (fun m => by first | (simp [entryFrame, mkF, argsToLocals, Value.category]; done) | (simp [entryFrame, mkF, argsToLocals, Value.category, maxLocals]; done) | rfl) ?_
  refine WP.aloadN (pc' := 1) dASI_0 rfl rfl rfl ?_
  refine WP.initObj (pc' := 4) (W := 0) dASI_1 (hw _ (List.mem_of_getElem? (i := 73) rfl)) (hw _ (List.mem_of_getElem? (i := 13) rfl)) (hw _ (List.mem_of_getElem? (i := 14) rfl)) rfl (by first | exact Nat.le_of_ble_eq_true rfl | omega | (simp; done) | (simp; omega) | (dsimp only; omega)) (by first | exact Nat.le_of_ble_eq_true rfl | omega | (simp; done) | (simp; omega) | (dsimp only; omega)) (by first | exact Nat.le_of_ble_eq_true rfl | omega | (simp; done) | (simp; omega) | (dsimp only; omega)) rfl ?_
  refine WP.getstatic (pc' := 7) (host := "") dASI_4 (Or.inl (hw _ (List.mem_of_getElem? (i := 74) rfl))) Via.refl hc.1 rfl ?_
  refine WP.ifF (pc' := 10) dASI_7 rfl hc.2 ?_
  refine WP.aloadN (pc' := 11) dASI_10 rfl rfl rfl ?_
  refine WP.iloadN (pc' := 12) dASI_11 rfl rfl ?_
  refine WP.newarrayE (pc' := 14) (N := C) (ad := "[B") dASI_12 (hw _ (List.mem_of_getElem? (i := 20) rfl)) (by decide) rfl (n32_toInt (by omega)) (by first | exact Nat.le_of_ble_eq_true rfl | omega | (simp; done) | (simp; omega) | (dsimp only; omega)) (by first | exact Nat.le_of_ble_eq_true rfl | omega | (simp; done) | (simp; omega) | (dsimp only; omega)) (by first | exact Nat.le_of_ble_eq_true rfl | omega | (simp; done) | (simp; omega) | (dsimp only; omega)) rfl ?_
  intro h1 t et nt mt E1 A X
  have nbt : b ≠ t := fun q => nt (q ▸ hm)
  refine WP.putfield (pc' := 17) (host := "") dASI_14 (Or.inl (hw _ (List.mem_of_getElem? (i := 75) rfl))) Via.refl (F1.ext E1) (E.ext E1) (Or.inl (hw _ (List.mem_of_getElem? (i := 76) rfl))) (hw _ (List.mem_of_getElem? (i := 62) rfl)) (ty := (.array .byte)) (by decide) rfl rfl (List.mem_cons_of_mem _ hm) ws rfl ?_
  intro h2 W2 G2 E2
  refine WP.aloadN (pc' := 18) dASI_17 rfl rfl rfl ?_
  refine WP.iconst (pc' := 19) (x := 0) dASI_18 (by decide) rfl ?_
  refine WP.putfield (pc' := 22) (host := "") dASI_19 (Or.inl (hw _ (List.mem_of_getElem? (i := 77) rfl))) Via.refl ((F2.ext E1).other W2 (Or.inr (Ne.symm (s_vc hw)))) E2 (Or.inl (hw _ (List.mem_of_getElem? (i := 78) rfl))) (hw _ (List.mem_of_getElem? (i := 62) rfl)) (ty := .byte) (by decide) rfl rfl (List.mem_cons_of_mem _ hm) ws rfl ?_
  intro h3 W3 G3 E3
  refine WP.goto (pc' := 38) dASI_22 (by decide) (by decide) ?_
  refine WP.vret (nw := [t]) dASI_38 rfl ⟨t, rfl, rfl, E3, G2.other W3 (Or.inr (s_vc hw)), G3, ((F3.ext E1).other W2 (Or.inr (Ne.symm (s_vn hw)))).other W3 (Or.inr (Ne.symm (s_cn hw))), ((M.ext E1).wv hw W2).wc hw W3, (A.other W2 (Ne.symm nbt)).other W3 (Ne.symm nbt), (X.wr W2).wr W3, nbt, fun x hx => by rw [List.eq_of_mem_replicate hx]; rfl⟩ (fun x hx => ?_) (fun x hx => List.mem_cons_of_mem _ hx) (by dsimp only; omega) (by dsimp only; omega)
  cases List.mem_singleton.mp hx; exact ⟨List.mem_cons_self .., mt⟩
theorem dSBL_0 : decode jdk_68_method_68_code 0 = .ok (.getstatic 18, 3) := by decide +kernel
theorem dSBL_3 : decode jdk_68_method_68_code 3 = .ok (.ifCond .eq 14, 3) := by decide +kernel
theorem dSBL_6 : decode jdk_68_method_68_code 6 = .ok (.aload_n 0, 1) := by decide +kernel
theorem dSBL_7 : decode jdk_68_method_68_code 7 = .ok (.getfield 22, 3) := by decide +kernel
theorem dSBL_10 : decode jdk_68_method_68_code 10 = .ok (.ifCond .ne 7, 3) := by decide +kernel
theorem dSBL_13 : decode jdk_68_method_68_code 13 = .ok (.iconst 1, 1) := by decide +kernel
theorem dSBL_14 : decode jdk_68_method_68_code 14 = .ok (.goto 4, 3) := by decide +kernel
theorem dSBL_17 : decode jdk_68_method_68_code 17 = .ok (.iconst 0, 1) := by decide +kernel
theorem dSBL_18 : decode jdk_68_method_68_code 18 = .ok (.ireturn, 1) := by decide +kernel
theorem pnSBL : plainFor (⟨"java/lang/AbstractStringBuilder", "isLatin1", "()Z"⟩ : MethodName) = true := plainFor_of_name (by first | (simp [plainName, overriddenIn]; done) | decide +kernel)
set_option maxRecDepth 65536 in
set_option maxHeartbeats 40000000 in
theorem con_SBL (hw : ∀ d ∈ tables_1, d.before a0 Z = true) {cz : Int32} (hc : Compact Z cz) {b : Addr} {cc : Int32} (F : Fld Z h b ASBN "coder" "B" (.int cc)) : Con (⟨"java/lang/AbstractStringBuilder", "isLatin1", "()Z"⟩ : MethodName) jdk_68_method_68_code 1 (some .boolean) R0 Z LT [] #[.ref b] h [] mine (fun v h' nw => nw = [] ∧ v = some (.int (if cc = 0 then 1 else 0)) ∧ h' = h) := by
  refine Con.of pnSBL (Ls := [.val (.ref b)]) (fun m => by first | (simp [entryFrame, mkF, argsToLocals, Value.category]; done) | (simp [entryFrame, mkF, argsToLocals, Value.category, maxLocals]; done) | rfl) ?_
  refine WP.getstatic (pc' := 3) (host := "") dSBL_0 (Or.inl (hw _ (List.mem_of_getElem? (i := 74) rfl))) Via.refl hc.1 rfl ?_
  refine WP.ifF (pc' := 6) dSBL_3 rfl hc.2 ?_
  refine WP.aloadN (pc' := 7) dSBL_6 rfl rfl rfl ?_
  refine WP.getfield (pc' := 10) (host := "") dSBL_7 (Or.inl (hw _ (List.mem_of_getElem? (i := 77) rfl))) Via.refl F rfl ?_
  by_cases h0 : cc = 0
  · refine WP.ifF (pc' := 13) dSBL_10 rfl h0 ?_
    refine WP.iconst (pc' := 14) (x := 1) dSBL_13 (by decide) rfl ?_
    refine WP.goto (pc' := 18) dSBL_14 (by decide) (by decide) ?_
    exact WP.ireturn dSBL_18 rfl (by simp) rfl ⟨rfl, by rw [if_pos h0], rfl⟩ (fun _ hx => nomatch hx) (fun _ hx => hx) (by first | exact Nat.le_of_ble_eq_true rfl | omega) (by first | exact Nat.le_of_ble_eq_true rfl | omega)
  · refine WP.ifT (pc' := 17) dSBL_10 (by decide) (by decide) h0 ?_
    refine WP.iconst (pc' := 18) (x := 0) dSBL_17 (by decide) rfl ?_
    exact WP.ireturn dSBL_18 rfl (by simp) rfl ⟨rfl, by rw [if_neg h0], rfl⟩ (fun _ hx => nomatch hx) (fun _ hx => hx) (by first | exact Nat.le_of_ble_eq_true rfl | omega) (by first | exact Nat.le_of_ble_eq_true rfl | omega)
theorem dNLN_0 : decode jdk_48_method_27_code 0 = .ok (.iload_n 0, 1) := by decide +kernel
theorem dNLN_1 : decode jdk_48_method_27_code 1 = .ok (.iload_n 1, 1) := by decide +kernel
theorem dNLN_2 : decode jdk_48_method_27_code 2 = .ok (.iload_n 2, 1) := by decide +kernel
theorem dNLN_3 : decode jdk_48_method_27_code 3 = .ok (.invokestatic 194, 3) := by decide +kernel
theorem dNLN_6 : decode jdk_48_method_27_code 6 = .ok (.iadd, 1) := by decide +kernel
theorem dNLN_7 : decode jdk_48_method_27_code 7 = .ok (.istore_n 3, 1) := by decide +kernel
theorem dNLN_8 : decode jdk_48_method_27_code 8 = .ok (.iconst 0, 1) := by decide +kernel
theorem dNLN_9 : decode jdk_48_method_27_code 9 = .ok (.iload_n 3, 1) := by decide +kernel
theorem dNLN_10 : decode jdk_48_method_27_code 10 = .ok (.if_icmp .ge 11, 3) := by decide +kernel
theorem dNLN_13 : decode jdk_48_method_27_code 13 = .ok (.iload_n 3, 1) := by decide +kernel
theorem dNLN_14 : decode jdk_48_method_27_code 14 = .ok (.ldc 200, 2) := by decide +kernel
theorem dNLN_16 : decode jdk_48_method_27_code 16 = .ok (.if_icmp .gt 5, 3) := by decide +kernel
theorem dNLN_19 : decode jdk_48_method_27_code 19 = .ok (.iload_n 3, 1) := by decide +kernel
theorem dNLN_20 : decode jdk_48_method_27_code 20 = .ok (.ireturn, 1) := by decide +kernel
theorem dNLN_21 : decode jdk_48_method_27_code 21 = .ok (.iload_n 0, 1) := by decide +kernel
theorem dNLN_22 : decode jdk_48_method_27_code 22 = .ok (.iload_n 1, 1) := by decide +kernel
theorem dNLN_23 : decode jdk_48_method_27_code 23 = .ok (.invokestatic 201, 3) := by decide +kernel
theorem dNLN_26 : decode jdk_48_method_27_code 26 = .ok (.ireturn, 1) := by decide +kernel
theorem pnNLN : plainFor (⟨"jdk/internal/util/ArraysSupport", "newLength", "(III)I"⟩ : MethodName) = true := plainFor_of_name (by first | (simp [plainName, overriddenIn]; done) | decide +kernel)
set_option maxRecDepth 65536 in
set_option maxHeartbeats 40000000 in
theorem con_NLN (hw : ∀ d ∈ tables_1, d.before a0 Z = true) {i j k : Nat} (hp : 0 < i + max j k) (hb : i + max j k ≤ 2147483639) : Con (⟨"jdk/internal/util/ArraysSupport", "newLength", "(III)I"⟩ : MethodName) jdk_48_method_27_code 4 (some .int) { frames := 1, cells := 0, slots := 0, locals := 14 } Z LT [] #[.int (Int32.ofNat i), .int (Int32.ofNat j), .int (Int32.ofNat k)] h [] mine (fun v h' nw => nw = [] ∧ v = some (.int (Int32.ofNat (i + max j k))) ∧ h' = h) := by
  refine Con.of pnNLN (Ls := [.val (.int (Int32.ofNat i)), .val (.int (Int32.ofNat j)), .val (.int (Int32.ofNat k)), .unset]) (fun m => by first | (simp [entryFrame, mkF, argsToLocals, Value.category]; done) | (simp [entryFrame, mkF, argsToLocals, Value.category, maxLocals]; done) | rfl) ?_
  refine WP.iloadN (pc' := 1) dNLN_0 rfl rfl ?_
  refine WP.iloadN (pc' := 2) dNLN_1 rfl rfl ?_
  refine WP.iloadN (pc' := 3) dNLN_2 rfl rfl ?_
  refine WP.callS (pc' := 6) (con_MAX (i := j) (j := k) (by omega) (by omega)) (hw _ (List.mem_of_getElem? (i := 151) rfl)) (hw _ (List.mem_of_getElem? (i := 152) rfl)) (hw _ (List.mem_of_getElem? (i := 153) rfl)) (hw _ (List.mem_of_getElem? (i := 154) rfl)) dNLN_3 (by decide) pdx9 rfl rfl rfl (by first | exact Nat.le_of_ble_eq_true rfl | omega | (simp; done) | (simp; omega) | (dsimp only; omega)) (by first | exact Nat.le_of_ble_eq_true rfl | omega | (simp; done) | (simp; omega) | (dsimp only; omega)) (by first | exact Nat.le_of_ble_eq_true rfl | omega | (simp; done) | (simp; omega) | (dsimp only; omega)) (by first | exact Nat.le_of_ble_eq_true rfl | omega | (simp; done) | (simp; omega) | (dsimp only; omega)) (fun _ hx => nomatch hx) rfl ?_
  rintro v h1 nw K hnw ⟨rfl, rfl, rfl⟩
  dsimp only [Option.toList, List.cons_append, List.nil_append]
  refine WP.iadd (pc' := 7) dNLN_6 rfl ?_
  rw [n32_add]
  refine WP.istoreN (pc' := 8) dNLN_7 rfl rfl rfl ?_
  dsimp only [List.set]
  refine WP.iconst (pc' := 9) (x := 0) dNLN_8 (by decide) rfl ?_
  refine WP.iloadN (pc' := 10) dNLN_9 rfl rfl ?_
  refine WP.icmpF (pc' := 13) dNLN_10 rfl ((n32_lt (i := 0) (by omega) (by omega)).mpr hp) ?_
  refine WP.iloadN (pc' := 14) dNLN_13 rfl rfl ?_
  refine WP.ldcInt (pc' := 16) dNLN_14 (hw _ (List.mem_of_getElem? (i := 155) rfl)) rfl ?_
  refine WP.icmpF (pc' := 19) dNLN_16 rfl (fun q => by have := (n32_lt (i := 2147483639) (by omega) (by omega)).mp q; omega) ?_
  refine WP.iloadN (pc' := 20) dNLN_19 rfl rfl ?_
  exact WP.ireturn dNLN_20 rfl (by simp) rfl ⟨rfl, rfl, rfl⟩ (fun _ hx => nomatch hx) (fun _ hx => hx) (by first | exact Nat.le_of_ble_eq_true rfl | omega) (by first | exact Nat.le_of_ble_eq_true rfl | omega)
theorem dNCP_0 : decode jdk_68_method_10_code 0 = .ok (.aload_n 0, 1) := by decide +kernel
theorem dNCP_1 : decode jdk_68_method_10_code 1 = .ok (.getfield 15, 3) := by decide +kernel
theorem dNCP_4 : decode jdk_68_method_10_code 4 = .ok (.arraylength, 1) := by decide +kernel
theorem dNCP_5 : decode jdk_68_method_10_code 5 = .ok (.istore_n 2, 1) := by decide +kernel
theorem dNCP_6 : decode jdk_68_method_10_code 6 = .ok (.iload_n 1, 1) := by decide +kernel
theorem dNCP_7 : decode jdk_68_method_10_code 7 = .ok (.aload_n 0, 1) := by decide +kernel
theorem dNCP_8 : decode jdk_68_method_10_code 8 = .ok (.getfield 22, 3) := by decide +kernel
theorem dNCP_11 : decode jdk_68_method_10_code 11 = .ok (.ishl, 1) := by decide +kernel
theorem dNCP_12 : decode jdk_68_method_10_code 12 = .ok (.istore_n 3, 1) := by decide +kernel
theorem dNCP_13 : decode jdk_68_method_10_code 13 = .ok (.iload_n 3, 1) := by decide +kernel
theorem dNCP_14 : decode jdk_68_method_10_code 14 = .ok (.iload_n 2, 1) := by decide +kernel
theorem dNCP_15 : decode jdk_68_method_10_code 15 = .ok (.isub, 1) := by decide +kernel
theorem dNCP_16 : decode jdk_68_method_10_code 16 = .ok (.istore 4, 2) := by decide +kernel
theorem dNCP_18 : decode jdk_68_method_10_code 18 = .ok (.iload_n 2, 1) := by decide +kernel
theorem dNCP_19 : decode jdk_68_method_10_code 19 = .ok (.iload 4, 2) := by decide +kernel
theorem dNCP_21 : decode jdk_68_method_10_code 21 = .ok (.iload_n 2, 1) := by decide +kernel
theorem dNCP_22 : decode jdk_68_method_10_code 22 = .ok (.iconst 2, 1) := by decide +kernel
theorem dNCP_23 : decode jdk_68_method_10_code 23 = .ok (.aload_n 0, 1) := by decide +kernel
theorem dNCP_24 : decode jdk_68_method_10_code 24 = .ok (.getfield 22, 3) := by decide +kernel
theorem dNCP_27 : decode jdk_68_method_10_code 27 = .ok (.ishl, 1) := by decide +kernel
theorem dNCP_28 : decode jdk_68_method_10_code 28 = .ok (.iadd, 1) := by decide +kernel
theorem dNCP_29 : decode jdk_68_method_10_code 29 = .ok (.invokestatic 114, 3) := by decide +kernel
theorem dNCP_32 : decode jdk_68_method_10_code 32 = .ok (.istore 5, 2) := by decide +kernel
theorem dNCP_34 : decode jdk_68_method_10_code 34 = .ok (.iload 5, 2) := by decide +kernel
theorem dNCP_36 : decode jdk_68_method_10_code 36 = .ok (.ldc 39, 2) := by decide +kernel
theorem dNCP_38 : decode jdk_68_method_10_code 38 = .ok (.if_icmp .ne 13, 3) := by decide +kernel
theorem dNCP_41 : decode jdk_68_method_10_code 41 = .ok (.new 120, 3) := by decide +kernel
theorem dNCP_44 : decode jdk_68_method_10_code 44 = .ok (.dup, 1) := by decide +kernel
theorem dNCP_45 : decode jdk_68_method_10_code 45 = .ok (.ldc 122, 2) := by decide +kernel
theorem dNCP_47 : decode jdk_68_method_10_code 47 = .ok (.invokespecial 124, 3) := by decide +kernel
theorem dNCP_50 : decode jdk_68_method_10_code 50 = .ok (.athrow, 1) := by decide +kernel
theorem dNCP_51 : decode jdk_68_method_10_code 51 = .ok (.iload 5, 2) := by decide +kernel
theorem dNCP_53 : decode jdk_68_method_10_code 53 = .ok (.aload_n 0, 1) := by decide +kernel
theorem dNCP_54 : decode jdk_68_method_10_code 54 = .ok (.getfield 22, 3) := by decide +kernel
theorem dNCP_57 : decode jdk_68_method_10_code 57 = .ok (.ishr, 1) := by decide +kernel
theorem dNCP_58 : decode jdk_68_method_10_code 58 = .ok (.ireturn, 1) := by decide +kernel
theorem pnNCP : plainFor (⟨"java/lang/AbstractStringBuilder", "newCapacity", "(I)I"⟩ : MethodName) = true := plainFor_of_name (by first | (simp [plainName, overriddenIn]; done) | decide +kernel)
set_option maxRecDepth 65536 in
set_option maxHeartbeats 40000000 in
theorem con_NCP (hw : ∀ d ∈ tables_1, d.before a0 Z = true) {b v : Addr} {xs : List Int32} {cc : Int32} {n C m : Nat} (B : SBr Z h b v xs cc n) (hcc : (cc = 0 ∧ xs.length = C) ∨ (cc = 1 ∧ xs.length = 2 * C)) (hC : C ≤ 100000000) (hlt : C < m) (hm : m ≤ 100000000) : Con (⟨"java/lang/AbstractStringBuilder", "newCapacity", "(I)I"⟩ : MethodName) jdk_68_method_10_code 6 (some .int) { frames := 2, cells := 0, slots := 0, locals := 29 } Z LT [] #[.ref b, .int (Int32.ofNat m)] h [] mine (fun v h' nw => nw = [] ∧ v = some (.int (Int32.ofNat (max m (2 * C + 2)))) ∧ h' = h) := by
  obtain ⟨E, Fv, Fc, Fn, M, A, X, nbv, hfx⟩ := B
  refine Con.of pnNCP (Ls := [.val (.ref b), .val (.int (Int32.ofNat m)), .unset, .unset, .unset, .unset]) (fun m => by first | (simp [entryFrame, mkF, argsToLocals, Value.category]; done) | (simp [entryFrame, mkF, argsToLocals, Value.category, maxLocals]; done) | rfl) ?_
  refine WP.aloadN (pc' := 1) dNCP_0 rfl rfl rfl ?_
  refine WP.getfield (pc' := 4) (host := "") dNCP_1 (Or.inl (hw _ (List.mem_of_getElem? (i := 75) rfl))) Via.refl Fv rfl ?_
  refine WP.arraylength (pc' := 5) dNCP_4 A rfl rfl ?_
  refine WP.istoreN (pc' := 6) dNCP_5 rfl rfl rfl ?_
  dsimp only [List.set]
  refine WP.iloadN (pc' := 7) dNCP_6 rfl rfl ?_
  refine WP.aloadN (pc' := 8) dNCP_7 rfl rfl rfl ?_
  refine WP.getfield (pc' := 11) (host := "") dNCP_8 (Or.inl (hw _ (List.mem_of_getElem? (i := 77) rfl))) Via.refl Fc rfl ?_
  refine WP.ishl (pc' := 12) dNCP_11 rfl ?_
  rcases hcc with ⟨rfl, hx⟩ | ⟨rfl, hx⟩
  · rw [n32_shl0, hx]
    refine WP.istoreN (pc' := 13) dNCP_12 rfl rfl rfl ?_
    dsimp only [List.set]
    refine WP.iloadN (pc' := 14) dNCP_13 rfl rfl ?_
    refine WP.iloadN (pc' := 15) dNCP_14 rfl rfl ?_
    refine WP.isub (pc' := 16) dNCP_15 rfl ?_
    rw [n32_sub (by omega) (by omega)]
    refine WP.istore (pc' := 18) dNCP_16 rfl rfl rfl ?_
    dsimp only [List.set]
    refine WP.iloadN (pc' := 19) dNCP_18 rfl rfl ?_
    refine WP.iload (pc' := 21) dNCP_19 rfl rfl ?_
    refine WP.iloadN (pc' := 22) dNCP_21 rfl rfl ?_
    refine WP.iconst (pc' := 23) (x := 2) dNCP_22 (by decide) rfl ?_
    refine WP.aloadN (pc' := 24) dNCP_23 rfl rfl rfl ?_
    refine WP.getfield (pc' := 27) (host := "") dNCP_24 (Or.inl (hw _ (List.mem_of_getElem? (i := 77) rfl))) Via.refl Fc rfl ?_
    refine WP.ishl (pc' := 28) dNCP_27 rfl ?_
    rw [n32_shl0]
    refine WP.iadd (pc' := 29) dNCP_28 rfl ?_
    rw [show Int32.ofNat C + 2 = Int32.ofNat (C + 2) from n32_add C 2]
    refine WP.callS (pc' := 32) (con_NLN hw (i := C) (j := m - C) (k := C + 2) (by omega) (by omega)) (hw _ (List.mem_of_getElem? (i := 147) rfl)) (hw _ (List.mem_of_getElem? (i := 148) rfl)) (hw _ (List.mem_of_getElem? (i := 149) rfl)) (hw _ (List.mem_of_getElem? (i := 150) rfl)) dNCP_29 (by decide) pdx11 rfl rfl rfl (by first | exact Nat.le_of_ble_eq_true rfl | omega | (simp; done) | (simp; omega) | (dsimp only; omega)) (by first | exact Nat.le_of_ble_eq_true rfl | omega | (simp; done) | (simp; omega) | (dsimp only; omega)) (by first | exact Nat.le_of_ble_eq_true rfl | omega | (simp; done) | (simp; omega) | (dsimp only; omega)) (by first | exact Nat.le_of_ble_eq_true rfl | omega | (simp; done) | (simp; omega) | (dsimp only; omega)) (fun _ hx => nomatch hx) rfl ?_
    rintro v h1 nw K hnw ⟨rfl, rfl, rfl⟩
    dsimp only [Option.toList, List.cons_append, List.nil_append]
    rw [show C + max (m - C) (C + 2) = max m (2 * C + 2) by omega]
    refine WP.istore (pc' := 34) dNCP_32 rfl rfl rfl ?_
    dsimp only [List.set]
    refine WP.iload (pc' := 36) dNCP_34 rfl rfl ?_
    refine WP.ldcInt (pc' := 38) dNCP_36 (hw _ (List.mem_of_getElem? (i := 156) rfl)) rfl ?_
    refine WP.icmpT (pc' := 51) dNCP_38 (by decide) (by decide) (fun q => by have := (n32_eq (n := 2147483647) (by omega) (by omega)).mp q; omega) ?_
    refine WP.iload (pc' := 53) dNCP_51 rfl rfl ?_
    refine WP.aloadN (pc' := 54) dNCP_53 rfl rfl rfl ?_
    refine WP.getfield (pc' := 57) (host := "") dNCP_54 (Or.inl (hw _ (List.mem_of_getElem? (i := 77) rfl))) Via.refl Fc rfl ?_
    refine WP.ishr (pc' := 58) dNCP_57 rfl ?_
    rw [n32_shr0]
    exact WP.ireturn dNCP_58 rfl (by simp) rfl ⟨rfl, rfl, rfl⟩ (fun _ hx => nomatch hx) (fun _ hx => hx) (by first | exact Nat.le_of_ble_eq_true rfl | omega) (by first | exact Nat.le_of_ble_eq_true rfl | omega)
  · rw [n32_shl1 (by omega), hx]
    refine WP.istoreN (pc' := 13) dNCP_12 rfl rfl rfl ?_
    dsimp only [List.set]
    refine WP.iloadN (pc' := 14) dNCP_13 rfl rfl ?_
    refine WP.iloadN (pc' := 15) dNCP_14 rfl rfl ?_
    refine WP.isub (pc' := 16) dNCP_15 rfl ?_
    rw [n32_sub (by omega) (by omega)]
    refine WP.istore (pc' := 18) dNCP_16 rfl rfl rfl ?_
    dsimp only [List.set]
    refine WP.iloadN (pc' := 19) dNCP_18 rfl rfl ?_
    refine WP.iload (pc' := 21) dNCP_19 rfl rfl ?_
    refine WP.iloadN (pc' := 22) dNCP_21 rfl rfl ?_
    refine WP.iconst (pc' := 23) (x := 2) dNCP_22 (by decide) rfl ?_
    refine WP.aloadN (pc' := 24) dNCP_23 rfl rfl rfl ?_
    refine WP.getfield (pc' := 27) (host := "") dNCP_24 (Or.inl (hw _ (List.mem_of_getElem? (i := 77) rfl))) Via.refl Fc rfl ?_
    refine WP.ishl (pc' := 28) dNCP_27 rfl ?_
    rw [show (2 : Int32) <<< ((1 : Int32) &&& 31) = 4 by decide]
    refine WP.iadd (pc' := 29) dNCP_28 rfl ?_
    rw [show Int32.ofNat (2 * C) + 4 = Int32.ofNat (2 * C + 4) from n32_add (2 * C) 4]
    refine WP.callS (pc' := 32) (con_NLN hw (i := 2 * C) (j := 2 * m - 2 * C) (k := 2 * C + 4) (by omega) (by omega)) (hw _ (List.mem_of_getElem? (i := 147) rfl)) (hw _ (List.mem_of_getElem? (i := 148) rfl)) (hw _ (List.mem_of_getElem? (i := 149) rfl)) (hw _ (List.mem_of_getElem? (i := 150) rfl)) dNCP_29 (by decide) pdx11 rfl rfl rfl (by first | exact Nat.le_of_ble_eq_true rfl | omega | (simp; done) | (simp; omega) | (dsimp only; omega)) (by first | exact Nat.le_of_ble_eq_true rfl | omega | (simp; done) | (simp; omega) | (dsimp only; omega)) (by first | exact Nat.le_of_ble_eq_true rfl | omega | (simp; done) | (simp; omega) | (dsimp only; omega)) (by first | exact Nat.le_of_ble_eq_true rfl | omega | (simp; done) | (simp; omega) | (dsimp only; omega)) (fun _ hx => nomatch hx) rfl ?_
    rintro v h1 nw K hnw ⟨rfl, rfl, rfl⟩
    dsimp only [Option.toList, List.cons_append, List.nil_append]
    rw [show 2 * C + max (2 * m - 2 * C) (2 * C + 4) = 2 * max m (2 * C + 2) by omega]
    refine WP.istore (pc' := 34) dNCP_32 rfl rfl rfl ?_
    dsimp only [List.set]
    refine WP.iload (pc' := 36) dNCP_34 rfl rfl ?_
    refine WP.ldcInt (pc' := 38) dNCP_36 (hw _ (List.mem_of_getElem? (i := 156) rfl)) rfl ?_
    refine WP.icmpT (pc' := 51) dNCP_38 (by decide) (by decide) (fun q => by have := (n32_eq (n := 2147483647) (by omega) (by omega)).mp q; omega) ?_
    refine WP.iload (pc' := 53) dNCP_51 rfl rfl ?_
    refine WP.aloadN (pc' := 54) dNCP_53 rfl rfl rfl ?_
    refine WP.getfield (pc' := 57) (host := "") dNCP_54 (Or.inl (hw _ (List.mem_of_getElem? (i := 77) rfl))) Via.refl Fc rfl ?_
    refine WP.ishr (pc' := 58) dNCP_57 rfl ?_
    rw [n32_half (by omega)]
    exact WP.ireturn dNCP_58 rfl (by simp) rfl ⟨rfl, rfl, rfl⟩ (fun _ hx => nomatch hx) (fun _ hx => hx) (by first | exact Nat.le_of_ble_eq_true rfl | omega) (by first | exact Nat.le_of_ble_eq_true rfl | omega)
theorem dECI_0 : decode jdk_68_method_9_code 0 = .ok (.aload_n 0, 1) := by decide +kernel
theorem dECI_1 : decode jdk_68_method_9_code 1 = .ok (.getfield 15, 3) := by decide +kernel
theorem dECI_4 : decode jdk_68_method_9_code 4 = .ok (.arraylength, 1) := by decide +kernel
theorem dECI_5 : decode jdk_68_method_9_code 5 = .ok (.aload_n 0, 1) := by decide +kernel
theorem dECI_6 : decode jdk_68_method_9_code 6 = .ok (.getfield 22, 3) := by decide +kernel
theorem dECI_9 : decode jdk_68_method_9_code 9 = .ok (.ishr, 1) := by decide +kernel
theorem dECI_10 : decode jdk_68_method_9_code 10 = .ok (.istore_n 2, 1) := by decide +kernel
theorem dECI_11 : decode jdk_68_method_9_code 11 = .ok (.iload_n 1, 1) := by decide +kernel
theorem dECI_12 : decode jdk_68_method_9_code 12 = .ok (.iload_n 2, 1) := by decide +kernel
theorem dECI_13 : decode jdk_68_method_9_code 13 = .ok (.isub, 1) := by decide +kernel
theorem dECI_14 : decode jdk_68_method_9_code 14 = .ok (.ifCond .le 24, 3) := by decide +kernel
theorem dECI_17 : decode jdk_68_method_9_code 17 = .ok (.aload_n 0, 1) := by decide +kernel
theorem dECI_18 : decode jdk_68_method_9_code 18 = .ok (.aload_n 0, 1) := by decide +kernel
theorem dECI_19 : decode jdk_68_method_9_code 19 = .ok (.getfield 15, 3) := by decide +kernel
theorem dECI_22 : decode jdk_68_method_9_code 22 = .ok (.aload_n 0, 1) := by decide +kernel
theorem dECI_23 : decode jdk_68_method_9_code 23 = .ok (.iload_n 1, 1) := by decide +kernel
theorem dECI_24 : decode jdk_68_method_9_code 24 = .ok (.invokevirtual 104, 3) := by decide +kernel
theorem dECI_27 : decode jdk_68_method_9_code 27 = .ok (.aload_n 0, 1) := by decide +kernel
theorem dECI_28 : decode jdk_68_method_9_code 28 = .ok (.getfield 22, 3) := by decide +kernel
theorem dECI_31 : decode jdk_68_method_9_code 31 = .ok (.ishl, 1) := by decide +kernel
theorem dECI_32 : decode jdk_68_method_9_code 32 = .ok (.invokestatic 108, 3) := by decide +kernel
theorem dECI_35 : decode jdk_68_method_9_code 35 = .ok (.putfield 15, 3) := by decide +kernel
theorem dECI_38 : decode jdk_68_method_9_code 38 = .ok (.return_, 1) := by decide +kernel
theorem pnECI : plainFor (⟨"java/lang/AbstractStringBuilder", "ensureCapacityInternal", "(I)V"⟩ : MethodName) = true := plainFor_of_name (by first | (simp [plainName, overriddenIn]; done) | decide +kernel)
set_option maxRecDepth 65536 in
set_option maxHeartbeats 40000000 in
theorem con_ECI (hw : ∀ d ∈ tables_1, d.before a0 Z = true) {b v : Addr} {xs : List Int32} {cc : Int32} {n C m N D : Nat} (B : SBr Z h b v xs cc n) (hcc : (cc = 0 ∧ xs.length = C) ∨ (cc = 1 ∧ xs.length = 2 * C)) (hD : D = max m (2 * C + 2)) (hN : 2 * D ≤ N) (hN2 : N ≤ 67108864) (hb : b ∈ mine) : Con (⟨"java/lang/AbstractStringBuilder", "ensureCapacityInternal", "(I)V"⟩ : MethodName) jdk_68_method_9_code 3 none { frames := 3, cells := 1, slots := N, locals := 49 } Z LT [] #[.ref b, .int (Int32.ofNat m)] h [b] mine (fun w h' nw => w = none ∧ ∃ v' C' zs, ((nw = [] ∧ v' = v) ∨ nw = [v']) ∧ SBr Z h' b v' (xs ++ zs) cc n ∧ ((cc = 0 ∧ (xs ++ zs).length = C') ∨ (cc = 1 ∧ (xs ++ zs).length = 2 * C')) ∧ m ≤ C' ∧ ((C' = C) ∨ (C < m ∧ C' = D))) := by
  have B0 := B
  obtain ⟨E, Fv, Fc, Fn, M, A, X, nbv, hfx⟩ := B
  refine Con.of pnECI (Ls := [.val (.ref b), .val (.int (Int32.ofNat m)), .unset]) (fun m => by first | (simp [entryFrame, mkF, argsToLocals, Value.category]; done) | (simp [entryFrame, mkF, argsToLocals, Value.category, maxLocals]; done) | rfl) ?_
  refine WP.know fun _ _ hmine => ?_
  have hbs := (hmine b hb).2
  refine WP.aloadN (pc' := 1) dECI_0 rfl rfl rfl ?_
  refine WP.getfield (pc' := 4) (host := "") dECI_1 (Or.inl (hw _ (List.mem_of_getElem? (i := 75) rfl))) Via.refl Fv rfl ?_
  refine WP.arraylength (pc' := 5) dECI_4 A rfl rfl ?_
  refine WP.aloadN (pc' := 6) dECI_5 rfl rfl rfl ?_
  refine WP.getfield (pc' := 9) (host := "") dECI_6 (Or.inl (hw _ (List.mem_of_getElem? (i := 77) rfl))) Via.refl Fc rfl ?_
  refine WP.ishr (pc' := 10) dECI_9 rfl ?_
  have hsh : Int32.ofNat xs.length >>> (cc &&& 31) = Int32.ofNat C := by
    rcases hcc with ⟨rfl, hx⟩ | ⟨rfl, hx⟩
    · rw [n32_shr0, hx]
    · rw [hx, n32_half (by omega)]
  rw [hsh]
  refine WP.istoreN (pc' := 11) dECI_10 rfl rfl rfl ?_
  dsimp only [List.set]
  refine WP.iloadN (pc' := 12) dECI_11 rfl rfl ?_
  refine WP.iloadN (pc' := 13) dECI_12 rfl rfl ?_
  refine WP.isub (pc' := 14) dECI_13 rfl ?_
  by_cases hle : m ≤ C
  · have hneg : ¬ 0 < Int32.ofNat m - Int32.ofNat C := fun q => by
      have s := c_isub (Int32.ofNat m) (Int32.ofNat C)
      have r := rng32 (Int32.ofNat m - Int32.ofNat C)
      rw [n32_toInt (by omega), n32_toInt (by omega)] at s
      rw [Int32.lt_iff_toInt_lt] at q
      have e0 : (0 : Int32).toInt = 0 := rfl
      omega
    refine WP.ifT (pc' := 38) dECI_14 (by decide) (by decide) hneg ?_
    exact WP.vret (nw := []) dECI_38 rfl ⟨rfl, v, C, [], Or.inl ⟨rfl, rfl⟩, by rw [List.append_nil]; exact B0, by rw [List.append_nil]; exact hcc, hle, Or.inl rfl⟩ (fun _ hx => nomatch hx) (fun _ hx => hx) (by first | exact Nat.le_of_ble_eq_true rfl | omega) (by first | exact Nat.le_of_ble_eq_true rfl | omega)
  · rw [n32_sub (by omega) (by omega)]
    refine WP.ifF (pc' := 17) dECI_14 rfl ((n32_lt (i := 0) (by omega) (by omega)).mpr (by omega)) ?_
    refine WP.aloadN (pc' := 18) dECI_17 rfl rfl rfl ?_
    refine WP.aloadN (pc' := 19) dECI_18 rfl rfl rfl ?_
    refine WP.getfield (pc' := 22) (host := "") dECI_19 (Or.inl (hw _ (List.mem_of_getElem? (i := 75) rfl))) Via.refl Fv rfl ?_
    refine WP.aloadN (pc' := 23) dECI_22 rfl rfl rfl ?_
    refine WP.iloadN (pc' := 24) dECI_23 rfl rfl ?_
    refine WP.callPn (pc' := 27) (con_NCP hw B0 hcc (by omega) (by omega) (by omega)) E.cell (hw _ (List.mem_of_getElem? (i := 142) rfl)) (hw _ (List.mem_of_getElem? (i := 143) rfl)) (hw _ (List.mem_of_getElem? (i := 144) rfl)) (fun s hs => (ni_sel (y := ({ cls := "java/lang/AbstractStringBuilder", name := "ensureCapacityInternal", desc := "(I)V" } : Jvm.MethodName)) (args := #[]) (mv hs (hw _ (List.mem_of_getElem? (i := 104) rfl))))) (hw _ (List.mem_of_getElem? (i := 71) rfl)) (hw _ (List.mem_of_getElem? (i := 146) rfl)) dECI_24 (by decide) pdx12 rfl rfl rfl (by first | exact Nat.le_of_ble_eq_true rfl | omega | (simp; done) | (simp; omega) | (dsimp only; omega)) (by first | exact Nat.le_of_ble_eq_true rfl | omega | (simp; done) | (simp; omega) | (dsimp only; omega)) (by first | exact Nat.le_of_ble_eq_true rfl | omega | (simp; done) | (simp; omega) | (dsimp only; omega)) (by first | exact Nat.le_of_ble_eq_true rfl | omega | (simp; done) | (simp; omega) | (dsimp only; omega)) (fun _ hx => nomatch hx) rfl ?_
    rintro w h1 nw K hnw ⟨rfl, rfl, rfl⟩
    dsimp only [Option.toList, List.cons_append, List.nil_append]
    rw [← hD]
    refine WP.aloadN (pc' := 28) dECI_27 rfl rfl rfl ?_
    refine WP.getfield (pc' := 31) (host := "") dECI_28 (Or.inl (hw _ (List.mem_of_getElem? (i := 77) rfl))) Via.refl Fc rfl ?_
    refine WP.ishl (pc' := 32) dECI_31 rfl ?_
    obtain ⟨L, hL, hL2, hL3⟩ : ∃ L, Int32.ofNat D <<< (cc &&& 31) = Int32.ofNat L ∧ xs.length < L ∧ L ≤ N ∧ ((cc = 0 ∧ L = D) ∨ (cc = 1 ∧ L = 2 * D)) := by
      rcases hcc with ⟨rfl, hx⟩ | ⟨rfl, hx⟩
      · exact ⟨D, n32_shl0 _, by omega, by omega, Or.inl ⟨rfl, rfl⟩⟩
      · exact ⟨2 * D, n32_shl1 (by omega), by omega, by omega, Or.inr ⟨rfl, rfl⟩⟩
    rw [hL]
    refine WP.callS (pc' := 35) (con_CPB hw (n := L) hL2 hL3.1 hN2 A hfx) (hw _ (List.mem_of_getElem? (i := 157) rfl)) (hw _ (List.mem_of_getElem? (i := 158) rfl)) (hw _ (List.mem_of_getElem? (i := 159) rfl)) (hw _ (List.mem_of_getElem? (i := 160) rfl)) dECI_32 (by decide) pdx13 rfl rfl rfl (by first | exact Nat.le_of_ble_eq_true rfl | omega | (simp; done) | (simp; omega) | (dsimp only; omega)) (by first | exact Nat.le_of_ble_eq_true rfl | omega | (simp; done) | (simp; omega) | (dsimp only; omega)) (by first | exact Nat.le_of_ble_eq_true rfl | omega | (simp; done) | (simp; omega) | (dsimp only; omega)) (by first | exact Nat.le_of_ble_eq_true rfl | omega | (simp; done) | (simp; omega) | (dsimp only; omega)) (fun _ hx => nomatch hx) rfl ?_
    rintro w h1 nw K1 hnw1 ⟨t, rfl, rfl, T, XT⟩
    dsimp only [Option.toList, List.cons_append, List.nil_append]
    have ht := hnw1 t (by simp)
    have nbt : b ≠ t := fun q => absurd hbs (Nat.not_lt.mpr (q ▸ ht))
    refine WP.putfield (pc' := 38) (host := "") dECI_35 (Or.inl (hw _ (List.mem_of_getElem? (i := 75) rfl))) Via.refl (Fv.keep K1 nin0) (E.keep K1) (Or.inl (hw _ (List.mem_of_getElem? (i := 76) rfl))) (hw _ (List.mem_of_getElem? (i := 62) rfl)) (ty := (.array .byte)) (by decide) rfl rfl (List.mem_cons_of_mem _ hb) (Or.inl (List.mem_singleton.mpr rfl)) rfl ?_
    intro h2 W2 G2 E2
    refine WP.vret (nw := [t]) dECI_38 rfl ⟨rfl, t, D, List.replicate (L - xs.length) 0, Or.inr rfl, ⟨E2, G2, (Fc.keep K1 nin0).other W2 (Or.inr (Ne.symm (s_vc hw))), (Fn.keep K1 nin0).other W2 (Or.inr (Ne.symm (s_vn hw))), (M.keep K1 nin0).wv hw W2, T.other W2 (Ne.symm nbt), XT.wr W2, nbt, fun x hx => ?_⟩, ?_, by omega, Or.inr ⟨by omega, rfl⟩⟩ (fun x hx => ?_) (fun x hx => List.mem_cons_of_mem _ hx) (by dsimp only; omega) (by dsimp only; omega)
    · rcases List.mem_append.mp hx with q | q
      · exact hfx x q
      · rw [List.eq_of_mem_replicate q]; rfl
    · have hl : (xs ++ List.replicate (L - xs.length) (0 : Int32)).length = L := by simp; omega
      rw [hl]
      exact hL3.2
    · cases List.mem_singleton.mp hx; exact ⟨List.mem_cons_self .., ht⟩
end JdkSb
end Jvm.Pilot.@@N@@

namespace Jvm.Pilot.@@N@@
open Jvm Jvm.ClassFile Sem Op Lib Jvm.Free Jvm.Stand Jvm.LawKit Jvm.RoadKit Bundle Jvm.Pilot.@@N@@.Jvm.D Jvm.OwnW

section JdkSb2
variable {Z : State} {a0 : Array Value} {h : Heap} {mine : List Addr}
theorem lo8_fits (u : UInt16) : fits .byte (.int (lo8 u)) = true := by
  have e := lo8_toInt u
  simp only [fits, Bool.and_eq_true, decide_eq_true_eq, Int32.le_iff_toInt_le]
  have e0 : (-128 : Int32).toInt = -128 := rfl
  have e1 : (127 : Int32).toInt = 127 := rfl
  split at e <;> omega
theorem hi8_fits (u : UInt16) : fits .byte (.int (hi8 u)) = true := by
  have e := hi8_toInt u
  have l : u.toNat < 65536 := u.toNat_lt
  simp only [fits, Bool.and_eq_true, decide_eq_true_eq, Int32.le_iff_toInt_le]
  have e0 : (-128 : Int32).toInt = -128 := rfl
  have e1 : (127 : Int32).toInt = 127 := rfl
  split at e <;> omega
theorem b16_fits {us : List UInt16} : ∀ x ∈ b16 us, fits .byte (.int x) = true := fun x hx => by
  simp only [b16, List.mem_flatMap] at hx
  obtain ⟨u, -, hx⟩ := hx
  rcases List.mem_cons.mp hx with rfl | hx
  · exact lo8_fits u
  · cases List.mem_singleton.mp hx; exact hi8_fits u
theorem lo8s_fits {us : List UInt16} : ∀ x ∈ us.map lo8, fits .byte (.int x) = true := fun x hx => by
  obtain ⟨u, -, rfl⟩ := List.mem_map.mp hx; exact lo8_fits u
theorem app_fits {xs ys : List Int32} (h1 : ∀ x ∈ xs, fits .byte (.int x) = true) (h2 : ∀ x ∈ ys, fits .byte (.int x) = true) : ∀ x ∈ xs ++ ys, fits .byte (.int x) = true := fun x hx => (List.mem_append.mp hx).elim (h1 x) (h2 x)
theorem rep_fits {n : Nat} : ∀ x ∈ List.replicate n (0 : Int32), fits .byte (.int x) = true := fun x hx => by rw [List.eq_of_mem_replicate hx]; rfl
end JdkSb2
end Jvm.Pilot.@@N@@

namespace Jvm.Pilot.@@N@@
open Jvm Jvm.ClassFile Sem Op Lib Jvm.Free Jvm.Stand Jvm.LawKit Jvm.RoadKit Bundle Jvm.Pilot.@@N@@.Jvm.D Jvm.OwnW

section JdkSb3
variable {Z : State} {a0 : Array Value} {h : Heap} {mine : List Addr}
def wid (us : List UInt16) : Nat := if lat us = true then 1 else 2
/-- a StringBuilder that holds these units, its capacity C -/
def SB (Z : State) (h : Heap) (b v : Addr) (us : List UInt16) (C : Nat) : Prop := ∃ pad, SBr Z h b v (byt us ++ pad) (cod us) us.length ∧ (byt us ++ pad).length = wid us * C
theorem SB.keep {h' : Heap} {b v : Addr} {us : List UInt16} {C : Nat} {ws : List Addr} (B : SB Z h b v us C) (K : Keep h h' ws) (q : b ∉ ws) (r : v ∉ ws) : SB Z h' b v us C := by
  obtain ⟨pad, B, hl⟩ := B
  exact ⟨pad, B.keep K q r, hl⟩
theorem SB.exa {b v : Addr} {us : List UInt16} {C : Nat} (B : SB Z h b v us C) : Exa Z h b SBN := by obtain ⟨pad, B, -⟩ := B; exact B.1
theorem byt_len (us : List UInt16) : (byt us).length = wid us * us.length := by
  unfold byt wid
  split <;> simp [b16_len]
theorem lat_app (us : List UInt16) (u : UInt16) : lat (us ++ [u]) = (lat us && decide (u < 256)) := by simp [lat, List.all_append]
theorem b16_put {us : List UInt16} {pad : List Int32} {u : UInt16} (h : 2 ≤ pad.length) : ((b16 us ++ pad).set (2 * us.length) (lo8 u)).set (2 * us.length + 1) (hi8 u) = b16 (us ++ [u]) ++ pad.drop 2 := by
  rcases pad with _ | ⟨p, _ | ⟨q, pad⟩⟩
  · simp at h
  · simp at h
  · have hl := b16_len us
    rw [take_set hl (by simp [hl]), List.drop_succ_cons, List.drop_zero]
    rw [show b16 us ++ lo8 u :: q :: pad = (b16 us ++ [lo8 u]) ++ (q :: pad) by simp]
    rw [take_set (by simp [hl]) (by simp [hl]), b16_app]
    simp [b16]
theorem lo8_put {us : List UInt16} {pad : List Int32} {u : UInt16} (h : 1 ≤ pad.length) : (us.map lo8 ++ pad).set us.length (lo8 u) = (us ++ [u]).map lo8 ++ pad.drop 1 := by
  rw [take_set (by simp) (by simp; omega)]; simp
end JdkSb3
end Jvm.Pilot.@@N@@

namespace Jvm.Pilot.@@N@@
open Jvm Jvm.ClassFile Sem Op Lib Jvm.Free Jvm.Stand Jvm.LawKit Jvm.RoadKit Bundle Jvm.Pilot.@@N@@.Jvm.D Jvm.OwnW
theorem pdx14 : parseMethodDescriptor "()I" = some ⟨[], some .int⟩ := by decide +kernel
theorem pdx15 : parseMethodDescriptor "()[B" = some ⟨[], some (.array .byte)⟩ := by decide +kernel
theorem pdx16 : parseMethodDescriptor "(Ljava/lang/AbstractStringBuilder;Ljava/lang/Void;)V" = some ⟨[(.object "java/lang/AbstractStringBuilder"), (.object "java/lang/Void")], none⟩ := by decide +kernel
theorem pdx17 : parseMethodDescriptor "(Ljava/lang/StringBuilder;)V" = some ⟨[(.object "java/lang/StringBuilder")], none⟩ := by decide +kernel
section JdkSb4
variable {Z : State} {a0 : Array Value} {h : Heap} {mine : List Addr}
theorem dGV_0 : decode jdk_68_method_64_code 0 = .ok (.aload_n 0, 1) := by decide +kernel
theorem dGV_1 : decode jdk_68_method_64_code 1 = .ok (.getfield 15, 3) := by decide +kernel
theorem dGV_4 : decode jdk_68_method_64_code 4 = .ok (.areturn, 1) := by decide +kernel
theorem pnGV : plainFor (⟨"java/lang/AbstractStringBuilder", "getValue", "()[B"⟩ : MethodName) = true := plainFor_of_name (by first | (simp [plainName, overriddenIn]; done) | decide +kernel)
set_option maxRecDepth 65536 in
set_option maxHeartbeats 40000000 in
theorem con_GV (hw : ∀ d ∈ tables_1, d.before a0 Z = true) {b v : Addr} (F : Fld Z h b ASBN "value" "[B" (.ref v)) : Con (⟨"java/lang/AbstractStringBuilder", "getValue", "()[B"⟩ : MethodName) jdk_68_method_64_code 1 (some (.array .byte)) R0 Z LT [] #[.ref b] h [] mine (fun w h' nw => nw = [] ∧ w = some (.ref v) ∧ h' = h) := by
  refine Con.of pnGV (Ls := [.val (.ref b)]) (fun m => by first | (simp [entryFrame, mkF, argsToLocals, Value.category]; done) | (simp [entryFrame, mkF, argsToLocals, Value.category, maxLocals]; done) | rfl) ?_
  refine WP.aloadN (pc' := 1) dGV_0 rfl rfl rfl ?_
  refine WP.getfield (pc' := 4) (host := "") dGV_1 (Or.inl (hw _ (List.mem_of_getElem? (i := 75) rfl))) Via.refl F rfl ?_
  exact WP.areturn dGV_4 rfl rfl rfl ⟨rfl, rfl, rfl⟩ (fun _ hx => nomatch hx) (fun _ hx => hx) (by first | exact Nat.le_of_ble_eq_true rfl | omega) (by first | exact Nat.le_of_ble_eq_true rfl | omega)
theorem dALN_0 : decode jdk_68_method_6_code 0 = .ok (.aload_n 0, 1) := by decide +kernel
theorem dALN_1 : decode jdk_68_method_6_code 1 = .ok (.getfield 79, 3) := by decide +kernel
theorem dALN_4 : decode jdk_68_method_6_code 4 = .ok (.ireturn, 1) := by decide +kernel
theorem pnALN : plainFor (⟨"java/lang/AbstractStringBuilder", "length", "()I"⟩ : MethodName) = true := plainFor_of_name (by first | (simp [plainName, overriddenIn]; done) | decide +kernel)
set_option maxRecDepth 65536 in
set_option maxHeartbeats 40000000 in
theorem con_ALN (hw : ∀ d ∈ tables_1, d.before a0 Z = true) {b : Addr} {x : Int32} (F : Fld Z h b ASBN "count" "I" (.int x)) : Con (⟨"java/lang/AbstractStringBuilder", "length", "()I"⟩ : MethodName) jdk_68_method_6_code 1 (some .int) R0 Z LT [] #[.ref b] h [] mine (fun w h' nw => nw = [] ∧ w = some (.int x) ∧ h' = h) := by
  refine Con.of pnALN (Ls := [.val (.ref b)]) (fun m => by first | (simp [entryFrame, mkF, argsToLocals, Value.category]; done) | (simp [entryFrame, mkF, argsToLocals, Value.category, maxLocals]; done) | rfl) ?_
  refine WP.aloadN (pc' := 1) dALN_0 rfl rfl rfl ?_
  refine WP.getfield (pc' := 4) (host := "") dALN_1 (Or.inl (hw _ (List.mem_of_getElem? (i := 99) rfl))) Via.refl F rfl ?_
  exact WP.ireturn dALN_4 rfl (by simp) rfl ⟨rfl, rfl, rfl⟩ (fun _ hx => nomatch hx) (fun _ hx => hx) (by first | exact Nat.le_of_ble_eq_true rfl | omega) (by first | exact Nat.le_of_ble_eq_true rfl | omega)
theorem dSLN_0 : decode jdk_67_method_93_code 0 = .ok (.aload_n 0, 1) := by decide +kernel
theorem dSLN_1 : decode jdk_67_method_93_code 1 = .ok (.invokespecial 343, 3) := by decide +kernel
theorem dSLN_4 : decode jdk_67_method_93_code 4 = .ok (.ireturn, 1) := by decide +kernel
theorem pnSLN : plainFor (⟨"java/lang/StringBuilder", "length", "()I"⟩ : MethodName) = true := plainFor_of_name (by first | (simp [plainName, overriddenIn]; done) | decide +kernel)
set_option maxRecDepth 65536 in
set_option maxHeartbeats 40000000 in
theorem con_SLN (hw : ∀ d ∈ tables_1, d.before a0 Z = true) {b : Addr} {x : Int32} (E : Exa Z h b SBN) (F : Fld Z h b ASBN "count" "I" (.int x)) : Con (⟨"java/lang/StringBuilder", "length", "()I"⟩ : MethodName) jdk_67_method_93_code 1 (some .int) { frames := 1, cells := 0, slots := 0, locals := 12 } Z LT [] #[.ref b] h [] mine (fun w h' nw => nw = [] ∧ w = some (.int x) ∧ h' = h) := by
  refine Con.of pnSLN (Ls := [.val (.ref b)]) (fun m => by first | (simp [entryFrame, mkF, argsToLocals, Value.category]; done) | (simp [entryFrame, mkF, argsToLocals, Value.category, maxLocals]; done) | rfl) ?_
  refine WP.aloadN (pc' := 1) dSLN_0 rfl rfl rfl ?_
  refine WP.callSup (pc' := 4) (con_ALN hw F) E (hw _ (List.mem_of_getElem? (i := 217) rfl)) (hw _ (List.mem_of_getElem? (i := 213) rfl)) (hw _ (List.mem_of_getElem? (i := 86) rfl)) (ni_sel (y := ({ cls := "java/lang/AbstractStringBuilder", name := "ensureCapacityInternal", desc := "(I)V" } : Jvm.MethodName)) (hw _ (List.mem_of_getElem? (i := 104) rfl))) (by decide) (hw _ (List.mem_of_getElem? (i := 71) rfl)) (hw _ (List.mem_of_getElem? (i := 218) rfl)) dSLN_1 (by decide) pdx14 rfl rfl rfl (by first | exact Nat.le_of_ble_eq_true rfl | omega | (simp; done) | (simp; omega) | (dsimp only; omega)) (by first | exact Nat.le_of_ble_eq_true rfl | omega | (simp; done) | (simp; omega) | (dsimp only; omega)) (by first | exact Nat.le_of_ble_eq_true rfl | omega | (simp; done) | (simp; omega) | (dsimp only; omega)) (by first | exact Nat.le_of_ble_eq_true rfl | omega | (simp; done) | (simp; omega) | (dsimp only; omega)) (fun _ hx => nomatch hx) rfl ?_
  rintro w h1 nw K hnw ⟨rfl, rfl, rfl⟩
  dsimp only [Option.toList, List.cons_append, List.nil_append]
  exact WP.ireturn dSLN_4 rfl (by simp) rfl ⟨rfl, rfl, rfl⟩ (fun _ hx => nomatch hx) (fun _ hx => hx) (by first | exact Nat.le_of_ble_eq_true rfl | omega) (by first | exact Nat.le_of_ble_eq_true rfl | omega)
theorem dSIA_0 : decode jdk_42_method_150_code 0 = .ok (.aload_n 0, 1) := by decide +kernel
theorem dSIA_1 : decode jdk_42_method_150_code 1 = .ok (.invokespecial 1, 3) := by decide +kernel
theorem dSIA_4 : decode jdk_42_method_150_code 4 = .ok (.aload_n 1, 1) := by decide +kernel
theorem dSIA_5 : decode jdk_42_method_150_code 5 = .ok (.invokevirtual 552, 3) := by decide +kernel
theorem dSIA_8 : decode jdk_42_method_150_code 8 = .ok (.astore_n 3, 1) := by decide +kernel
theorem dSIA_9 : decode jdk_42_method_150_code 9 = .ok (.aload_n 1, 1) := by decide +kernel
theorem dSIA_10 : decode jdk_42_method_150_code 10 = .ok (.invokevirtual 549, 3) := by decide +kernel
theorem dSIA_13 : decode jdk_42_method_150_code 13 = .ok (.istore 4, 2) := by decide +kernel
theorem dSIA_15 : decode jdk_42_method_150_code 15 = .ok (.aload_n 1, 1) := by decide +kernel
theorem dSIA_16 : decode jdk_42_method_150_code 16 = .ok (.invokevirtual 1047, 3) := by decide +kernel
theorem dSIA_19 : decode jdk_42_method_150_code 19 = .ok (.ifCond .eq 22, 3) := by decide +kernel
theorem dSIA_22 : decode jdk_42_method_150_code 22 = .ok (.aload_n 0, 1) := by decide +kernel
theorem dSIA_23 : decode jdk_42_method_150_code 23 = .ok (.iconst 0, 1) := by decide +kernel
theorem dSIA_24 : decode jdk_42_method_150_code 24 = .ok (.putfield 15, 3) := by decide +kernel
theorem dSIA_27 : decode jdk_42_method_150_code 27 = .ok (.aload_n 0, 1) := by decide +kernel
theorem dSIA_28 : decode jdk_42_method_150_code 28 = .ok (.aload_n 3, 1) := by decide +kernel
theorem dSIA_29 : decode jdk_42_method_150_code 29 = .ok (.iconst 0, 1) := by decide +kernel
theorem dSIA_30 : decode jdk_42_method_150_code 30 = .ok (.iload 4, 2) := by decide +kernel
theorem dSIA_32 : decode jdk_42_method_150_code 32 = .ok (.invokestatic 54, 3) := by decide +kernel
theorem dSIA_35 : decode jdk_42_method_150_code 35 = .ok (.putfield 9, 3) := by decide +kernel
theorem dSIA_38 : decode jdk_42_method_150_code 38 = .ok (.goto 59, 3) := by decide +kernel
theorem dSIA_41 : decode jdk_42_method_150_code 41 = .ok (.getstatic 38, 3) := by decide +kernel
theorem dSIA_44 : decode jdk_42_method_150_code 44 = .ok (.ifCond .eq 35, 3) := by decide +kernel
theorem dSIA_47 : decode jdk_42_method_150_code 47 = .ok (.aload_n 1, 1) := by decide +kernel
theorem dSIA_48 : decode jdk_42_method_150_code 48 = .ok (.getfield 1048, 3) := by decide +kernel
theorem dSIA_51 : decode jdk_42_method_150_code 51 = .ok (.ifCond .eq 28, 3) := by decide +kernel
theorem dSIA_54 : decode jdk_42_method_150_code 54 = .ok (.aload_n 0, 1) := by decide +kernel
theorem dSIA_55 : decode jdk_42_method_150_code 55 = .ok (.aload_n 3, 1) := by decide +kernel
theorem dSIA_56 : decode jdk_42_method_150_code 56 = .ok (.iconst 0, 1) := by decide +kernel
theorem dSIA_57 : decode jdk_42_method_150_code 57 = .ok (.iload 4, 2) := by decide +kernel
theorem dSIA_59 : decode jdk_42_method_150_code 59 = .ok (.invokestatic 1051, 3) := by decide +kernel
theorem dSIA_62 : decode jdk_42_method_150_code 62 = .ok (.putfield 9, 3) := by decide +kernel
theorem dSIA_65 : decode jdk_42_method_150_code 65 = .ok (.aload_n 0, 1) := by decide +kernel
theorem dSIA_66 : decode jdk_42_method_150_code 66 = .ok (.aload_n 0, 1) := by decide +kernel
theorem dSIA_67 : decode jdk_42_method_150_code 67 = .ok (.getfield 9, 3) := by decide +kernel
theorem dSIA_70 : decode jdk_42_method_150_code 70 = .ok (.iload 4, 2) := by decide +kernel
theorem dSIA_72 : decode jdk_42_method_150_code 72 = .ok (.invokestatic 47, 3) := by decide +kernel
theorem dSIA_75 : decode jdk_42_method_150_code 75 = .ok (.putfield 15, 3) := by decide +kernel
theorem dSIA_78 : decode jdk_42_method_150_code 78 = .ok (.return_, 1) := by decide +kernel
theorem dSIA_79 : decode jdk_42_method_150_code 79 = .ok (.aload_n 0, 1) := by decide +kernel
theorem dSIA_80 : decode jdk_42_method_150_code 80 = .ok (.iconst 1, 1) := by decide +kernel
theorem dSIA_81 : decode jdk_42_method_150_code 81 = .ok (.putfield 15, 3) := by decide +kernel
theorem dSIA_84 : decode jdk_42_method_150_code 84 = .ok (.aload_n 0, 1) := by decide +kernel
theorem dSIA_85 : decode jdk_42_method_150_code 85 = .ok (.aload_n 3, 1) := by decide +kernel
theorem dSIA_86 : decode jdk_42_method_150_code 86 = .ok (.iconst 0, 1) := by decide +kernel
theorem dSIA_87 : decode jdk_42_method_150_code 87 = .ok (.iload 4, 2) := by decide +kernel
theorem dSIA_89 : decode jdk_42_method_150_code 89 = .ok (.iconst 1, 1) := by decide +kernel
theorem dSIA_90 : decode jdk_42_method_150_code 90 = .ok (.ishl, 1) := by decide +kernel
theorem dSIA_91 : decode jdk_42_method_150_code 91 = .ok (.invokestatic 54, 3) := by decide +kernel
theorem dSIA_94 : decode jdk_42_method_150_code 94 = .ok (.putfield 9, 3) := by decide +kernel
theorem dSIA_97 : decode jdk_42_method_150_code 97 = .ok (.return_, 1) := by decide +kernel
theorem pnSIA : plainFor (⟨"java/lang/String", "<init>", "(Ljava/lang/AbstractStringBuilder;Ljava/lang/Void;)V"⟩ : MethodName) = true := plainFor_of_name (by first | (simp [plainName, overriddenIn]; done) | decide +kernel)
def LatOK (us : List UInt16) : Prop := lat us = true
def CapOK (us : List UInt16) (C : Nat) : Prop := True
theorem clok {us : List UInt16} {C k n : Nat} (h : CapOK us C) (hk : k = wid us * us.length) (hn : n = wid us * C) : ClOK 0 k n := trivial
set_option maxRecDepth 65536 in
set_option maxHeartbeats 40000000 in
theorem con_SIA (hw : ∀ d ∈ tables_1, d.before a0 Z = true) {cz : Int32} (hc : Compact Z cz) {us : List UInt16} {a b v : Addr} {C N : Nat} (hlo : LatOK us) (hco : CapOK us C) (B : SB Z h b v us C) (hN : 2 * us.length ≤ N) (hN2 : N ≤ 67108864) (E : Exa Z h a ST) (FV : Fld Z h a ST "value" "[B" .null) (FC : Fld Z h a ST "coder" "B" (.int 0)) (hm : a ∈ mine) (hab : a ≠ b) (hav : a ≠ v) :
    Con (⟨"java/lang/String", "<init>", "(Ljava/lang/AbstractStringBuilder;Ljava/lang/Void;)V"⟩ : MethodName) jdk_42_method_150_code 5 none { frames := 3, cells := 1, slots := N, locals := 50 } Z LT [] #[.ref a, .ref b, .null] h [a] mine (fun w h' nw => nw = [] ∧ w = none ∧ ∃ t, StrAt Z h' a t us ∧ t ∉ mine) := by
  obtain ⟨pad, B, hlen⟩ := B
  obtain ⟨Eb, Fv, Fc, Fn, M, A, X, nbv, hfx⟩ := B
  have hbl := byt_len us
  have ws : a ∈ [a] ∨ h.size ≤ a := Or.inl (List.mem_singleton.mpr rfl)
  have hal := A.len
  rw [List.length_append, hbl] at hal
  have sne : Jvm.RoadKit.slotOf Z ST "value" "[B" ≠ Jvm.RoadKit.slotOf Z ST "coder" "B" := slot_ne (Or.inr (hw _ (List.mem_of_getElem? (i := 30) rfl))) (Or.inr (hw _ (List.mem_of_getElem? (i := 28) rfl))) (by decide) (t := .array .byte) (t' := .byte) (by decide) (by decide)
  refine Con.of pnSIA (Ls := [.val (.ref a), .val (.ref b), .val .null, .unset, .unset]) (fun m => by first | (simp [entryFrame, mkF, argsToLocals, Value.category]; done) | (simp [entryFrame, mkF, argsToLocals, Value.category, maxLocals]; done) | rfl) ?_
  refine WP.know fun _ _ hmine => ?_
  refine WP.aloadN (pc' := 1) dSIA_0 rfl rfl rfl ?_
  refine WP.initObj (pc' := 4) (W := 0) dSIA_1 (hw _ (List.mem_of_getElem? (i := 12) rfl)) (hw _ (List.mem_of_getElem? (i := 13) rfl)) (hw _ (List.mem_of_getElem? (i := 14) rfl)) rfl (by first | exact Nat.le_of_ble_eq_true rfl | omega | (simp; done) | (simp; omega) | (dsimp only; omega)) (by first | exact Nat.le_of_ble_eq_true rfl | omega | (simp; done) | (simp; omega) | (dsimp only; omega)) (by first | exact Nat.le_of_ble_eq_true rfl | omega | (simp; done) | (simp; omega) | (dsimp only; omega)) rfl ?_
  refine WP.aloadN (pc' := 5) dSIA_4 rfl rfl rfl ?_
  refine WP.callV (pc' := 8) (con_GV hw Fv) Eb (hw _ (List.mem_of_getElem? (i := 206) rfl)) (hw _ (List.mem_of_getElem? (i := 207) rfl)) (fun s hs => notFace_of_selects (args := #[]) (mv hs (hw _ (List.mem_of_getElem? (i := 209) rfl)))) (hw _ (List.mem_of_getElem? (i := 209) rfl)) (hw _ (List.mem_of_getElem? (i := 208) rfl)) (hw _ (List.mem_of_getElem? (i := 71) rfl)) (hw _ (List.mem_of_getElem? (i := 210) rfl)) dSIA_5 (by decide) pdx15 rfl rfl rfl (by first | exact Nat.le_of_ble_eq_true rfl | omega | (simp; done) | (simp; omega) | (dsimp only; omega)) (by first | exact Nat.le_of_ble_eq_true rfl | omega | (simp; done) | (simp; omega) | (dsimp only; omega)) (by first | exact Nat.le_of_ble_eq_true rfl | omega | (simp; done) | (simp; omega) | (dsimp only; omega)) (by first | exact Nat.le_of_ble_eq_true rfl | omega | (simp; done) | (simp; omega) | (dsimp only; omega)) (fun _ hx => nomatch hx) rfl ?_
  rintro w h1 nw K hnw ⟨rfl, rfl, rfl⟩
  dsimp only [Option.toList, List.cons_append, List.nil_append]
  refine WP.astoreN (pc' := 9) dSIA_8 rfl rfl rfl rfl rfl ?_
  dsimp only [List.set]
  refine WP.aloadN (pc' := 10) dSIA_9 rfl rfl rfl ?_
  refine WP.callV (pc' := 13) (con_SLN hw Eb Fn) Eb (hw _ (List.mem_of_getElem? (i := 211) rfl)) (hw _ (List.mem_of_getElem? (i := 212) rfl)) (fun s hs => nf_ni (ni_sel (y := ({ cls := "java/lang/AbstractStringBuilder", name := "ensureCapacityInternal", desc := "(I)V" } : Jvm.MethodName)) (args := #[]) (mv hs (hw _ (List.mem_of_getElem? (i := 104) rfl))))) (hw _ (List.mem_of_getElem? (i := 214) rfl)) (hw _ (List.mem_of_getElem? (i := 215) rfl)) (hw _ (List.mem_of_getElem? (i := 63) rfl)) (hw _ (List.mem_of_getElem? (i := 216) rfl)) dSIA_10 (by decide) pdx14 rfl rfl rfl (by first | exact Nat.le_of_ble_eq_true rfl | omega | (simp; done) | (simp; omega) | (dsimp only; omega)) (by first | exact Nat.le_of_ble_eq_true rfl | omega | (simp; done) | (simp; omega) | (dsimp only; omega)) (by first | exact Nat.le_of_ble_eq_true rfl | omega | (simp; done) | (simp; omega) | (dsimp only; omega)) (by first | exact Nat.le_of_ble_eq_true rfl | omega | (simp; done) | (simp; omega) | (dsimp only; omega)) (fun _ hx => nomatch hx) rfl ?_
  rintro w h1 nw K hnw ⟨rfl, rfl, rfl⟩
  dsimp only [Option.toList, List.cons_append, List.nil_append]
  refine WP.istore (pc' := 15) dSIA_13 rfl rfl rfl ?_
  dsimp only [List.set]
  refine WP.aloadN (pc' := 16) dSIA_15 rfl rfl rfl ?_
  refine WP.callV (pc' := 19) (con_SBL hw hc Fc) Eb (hw _ (List.mem_of_getElem? (i := 219) rfl)) (hw _ (List.mem_of_getElem? (i := 166) rfl)) (fun s hs => notFace_of_selects (args := #[]) (mv hs (hw _ (List.mem_of_getElem? (i := 168) rfl)))) (hw _ (List.mem_of_getElem? (i := 168) rfl)) (hw _ (List.mem_of_getElem? (i := 167) rfl)) (hw _ (List.mem_of_getElem? (i := 71) rfl)) (hw _ (List.mem_of_getElem? (i := 169) rfl)) dSIA_16 (by decide) pdx7 rfl rfl rfl (by first | exact Nat.le_of_ble_eq_true rfl | omega | (simp; done) | (simp; omega) | (dsimp only; omega)) (by first | exact Nat.le_of_ble_eq_true rfl | omega | (simp; done) | (simp; omega) | (dsimp only; omega)) (by first | exact Nat.le_of_ble_eq_true rfl | omega | (simp; done) | (simp; omega) | (dsimp only; omega)) (by first | exact Nat.le_of_ble_eq_true rfl | omega | (simp; done) | (simp; omega) | (dsimp only; omega)) (fun _ hx => nomatch hx) rfl ?_
  rintro w h1 nw K hnw ⟨rfl, rfl, rfl⟩
  dsimp only [Option.toList, List.cons_append, List.nil_append]
  cases hl : lat us
  · exact absurd (show lat us = true from hlo) (by rw [hl]; decide)
  · have hw2 : wid us = 1 := by unfold wid; rw [hl]; rfl
    rw [cod_lat hl] at *
    rw [if_pos rfl]
    refine WP.ifF (pc' := 22) dSIA_19 rfl (show ¬ (1 : Int32) = 0 by decide) ?_
    refine WP.aloadN (pc' := 23) dSIA_22 rfl rfl rfl ?_
    refine WP.iconst (pc' := 24) (x := 0) dSIA_23 (by decide) rfl ?_
    refine WP.putfield (pc' := 27) (host := "") dSIA_24 (Or.inl (hw _ (List.mem_of_getElem? (i := 27) rfl))) Via.refl FC E (Or.inr ⟨(hw _ (List.mem_of_getElem? (i := 28) rfl)), rfl, rfl⟩) (hw _ (List.mem_of_getElem? (i := 3) rfl)) (ty := .byte) (by decide) rfl rfl hm ws rfl ?_
    intro h2 W2 G2 E2
    refine WP.aloadN (pc' := 28) dSIA_27 rfl rfl rfl ?_
    refine WP.aloadN (pc' := 29) dSIA_28 rfl rfl rfl ?_
    refine WP.iconst (pc' := 30) (x := 0) dSIA_29 (by decide) rfl ?_
    refine WP.iload (pc' := 32) dSIA_30 rfl rfl ?_
    refine WP.callS (pc' := 35) (con_CRG hw (i := 0) (j := us.length) (N := N) (by omega) (by rw [List.length_append, hbl, hw2]; omega) (clok hco (by rw [hw2, Nat.one_mul]) hlen) (by omega) hN2 (A.other W2 (Ne.symm hav)) (X.wr W2) hfx) (hw _ (List.mem_of_getElem? (i := 220) rfl)) (hw _ (List.mem_of_getElem? (i := 221) rfl)) (hw _ (List.mem_of_getElem? (i := 159) rfl)) (hw _ (List.mem_of_getElem? (i := 222) rfl)) dSIA_32 (by decide) pdx10 rfl rfl rfl (by first | exact Nat.le_of_ble_eq_true rfl | omega | (simp; done) | (simp; omega) | (dsimp only; omega)) (by first | exact Nat.le_of_ble_eq_true rfl | omega | (simp; done) | (simp; omega) | (dsimp only; omega)) (by first | exact Nat.le_of_ble_eq_true rfl | omega | (simp; done) | (simp; omega) | (dsimp only; omega)) (by first | exact Nat.le_of_ble_eq_true rfl | omega | (simp; done) | (simp; omega) | (dsimp only; omega)) (fun _ hx => nomatch hx) rfl ?_
    rintro w h3 nw K3 hnw3 ⟨t, rfl, rfl, T, -⟩
    dsimp only [Option.toList, List.cons_append, List.nil_append]
    have ht := hnw3 t (by simp)
    have hta : t ≠ a := fun q => absurd E2.lt (Nat.not_lt.mpr (q ▸ ht))
    refine WP.putfield (pc' := 38) (host := "") dSIA_35 (Or.inl (hw _ (List.mem_of_getElem? (i := 29) rfl))) Via.refl ((FV.other W2 (Or.inr sne)).keep K3 nin0) (E2.keep K3) (Or.inr ⟨(hw _ (List.mem_of_getElem? (i := 30) rfl)), rfl, rfl⟩) (hw _ (List.mem_of_getElem? (i := 3) rfl)) (ty := (.array .byte)) (by decide) rfl rfl (List.mem_cons_of_mem _ hm) ws rfl ?_
    intro h4 W4 G4 E4
    refine WP.goto (pc' := 97) dSIA_38 (by decide) (by decide) ?_
    have eT : ((byt us ++ pad).drop 0).take (us.length - 0) = us.map lo8 := by
      rw [List.drop_zero, Nat.sub_zero, byt_lat hl, List.take_append_of_le_length (by simp), List.take_of_length_le (by simp)]
    rw [eT] at T
    refine WP.vret (nw := []) dSIA_97 rfl ⟨rfl, rfl, t, ⟨E4, G4, Or.inl ⟨hl, (G2.keep K3 nin0).other W4 (Or.inr (Ne.symm sne)), T.other W4 hta⟩⟩, fun q => ?_⟩ (fun _ hx => nomatch hx) (fun x hx => List.mem_cons_of_mem _ hx) (by dsimp only; omega) (by dsimp only; omega)
    have hz : _ ≤ t := Nat.le_trans (Nat.le_of_eq W2.size.symm) ht
    exact absurd (hmine t q).2 (Nat.not_lt.mpr hz)
theorem dSIS_0 : decode jdk_42_method_53_code 0 = .ok (.aload_n 0, 1) := by decide +kernel
theorem dSIS_1 : decode jdk_42_method_53_code 1 = .ok (.aload_n 1, 1) := by decide +kernel
theorem dSIS_2 : decode jdk_42_method_53_code 2 = .ok (.aconst_null, 1) := by decide +kernel
theorem dSIS_3 : decode jdk_42_method_53_code 3 = .ok (.invokespecial 489, 3) := by decide +kernel
theorem dSIS_6 : decode jdk_42_method_53_code 6 = .ok (.return_, 1) := by decide +kernel
theorem pnSIS : plainFor (⟨"java/lang/String", "<init>", "(Ljava/lang/StringBuilder;)V"⟩ : MethodName) = true := plainFor_of_name (by first | (simp [plainName, overriddenIn]; done) | decide +kernel)
set_option maxRecDepth 65536 in
set_option maxHeartbeats 40000000 in
theorem con_SIS (hw : ∀ d ∈ tables_1, d.before a0 Z = true) {cz : Int32} (hc : Compact Z cz) {us : List UInt16} {a b v : Addr} {C N : Nat} (hlo : LatOK us) (hco : CapOK us C) (B : SB Z h b v us C) (hN : 2 * us.length ≤ N) (hN2 : N ≤ 67108864) (E : Exa Z h a ST) (FV : Fld Z h a ST "value" "[B" .null) (FC : Fld Z h a ST "coder" "B" (.int 0)) (hm : a ∈ mine) (hab : a ≠ b) (hav : a ≠ v) :
    Con (⟨"java/lang/String", "<init>", "(Ljava/lang/StringBuilder;)V"⟩ : MethodName) jdk_42_method_53_code 2 none { frames := 4, cells := 1, slots := N, locals := 66 } Z LT [] #[.ref a, .ref b] h [a] mine (fun w h' nw => nw = [] ∧ w = none ∧ ∃ t, StrAt Z h' a t us ∧ t ∉ mine) := by
  refine Con.of pnSIS (Ls := [.val (.ref a), .val (.ref b)]) (fun m => by first | (simp [entryFrame, mkF, argsToLocals, Value.category]; done) | (simp [entryFrame, mkF, argsToLocals, Value.category, maxLocals]; done) | rfl) ?_
  refine WP.aloadN (pc' := 1) dSIS_0 rfl rfl rfl ?_
  refine WP.aloadN (pc' := 2) dSIS_1 rfl rfl rfl ?_
  refine WP.aconstNull (pc' := 3) dSIS_2 rfl ?_
  refine WP.callSp (pc' := 6) (con_SIA hw hc hlo hco B hN hN2 E FV FC hm hab hav) rfl (hw _ (List.mem_of_getElem? (i := 203) rfl)) (hw _ (List.mem_of_getElem? (i := 204) rfl)) (hw _ (List.mem_of_getElem? (i := 4) rfl)) (hw _ (List.mem_of_getElem? (i := 205) rfl)) dSIS_3 (by decide) pdx16 rfl rfl rfl (by first | exact Nat.le_of_ble_eq_true rfl | omega | (simp; done) | (simp; omega) | (dsimp only; omega)) (by first | exact Nat.le_of_ble_eq_true rfl | omega | (simp; done) | (simp; omega) | (dsimp only; omega)) (by first | exact Nat.le_of_ble_eq_true rfl | omega | (simp; done) | (simp; omega) | (dsimp only; omega)) (by first | exact Nat.le_of_ble_eq_true rfl | omega | (simp; done) | (simp; omega) | (dsimp only; omega)) (fun x hx => Or.inl hx) rfl ?_
  rintro w h1 nw K hnw ⟨rfl, rfl, t, S, ht⟩
  dsimp only [Option.toList, List.nil_append]
  exact WP.vret dSIS_6 rfl ⟨rfl, rfl, t, S, ht⟩ (fun _ hx => nomatch hx) (fun x hx => hx) (by dsimp only; omega) (by dsimp only; omega)
theorem dTOS_0 : decode jdk_67_method_42_code 0 = .ok (.new 18, 3) := by decide +kernel
theorem dTOS_3 : decode jdk_67_method_42_code 3 = .ok (.dup, 1) := by decide +kernel
theorem dTOS_4 : decode jdk_67_method_42_code 4 = .ok (.aload_n 0, 1) := by decide +kernel
theorem dTOS_5 : decode jdk_67_method_42_code 5 = .ok (.invokespecial 137, 3) := by decide +kernel
theorem dTOS_8 : decode jdk_67_method_42_code 8 = .ok (.areturn, 1) := by decide +kernel
theorem pnTOS : plainFor (⟨"java/lang/StringBuilder", "toString", "()Ljava/lang/String;"⟩ : MethodName) = true := plainFor_of_name (by first | (simp [plainName, overriddenIn]; done) | decide +kernel)
set_option maxRecDepth 65536 in
set_option maxHeartbeats 40000000 in
theorem con_TOS (hw : ∀ d ∈ tables_1, d.before a0 Z = true) {cz : Int32} (hc : Compact Z cz) {us : List UInt16} {b v : Addr} {C N : Nat} (hlo : LatOK us) (hco : CapOK us C) (B : SB Z h b v us C) (hN : 2 * us.length ≤ N) (hN2 : N ≤ 67108864) :
    Con (⟨"java/lang/StringBuilder", "toString", "()Ljava/lang/String;"⟩ : MethodName) jdk_67_method_42_code 1 (some (.object "java/lang/String")) { frames := 5, cells := 2, slots := N + 4, locals := 80 } Z LT [] #[.ref b] h [] mine (fun w h' nw => nw = [] ∧ ∃ r, w = some (.ref r) ∧ FStr Z h' mine r us) := by
  refine Con.of pnTOS (Ls := [.val (.ref b)]) (fun m => by first | (simp [entryFrame, mkF, argsToLocals, Value.category]; done) | (simp [entryFrame, mkF, argsToLocals, Value.category, maxLocals]; done) | rfl) ?_
  refine WP.new (pc' := 3) dTOS_0 (hw _ (List.mem_of_getElem? (i := 199) rfl)) (hw _ (List.mem_of_getElem? (i := 3) rfl)) (hw _ (List.mem_of_getElem? (i := 4) rfl)) (by first | exact Nat.le_of_ble_eq_true rfl | omega | (simp; done) | (simp; omega) | (dsimp only; omega)) (by first | exact Nat.le_of_ble_eq_true rfl | omega | (simp; done) | (simp; omega) | (dsimp only; omega)) rfl ?_
  intro h1 a ea na ma E1 X D
  have V : Fld Z h1 a ST "value" "[B" .null := D (Or.inr (hw _ (List.mem_of_getElem? (i := 30) rfl))) (ty := .array .byte) (by decide)
  have C0 : Fld Z h1 a ST "coder" "B" (.int 0) := D (Or.inr (hw _ (List.mem_of_getElem? (i := 28) rfl))) (ty := .byte) (by decide)
  obtain ⟨pad, B, hlen⟩ := B
  have hab : a ≠ b := fun q => absurd B.1.lt (Nat.not_lt.mpr (by rw [← q, ea]; exact Nat.le_refl _))
  have hav : a ≠ v := fun q => absurd B.2.2.2.2.2.1.lt (Nat.not_lt.mpr (by rw [← q, ea]; exact Nat.le_refl _))
  have B1 : SB Z h1 b v us C := ⟨pad, ⟨B.1.ext E1, B.2.1.ext E1, B.2.2.1.ext E1, B.2.2.2.1.ext E1, B.2.2.2.2.1.ext E1, B.2.2.2.2.2.1.ext E1, B.2.2.2.2.2.2.1.ext E1, B.2.2.2.2.2.2.2⟩, hlen⟩
  refine WP.dup (pc' := 4) dTOS_3 rfl rfl ?_
  refine WP.aloadN (pc' := 5) dTOS_4 rfl rfl rfl ?_
  refine WP.callSp (pc' := 8) (con_SIS hw hc hlo hco B1 hN hN2 X V C0 (List.mem_cons_self ..) hab hav) rfl (hw _ (List.mem_of_getElem? (i := 200) rfl)) (hw _ (List.mem_of_getElem? (i := 201) rfl)) (hw _ (List.mem_of_getElem? (i := 4) rfl)) (hw _ (List.mem_of_getElem? (i := 202) rfl)) dTOS_5 (by decide) pdx17 rfl rfl rfl (by first | exact Nat.le_of_ble_eq_true rfl | omega | (simp; done) | (simp; omega) | (dsimp only; omega)) (by first | exact Nat.le_of_ble_eq_true rfl | omega | (simp; done) | (simp; omega) | (dsimp only; omega)) (by first | exact Nat.le_of_ble_eq_true rfl | omega | (simp; done) | (simp; omega) | (dsimp only; omega)) (by first | exact Nat.le_of_ble_eq_true rfl | omega | (simp; done) | (simp; omega) | (dsimp only; omega)) (fun x hx => by cases List.mem_singleton.mp hx; exact Or.inr ma) rfl ?_
  rintro w h3 nw K3 hnw3 ⟨rfl, rfl, t, S, ht⟩
  dsimp only [Option.toList, List.cons_append, List.nil_append]
  exact WP.areturn dTOS_8 rfl rfl rfl ⟨rfl, a, rfl, t, S, na, fun q => ht (List.mem_cons_of_mem _ q)⟩ (fun _ hx => nomatch hx) (fun x hx => List.mem_cons_of_mem _ hx) (by dsimp only; omega) (by dsimp only; omega)
end JdkSb4
end Jvm.Pilot.@@N@@

namespace Jvm.Pilot.@@N@@
open Jvm Jvm.ClassFile Sem Op Lib Jvm.Free Jvm.Stand Jvm.LawKit Jvm.RoadKit Bundle Jvm.Pilot.@@N@@.Jvm.D Jvm.OwnW
theorem pdx18 : parseMethodDescriptor "(I)V" = some ⟨[.int], none⟩ := by decide +kernel
theorem pdx19 : parseMethodDescriptor "([BIB)V" = some ⟨[(.array .byte), .int, .byte], none⟩ := by decide +kernel
theorem pdx20 : parseMethodDescriptor "(Ljava/lang/String;)V" = some ⟨[(.object "java/lang/String")], none⟩ := by decide +kernel
theorem pdx21 : parseMethodDescriptor "(ILjava/lang/String;)V" = some ⟨[.int, (.object "java/lang/String")], none⟩ := by decide +kernel
theorem pdx22 : parseMethodDescriptor "(Ljava/lang/String;)Ljava/lang/AbstractStringBuilder;" = some ⟨[(.object "java/lang/String")], some (.object "java/lang/AbstractStringBuilder")⟩ := by decide +kernel
section JdkAps
variable {Z : State} {a0 : Array Value} {h : Heap} {mine : List Addr}
theorem lat_app2 (us vs : List UInt16) : lat (us ++ vs) = (lat us && lat vs) := by simp [lat]
theorem SB.ext {h' : Heap} {b v : Addr} {us : List UInt16} {C : Nat} (B : SB Z h b v us C) (E : Ext h h') : SB Z h' b v us C := B.keep ((Keep.refl h []).ext E) nin0 nin0
theorem wid_lat {us : List UInt16} (h : lat us = true) : wid us = 1 := by unfold wid; rw [if_pos h]
theorem wid_utf {us : List UInt16} (h : lat us = false) : wid us = 2 := by unfold wid; rw [if_neg (by rw [h]; decide)]
theorem byt_fits {us : List UInt16} : ∀ x ∈ byt us, fits .byte (.int x) = true := by
  cases hl : lat us
  · rw [byt_utf hl]; exact b16_fits
  · rw [byt_lat hl]; exact lo8s_fits
theorem n32_shlc {us : List UInt16} {k : Nat} (h : wid us * k < 2 ^ 31) : Int32.ofNat k <<< (cod us &&& 31) = Int32.ofNat (wid us * k) := by
  cases hl : lat us
  · rw [wid_utf hl] at h; rw [cod_utf hl, wid_utf hl, n32_shl1 h]
  · rw [cod_lat hl, wid_lat hl, Nat.one_mul]; exact n32_shl0 _
theorem dSB0_0 : decode jdk_67_method_1_code 0 = .ok (.aload_n 0, 1) := by decide +kernel
theorem dSB0_1 : decode jdk_67_method_1_code 1 = .ok (.bipush 16, 2) := by decide +kernel
theorem dSB0_3 : decode jdk_67_method_1_code 3 = .ok (.invokespecial 1, 3) := by decide +kernel
theorem dSB0_6 : decode jdk_67_method_1_code 6 = .ok (.return_, 1) := by decide +kernel
theorem pnSB0 : plainFor (⟨"java/lang/StringBuilder", "<init>", "()V"⟩ : MethodName) = true := plainFor_of_name (by first | (simp [plainName, overriddenIn]; done) | decide +kernel)
set_option maxRecDepth 65536 in
set_option maxHeartbeats 40000000 in
theorem con_SB0 (hw : ∀ d ∈ tables_1, d.before a0 Z = true) {cz : Int32} (hc : Compact Z cz) {b : Addr} (E : Exa Z h b SBN) (F1 : Fld Z h b ASBN "value" "[B" .null) (F2 : Fld Z h b ASBN "coder" "B" (.int 0)) (F3 : Fld Z h b ASBN "count" "I" (.int 0)) (M : ML Z h b) (hm : b ∈ mine) : Con (⟨"java/lang/StringBuilder", "<init>", "()V"⟩ : MethodName) jdk_67_method_1_code 1 none { frames := 2, cells := 1, slots := 16, locals := 25 } Z LT [] #[.ref b] h [b] mine (fun v h' nw => ∃ t, nw = [t] ∧ v = none ∧ SB Z h' b t [] 16) := by
  refine Con.of pnSB0 (Ls := [.val (.ref b)]) (fun m => by first | (simp [entryFrame, mkF, argsToLocals, Value.category]; done) | (simp [entryFrame, mkF, argsToLocals, Value.category, maxLocals]; done) | rfl) ?_
  refine WP.aloadN (pc' := 1) dSB0_0 rfl rfl rfl ?_
  refine WP.bipush (pc' := 3) (x := 16) dSB0_1 (by decide) rfl ?_
  refine WP.callSp (pc' := 6) (con_ASI hw hc (C := 16) (by omega) E F1 F2 F3 M hm) rfl (hw _ (List.mem_of_getElem? (i := 67) rfl)) (hw _ (List.mem_of_getElem? (i := 68) rfl)) (hw _ (List.mem_of_getElem? (i := 71) rfl)) (hw _ (List.mem_of_getElem? (i := 72) rfl)) dSB0_3 (by decide) pdx18 rfl rfl rfl (by first | exact Nat.le_of_ble_eq_true rfl | omega | (simp; done) | (simp; omega) | (dsimp only; omega)) (by first | exact Nat.le_of_ble_eq_true rfl | omega | (simp; done) | (simp; omega) | (dsimp only; omega)) (by first | exact Nat.le_of_ble_eq_true rfl | omega | (simp; done) | (simp; omega) | (dsimp only; omega)) (by first | exact Nat.le_of_ble_eq_true rfl | omega | (simp; done) | (simp; omega) | (dsimp only; omega)) (fun x hx => Or.inl hx) rfl ?_
  rintro v h1 nw K hnw ⟨t, rfl, rfl, B⟩
  dsimp only [Option.toList, List.nil_append, List.cons_append]
  refine WP.vret (nw := [t]) dSB0_6 rfl ⟨t, rfl, rfl, List.replicate 16 0, B, rfl⟩ (fun x hx => ?_) (fun x hx => List.mem_cons_of_mem _ hx) (by dsimp only; omega) (by dsimp only; omega)
  cases List.mem_singleton.mp hx; exact ⟨List.mem_cons_self .., hnw _ (by simp)⟩
abbrev fIIN : Nat := 1
abbrev lIIN : Nat := 13
abbrev fGBB : Nat := 1
abbrev lGBB : Nat := 18
abbrev fPSA : Nat := fIIN + 1
abbrev lPSA : Nat := max (13 + lIIN) (15 + lGBB)
abbrev fAPS : Nat := max (fPSA + 1) 4
abbrev lAPS : Nat := max (14 + lPSA) 63
theorem dIIN_0 : decode jdk_68_method_71_code 0 = .ok (.getstatic 18, 3) := by decide +kernel
theorem dIIN_3 : decode jdk_68_method_71_code 3 = .ok (.ifCond .eq 18, 3) := by decide +kernel
theorem dIIN_6 : decode jdk_68_method_71_code 6 = .ok (.aload_n 0, 1) := by decide +kernel
theorem dIIN_7 : decode jdk_68_method_71_code 7 = .ok (.getfield 22, 3) := by decide +kernel
theorem dIIN_10 : decode jdk_68_method_71_code 10 = .ok (.aload_n 1, 1) := by decide +kernel
theorem dIIN_11 : decode jdk_68_method_71_code 11 = .ok (.invokevirtual 40, 3) := by decide +kernel
theorem dIIN_14 : decode jdk_68_method_71_code 14 = .ok (.if_icmp .eq 7, 3) := by decide +kernel
theorem dIIN_17 : decode jdk_68_method_71_code 17 = .ok (.aload_n 0, 1) := by decide +kernel
theorem dIIN_18 : decode jdk_68_method_71_code 18 = .ok (.invokevirtual 195, 3) := by decide +kernel
theorem dIIN_21 : decode jdk_68_method_71_code 21 = .ok (.return_, 1) := by decide +kernel
theorem pnIIN : plainFor (⟨"java/lang/AbstractStringBuilder", "inflateIfNeededFor", "(Ljava/lang/String;)V"⟩ : MethodName) = true := plainFor_of_name (by first | (simp [plainName, overriddenIn]; done) | decide +kernel)
set_option maxRecDepth 65536 in
set_option maxHeartbeats 40000000 in
theorem con_IIN (hw : ∀ d ∈ tables_1, d.before a0 Z = true) {cz : Int32} (hc : Compact Z cz) {b a t : Addr} {vs : List UInt16} (F : Fld Z h b ASBN "coder" "B" (.int (cod vs))) (S : StrAt Z h a t vs) : Con (⟨"java/lang/AbstractStringBuilder", "inflateIfNeededFor", "(Ljava/lang/String;)V"⟩ : MethodName) jdk_68_method_71_code 2 none { frames := fIIN, cells := 0, slots := 0, locals := lIIN } Z LT [] #[.ref b, .ref a] h [] mine (fun v h' nw => nw = [] ∧ v = none ∧ h' = h) := by
  refine Con.of pnIIN (Ls := [.val (.ref b), .val (.ref a)]) (fun m => by first | (simp [entryFrame, mkF, argsToLocals, Value.category]; done) | (simp [entryFrame, mkF, argsToLocals, Value.category, maxLocals]; done) | rfl) ?_
  refine WP.getstatic (pc' := 3) (host := "") dIIN_0 (Or.inl (hw _ (List.mem_of_getElem? (i := 74) rfl))) Via.refl hc.1 rfl ?_
  refine WP.ifF (pc' := 6) dIIN_3 rfl hc.2 ?_
  refine WP.aloadN (pc' := 7) dIIN_6 rfl rfl rfl ?_
  refine WP.getfield (pc' := 10) (host := "") dIIN_7 (Or.inl (hw _ (List.mem_of_getElem? (i := 77) rfl))) Via.refl F rfl ?_
  refine WP.aloadN (pc' := 11) dIIN_10 rfl rfl rfl ?_
  refine WP.callV (pc' := 14) (con_CO hw hc S) S.1 (hw _ (List.mem_of_getElem? (i := 116) rfl)) (hw _ (List.mem_of_getElem? (i := 95) rfl)) (fun s hs => notFace_of_selects (args := #[]) (mv hs (hw _ (List.mem_of_getElem? (i := 97) rfl)))) (hw _ (List.mem_of_getElem? (i := 97) rfl)) (hw _ (List.mem_of_getElem? (i := 96) rfl)) (hw _ (List.mem_of_getElem? (i := 4) rfl)) (hw _ (List.mem_of_getElem? (i := 98) rfl)) dIIN_11 (by decide) pdx4 rfl rfl rfl (by first | exact Nat.le_of_ble_eq_true rfl | omega | (simp; done) | (simp; omega) | (dsimp only; omega)) (by first | exact Nat.le_of_ble_eq_true rfl | omega | (simp; done) | (simp; omega) | (dsimp only; omega)) (by first | exact Nat.le_of_ble_eq_true rfl | omega | (simp; done) | (simp; omega) | (dsimp only; omega)) (by first | exact Nat.le_of_ble_eq_true rfl | omega | (simp; done) | (simp; omega) | (dsimp only; omega)) (fun _ hx => nomatch hx) rfl ?_
  rintro v h' nw K hnw ⟨rfl, rfl, rfl⟩
  dsimp only [Option.toList, List.cons_append, List.nil_append]
  refine WP.icmpT (pc' := 21) dIIN_14 (by decide) (by decide) rfl ?_
  exact WP.vret dIIN_21 rfl ⟨rfl, rfl, rfl⟩ (fun _ hx => nomatch hx) (fun _ hx => hx) (by first | exact Nat.le_of_ble_eq_true rfl | omega) (by first | exact Nat.le_of_ble_eq_true rfl | omega)
theorem dGBB_0 : decode jdk_42_method_147_code 0 = .ok (.aload_n 0, 1) := by decide +kernel
theorem dGBB_1 : decode jdk_42_method_147_code 1 = .ok (.invokevirtual 335, 3) := by decide +kernel
theorem dGBB_4 : decode jdk_42_method_147_code 4 = .ok (.iload_n 3, 1) := by decide +kernel
theorem dGBB_5 : decode jdk_42_method_147_code 5 = .ok (.if_icmp .ne 23, 3) := by decide +kernel
theorem dGBB_8 : decode jdk_42_method_147_code 8 = .ok (.aload_n 0, 1) := by decide +kernel
theorem dGBB_9 : decode jdk_42_method_147_code 9 = .ok (.getfield 9, 3) := by decide +kernel
theorem dGBB_12 : decode jdk_42_method_147_code 12 = .ok (.iconst 0, 1) := by decide +kernel
theorem dGBB_13 : decode jdk_42_method_147_code 13 = .ok (.aload_n 1, 1) := by decide +kernel
theorem dGBB_14 : decode jdk_42_method_147_code 14 = .ok (.iload_n 2, 1) := by decide +kernel
theorem dGBB_15 : decode jdk_42_method_147_code 15 = .ok (.iload_n 3, 1) := by decide +kernel
theorem dGBB_16 : decode jdk_42_method_147_code 16 = .ok (.ishl, 1) := by decide +kernel
theorem dGBB_17 : decode jdk_42_method_147_code 17 = .ok (.aload_n 0, 1) := by decide +kernel
theorem dGBB_18 : decode jdk_42_method_147_code 18 = .ok (.getfield 9, 3) := by decide +kernel
theorem dGBB_21 : decode jdk_42_method_147_code 21 = .ok (.arraylength, 1) := by decide +kernel
theorem dGBB_22 : decode jdk_42_method_147_code 22 = .ok (.invokestatic 212, 3) := by decide +kernel
theorem dGBB_25 : decode jdk_42_method_147_code 25 = .ok (.goto 18, 3) := by decide +kernel
theorem dGBB_28 : decode jdk_42_method_147_code 28 = .ok (.aload_n 0, 1) := by decide +kernel
theorem dGBB_29 : decode jdk_42_method_147_code 29 = .ok (.getfield 9, 3) := by decide +kernel
theorem dGBB_32 : decode jdk_42_method_147_code 32 = .ok (.iconst 0, 1) := by decide +kernel
theorem dGBB_33 : decode jdk_42_method_147_code 33 = .ok (.aload_n 1, 1) := by decide +kernel
theorem dGBB_34 : decode jdk_42_method_147_code 34 = .ok (.iload_n 2, 1) := by decide +kernel
theorem dGBB_35 : decode jdk_42_method_147_code 35 = .ok (.aload_n 0, 1) := by decide +kernel
theorem dGBB_36 : decode jdk_42_method_147_code 36 = .ok (.getfield 9, 3) := by decide +kernel
theorem dGBB_39 : decode jdk_42_method_147_code 39 = .ok (.arraylength, 1) := by decide +kernel
theorem dGBB_40 : decode jdk_42_method_147_code 40 = .ok (.invokestatic 106, 3) := by decide +kernel
theorem dGBB_43 : decode jdk_42_method_147_code 43 = .ok (.return_, 1) := by decide +kernel
theorem pnGBB : plainFor (⟨"java/lang/String", "getBytes", "([BIB)V"⟩ : MethodName) = true := plainFor_of_name (by first | (simp [plainName, overriddenIn]; done) | decide +kernel)
set_option maxRecDepth 65536 in
set_option maxHeartbeats 40000000 in
theorem con_GBB (hw : ∀ d ∈ tables_1, d.before a0 Z = true) {cz : Int32} (hc : Compact Z cz) {a t d : Addr} {vs : List UInt16} {xs : List Int32} {k : Nat} (S : StrAt Z h a t vs) (D : ArI Z h d .byte xs) (hfx : ∀ x ∈ xs, fits .byte (.int x) = true) (hk : wid vs * k + (byt vs).length ≤ xs.length) (hm : d ∈ mine) : Con (⟨"java/lang/String", "getBytes", "([BIB)V"⟩ : MethodName) jdk_42_method_147_code 4 none { frames := fGBB, cells := 0, slots := 0, locals := lGBB } Z LT [] #[.ref a, .ref d, .int (Int32.ofNat k), .int (cod vs)] h [d] mine (fun v h' nw => nw = [] ∧ v = none ∧ ArI Z h' d .byte (xs.take (wid vs * k) ++ byt vs ++ xs.drop (wid vs * k + (byt vs).length))) := by
  obtain ⟨e1, v1, c1, b1⟩ := S.open
  have hl := D.len
  refine Con.of pnGBB (Ls := [.val (.ref a), .val (.ref d), .val (.int (Int32.ofNat k)), .val (.int (cod vs))]) (fun m => by first | (simp [entryFrame, mkF, argsToLocals, Value.category]; done) | (simp [entryFrame, mkF, argsToLocals, Value.category, maxLocals]; done) | rfl) ?_
  refine WP.aloadN (pc' := 1) dGBB_0 rfl rfl rfl ?_
  refine WP.callV (pc' := 4) (con_CO hw hc S) e1 (hw _ (List.mem_of_getElem? (i := 94) rfl)) (hw _ (List.mem_of_getElem? (i := 95) rfl)) (fun s hs => notFace_of_selects (args := #[]) (mv hs (hw _ (List.mem_of_getElem? (i := 97) rfl)))) (hw _ (List.mem_of_getElem? (i := 97) rfl)) (hw _ (List.mem_of_getElem? (i := 96) rfl)) (hw _ (List.mem_of_getElem? (i := 4) rfl)) (hw _ (List.mem_of_getElem? (i := 98) rfl)) dGBB_1 (by decide) pdx4 rfl rfl rfl (by first | exact Nat.le_of_ble_eq_true rfl | omega | (simp; done) | (simp; omega) | (dsimp only; omega)) (by first | exact Nat.le_of_ble_eq_true rfl | omega | (simp; done) | (simp; omega) | (dsimp only; omega)) (by first | exact Nat.le_of_ble_eq_true rfl | omega | (simp; done) | (simp; omega) | (dsimp only; omega)) (by first | exact Nat.le_of_ble_eq_true rfl | omega | (simp; done) | (simp; omega) | (dsimp only; omega)) (fun _ hx => nomatch hx) rfl ?_
  rintro v h' nw K hnw ⟨rfl, rfl, rfl⟩
  dsimp only [Option.toList, List.cons_append, List.nil_append]
  refine WP.iloadN (pc' := 5) dGBB_4 rfl rfl ?_
  refine WP.icmpF (pc' := 8) dGBB_5 rfl rfl ?_
  refine WP.aloadN (pc' := 9) dGBB_8 rfl rfl rfl ?_
  refine WP.getfield (pc' := 12) (host := "") dGBB_9 (Or.inl (hw _ (List.mem_of_getElem? (i := 29) rfl))) Via.refl v1 rfl ?_
  refine WP.iconst (pc' := 13) (x := 0) dGBB_12 (by decide) rfl ?_
  refine WP.aloadN (pc' := 14) dGBB_13 rfl rfl rfl ?_
  refine WP.iloadN (pc' := 15) dGBB_14 rfl rfl ?_
  refine WP.iloadN (pc' := 16) dGBB_15 rfl rfl ?_
  refine WP.ishl (pc' := 17) dGBB_16 rfl ?_
  rw [n32_shlc (us := vs) (k := k) (by omega)]
  refine WP.aloadN (pc' := 18) dGBB_17 rfl rfl rfl ?_
  refine WP.getfield (pc' := 21) (host := "") dGBB_18 (Or.inl (hw _ (List.mem_of_getElem? (i := 29) rfl))) Via.refl v1 rfl ?_
  refine WP.arraylength (pc' := 22) dGBB_21 b1 rfl rfl ?_
  refine WP.arraycopy (pc' := 25) (i := 0) (j := wid vs * k) (n := (byt vs).length) (W := 0) (hw _ (List.mem_of_getElem? (i := 122) rfl)) (hw _ (List.mem_of_getElem? (i := 125) rfl)) (hw _ (List.mem_of_getElem? (i := 123) rfl)) (hw _ (List.mem_of_getElem? (i := 124) rfl)) dGBB_22 b1 D rfl byt_fits hfx (by decide) (n32_toInt (by omega)) (n32_toInt b1.len) (by omega) hk hm (Or.inl (List.mem_singleton.mpr rfl)) rfl (Nat.le_of_ble_eq_true rfl) (by simp) (show 0 + (nativeFrameWords "java/lang/System" "arraycopy" 5 + 11) ≤ lGBB by decide) rfl ?_
  intro h3 K3 C
  rw [List.drop_zero, List.take_of_length_le (Nat.le_refl _)] at C
  refine WP.goto (pc' := 43) dGBB_25 (by decide) (by decide) ?_
  exact WP.vret dGBB_43 rfl ⟨rfl, rfl, C⟩ (fun _ hx => nomatch hx) (fun _ hx => hx) (by first | exact Nat.le_of_ble_eq_true rfl | omega) (by first | exact Nat.le_of_ble_eq_true rfl | omega)
theorem dPSA_0 : decode jdk_68_method_73_code 0 = .ok (.aload_n 0, 1) := by decide +kernel
theorem dPSA_1 : decode jdk_68_method_73_code 1 = .ok (.aload_n 2, 1) := by decide +kernel
theorem dPSA_2 : decode jdk_68_method_73_code 2 = .ok (.invokevirtual 397, 3) := by decide +kernel
theorem dPSA_5 : decode jdk_68_method_73_code 5 = .ok (.aload_n 2, 1) := by decide +kernel
theorem dPSA_6 : decode jdk_68_method_73_code 6 = .ok (.aload_n 0, 1) := by decide +kernel
theorem dPSA_7 : decode jdk_68_method_73_code 7 = .ok (.getfield 15, 3) := by decide +kernel
theorem dPSA_10 : decode jdk_68_method_73_code 10 = .ok (.iload_n 1, 1) := by decide +kernel
theorem dPSA_11 : decode jdk_68_method_73_code 11 = .ok (.aload_n 0, 1) := by decide +kernel
theorem dPSA_12 : decode jdk_68_method_73_code 12 = .ok (.getfield 22, 3) := by decide +kernel
theorem dPSA_15 : decode jdk_68_method_73_code 15 = .ok (.invokevirtual 399, 3) := by decide +kernel
theorem dPSA_18 : decode jdk_68_method_73_code 18 = .ok (.return_, 1) := by decide +kernel
theorem pnPSA : plainFor (⟨"java/lang/AbstractStringBuilder", "putStringAt", "(ILjava/lang/String;)V"⟩ : MethodName) = true := plainFor_of_name (by first | (simp [plainName, overriddenIn]; done) | decide +kernel)
def PsaQ (Z : State) (us vs : List UInt16) (b v : Addr) (C : Nat) (w : Option Value) (h' : Heap) (nw : List Addr) : Prop := w = none ∧ ∃ v' pad', ((nw = [] ∧ v' = v) ∨ nw = [v']) ∧ SBr Z h' b v' (byt (us ++ vs) ++ pad') (cod (us ++ vs)) us.length ∧ (byt (us ++ vs) ++ pad').length = wid (us ++ vs) * C
set_option maxRecDepth 65536 in
set_option maxHeartbeats 40000000 in
theorem tail_PSA (hw : ∀ d ∈ tables_1, d.before a0 Z = true) {cz : Int32} (hc : Compact Z cz) {h1 : Heap} {us vs : List UInt16} {X pad : List Int32} {b v v1 a : Addr} {C N : Nat} {mn nw : List Addr} (hX : X.length = wid vs * us.length) (hl : (X ++ pad).length = wid vs * C) (he : X ++ byt vs = byt (us ++ vs)) (hcd : cod vs = cod (us ++ vs)) (hwd : wid vs = wid (us ++ vs)) (hfit : us.length + vs.length ≤ C) (B : SBr Z h1 b v1 (X ++ pad) (cod vs) us.length) (S : FStr Z h1 mn a vs) (hb : b ∈ mn) (hv1 : v1 ∈ mn) (hwv : v1 ∈ [b, v] ∨ h.size ≤ v1) (hnw : ∀ x ∈ nw, x ∈ mn ∧ h.size ≤ x) (hmm : ∀ x ∈ mine, x ∈ mn) (hvn : (nw = [] ∧ v1 = v) ∨ nw = [v1]) :
    WP "java/lang/AbstractStringBuilder" jdk_68_method_73_code 3 none "putStringAt" { frames := fPSA, cells := 1, slots := N, locals := lPSA } Z LT h [b, v] mine (PsaQ Z us vs b v C) mn 1 N h1 5 [.val (.ref b), .val (.int (Int32.ofNat us.length)), .val (.ref a)] [] := by
  obtain ⟨E, Fv, Fc, Fn, M, A, XX, nbv, hfx⟩ := B
  obtain ⟨t, S, na, nt⟩ := S
  refine WP.aloadN (pc' := 6) dPSA_5 rfl rfl rfl ?_
  refine WP.aloadN (pc' := 7) dPSA_6 rfl rfl rfl ?_
  refine WP.getfield (pc' := 10) (host := "") dPSA_7 (Or.inl (hw _ (List.mem_of_getElem? (i := 75) rfl))) Via.refl Fv rfl ?_
  refine WP.iloadN (pc' := 11) dPSA_10 rfl rfl ?_
  refine WP.aloadN (pc' := 12) dPSA_11 rfl rfl rfl ?_
  refine WP.getfield (pc' := 15) (host := "") dPSA_12 (Or.inl (hw _ (List.mem_of_getElem? (i := 77) rfl))) Via.refl Fc rfl ?_
  have hbl := byt_len vs
  have hle : wid vs * us.length + (byt vs).length ≤ (X ++ pad).length := by
    rw [hl, hbl, ← Nat.mul_add]; exact Nat.mul_le_mul_left _ hfit
  refine WP.callV (pc' := 18) (con_GBB hw hc (k := us.length) S A hfx hle hv1) S.1 (hw _ (List.mem_of_getElem? (i := 117) rfl)) (hw _ (List.mem_of_getElem? (i := 118) rfl)) (fun s hs => notFace_of_selects (args := #[]) (mv hs (hw _ (List.mem_of_getElem? (i := 120) rfl)))) (hw _ (List.mem_of_getElem? (i := 120) rfl)) (hw _ (List.mem_of_getElem? (i := 119) rfl)) (hw _ (List.mem_of_getElem? (i := 4) rfl)) (hw _ (List.mem_of_getElem? (i := 121) rfl)) dPSA_15 (by decide) pdx19 rfl rfl rfl (by first | exact Nat.le_of_ble_eq_true rfl | omega | (simp; done) | (simp; omega) | (dsimp only; omega)) (by first | exact Nat.le_of_ble_eq_true rfl | omega | (simp; done) | (simp; omega) | (dsimp only; omega)) (by first | exact Nat.le_of_ble_eq_true rfl | omega | (simp; done) | (simp; omega) | (dsimp only; omega)) (by first | exact Nat.le_of_ble_eq_true rfl | omega | (simp; done) | (simp; omega) | (dsimp only; omega)) (fun x hx => by cases List.mem_singleton.mp hx; exact hwv) rfl ?_
  rintro w h2 nw2 K2 hnw2 ⟨rfl, rfl, D⟩
  dsimp only [Option.toList, List.nil_append]
  have nb : b ∉ [v1] := fun q => nbv (List.mem_singleton.mp q)
  rw [← hX, List.take_left' rfl, he] at D
  refine WP.vret (nw := nw) dPSA_18 rfl ⟨rfl, v1, (X ++ pad).drop (X.length + (byt vs).length), hvn, ⟨E.keep K2, Fv.keep K2 nb, by rw [← hcd]; exact Fc.keep K2 nb, Fn.keep K2 nb, M.keep K2 nb, D, XX.keep K2, nbv, app_fits byt_fits (fun x hx => hfx x (List.mem_of_mem_drop hx))⟩, ?_⟩ hnw hmm (Nat.le_refl _) (Nat.le_refl _)
  rw [← he, ← hwd, ← hl]
  simp only [List.length_append, List.length_drop] at hle ⊢
  omega
set_option maxRecDepth 65536 in
set_option maxHeartbeats 40000000 in
theorem con_PSA (hw : ∀ d ∈ tables_1, d.before a0 Z = true) {cz : Int32} (hc : Compact Z cz) {us vs : List UInt16} (hlu : lat us = true) (hlv : lat vs = true) {pad : List Int32} {b v a : Addr} {C N : Nat} (B : SBr Z h b v (byt us ++ pad) (cod us) us.length) (hl : (byt us ++ pad).length = wid us * C) (hfit : us.length + vs.length ≤ C) (hN : 2 * C ≤ N) (hN2 : N ≤ 67108864) (S : FStr Z h mine a vs) (hb : b ∈ mine) (hv : v ∈ mine) :
    Con (⟨"java/lang/AbstractStringBuilder", "putStringAt", "(ILjava/lang/String;)V"⟩ : MethodName) jdk_68_method_73_code 3 none { frames := fPSA, cells := 1, slots := N, locals := lPSA } Z LT [] #[.ref b, .int (Int32.ofNat us.length), .ref a] h [b, v] mine (PsaQ Z us vs b v C) := by
  have hbl := byt_len us
  obtain ⟨t, St, na, nt⟩ := id S
  refine Con.of pnPSA (Ls := [.val (.ref b), .val (.int (Int32.ofNat us.length)), .val (.ref a)]) (fun m => by first | (simp [entryFrame, mkF, argsToLocals, Value.category]; done) | (simp [entryFrame, mkF, argsToLocals, Value.category, maxLocals]; done) | rfl) ?_
  refine WP.aloadN (pc' := 1) dPSA_0 rfl rfl rfl ?_
  refine WP.aloadN (pc' := 2) dPSA_1 rfl rfl rfl ?_
  by_cases hsame : cod us = cod vs
  · have hlat : lat us = lat vs := by
      cases h1 : lat us <;> cases h2 : lat vs
      · rfl
      · rw [cod_utf h1, cod_lat h2] at hsame; exact absurd hsame (by decide)
      · rw [cod_lat h1, cod_utf h2] at hsame; exact absurd hsame (by decide)
      · rfl
    have hlat2 : lat (us ++ vs) = lat vs := by rw [lat_app2, hlat, Bool.and_self]
    have hw1 : wid us = wid vs := by unfold wid; rw [hlat]
    have hw2 : wid vs = wid (us ++ vs) := by unfold wid; rw [hlat2]
    have hc2 : cod vs = cod (us ++ vs) := by unfold cod; rw [hlat2]
    have he : byt us ++ byt vs = byt (us ++ vs) := by
      cases hl0 : lat vs
      · rw [byt_utf (hlat.trans hl0), byt_utf hl0, byt_utf (hlat2.trans hl0), b16_app]
      · rw [byt_lat (hlat.trans hl0), byt_lat hl0, byt_lat (hlat2.trans hl0), List.map_append]
    refine WP.callPn (pc' := 5) (con_IIN hw hc (by rw [← hsame]; exact B.2.2.1) St) B.1.cell (hw _ (List.mem_of_getElem? (i := 111) rfl)) (hw _ (List.mem_of_getElem? (i := 112) rfl)) (hw _ (List.mem_of_getElem? (i := 113) rfl)) (fun s hs => (ni_sel (y := ({ cls := "java/lang/AbstractStringBuilder", name := "ensureCapacityInternal", desc := "(I)V" } : Jvm.MethodName)) (args := #[]) (mv hs (hw _ (List.mem_of_getElem? (i := 104) rfl))))) (hw _ (List.mem_of_getElem? (i := 71) rfl)) (hw _ (List.mem_of_getElem? (i := 115) rfl)) dPSA_2 (by decide) pdx20 rfl rfl rfl (by first | exact Nat.le_of_ble_eq_true rfl | omega | (simp; done) | (simp; omega) | (dsimp only; omega)) (by first | exact Nat.le_of_ble_eq_true rfl | omega | (simp; done) | (simp; omega) | (dsimp only; omega)) (by first | exact Nat.le_of_ble_eq_true rfl | omega | (simp; done) | (simp; omega) | (dsimp only; omega)) (by first | exact Nat.le_of_ble_eq_true rfl | omega | (simp; done) | (simp; omega) | (dsimp only; omega)) (fun _ hx => nomatch hx) rfl ?_
    rintro w h1 nw K hnw ⟨rfl, rfl, rfl⟩
    dsimp only [Option.toList, List.nil_append]
    refine WP.more (ce' := 1) (sl' := N) ?_ (by omega) (by omega)
    exact tail_PSA (nw := []) hw hc (by rw [hbl, hw1]) (by rw [hl, hw1]) he hc2 hw2 hfit (by rw [← hsame]; exact B) S hb hv (Or.inl (by simp)) (fun _ hx => nomatch hx) (fun x hx => hx) (Or.inl ⟨rfl, rfl⟩)
  · exact absurd (by rw [cod_lat hlu, cod_lat hlv]) hsame
theorem dAPS_0 : decode jdk_68_method_22_code 0 = .ok (.aload_n 1, 1) := by decide +kernel
theorem dAPS_1 : decode jdk_68_method_22_code 1 = .ok (.ifnonnull 8, 3) := by decide +kernel
theorem dAPS_4 : decode jdk_68_method_22_code 4 = .ok (.aload_n 0, 1) := by decide +kernel
theorem dAPS_5 : decode jdk_68_method_22_code 5 = .ok (.invokevirtual 204, 3) := by decide +kernel
theorem dAPS_8 : decode jdk_68_method_22_code 8 = .ok (.areturn, 1) := by decide +kernel
theorem dAPS_9 : decode jdk_68_method_22_code 9 = .ok (.aload_n 1, 1) := by decide +kernel
theorem dAPS_10 : decode jdk_68_method_22_code 10 = .ok (.invokevirtual 32, 3) := by decide +kernel
theorem dAPS_13 : decode jdk_68_method_22_code 13 = .ok (.istore_n 2, 1) := by decide +kernel
theorem dAPS_14 : decode jdk_68_method_22_code 14 = .ok (.aload_n 0, 1) := by decide +kernel
theorem dAPS_15 : decode jdk_68_method_22_code 15 = .ok (.aload_n 0, 1) := by decide +kernel
theorem dAPS_16 : decode jdk_68_method_22_code 16 = .ok (.getfield 79, 3) := by decide +kernel
theorem dAPS_19 : decode jdk_68_method_22_code 19 = .ok (.iload_n 2, 1) := by decide +kernel
theorem dAPS_20 : decode jdk_68_method_22_code 20 = .ok (.iadd, 1) := by decide +kernel
theorem dAPS_21 : decode jdk_68_method_22_code 21 = .ok (.invokevirtual 100, 3) := by decide +kernel
theorem dAPS_24 : decode jdk_68_method_22_code 24 = .ok (.aload_n 0, 1) := by decide +kernel
theorem dAPS_25 : decode jdk_68_method_22_code 25 = .ok (.aload_n 0, 1) := by decide +kernel
theorem dAPS_26 : decode jdk_68_method_22_code 26 = .ok (.getfield 79, 3) := by decide +kernel
theorem dAPS_29 : decode jdk_68_method_22_code 29 = .ok (.aload_n 1, 1) := by decide +kernel
theorem dAPS_30 : decode jdk_68_method_22_code 30 = .ok (.invokevirtual 208, 3) := by decide +kernel
theorem dAPS_33 : decode jdk_68_method_22_code 33 = .ok (.aload_n 0, 1) := by decide +kernel
theorem dAPS_34 : decode jdk_68_method_22_code 34 = .ok (.dup, 1) := by decide +kernel
theorem dAPS_35 : decode jdk_68_method_22_code 35 = .ok (.getfield 79, 3) := by decide +kernel
theorem dAPS_38 : decode jdk_68_method_22_code 38 = .ok (.iload_n 2, 1) := by decide +kernel
theorem dAPS_39 : decode jdk_68_method_22_code 39 = .ok (.iadd, 1) := by decide +kernel
theorem dAPS_40 : decode jdk_68_method_22_code 40 = .ok (.putfield 79, 3) := by decide +kernel
theorem dAPS_43 : decode jdk_68_method_22_code 43 = .ok (.aload_n 0, 1) := by decide +kernel
theorem dAPS_44 : decode jdk_68_method_22_code 44 = .ok (.areturn, 1) := by decide +kernel
theorem pnAPS : plainFor (⟨"java/lang/AbstractStringBuilder", "append", "(Ljava/lang/String;)Ljava/lang/AbstractStringBuilder;"⟩ : MethodName) = true := plainFor_of_name (by first | (simp [plainName, overriddenIn]; done) | decide +kernel)
/-- what an append leaves: the builder with m signs, its array v', its capacity C' -/
def ApQ (Z : State) (ws : List UInt16) (b v : Addr) (hs C : Nat) (mine : List Addr) (w : Option Value) (h' : Heap) (nw : List Addr) : Prop := w = some (.ref b) ∧ ∃ v' C', v' ∈ nw ++ mine ∧ (v' = v ∨ hs ≤ v') ∧ SB Z h' b v' ws C' ∧ ws.length ≤ C' ∧ (C' = C ∨ (C < ws.length ∧ C' = max ws.length (2 * C + 2)))
theorem SB.cap {b v : Addr} {us : List UInt16} {C : Nat} (B : SB Z h b v us C) : us.length ≤ C := by
  obtain ⟨pad, B, hlen⟩ := B
  have hbl := byt_len us
  rw [List.length_append, hbl] at hlen
  unfold wid at hlen
  split at hlen <;> omega
theorem cc_of {us : List UInt16} {pad : List Int32} {C : Nat} (hlen : (byt us ++ pad).length = wid us * C) : (cod us = 0 ∧ (byt us ++ pad).length = C) ∨ (cod us = 1 ∧ (byt us ++ pad).length = 2 * C) := by
  unfold wid at hlen
  cases hl : lat us
  · rw [hl] at hlen; exact Or.inr ⟨cod_utf hl, by simpa using hlen⟩
  · rw [hl] at hlen; exact Or.inl ⟨cod_lat hl, by simpa using hlen⟩
theorem cc_to {us : List UInt16} {xs : List Int32} {C : Nat} (h : (cod us = 0 ∧ xs.length = C) ∨ (cod us = 1 ∧ xs.length = 2 * C)) : xs.length = wid us * C := by
  cases hl : lat us
  · rw [wid_utf hl]; rw [cod_utf hl] at h; exact h.elim (fun q => absurd q.1 (by decide)) (fun q => q.2)
  · rw [wid_lat hl, Nat.one_mul]; rw [cod_lat hl] at h; exact h.elim (fun q => q.2) (fun q => absurd q.1 (by decide))
set_option maxRecDepth 65536 in
set_option maxHeartbeats 40000000 in
theorem con_APS (hw : ∀ d ∈ tables_1, d.before a0 Z = true) {cz : Int32} (hc : Compact Z cz) {us vs : List UInt16} (hlu : lat us = true) (hlv : lat vs = true) {b v a : Addr} {C N : Nat} (B : SB Z h b v us C) (hN : 2 * max (us.length + vs.length) (2 * C + 2) ≤ N) (hN2 : N ≤ 67108864) (S : FStr Z h mine a vs) (hb : b ∈ mine) (hv : v ∈ mine) :
    Con (⟨"java/lang/AbstractStringBuilder", "append", "(Ljava/lang/String;)Ljava/lang/AbstractStringBuilder;"⟩ : MethodName) jdk_68_method_22_code 3 (some (.object "java/lang/AbstractStringBuilder")) { frames := fAPS, cells := 2, slots := N + N, locals := lAPS } Z LT [] #[.ref b, .ref a] h [b, v] mine (ApQ Z (us ++ vs) b v h.size C mine) := by
  have hcap := B.cap
  obtain ⟨pad, B, hlen⟩ := B
  obtain ⟨t, St, na, nt⟩ := id S
  refine Con.of pnAPS (Ls := [.val (.ref b), .val (.ref a), .unset]) (fun m => by first | (simp [entryFrame, mkF, argsToLocals, Value.category]; done) | (simp [entryFrame, mkF, argsToLocals, Value.category, maxLocals]; done) | rfl) ?_
  refine WP.aloadN (pc' := 1) dAPS_0 rfl rfl rfl ?_
  refine WP.ifnonnullT (pc' := 9) dAPS_1 (by decide) (by decide) ?_
  refine WP.aloadN (pc' := 10) dAPS_9 rfl rfl rfl ?_
  refine WP.callV (pc' := 13) (con_LEN hw hc St) St.1 (hw _ (List.mem_of_getElem? (i := 89) rfl)) (hw _ (List.mem_of_getElem? (i := 90) rfl)) (fun s hs => notFace_of_selects (args := #[]) (mv hs (hw _ (List.mem_of_getElem? (i := 92) rfl)))) (hw _ (List.mem_of_getElem? (i := 92) rfl)) (hw _ (List.mem_of_getElem? (i := 91) rfl)) (hw _ (List.mem_of_getElem? (i := 4) rfl)) (hw _ (List.mem_of_getElem? (i := 93) rfl)) dAPS_10 (by decide) pdx14 rfl rfl rfl (by first | exact Nat.le_of_ble_eq_true rfl | omega | (simp; done) | (simp; omega) | (dsimp only; omega)) (by first | exact Nat.le_of_ble_eq_true rfl | omega | (simp; done) | (simp; omega) | (dsimp only; omega)) (by first | exact Nat.le_of_ble_eq_true rfl | omega | (simp; done) | (simp; omega) | (dsimp only; omega)) (by first | exact Nat.le_of_ble_eq_true rfl | omega | (simp; done) | (simp; omega) | (dsimp only; omega)) (fun _ hx => nomatch hx) rfl ?_
  rintro w h nw K hnw ⟨rfl, rfl, rfl⟩
  dsimp only [Option.toList, List.cons_append, List.nil_append]
  refine WP.istoreN (pc' := 14) dAPS_13 rfl rfl rfl ?_
  dsimp only [List.set]
  refine WP.aloadN (pc' := 15) dAPS_14 rfl rfl rfl ?_
  refine WP.aloadN (pc' := 16) dAPS_15 rfl rfl rfl ?_
  refine WP.getfield (pc' := 19) (host := "") dAPS_16 (Or.inl (hw _ (List.mem_of_getElem? (i := 99) rfl))) Via.refl B.2.2.2.1 rfl ?_
  refine WP.iloadN (pc' := 20) dAPS_19 rfl rfl ?_
  refine WP.iadd (pc' := 21) dAPS_20 rfl ?_
  rw [n32_add]
  refine WP.callPn (pc' := 24) (con_ECI hw (C := C) (m := us.length + vs.length) (N := N) B (cc_of hlen) rfl hN hN2 hb) B.1.cell (hw _ (List.mem_of_getElem? (i := 101) rfl)) (hw _ (List.mem_of_getElem? (i := 102) rfl)) (hw _ (List.mem_of_getElem? (i := 103) rfl)) (fun s hs => (ni_sel (y := ({ cls := "java/lang/AbstractStringBuilder", name := "ensureCapacityInternal", desc := "(I)V" } : Jvm.MethodName)) (args := #[]) (mv hs (hw _ (List.mem_of_getElem? (i := 104) rfl))))) (hw _ (List.mem_of_getElem? (i := 71) rfl)) (hw _ (List.mem_of_getElem? (i := 105) rfl)) dAPS_21 (by decide) pdx18 rfl rfl rfl (by first | exact Nat.le_of_ble_eq_true rfl | omega | (simp; done) | (simp; omega) | (dsimp only; omega)) (by first | exact Nat.le_of_ble_eq_true rfl | omega | (simp; done) | (simp; omega) | (dsimp only; omega)) (by first | exact Nat.le_of_ble_eq_true rfl | omega | (simp; done) | (simp; omega) | (dsimp only; omega)) (by first | exact Nat.le_of_ble_eq_true rfl | omega | (simp; done) | (simp; omega) | (dsimp only; omega)) (fun x hx => by cases List.mem_singleton.mp hx; exact Or.inl (by simp)) rfl ?_
  rintro w h1 nw K1 hnw1 ⟨rfl, v', C', zs, hv', B1, hcc, hle, hCC⟩
  dsimp only [Option.toList, List.nil_append]
  rw [List.append_assoc] at B1 hcc
  have hlen1 := cc_to hcc
  have hvm : v' ∈ nw ++ mine := by
    rcases hv' with ⟨rfl, rfl⟩ | rfl
    · exact hv
    · simp
  have hvw : v' ∈ [b, v] ∨ h.size ≤ v' := by
    rcases hv' with ⟨rfl, rfl⟩ | rfl
    · exact Or.inl (by simp)
    · exact Or.inr (hnw1 _ (by simp))
  have hbm : b ∈ nw ++ mine := List.mem_append.mpr (Or.inr hb)
  have S1 : FStr Z h1 (nw ++ mine) a vs := FStr.call S K1 (fun x hx => by cases List.mem_singleton.mp hx; exact hb) hnw1
  refine WP.aloadN (pc' := 25) dAPS_24 rfl rfl rfl ?_
  refine WP.aloadN (pc' := 26) dAPS_25 rfl rfl rfl ?_
  refine WP.getfield (pc' := 29) (host := "") dAPS_26 (Or.inl (hw _ (List.mem_of_getElem? (i := 99) rfl))) Via.refl B1.2.2.2.1 rfl ?_
  refine WP.aloadN (pc' := 30) dAPS_29 rfl rfl rfl ?_
  refine WP.callPn (pc' := 33) (con_PSA hw hc hlu hlv (C := C') (N := N) B1 hlen1 hle (by omega) hN2 S1 hbm hvm) B1.1.cell (hw _ (List.mem_of_getElem? (i := 106) rfl)) (hw _ (List.mem_of_getElem? (i := 107) rfl)) (hw _ (List.mem_of_getElem? (i := 108) rfl)) (fun s hs => (ni_sel (y := ({ cls := "java/lang/AbstractStringBuilder", name := "ensureCapacityInternal", desc := "(I)V" } : Jvm.MethodName)) (args := #[]) (mv hs (hw _ (List.mem_of_getElem? (i := 104) rfl))))) (hw _ (List.mem_of_getElem? (i := 71) rfl)) (hw _ (List.mem_of_getElem? (i := 110) rfl)) dAPS_30 (by decide) pdx21 rfl rfl rfl (by first | exact Nat.le_of_ble_eq_true rfl | omega | (simp; done) | (simp; omega) | (dsimp only; omega)) (by first | exact Nat.le_of_ble_eq_true rfl | omega | (simp; done) | (simp; omega) | (dsimp only; omega)) (by first | exact Nat.le_of_ble_eq_true rfl | omega | (simp; done) | (simp; omega) | (dsimp only; omega)) (by first | exact Nat.le_of_ble_eq_true rfl | omega | (simp; done) | (simp; omega) | (dsimp only; omega)) (fun x hx => by rcases List.mem_cons.mp hx with rfl | hx; exact Or.inl (by simp); cases List.mem_singleton.mp hx; exact hvw) rfl ?_
  rintro w h2 nw2 K2 hnw2 ⟨rfl, v2, pad2, hv2, B2, hlen2⟩
  dsimp only [Option.toList, List.nil_append]
  obtain ⟨E2, Fv2, Fc2, Fn2, M2, A2, X2, nbv2, hfx2⟩ := B2
  have hbm2 : b ∈ nw2 ++ (nw ++ mine) := List.mem_append.mpr (Or.inr hbm)
  refine WP.aloadN (pc' := 34) dAPS_33 rfl rfl rfl ?_
  refine WP.dup (pc' := 35) dAPS_34 rfl rfl ?_
  refine WP.getfield (pc' := 38) (host := "") dAPS_35 (Or.inl (hw _ (List.mem_of_getElem? (i := 99) rfl))) Via.refl Fn2 rfl ?_
  refine WP.iloadN (pc' := 39) dAPS_38 rfl rfl ?_
  refine WP.iadd (pc' := 40) dAPS_39 rfl ?_
  rw [n32_add]
  refine WP.putfield (pc' := 43) (host := "") dAPS_40 (Or.inl (hw _ (List.mem_of_getElem? (i := 99) rfl))) Via.refl Fn2 E2 (Or.inl (hw _ (List.mem_of_getElem? (i := 100) rfl))) (hw _ (List.mem_of_getElem? (i := 62) rfl)) (ty := .int) (by decide) rfl rfl hbm2 (Or.inl (by simp)) rfl ?_
  intro h3 W3 G3 E3
  refine WP.aloadN (pc' := 44) dAPS_43 rfl rfl rfl ?_
  have hv2m : v2 ∈ (nw2 ++ nw) ++ mine := by
    rw [List.append_assoc]
    rcases hv2 with ⟨rfl, rfl⟩ | rfl
    · exact hvm
    · simp
  have hv2w : v2 = v ∨ h.size ≤ v2 := by
    rcases hv2 with ⟨rfl, rfl⟩ | rfl
    · exact hvw.imp (fun q => (List.mem_cons.mp q).elim (fun z => absurd z (Ne.symm nbv2)) (fun z => List.mem_singleton.mp z)) id
    · exact Or.inr (Nat.le_trans K1.1 (hnw2 _ (by simp)))
  refine WP.areturn (nw := nw2 ++ nw) dAPS_44 rfl rfl rfl ⟨rfl, v2, C', hv2m, hv2w, ⟨pad2, ⟨E3, Fv2.other W3 (Or.inr (s_vn hw)), Fc2.other W3 (Or.inr (s_cn hw)), by rw [List.length_append]; exact G3, M2.wn hw W3, A2.other W3 (Ne.symm nbv2), X2.wr W3, nbv2, hfx2⟩, hlen2⟩, by rw [List.length_append]; exact hle, by rw [List.length_append]; exact hCC⟩ (fun x hx => ?_) (fun x hx => List.mem_append.mpr (Or.inr (List.mem_append.mpr (Or.inr hx)))) (by dsimp only; omega) (by dsimp only; omega)
  rcases List.mem_append.mp hx with q | q
  · exact ⟨List.mem_append.mpr (Or.inl q), Nat.le_trans K1.1 (hnw2 x q)⟩
  · exact ⟨List.mem_append.mpr (Or.inr (List.mem_append.mpr (Or.inl q))), hnw1 x q⟩
theorem dSAS_0 : decode jdk_67_method_7_code 0 = .ok (.aload_n 0, 1) := by decide +kernel
theorem dSAS_1 : decode jdk_67_method_7_code 1 = .ok (.aload_n 1, 1) := by decide +kernel
theorem dSAS_2 : decode jdk_67_method_7_code 2 = .ok (.invokespecial 29, 3) := by decide +kernel
theorem dSAS_5 : decode jdk_67_method_7_code 5 = .ok (.pop, 1) := by decide +kernel
theorem dSAS_6 : decode jdk_67_method_7_code 6 = .ok (.aload_n 0, 1) := by decide +kernel
theorem dSAS_7 : decode jdk_67_method_7_code 7 = .ok (.areturn, 1) := by decide +kernel
theorem pnSAS : plainFor (⟨"java/lang/StringBuilder", "append", "(Ljava/lang/String;)Ljava/lang/StringBuilder;"⟩ : MethodName) = true := plainFor_of_name (by first | (simp [plainName, overriddenIn]; done) | decide +kernel)
set_option maxRecDepth 65536 in
set_option maxHeartbeats 40000000 in
theorem con_SAS (hw : ∀ d ∈ tables_1, d.before a0 Z = true) {cz : Int32} (hc : Compact Z cz) {us vs : List UInt16} (hlu : lat us = true) (hlv : lat vs = true) {b v a : Addr} {C N : Nat} (B : SB Z h b v us C) (hN : 2 * max (us.length + vs.length) (2 * C + 2) ≤ N) (hN2 : N ≤ 67108864) (S : FStr Z h mine a vs) (hb : b ∈ mine) (hv : v ∈ mine) :
    Con (⟨"java/lang/StringBuilder", "append", "(Ljava/lang/String;)Ljava/lang/StringBuilder;"⟩ : MethodName) jdk_67_method_7_code 2 (some (.object "java/lang/StringBuilder")) { frames := fAPS + 1, cells := 2, slots := N + N, locals := 14 + lAPS } Z LT [] #[.ref b, .ref a] h [b, v] mine (ApQ Z (us ++ vs) b v h.size C mine) := by
  refine Con.of pnSAS (Ls := [.val (.ref b), .val (.ref a)]) (fun m => by first | (simp [entryFrame, mkF, argsToLocals, Value.category]; done) | (simp [entryFrame, mkF, argsToLocals, Value.category, maxLocals]; done) | rfl) ?_
  refine WP.aloadN (pc' := 1) dSAS_0 rfl rfl rfl ?_
  refine WP.aloadN (pc' := 2) dSAS_1 rfl rfl rfl ?_
  refine WP.callSup (pc' := 5) (con_APS hw hc hlu hlv B hN hN2 S hb hv) B.exa (hw _ (List.mem_of_getElem? (i := 84) rfl)) (hw _ (List.mem_of_getElem? (i := 85) rfl)) (hw _ (List.mem_of_getElem? (i := 86) rfl)) (ni_sel (y := ({ cls := "java/lang/AbstractStringBuilder", name := "ensureCapacityInternal", desc := "(I)V" } : Jvm.MethodName)) (hw _ (List.mem_of_getElem? (i := 104) rfl))) (by decide) (hw _ (List.mem_of_getElem? (i := 71) rfl)) (hw _ (List.mem_of_getElem? (i := 88) rfl)) dSAS_2 (by decide) pdx22 rfl rfl rfl (by first | exact Nat.le_of_ble_eq_true rfl | omega | (simp; done) | (simp; omega) | (dsimp only; omega)) (by first | exact Nat.le_of_ble_eq_true rfl | omega | (simp; done) | (simp; omega) | (dsimp only; omega)) (by first | exact Nat.le_of_ble_eq_true rfl | omega | (simp; done) | (simp; omega) | (dsimp only; omega)) (by first | exact Nat.le_of_ble_eq_true rfl | omega | (simp; done) | (simp; omega) | (dsimp only; omega)) (fun x hx => Or.inl hx) rfl ?_
  rintro w h1 nw K1 hnw1 ⟨rfl, v', C', q⟩
  dsimp only [Option.toList, List.nil_append, List.cons_append]
  refine WP.pop (pc' := 6) dSAS_5 rfl rfl ?_
  refine WP.aloadN (pc' := 7) dSAS_6 rfl rfl rfl ?_
  exact WP.areturn (nw := nw) dSAS_7 rfl rfl rfl ⟨rfl, v', C', q⟩ (fun x hx => ⟨List.mem_append.mpr (Or.inl hx), hnw1 x hx⟩) (fun x hx => List.mem_append.mpr (Or.inr hx)) (by dsimp only; omega) (by dsimp only; omega)
end JdkAps
end Jvm.Pilot.@@N@@

namespace Jvm.Pilot.@@N@@
open Jvm Jvm.ClassFile Sem Op Lib Jvm.Free Jvm.Stand Jvm.LawKit Jvm.RoadKit Bundle Jvm.Pilot.@@N@@.Jvm.D Jvm.OwnW
theorem pdx23 : parseMethodDescriptor "(J)I" = some ⟨[.long], some .int⟩ := by decide +kernel
theorem pdx24 : parseMethodDescriptor "(JI[B)I" = some ⟨[.long, .int, (.array .byte)], some .int⟩ := by decide +kernel
theorem pdx25 : parseMethodDescriptor "(J)Ljava/lang/AbstractStringBuilder;" = some ⟨[.long], some (.object "java/lang/AbstractStringBuilder")⟩ := by decide +kernel
theorem pdx26 : parseMethodDescriptor "(II[B)I" = some ⟨[.int, .int, (.array .byte)], some .int⟩ := by decide +kernel
theorem pdx27 : parseMethodDescriptor "(I)Ljava/lang/AbstractStringBuilder;" = some ⟨[.int], some (.object "java/lang/AbstractStringBuilder")⟩ := by decide +kernel
def dgc (d : Nat) : UInt16 := (48 + d % 10).toUInt16
def digs (M : Nat) : List UInt16 := if h : M < 10 then [dgc M] else digs (M / 10) ++ [dgc M]
termination_by M
theorem digs_lt {M : Nat} (h : M < 10) : digs M = [dgc M] := by rw [digs, dif_pos h]
theorem digs_ge {M : Nat} (h : 10 ≤ M) : digs M = digs (M / 10) ++ [dgc M] := by rw [digs, dif_neg (by omega)]
theorem digs_pos (M : Nat) : 1 ≤ (digs M).length := by
  by_cases h : M < 10
  · simp [digs_lt h]
  · simp [digs_ge (Nat.le_of_not_lt h)]
theorem digs100 {M : Nat} (h : 100 ≤ M) : digs M = digs (M / 100) ++ [dgc (M / 10), dgc M] := by
  rw [digs_ge (by omega), digs_ge (by omega), Nat.div_div_eq_div_mul]; simp
theorem digs_two {M : Nat} (h : 10 ≤ M) (h2 : M < 100) : digs M = [dgc (M / 10), dgc M] := by
  rw [digs_ge h, digs_lt (by omega)]; rfl
theorem digs_get : ∀ (k M : Nat), k < (digs M).length → (digs M)[(digs M).length - 1 - k]? = some (dgc (M / 10 ^ k)) := by
  intro k
  induction k with
  | zero =>
    intro M _
    by_cases h : M < 10
    · simp [digs_lt h]
    · simp [digs_ge (Nat.le_of_not_lt h)]
  | succ k ih =>
    intro M hk
    by_cases h : M < 10
    · rw [digs_lt h] at hk; simp at hk
    · have e := digs_ge (Nat.le_of_not_lt h)
      rw [e] at hk ⊢
      simp only [List.length_append, List.length_cons, List.length_nil] at hk ⊢
      have := ih (M / 10) (by omega)
      rw [List.getElem?_append_left (by omega)]
      rw [show (digs (M / 10)).length + (0 + 1) - 1 - (k + 1) = (digs (M / 10)).length - 1 - k by omega, this]
      rw [Nat.div_div_eq_div_mul, Nat.pow_succ, Nat.mul_comm]
theorem digs_len : ∀ (k M : Nat), (digs M).length ≤ k + 1 ↔ M < 10 ^ (k + 1) := by
  intro k
  induction k with
  | zero =>
    intro M
    by_cases h : M < 10
    · simp [digs_lt h, h]
    · have := digs_pos (M / 10)
      rw [digs_ge (Nat.le_of_not_lt h)]; simp only [List.length_append, List.length_cons, List.length_nil]; omega
  | succ k ih =>
    intro M
    by_cases h : M < 10
    · rw [digs_lt h]
      have : 10 ^ 1 ≤ 10 ^ (k + 1 + 1) := Nat.pow_le_pow_right (by omega) (by omega)
      simp; omega
    · rw [digs_ge (Nat.le_of_not_lt h)]
      have := ih (M / 10)
      have e : 10 ^ (k + 1 + 1) = 10 * 10 ^ (k + 1) := by rw [Nat.pow_succ, Nat.mul_comm]
      simp only [List.length_append, List.length_cons, List.length_nil]
      rw [e]
      omega
def sgn (v : Int) : List UInt16 := if v < 0 then [45] else []
def dec (v : Int) : List UInt16 := sgn v ++ digs v.natAbs
theorem dgc_toNat (d : Nat) : (dgc d).toNat = 48 + d % 10 := by
  have : d % 10 < 10 := Nat.mod_lt _ (by omega)
  unfold dgc
  rw [Nat.toUInt16, UInt16.toNat_ofNat']
  omega
theorem dgc_lt (d : Nat) : dgc d < 256 := by
  have : d % 10 < 10 := Nat.mod_lt _ (by omega)
  rw [UInt16.lt_iff_toNat_lt, dgc_toNat]
  have e : (256 : UInt16).toNat = 256 := rfl
  omega
theorem lat_digs (M : Nat) : lat (digs M) = true := by
  induction M using Nat.strongRecOn with
  | ind M ih =>
    by_cases h : M < 10
    · rw [digs_lt h]; simp [lat, dgc_lt]
    · rw [digs_ge (Nat.le_of_not_lt h), lat_app2, ih (M / 10) (by omega)]; simp [lat, dgc_lt]
theorem lat_dec (v : Int) : lat (dec v) = true := by
  unfold dec sgn
  rw [lat_app2, lat_digs]
  split <;> simp [lat]
theorem put_back {α : Type} {xs S : List α} {p : Nat} {y : α} (h1 : 1 ≤ p) (h2 : p ≤ xs.length) : (xs.take p ++ S).set (p - 1) y = xs.take (p - 1) ++ y :: S := by
  obtain ⟨q, rfl⟩ : ∃ q, p = q + 1 := ⟨p - 1, by omega⟩
  rw [Nat.add_sub_cancel]
  have e : xs.take (q + 1) = xs.take q ++ [xs[q]] := by rw [List.take_append_getElem]
  rw [e, List.append_assoc, List.set_append_right _ _ (by simp; omega)]
  have : q - (xs.take q).length = 0 := by simp; omega
  rw [this]; rfl
theorem neg64 (x : Int64) : (¬ x < 0 → (-x).toInt = -(x.toInt.natAbs : Int)) ∧ (x < 0 → x.toInt = -(x.toInt.natAbs : Int)) ∧ x.toInt.natAbs ≤ 9223372036854775808 := by
  have r := rng64 x
  have r' := rng64 (-x)
  have s := c_lneg x
  have e0 : (0 : Int64).toInt = 0 := rfl
  refine ⟨fun h => ?_, fun h => ?_, by omega⟩
  · rw [Int64.lt_iff_toInt_lt] at h; omega
  · rw [Int64.lt_iff_toInt_lt] at h; omega
theorem neg32 (x : Int32) : (¬ x < 0 → (-x).toInt = -(x.toInt.natAbs : Int)) ∧ (x < 0 → x.toInt = -(x.toInt.natAbs : Int)) ∧ x.toInt.natAbs ≤ 2147483648 := by
  have r := rng32 x
  have r' := rng32 (-x)
  have s := c_ineg x
  have e0 : (0 : Int32).toInt = 0 := rfl
  refine ⟨fun h => ?_, fun h => ?_, by omega⟩
  · rw [Int32.lt_iff_toInt_lt] at h; omega
  · rw [Int32.lt_iff_toInt_lt] at h; omega
theorem l_div {n y : Int64} {M d : Nat} (h : n.toInt = -(M : Int)) (hy : y.toInt = (d : Int)) (h1 : y ≠ -1) : (n / y).toInt = -((M / d : Nat) : Int) := by
  rw [Int64.toInt_div_of_ne_right n y h1, h, hy, Int.neg_tdiv]; rfl
theorem l_mod {n y : Int64} {M d : Nat} (h : n.toInt = -(M : Int)) (hy : y.toInt = (d : Int)) : (n % y).toInt = -((M % d : Nat) : Int) := by
  rw [Int64.toInt_mod n y, h, hy, Int.neg_tmod]; rfl
theorem i_div {n y : Int32} {M d : Nat} (h : n.toInt = -(M : Int)) (hy : y.toInt = (d : Int)) (h1 : y ≠ -1) : (n / y).toInt = -((M / d : Nat) : Int) := by
  rw [Int32.toInt_div_of_ne_right n y h1, h, hy, Int.neg_tdiv]; rfl
theorem l_r100 {n q : Int64} {M : Nat} (h : n.toInt = -(M : Int)) (hM : M ≤ 9223372036854775808) (hq : q.toInt = -((M / 100 : Nat) : Int)) : (q * 100 - n).toInt32 = Int32.ofNat (M % 100) := by
  have s1 := c_lmul q 100
  have s2 := c_lsub (q * 100) n
  have s3 := c_l2i (q * 100 - n)
  have r1 := rng64 (q * 100)
  have r2 := rng64 (q * 100 - n)
  have r3 := rng32 (q * 100 - n).toInt32
  have e : (100 : Int64).toInt = 100 := by decide
  rw [e, hq] at s1
  rw [h] at s2
  have e2 : (q * 100 - n).toInt = ((M % 100 : Nat) : Int) := by omega
  apply Int32.toInt_inj.mp
  rw [n32_toInt (by omega)]
  omega
theorem i_r100 {n q : Int32} {M : Nat} (h : n.toInt = -(M : Int)) (hM : M ≤ 2147483648) (hq : q.toInt = -((M / 100 : Nat) : Int)) : q * 100 - n = Int32.ofNat (M % 100) := by
  have s1 := c_imul q 100
  have s2 := c_isub (q * 100) n
  have r1 := rng32 (q * 100)
  have r2 := rng32 (q * 100 - n)
  have e : (100 : Int32).toInt = 100 := by decide
  rw [e, hq] at s1
  rw [h] at s2
  apply Int32.toInt_inj.mp
  rw [n32_toInt (by omega)]
  omega
theorem l_l2i {n : Int64} {M : Nat} (h : n.toInt = -(M : Int)) (hM : M ≤ 2147483648) : n.toInt32.toInt = -(M : Int) := by
  have s3 := c_l2i n
  have r3 := rng32 n.toInt32
  omega
theorem i_negN {n : Int32} {M : Nat} (h : n.toInt = -(M : Int)) (hM : M < 2147483648) : -n = Int32.ofNat M := by
  have s := c_ineg n
  have r := rng32 (-n)
  apply Int32.toInt_inj.mp
  rw [n32_toInt (by omega)]
  omega
theorem n32_pred {p : Nat} (h : 1 ≤ p) (h2 : p < 2 ^ 31) : Int32.ofNat p + Int32.ofInt (-1) = Int32.ofNat (p - 1) := by
  have s := c_iadd (Int32.ofNat p) (Int32.ofInt (-1))
  have r := rng32 (Int32.ofNat p + Int32.ofInt (-1))
  have e : (Int32.ofInt (-1)).toInt = -1 := by decide
  rw [n32_toInt h2, e] at s
  apply Int32.toInt_inj.mp
  rw [n32_toInt (by omega)]
  omega
theorem pow_bnd : ∀ j : Nat, j ≤ 18 → (10 ^ j : Nat) ≤ 1000000000000000000 := fun j hj => Nat.le_trans (Nat.pow_le_pow_right (by omega) hj) (by decide)
theorem l_p10 {p : Int64} {j : Nat} (h : p.toInt = -((10 ^ j : Nat) : Int)) (hj : j + 1 ≤ 18) : (10 * p).toInt = -((10 ^ (j + 1) : Nat) : Int) := by
  have s := c_lmul 10 p
  have r := rng64 (10 * p)
  have e : (10 : Int64).toInt = 10 := by decide
  have b := pow_bnd (j + 1) hj
  rw [e, h] at s
  rw [Nat.pow_succ] at b ⊢
  generalize 10 ^ j = P at *
  omega
theorem pow_bnd9 : ∀ j : Nat, j ≤ 9 → (10 ^ j : Nat) ≤ 1000000000 := fun j hj => Nat.le_trans (Nat.pow_le_pow_right (by omega) hj) (by decide)
theorem i_p10 {p : Int32} {j : Nat} (h : p.toInt = -((10 ^ j : Nat) : Int)) (hj : j + 1 ≤ 9) : (10 * p).toInt = -((10 ^ (j + 1) : Nat) : Int) := by
  have s := c_imul 10 p
  have r := rng32 (10 * p)
  have e : (10 : Int32).toInt = 10 := by decide
  have b := pow_bnd9 (j + 1) hj
  rw [e, h] at s
  rw [Nat.pow_succ] at b ⊢
  generalize 10 ^ j = P at *
  omega
theorem lo8_dgc (d : Nat) : lo8 (dgc d) = Int32.ofNat (48 + d % 10) := by
  have : d % 10 < 10 := Nat.mod_lt _ (by omega)
  have e := lo8_toInt (dgc d)
  rw [dgc_toNat, if_pos (by omega)] at e
  apply Int32.toInt_inj.mp
  rw [e, n32_toInt (by omega)]
  omega
theorem nar_lo8 (u : UInt16) : nar .byte (lo8 u) = lo8 u := by
  show (lo8 u).toInt8.toInt32 = lo8 u
  simp [lo8]
theorem chv_dgc (d : Nat) : chv (dgc d) = Int32.ofNat (48 + d % 10) := by
  have : d % 10 < 10 := Nat.mod_lt _ (by omega)
  apply Int32.toInt_inj.mp
  rw [chv_toInt, dgc_toNat, n32_toInt (by omega)]
theorem dig_val {m : Int64} {M : Nat} (h : m.toInt = -(M : Int)) : ((48 : Int32) - (m % 10).toInt32).toUInt32.toUInt16.toUInt32.toInt32 = chv (dgc M) := by
  have hr : M % 10 < 10 := Nat.mod_lt _ (by omega)
  have e1 := l_l2i (l_mod (d := 10) (y := 10) h (by decide)) (by omega)
  have s := c_isub 48 (m % 10).toInt32
  have r := rng32 ((48 : Int32) - (m % 10).toInt32)
  have e48 : (48 : Int32).toInt = 48 := by decide
  rw [e48, e1] at s
  have e2 : (48 : Int32) - (m % 10).toInt32 = chv (dgc M) := by
    rw [chv_dgc]
    apply Int32.toInt_inj.mp
    rw [n32_toInt (by omega)]
    omega
  rw [e2, chv_i2c]
theorem dgc_ones {r : Nat} : Int32.ofNat (48 + r % 10) = lo8 (dgc r) := (lo8_dgc r).symm
theorem dgc_tens {r : Nat} (h : r < 100) : Int32.ofNat (48 + r / 10) = lo8 (dgc (r / 10)) := by
  rw [lo8_dgc, Nat.mod_eq_of_lt (by omega : r / 10 < 10)]
theorem dgc_mod {a b : Nat} (h : a % 10 = b % 10) : dgc a = dgc b := by unfold dgc; rw [h]
theorem ones_num {i : Nat} (h : i < 100) : (48 : Int32) + Int32.ofNat i % 10 = lo8 (dgc i) :=
  (by decide +kernel : ∀ i : Fin 100, (48 : Int32) + Int32.ofNat i.1 % 10 = lo8 (dgc i.1)) ⟨i, h⟩
theorem tens_num {i : Nat} (h : i < 100) : (48 : Int32) + Int32.ofNat i / 10 = lo8 (dgc (i / 10)) :=
  (by decide +kernel : ∀ i : Fin 100, (48 : Int32) + Int32.ofNat i.1 / 10 = lo8 (dgc (i.1 / 10))) ⟨i, h⟩
theorem sta_tbl {s : State} {args : Array Value} {C n d : String} {f : Nat → Int32} {r : Term} (wi : (Jvm.Cond.initializedFor C n d).before args s = true) (wx : (Jvm.Cond.exactly (.static C n d) "[B").before args s = true) (wl : (Jvm.Cond.eq (.length (.static C n d)) (.int 100)).before args s = true)
    (wa : (Jvm.Cond.all (.static C n d) (.eq (.elem (.static C n d) (.index 0)) r)).before args s = true) (wc : (Jvm.Cond.arrayClass .byte).before args s = true) (hr : ∀ i, i < 100 → r.eval args s none [i] s = some (.int (f i))) :
    ∃ a xs, Sta s s.heap C n d (.ref a) ∧ ArI s s.heap a .byte xs ∧ ∀ i, i < 100 → xs[i]? = some (f i) := by
  obtain ⟨a, S, E, ev⟩ := sta_ref wx (Or.inl wi)
  have hlen := Cond.eq_int wl rfl
  obtain ⟨a', D, hev, harr, -⟩ := Term.length_spec hlen
  cases ev.symm.trans hev
  have h31 := len_lt ev harr hlen
  have hsz : D.slots.size = 100 := by
    have e : (Term.length (.static C n d)).eval args s none [] s = some (.int (Int32.ofNat D.slots.size)) := by
      generalize Term.static C n d = tt at hev
      simp [Term.eval, hev, harr, h31]
    have h2 : Int32.ofNat D.slots.size = Int32.ofNat 100 := by simpa using Option.some.inj (e.symm.trans hlen)
    exact (n32_eq h31 (by omega)).mp h2
  obtain ⟨sd, cB, SA, kB, hevV, hfcB, hcellB, hkB, hstatB, hclsB, -⟩ := Cond.exactly_spec wx
  cases ev.symm.trans hevV
  obtain ⟨hcell, hkn, -, -⟩ := State.arrayAt?_spec harr
  cases hcellB.symm.trans hcell
  obtain ⟨cB', kB', comp, hnameB, hkB', hkindB⟩ := Cond.arrayClass_spec wc
  have eBA : ("[" ++ FieldType.toString .byte) = "[B" := by decide
  rw [eBA] at hnameB
  cases hfcB.symm.trans hnameB
  cases hkB.symm.trans hkB'
  have hA : s.isArrayOf D .byte := ⟨fun k q => (by rw [q] at hstatB; exact Bool.noConfusion hstatB), kB, by rw [hclsB]; exact hkB, comp, hkindB⟩
  have each : ∀ i, i < 100 → D.slots[i]? = some (.int (f i)) := fun i hi => by
    have q := Cond.all_elim ev harr (Cond.before_iff.mp wa) i (by omega)
    have eL : (Term.elem (.static C n d) (.index 0)).eval args s none [i] s = D.slots[i]? := Jvm.Free.SBG.elem_at (ix := .index 0) ev harr (by omega) h31 rfl
    simp only [Cond.value, eL, hr i hi] at q
    cases hq : D.slots[i]? with
    | none => rw [hq] at q; simp at q
    | some v => rw [hq] at q; cases v <;> simp at q; rw [q]
  refine ⟨a, (List.range 100).map f, S, ⟨D, ⟨hcell, hA, hkn⟩, ?_, by simp⟩, fun i hi => by simp [hi]⟩
  apply Array.ext_getElem?
  intro i
  by_cases hi : i < 100
  · rw [each i hi]; simp [hi]
  · rw [Array.getElem?_eq_none (by omega), Array.getElem?_eq_none (by simp; omega)]
/-- Integer's two tables of digits -/
def Dig (Z : State) (o1 o2 : Addr) : Prop := Sta Z Z.heap "java/lang/Integer" "DigitOnes" "[B" (.ref o1) ∧ Sta Z Z.heap "java/lang/Integer" "DigitTens" "[B" (.ref o2) ∧ (∃ xs, ArI Z Z.heap o1 .byte xs ∧ ∀ i, i < 100 → xs[i]? = some (lo8 (dgc i))) ∧ (∃ xs, ArI Z Z.heap o2 .byte xs ∧ ∀ i, i < 100 → xs[i]? = some (lo8 (dgc (i / 10))))
section JdkNum
variable {Z : State} {a0 : Array Value} {h : Heap} {mine : List Addr}
theorem dLSZ_0 : decode jdk_35_method_15_code 0 = .ok (.iconst 1, 1) := by decide +kernel
theorem dLSZ_1 : decode jdk_35_method_15_code 1 = .ok (.istore_n 2, 1) := by decide +kernel
theorem dLSZ_2 : decode jdk_35_method_15_code 2 = .ok (.lload_n 0, 1) := by decide +kernel
theorem dLSZ_3 : decode jdk_35_method_15_code 3 = .ok (.lconst 0, 1) := by decide +kernel
theorem dLSZ_4 : decode jdk_35_method_15_code 4 = .ok (.lcmp, 1) := by decide +kernel
theorem dLSZ_5 : decode jdk_35_method_15_code 5 = .ok (.ifCond .lt 8, 3) := by decide +kernel
theorem dLSZ_8 : decode jdk_35_method_15_code 8 = .ok (.iconst 0, 1) := by decide +kernel
theorem dLSZ_9 : decode jdk_35_method_15_code 9 = .ok (.istore_n 2, 1) := by decide +kernel
theorem dLSZ_10 : decode jdk_35_method_15_code 10 = .ok (.lload_n 0, 1) := by decide +kernel
theorem dLSZ_11 : decode jdk_35_method_15_code 11 = .ok (.lneg, 1) := by decide +kernel
theorem dLSZ_12 : decode jdk_35_method_15_code 12 = .ok (.lstore_n 0, 1) := by decide +kernel
theorem dLSZ_13 : decode jdk_35_method_15_code 13 = .ok (.ldc2_w 140, 3) := by decide +kernel
theorem dLSZ_16 : decode jdk_35_method_15_code 16 = .ok (.lstore_n 3, 1) := by decide +kernel
theorem dLSZ_17 : decode jdk_35_method_15_code 17 = .ok (.iconst 1, 1) := by decide +kernel
theorem dLSZ_18 : decode jdk_35_method_15_code 18 = .ok (.istore 5, 2) := by decide +kernel
theorem dLSZ_20 : decode jdk_35_method_15_code 20 = .ok (.iload 5, 2) := by decide +kernel
theorem dLSZ_22 : decode jdk_35_method_15_code 22 = .ok (.bipush 19, 2) := by decide +kernel
theorem dLSZ_24 : decode jdk_35_method_15_code 24 = .ok (.if_icmp .ge 26, 3) := by decide +kernel
theorem dLSZ_27 : decode jdk_35_method_15_code 27 = .ok (.lload_n 0, 1) := by decide +kernel
theorem dLSZ_28 : decode jdk_35_method_15_code 28 = .ok (.lload_n 3, 1) := by decide +kernel
theorem dLSZ_29 : decode jdk_35_method_15_code 29 = .ok (.lcmp, 1) := by decide +kernel
theorem dLSZ_30 : decode jdk_35_method_15_code 30 = .ok (.ifCond .le 8, 3) := by decide +kernel
theorem dLSZ_33 : decode jdk_35_method_15_code 33 = .ok (.iload 5, 2) := by decide +kernel
theorem dLSZ_35 : decode jdk_35_method_15_code 35 = .ok (.iload_n 2, 1) := by decide +kernel
theorem dLSZ_36 : decode jdk_35_method_15_code 36 = .ok (.iadd, 1) := by decide +kernel
theorem dLSZ_37 : decode jdk_35_method_15_code 37 = .ok (.ireturn, 1) := by decide +kernel
theorem dLSZ_38 : decode jdk_35_method_15_code 38 = .ok (.ldc2_w 53, 3) := by decide +kernel
theorem dLSZ_41 : decode jdk_35_method_15_code 41 = .ok (.lload_n 3, 1) := by decide +kernel
theorem dLSZ_42 : decode jdk_35_method_15_code 42 = .ok (.lmul, 1) := by decide +kernel
theorem dLSZ_43 : decode jdk_35_method_15_code 43 = .ok (.lstore_n 3, 1) := by decide +kernel
theorem dLSZ_44 : decode jdk_35_method_15_code 44 = .ok (.iinc 5 1, 3) := by decide +kernel
theorem dLSZ_47 : decode jdk_35_method_15_code 47 = .ok (.goto (-27), 3) := by decide +kernel
theorem dLSZ_50 : decode jdk_35_method_15_code 50 = .ok (.bipush 19, 2) := by decide +kernel
theorem dLSZ_52 : decode jdk_35_method_15_code 52 = .ok (.iload_n 2, 1) := by decide +kernel
theorem dLSZ_53 : decode jdk_35_method_15_code 53 = .ok (.iadd, 1) := by decide +kernel
theorem dLSZ_54 : decode jdk_35_method_15_code 54 = .ok (.ireturn, 1) := by decide +kernel
theorem pnLSZ : plainFor (⟨"java/lang/Long", "stringSize", "(J)I"⟩ : MethodName) = true := plainFor_of_name (by first | (simp [plainName, overriddenIn]; done) | decide +kernel)
set_option maxRecDepth 65536 in
set_option maxHeartbeats 40000000 in
theorem loop_LSZ (hw : ∀ d ∈ tables_1, d.before a0 Z = true) {n : Int64} {M dn : Nat} (hn : n.toInt = -(M : Int)) (hM : M ≤ 9223372036854775808) (hdn : dn ≤ 1) : ∀ (f j : Nat) (p : Int64), j + f = 19 → 1 ≤ j → (j ≤ 18 → p.toInt = -((10 ^ j : Nat) : Int)) → j ≤ (digs M).length →
    WP "java/lang/Long" jdk_35_method_15_code 6 (some .int) "stringSize" R0 Z LT h [] mine (fun v h' nw => nw = [] ∧ v = some (.int (Int32.ofNat (dn + (digs M).length))) ∧ h' = h) mine 0 0 h 20 [.val (.long n), .second, .val (.int (Int32.ofNat dn)), .val (.long p), .second, .val (.int (Int32.ofNat j))] [] := by
  intro f
  induction f with
  | zero =>
    intro j p hj h1 hp hl
    obtain rfl : j = 19 := by omega
    have e19 : (digs M).length = 19 := by
      have := (digs_len 18 M).mpr (by omega)
      omega
    refine WP.iload (pc' := 22) dLSZ_20 rfl rfl ?_
    refine WP.bipush (pc' := 24) (x := 19) dLSZ_22 (by decide) rfl ?_
    refine WP.icmpT (pc' := 50) dLSZ_24 (by decide) (by decide) (show ¬ Int32.ofNat 19 < 19 by decide) ?_
    refine WP.bipush (pc' := 52) (x := 19) dLSZ_50 (by decide) rfl ?_
    refine WP.iloadN (pc' := 53) dLSZ_52 rfl rfl ?_
    refine WP.iadd (pc' := 54) dLSZ_53 rfl ?_
    rw [show (19 : Int32) + Int32.ofNat dn = Int32.ofNat (dn + 19) by rw [Nat.add_comm]; exact n32_add 19 dn, ← e19]
    exact WP.ireturn dLSZ_54 rfl (by simp) rfl ⟨rfl, rfl, rfl⟩ (fun _ hx => nomatch hx) (fun _ hx => hx) (by first | exact Nat.le_of_ble_eq_true rfl | omega) (by first | exact Nat.le_of_ble_eq_true rfl | omega)
  | succ f ih =>
    intro j p hj h1 hp hl
    have ep := hp (by omega)
    have hkey := digs_len (j - 1) M
    rw [show j - 1 + 1 = j by omega] at hkey
    refine WP.iload (pc' := 22) dLSZ_20 rfl rfl ?_
    refine WP.bipush (pc' := 24) (x := 19) dLSZ_22 (by decide) rfl ?_
    refine WP.icmpF (pc' := 27) dLSZ_24 rfl ((n32_lt (n := 19) (by omega) (by omega)).mpr (by omega)) ?_
    refine WP.lloadN (pc' := 28) dLSZ_27 rfl rfl ?_
    refine WP.lloadN (pc' := 29) dLSZ_28 rfl rfl ?_
    refine WP.lcmp (pc' := 30) dLSZ_29 rfl ?_
    by_cases hlt : M < 10 ^ j
    · have ej : (digs M).length = j := by have := hkey.mpr hlt; omega
      refine WP.ifF (pc' := 33) dLSZ_30 rfl ((lw_gt n p).mpr (by rw [Int64.lt_iff_toInt_lt, hn, ep]; omega)) ?_
      refine WP.iload (pc' := 35) dLSZ_33 rfl rfl ?_
      refine WP.iloadN (pc' := 36) dLSZ_35 rfl rfl ?_
      refine WP.iadd (pc' := 37) dLSZ_36 rfl ?_
      rw [show Int32.ofNat j + Int32.ofNat dn = Int32.ofNat (dn + j) by rw [Nat.add_comm]; exact n32_add j dn, ← ej]
      exact WP.ireturn dLSZ_37 rfl (by simp) rfl ⟨rfl, rfl, rfl⟩ (fun _ hx => nomatch hx) (fun _ hx => hx) (by first | exact Nat.le_of_ble_eq_true rfl | omega) (by first | exact Nat.le_of_ble_eq_true rfl | omega)
    · have hl2 : j + 1 ≤ (digs M).length := by
        rcases Nat.lt_or_ge j (digs M).length with q | q
        · exact q
        · exact absurd (hkey.mp q) hlt
      refine WP.ifT (pc' := 38) dLSZ_30 (by decide) (by decide) (fun q => by rw [lw_gt, Int64.lt_iff_toInt_lt, hn, ep] at q; omega) ?_
      refine WP.ldc2Long (pc' := 41) dLSZ_38 (hw _ (List.mem_of_getElem? (i := 141) rfl)) rfl ?_
      refine WP.lloadN (pc' := 42) dLSZ_41 rfl rfl ?_
      refine WP.lmul (pc' := 43) dLSZ_42 rfl ?_
      first | refine WP.lstoreN (pc' := 44) dLSZ_43 rfl rfl rfl rfl ?_ | refine WP.lstoreLN (pc' := 44) dLSZ_43 rfl rfl rfl rfl ?_
      dsimp only [List.set]
      refine WP.iinc (pc' := 47) dLSZ_44 rfl rfl rfl rfl ?_
      dsimp only [List.set]
      refine WP.goto (pc' := 20) dLSZ_47 (by decide) (by decide) ?_
      rw [show Int32.ofNat j + Int32.ofInt 1 = Int32.ofNat (j + 1) from n32_succ j]
      exact ih (j + 1) (10 * p) (by omega) (by omega) (fun q => l_p10 ep q) hl2
set_option maxRecDepth 65536 in
set_option maxHeartbeats 40000000 in
theorem con_LSZ (hw : ∀ d ∈ tables_1, d.before a0 Z = true) {x : Int64} : Con (⟨"java/lang/Long", "stringSize", "(J)I"⟩ : MethodName) jdk_35_method_15_code 6 (some .int) R0 Z LT [] #[.long x] h [] mine (fun v h' nw => nw = [] ∧ v = some (.int (Int32.ofNat (dec x.toInt).length)) ∧ h' = h) := by
  have hx := neg64 x
  have e0 : (0 : Int64).toInt = 0 := rfl
  refine Con.of pnLSZ (Ls := [.val (.long x), .second, .unset, .unset, .unset, .unset]) (fun m => by first | (simp [entryFrame, mkF, argsToLocals, Value.category]; done) | (simp [entryFrame, mkF, argsToLocals, Value.category, maxLocals]; done) | rfl) ?_
  refine WP.iconst (pc' := 1) (x := 1) dLSZ_0 (by decide) rfl ?_
  refine WP.istoreN (pc' := 2) dLSZ_1 rfl rfl rfl ?_
  dsimp only [List.set]
  refine WP.lloadN (pc' := 3) dLSZ_2 rfl rfl ?_
  refine WP.lconst (pc' := 4) (x := 0) dLSZ_3 (by decide) rfl ?_
  refine WP.lcmp (pc' := 5) dLSZ_4 rfl ?_
  by_cases hneg : x < 0
  · refine WP.ifT (pc' := 13) dLSZ_5 (by decide) (by decide) ((lw_lt x 0).mpr hneg) ?_
    refine WP.ldc2Long (pc' := 16) dLSZ_13 (hw _ (List.mem_of_getElem? (i := 140) rfl)) rfl ?_
    first | refine WP.lstoreN (pc' := 17) dLSZ_16 rfl rfl rfl rfl ?_ | refine WP.lstoreLN (pc' := 17) dLSZ_16 rfl rfl rfl rfl ?_
    dsimp only [List.set]
    refine WP.iconst (pc' := 18) (x := 1) dLSZ_17 (by decide) rfl ?_
    refine WP.istore (pc' := 20) dLSZ_18 rfl rfl rfl ?_
    dsimp only [List.set]
    have ed : (dec x.toInt).length = 1 + (digs x.toInt.natAbs).length := by
      rw [Int64.lt_iff_toInt_lt, e0] at hneg
      unfold dec sgn; rw [if_pos hneg]; simp [Nat.add_comm]
    rw [ed]
    exact loop_LSZ (dn := 1) hw (hx.2.1 hneg) hx.2.2 (by omega) 18 1 (-10) (by omega) (by omega) (fun _ => by decide) (digs_pos _)
  · refine WP.ifF (pc' := 8) dLSZ_5 rfl (fun q => hneg ((lw_lt x 0).mp q)) ?_
    refine WP.iconst (pc' := 9) (x := 0) dLSZ_8 (by decide) rfl ?_
    refine WP.istoreN (pc' := 10) dLSZ_9 rfl rfl rfl ?_
    dsimp only [List.set]
    refine WP.lloadN (pc' := 11) dLSZ_10 rfl rfl ?_
    refine WP.lneg (pc' := 12) dLSZ_11 rfl ?_
    first | refine WP.lstoreN (pc' := 13) dLSZ_12 rfl rfl rfl rfl ?_ | refine WP.lstoreLN (pc' := 13) dLSZ_12 rfl rfl rfl rfl ?_
    dsimp only [List.set]
    refine WP.ldc2Long (pc' := 16) dLSZ_13 (hw _ (List.mem_of_getElem? (i := 140) rfl)) rfl ?_
    first | refine WP.lstoreN (pc' := 17) dLSZ_16 rfl rfl rfl rfl ?_ | refine WP.lstoreLN (pc' := 17) dLSZ_16 rfl rfl rfl rfl ?_
    dsimp only [List.set]
    refine WP.iconst (pc' := 18) (x := 1) dLSZ_17 (by decide) rfl ?_
    refine WP.istore (pc' := 20) dLSZ_18 rfl rfl rfl ?_
    dsimp only [List.set]
    have ed : (dec x.toInt).length = 0 + (digs x.toInt.natAbs).length := by
      rw [Int64.lt_iff_toInt_lt, e0] at hneg
      unfold dec sgn; rw [if_neg hneg]; simp
    rw [ed]
    exact loop_LSZ (dn := 0) hw (hx.1 hneg) hx.2.2 (by omega) 18 1 (-10) (by omega) (by omega) (fun _ => by decide) (digs_pos _)
theorem dISZ_0 : decode jdk_33_method_13_code 0 = .ok (.iconst 1, 1) := by decide +kernel
theorem dISZ_1 : decode jdk_33_method_13_code 1 = .ok (.istore_n 1, 1) := by decide +kernel
theorem dISZ_2 : decode jdk_33_method_13_code 2 = .ok (.iload_n 0, 1) := by decide +kernel
theorem dISZ_3 : decode jdk_33_method_13_code 3 = .ok (.ifCond .lt 8, 3) := by decide +kernel
theorem dISZ_6 : decode jdk_33_method_13_code 6 = .ok (.iconst 0, 1) := by decide +kernel
theorem dISZ_7 : decode jdk_33_method_13_code 7 = .ok (.istore_n 1, 1) := by decide +kernel
theorem dISZ_8 : decode jdk_33_method_13_code 8 = .ok (.iload_n 0, 1) := by decide +kernel
theorem dISZ_9 : decode jdk_33_method_13_code 9 = .ok (.ineg, 1) := by decide +kernel
theorem dISZ_10 : decode jdk_33_method_13_code 10 = .ok (.istore_n 0, 1) := by decide +kernel
theorem dISZ_11 : decode jdk_33_method_13_code 11 = .ok (.bipush (-10), 2) := by decide +kernel
theorem dISZ_13 : decode jdk_33_method_13_code 13 = .ok (.istore_n 2, 1) := by decide +kernel
theorem dISZ_14 : decode jdk_33_method_13_code 14 = .ok (.iconst 1, 1) := by decide +kernel
theorem dISZ_15 : decode jdk_33_method_13_code 15 = .ok (.istore_n 3, 1) := by decide +kernel
theorem dISZ_16 : decode jdk_33_method_13_code 16 = .ok (.iload_n 3, 1) := by decide +kernel
theorem dISZ_17 : decode jdk_33_method_13_code 17 = .ok (.bipush 10, 2) := by decide +kernel
theorem dISZ_19 : decode jdk_33_method_13_code 19 = .ok (.if_icmp .ge 23, 3) := by decide +kernel
theorem dISZ_22 : decode jdk_33_method_13_code 22 = .ok (.iload_n 0, 1) := by decide +kernel
theorem dISZ_23 : decode jdk_33_method_13_code 23 = .ok (.iload_n 2, 1) := by decide +kernel
theorem dISZ_24 : decode jdk_33_method_13_code 24 = .ok (.if_icmp .le 7, 3) := by decide +kernel
theorem dISZ_27 : decode jdk_33_method_13_code 27 = .ok (.iload_n 3, 1) := by decide +kernel
theorem dISZ_28 : decode jdk_33_method_13_code 28 = .ok (.iload_n 1, 1) := by decide +kernel
theorem dISZ_29 : decode jdk_33_method_13_code 29 = .ok (.iadd, 1) := by decide +kernel
theorem dISZ_30 : decode jdk_33_method_13_code 30 = .ok (.ireturn, 1) := by decide +kernel
theorem dISZ_31 : decode jdk_33_method_13_code 31 = .ok (.bipush 10, 2) := by decide +kernel
theorem dISZ_33 : decode jdk_33_method_13_code 33 = .ok (.iload_n 2, 1) := by decide +kernel
theorem dISZ_34 : decode jdk_33_method_13_code 34 = .ok (.imul, 1) := by decide +kernel
theorem dISZ_35 : decode jdk_33_method_13_code 35 = .ok (.istore_n 2, 1) := by decide +kernel
theorem dISZ_36 : decode jdk_33_method_13_code 36 = .ok (.iinc 3 1, 3) := by decide +kernel
theorem dISZ_39 : decode jdk_33_method_13_code 39 = .ok (.goto (-23), 3) := by decide +kernel
theorem dISZ_42 : decode jdk_33_method_13_code 42 = .ok (.bipush 10, 2) := by decide +kernel
theorem dISZ_44 : decode jdk_33_method_13_code 44 = .ok (.iload_n 1, 1) := by decide +kernel
theorem dISZ_45 : decode jdk_33_method_13_code 45 = .ok (.iadd, 1) := by decide +kernel
theorem dISZ_46 : decode jdk_33_method_13_code 46 = .ok (.ireturn, 1) := by decide +kernel
theorem pnISZ : plainFor (⟨"java/lang/Integer", "stringSize", "(I)I"⟩ : MethodName) = true := plainFor_of_name (by first | (simp [plainName, overriddenIn]; done) | decide +kernel)
set_option maxRecDepth 65536 in
set_option maxHeartbeats 40000000 in
theorem loop_ISZ (hw : ∀ d ∈ tables_1, d.before a0 Z = true) {n : Int32} {M dn : Nat} (hn : n.toInt = -(M : Int)) (hM : M ≤ 2147483648) (hdn : dn ≤ 1) : ∀ (f j : Nat) (p : Int32), j + f = 10 → 1 ≤ j → (j ≤ 9 → p.toInt = -((10 ^ j : Nat) : Int)) → j ≤ (digs M).length →
    WP "java/lang/Integer" jdk_33_method_13_code 4 (some .int) "stringSize" R0 Z LT h [] mine (fun v h' nw => nw = [] ∧ v = some (.int (Int32.ofNat (dn + (digs M).length))) ∧ h' = h) mine 0 0 h 16 [.val (.int n), .val (.int (Int32.ofNat dn)), .val (.int p), .val (.int (Int32.ofNat j))] [] := by
  intro f
  induction f with
  | zero =>
    intro j p hj h1 hp hl
    obtain rfl : j = 10 := by omega
    have e19 : (digs M).length = 10 := by
      have := (digs_len 9 M).mpr (by omega)
      omega
    refine WP.iloadN (pc' := 17) dISZ_16 rfl rfl ?_
    refine WP.bipush (pc' := 19) (x := 10) dISZ_17 (by decide) rfl ?_
    refine WP.icmpT (pc' := 42) dISZ_19 (by decide) (by decide) (show ¬ Int32.ofNat 10 < 10 by decide) ?_
    refine WP.bipush (pc' := 44) (x := 10) dISZ_42 (by decide) rfl ?_
    refine WP.iloadN (pc' := 45) dISZ_44 rfl rfl ?_
    refine WP.iadd (pc' := 46) dISZ_45 rfl ?_
    rw [show (10 : Int32) + Int32.ofNat dn = Int32.ofNat (dn + 10) by rw [Nat.add_comm]; exact n32_add 10 dn, ← e19]
    exact WP.ireturn dISZ_46 rfl (by simp) rfl ⟨rfl, rfl, rfl⟩ (fun _ hx => nomatch hx) (fun _ hx => hx) (by first | exact Nat.le_of_ble_eq_true rfl | omega) (by first | exact Nat.le_of_ble_eq_true rfl | omega)
  | succ f ih =>
    intro j p hj h1 hp hl
    have ep := hp (by omega)
    have hkey := digs_len (j - 1) M
    rw [show j - 1 + 1 = j by omega] at hkey
    refine WP.iloadN (pc' := 17) dISZ_16 rfl rfl ?_
    refine WP.bipush (pc' := 19) (x := 10) dISZ_17 (by decide) rfl ?_
    refine WP.icmpF (pc' := 22) dISZ_19 rfl ((n32_lt (n := 10) (by omega) (by omega)).mpr (by omega)) ?_
    refine WP.iloadN (pc' := 23) dISZ_22 rfl rfl ?_
    refine WP.iloadN (pc' := 24) dISZ_23 rfl rfl ?_
    by_cases hlt : M < 10 ^ j
    · have ej : (digs M).length = j := by have := hkey.mpr hlt; omega
      refine WP.icmpF (pc' := 27) dISZ_24 rfl (show p < n by rw [Int32.lt_iff_toInt_lt, hn, ep]; omega) ?_
      refine WP.iloadN (pc' := 28) dISZ_27 rfl rfl ?_
      refine WP.iloadN (pc' := 29) dISZ_28 rfl rfl ?_
      refine WP.iadd (pc' := 30) dISZ_29 rfl ?_
      rw [show Int32.ofNat j + Int32.ofNat dn = Int32.ofNat (dn + j) by rw [Nat.add_comm]; exact n32_add j dn, ← ej]
      exact WP.ireturn dISZ_30 rfl (by simp) rfl ⟨rfl, rfl, rfl⟩ (fun _ hx => nomatch hx) (fun _ hx => hx) (by first | exact Nat.le_of_ble_eq_true rfl | omega) (by first | exact Nat.le_of_ble_eq_true rfl | omega)
    · have hl2 : j + 1 ≤ (digs M).length := by
        rcases Nat.lt_or_ge j (digs M).length with q | q
        · exact q
        · exact absurd (hkey.mp q) hlt
      refine WP.icmpT (pc' := 31) dISZ_24 (by decide) (by decide) (fun q => by rw [Int32.lt_iff_toInt_lt, hn, ep] at q; omega) ?_
      refine WP.bipush (pc' := 33) (x := 10) dISZ_31 (by decide) rfl ?_
      refine WP.iloadN (pc' := 34) dISZ_33 rfl rfl ?_
      refine WP.imul (pc' := 35) dISZ_34 rfl ?_
      refine WP.istoreN (pc' := 36) dISZ_35 rfl rfl rfl ?_
      dsimp only [List.set]
      refine WP.iinc (pc' := 39) dISZ_36 rfl rfl rfl rfl ?_
      dsimp only [List.set]
      refine WP.goto (pc' := 16) dISZ_39 (by decide) (by decide) ?_
      rw [show Int32.ofNat j + Int32.ofInt 1 = Int32.ofNat (j + 1) from n32_succ j]
      exact ih (j + 1) (10 * p) (by omega) (by omega) (fun q => i_p10 ep q) hl2
set_option maxRecDepth 65536 in
set_option maxHeartbeats 40000000 in
theorem con_ISZ (hw : ∀ d ∈ tables_1, d.before a0 Z = true) {x : Int32} : Con (⟨"java/lang/Integer", "stringSize", "(I)I"⟩ : MethodName) jdk_33_method_13_code 4 (some .int) R0 Z LT [] #[.int x] h [] mine (fun v h' nw => nw = [] ∧ v = some (.int (Int32.ofNat (dec x.toInt).length)) ∧ h' = h) := by
  have hx := neg32 x
  have e0 : (0 : Int32).toInt = 0 := rfl
  refine Con.of pnISZ (Ls := [.val (.int x), .unset, .unset, .unset]) (fun m => by first | (simp [entryFrame, mkF, argsToLocals, Value.category]; done) | (simp [entryFrame, mkF, argsToLocals, Value.category, maxLocals]; done) | rfl) ?_
  refine WP.iconst (pc' := 1) (x := 1) dISZ_0 (by decide) rfl ?_
  refine WP.istoreN (pc' := 2) dISZ_1 rfl rfl rfl ?_
  dsimp only [List.set]
  refine WP.iloadN (pc' := 3) dISZ_2 rfl rfl ?_
  by_cases hneg : x < 0
  · refine WP.ifT (pc' := 11) dISZ_3 (by decide) (by decide) hneg ?_
    refine WP.bipush (pc' := 13) (x := (-10)) dISZ_11 (by decide) rfl ?_
    refine WP.istoreN (pc' := 14) dISZ_13 rfl rfl rfl ?_
    dsimp only [List.set]
    refine WP.iconst (pc' := 15) (x := 1) dISZ_14 (by decide) rfl ?_
    refine WP.istoreN (pc' := 16) dISZ_15 rfl rfl rfl ?_
    dsimp only [List.set]
    have ed : (dec x.toInt).length = 1 + (digs x.toInt.natAbs).length := by
      rw [Int32.lt_iff_toInt_lt, e0] at hneg
      unfold dec sgn; rw [if_pos hneg]; simp [Nat.add_comm]
    rw [ed]
    exact loop_ISZ (dn := 1) hw (hx.2.1 hneg) hx.2.2 (by omega) 9 1 (-10) (by omega) (by omega) (fun _ => by decide) (digs_pos _)
  · refine WP.ifF (pc' := 6) dISZ_3 rfl hneg ?_
    refine WP.iconst (pc' := 7) (x := 0) dISZ_6 (by decide) rfl ?_
    refine WP.istoreN (pc' := 8) dISZ_7 rfl rfl rfl ?_
    dsimp only [List.set]
    refine WP.iloadN (pc' := 9) dISZ_8 rfl rfl ?_
    refine WP.ineg (pc' := 10) dISZ_9 rfl ?_
    refine WP.istoreN (pc' := 11) dISZ_10 rfl rfl rfl ?_
    dsimp only [List.set]
    refine WP.bipush (pc' := 13) (x := (-10)) dISZ_11 (by decide) rfl ?_
    refine WP.istoreN (pc' := 14) dISZ_13 rfl rfl rfl ?_
    dsimp only [List.set]
    refine WP.iconst (pc' := 15) (x := 1) dISZ_14 (by decide) rfl ?_
    refine WP.istoreN (pc' := 16) dISZ_15 rfl rfl rfl ?_
    dsimp only [List.set]
    have ed : (dec x.toInt).length = 0 + (digs x.toInt.natAbs).length := by
      rw [Int32.lt_iff_toInt_lt, e0] at hneg
      unfold dec sgn; rw [if_neg hneg]; simp
    rw [ed]
    exact loop_ISZ (dn := 0) hw (hx.1 hneg) hx.2.2 (by omega) 9 1 (-10) (by omega) (by omega) (fun _ => by decide) (digs_pos _)
def out (xs : List Int32) (e : Nat) (suf : List UInt16) : List Int32 := xs.take (e - suf.length) ++ (suf.map lo8 ++ xs.drop e)
theorem out_nil {xs : List Int32} {e : Nat} : out xs e [] = xs := by simp [out]
theorem out_len {xs : List Int32} {e : Nat} {suf : List UInt16} (h1 : suf.length ≤ e) (h2 : e ≤ xs.length) : (out xs e suf).length = xs.length := by
  simp [out, List.length_take, List.length_drop]; omega
theorem out_put {xs : List Int32} {e : Nat} {suf : List UInt16} {u : UInt16} (h1 : suf.length + 1 ≤ e) (h2 : e ≤ xs.length) : (out xs e suf).set (e - suf.length - 1) (lo8 u) = out xs e (u :: suf) := by
  unfold out
  rw [put_back (by omega) (by omega), List.length_cons, List.map_cons, List.cons_append, show e - (suf.length + 1) = e - suf.length - 1 by omega]
def GcQ (Z : State) (b : Addr) (xs : List Int32) (e : Nat) (ds : List UInt16) (v : Option Value) (h' : Heap) (nw : List Addr) : Prop := nw = [] ∧ (∃ r, v = some (.int r)) ∧ ArI Z h' b .byte (out xs e ds)
theorem dGCI_0 : decode jdk_33_method_12_code 0 = .ok (.iload_n 1, 1) := by decide +kernel
theorem dGCI_1 : decode jdk_33_method_12_code 1 = .ok (.istore 5, 2) := by decide +kernel
theorem dGCI_3 : decode jdk_33_method_12_code 3 = .ok (.iload_n 0, 1) := by decide +kernel
theorem dGCI_4 : decode jdk_33_method_12_code 4 = .ok (.ifCond .ge 7, 3) := by decide +kernel
theorem dGCI_7 : decode jdk_33_method_12_code 7 = .ok (.iconst 1, 1) := by decide +kernel
theorem dGCI_8 : decode jdk_33_method_12_code 8 = .ok (.goto 4, 3) := by decide +kernel
theorem dGCI_11 : decode jdk_33_method_12_code 11 = .ok (.iconst 0, 1) := by decide +kernel
theorem dGCI_12 : decode jdk_33_method_12_code 12 = .ok (.istore 6, 2) := by decide +kernel
theorem dGCI_14 : decode jdk_33_method_12_code 14 = .ok (.iload 6, 2) := by decide +kernel
theorem dGCI_16 : decode jdk_33_method_12_code 16 = .ok (.ifCond .ne 6, 3) := by decide +kernel
theorem dGCI_19 : decode jdk_33_method_12_code 19 = .ok (.iload_n 0, 1) := by decide +kernel
theorem dGCI_20 : decode jdk_33_method_12_code 20 = .ok (.ineg, 1) := by decide +kernel
theorem dGCI_21 : decode jdk_33_method_12_code 21 = .ok (.istore_n 0, 1) := by decide +kernel
theorem dGCI_22 : decode jdk_33_method_12_code 22 = .ok (.iload_n 0, 1) := by decide +kernel
theorem dGCI_23 : decode jdk_33_method_12_code 23 = .ok (.bipush (-100), 2) := by decide +kernel
theorem dGCI_25 : decode jdk_33_method_12_code 25 = .ok (.if_icmp .gt 47, 3) := by decide +kernel
theorem dGCI_28 : decode jdk_33_method_12_code 28 = .ok (.iload_n 0, 1) := by decide +kernel
theorem dGCI_29 : decode jdk_33_method_12_code 29 = .ok (.bipush 100, 2) := by decide +kernel
theorem dGCI_31 : decode jdk_33_method_12_code 31 = .ok (.idiv, 1) := by decide +kernel
theorem dGCI_32 : decode jdk_33_method_12_code 32 = .ok (.istore_n 3, 1) := by decide +kernel
theorem dGCI_33 : decode jdk_33_method_12_code 33 = .ok (.iload_n 3, 1) := by decide +kernel
theorem dGCI_34 : decode jdk_33_method_12_code 34 = .ok (.bipush 100, 2) := by decide +kernel
theorem dGCI_36 : decode jdk_33_method_12_code 36 = .ok (.imul, 1) := by decide +kernel
theorem dGCI_37 : decode jdk_33_method_12_code 37 = .ok (.iload_n 0, 1) := by decide +kernel
theorem dGCI_38 : decode jdk_33_method_12_code 38 = .ok (.isub, 1) := by decide +kernel
theorem dGCI_39 : decode jdk_33_method_12_code 39 = .ok (.istore 4, 2) := by decide +kernel
theorem dGCI_41 : decode jdk_33_method_12_code 41 = .ok (.iload_n 3, 1) := by decide +kernel
theorem dGCI_42 : decode jdk_33_method_12_code 42 = .ok (.istore_n 0, 1) := by decide +kernel
theorem dGCI_43 : decode jdk_33_method_12_code 43 = .ok (.aload_n 2, 1) := by decide +kernel
theorem dGCI_44 : decode jdk_33_method_12_code 44 = .ok (.iinc 5 (-1), 3) := by decide +kernel
theorem dGCI_47 : decode jdk_33_method_12_code 47 = .ok (.iload 5, 2) := by decide +kernel
theorem dGCI_49 : decode jdk_33_method_12_code 49 = .ok (.getstatic 83, 3) := by decide +kernel
theorem dGCI_52 : decode jdk_33_method_12_code 52 = .ok (.iload 4, 2) := by decide +kernel
theorem dGCI_54 : decode jdk_33_method_12_code 54 = .ok (.baload, 1) := by decide +kernel
theorem dGCI_55 : decode jdk_33_method_12_code 55 = .ok (.bastore, 1) := by decide +kernel
theorem dGCI_56 : decode jdk_33_method_12_code 56 = .ok (.aload_n 2, 1) := by decide +kernel
theorem dGCI_57 : decode jdk_33_method_12_code 57 = .ok (.iinc 5 (-1), 3) := by decide +kernel
theorem dGCI_60 : decode jdk_33_method_12_code 60 = .ok (.iload 5, 2) := by decide +kernel
theorem dGCI_62 : decode jdk_33_method_12_code 62 = .ok (.getstatic 87, 3) := by decide +kernel
theorem dGCI_65 : decode jdk_33_method_12_code 65 = .ok (.iload 4, 2) := by decide +kernel
theorem dGCI_67 : decode jdk_33_method_12_code 67 = .ok (.baload, 1) := by decide +kernel
theorem dGCI_68 : decode jdk_33_method_12_code 68 = .ok (.bastore, 1) := by decide +kernel
theorem dGCI_69 : decode jdk_33_method_12_code 69 = .ok (.goto (-47), 3) := by decide +kernel
theorem dGCI_72 : decode jdk_33_method_12_code 72 = .ok (.aload_n 2, 1) := by decide +kernel
theorem dGCI_73 : decode jdk_33_method_12_code 73 = .ok (.iinc 5 (-1), 3) := by decide +kernel
theorem dGCI_76 : decode jdk_33_method_12_code 76 = .ok (.iload 5, 2) := by decide +kernel
theorem dGCI_78 : decode jdk_33_method_12_code 78 = .ok (.getstatic 83, 3) := by decide +kernel
theorem dGCI_81 : decode jdk_33_method_12_code 81 = .ok (.iload_n 0, 1) := by decide +kernel
theorem dGCI_82 : decode jdk_33_method_12_code 82 = .ok (.ineg, 1) := by decide +kernel
theorem dGCI_83 : decode jdk_33_method_12_code 83 = .ok (.baload, 1) := by decide +kernel
theorem dGCI_84 : decode jdk_33_method_12_code 84 = .ok (.bastore, 1) := by decide +kernel
theorem dGCI_85 : decode jdk_33_method_12_code 85 = .ok (.iload_n 0, 1) := by decide +kernel
theorem dGCI_86 : decode jdk_33_method_12_code 86 = .ok (.bipush (-9), 2) := by decide +kernel
theorem dGCI_88 : decode jdk_33_method_12_code 88 = .ok (.if_icmp .ge 16, 3) := by decide +kernel
theorem dGCI_91 : decode jdk_33_method_12_code 91 = .ok (.aload_n 2, 1) := by decide +kernel
theorem dGCI_92 : decode jdk_33_method_12_code 92 = .ok (.iinc 5 (-1), 3) := by decide +kernel
theorem dGCI_95 : decode jdk_33_method_12_code 95 = .ok (.iload 5, 2) := by decide +kernel
theorem dGCI_97 : decode jdk_33_method_12_code 97 = .ok (.getstatic 87, 3) := by decide +kernel
theorem dGCI_100 : decode jdk_33_method_12_code 100 = .ok (.iload_n 0, 1) := by decide +kernel
theorem dGCI_101 : decode jdk_33_method_12_code 101 = .ok (.ineg, 1) := by decide +kernel
theorem dGCI_102 : decode jdk_33_method_12_code 102 = .ok (.baload, 1) := by decide +kernel
theorem dGCI_103 : decode jdk_33_method_12_code 103 = .ok (.bastore, 1) := by decide +kernel
theorem dGCI_104 : decode jdk_33_method_12_code 104 = .ok (.iload 6, 2) := by decide +kernel
theorem dGCI_106 : decode jdk_33_method_12_code 106 = .ok (.ifCond .eq 12, 3) := by decide +kernel
theorem dGCI_109 : decode jdk_33_method_12_code 109 = .ok (.aload_n 2, 1) := by decide +kernel
theorem dGCI_110 : decode jdk_33_method_12_code 110 = .ok (.iinc 5 (-1), 3) := by decide +kernel
theorem dGCI_113 : decode jdk_33_method_12_code 113 = .ok (.iload 5, 2) := by decide +kernel
theorem dGCI_115 : decode jdk_33_method_12_code 115 = .ok (.bipush 45, 2) := by decide +kernel
theorem dGCI_117 : decode jdk_33_method_12_code 117 = .ok (.bastore, 1) := by decide +kernel
theorem dGCI_118 : decode jdk_33_method_12_code 118 = .ok (.iload 5, 2) := by decide +kernel
theorem dGCI_120 : decode jdk_33_method_12_code 120 = .ok (.ireturn, 1) := by decide +kernel
theorem pnGCI : plainFor (⟨"java/lang/Integer", "getChars", "(II[B)I"⟩ : MethodName) = true := plainFor_of_name (by first | (simp [plainName, overriddenIn]; done) | decide +kernel)
set_option maxRecDepth 65536 in
set_option maxHeartbeats 40000000 in
theorem tail_GCIs (hw : ∀ d ∈ tables_1, d.before a0 Z = true) {b : Addr} {xs : List Int32} {e : Nat} {pre suf ds : List UInt16} {ng : Int32} (hp : (pre = [] ∧ ng = 0) ∨ (pre = [45] ∧ ng = 1)) (hds : ds = pre ++ suf) (he : e ≤ xs.length) (hx : xs.length < 2 ^ 31) (hd : ds.length ≤ e) (hb : b ∈ mine) {h1 : Heap} (A : ArI Z h1 b .byte (out xs e suf)) {l0 l1 l3 l4 : Slot} :
    WP "java/lang/Integer" jdk_33_method_12_code 7 (some .int) "getChars" R0 Z LT h [b] mine (GcQ Z b xs e ds) mine 0 0 h1 104 [l0, l1, .val (.ref b), l3, l4, .val (.int (Int32.ofNat (e - suf.length))), .val (.int ng)] [] := by
  subst hds
  rw [List.length_append] at hd
  refine WP.iload (pc' := 106) dGCI_104 rfl rfl ?_
  rcases hp with ⟨rfl, rfl⟩ | ⟨rfl, rfl⟩
  · refine WP.ifT (pc' := 118) dGCI_106 (by decide) (by decide) rfl ?_
    refine WP.iload (pc' := 120) dGCI_118 rfl rfl ?_
    exact WP.ireturn dGCI_120 rfl (by simp) rfl ⟨rfl, ⟨_, rfl⟩, A⟩ (fun _ hx => nomatch hx) (fun _ hx => hx) (by first | exact Nat.le_of_ble_eq_true rfl | omega) (by first | exact Nat.le_of_ble_eq_true rfl | omega)
  · refine WP.ifF (pc' := 109) dGCI_106 rfl (show ¬ (1 : Int32) = 0 by decide) ?_
    refine WP.aloadN (pc' := 110) dGCI_109 rfl rfl rfl ?_
    refine WP.iinc (pc' := 113) dGCI_110 rfl rfl rfl rfl ?_
    dsimp only [List.set]
    refine WP.iload (pc' := 115) dGCI_113 rfl rfl ?_
    refine WP.bipush (pc' := 117) (x := 45) dGCI_115 (by decide) rfl ?_
    rw [List.length_cons, List.length_nil] at hd
    rw [n32_pred (by omega) (by omega)]
    refine WP.bastore (pc' := 118) dGCI_117 A (n32_toInt (by omega)) (by rw [out_len (by omega) he]; omega) hb (Or.inl (List.mem_singleton.mpr rfl)) rfl ?_
    intro h2 W A2
    rw [show nar .byte 45 = lo8 45 by decide, out_put (by omega) he] at A2
    refine WP.iload (pc' := 120) dGCI_118 rfl rfl ?_
    exact WP.ireturn dGCI_120 rfl (by simp) rfl ⟨rfl, ⟨_, rfl⟩, A2⟩ (fun _ hx => nomatch hx) (fun _ hx => hx) (by first | exact Nat.le_of_ble_eq_true rfl | omega) (by first | exact Nat.le_of_ble_eq_true rfl | omega)
set_option maxRecDepth 65536 in
set_option maxHeartbeats 40000000 in
theorem step_GCIf (hw : ∀ d ∈ tables_1, d.before a0 Z = true) {b o1 o2 : Addr} (D : Dig Z o1 o2) {xs : List Int32} {e : Nat} {pre ds : List UInt16} {ng : Int32} (hp : (pre = [] ∧ ng = 0) ∨ (pre = [45] ∧ ng = 1)) (he : e ≤ xs.length) (hx : xs.length < 2 ^ 31) (hd : ds.length ≤ e) (hb : b ∈ mine) {M : Nat} {n : Int32} {suf : List UInt16} (hn : n.toInt = -(M : Int)) (hM : M < 100) (hds : ds = pre ++ digs M ++ suf) {h1 : Heap} (A : ArI Z h1 b .byte (out xs e suf)) {l1 l3 l4 : Slot} :
    WP "java/lang/Integer" jdk_33_method_12_code 7 (some .int) "getChars" R0 Z LT h [b] mine (GcQ Z b xs e ds) mine 0 0 h1 72 [.val (.int n), l1, .val (.ref b), l3, l4, .val (.int (Int32.ofNat (e - suf.length))), .val (.int ng)] [] := by
  obtain ⟨t1, T1, H1⟩ := D.2.2.1
  obtain ⟨t2, T2, H2⟩ := D.2.2.2
  have hdp := digs_pos M
  have e9 : (-9 : Int32).toInt = -9 := by decide
  have hd' := hd
  rw [hds, List.length_append, List.length_append] at hd'
  refine WP.know fun hE1 _ _ => ?_
  refine WP.aloadN (pc' := 73) dGCI_72 rfl rfl rfl ?_
  refine WP.iinc (pc' := 76) dGCI_73 rfl rfl rfl rfl ?_
  dsimp only [List.set]
  refine WP.iload (pc' := 78) dGCI_76 rfl rfl ?_
  rw [n32_pred (by omega) (by omega)]
  refine WP.getstatic (pc' := 81) (host := "") dGCI_78 (Or.inl (hw _ (List.mem_of_getElem? (i := 193) rfl))) Via.refl D.1 rfl ?_
  refine WP.iloadN (pc' := 82) dGCI_81 rfl rfl ?_
  refine WP.ineg (pc' := 83) dGCI_82 rfl ?_
  rw [i_negN hn (by omega)]
  refine WP.baload (pc' := 84) dGCI_83 (T1.ext hE1) (n32_toInt (by omega)) (H1 M hM) rfl ?_
  refine WP.bastore (pc' := 85) dGCI_84 A (n32_toInt (by omega)) (by rw [out_len (by omega) he]; omega) hb (Or.inl (List.mem_singleton.mpr rfl)) rfl ?_
  intro h2 W2 A2
  rw [nar_lo8, out_put (by omega) he] at A2
  refine WP.iloadN (pc' := 86) dGCI_85 rfl rfl ?_
  refine WP.bipush (pc' := 88) (x := (-9)) dGCI_86 (by decide) rfl ?_
  rw [show e - suf.length - 1 = e - (dgc M :: suf).length by rw [List.length_cons]; omega]
  by_cases h10 : M < 10
  · refine WP.icmpT (pc' := 104) dGCI_88 (by decide) (by decide) (fun q => by rw [Int32.lt_iff_toInt_lt, hn, e9] at q; omega) ?_
    exact tail_GCIs hw hp (by rw [hds, digs_lt h10, List.append_assoc]; rfl) he hx hd hb A2
  · refine WP.icmpF (pc' := 91) dGCI_88 rfl (by show n < (-9 : Int32); rw [Int32.lt_iff_toInt_lt, hn, e9]; omega) ?_
    rw [digs_two (by omega) hM, List.length_cons, List.length_cons, List.length_nil] at hd'
    refine WP.know fun hE2 _ _ => ?_
    refine WP.aloadN (pc' := 92) dGCI_91 rfl rfl rfl ?_
    refine WP.iinc (pc' := 95) dGCI_92 rfl rfl rfl rfl ?_
    dsimp only [List.set]
    refine WP.iload (pc' := 97) dGCI_95 rfl rfl ?_
    rw [n32_pred (by rw [List.length_cons]; omega) (by omega)]
    refine WP.getstatic (pc' := 100) (host := "") dGCI_97 (Or.inl (hw _ (List.mem_of_getElem? (i := 284) rfl))) Via.refl D.2.1 rfl ?_
    refine WP.iloadN (pc' := 101) dGCI_100 rfl rfl ?_
    refine WP.ineg (pc' := 102) dGCI_101 rfl ?_
    rw [i_negN hn (by omega)]
    refine WP.baload (pc' := 103) dGCI_102 (T2.ext hE2) (n32_toInt (by omega)) (H2 M hM) rfl ?_
    refine WP.bastore (pc' := 104) dGCI_103 A2 (i := e - (dgc M :: suf).length - 1) (n32_toInt (by omega)) (by rw [out_len (by rw [List.length_cons]; omega) he, List.length_cons]; omega) hb (Or.inl (List.mem_singleton.mpr rfl)) rfl ?_
    intro h3 W3 A3
    rw [nar_lo8, out_put (by rw [List.length_cons]; omega) he] at A3
    rw [show e - (dgc M :: suf).length - 1 = e - (dgc (M / 10) :: dgc M :: suf).length by simp only [List.length_cons]; omega]
    exact tail_GCIs hw hp (by rw [hds, digs_two (by omega) hM, List.append_assoc]; rfl) he hx hd hb A3
set_option maxRecDepth 65536 in
set_option maxHeartbeats 40000000 in
theorem loop_GCI (hw : ∀ d ∈ tables_1, d.before a0 Z = true) {b o1 o2 : Addr} (D : Dig Z o1 o2) {xs : List Int32} {e : Nat} {pre ds : List UInt16} {ng : Int32} (hp : (pre = [] ∧ ng = 0) ∨ (pre = [45] ∧ ng = 1)) (he : e ≤ xs.length) (hx : xs.length < 2 ^ 31) (hd : ds.length ≤ e) (hb : b ∈ mine) : ∀ (M : Nat) (n : Int32) (suf : List UInt16), n.toInt = -(M : Int) → M ≤ 2147483648 → ds = pre ++ digs M ++ suf → ∀ (h1 : Heap), ArI Z h1 b .byte (out xs e suf) → ∀ {l1 l3 l4 : Slot}, one (some l3) = true → one (some l4) = true →
    WP "java/lang/Integer" jdk_33_method_12_code 7 (some .int) "getChars" R0 Z LT h [b] mine (GcQ Z b xs e ds) mine 0 0 h1 22 [.val (.int n), l1, .val (.ref b), l3, l4, .val (.int (Int32.ofNat (e - suf.length))), .val (.int ng)] [] := by
  intro M
  induction M using Nat.strongRecOn with
  | ind M ih =>
    intro n suf hn hM hds h1 A l1 l3 l4 hq hr
    have e100 : (-100 : Int32).toInt = -100 := by decide
    by_cases hlt : M < 100
    · refine WP.iloadN (pc' := 23) dGCI_22 rfl rfl ?_
      refine WP.bipush (pc' := 25) (x := (-100)) dGCI_23 (by decide) rfl ?_
      refine WP.icmpT (pc' := 72) dGCI_25 (by decide) (by decide) (by show (-100 : Int32) < n; rw [Int32.lt_iff_toInt_lt, hn, e100]; omega) ?_
      exact step_GCIf hw D hp he hx hd hb hn hlt hds A
    · obtain ⟨t1, T1, H1⟩ := D.2.2.1
      obtain ⟨t2, T2, H2⟩ := D.2.2.2
      have hd' := hd
      rw [hds, digs100 (by omega), List.length_append, List.length_append, List.length_append] at hd'
      simp only [List.length_cons, List.length_nil] at hd'
      have hq100 := i_div (d := 100) hn (y := 100) (by decide) (by decide)
      refine WP.know fun hE1 _ _ => ?_
      refine WP.iloadN (pc' := 23) dGCI_22 rfl rfl ?_
      refine WP.bipush (pc' := 25) (x := (-100)) dGCI_23 (by decide) rfl ?_
      refine WP.icmpF (pc' := 28) dGCI_25 rfl (fun q => by rw [Int32.lt_iff_toInt_lt, hn, e100] at q; omega) ?_
      refine WP.iloadN (pc' := 29) dGCI_28 rfl rfl ?_
      refine WP.bipush (pc' := 31) (x := 100) dGCI_29 (by decide) rfl ?_
      refine WP.idiv (pc' := 32) dGCI_31 (by decide) rfl ?_
      refine WP.istoreN (pc' := 33) dGCI_32 hq rfl rfl ?_
      dsimp only [List.set]
      refine WP.iloadN (pc' := 34) dGCI_33 rfl rfl ?_
      refine WP.bipush (pc' := 36) (x := 100) dGCI_34 (by decide) rfl ?_
      refine WP.imul (pc' := 37) dGCI_36 rfl ?_
      refine WP.iloadN (pc' := 38) dGCI_37 rfl rfl ?_
      refine WP.isub (pc' := 39) dGCI_38 rfl ?_
      rw [i_r100 hn hM hq100]
      refine WP.istore (pc' := 41) dGCI_39 hr rfl rfl ?_
      dsimp only [List.set]
      refine WP.iloadN (pc' := 42) dGCI_41 rfl rfl ?_
      refine WP.istoreN (pc' := 43) dGCI_42 rfl rfl rfl ?_
      dsimp only [List.set]
      refine WP.aloadN (pc' := 44) dGCI_43 rfl rfl rfl ?_
      refine WP.iinc (pc' := 47) dGCI_44 rfl rfl rfl rfl ?_
      dsimp only [List.set]
      refine WP.iload (pc' := 49) dGCI_47 rfl rfl ?_
      rw [n32_pred (by omega) (by omega)]
      refine WP.getstatic (pc' := 52) (host := "") dGCI_49 (Or.inl (hw _ (List.mem_of_getElem? (i := 193) rfl))) Via.refl D.1 rfl ?_
      refine WP.iload (pc' := 54) dGCI_52 rfl rfl ?_
      refine WP.baload (pc' := 55) dGCI_54 (T1.ext hE1) (n32_toInt (by omega)) (H1 (M % 100) (by omega)) rfl ?_
      refine WP.bastore (pc' := 56) dGCI_55 A (n32_toInt (by omega)) (by rw [out_len (by omega) he]; omega) hb (Or.inl (List.mem_singleton.mpr rfl)) rfl ?_
      intro h2 W2 A2
      rw [nar_lo8, dgc_mod (a := M % 100) (b := M) (by omega), out_put (by omega) he] at A2
      refine WP.know fun hE2 _ _ => ?_
      refine WP.aloadN (pc' := 57) dGCI_56 rfl rfl rfl ?_
      refine WP.iinc (pc' := 60) dGCI_57 rfl rfl rfl rfl ?_
      dsimp only [List.set]
      refine WP.iload (pc' := 62) dGCI_60 rfl rfl ?_
      rw [show e - suf.length - 1 = e - (dgc M :: suf).length by rw [List.length_cons]; omega, n32_pred (by rw [List.length_cons]; omega) (by omega)]
      refine WP.getstatic (pc' := 65) (host := "") dGCI_62 (Or.inl (hw _ (List.mem_of_getElem? (i := 284) rfl))) Via.refl D.2.1 rfl ?_
      refine WP.iload (pc' := 67) dGCI_65 rfl rfl ?_
      refine WP.baload (pc' := 68) dGCI_67 (T2.ext hE2) (n32_toInt (by omega)) (H2 (M % 100) (by omega)) rfl ?_
      refine WP.bastore (pc' := 69) dGCI_68 A2 (i := e - (dgc M :: suf).length - 1) (n32_toInt (by omega)) (by rw [out_len (by rw [List.length_cons]; omega) he, List.length_cons]; omega) hb (Or.inl (List.mem_singleton.mpr rfl)) rfl ?_
      intro h3 W3 A3
      rw [nar_lo8, dgc_mod (a := M % 100 / 10) (b := M / 10) (by omega), out_put (by rw [List.length_cons]; omega) he] at A3
      rw [show e - (dgc M :: suf).length - 1 = e - (dgc (M / 10) :: dgc M :: suf).length by simp only [List.length_cons]; omega]
      refine WP.goto (pc' := 22) dGCI_69 (by decide) (by decide) ?_
      exact ih (M / 100) (by omega) (n / 100) _ hq100 (by omega) (by rw [hds, digs100 (by omega)]; simp) h3 A3 rfl rfl
set_option maxRecDepth 65536 in
set_option maxHeartbeats 40000000 in
theorem con_GCI (hw : ∀ d ∈ tables_1, d.before a0 Z = true) {b o1 o2 : Addr} (D : Dig Z o1 o2) {xs : List Int32} {e : Nat} {x : Int32} (he : e ≤ xs.length) (hd : (dec x.toInt).length ≤ e) (hb : b ∈ mine) (A : ArI Z h b .byte xs) : Con (⟨"java/lang/Integer", "getChars", "(II[B)I"⟩ : MethodName) jdk_33_method_12_code 7 (some .int) R0 Z LT [] #[.int x, .int (Int32.ofNat e), .ref b] h [b] mine (GcQ Z b xs e (dec x.toInt)) := by
  have hx := neg32 x
  have e0 : (0 : Int32).toInt = 0 := rfl
  refine Con.of pnGCI (Ls := [.val (.int x), .val (.int (Int32.ofNat e)), .val (.ref b), .unset, .unset, .unset, .unset]) (fun m => by first | (simp [entryFrame, mkF, argsToLocals, Value.category]; done) | (simp [entryFrame, mkF, argsToLocals, Value.category, maxLocals]; done) | rfl) ?_
  refine WP.iloadN (pc' := 1) dGCI_0 rfl rfl ?_
  refine WP.istore (pc' := 3) dGCI_1 rfl rfl rfl ?_
  dsimp only [List.set]
  refine WP.iloadN (pc' := 4) dGCI_3 rfl rfl ?_
  by_cases hneg : x < 0
  · have hneg' := hneg
    rw [Int32.lt_iff_toInt_lt, e0] at hneg'
    refine WP.ifF (pc' := 7) dGCI_4 rfl hneg ?_
    refine WP.iconst (pc' := 8) (x := 1) dGCI_7 (by decide) rfl ?_
    refine WP.goto (pc' := 12) dGCI_8 (by decide) (by decide) ?_
    refine WP.istore (pc' := 14) dGCI_12 rfl rfl rfl ?_
    dsimp only [List.set]
    refine WP.iload (pc' := 16) dGCI_14 rfl rfl ?_
    refine WP.ifT (pc' := 22) dGCI_16 (by decide) (by decide) (show ¬ (1 : Int32) = 0 by decide) ?_
    exact loop_GCI hw D (pre := [45]) (Or.inr ⟨rfl, rfl⟩) he A.len hd hb _ x [] (hx.2.1 hneg) hx.2.2 (by unfold dec sgn; rw [if_pos hneg', List.append_nil]) h (by rw [out_nil]; exact A) rfl rfl
  · have hneg' := hneg
    rw [Int32.lt_iff_toInt_lt, e0] at hneg'
    refine WP.ifT (pc' := 11) dGCI_4 (by decide) (by decide) hneg ?_
    refine WP.iconst (pc' := 12) (x := 0) dGCI_11 (by decide) rfl ?_
    refine WP.istore (pc' := 14) dGCI_12 rfl rfl rfl ?_
    dsimp only [List.set]
    refine WP.iload (pc' := 16) dGCI_14 rfl rfl ?_
    refine WP.ifF (pc' := 19) dGCI_16 rfl rfl ?_
    refine WP.iloadN (pc' := 20) dGCI_19 rfl rfl ?_
    refine WP.ineg (pc' := 21) dGCI_20 rfl ?_
    refine WP.istoreN (pc' := 22) dGCI_21 rfl rfl rfl ?_
    dsimp only [List.set]
    exact loop_GCI hw D (pre := []) (Or.inl ⟨rfl, rfl⟩) he A.len hd hb _ (-x) [] (hx.1 hneg) hx.2.2 (by unfold dec sgn; rw [if_neg hneg', List.append_nil]) h (by rw [out_nil]; exact A) rfl rfl
theorem dGCL_0 : decode jdk_35_method_14_code 0 = .ok (.iload_n 2, 1) := by decide +kernel
theorem dGCL_1 : decode jdk_35_method_14_code 1 = .ok (.istore 7, 2) := by decide +kernel
theorem dGCL_3 : decode jdk_35_method_14_code 3 = .ok (.lload_n 0, 1) := by decide +kernel
theorem dGCL_4 : decode jdk_35_method_14_code 4 = .ok (.lconst 0, 1) := by decide +kernel
theorem dGCL_5 : decode jdk_35_method_14_code 5 = .ok (.lcmp, 1) := by decide +kernel
theorem dGCL_6 : decode jdk_35_method_14_code 6 = .ok (.ifCond .ge 7, 3) := by decide +kernel
theorem dGCL_9 : decode jdk_35_method_14_code 9 = .ok (.iconst 1, 1) := by decide +kernel
theorem dGCL_10 : decode jdk_35_method_14_code 10 = .ok (.goto 4, 3) := by decide +kernel
theorem dGCL_13 : decode jdk_35_method_14_code 13 = .ok (.iconst 0, 1) := by decide +kernel
theorem dGCL_14 : decode jdk_35_method_14_code 14 = .ok (.istore 8, 2) := by decide +kernel
theorem dGCL_16 : decode jdk_35_method_14_code 16 = .ok (.iload 8, 2) := by decide +kernel
theorem dGCL_18 : decode jdk_35_method_14_code 18 = .ok (.ifCond .ne 6, 3) := by decide +kernel
theorem dGCL_21 : decode jdk_35_method_14_code 21 = .ok (.lload_n 0, 1) := by decide +kernel
theorem dGCL_22 : decode jdk_35_method_14_code 22 = .ok (.lneg, 1) := by decide +kernel
theorem dGCL_23 : decode jdk_35_method_14_code 23 = .ok (.lstore_n 0, 1) := by decide +kernel
theorem dGCL_24 : decode jdk_35_method_14_code 24 = .ok (.lload_n 0, 1) := by decide +kernel
theorem dGCL_25 : decode jdk_35_method_14_code 25 = .ok (.ldc2_w 129, 3) := by decide +kernel
theorem dGCL_28 : decode jdk_35_method_14_code 28 = .ok (.lcmp, 1) := by decide +kernel
theorem dGCL_29 : decode jdk_35_method_14_code 29 = .ok (.ifCond .gt 53, 3) := by decide +kernel
theorem dGCL_32 : decode jdk_35_method_14_code 32 = .ok (.lload_n 0, 1) := by decide +kernel
theorem dGCL_33 : decode jdk_35_method_14_code 33 = .ok (.ldc2_w 131, 3) := by decide +kernel
theorem dGCL_36 : decode jdk_35_method_14_code 36 = .ok (.ldiv, 1) := by decide +kernel
theorem dGCL_37 : decode jdk_35_method_14_code 37 = .ok (.lstore 4, 2) := by decide +kernel
theorem dGCL_39 : decode jdk_35_method_14_code 39 = .ok (.lload 4, 2) := by decide +kernel
theorem dGCL_41 : decode jdk_35_method_14_code 41 = .ok (.ldc2_w 131, 3) := by decide +kernel
theorem dGCL_44 : decode jdk_35_method_14_code 44 = .ok (.lmul, 1) := by decide +kernel
theorem dGCL_45 : decode jdk_35_method_14_code 45 = .ok (.lload_n 0, 1) := by decide +kernel
theorem dGCL_46 : decode jdk_35_method_14_code 46 = .ok (.lsub, 1) := by decide +kernel
theorem dGCL_47 : decode jdk_35_method_14_code 47 = .ok (.l2i, 1) := by decide +kernel
theorem dGCL_48 : decode jdk_35_method_14_code 48 = .ok (.istore 6, 2) := by decide +kernel
theorem dGCL_50 : decode jdk_35_method_14_code 50 = .ok (.lload 4, 2) := by decide +kernel
theorem dGCL_52 : decode jdk_35_method_14_code 52 = .ok (.lstore_n 0, 1) := by decide +kernel
theorem dGCL_53 : decode jdk_35_method_14_code 53 = .ok (.aload_n 3, 1) := by decide +kernel
theorem dGCL_54 : decode jdk_35_method_14_code 54 = .ok (.iinc 7 (-1), 3) := by decide +kernel
theorem dGCL_57 : decode jdk_35_method_14_code 57 = .ok (.iload 7, 2) := by decide +kernel
theorem dGCL_59 : decode jdk_35_method_14_code 59 = .ok (.getstatic 133, 3) := by decide +kernel
theorem dGCL_62 : decode jdk_35_method_14_code 62 = .ok (.iload 6, 2) := by decide +kernel
theorem dGCL_64 : decode jdk_35_method_14_code 64 = .ok (.baload, 1) := by decide +kernel
theorem dGCL_65 : decode jdk_35_method_14_code 65 = .ok (.bastore, 1) := by decide +kernel
theorem dGCL_66 : decode jdk_35_method_14_code 66 = .ok (.aload_n 3, 1) := by decide +kernel
theorem dGCL_67 : decode jdk_35_method_14_code 67 = .ok (.iinc 7 (-1), 3) := by decide +kernel
theorem dGCL_70 : decode jdk_35_method_14_code 70 = .ok (.iload 7, 2) := by decide +kernel
theorem dGCL_72 : decode jdk_35_method_14_code 72 = .ok (.getstatic 137, 3) := by decide +kernel
theorem dGCL_75 : decode jdk_35_method_14_code 75 = .ok (.iload 6, 2) := by decide +kernel
theorem dGCL_77 : decode jdk_35_method_14_code 77 = .ok (.baload, 1) := by decide +kernel
theorem dGCL_78 : decode jdk_35_method_14_code 78 = .ok (.bastore, 1) := by decide +kernel
theorem dGCL_79 : decode jdk_35_method_14_code 79 = .ok (.goto (-55), 3) := by decide +kernel
theorem dGCL_82 : decode jdk_35_method_14_code 82 = .ok (.lload_n 0, 1) := by decide +kernel
theorem dGCL_83 : decode jdk_35_method_14_code 83 = .ok (.l2i, 1) := by decide +kernel
theorem dGCL_84 : decode jdk_35_method_14_code 84 = .ok (.istore 10, 2) := by decide +kernel
theorem dGCL_86 : decode jdk_35_method_14_code 86 = .ok (.iload 10, 2) := by decide +kernel
theorem dGCL_88 : decode jdk_35_method_14_code 88 = .ok (.bipush (-100), 2) := by decide +kernel
theorem dGCL_90 : decode jdk_35_method_14_code 90 = .ok (.if_icmp .gt 53, 3) := by decide +kernel
theorem dGCL_93 : decode jdk_35_method_14_code 93 = .ok (.iload 10, 2) := by decide +kernel
theorem dGCL_95 : decode jdk_35_method_14_code 95 = .ok (.bipush 100, 2) := by decide +kernel
theorem dGCL_97 : decode jdk_35_method_14_code 97 = .ok (.idiv, 1) := by decide +kernel
theorem dGCL_98 : decode jdk_35_method_14_code 98 = .ok (.istore 9, 2) := by decide +kernel
theorem dGCL_100 : decode jdk_35_method_14_code 100 = .ok (.iload 9, 2) := by decide +kernel
theorem dGCL_102 : decode jdk_35_method_14_code 102 = .ok (.bipush 100, 2) := by decide +kernel
theorem dGCL_104 : decode jdk_35_method_14_code 104 = .ok (.imul, 1) := by decide +kernel
theorem dGCL_105 : decode jdk_35_method_14_code 105 = .ok (.iload 10, 2) := by decide +kernel
theorem dGCL_107 : decode jdk_35_method_14_code 107 = .ok (.isub, 1) := by decide +kernel
theorem dGCL_108 : decode jdk_35_method_14_code 108 = .ok (.istore 6, 2) := by decide +kernel
theorem dGCL_110 : decode jdk_35_method_14_code 110 = .ok (.iload 9, 2) := by decide +kernel
theorem dGCL_112 : decode jdk_35_method_14_code 112 = .ok (.istore 10, 2) := by decide +kernel
theorem dGCL_114 : decode jdk_35_method_14_code 114 = .ok (.aload_n 3, 1) := by decide +kernel
theorem dGCL_115 : decode jdk_35_method_14_code 115 = .ok (.iinc 7 (-1), 3) := by decide +kernel
theorem dGCL_118 : decode jdk_35_method_14_code 118 = .ok (.iload 7, 2) := by decide +kernel
theorem dGCL_120 : decode jdk_35_method_14_code 120 = .ok (.getstatic 133, 3) := by decide +kernel
theorem dGCL_123 : decode jdk_35_method_14_code 123 = .ok (.iload 6, 2) := by decide +kernel
theorem dGCL_125 : decode jdk_35_method_14_code 125 = .ok (.baload, 1) := by decide +kernel
theorem dGCL_126 : decode jdk_35_method_14_code 126 = .ok (.bastore, 1) := by decide +kernel
theorem dGCL_127 : decode jdk_35_method_14_code 127 = .ok (.aload_n 3, 1) := by decide +kernel
theorem dGCL_128 : decode jdk_35_method_14_code 128 = .ok (.iinc 7 (-1), 3) := by decide +kernel
theorem dGCL_131 : decode jdk_35_method_14_code 131 = .ok (.iload 7, 2) := by decide +kernel
theorem dGCL_133 : decode jdk_35_method_14_code 133 = .ok (.getstatic 137, 3) := by decide +kernel
theorem dGCL_136 : decode jdk_35_method_14_code 136 = .ok (.iload 6, 2) := by decide +kernel
theorem dGCL_138 : decode jdk_35_method_14_code 138 = .ok (.baload, 1) := by decide +kernel
theorem dGCL_139 : decode jdk_35_method_14_code 139 = .ok (.bastore, 1) := by decide +kernel
theorem dGCL_140 : decode jdk_35_method_14_code 140 = .ok (.goto (-54), 3) := by decide +kernel
theorem dGCL_143 : decode jdk_35_method_14_code 143 = .ok (.aload_n 3, 1) := by decide +kernel
theorem dGCL_144 : decode jdk_35_method_14_code 144 = .ok (.iinc 7 (-1), 3) := by decide +kernel
theorem dGCL_147 : decode jdk_35_method_14_code 147 = .ok (.iload 7, 2) := by decide +kernel
theorem dGCL_149 : decode jdk_35_method_14_code 149 = .ok (.getstatic 133, 3) := by decide +kernel
theorem dGCL_152 : decode jdk_35_method_14_code 152 = .ok (.iload 10, 2) := by decide +kernel
theorem dGCL_154 : decode jdk_35_method_14_code 154 = .ok (.ineg, 1) := by decide +kernel
theorem dGCL_155 : decode jdk_35_method_14_code 155 = .ok (.baload, 1) := by decide +kernel
theorem dGCL_156 : decode jdk_35_method_14_code 156 = .ok (.bastore, 1) := by decide +kernel
theorem dGCL_157 : decode jdk_35_method_14_code 157 = .ok (.iload 10, 2) := by decide +kernel
theorem dGCL_159 : decode jdk_35_method_14_code 159 = .ok (.bipush (-9), 2) := by decide +kernel
theorem dGCL_161 : decode jdk_35_method_14_code 161 = .ok (.if_icmp .ge 17, 3) := by decide +kernel
theorem dGCL_164 : decode jdk_35_method_14_code 164 = .ok (.aload_n 3, 1) := by decide +kernel
theorem dGCL_165 : decode jdk_35_method_14_code 165 = .ok (.iinc 7 (-1), 3) := by decide +kernel
theorem dGCL_168 : decode jdk_35_method_14_code 168 = .ok (.iload 7, 2) := by decide +kernel
theorem dGCL_170 : decode jdk_35_method_14_code 170 = .ok (.getstatic 137, 3) := by decide +kernel
theorem dGCL_173 : decode jdk_35_method_14_code 173 = .ok (.iload 10, 2) := by decide +kernel
theorem dGCL_175 : decode jdk_35_method_14_code 175 = .ok (.ineg, 1) := by decide +kernel
theorem dGCL_176 : decode jdk_35_method_14_code 176 = .ok (.baload, 1) := by decide +kernel
theorem dGCL_177 : decode jdk_35_method_14_code 177 = .ok (.bastore, 1) := by decide +kernel
theorem dGCL_178 : decode jdk_35_method_14_code 178 = .ok (.iload 8, 2) := by decide +kernel
theorem dGCL_180 : decode jdk_35_method_14_code 180 = .ok (.ifCond .eq 12, 3) := by decide +kernel
theorem dGCL_183 : decode jdk_35_method_14_code 183 = .ok (.aload_n 3, 1) := by decide +kernel
theorem dGCL_184 : decode jdk_35_method_14_code 184 = .ok (.iinc 7 (-1), 3) := by decide +kernel
theorem dGCL_187 : decode jdk_35_method_14_code 187 = .ok (.iload 7, 2) := by decide +kernel
theorem dGCL_189 : decode jdk_35_method_14_code 189 = .ok (.bipush 45, 2) := by decide +kernel
theorem dGCL_191 : decode jdk_35_method_14_code 191 = .ok (.bastore, 1) := by decide +kernel
theorem dGCL_192 : decode jdk_35_method_14_code 192 = .ok (.iload 7, 2) := by decide +kernel
theorem dGCL_194 : decode jdk_35_method_14_code 194 = .ok (.ireturn, 1) := by decide +kernel
theorem pnGCL : plainFor (⟨"java/lang/Long", "getChars", "(JI[B)I"⟩ : MethodName) = true := plainFor_of_name (by first | (simp [plainName, overriddenIn]; done) | decide +kernel)
set_option maxRecDepth 65536 in
set_option maxHeartbeats 40000000 in
theorem tail_GCLs (hw : ∀ d ∈ tables_1, d.before a0 Z = true) {b : Addr} {xs : List Int32} {e : Nat} {pre suf ds : List UInt16} {ng : Int32} (hp : (pre = [] ∧ ng = 0) ∨ (pre = [45] ∧ ng = 1)) (hds : ds = pre ++ suf) (he : e ≤ xs.length) (hx : xs.length < 2 ^ 31) (hd : ds.length ≤ e) (hb : b ∈ mine) {h1 : Heap} (A : ArI Z h1 b .byte (out xs e suf)) {l0 l1 l2 l4 l5 l6 l9 l10 : Slot} :
    WP "java/lang/Long" jdk_35_method_14_code 11 (some .int) "getChars" R0 Z LT h [b] mine (GcQ Z b xs e ds) mine 0 0 h1 178 [l0, l1, l2, .val (.ref b), l4, l5, l6, .val (.int (Int32.ofNat (e - suf.length))), .val (.int ng), l9, l10] [] := by
  subst hds
  rw [List.length_append] at hd
  refine WP.iload (pc' := 180) dGCL_178 rfl rfl ?_
  rcases hp with ⟨rfl, rfl⟩ | ⟨rfl, rfl⟩
  · refine WP.ifT (pc' := 192) dGCL_180 (by decide) (by decide) rfl ?_
    refine WP.iload (pc' := 194) dGCL_192 rfl rfl ?_
    exact WP.ireturn dGCL_194 rfl (by simp) rfl ⟨rfl, ⟨_, rfl⟩, A⟩ (fun _ hx => nomatch hx) (fun _ hx => hx) (by first | exact Nat.le_of_ble_eq_true rfl | omega) (by first | exact Nat.le_of_ble_eq_true rfl | omega)
  · refine WP.ifF (pc' := 183) dGCL_180 rfl (show ¬ (1 : Int32) = 0 by decide) ?_
    refine WP.aloadN (pc' := 184) dGCL_183 rfl rfl rfl ?_
    refine WP.iinc (pc' := 187) dGCL_184 rfl rfl rfl rfl ?_
    dsimp only [List.set]
    refine WP.iload (pc' := 189) dGCL_187 rfl rfl ?_
    refine WP.bipush (pc' := 191) (x := 45) dGCL_189 (by decide) rfl ?_
    rw [List.length_cons, List.length_nil] at hd
    rw [n32_pred (by omega) (by omega)]
    refine WP.bastore (pc' := 192) dGCL_191 A (n32_toInt (by omega)) (by rw [out_len (by omega) he]; omega) hb (Or.inl (List.mem_singleton.mpr rfl)) rfl ?_
    intro h2 W A2
    rw [show nar .byte 45 = lo8 45 by decide, out_put (by omega) he] at A2
    refine WP.iload (pc' := 194) dGCL_192 rfl rfl ?_
    exact WP.ireturn dGCL_194 rfl (by simp) rfl ⟨rfl, ⟨_, rfl⟩, A2⟩ (fun _ hx => nomatch hx) (fun _ hx => hx) (by first | exact Nat.le_of_ble_eq_true rfl | omega) (by first | exact Nat.le_of_ble_eq_true rfl | omega)
set_option maxRecDepth 65536 in
set_option maxHeartbeats 40000000 in
theorem step_GCLf (hw : ∀ d ∈ tables_1, d.before a0 Z = true) {b o1 o2 : Addr} (D : Dig Z o1 o2) {xs : List Int32} {e : Nat} {pre ds : List UInt16} {ng : Int32} (hp : (pre = [] ∧ ng = 0) ∨ (pre = [45] ∧ ng = 1)) (he : e ≤ xs.length) (hx : xs.length < 2 ^ 31) (hd : ds.length ≤ e) (hb : b ∈ mine) {M : Nat} {n : Int32} {suf : List UInt16} (hn : n.toInt = -(M : Int)) (hM : M < 100) (hds : ds = pre ++ digs M ++ suf) {h1 : Heap} (A : ArI Z h1 b .byte (out xs e suf)) {l0 l1 l2 l4 l5 l6 l9 : Slot} :
    WP "java/lang/Long" jdk_35_method_14_code 11 (some .int) "getChars" R0 Z LT h [b] mine (GcQ Z b xs e ds) mine 0 0 h1 143 [l0, l1, l2, .val (.ref b), l4, l5, l6, .val (.int (Int32.ofNat (e - suf.length))), .val (.int ng), l9, .val (.int n)] [] := by
  obtain ⟨t1, T1, H1⟩ := D.2.2.1
  obtain ⟨t2, T2, H2⟩ := D.2.2.2
  have hdp := digs_pos M
  have e9 : (-9 : Int32).toInt = -9 := by decide
  have hd' := hd
  rw [hds, List.length_append, List.length_append] at hd'
  refine WP.know fun hE1 _ _ => ?_
  refine WP.aloadN (pc' := 144) dGCL_143 rfl rfl rfl ?_
  refine WP.iinc (pc' := 147) dGCL_144 rfl rfl rfl rfl ?_
  dsimp only [List.set]
  refine WP.iload (pc' := 149) dGCL_147 rfl rfl ?_
  rw [n32_pred (by omega) (by omega)]
  refine WP.getstatic (pc' := 152) (host := "") dGCL_149 (Or.inl (hw _ (List.mem_of_getElem? (i := 175) rfl))) Via.refl D.1 rfl ?_
  refine WP.iload (pc' := 154) dGCL_152 rfl rfl ?_
  refine WP.ineg (pc' := 155) dGCL_154 rfl ?_
  rw [i_negN hn (by omega)]
  refine WP.baload (pc' := 156) dGCL_155 (T1.ext hE1) (n32_toInt (by omega)) (H1 M hM) rfl ?_
  refine WP.bastore (pc' := 157) dGCL_156 A (n32_toInt (by omega)) (by rw [out_len (by omega) he]; omega) hb (Or.inl (List.mem_singleton.mpr rfl)) rfl ?_
  intro h2 W2 A2
  rw [nar_lo8, out_put (by omega) he] at A2
  refine WP.iload (pc' := 159) dGCL_157 rfl rfl ?_
  refine WP.bipush (pc' := 161) (x := (-9)) dGCL_159 (by decide) rfl ?_
  rw [show e - suf.length - 1 = e - (dgc M :: suf).length by rw [List.length_cons]; omega]
  by_cases h10 : M < 10
  · refine WP.icmpT (pc' := 178) dGCL_161 (by decide) (by decide) (fun q => by rw [Int32.lt_iff_toInt_lt, hn, e9] at q; omega) ?_
    exact tail_GCLs hw hp (by rw [hds, digs_lt h10, List.append_assoc]; rfl) he hx hd hb A2
  · refine WP.icmpF (pc' := 164) dGCL_161 rfl (by show n < (-9 : Int32); rw [Int32.lt_iff_toInt_lt, hn, e9]; omega) ?_
    rw [digs_two (by omega) hM, List.length_cons, List.length_cons, List.length_nil] at hd'
    refine WP.know fun hE2 _ _ => ?_
    refine WP.aloadN (pc' := 165) dGCL_164 rfl rfl rfl ?_
    refine WP.iinc (pc' := 168) dGCL_165 rfl rfl rfl rfl ?_
    dsimp only [List.set]
    refine WP.iload (pc' := 170) dGCL_168 rfl rfl ?_
    rw [n32_pred (by rw [List.length_cons]; omega) (by omega)]
    refine WP.getstatic (pc' := 173) (host := "") dGCL_170 (Or.inl (hw _ (List.mem_of_getElem? (i := 177) rfl))) Via.refl D.2.1 rfl ?_
    refine WP.iload (pc' := 175) dGCL_173 rfl rfl ?_
    refine WP.ineg (pc' := 176) dGCL_175 rfl ?_
    rw [i_negN hn (by omega)]
    refine WP.baload (pc' := 177) dGCL_176 (T2.ext hE2) (n32_toInt (by omega)) (H2 M hM) rfl ?_
    refine WP.bastore (pc' := 178) dGCL_177 A2 (i := e - (dgc M :: suf).length - 1) (n32_toInt (by omega)) (by rw [out_len (by rw [List.length_cons]; omega) he, List.length_cons]; omega) hb (Or.inl (List.mem_singleton.mpr rfl)) rfl ?_
    intro h3 W3 A3
    rw [nar_lo8, out_put (by rw [List.length_cons]; omega) he] at A3
    rw [show e - (dgc M :: suf).length - 1 = e - (dgc (M / 10) :: dgc M :: suf).length by simp only [List.length_cons]; omega]
    exact tail_GCLs hw hp (by rw [hds, digs_two (by omega) hM, List.append_assoc]; rfl) he hx hd hb A3
set_option maxRecDepth 65536 in
set_option maxHeartbeats 40000000 in
theorem loop_GCL (hw : ∀ d ∈ tables_1, d.before a0 Z = true) {b o1 o2 : Addr} (D : Dig Z o1 o2) {xs : List Int32} {e : Nat} {pre ds : List UInt16} {ng : Int32} (hp : (pre = [] ∧ ng = 0) ∨ (pre = [45] ∧ ng = 1)) (he : e ≤ xs.length) (hx : xs.length < 2 ^ 31) (hd : ds.length ≤ e) (hb : b ∈ mine) : ∀ (M : Nat) (n : Int32) (suf : List UInt16), n.toInt = -(M : Int) → M ≤ 2147483648 → ds = pre ++ digs M ++ suf → ∀ (h1 : Heap), ArI Z h1 b .byte (out xs e suf) → ∀ {l0 l1 l2 l4 l5 l6 l9 : Slot}, one (some l9) = true → one (some l6) = true →
    WP "java/lang/Long" jdk_35_method_14_code 11 (some .int) "getChars" R0 Z LT h [b] mine (GcQ Z b xs e ds) mine 0 0 h1 86 [l0, l1, l2, .val (.ref b), l4, l5, l6, .val (.int (Int32.ofNat (e - suf.length))), .val (.int ng), l9, .val (.int n)] [] := by
  intro M
  induction M using Nat.strongRecOn with
  | ind M ih =>
    intro n suf hn hM hds h1 A l0 l1 l2 l4 l5 l6 l9 hq hr
    have e100 : (-100 : Int32).toInt = -100 := by decide
    by_cases hlt : M < 100
    · refine WP.iload (pc' := 88) dGCL_86 rfl rfl ?_
      refine WP.bipush (pc' := 90) (x := (-100)) dGCL_88 (by decide) rfl ?_
      refine WP.icmpT (pc' := 143) dGCL_90 (by decide) (by decide) (by show (-100 : Int32) < n; rw [Int32.lt_iff_toInt_lt, hn, e100]; omega) ?_
      exact step_GCLf hw D hp he hx hd hb hn hlt hds A
    · obtain ⟨t1, T1, H1⟩ := D.2.2.1
      obtain ⟨t2, T2, H2⟩ := D.2.2.2
      have hd' := hd
      rw [hds, digs100 (by omega), List.length_append, List.length_append, List.length_append] at hd'
      simp only [List.length_cons, List.length_nil] at hd'
      have hq100 := i_div (d := 100) hn (y := 100) (by decide) (by decide)
      refine WP.know fun hE1 _ _ => ?_
      refine WP.iload (pc' := 88) dGCL_86 rfl rfl ?_
      refine WP.bipush (pc' := 90) (x := (-100)) dGCL_88 (by decide) rfl ?_
      refine WP.icmpF (pc' := 93) dGCL_90 rfl (fun q => by rw [Int32.lt_iff_toInt_lt, hn, e100] at q; omega) ?_
      refine WP.iload (pc' := 95) dGCL_93 rfl rfl ?_
      refine WP.bipush (pc' := 97) (x := 100) dGCL_95 (by decide) rfl ?_
      refine WP.idiv (pc' := 98) dGCL_97 (by decide) rfl ?_
      refine WP.istore (pc' := 100) dGCL_98 hq rfl rfl ?_
      dsimp only [List.set]
      refine WP.iload (pc' := 102) dGCL_100 rfl rfl ?_
      refine WP.bipush (pc' := 104) (x := 100) dGCL_102 (by decide) rfl ?_
      refine WP.imul (pc' := 105) dGCL_104 rfl ?_
      refine WP.iload (pc' := 107) dGCL_105 rfl rfl ?_
      refine WP.isub (pc' := 108) dGCL_107 rfl ?_
      rw [i_r100 hn hM hq100]
      refine WP.istore (pc' := 110) dGCL_108 hr rfl rfl ?_
      dsimp only [List.set]
      refine WP.iload (pc' := 112) dGCL_110 rfl rfl ?_
      refine WP.istore (pc' := 114) dGCL_112 rfl rfl rfl ?_
      dsimp only [List.set]
      refine WP.aloadN (pc' := 115) dGCL_114 rfl rfl rfl ?_
      refine WP.iinc (pc' := 118) dGCL_115 rfl rfl rfl rfl ?_
      dsimp only [List.set]
      refine WP.iload (pc' := 120) dGCL_118 rfl rfl ?_
      rw [n32_pred (by omega) (by omega)]
      refine WP.getstatic (pc' := 123) (host := "") dGCL_120 (Or.inl (hw _ (List.mem_of_getElem? (i := 175) rfl))) Via.refl D.1 rfl ?_
      refine WP.iload (pc' := 125) dGCL_123 rfl rfl ?_
      refine WP.baload (pc' := 126) dGCL_125 (T1.ext hE1) (n32_toInt (by omega)) (H1 (M % 100) (by omega)) rfl ?_
      refine WP.bastore (pc' := 127) dGCL_126 A (n32_toInt (by omega)) (by rw [out_len (by omega) he]; omega) hb (Or.inl (List.mem_singleton.mpr rfl)) rfl ?_
      intro h2 W2 A2
      rw [nar_lo8, dgc_mod (a := M % 100) (b := M) (by omega), out_put (by omega) he] at A2
      refine WP.know fun hE2 _ _ => ?_
      refine WP.aloadN (pc' := 128) dGCL_127 rfl rfl rfl ?_
      refine WP.iinc (pc' := 131) dGCL_128 rfl rfl rfl rfl ?_
      dsimp only [List.set]
      refine WP.iload (pc' := 133) dGCL_131 rfl rfl ?_
      rw [show e - suf.length - 1 = e - (dgc M :: suf).length by rw [List.length_cons]; omega, n32_pred (by rw [List.length_cons]; omega) (by omega)]
      refine WP.getstatic (pc' := 136) (host := "") dGCL_133 (Or.inl (hw _ (List.mem_of_getElem? (i := 177) rfl))) Via.refl D.2.1 rfl ?_
      refine WP.iload (pc' := 138) dGCL_136 rfl rfl ?_
      refine WP.baload (pc' := 139) dGCL_138 (T2.ext hE2) (n32_toInt (by omega)) (H2 (M % 100) (by omega)) rfl ?_
      refine WP.bastore (pc' := 140) dGCL_139 A2 (i := e - (dgc M :: suf).length - 1) (n32_toInt (by omega)) (by rw [out_len (by rw [List.length_cons]; omega) he, List.length_cons]; omega) hb (Or.inl (List.mem_singleton.mpr rfl)) rfl ?_
      intro h3 W3 A3
      rw [nar_lo8, dgc_mod (a := M % 100 / 10) (b := M / 10) (by omega), out_put (by rw [List.length_cons]; omega) he] at A3
      rw [show e - (dgc M :: suf).length - 1 = e - (dgc (M / 10) :: dgc M :: suf).length by simp only [List.length_cons]; omega]
      refine WP.goto (pc' := 86) dGCL_140 (by decide) (by decide) ?_
      exact ih (M / 100) (by omega) (n / 100) _ hq100 (by omega) (by rw [hds, digs100 (by omega)]; simp) h3 A3 rfl rfl
def Two (l4 l5 : Slot) : Prop := (l4 = .unset ∧ l5 = .unset) ∨ ∃ y, l4 = .val (.long y) ∧ l5 = .second
set_option maxRecDepth 65536 in
set_option maxHeartbeats 40000000 in
theorem loop_GCLa (hw : ∀ d ∈ tables_1, d.before a0 Z = true) {b o1 o2 : Addr} (D : Dig Z o1 o2) {xs : List Int32} {e : Nat} {pre ds : List UInt16} {ng : Int32} (hp : (pre = [] ∧ ng = 0) ∨ (pre = [45] ∧ ng = 1)) (he : e ≤ xs.length) (hx : xs.length < 2 ^ 31) (hd : ds.length ≤ e) (hb : b ∈ mine) : ∀ (M : Nat) (n : Int64) (suf : List UInt16), n.toInt = -(M : Int) → M ≤ 9223372036854775808 → ds = pre ++ digs M ++ suf → ∀ (h1 : Heap), ArI Z h1 b .byte (out xs e suf) → ∀ {l2 l4 l5 l6 : Slot}, Two l4 l5 → one (some l6) = true →
    WP "java/lang/Long" jdk_35_method_14_code 11 (some .int) "getChars" R0 Z LT h [b] mine (GcQ Z b xs e ds) mine 0 0 h1 24 [.val (.long n), .second, l2, .val (.ref b), l4, l5, l6, .val (.int (Int32.ofNat (e - suf.length))), .val (.int ng), .unset, .unset] [] := by
  intro M
  induction M using Nat.strongRecOn with
  | ind M ih =>
    intro n suf hn hM hds h1 A l2 l4 l5 l6 hq hr
    have eMin : (-2147483648 : Int64).toInt = -2147483648 := by decide
    by_cases hlt : M < 2147483648
    · refine WP.lloadN (pc' := 25) dGCL_24 rfl rfl ?_
      refine WP.ldc2Long (pc' := 28) dGCL_25 (hw _ (List.mem_of_getElem? (i := 173) rfl)) rfl ?_
      refine WP.lcmp (pc' := 29) dGCL_28 rfl ?_
      refine WP.ifT (pc' := 82) dGCL_29 (by decide) (by decide) ((lw_gt n (-2147483648)).mpr (by rw [Int64.lt_iff_toInt_lt, hn, eMin]; omega)) ?_
      refine WP.lloadN (pc' := 83) dGCL_82 rfl rfl ?_
      refine WP.l2i (pc' := 84) dGCL_83 rfl ?_
      refine WP.istore (pc' := 86) dGCL_84 rfl rfl rfl ?_
      dsimp only [List.set]
      exact loop_GCL hw D hp he hx hd hb M _ suf (l_l2i hn (by omega)) (by omega) hds h1 A rfl hr
    · obtain ⟨t1, T1, H1⟩ := D.2.2.1
      obtain ⟨t2, T2, H2⟩ := D.2.2.2
      have hd' := hd
      rw [hds, digs100 (by omega), List.length_append, List.length_append, List.length_append] at hd'
      simp only [List.length_cons, List.length_nil] at hd'
      have hq100 := l_div (d := 100) hn (y := 100) (by decide) (by decide)
      refine WP.know fun hE1 _ _ => ?_
      refine WP.lloadN (pc' := 25) dGCL_24 rfl rfl ?_
      refine WP.ldc2Long (pc' := 28) dGCL_25 (hw _ (List.mem_of_getElem? (i := 173) rfl)) rfl ?_
      refine WP.lcmp (pc' := 29) dGCL_28 rfl ?_
      refine WP.ifF (pc' := 32) dGCL_29 rfl (fun q => by rw [lw_gt, Int64.lt_iff_toInt_lt, hn, eMin] at q; omega) ?_
      refine WP.lloadN (pc' := 33) dGCL_32 rfl rfl ?_
      refine WP.ldc2Long (pc' := 36) dGCL_33 (hw _ (List.mem_of_getElem? (i := 174) rfl)) rfl ?_
      refine WP.ldiv (pc' := 37) dGCL_36 (by decide) rfl ?_
      have go : WP "java/lang/Long" jdk_35_method_14_code 11 (some .int) "getChars" R0 Z LT h [b] mine (GcQ Z b xs e ds) mine 0 0 h1 39 [.val (.long n), .second, l2, .val (.ref b), .val (.long (n / 100)), .second, l6, .val (.int (Int32.ofNat (e - suf.length))), .val (.int ng), .unset, .unset] [] := by
        refine WP.lload (pc' := 41) dGCL_39 rfl rfl ?_
        refine WP.ldc2Long (pc' := 44) dGCL_41 (hw _ (List.mem_of_getElem? (i := 174) rfl)) rfl ?_
        refine WP.lmul (pc' := 45) dGCL_44 rfl ?_
        refine WP.lloadN (pc' := 46) dGCL_45 rfl rfl ?_
        refine WP.lsub (pc' := 47) dGCL_46 rfl ?_
        refine WP.l2i (pc' := 48) dGCL_47 rfl ?_
        rw [l_r100 hn hM hq100]
        refine WP.istore (pc' := 50) dGCL_48 hr rfl rfl ?_
        dsimp only [List.set]
        refine WP.lload (pc' := 52) dGCL_50 rfl rfl ?_
        first | refine WP.lstoreN (pc' := 53) dGCL_52 rfl rfl rfl rfl ?_ | refine WP.lstoreLN (pc' := 53) dGCL_52 rfl rfl rfl rfl ?_
        dsimp only [List.set]
        refine WP.aloadN (pc' := 54) dGCL_53 rfl rfl rfl ?_
        refine WP.iinc (pc' := 57) dGCL_54 rfl rfl rfl rfl ?_
        dsimp only [List.set]
        refine WP.iload (pc' := 59) dGCL_57 rfl rfl ?_
        rw [n32_pred (by omega) (by omega)]
        refine WP.getstatic (pc' := 62) (host := "") dGCL_59 (Or.inl (hw _ (List.mem_of_getElem? (i := 175) rfl))) Via.refl D.1 rfl ?_
        refine WP.iload (pc' := 64) dGCL_62 rfl rfl ?_
        refine WP.baload (pc' := 65) dGCL_64 (T1.ext hE1) (n32_toInt (by omega)) (H1 (M % 100) (by omega)) rfl ?_
        refine WP.bastore (pc' := 66) dGCL_65 A (n32_toInt (by omega)) (by rw [out_len (by omega) he]; omega) hb (Or.inl (List.mem_singleton.mpr rfl)) rfl ?_
        intro h2 W2 A2
        rw [nar_lo8, dgc_mod (a := M % 100) (b := M) (by omega), out_put (by omega) he] at A2
        refine WP.know fun hE2 _ _ => ?_
        refine WP.aloadN (pc' := 67) dGCL_66 rfl rfl rfl ?_
        refine WP.iinc (pc' := 70) dGCL_67 rfl rfl rfl rfl ?_
        dsimp only [List.set]
        refine WP.iload (pc' := 72) dGCL_70 rfl rfl ?_
        rw [show e - suf.length - 1 = e - (dgc M :: suf).length by rw [List.length_cons]; omega, n32_pred (by rw [List.length_cons]; omega) (by omega)]
        refine WP.getstatic (pc' := 75) (host := "") dGCL_72 (Or.inl (hw _ (List.mem_of_getElem? (i := 177) rfl))) Via.refl D.2.1 rfl ?_
        refine WP.iload (pc' := 77) dGCL_75 rfl rfl ?_
        refine WP.baload (pc' := 78) dGCL_77 (T2.ext hE2) (n32_toInt (by omega)) (H2 (M % 100) (by omega)) rfl ?_
        refine WP.bastore (pc' := 79) dGCL_78 A2 (i := e - (dgc M :: suf).length - 1) (n32_toInt (by omega)) (by rw [out_len (by rw [List.length_cons]; omega) he, List.length_cons]; omega) hb (Or.inl (List.mem_singleton.mpr rfl)) rfl ?_
        intro h3 W3 A3
        rw [nar_lo8, dgc_mod (a := M % 100 / 10) (b := M / 10) (by omega), out_put (by rw [List.length_cons]; omega) he] at A3
        rw [show e - (dgc M :: suf).length - 1 = e - (dgc (M / 10) :: dgc M :: suf).length by simp only [List.length_cons]; omega]
        refine WP.goto (pc' := 24) dGCL_79 (by decide) (by decide) ?_
        exact ih (M / 100) (by omega) (n / 100) _ hq100 (by omega) (by rw [hds, digs100 (by omega)]; simp) h3 A3 (Or.inr ⟨_, rfl, rfl⟩) rfl
      rcases hq with ⟨rfl, rfl⟩ | ⟨y, rfl, rfl⟩
      · refine WP.lstore (pc' := 39) dGCL_37 rfl rfl rfl rfl ?_
        dsimp only [List.set]
        exact go
      · refine WP.lstoreL (pc' := 39) dGCL_37 rfl rfl rfl rfl ?_
        dsimp only [List.set]
        exact go
set_option maxRecDepth 65536 in
set_option maxHeartbeats 40000000 in
theorem con_GCL (hw : ∀ d ∈ tables_1, d.before a0 Z = true) {b o1 o2 : Addr} (D : Dig Z o1 o2) {xs : List Int32} {e : Nat} {x : Int64} (he : e ≤ xs.length) (hd : (dec x.toInt).length ≤ e) (hb : b ∈ mine) (A : ArI Z h b .byte xs) : Con (⟨"java/lang/Long", "getChars", "(JI[B)I"⟩ : MethodName) jdk_35_method_14_code 11 (some .int) R0 Z LT [] #[.long x, .int (Int32.ofNat e), .ref b] h [b] mine (GcQ Z b xs e (dec x.toInt)) := by
  have hx := neg64 x
  have e0 : (0 : Int64).toInt = 0 := rfl
  refine Con.of pnGCL (Ls := [.val (.long x), .second, .val (.int (Int32.ofNat e)), .val (.ref b), .unset, .unset, .unset, .unset, .unset, .unset, .unset]) (fun m => by first | (simp [entryFrame, mkF, argsToLocals, Value.category]; done) | (simp [entryFrame, mkF, argsToLocals, Value.category, maxLocals]; done) | rfl) ?_
  refine WP.iloadN (pc' := 1) dGCL_0 rfl rfl ?_
  refine WP.istore (pc' := 3) dGCL_1 rfl rfl rfl ?_
  dsimp only [List.set]
  refine WP.lloadN (pc' := 4) dGCL_3 rfl rfl ?_
  refine WP.lconst (pc' := 5) (x := 0) dGCL_4 (by decide) rfl ?_
  refine WP.lcmp (pc' := 6) dGCL_5 rfl ?_
  by_cases hneg : x < 0
  · have hneg' := hneg
    rw [Int64.lt_iff_toInt_lt, e0] at hneg'
    refine WP.ifF (pc' := 9) dGCL_6 rfl ((lw_lt x 0).mpr hneg) ?_
    refine WP.iconst (pc' := 10) (x := 1) dGCL_9 (by decide) rfl ?_
    refine WP.goto (pc' := 14) dGCL_10 (by decide) (by decide) ?_
    refine WP.istore (pc' := 16) dGCL_14 rfl rfl rfl ?_
    dsimp only [List.set]
    refine WP.iload (pc' := 18) dGCL_16 rfl rfl ?_
    refine WP.ifT (pc' := 24) dGCL_18 (by decide) (by decide) (show ¬ (1 : Int32) = 0 by decide) ?_
    exact loop_GCLa hw D (pre := [45]) (Or.inr ⟨rfl, rfl⟩) he A.len hd hb _ x [] (hx.2.1 hneg) hx.2.2 (by unfold dec sgn; rw [if_pos hneg', List.append_nil]) h (by rw [out_nil]; exact A) (Or.inl ⟨rfl, rfl⟩) rfl
  · have hneg' := hneg
    rw [Int64.lt_iff_toInt_lt, e0] at hneg'
    refine WP.ifT (pc' := 13) dGCL_6 (by decide) (by decide) (fun q => hneg ((lw_lt x 0).mp q)) ?_
    refine WP.iconst (pc' := 14) (x := 0) dGCL_13 (by decide) rfl ?_
    refine WP.istore (pc' := 16) dGCL_14 rfl rfl rfl ?_
    dsimp only [List.set]
    refine WP.iload (pc' := 18) dGCL_16 rfl rfl ?_
    refine WP.ifF (pc' := 21) dGCL_18 rfl rfl ?_
    refine WP.lloadN (pc' := 22) dGCL_21 rfl rfl ?_
    refine WP.lneg (pc' := 23) dGCL_22 rfl ?_
    first | refine WP.lstoreN (pc' := 24) dGCL_23 rfl rfl rfl rfl ?_ | refine WP.lstoreLN (pc' := 24) dGCL_23 rfl rfl rfl rfl ?_
    dsimp only [List.set]
    exact loop_GCLa hw D (pre := []) (Or.inl ⟨rfl, rfl⟩) he A.len hd hb _ (-x) [] (hx.1 hneg) hx.2.2 (by unfold dec sgn; rw [if_neg hneg', List.append_nil]) h (by rw [out_nil]; exact A) (Or.inl ⟨rfl, rfl⟩) rfl
theorem dAPJ_0 : decode jdk_68_method_33_code 0 = .ok (.aload_n 0, 1) := by decide +kernel
theorem dAPJ_1 : decode jdk_68_method_33_code 1 = .ok (.getfield 79, 3) := by decide +kernel
theorem dAPJ_4 : decode jdk_68_method_33_code 4 = .ok (.istore_n 3, 1) := by decide +kernel
theorem dAPJ_5 : decode jdk_68_method_33_code 5 = .ok (.iload_n 3, 1) := by decide +kernel
theorem dAPJ_6 : decode jdk_68_method_33_code 6 = .ok (.lload_n 1, 1) := by decide +kernel
theorem dAPJ_7 : decode jdk_68_method_33_code 7 = .ok (.invokestatic 254, 3) := by decide +kernel
theorem dAPJ_10 : decode jdk_68_method_33_code 10 = .ok (.iadd, 1) := by decide +kernel
theorem dAPJ_11 : decode jdk_68_method_33_code 11 = .ok (.istore 4, 2) := by decide +kernel
theorem dAPJ_13 : decode jdk_68_method_33_code 13 = .ok (.aload_n 0, 1) := by decide +kernel
theorem dAPJ_14 : decode jdk_68_method_33_code 14 = .ok (.iload 4, 2) := by decide +kernel
theorem dAPJ_16 : decode jdk_68_method_33_code 16 = .ok (.invokevirtual 100, 3) := by decide +kernel
theorem dAPJ_19 : decode jdk_68_method_33_code 19 = .ok (.aload_n 0, 1) := by decide +kernel
theorem dAPJ_20 : decode jdk_68_method_33_code 20 = .ok (.invokevirtual 83, 3) := by decide +kernel
theorem dAPJ_23 : decode jdk_68_method_33_code 23 = .ok (.ifCond .eq 17, 3) := by decide +kernel
theorem dAPJ_26 : decode jdk_68_method_33_code 26 = .ok (.lload_n 1, 1) := by decide +kernel
theorem dAPJ_27 : decode jdk_68_method_33_code 27 = .ok (.iload 4, 2) := by decide +kernel
theorem dAPJ_29 : decode jdk_68_method_33_code 29 = .ok (.aload_n 0, 1) := by decide +kernel
theorem dAPJ_30 : decode jdk_68_method_33_code 30 = .ok (.getfield 15, 3) := by decide +kernel
theorem dAPJ_33 : decode jdk_68_method_33_code 33 = .ok (.invokestatic 259, 3) := by decide +kernel
theorem dAPJ_36 : decode jdk_68_method_33_code 36 = .ok (.pop, 1) := by decide +kernel
theorem dAPJ_37 : decode jdk_68_method_33_code 37 = .ok (.goto 15, 3) := by decide +kernel
theorem dAPJ_40 : decode jdk_68_method_33_code 40 = .ok (.lload_n 1, 1) := by decide +kernel
theorem dAPJ_41 : decode jdk_68_method_33_code 41 = .ok (.iload_n 3, 1) := by decide +kernel
theorem dAPJ_42 : decode jdk_68_method_33_code 42 = .ok (.iload 4, 2) := by decide +kernel
theorem dAPJ_44 : decode jdk_68_method_33_code 44 = .ok (.aload_n 0, 1) := by decide +kernel
theorem dAPJ_45 : decode jdk_68_method_33_code 45 = .ok (.getfield 15, 3) := by decide +kernel
theorem dAPJ_48 : decode jdk_68_method_33_code 48 = .ok (.invokestatic 262, 3) := by decide +kernel
theorem dAPJ_51 : decode jdk_68_method_33_code 51 = .ok (.pop, 1) := by decide +kernel
theorem dAPJ_52 : decode jdk_68_method_33_code 52 = .ok (.aload_n 0, 1) := by decide +kernel
theorem dAPJ_53 : decode jdk_68_method_33_code 53 = .ok (.iload 4, 2) := by decide +kernel
theorem dAPJ_55 : decode jdk_68_method_33_code 55 = .ok (.putfield 79, 3) := by decide +kernel
theorem dAPJ_58 : decode jdk_68_method_33_code 58 = .ok (.aload_n 0, 1) := by decide +kernel
theorem dAPJ_59 : decode jdk_68_method_33_code 59 = .ok (.areturn, 1) := by decide +kernel
theorem pnAPJ : plainFor (⟨"java/lang/AbstractStringBuilder", "append", "(J)Ljava/lang/AbstractStringBuilder;"⟩ : MethodName) = true := plainFor_of_name (by first | (simp [plainName, overriddenIn]; done) | decide +kernel)
set_option maxRecDepth 65536 in
set_option maxHeartbeats 40000000 in
theorem con_APJ (hw : ∀ d ∈ tables_1, d.before a0 Z = true) {cz : Int32} (hc : Compact Z cz) {o1 o2 : Addr} (Dg : Dig Z o1 o2) {us : List UInt16} (hlu : lat us = true) {x : Int64} {b v : Addr} {C N : Nat} (B : SB Z h b v us C) (hN : 2 * max (us.length + (dec x.toInt).length) (2 * C + 2) ≤ N) (hN2 : N ≤ 67108864) (hb : b ∈ mine) (hv : v ∈ mine) :
    Con (⟨"java/lang/AbstractStringBuilder", "append", "(J)Ljava/lang/AbstractStringBuilder;"⟩ : MethodName) jdk_68_method_33_code 5 (some (.object "java/lang/AbstractStringBuilder")) { frames := 4, cells := 1, slots := N, locals := 63 } Z LT [] #[.ref b, .long x] h [b, v] mine (ApQ Z (us ++ dec x.toInt) b v h.size C mine) := by
  have hcap := B.cap
  obtain ⟨pad, B, hlen⟩ := B
  refine Con.of pnAPJ (Ls := [.val (.ref b), .val (.long x), .second, .unset, .unset]) (fun m => by first | (simp [entryFrame, mkF, argsToLocals, Value.category]; done) | (simp [entryFrame, mkF, argsToLocals, Value.category, maxLocals]; done) | rfl) ?_
  refine WP.aloadN (pc' := 1) dAPJ_0 rfl rfl rfl ?_
  refine WP.getfield (pc' := 4) (host := "") dAPJ_1 (Or.inl (hw _ (List.mem_of_getElem? (i := 99) rfl))) Via.refl B.2.2.2.1 rfl ?_
  refine WP.istoreN (pc' := 5) dAPJ_4 rfl rfl rfl ?_
  dsimp only [List.set]
  refine WP.iloadN (pc' := 6) dAPJ_5 rfl rfl ?_
  refine WP.lloadN (pc' := 7) dAPJ_6 rfl rfl ?_
  refine WP.callS (pc' := 10) (con_LSZ hw) (hw _ (List.mem_of_getElem? (i := 136) rfl)) (hw _ (List.mem_of_getElem? (i := 137) rfl)) (hw _ (List.mem_of_getElem? (i := 138) rfl)) (hw _ (List.mem_of_getElem? (i := 139) rfl)) dAPJ_7 (by decide) pdx23 rfl rfl rfl (by first | exact Nat.le_of_ble_eq_true rfl | omega | (simp; done) | (simp; omega) | (dsimp only; omega)) (by first | exact Nat.le_of_ble_eq_true rfl | omega | (simp; done) | (simp; omega) | (dsimp only; omega)) (by first | exact Nat.le_of_ble_eq_true rfl | omega | (simp; done) | (simp; omega) | (dsimp only; omega)) (by first | exact Nat.le_of_ble_eq_true rfl | omega | (simp; done) | (simp; omega) | (dsimp only; omega)) (fun _ hx => nomatch hx) rfl ?_
  rintro w h nw K hnw ⟨rfl, rfl, rfl⟩
  dsimp only [Option.toList, List.cons_append, List.nil_append]
  refine WP.iadd (pc' := 11) dAPJ_10 rfl ?_
  rw [n32_add]
  refine WP.istore (pc' := 13) dAPJ_11 rfl rfl rfl ?_
  dsimp only [List.set]
  refine WP.aloadN (pc' := 14) dAPJ_13 rfl rfl rfl ?_
  refine WP.iload (pc' := 16) dAPJ_14 rfl rfl ?_
  refine WP.callPn (pc' := 19) (con_ECI hw (C := C) (m := us.length + (dec x.toInt).length) (N := N) B (cc_of hlen) rfl hN hN2 hb) B.1.cell (hw _ (List.mem_of_getElem? (i := 101) rfl)) (hw _ (List.mem_of_getElem? (i := 102) rfl)) (hw _ (List.mem_of_getElem? (i := 103) rfl)) (fun s hs => (ni_sel (y := ({ cls := "java/lang/AbstractStringBuilder", name := "ensureCapacityInternal", desc := "(I)V" } : Jvm.MethodName)) (args := #[]) (mv hs (hw _ (List.mem_of_getElem? (i := 104) rfl))))) (hw _ (List.mem_of_getElem? (i := 71) rfl)) (hw _ (List.mem_of_getElem? (i := 105) rfl)) dAPJ_16 (by decide) pdx18 rfl rfl rfl (by first | exact Nat.le_of_ble_eq_true rfl | omega | (simp; done) | (simp; omega) | (dsimp only; omega)) (by first | exact Nat.le_of_ble_eq_true rfl | omega | (simp; done) | (simp; omega) | (dsimp only; omega)) (by first | exact Nat.le_of_ble_eq_true rfl | omega | (simp; done) | (simp; omega) | (dsimp only; omega)) (by first | exact Nat.le_of_ble_eq_true rfl | omega | (simp; done) | (simp; omega) | (dsimp only; omega)) (fun x hx => by cases List.mem_singleton.mp hx; exact Or.inl (by simp)) rfl ?_
  rintro w h1 nw K1 hnw1 ⟨rfl, v', C', zs, hv', B1, hcc, hle, hCC⟩
  dsimp only [Option.toList, List.nil_append]
  rw [List.append_assoc] at B1 hcc
  have hlen1 := cc_to hcc
  have hvm : v' ∈ nw ++ mine := by
    rcases hv' with ⟨rfl, rfl⟩ | rfl
    · exact hv
    · simp
  have hvw : v' ∈ [b, v] ∨ h.size ≤ v' := by
    rcases hv' with ⟨rfl, rfl⟩ | rfl
    · exact Or.inl (by simp)
    · exact Or.inr (hnw1 _ (by simp))
  have hbm : b ∈ nw ++ mine := List.mem_append.mpr (Or.inr hb)
  rw [byt_lat hlu, cod_lat hlu] at B1
  rw [byt_lat hlu, wid_lat hlu, Nat.one_mul] at hlen1
  refine WP.aloadN (pc' := 20) dAPJ_19 rfl rfl rfl ?_
  refine WP.callV (pc' := 23) (con_SBL hw hc B1.2.2.1) B1.1 (hw _ (List.mem_of_getElem? (i := 165) rfl)) (hw _ (List.mem_of_getElem? (i := 166) rfl)) (fun s hs => notFace_of_selects (args := #[]) (mv hs (hw _ (List.mem_of_getElem? (i := 168) rfl)))) (hw _ (List.mem_of_getElem? (i := 168) rfl)) (hw _ (List.mem_of_getElem? (i := 167) rfl)) (hw _ (List.mem_of_getElem? (i := 71) rfl)) (hw _ (List.mem_of_getElem? (i := 169) rfl)) dAPJ_20 (by decide) pdx7 rfl rfl rfl (by first | exact Nat.le_of_ble_eq_true rfl | omega | (simp; done) | (simp; omega) | (dsimp only; omega)) (by first | exact Nat.le_of_ble_eq_true rfl | omega | (simp; done) | (simp; omega) | (dsimp only; omega)) (by first | exact Nat.le_of_ble_eq_true rfl | omega | (simp; done) | (simp; omega) | (dsimp only; omega)) (by first | exact Nat.le_of_ble_eq_true rfl | omega | (simp; done) | (simp; omega) | (dsimp only; omega)) (fun _ hx => nomatch hx) rfl ?_
  rintro w h2 nw2 K2 hnw2 ⟨rfl, rfl, rfl⟩
  dsimp only [Option.toList, List.cons_append, List.nil_append]
  rw [if_pos rfl]
  refine WP.ifF (pc' := 26) dAPJ_23 rfl (show ¬ (1 : Int32) = 0 by decide) ?_
  obtain ⟨E, Fv, Fc, Fn, M, A, X, nbv, hfx⟩ := B1
  refine WP.lloadN (pc' := 27) dAPJ_26 rfl rfl ?_
  refine WP.iload (pc' := 29) dAPJ_27 rfl rfl ?_
  refine WP.aloadN (pc' := 30) dAPJ_29 rfl rfl rfl ?_
  refine WP.getfield (pc' := 33) (host := "") dAPJ_30 (Or.inl (hw _ (List.mem_of_getElem? (i := 75) rfl))) Via.refl Fv rfl ?_
  have hdl : us.length + (dec x.toInt).length ≤ (us.map lo8 ++ (pad ++ zs)).length := by rw [hlen1]; exact hle
  refine WP.callS (pc' := 36) (con_GCL hw Dg (xs := us.map lo8 ++ (pad ++ zs)) (e := us.length + (dec x.toInt).length) hdl (by omega) hvm A) (hw _ (List.mem_of_getElem? (i := 170) rfl)) (hw _ (List.mem_of_getElem? (i := 171) rfl)) (hw _ (List.mem_of_getElem? (i := 138) rfl)) (hw _ (List.mem_of_getElem? (i := 172) rfl)) dAPJ_33 (by decide) pdx24 rfl rfl rfl (by first | exact Nat.le_of_ble_eq_true rfl | omega | (simp; done) | (simp; omega) | (dsimp only; omega)) (by first | exact Nat.le_of_ble_eq_true rfl | omega | (simp; done) | (simp; omega) | (dsimp only; omega)) (by first | exact Nat.le_of_ble_eq_true rfl | omega | (simp; done) | (simp; omega) | (dsimp only; omega)) (by first | exact Nat.le_of_ble_eq_true rfl | omega | (simp; done) | (simp; omega) | (dsimp only; omega)) (fun x hx => by cases List.mem_singleton.mp hx; exact hvw) rfl ?_
  rintro w h3 nw3 K3 hnw3 ⟨rfl, ⟨r, rfl⟩, A3⟩
  dsimp only [Option.toList, List.nil_append, List.cons_append]
  have nb : b ∉ [v'] := fun q => nbv (List.mem_singleton.mp q)
  refine WP.pop (pc' := 37) dAPJ_36 rfl rfl ?_
  refine WP.goto (pc' := 52) dAPJ_37 (by decide) (by decide) ?_
  refine WP.aloadN (pc' := 53) dAPJ_52 rfl rfl rfl ?_
  refine WP.iload (pc' := 55) dAPJ_53 rfl rfl ?_
  refine WP.putfield (pc' := 58) (host := "") dAPJ_55 (Or.inl (hw _ (List.mem_of_getElem? (i := 99) rfl))) Via.refl (Fn.keep K3 nb) (E.keep K3) (Or.inl (hw _ (List.mem_of_getElem? (i := 100) rfl))) (hw _ (List.mem_of_getElem? (i := 62) rfl)) (ty := .int) (by decide) rfl rfl hbm (Or.inl (by simp)) rfl ?_
  intro h4 W4 G4 E4
  refine WP.aloadN (pc' := 59) dAPJ_58 rfl rfl rfl ?_
  have hl2 : lat (us ++ dec x.toInt) = true := by rw [lat_app2, hlu, lat_dec]; rfl
  have eo : out (us.map lo8 ++ (pad ++ zs)) (us.length + (dec x.toInt).length) (dec x.toInt) = byt (us ++ dec x.toInt) ++ (us.map lo8 ++ (pad ++ zs)).drop (us.length + (dec x.toInt).length) := by
    unfold out
    rw [Nat.add_sub_cancel, byt_lat hl2, List.map_append, List.take_left' (by simp), List.append_assoc]
  rw [eo] at A3
  refine WP.areturn (nw := nw) dAPJ_59 rfl rfl rfl ⟨rfl, v', C', hvm, hvw.imp (fun q => (List.mem_cons.mp q).elim (fun z => absurd z.symm nbv) (fun z => List.mem_singleton.mp z)) id, ⟨_, ⟨E4, (Fv.keep K3 nb).other W4 (Or.inr (s_vn hw)), by rw [cod_lat hl2]; exact (Fc.keep K3 nb).other W4 (Or.inr (s_cn hw)), by rw [List.length_append]; exact G4, (M.keep K3 nb).wn hw W4, A3.other W4 (Ne.symm nbv), (X.keep K3).wr W4, nbv, app_fits byt_fits (fun x hx => hfx x (List.mem_of_mem_drop hx))⟩, ?_⟩, by rw [List.length_append]; exact hle, by rw [List.length_append]; exact hCC⟩ (fun x hx => ⟨List.mem_append.mpr (Or.inl hx), hnw1 x hx⟩) (fun x hx => List.mem_append.mpr (Or.inr hx)) (by dsimp only; omega) (by dsimp only; omega)
  rw [byt_lat hl2, wid_lat hl2, Nat.one_mul, ← hlen1]
  simp only [List.length_append, List.length_map, List.length_drop] at hdl ⊢
  omega
theorem dSAJ_0 : decode jdk_67_method_16_code 0 = .ok (.aload_n 0, 1) := by decide +kernel
theorem dSAJ_1 : decode jdk_67_method_16_code 1 = .ok (.lload_n 1, 1) := by decide +kernel
theorem dSAJ_2 : decode jdk_67_method_16_code 2 = .ok (.invokespecial 56, 3) := by decide +kernel
theorem dSAJ_5 : decode jdk_67_method_16_code 5 = .ok (.pop, 1) := by decide +kernel
theorem dSAJ_6 : decode jdk_67_method_16_code 6 = .ok (.aload_n 0, 1) := by decide +kernel
theorem dSAJ_7 : decode jdk_67_method_16_code 7 = .ok (.areturn, 1) := by decide +kernel
theorem pnSAJ : plainFor (⟨"java/lang/StringBuilder", "append", "(J)Ljava/lang/StringBuilder;"⟩ : MethodName) = true := plainFor_of_name (by first | (simp [plainName, overriddenIn]; done) | decide +kernel)
set_option maxRecDepth 65536 in
set_option maxHeartbeats 40000000 in
theorem con_SAJ (hw : ∀ d ∈ tables_1, d.before a0 Z = true) {cz : Int32} (hc : Compact Z cz) {o1 o2 : Addr} (Dg : Dig Z o1 o2) {us : List UInt16} (hlu : lat us = true) {x : Int64} {b v : Addr} {C N : Nat} (B : SB Z h b v us C) (hN : 2 * max (us.length + (dec x.toInt).length) (2 * C + 2) ≤ N) (hN2 : N ≤ 67108864) (hb : b ∈ mine) (hv : v ∈ mine) :
    Con (⟨"java/lang/StringBuilder", "append", "(J)Ljava/lang/StringBuilder;"⟩ : MethodName) jdk_67_method_16_code 3 (some (.object "java/lang/StringBuilder")) { frames := 5, cells := 1, slots := N, locals := 79 } Z LT [] #[.ref b, .long x] h [b, v] mine (ApQ Z (us ++ dec x.toInt) b v h.size C mine) := by
  refine Con.of pnSAJ (Ls := [.val (.ref b), .val (.long x), .second]) (fun m => by first | (simp [entryFrame, mkF, argsToLocals, Value.category]; done) | (simp [entryFrame, mkF, argsToLocals, Value.category, maxLocals]; done) | rfl) ?_
  refine WP.aloadN (pc' := 1) dSAJ_0 rfl rfl rfl ?_
  refine WP.lloadN (pc' := 2) dSAJ_1 rfl rfl ?_
  refine WP.callSup (pc' := 5) (con_APJ hw hc Dg hlu (x := x) B hN hN2 hb hv) B.exa (hw _ (List.mem_of_getElem? (i := 132) rfl)) (hw _ (List.mem_of_getElem? (i := 133) rfl)) (hw _ (List.mem_of_getElem? (i := 86) rfl)) (ni_sel (y := ({ cls := "java/lang/AbstractStringBuilder", name := "ensureCapacityInternal", desc := "(I)V" } : Jvm.MethodName)) (hw _ (List.mem_of_getElem? (i := 104) rfl))) (by decide) (hw _ (List.mem_of_getElem? (i := 71) rfl)) (hw _ (List.mem_of_getElem? (i := 135) rfl)) dSAJ_2 (by decide) pdx25 rfl rfl rfl (by first | exact Nat.le_of_ble_eq_true rfl | omega | (simp; done) | (simp; omega) | (dsimp only; omega)) (by first | exact Nat.le_of_ble_eq_true rfl | omega | (simp; done) | (simp; omega) | (dsimp only; omega)) (by first | exact Nat.le_of_ble_eq_true rfl | omega | (simp; done) | (simp; omega) | (dsimp only; omega)) (by first | exact Nat.le_of_ble_eq_true rfl | omega | (simp; done) | (simp; omega) | (dsimp only; omega)) (fun x hx => Or.inl hx) rfl ?_
  rintro w h1 nw K1 hnw1 ⟨rfl, v', C', q⟩
  dsimp only [Option.toList, List.nil_append, List.cons_append]
  refine WP.pop (pc' := 6) dSAJ_5 rfl rfl ?_
  refine WP.aloadN (pc' := 7) dSAJ_6 rfl rfl rfl ?_
  exact WP.areturn (nw := nw) dSAJ_7 rfl rfl rfl ⟨rfl, v', C', q⟩ (fun x hx => ⟨List.mem_append.mpr (Or.inl hx), hnw1 x hx⟩) (fun x hx => List.mem_append.mpr (Or.inr hx)) (by dsimp only; omega) (by dsimp only; omega)
theorem dAPI_0 : decode jdk_68_method_32_code 0 = .ok (.aload_n 0, 1) := by decide +kernel
theorem dAPI_1 : decode jdk_68_method_32_code 1 = .ok (.getfield 79, 3) := by decide +kernel
theorem dAPI_4 : decode jdk_68_method_32_code 4 = .ok (.istore_n 2, 1) := by decide +kernel
theorem dAPI_5 : decode jdk_68_method_32_code 5 = .ok (.iload_n 2, 1) := by decide +kernel
theorem dAPI_6 : decode jdk_68_method_32_code 6 = .ok (.iload_n 1, 1) := by decide +kernel
theorem dAPI_7 : decode jdk_68_method_32_code 7 = .ok (.invokestatic 245, 3) := by decide +kernel
theorem dAPI_10 : decode jdk_68_method_32_code 10 = .ok (.iadd, 1) := by decide +kernel
theorem dAPI_11 : decode jdk_68_method_32_code 11 = .ok (.istore_n 3, 1) := by decide +kernel
theorem dAPI_12 : decode jdk_68_method_32_code 12 = .ok (.aload_n 0, 1) := by decide +kernel
theorem dAPI_13 : decode jdk_68_method_32_code 13 = .ok (.iload_n 3, 1) := by decide +kernel
theorem dAPI_14 : decode jdk_68_method_32_code 14 = .ok (.invokevirtual 100, 3) := by decide +kernel
theorem dAPI_17 : decode jdk_68_method_32_code 17 = .ok (.aload_n 0, 1) := by decide +kernel
theorem dAPI_18 : decode jdk_68_method_32_code 18 = .ok (.invokevirtual 83, 3) := by decide +kernel
theorem dAPI_21 : decode jdk_68_method_32_code 21 = .ok (.ifCond .eq 16, 3) := by decide +kernel
theorem dAPI_24 : decode jdk_68_method_32_code 24 = .ok (.iload_n 1, 1) := by decide +kernel
theorem dAPI_25 : decode jdk_68_method_32_code 25 = .ok (.iload_n 3, 1) := by decide +kernel
theorem dAPI_26 : decode jdk_68_method_32_code 26 = .ok (.aload_n 0, 1) := by decide +kernel
theorem dAPI_27 : decode jdk_68_method_32_code 27 = .ok (.getfield 15, 3) := by decide +kernel
theorem dAPI_30 : decode jdk_68_method_32_code 30 = .ok (.invokestatic 248, 3) := by decide +kernel
theorem dAPI_33 : decode jdk_68_method_32_code 33 = .ok (.pop, 1) := by decide +kernel
theorem dAPI_34 : decode jdk_68_method_32_code 34 = .ok (.goto 14, 3) := by decide +kernel
theorem dAPI_37 : decode jdk_68_method_32_code 37 = .ok (.iload_n 1, 1) := by decide +kernel
theorem dAPI_38 : decode jdk_68_method_32_code 38 = .ok (.iload_n 2, 1) := by decide +kernel
theorem dAPI_39 : decode jdk_68_method_32_code 39 = .ok (.iload_n 3, 1) := by decide +kernel
theorem dAPI_40 : decode jdk_68_method_32_code 40 = .ok (.aload_n 0, 1) := by decide +kernel
theorem dAPI_41 : decode jdk_68_method_32_code 41 = .ok (.getfield 15, 3) := by decide +kernel
theorem dAPI_44 : decode jdk_68_method_32_code 44 = .ok (.invokestatic 251, 3) := by decide +kernel
theorem dAPI_47 : decode jdk_68_method_32_code 47 = .ok (.pop, 1) := by decide +kernel
theorem dAPI_48 : decode jdk_68_method_32_code 48 = .ok (.aload_n 0, 1) := by decide +kernel
theorem dAPI_49 : decode jdk_68_method_32_code 49 = .ok (.iload_n 3, 1) := by decide +kernel
theorem dAPI_50 : decode jdk_68_method_32_code 50 = .ok (.putfield 79, 3) := by decide +kernel
theorem dAPI_53 : decode jdk_68_method_32_code 53 = .ok (.aload_n 0, 1) := by decide +kernel
theorem dAPI_54 : decode jdk_68_method_32_code 54 = .ok (.areturn, 1) := by decide +kernel
theorem pnAPI : plainFor (⟨"java/lang/AbstractStringBuilder", "append", "(I)Ljava/lang/AbstractStringBuilder;"⟩ : MethodName) = true := plainFor_of_name (by first | (simp [plainName, overriddenIn]; done) | decide +kernel)
set_option maxRecDepth 65536 in
set_option maxHeartbeats 40000000 in
theorem con_API (hw : ∀ d ∈ tables_1, d.before a0 Z = true) {cz : Int32} (hc : Compact Z cz) {o1 o2 : Addr} (Dg : Dig Z o1 o2) {us : List UInt16} (hlu : lat us = true) {x : Int32} {b v : Addr} {C N : Nat} (B : SB Z h b v us C) (hN : 2 * max (us.length + (dec x.toInt).length) (2 * C + 2) ≤ N) (hN2 : N ≤ 67108864) (hb : b ∈ mine) (hv : v ∈ mine) :
    Con (⟨"java/lang/AbstractStringBuilder", "append", "(I)Ljava/lang/AbstractStringBuilder;"⟩ : MethodName) jdk_68_method_32_code 4 (some (.object "java/lang/AbstractStringBuilder")) { frames := 4, cells := 1, slots := N, locals := 63 } Z LT [] #[.ref b, .int x] h [b, v] mine (ApQ Z (us ++ dec x.toInt) b v h.size C mine) := by
  have hcap := B.cap
  obtain ⟨pad, B, hlen⟩ := B
  refine Con.of pnAPI (Ls := [.val (.ref b), .val (.int x), .unset, .unset]) (fun m => by first | (simp [entryFrame, mkF, argsToLocals, Value.category]; done) | (simp [entryFrame, mkF, argsToLocals, Value.category, maxLocals]; done) | rfl) ?_
  refine WP.aloadN (pc' := 1) dAPI_0 rfl rfl rfl ?_
  refine WP.getfield (pc' := 4) (host := "") dAPI_1 (Or.inl (hw _ (List.mem_of_getElem? (i := 99) rfl))) Via.refl B.2.2.2.1 rfl ?_
  refine WP.istoreN (pc' := 5) dAPI_4 rfl rfl rfl ?_
  dsimp only [List.set]
  refine WP.iloadN (pc' := 6) dAPI_5 rfl rfl ?_
  refine WP.iloadN (pc' := 7) dAPI_6 rfl rfl ?_
  refine WP.callS (pc' := 10) (con_ISZ hw) (hw _ (List.mem_of_getElem? (i := 187) rfl)) (hw _ (List.mem_of_getElem? (i := 188) rfl)) (hw _ (List.mem_of_getElem? (i := 176) rfl)) (hw _ (List.mem_of_getElem? (i := 189) rfl)) dAPI_7 (by decide) pdx12 rfl rfl rfl (by first | exact Nat.le_of_ble_eq_true rfl | omega | (simp; done) | (simp; omega) | (dsimp only; omega)) (by first | exact Nat.le_of_ble_eq_true rfl | omega | (simp; done) | (simp; omega) | (dsimp only; omega)) (by first | exact Nat.le_of_ble_eq_true rfl | omega | (simp; done) | (simp; omega) | (dsimp only; omega)) (by first | exact Nat.le_of_ble_eq_true rfl | omega | (simp; done) | (simp; omega) | (dsimp only; omega)) (fun _ hx => nomatch hx) rfl ?_
  rintro w h nw K hnw ⟨rfl, rfl, rfl⟩
  dsimp only [Option.toList, List.cons_append, List.nil_append]
  refine WP.iadd (pc' := 11) dAPI_10 rfl ?_
  rw [n32_add]
  refine WP.istoreN (pc' := 12) dAPI_11 rfl rfl rfl ?_
  dsimp only [List.set]
  refine WP.aloadN (pc' := 13) dAPI_12 rfl rfl rfl ?_
  refine WP.iloadN (pc' := 14) dAPI_13 rfl rfl ?_
  refine WP.callPn (pc' := 17) (con_ECI hw (C := C) (m := us.length + (dec x.toInt).length) (N := N) B (cc_of hlen) rfl hN hN2 hb) B.1.cell (hw _ (List.mem_of_getElem? (i := 101) rfl)) (hw _ (List.mem_of_getElem? (i := 102) rfl)) (hw _ (List.mem_of_getElem? (i := 103) rfl)) (fun s hs => (ni_sel (y := ({ cls := "java/lang/AbstractStringBuilder", name := "ensureCapacityInternal", desc := "(I)V" } : Jvm.MethodName)) (args := #[]) (mv hs (hw _ (List.mem_of_getElem? (i := 104) rfl))))) (hw _ (List.mem_of_getElem? (i := 71) rfl)) (hw _ (List.mem_of_getElem? (i := 105) rfl)) dAPI_14 (by decide) pdx18 rfl rfl rfl (by first | exact Nat.le_of_ble_eq_true rfl | omega | (simp; done) | (simp; omega) | (dsimp only; omega)) (by first | exact Nat.le_of_ble_eq_true rfl | omega | (simp; done) | (simp; omega) | (dsimp only; omega)) (by first | exact Nat.le_of_ble_eq_true rfl | omega | (simp; done) | (simp; omega) | (dsimp only; omega)) (by first | exact Nat.le_of_ble_eq_true rfl | omega | (simp; done) | (simp; omega) | (dsimp only; omega)) (fun x hx => by cases List.mem_singleton.mp hx; exact Or.inl (by simp)) rfl ?_
  rintro w h1 nw K1 hnw1 ⟨rfl, v', C', zs, hv', B1, hcc, hle, hCC⟩
  dsimp only [Option.toList, List.nil_append]
  rw [List.append_assoc] at B1 hcc
  have hlen1 := cc_to hcc
  have hvm : v' ∈ nw ++ mine := by
    rcases hv' with ⟨rfl, rfl⟩ | rfl
    · exact hv
    · simp
  have hvw : v' ∈ [b, v] ∨ h.size ≤ v' := by
    rcases hv' with ⟨rfl, rfl⟩ | rfl
    · exact Or.inl (by simp)
    · exact Or.inr (hnw1 _ (by simp))
  have hbm : b ∈ nw ++ mine := List.mem_append.mpr (Or.inr hb)
  rw [byt_lat hlu, cod_lat hlu] at B1
  rw [byt_lat hlu, wid_lat hlu, Nat.one_mul] at hlen1
  refine WP.aloadN (pc' := 18) dAPI_17 rfl rfl rfl ?_
  refine WP.callV (pc' := 21) (con_SBL hw hc B1.2.2.1) B1.1 (hw _ (List.mem_of_getElem? (i := 165) rfl)) (hw _ (List.mem_of_getElem? (i := 166) rfl)) (fun s hs => notFace_of_selects (args := #[]) (mv hs (hw _ (List.mem_of_getElem? (i := 168) rfl)))) (hw _ (List.mem_of_getElem? (i := 168) rfl)) (hw _ (List.mem_of_getElem? (i := 167) rfl)) (hw _ (List.mem_of_getElem? (i := 71) rfl)) (hw _ (List.mem_of_getElem? (i := 169) rfl)) dAPI_18 (by decide) pdx7 rfl rfl rfl (by first | exact Nat.le_of_ble_eq_true rfl | omega | (simp; done) | (simp; omega) | (dsimp only; omega)) (by first | exact Nat.le_of_ble_eq_true rfl | omega | (simp; done) | (simp; omega) | (dsimp only; omega)) (by first | exact Nat.le_of_ble_eq_true rfl | omega | (simp; done) | (simp; omega) | (dsimp only; omega)) (by first | exact Nat.le_of_ble_eq_true rfl | omega | (simp; done) | (simp; omega) | (dsimp only; omega)) (fun _ hx => nomatch hx) rfl ?_
  rintro w h2 nw2 K2 hnw2 ⟨rfl, rfl, rfl⟩
  dsimp only [Option.toList, List.cons_append, List.nil_append]
  rw [if_pos rfl]
  refine WP.ifF (pc' := 24) dAPI_21 rfl (show ¬ (1 : Int32) = 0 by decide) ?_
  obtain ⟨E, Fv, Fc, Fn, M, A, X, nbv, hfx⟩ := B1
  refine WP.iloadN (pc' := 25) dAPI_24 rfl rfl ?_
  refine WP.iloadN (pc' := 26) dAPI_25 rfl rfl ?_
  refine WP.aloadN (pc' := 27) dAPI_26 rfl rfl rfl ?_
  refine WP.getfield (pc' := 30) (host := "") dAPI_27 (Or.inl (hw _ (List.mem_of_getElem? (i := 75) rfl))) Via.refl Fv rfl ?_
  have hdl : us.length + (dec x.toInt).length ≤ (us.map lo8 ++ (pad ++ zs)).length := by rw [hlen1]; exact hle
  refine WP.callS (pc' := 33) (con_GCI hw Dg (xs := us.map lo8 ++ (pad ++ zs)) (e := us.length + (dec x.toInt).length) hdl (by omega) hvm A) (hw _ (List.mem_of_getElem? (i := 190) rfl)) (hw _ (List.mem_of_getElem? (i := 191) rfl)) (hw _ (List.mem_of_getElem? (i := 176) rfl)) (hw _ (List.mem_of_getElem? (i := 192) rfl)) dAPI_30 (by decide) pdx26 rfl rfl rfl (by first | exact Nat.le_of_ble_eq_true rfl | omega | (simp; done) | (simp; omega) | (dsimp only; omega)) (by first | exact Nat.le_of_ble_eq_true rfl | omega | (simp; done) | (simp; omega) | (dsimp only; omega)) (by first | exact Nat.le_of_ble_eq_true rfl | omega | (simp; done) | (simp; omega) | (dsimp only; omega)) (by first | exact Nat.le_of_ble_eq_true rfl | omega | (simp; done) | (simp; omega) | (dsimp only; omega)) (fun x hx => by cases List.mem_singleton.mp hx; exact hvw) rfl ?_
  rintro w h3 nw3 K3 hnw3 ⟨rfl, ⟨r, rfl⟩, A3⟩
  dsimp only [Option.toList, List.nil_append, List.cons_append]
  have nb : b ∉ [v'] := fun q => nbv (List.mem_singleton.mp q)
  refine WP.pop (pc' := 34) dAPI_33 rfl rfl ?_
  refine WP.goto (pc' := 48) dAPI_34 (by decide) (by decide) ?_
  refine WP.aloadN (pc' := 49) dAPI_48 rfl rfl rfl ?_
  refine WP.iloadN (pc' := 50) dAPI_49 rfl rfl ?_
  refine WP.putfield (pc' := 53) (host := "") dAPI_50 (Or.inl (hw _ (List.mem_of_getElem? (i := 99) rfl))) Via.refl (Fn.keep K3 nb) (E.keep K3) (Or.inl (hw _ (List.mem_of_getElem? (i := 100) rfl))) (hw _ (List.mem_of_getElem? (i := 62) rfl)) (ty := .int) (by decide) rfl rfl hbm (Or.inl (by simp)) rfl ?_
  intro h4 W4 G4 E4
  refine WP.aloadN (pc' := 54) dAPI_53 rfl rfl rfl ?_
  have hl2 : lat (us ++ dec x.toInt) = true := by rw [lat_app2, hlu, lat_dec]; rfl
  have eo : out (us.map lo8 ++ (pad ++ zs)) (us.length + (dec x.toInt).length) (dec x.toInt) = byt (us ++ dec x.toInt) ++ (us.map lo8 ++ (pad ++ zs)).drop (us.length + (dec x.toInt).length) := by
    unfold out
    rw [Nat.add_sub_cancel, byt_lat hl2, List.map_append, List.take_left' (by simp), List.append_assoc]
  rw [eo] at A3
  refine WP.areturn (nw := nw) dAPI_54 rfl rfl rfl ⟨rfl, v', C', hvm, hvw.imp (fun q => (List.mem_cons.mp q).elim (fun z => absurd z.symm nbv) (fun z => List.mem_singleton.mp z)) id, ⟨_, ⟨E4, (Fv.keep K3 nb).other W4 (Or.inr (s_vn hw)), by rw [cod_lat hl2]; exact (Fc.keep K3 nb).other W4 (Or.inr (s_cn hw)), by rw [List.length_append]; exact G4, (M.keep K3 nb).wn hw W4, A3.other W4 (Ne.symm nbv), (X.keep K3).wr W4, nbv, app_fits byt_fits (fun x hx => hfx x (List.mem_of_mem_drop hx))⟩, ?_⟩, by rw [List.length_append]; exact hle, by rw [List.length_append]; exact hCC⟩ (fun x hx => ⟨List.mem_append.mpr (Or.inl hx), hnw1 x hx⟩) (fun x hx => List.mem_append.mpr (Or.inr hx)) (by dsimp only; omega) (by dsimp only; omega)
  rw [byt_lat hl2, wid_lat hl2, Nat.one_mul, ← hlen1]
  simp only [List.length_append, List.length_map, List.length_drop] at hdl ⊢
  omega
theorem dSAI_0 : decode jdk_67_method_15_code 0 = .ok (.aload_n 0, 1) := by decide +kernel
theorem dSAI_1 : decode jdk_67_method_15_code 1 = .ok (.iload_n 1, 1) := by decide +kernel
theorem dSAI_2 : decode jdk_67_method_15_code 2 = .ok (.invokespecial 53, 3) := by decide +kernel
theorem dSAI_5 : decode jdk_67_method_15_code 5 = .ok (.pop, 1) := by decide +kernel
theorem dSAI_6 : decode jdk_67_method_15_code 6 = .ok (.aload_n 0, 1) := by decide +kernel
theorem dSAI_7 : decode jdk_67_method_15_code 7 = .ok (.areturn, 1) := by decide +kernel
theorem pnSAI : plainFor (⟨"java/lang/StringBuilder", "append", "(I)Ljava/lang/StringBuilder;"⟩ : MethodName) = true := plainFor_of_name (by first | (simp [plainName, overriddenIn]; done) | decide +kernel)
set_option maxRecDepth 65536 in
set_option maxHeartbeats 40000000 in
theorem con_SAI (hw : ∀ d ∈ tables_1, d.before a0 Z = true) {cz : Int32} (hc : Compact Z cz) {o1 o2 : Addr} (Dg : Dig Z o1 o2) {us : List UInt16} (hlu : lat us = true) {x : Int32} {b v : Addr} {C N : Nat} (B : SB Z h b v us C) (hN : 2 * max (us.length + (dec x.toInt).length) (2 * C + 2) ≤ N) (hN2 : N ≤ 67108864) (hb : b ∈ mine) (hv : v ∈ mine) :
    Con (⟨"java/lang/StringBuilder", "append", "(I)Ljava/lang/StringBuilder;"⟩ : MethodName) jdk_67_method_15_code 2 (some (.object "java/lang/StringBuilder")) { frames := 5, cells := 1, slots := N, locals := 79 } Z LT [] #[.ref b, .int x] h [b, v] mine (ApQ Z (us ++ dec x.toInt) b v h.size C mine) := by
  refine Con.of pnSAI (Ls := [.val (.ref b), .val (.int x)]) (fun m => by first | (simp [entryFrame, mkF, argsToLocals, Value.category]; done) | (simp [entryFrame, mkF, argsToLocals, Value.category, maxLocals]; done) | rfl) ?_
  refine WP.aloadN (pc' := 1) dSAI_0 rfl rfl rfl ?_
  refine WP.iloadN (pc' := 2) dSAI_1 rfl rfl ?_
  refine WP.callSup (pc' := 5) (con_API hw hc Dg hlu (x := x) B hN hN2 hb hv) B.exa (hw _ (List.mem_of_getElem? (i := 183) rfl)) (hw _ (List.mem_of_getElem? (i := 184) rfl)) (hw _ (List.mem_of_getElem? (i := 86) rfl)) (ni_sel (y := ({ cls := "java/lang/AbstractStringBuilder", name := "ensureCapacityInternal", desc := "(I)V" } : Jvm.MethodName)) (hw _ (List.mem_of_getElem? (i := 104) rfl))) (by decide) (hw _ (List.mem_of_getElem? (i := 71) rfl)) (hw _ (List.mem_of_getElem? (i := 186) rfl)) dSAI_2 (by decide) pdx27 rfl rfl rfl (by first | exact Nat.le_of_ble_eq_true rfl | omega | (simp; done) | (simp; omega) | (dsimp only; omega)) (by first | exact Nat.le_of_ble_eq_true rfl | omega | (simp; done) | (simp; omega) | (dsimp only; omega)) (by first | exact Nat.le_of_ble_eq_true rfl | omega | (simp; done) | (simp; omega) | (dsimp only; omega)) (by first | exact Nat.le_of_ble_eq_true rfl | omega | (simp; done) | (simp; omega) | (dsimp only; omega)) (fun x hx => Or.inl hx) rfl ?_
  rintro w h1 nw K1 hnw1 ⟨rfl, v', C', q⟩
  dsimp only [Option.toList, List.nil_append, List.cons_append]
  refine WP.pop (pc' := 6) dSAI_5 rfl rfl ?_
  refine WP.aloadN (pc' := 7) dSAI_6 rfl rfl rfl ?_
  exact WP.areturn (nw := nw) dSAI_7 rfl rfl rfl ⟨rfl, v', C', q⟩ (fun x hx => ⟨List.mem_append.mpr (Or.inl hx), hnw1 x hx⟩) (fun x hx => List.mem_append.mpr (Or.inr hx)) (by dsimp only; omega) (by dsimp only; omega)
end JdkNum
end Jvm.Pilot.@@N@@

namespace Jvm.Pilot.@@N@@
open Jvm Jvm.ClassFile Sem Op Lib Jvm.Free Jvm.Stand Jvm.LawKit Jvm.RoadKit Bundle Jvm.Pilot.@@N@@.Jvm.D Jvm.OwnW
theorem pdx28 : parseMethodDescriptor "(I)C" = some ⟨[.int], some .char⟩ := by decide +kernel
theorem pdx29 : parseMethodDescriptor "(Ljava/lang/String;IJ)Z" = some ⟨[(.object "java/lang/String"), .int, .long], some .boolean⟩ := by decide +kernel
theorem pdx30 : parseMethodDescriptor "()V" = some ⟨[], none⟩ := by decide +kernel
theorem pdx31 : parseMethodDescriptor "(Ljava/lang/Object;Ljava/lang/String;)Ljava/lang/Object;" = some ⟨[(.object "java/lang/Object"), (.object "java/lang/String")], some (.object "java/lang/Object")⟩ := by decide +kernel
theorem pdx32 : parseMethodDescriptor "(Ljava/lang/String;)Ljava/lang/StringBuilder;" = some ⟨[(.object "java/lang/String")], some (.object "java/lang/StringBuilder")⟩ := by decide +kernel
theorem pdx33 : parseMethodDescriptor "(J)Ljava/lang/StringBuilder;" = some ⟨[.long], some (.object "java/lang/StringBuilder")⟩ := by decide +kernel
theorem pdx34 : parseMethodDescriptor "(I)Ljava/lang/StringBuilder;" = some ⟨[.int], some (.object "java/lang/StringBuilder")⟩ := by decide +kernel
theorem pdx35 : parseMethodDescriptor "()Ljava/lang/String;" = some ⟨[], some (.object "java/lang/String")⟩ := by decide +kernel
theorem pdx36 : parseMethodDescriptor "([C)V" = some ⟨[(.array .char)], none⟩ := by decide +kernel
theorem pdx37 : parseMethodDescriptor "(Ljava/lang/String;JI)V" = some ⟨[(.object "java/lang/String"), .long, .int], none⟩ := by decide +kernel
section LawBodies
variable {Z : State} {a0 : Array Value} {h : Heap} {mine : List Addr}
theorem dDGT_0 : decode method_2_code 0 = .ok (.iconst 1, 1) := by decide +kernel
theorem dDGT_1 : decode method_2_code 1 = .ok (.istore_n 2, 1) := by decide +kernel
theorem dDGT_2 : decode method_2_code 2 = .ok (.lload_n 0, 1) := by decide +kernel
theorem dDGT_3 : decode method_2_code 3 = .ok (.ldc2_w 7, 3) := by decide +kernel
theorem dDGT_6 : decode method_2_code 6 = .ok (.lcmp, 1) := by decide +kernel
theorem dDGT_7 : decode method_2_code 7 = .ok (.ifCond .gt 5, 3) := by decide +kernel
theorem dDGT_10 : decode method_2_code 10 = .ok (.iconst 2, 1) := by decide +kernel
theorem dDGT_11 : decode method_2_code 11 = .ok (.istore_n 2, 1) := by decide +kernel
theorem dDGT_12 : decode method_2_code 12 = .ok (.lload_n 0, 1) := by decide +kernel
theorem dDGT_13 : decode method_2_code 13 = .ok (.ldc2_w 9, 3) := by decide +kernel
theorem dDGT_16 : decode method_2_code 16 = .ok (.lcmp, 1) := by decide +kernel
theorem dDGT_17 : decode method_2_code 17 = .ok (.ifCond .gt 5, 3) := by decide +kernel
theorem dDGT_20 : decode method_2_code 20 = .ok (.iconst 3, 1) := by decide +kernel
theorem dDGT_21 : decode method_2_code 21 = .ok (.istore_n 2, 1) := by decide +kernel
theorem dDGT_22 : decode method_2_code 22 = .ok (.lload_n 0, 1) := by decide +kernel
theorem dDGT_23 : decode method_2_code 23 = .ok (.ldc2_w 11, 3) := by decide +kernel
theorem dDGT_26 : decode method_2_code 26 = .ok (.lcmp, 1) := by decide +kernel
theorem dDGT_27 : decode method_2_code 27 = .ok (.ifCond .gt 5, 3) := by decide +kernel
theorem dDGT_30 : decode method_2_code 30 = .ok (.iconst 4, 1) := by decide +kernel
theorem dDGT_31 : decode method_2_code 31 = .ok (.istore_n 2, 1) := by decide +kernel
theorem dDGT_32 : decode method_2_code 32 = .ok (.lload_n 0, 1) := by decide +kernel
theorem dDGT_33 : decode method_2_code 33 = .ok (.ldc2_w 13, 3) := by decide +kernel
theorem dDGT_36 : decode method_2_code 36 = .ok (.lcmp, 1) := by decide +kernel
theorem dDGT_37 : decode method_2_code 37 = .ok (.ifCond .gt 5, 3) := by decide +kernel
theorem dDGT_40 : decode method_2_code 40 = .ok (.iconst 5, 1) := by decide +kernel
theorem dDGT_41 : decode method_2_code 41 = .ok (.istore_n 2, 1) := by decide +kernel
theorem dDGT_42 : decode method_2_code 42 = .ok (.lload_n 0, 1) := by decide +kernel
theorem dDGT_43 : decode method_2_code 43 = .ok (.ldc2_w 15, 3) := by decide +kernel
theorem dDGT_46 : decode method_2_code 46 = .ok (.lcmp, 1) := by decide +kernel
theorem dDGT_47 : decode method_2_code 47 = .ok (.ifCond .gt 6, 3) := by decide +kernel
theorem dDGT_50 : decode method_2_code 50 = .ok (.bipush 6, 2) := by decide +kernel
theorem dDGT_52 : decode method_2_code 52 = .ok (.istore_n 2, 1) := by decide +kernel
theorem dDGT_53 : decode method_2_code 53 = .ok (.lload_n 0, 1) := by decide +kernel
theorem dDGT_54 : decode method_2_code 54 = .ok (.ldc2_w 17, 3) := by decide +kernel
theorem dDGT_57 : decode method_2_code 57 = .ok (.lcmp, 1) := by decide +kernel
theorem dDGT_58 : decode method_2_code 58 = .ok (.ifCond .gt 6, 3) := by decide +kernel
theorem dDGT_61 : decode method_2_code 61 = .ok (.bipush 7, 2) := by decide +kernel
theorem dDGT_63 : decode method_2_code 63 = .ok (.istore_n 2, 1) := by decide +kernel
theorem dDGT_64 : decode method_2_code 64 = .ok (.lload_n 0, 1) := by decide +kernel
theorem dDGT_65 : decode method_2_code 65 = .ok (.ldc2_w 19, 3) := by decide +kernel
theorem dDGT_68 : decode method_2_code 68 = .ok (.lcmp, 1) := by decide +kernel
theorem dDGT_69 : decode method_2_code 69 = .ok (.ifCond .gt 6, 3) := by decide +kernel
theorem dDGT_72 : decode method_2_code 72 = .ok (.bipush 8, 2) := by decide +kernel
theorem dDGT_74 : decode method_2_code 74 = .ok (.istore_n 2, 1) := by decide +kernel
theorem dDGT_75 : decode method_2_code 75 = .ok (.lload_n 0, 1) := by decide +kernel
theorem dDGT_76 : decode method_2_code 76 = .ok (.ldc2_w 21, 3) := by decide +kernel
theorem dDGT_79 : decode method_2_code 79 = .ok (.lcmp, 1) := by decide +kernel
theorem dDGT_80 : decode method_2_code 80 = .ok (.ifCond .gt 6, 3) := by decide +kernel
theorem dDGT_83 : decode method_2_code 83 = .ok (.bipush 9, 2) := by decide +kernel
theorem dDGT_85 : decode method_2_code 85 = .ok (.istore_n 2, 1) := by decide +kernel
theorem dDGT_86 : decode method_2_code 86 = .ok (.lload_n 0, 1) := by decide +kernel
theorem dDGT_87 : decode method_2_code 87 = .ok (.ldc2_w 23, 3) := by decide +kernel
theorem dDGT_90 : decode method_2_code 90 = .ok (.lcmp, 1) := by decide +kernel
theorem dDGT_91 : decode method_2_code 91 = .ok (.ifCond .gt 6, 3) := by decide +kernel
theorem dDGT_94 : decode method_2_code 94 = .ok (.bipush 10, 2) := by decide +kernel
theorem dDGT_96 : decode method_2_code 96 = .ok (.istore_n 2, 1) := by decide +kernel
theorem dDGT_97 : decode method_2_code 97 = .ok (.lload_n 0, 1) := by decide +kernel
theorem dDGT_98 : decode method_2_code 98 = .ok (.ldc2_w 25, 3) := by decide +kernel
theorem dDGT_101 : decode method_2_code 101 = .ok (.lcmp, 1) := by decide +kernel
theorem dDGT_102 : decode method_2_code 102 = .ok (.ifCond .gt 6, 3) := by decide +kernel
theorem dDGT_105 : decode method_2_code 105 = .ok (.bipush 11, 2) := by decide +kernel
theorem dDGT_107 : decode method_2_code 107 = .ok (.istore_n 2, 1) := by decide +kernel
theorem dDGT_108 : decode method_2_code 108 = .ok (.lload_n 0, 1) := by decide +kernel
theorem dDGT_109 : decode method_2_code 109 = .ok (.ldc2_w 27, 3) := by decide +kernel
theorem dDGT_112 : decode method_2_code 112 = .ok (.lcmp, 1) := by decide +kernel
theorem dDGT_113 : decode method_2_code 113 = .ok (.ifCond .gt 6, 3) := by decide +kernel
theorem dDGT_116 : decode method_2_code 116 = .ok (.bipush 12, 2) := by decide +kernel
theorem dDGT_118 : decode method_2_code 118 = .ok (.istore_n 2, 1) := by decide +kernel
theorem dDGT_119 : decode method_2_code 119 = .ok (.lload_n 0, 1) := by decide +kernel
theorem dDGT_120 : decode method_2_code 120 = .ok (.ldc2_w 29, 3) := by decide +kernel
theorem dDGT_123 : decode method_2_code 123 = .ok (.lcmp, 1) := by decide +kernel
theorem dDGT_124 : decode method_2_code 124 = .ok (.ifCond .gt 6, 3) := by decide +kernel
theorem dDGT_127 : decode method_2_code 127 = .ok (.bipush 13, 2) := by decide +kernel
theorem dDGT_129 : decode method_2_code 129 = .ok (.istore_n 2, 1) := by decide +kernel
theorem dDGT_130 : decode method_2_code 130 = .ok (.lload_n 0, 1) := by decide +kernel
theorem dDGT_131 : decode method_2_code 131 = .ok (.ldc2_w 31, 3) := by decide +kernel
theorem dDGT_134 : decode method_2_code 134 = .ok (.lcmp, 1) := by decide +kernel
theorem dDGT_135 : decode method_2_code 135 = .ok (.ifCond .gt 6, 3) := by decide +kernel
theorem dDGT_138 : decode method_2_code 138 = .ok (.bipush 14, 2) := by decide +kernel
theorem dDGT_140 : decode method_2_code 140 = .ok (.istore_n 2, 1) := by decide +kernel
theorem dDGT_141 : decode method_2_code 141 = .ok (.lload_n 0, 1) := by decide +kernel
theorem dDGT_142 : decode method_2_code 142 = .ok (.ldc2_w 33, 3) := by decide +kernel
theorem dDGT_145 : decode method_2_code 145 = .ok (.lcmp, 1) := by decide +kernel
theorem dDGT_146 : decode method_2_code 146 = .ok (.ifCond .gt 6, 3) := by decide +kernel
theorem dDGT_149 : decode method_2_code 149 = .ok (.bipush 15, 2) := by decide +kernel
theorem dDGT_151 : decode method_2_code 151 = .ok (.istore_n 2, 1) := by decide +kernel
theorem dDGT_152 : decode method_2_code 152 = .ok (.lload_n 0, 1) := by decide +kernel
theorem dDGT_153 : decode method_2_code 153 = .ok (.ldc2_w 35, 3) := by decide +kernel
theorem dDGT_156 : decode method_2_code 156 = .ok (.lcmp, 1) := by decide +kernel
theorem dDGT_157 : decode method_2_code 157 = .ok (.ifCond .gt 6, 3) := by decide +kernel
theorem dDGT_160 : decode method_2_code 160 = .ok (.bipush 16, 2) := by decide +kernel
theorem dDGT_162 : decode method_2_code 162 = .ok (.istore_n 2, 1) := by decide +kernel
theorem dDGT_163 : decode method_2_code 163 = .ok (.lload_n 0, 1) := by decide +kernel
theorem dDGT_164 : decode method_2_code 164 = .ok (.ldc2_w 37, 3) := by decide +kernel
theorem dDGT_167 : decode method_2_code 167 = .ok (.lcmp, 1) := by decide +kernel
theorem dDGT_168 : decode method_2_code 168 = .ok (.ifCond .gt 6, 3) := by decide +kernel
theorem dDGT_171 : decode method_2_code 171 = .ok (.bipush 17, 2) := by decide +kernel
theorem dDGT_173 : decode method_2_code 173 = .ok (.istore_n 2, 1) := by decide +kernel
theorem dDGT_174 : decode method_2_code 174 = .ok (.lload_n 0, 1) := by decide +kernel
theorem dDGT_175 : decode method_2_code 175 = .ok (.ldc2_w 39, 3) := by decide +kernel
theorem dDGT_178 : decode method_2_code 178 = .ok (.lcmp, 1) := by decide +kernel
theorem dDGT_179 : decode method_2_code 179 = .ok (.ifCond .gt 6, 3) := by decide +kernel
theorem dDGT_182 : decode method_2_code 182 = .ok (.bipush 18, 2) := by decide +kernel
theorem dDGT_184 : decode method_2_code 184 = .ok (.istore_n 2, 1) := by decide +kernel
theorem dDGT_185 : decode method_2_code 185 = .ok (.lload_n 0, 1) := by decide +kernel
theorem dDGT_186 : decode method_2_code 186 = .ok (.ldc2_w 41, 3) := by decide +kernel
theorem dDGT_189 : decode method_2_code 189 = .ok (.lcmp, 1) := by decide +kernel
theorem dDGT_190 : decode method_2_code 190 = .ok (.ifCond .gt 6, 3) := by decide +kernel
theorem dDGT_193 : decode method_2_code 193 = .ok (.bipush 19, 2) := by decide +kernel
theorem dDGT_195 : decode method_2_code 195 = .ok (.istore_n 2, 1) := by decide +kernel
theorem dDGT_196 : decode method_2_code 196 = .ok (.iload_n 2, 1) := by decide +kernel
theorem dDGT_197 : decode method_2_code 197 = .ok (.ireturn, 1) := by decide +kernel
theorem pnDGT : plainFor (⟨"com/example/orunmila/orunmila/LocationToStringPinLaw", "digits", "(J)I"⟩ : MethodName) = true := plainFor_of_name (by first | (simp [plainName, overriddenIn]; done) | decide +kernel)
set_option maxRecDepth 65536 in
set_option maxHeartbeats 40000000 in
theorem step_DGT1 (hw : ∀ d ∈ tables_1, d.before a0 Z = true) {n : Int64} {M : Nat} (hn : n.toInt = -(M : Int)) (K : WP "com/example/orunmila/orunmila/LocationToStringPinLaw" method_2_code 3 (some .int) "digits" R0 Z LT h [] mine (fun v h' nw => nw = [] ∧ v = some (.int (Int32.ofNat (digs M).length)) ∧ h' = h) mine 0 0 h 12 [.val (.long n), .second, .val (.int (Int32.ofNat (min (digs M).length 2)))] []) :
    WP "com/example/orunmila/orunmila/LocationToStringPinLaw" method_2_code 3 (some .int) "digits" R0 Z LT h [] mine (fun v h' nw => nw = [] ∧ v = some (.int (Int32.ofNat (digs M).length)) ∧ h' = h) mine 0 0 h 2 [.val (.long n), .second, .val (.int (Int32.ofNat (min (digs M).length 1)))] [] := by
  have e : (-10 : Int64).toInt = -10 := by decide
  have hl : (digs M).length ≤ 1 ↔ M < 10 := digs_len 0 M
  refine WP.lloadN (pc' := 3) dDGT_2 rfl rfl ?_
  refine WP.ldc2Long (pc' := 6) dDGT_3 (hw _ (List.mem_of_getElem? (i := 236) rfl)) rfl ?_
  refine WP.lcmp (pc' := 7) dDGT_6 rfl ?_
  by_cases hlt : M < 10
  · refine WP.ifT (pc' := 12) dDGT_7 (by decide) (by decide) ((lw_gt n (-10)).mpr (by rw [Int64.lt_iff_toInt_lt, hn, e]; omega)) ?_
    have := hl.mpr hlt
    rw [show min (digs M).length 1 = min (digs M).length 2 by omega]
    exact K
  · refine WP.ifF (pc' := 10) dDGT_7 rfl (fun q => by rw [lw_gt, Int64.lt_iff_toInt_lt, hn, e] at q; omega) ?_
    have h2 : 2 ≤ (digs M).length := by rcases Nat.lt_or_ge 1 (digs M).length with q | q; exact q; exact absurd (hl.mp q) hlt
    rw [show min (digs M).length 2 = 2 by omega] at K
    refine WP.iconst (pc' := 11) (x := 2) dDGT_10 (by decide) rfl ?_
    refine WP.istoreN (pc' := 12) dDGT_11 rfl rfl rfl ?_
    dsimp only [List.set]
    exact K
set_option maxRecDepth 65536 in
set_option maxHeartbeats 40000000 in
theorem step_DGT2 (hw : ∀ d ∈ tables_1, d.before a0 Z = true) {n : Int64} {M : Nat} (hn : n.toInt = -(M : Int)) (K : WP "com/example/orunmila/orunmila/LocationToStringPinLaw" method_2_code 3 (some .int) "digits" R0 Z LT h [] mine (fun v h' nw => nw = [] ∧ v = some (.int (Int32.ofNat (digs M).length)) ∧ h' = h) mine 0 0 h 22 [.val (.long n), .second, .val (.int (Int32.ofNat (min (digs M).length 3)))] []) :
    WP "com/example/orunmila/orunmila/LocationToStringPinLaw" method_2_code 3 (some .int) "digits" R0 Z LT h [] mine (fun v h' nw => nw = [] ∧ v = some (.int (Int32.ofNat (digs M).length)) ∧ h' = h) mine 0 0 h 12 [.val (.long n), .second, .val (.int (Int32.ofNat (min (digs M).length 2)))] [] := by
  have e : (-100 : Int64).toInt = -100 := by decide
  have hl : (digs M).length ≤ 2 ↔ M < 100 := digs_len 1 M
  refine WP.lloadN (pc' := 13) dDGT_12 rfl rfl ?_
  refine WP.ldc2Long (pc' := 16) dDGT_13 (hw _ (List.mem_of_getElem? (i := 237) rfl)) rfl ?_
  refine WP.lcmp (pc' := 17) dDGT_16 rfl ?_
  by_cases hlt : M < 100
  · refine WP.ifT (pc' := 22) dDGT_17 (by decide) (by decide) ((lw_gt n (-100)).mpr (by rw [Int64.lt_iff_toInt_lt, hn, e]; omega)) ?_
    have := hl.mpr hlt
    rw [show min (digs M).length 2 = min (digs M).length 3 by omega]
    exact K
  · refine WP.ifF (pc' := 20) dDGT_17 rfl (fun q => by rw [lw_gt, Int64.lt_iff_toInt_lt, hn, e] at q; omega) ?_
    have h2 : 3 ≤ (digs M).length := by rcases Nat.lt_or_ge 2 (digs M).length with q | q; exact q; exact absurd (hl.mp q) hlt
    rw [show min (digs M).length 3 = 3 by omega] at K
    refine WP.iconst (pc' := 21) (x := 3) dDGT_20 (by decide) rfl ?_
    refine WP.istoreN (pc' := 22) dDGT_21 rfl rfl rfl ?_
    dsimp only [List.set]
    exact K
set_option maxRecDepth 65536 in
set_option maxHeartbeats 40000000 in
theorem step_DGT3 (hw : ∀ d ∈ tables_1, d.before a0 Z = true) {n : Int64} {M : Nat} (hn : n.toInt = -(M : Int)) (K : WP "com/example/orunmila/orunmila/LocationToStringPinLaw" method_2_code 3 (some .int) "digits" R0 Z LT h [] mine (fun v h' nw => nw = [] ∧ v = some (.int (Int32.ofNat (digs M).length)) ∧ h' = h) mine 0 0 h 32 [.val (.long n), .second, .val (.int (Int32.ofNat (min (digs M).length 4)))] []) :
    WP "com/example/orunmila/orunmila/LocationToStringPinLaw" method_2_code 3 (some .int) "digits" R0 Z LT h [] mine (fun v h' nw => nw = [] ∧ v = some (.int (Int32.ofNat (digs M).length)) ∧ h' = h) mine 0 0 h 22 [.val (.long n), .second, .val (.int (Int32.ofNat (min (digs M).length 3)))] [] := by
  have e : (-1000 : Int64).toInt = -1000 := by decide
  have hl : (digs M).length ≤ 3 ↔ M < 1000 := digs_len 2 M
  refine WP.lloadN (pc' := 23) dDGT_22 rfl rfl ?_
  refine WP.ldc2Long (pc' := 26) dDGT_23 (hw _ (List.mem_of_getElem? (i := 238) rfl)) rfl ?_
  refine WP.lcmp (pc' := 27) dDGT_26 rfl ?_
  by_cases hlt : M < 1000
  · refine WP.ifT (pc' := 32) dDGT_27 (by decide) (by decide) ((lw_gt n (-1000)).mpr (by rw [Int64.lt_iff_toInt_lt, hn, e]; omega)) ?_
    have := hl.mpr hlt
    rw [show min (digs M).length 3 = min (digs M).length 4 by omega]
    exact K
  · refine WP.ifF (pc' := 30) dDGT_27 rfl (fun q => by rw [lw_gt, Int64.lt_iff_toInt_lt, hn, e] at q; omega) ?_
    have h2 : 4 ≤ (digs M).length := by rcases Nat.lt_or_ge 3 (digs M).length with q | q; exact q; exact absurd (hl.mp q) hlt
    rw [show min (digs M).length 4 = 4 by omega] at K
    refine WP.iconst (pc' := 31) (x := 4) dDGT_30 (by decide) rfl ?_
    refine WP.istoreN (pc' := 32) dDGT_31 rfl rfl rfl ?_
    dsimp only [List.set]
    exact K
set_option maxRecDepth 65536 in
set_option maxHeartbeats 40000000 in
theorem step_DGT4 (hw : ∀ d ∈ tables_1, d.before a0 Z = true) {n : Int64} {M : Nat} (hn : n.toInt = -(M : Int)) (K : WP "com/example/orunmila/orunmila/LocationToStringPinLaw" method_2_code 3 (some .int) "digits" R0 Z LT h [] mine (fun v h' nw => nw = [] ∧ v = some (.int (Int32.ofNat (digs M).length)) ∧ h' = h) mine 0 0 h 42 [.val (.long n), .second, .val (.int (Int32.ofNat (min (digs M).length 5)))] []) :
    WP "com/example/orunmila/orunmila/LocationToStringPinLaw" method_2_code 3 (some .int) "digits" R0 Z LT h [] mine (fun v h' nw => nw = [] ∧ v = some (.int (Int32.ofNat (digs M).length)) ∧ h' = h) mine 0 0 h 32 [.val (.long n), .second, .val (.int (Int32.ofNat (min (digs M).length 4)))] [] := by
  have e : (-10000 : Int64).toInt = -10000 := by decide
  have hl : (digs M).length ≤ 4 ↔ M < 10000 := digs_len 3 M
  refine WP.lloadN (pc' := 33) dDGT_32 rfl rfl ?_
  refine WP.ldc2Long (pc' := 36) dDGT_33 (hw _ (List.mem_of_getElem? (i := 239) rfl)) rfl ?_
  refine WP.lcmp (pc' := 37) dDGT_36 rfl ?_
  by_cases hlt : M < 10000
  · refine WP.ifT (pc' := 42) dDGT_37 (by decide) (by decide) ((lw_gt n (-10000)).mpr (by rw [Int64.lt_iff_toInt_lt, hn, e]; omega)) ?_
    have := hl.mpr hlt
    rw [show min (digs M).length 4 = min (digs M).length 5 by omega]
    exact K
  · refine WP.ifF (pc' := 40) dDGT_37 rfl (fun q => by rw [lw_gt, Int64.lt_iff_toInt_lt, hn, e] at q; omega) ?_
    have h2 : 5 ≤ (digs M).length := by rcases Nat.lt_or_ge 4 (digs M).length with q | q; exact q; exact absurd (hl.mp q) hlt
    rw [show min (digs M).length 5 = 5 by omega] at K
    refine WP.iconst (pc' := 41) (x := 5) dDGT_40 (by decide) rfl ?_
    refine WP.istoreN (pc' := 42) dDGT_41 rfl rfl rfl ?_
    dsimp only [List.set]
    exact K
set_option maxRecDepth 65536 in
set_option maxHeartbeats 40000000 in
theorem step_DGT5 (hw : ∀ d ∈ tables_1, d.before a0 Z = true) {n : Int64} {M : Nat} (hn : n.toInt = -(M : Int)) (K : WP "com/example/orunmila/orunmila/LocationToStringPinLaw" method_2_code 3 (some .int) "digits" R0 Z LT h [] mine (fun v h' nw => nw = [] ∧ v = some (.int (Int32.ofNat (digs M).length)) ∧ h' = h) mine 0 0 h 53 [.val (.long n), .second, .val (.int (Int32.ofNat (min (digs M).length 6)))] []) :
    WP "com/example/orunmila/orunmila/LocationToStringPinLaw" method_2_code 3 (some .int) "digits" R0 Z LT h [] mine (fun v h' nw => nw = [] ∧ v = some (.int (Int32.ofNat (digs M).length)) ∧ h' = h) mine 0 0 h 42 [.val (.long n), .second, .val (.int (Int32.ofNat (min (digs M).length 5)))] [] := by
  have e : (-100000 : Int64).toInt = -100000 := by decide
  have hl : (digs M).length ≤ 5 ↔ M < 100000 := digs_len 4 M
  refine WP.lloadN (pc' := 43) dDGT_42 rfl rfl ?_
  refine WP.ldc2Long (pc' := 46) dDGT_43 (hw _ (List.mem_of_getElem? (i := 240) rfl)) rfl ?_
  refine WP.lcmp (pc' := 47) dDGT_46 rfl ?_
  by_cases hlt : M < 100000
  · refine WP.ifT (pc' := 53) dDGT_47 (by decide) (by decide) ((lw_gt n (-100000)).mpr (by rw [Int64.lt_iff_toInt_lt, hn, e]; omega)) ?_
    have := hl.mpr hlt
    rw [show min (digs M).length 5 = min (digs M).length 6 by omega]
    exact K
  · refine WP.ifF (pc' := 50) dDGT_47 rfl (fun q => by rw [lw_gt, Int64.lt_iff_toInt_lt, hn, e] at q; omega) ?_
    have h2 : 6 ≤ (digs M).length := by rcases Nat.lt_or_ge 5 (digs M).length with q | q; exact q; exact absurd (hl.mp q) hlt
    rw [show min (digs M).length 6 = 6 by omega] at K
    refine WP.bipush (pc' := 52) (x := 6) dDGT_50 (by decide) rfl ?_
    refine WP.istoreN (pc' := 53) dDGT_52 rfl rfl rfl ?_
    dsimp only [List.set]
    exact K
set_option maxRecDepth 65536 in
set_option maxHeartbeats 40000000 in
theorem step_DGT6 (hw : ∀ d ∈ tables_1, d.before a0 Z = true) {n : Int64} {M : Nat} (hn : n.toInt = -(M : Int)) (K : WP "com/example/orunmila/orunmila/LocationToStringPinLaw" method_2_code 3 (some .int) "digits" R0 Z LT h [] mine (fun v h' nw => nw = [] ∧ v = some (.int (Int32.ofNat (digs M).length)) ∧ h' = h) mine 0 0 h 64 [.val (.long n), .second, .val (.int (Int32.ofNat (min (digs M).length 7)))] []) :
    WP "com/example/orunmila/orunmila/LocationToStringPinLaw" method_2_code 3 (some .int) "digits" R0 Z LT h [] mine (fun v h' nw => nw = [] ∧ v = some (.int (Int32.ofNat (digs M).length)) ∧ h' = h) mine 0 0 h 53 [.val (.long n), .second, .val (.int (Int32.ofNat (min (digs M).length 6)))] [] := by
  have e : (-1000000 : Int64).toInt = -1000000 := by decide
  have hl : (digs M).length ≤ 6 ↔ M < 1000000 := digs_len 5 M
  refine WP.lloadN (pc' := 54) dDGT_53 rfl rfl ?_
  refine WP.ldc2Long (pc' := 57) dDGT_54 (hw _ (List.mem_of_getElem? (i := 241) rfl)) rfl ?_
  refine WP.lcmp (pc' := 58) dDGT_57 rfl ?_
  by_cases hlt : M < 1000000
  · refine WP.ifT (pc' := 64) dDGT_58 (by decide) (by decide) ((lw_gt n (-1000000)).mpr (by rw [Int64.lt_iff_toInt_lt, hn, e]; omega)) ?_
    have := hl.mpr hlt
    rw [show min (digs M).length 6 = min (digs M).length 7 by omega]
    exact K
  · refine WP.ifF (pc' := 61) dDGT_58 rfl (fun q => by rw [lw_gt, Int64.lt_iff_toInt_lt, hn, e] at q; omega) ?_
    have h2 : 7 ≤ (digs M).length := by rcases Nat.lt_or_ge 6 (digs M).length with q | q; exact q; exact absurd (hl.mp q) hlt
    rw [show min (digs M).length 7 = 7 by omega] at K
    refine WP.bipush (pc' := 63) (x := 7) dDGT_61 (by decide) rfl ?_
    refine WP.istoreN (pc' := 64) dDGT_63 rfl rfl rfl ?_
    dsimp only [List.set]
    exact K
set_option maxRecDepth 65536 in
set_option maxHeartbeats 40000000 in
theorem step_DGT7 (hw : ∀ d ∈ tables_1, d.before a0 Z = true) {n : Int64} {M : Nat} (hn : n.toInt = -(M : Int)) (K : WP "com/example/orunmila/orunmila/LocationToStringPinLaw" method_2_code 3 (some .int) "digits" R0 Z LT h [] mine (fun v h' nw => nw = [] ∧ v = some (.int (Int32.ofNat (digs M).length)) ∧ h' = h) mine 0 0 h 75 [.val (.long n), .second, .val (.int (Int32.ofNat (min (digs M).length 8)))] []) :
    WP "com/example/orunmila/orunmila/LocationToStringPinLaw" method_2_code 3 (some .int) "digits" R0 Z LT h [] mine (fun v h' nw => nw = [] ∧ v = some (.int (Int32.ofNat (digs M).length)) ∧ h' = h) mine 0 0 h 64 [.val (.long n), .second, .val (.int (Int32.ofNat (min (digs M).length 7)))] [] := by
  have e : (-10000000 : Int64).toInt = -10000000 := by decide
  have hl : (digs M).length ≤ 7 ↔ M < 10000000 := digs_len 6 M
  refine WP.lloadN (pc' := 65) dDGT_64 rfl rfl ?_
  refine WP.ldc2Long (pc' := 68) dDGT_65 (hw _ (List.mem_of_getElem? (i := 242) rfl)) rfl ?_
  refine WP.lcmp (pc' := 69) dDGT_68 rfl ?_
  by_cases hlt : M < 10000000
  · refine WP.ifT (pc' := 75) dDGT_69 (by decide) (by decide) ((lw_gt n (-10000000)).mpr (by rw [Int64.lt_iff_toInt_lt, hn, e]; omega)) ?_
    have := hl.mpr hlt
    rw [show min (digs M).length 7 = min (digs M).length 8 by omega]
    exact K
  · refine WP.ifF (pc' := 72) dDGT_69 rfl (fun q => by rw [lw_gt, Int64.lt_iff_toInt_lt, hn, e] at q; omega) ?_
    have h2 : 8 ≤ (digs M).length := by rcases Nat.lt_or_ge 7 (digs M).length with q | q; exact q; exact absurd (hl.mp q) hlt
    rw [show min (digs M).length 8 = 8 by omega] at K
    refine WP.bipush (pc' := 74) (x := 8) dDGT_72 (by decide) rfl ?_
    refine WP.istoreN (pc' := 75) dDGT_74 rfl rfl rfl ?_
    dsimp only [List.set]
    exact K
set_option maxRecDepth 65536 in
set_option maxHeartbeats 40000000 in
theorem step_DGT8 (hw : ∀ d ∈ tables_1, d.before a0 Z = true) {n : Int64} {M : Nat} (hn : n.toInt = -(M : Int)) (K : WP "com/example/orunmila/orunmila/LocationToStringPinLaw" method_2_code 3 (some .int) "digits" R0 Z LT h [] mine (fun v h' nw => nw = [] ∧ v = some (.int (Int32.ofNat (digs M).length)) ∧ h' = h) mine 0 0 h 86 [.val (.long n), .second, .val (.int (Int32.ofNat (min (digs M).length 9)))] []) :
    WP "com/example/orunmila/orunmila/LocationToStringPinLaw" method_2_code 3 (some .int) "digits" R0 Z LT h [] mine (fun v h' nw => nw = [] ∧ v = some (.int (Int32.ofNat (digs M).length)) ∧ h' = h) mine 0 0 h 75 [.val (.long n), .second, .val (.int (Int32.ofNat (min (digs M).length 8)))] [] := by
  have e : (-100000000 : Int64).toInt = -100000000 := by decide
  have hl : (digs M).length ≤ 8 ↔ M < 100000000 := digs_len 7 M
  refine WP.lloadN (pc' := 76) dDGT_75 rfl rfl ?_
  refine WP.ldc2Long (pc' := 79) dDGT_76 (hw _ (List.mem_of_getElem? (i := 243) rfl)) rfl ?_
  refine WP.lcmp (pc' := 80) dDGT_79 rfl ?_
  by_cases hlt : M < 100000000
  · refine WP.ifT (pc' := 86) dDGT_80 (by decide) (by decide) ((lw_gt n (-100000000)).mpr (by rw [Int64.lt_iff_toInt_lt, hn, e]; omega)) ?_
    have := hl.mpr hlt
    rw [show min (digs M).length 8 = min (digs M).length 9 by omega]
    exact K
  · refine WP.ifF (pc' := 83) dDGT_80 rfl (fun q => by rw [lw_gt, Int64.lt_iff_toInt_lt, hn, e] at q; omega) ?_
    have h2 : 9 ≤ (digs M).length := by rcases Nat.lt_or_ge 8 (digs M).length with q | q; exact q; exact absurd (hl.mp q) hlt
    rw [show min (digs M).length 9 = 9 by omega] at K
    refine WP.bipush (pc' := 85) (x := 9) dDGT_83 (by decide) rfl ?_
    refine WP.istoreN (pc' := 86) dDGT_85 rfl rfl rfl ?_
    dsimp only [List.set]
    exact K
set_option maxRecDepth 65536 in
set_option maxHeartbeats 40000000 in
theorem step_DGT9 (hw : ∀ d ∈ tables_1, d.before a0 Z = true) {n : Int64} {M : Nat} (hn : n.toInt = -(M : Int)) (K : WP "com/example/orunmila/orunmila/LocationToStringPinLaw" method_2_code 3 (some .int) "digits" R0 Z LT h [] mine (fun v h' nw => nw = [] ∧ v = some (.int (Int32.ofNat (digs M).length)) ∧ h' = h) mine 0 0 h 97 [.val (.long n), .second, .val (.int (Int32.ofNat (min (digs M).length 10)))] []) :
    WP "com/example/orunmila/orunmila/LocationToStringPinLaw" method_2_code 3 (some .int) "digits" R0 Z LT h [] mine (fun v h' nw => nw = [] ∧ v = some (.int (Int32.ofNat (digs M).length)) ∧ h' = h) mine 0 0 h 86 [.val (.long n), .second, .val (.int (Int32.ofNat (min (digs M).length 9)))] [] := by
  have e : (-1000000000 : Int64).toInt = -1000000000 := by decide
  have hl : (digs M).length ≤ 9 ↔ M < 1000000000 := digs_len 8 M
  refine WP.lloadN (pc' := 87) dDGT_86 rfl rfl ?_
  refine WP.ldc2Long (pc' := 90) dDGT_87 (hw _ (List.mem_of_getElem? (i := 244) rfl)) rfl ?_
  refine WP.lcmp (pc' := 91) dDGT_90 rfl ?_
  by_cases hlt : M < 1000000000
  · refine WP.ifT (pc' := 97) dDGT_91 (by decide) (by decide) ((lw_gt n (-1000000000)).mpr (by rw [Int64.lt_iff_toInt_lt, hn, e]; omega)) ?_
    have := hl.mpr hlt
    rw [show min (digs M).length 9 = min (digs M).length 10 by omega]
    exact K
  · refine WP.ifF (pc' := 94) dDGT_91 rfl (fun q => by rw [lw_gt, Int64.lt_iff_toInt_lt, hn, e] at q; omega) ?_
    have h2 : 10 ≤ (digs M).length := by rcases Nat.lt_or_ge 9 (digs M).length with q | q; exact q; exact absurd (hl.mp q) hlt
    rw [show min (digs M).length 10 = 10 by omega] at K
    refine WP.bipush (pc' := 96) (x := 10) dDGT_94 (by decide) rfl ?_
    refine WP.istoreN (pc' := 97) dDGT_96 rfl rfl rfl ?_
    dsimp only [List.set]
    exact K
set_option maxRecDepth 65536 in
set_option maxHeartbeats 40000000 in
theorem step_DGT10 (hw : ∀ d ∈ tables_1, d.before a0 Z = true) {n : Int64} {M : Nat} (hn : n.toInt = -(M : Int)) (K : WP "com/example/orunmila/orunmila/LocationToStringPinLaw" method_2_code 3 (some .int) "digits" R0 Z LT h [] mine (fun v h' nw => nw = [] ∧ v = some (.int (Int32.ofNat (digs M).length)) ∧ h' = h) mine 0 0 h 108 [.val (.long n), .second, .val (.int (Int32.ofNat (min (digs M).length 11)))] []) :
    WP "com/example/orunmila/orunmila/LocationToStringPinLaw" method_2_code 3 (some .int) "digits" R0 Z LT h [] mine (fun v h' nw => nw = [] ∧ v = some (.int (Int32.ofNat (digs M).length)) ∧ h' = h) mine 0 0 h 97 [.val (.long n), .second, .val (.int (Int32.ofNat (min (digs M).length 10)))] [] := by
  have e : (-10000000000 : Int64).toInt = -10000000000 := by decide
  have hl : (digs M).length ≤ 10 ↔ M < 10000000000 := digs_len 9 M
  refine WP.lloadN (pc' := 98) dDGT_97 rfl rfl ?_
  refine WP.ldc2Long (pc' := 101) dDGT_98 (hw _ (List.mem_of_getElem? (i := 245) rfl)) rfl ?_
  refine WP.lcmp (pc' := 102) dDGT_101 rfl ?_
  by_cases hlt : M < 10000000000
  · refine WP.ifT (pc' := 108) dDGT_102 (by decide) (by decide) ((lw_gt n (-10000000000)).mpr (by rw [Int64.lt_iff_toInt_lt, hn, e]; omega)) ?_
    have := hl.mpr hlt
    rw [show min (digs M).length 10 = min (digs M).length 11 by omega]
    exact K
  · refine WP.ifF (pc' := 105) dDGT_102 rfl (fun q => by rw [lw_gt, Int64.lt_iff_toInt_lt, hn, e] at q; omega) ?_
    have h2 : 11 ≤ (digs M).length := by rcases Nat.lt_or_ge 10 (digs M).length with q | q; exact q; exact absurd (hl.mp q) hlt
    rw [show min (digs M).length 11 = 11 by omega] at K
    refine WP.bipush (pc' := 107) (x := 11) dDGT_105 (by decide) rfl ?_
    refine WP.istoreN (pc' := 108) dDGT_107 rfl rfl rfl ?_
    dsimp only [List.set]
    exact K
set_option maxRecDepth 65536 in
set_option maxHeartbeats 40000000 in
theorem step_DGT11 (hw : ∀ d ∈ tables_1, d.before a0 Z = true) {n : Int64} {M : Nat} (hn : n.toInt = -(M : Int)) (K : WP "com/example/orunmila/orunmila/LocationToStringPinLaw" method_2_code 3 (some .int) "digits" R0 Z LT h [] mine (fun v h' nw => nw = [] ∧ v = some (.int (Int32.ofNat (digs M).length)) ∧ h' = h) mine 0 0 h 119 [.val (.long n), .second, .val (.int (Int32.ofNat (min (digs M).length 12)))] []) :
    WP "com/example/orunmila/orunmila/LocationToStringPinLaw" method_2_code 3 (some .int) "digits" R0 Z LT h [] mine (fun v h' nw => nw = [] ∧ v = some (.int (Int32.ofNat (digs M).length)) ∧ h' = h) mine 0 0 h 108 [.val (.long n), .second, .val (.int (Int32.ofNat (min (digs M).length 11)))] [] := by
  have e : (-100000000000 : Int64).toInt = -100000000000 := by decide
  have hl : (digs M).length ≤ 11 ↔ M < 100000000000 := digs_len 10 M
  refine WP.lloadN (pc' := 109) dDGT_108 rfl rfl ?_
  refine WP.ldc2Long (pc' := 112) dDGT_109 (hw _ (List.mem_of_getElem? (i := 246) rfl)) rfl ?_
  refine WP.lcmp (pc' := 113) dDGT_112 rfl ?_
  by_cases hlt : M < 100000000000
  · refine WP.ifT (pc' := 119) dDGT_113 (by decide) (by decide) ((lw_gt n (-100000000000)).mpr (by rw [Int64.lt_iff_toInt_lt, hn, e]; omega)) ?_
    have := hl.mpr hlt
    rw [show min (digs M).length 11 = min (digs M).length 12 by omega]
    exact K
  · refine WP.ifF (pc' := 116) dDGT_113 rfl (fun q => by rw [lw_gt, Int64.lt_iff_toInt_lt, hn, e] at q; omega) ?_
    have h2 : 12 ≤ (digs M).length := by rcases Nat.lt_or_ge 11 (digs M).length with q | q; exact q; exact absurd (hl.mp q) hlt
    rw [show min (digs M).length 12 = 12 by omega] at K
    refine WP.bipush (pc' := 118) (x := 12) dDGT_116 (by decide) rfl ?_
    refine WP.istoreN (pc' := 119) dDGT_118 rfl rfl rfl ?_
    dsimp only [List.set]
    exact K
set_option maxRecDepth 65536 in
set_option maxHeartbeats 40000000 in
theorem step_DGT12 (hw : ∀ d ∈ tables_1, d.before a0 Z = true) {n : Int64} {M : Nat} (hn : n.toInt = -(M : Int)) (K : WP "com/example/orunmila/orunmila/LocationToStringPinLaw" method_2_code 3 (some .int) "digits" R0 Z LT h [] mine (fun v h' nw => nw = [] ∧ v = some (.int (Int32.ofNat (digs M).length)) ∧ h' = h) mine 0 0 h 130 [.val (.long n), .second, .val (.int (Int32.ofNat (min (digs M).length 13)))] []) :
    WP "com/example/orunmila/orunmila/LocationToStringPinLaw" method_2_code 3 (some .int) "digits" R0 Z LT h [] mine (fun v h' nw => nw = [] ∧ v = some (.int (Int32.ofNat (digs M).length)) ∧ h' = h) mine 0 0 h 119 [.val (.long n), .second, .val (.int (Int32.ofNat (min (digs M).length 12)))] [] := by
  have e : (-1000000000000 : Int64).toInt = -1000000000000 := by decide
  have hl : (digs M).length ≤ 12 ↔ M < 1000000000000 := digs_len 11 M
  refine WP.lloadN (pc' := 120) dDGT_119 rfl rfl ?_
  refine WP.ldc2Long (pc' := 123) dDGT_120 (hw _ (List.mem_of_getElem? (i := 247) rfl)) rfl ?_
  refine WP.lcmp (pc' := 124) dDGT_123 rfl ?_
  by_cases hlt : M < 1000000000000
  · refine WP.ifT (pc' := 130) dDGT_124 (by decide) (by decide) ((lw_gt n (-1000000000000)).mpr (by rw [Int64.lt_iff_toInt_lt, hn, e]; omega)) ?_
    have := hl.mpr hlt
    rw [show min (digs M).length 12 = min (digs M).length 13 by omega]
    exact K
  · refine WP.ifF (pc' := 127) dDGT_124 rfl (fun q => by rw [lw_gt, Int64.lt_iff_toInt_lt, hn, e] at q; omega) ?_
    have h2 : 13 ≤ (digs M).length := by rcases Nat.lt_or_ge 12 (digs M).length with q | q; exact q; exact absurd (hl.mp q) hlt
    rw [show min (digs M).length 13 = 13 by omega] at K
    refine WP.bipush (pc' := 129) (x := 13) dDGT_127 (by decide) rfl ?_
    refine WP.istoreN (pc' := 130) dDGT_129 rfl rfl rfl ?_
    dsimp only [List.set]
    exact K
set_option maxRecDepth 65536 in
set_option maxHeartbeats 40000000 in
theorem step_DGT13 (hw : ∀ d ∈ tables_1, d.before a0 Z = true) {n : Int64} {M : Nat} (hn : n.toInt = -(M : Int)) (K : WP "com/example/orunmila/orunmila/LocationToStringPinLaw" method_2_code 3 (some .int) "digits" R0 Z LT h [] mine (fun v h' nw => nw = [] ∧ v = some (.int (Int32.ofNat (digs M).length)) ∧ h' = h) mine 0 0 h 141 [.val (.long n), .second, .val (.int (Int32.ofNat (min (digs M).length 14)))] []) :
    WP "com/example/orunmila/orunmila/LocationToStringPinLaw" method_2_code 3 (some .int) "digits" R0 Z LT h [] mine (fun v h' nw => nw = [] ∧ v = some (.int (Int32.ofNat (digs M).length)) ∧ h' = h) mine 0 0 h 130 [.val (.long n), .second, .val (.int (Int32.ofNat (min (digs M).length 13)))] [] := by
  have e : (-10000000000000 : Int64).toInt = -10000000000000 := by decide
  have hl : (digs M).length ≤ 13 ↔ M < 10000000000000 := digs_len 12 M
  refine WP.lloadN (pc' := 131) dDGT_130 rfl rfl ?_
  refine WP.ldc2Long (pc' := 134) dDGT_131 (hw _ (List.mem_of_getElem? (i := 248) rfl)) rfl ?_
  refine WP.lcmp (pc' := 135) dDGT_134 rfl ?_
  by_cases hlt : M < 10000000000000
  · refine WP.ifT (pc' := 141) dDGT_135 (by decide) (by decide) ((lw_gt n (-10000000000000)).mpr (by rw [Int64.lt_iff_toInt_lt, hn, e]; omega)) ?_
    have := hl.mpr hlt
    rw [show min (digs M).length 13 = min (digs M).length 14 by omega]
    exact K
  · refine WP.ifF (pc' := 138) dDGT_135 rfl (fun q => by rw [lw_gt, Int64.lt_iff_toInt_lt, hn, e] at q; omega) ?_
    have h2 : 14 ≤ (digs M).length := by rcases Nat.lt_or_ge 13 (digs M).length with q | q; exact q; exact absurd (hl.mp q) hlt
    rw [show min (digs M).length 14 = 14 by omega] at K
    refine WP.bipush (pc' := 140) (x := 14) dDGT_138 (by decide) rfl ?_
    refine WP.istoreN (pc' := 141) dDGT_140 rfl rfl rfl ?_
    dsimp only [List.set]
    exact K
set_option maxRecDepth 65536 in
set_option maxHeartbeats 40000000 in
theorem step_DGT14 (hw : ∀ d ∈ tables_1, d.before a0 Z = true) {n : Int64} {M : Nat} (hn : n.toInt = -(M : Int)) (K : WP "com/example/orunmila/orunmila/LocationToStringPinLaw" method_2_code 3 (some .int) "digits" R0 Z LT h [] mine (fun v h' nw => nw = [] ∧ v = some (.int (Int32.ofNat (digs M).length)) ∧ h' = h) mine 0 0 h 152 [.val (.long n), .second, .val (.int (Int32.ofNat (min (digs M).length 15)))] []) :
    WP "com/example/orunmila/orunmila/LocationToStringPinLaw" method_2_code 3 (some .int) "digits" R0 Z LT h [] mine (fun v h' nw => nw = [] ∧ v = some (.int (Int32.ofNat (digs M).length)) ∧ h' = h) mine 0 0 h 141 [.val (.long n), .second, .val (.int (Int32.ofNat (min (digs M).length 14)))] [] := by
  have e : (-100000000000000 : Int64).toInt = -100000000000000 := by decide
  have hl : (digs M).length ≤ 14 ↔ M < 100000000000000 := digs_len 13 M
  refine WP.lloadN (pc' := 142) dDGT_141 rfl rfl ?_
  refine WP.ldc2Long (pc' := 145) dDGT_142 (hw _ (List.mem_of_getElem? (i := 249) rfl)) rfl ?_
  refine WP.lcmp (pc' := 146) dDGT_145 rfl ?_
  by_cases hlt : M < 100000000000000
  · refine WP.ifT (pc' := 152) dDGT_146 (by decide) (by decide) ((lw_gt n (-100000000000000)).mpr (by rw [Int64.lt_iff_toInt_lt, hn, e]; omega)) ?_
    have := hl.mpr hlt
    rw [show min (digs M).length 14 = min (digs M).length 15 by omega]
    exact K
  · refine WP.ifF (pc' := 149) dDGT_146 rfl (fun q => by rw [lw_gt, Int64.lt_iff_toInt_lt, hn, e] at q; omega) ?_
    have h2 : 15 ≤ (digs M).length := by rcases Nat.lt_or_ge 14 (digs M).length with q | q; exact q; exact absurd (hl.mp q) hlt
    rw [show min (digs M).length 15 = 15 by omega] at K
    refine WP.bipush (pc' := 151) (x := 15) dDGT_149 (by decide) rfl ?_
    refine WP.istoreN (pc' := 152) dDGT_151 rfl rfl rfl ?_
    dsimp only [List.set]
    exact K
set_option maxRecDepth 65536 in
set_option maxHeartbeats 40000000 in
theorem step_DGT15 (hw : ∀ d ∈ tables_1, d.before a0 Z = true) {n : Int64} {M : Nat} (hn : n.toInt = -(M : Int)) (K : WP "com/example/orunmila/orunmila/LocationToStringPinLaw" method_2_code 3 (some .int) "digits" R0 Z LT h [] mine (fun v h' nw => nw = [] ∧ v = some (.int (Int32.ofNat (digs M).length)) ∧ h' = h) mine 0 0 h 163 [.val (.long n), .second, .val (.int (Int32.ofNat (min (digs M).length 16)))] []) :
    WP "com/example/orunmila/orunmila/LocationToStringPinLaw" method_2_code 3 (some .int) "digits" R0 Z LT h [] mine (fun v h' nw => nw = [] ∧ v = some (.int (Int32.ofNat (digs M).length)) ∧ h' = h) mine 0 0 h 152 [.val (.long n), .second, .val (.int (Int32.ofNat (min (digs M).length 15)))] [] := by
  have e : (-1000000000000000 : Int64).toInt = -1000000000000000 := by decide
  have hl : (digs M).length ≤ 15 ↔ M < 1000000000000000 := digs_len 14 M
  refine WP.lloadN (pc' := 153) dDGT_152 rfl rfl ?_
  refine WP.ldc2Long (pc' := 156) dDGT_153 (hw _ (List.mem_of_getElem? (i := 250) rfl)) rfl ?_
  refine WP.lcmp (pc' := 157) dDGT_156 rfl ?_
  by_cases hlt : M < 1000000000000000
  · refine WP.ifT (pc' := 163) dDGT_157 (by decide) (by decide) ((lw_gt n (-1000000000000000)).mpr (by rw [Int64.lt_iff_toInt_lt, hn, e]; omega)) ?_
    have := hl.mpr hlt
    rw [show min (digs M).length 15 = min (digs M).length 16 by omega]
    exact K
  · refine WP.ifF (pc' := 160) dDGT_157 rfl (fun q => by rw [lw_gt, Int64.lt_iff_toInt_lt, hn, e] at q; omega) ?_
    have h2 : 16 ≤ (digs M).length := by rcases Nat.lt_or_ge 15 (digs M).length with q | q; exact q; exact absurd (hl.mp q) hlt
    rw [show min (digs M).length 16 = 16 by omega] at K
    refine WP.bipush (pc' := 162) (x := 16) dDGT_160 (by decide) rfl ?_
    refine WP.istoreN (pc' := 163) dDGT_162 rfl rfl rfl ?_
    dsimp only [List.set]
    exact K
set_option maxRecDepth 65536 in
set_option maxHeartbeats 40000000 in
theorem step_DGT16 (hw : ∀ d ∈ tables_1, d.before a0 Z = true) {n : Int64} {M : Nat} (hn : n.toInt = -(M : Int)) (K : WP "com/example/orunmila/orunmila/LocationToStringPinLaw" method_2_code 3 (some .int) "digits" R0 Z LT h [] mine (fun v h' nw => nw = [] ∧ v = some (.int (Int32.ofNat (digs M).length)) ∧ h' = h) mine 0 0 h 174 [.val (.long n), .second, .val (.int (Int32.ofNat (min (digs M).length 17)))] []) :
    WP "com/example/orunmila/orunmila/LocationToStringPinLaw" method_2_code 3 (some .int) "digits" R0 Z LT h [] mine (fun v h' nw => nw = [] ∧ v = some (.int (Int32.ofNat (digs M).length)) ∧ h' = h) mine 0 0 h 163 [.val (.long n), .second, .val (.int (Int32.ofNat (min (digs M).length 16)))] [] := by
  have e : (-10000000000000000 : Int64).toInt = -10000000000000000 := by decide
  have hl : (digs M).length ≤ 16 ↔ M < 10000000000000000 := digs_len 15 M
  refine WP.lloadN (pc' := 164) dDGT_163 rfl rfl ?_
  refine WP.ldc2Long (pc' := 167) dDGT_164 (hw _ (List.mem_of_getElem? (i := 251) rfl)) rfl ?_
  refine WP.lcmp (pc' := 168) dDGT_167 rfl ?_
  by_cases hlt : M < 10000000000000000
  · refine WP.ifT (pc' := 174) dDGT_168 (by decide) (by decide) ((lw_gt n (-10000000000000000)).mpr (by rw [Int64.lt_iff_toInt_lt, hn, e]; omega)) ?_
    have := hl.mpr hlt
    rw [show min (digs M).length 16 = min (digs M).length 17 by omega]
    exact K
  · refine WP.ifF (pc' := 171) dDGT_168 rfl (fun q => by rw [lw_gt, Int64.lt_iff_toInt_lt, hn, e] at q; omega) ?_
    have h2 : 17 ≤ (digs M).length := by rcases Nat.lt_or_ge 16 (digs M).length with q | q; exact q; exact absurd (hl.mp q) hlt
    rw [show min (digs M).length 17 = 17 by omega] at K
    refine WP.bipush (pc' := 173) (x := 17) dDGT_171 (by decide) rfl ?_
    refine WP.istoreN (pc' := 174) dDGT_173 rfl rfl rfl ?_
    dsimp only [List.set]
    exact K
set_option maxRecDepth 65536 in
set_option maxHeartbeats 40000000 in
theorem step_DGT17 (hw : ∀ d ∈ tables_1, d.before a0 Z = true) {n : Int64} {M : Nat} (hn : n.toInt = -(M : Int)) (K : WP "com/example/orunmila/orunmila/LocationToStringPinLaw" method_2_code 3 (some .int) "digits" R0 Z LT h [] mine (fun v h' nw => nw = [] ∧ v = some (.int (Int32.ofNat (digs M).length)) ∧ h' = h) mine 0 0 h 185 [.val (.long n), .second, .val (.int (Int32.ofNat (min (digs M).length 18)))] []) :
    WP "com/example/orunmila/orunmila/LocationToStringPinLaw" method_2_code 3 (some .int) "digits" R0 Z LT h [] mine (fun v h' nw => nw = [] ∧ v = some (.int (Int32.ofNat (digs M).length)) ∧ h' = h) mine 0 0 h 174 [.val (.long n), .second, .val (.int (Int32.ofNat (min (digs M).length 17)))] [] := by
  have e : (-100000000000000000 : Int64).toInt = -100000000000000000 := by decide
  have hl : (digs M).length ≤ 17 ↔ M < 100000000000000000 := digs_len 16 M
  refine WP.lloadN (pc' := 175) dDGT_174 rfl rfl ?_
  refine WP.ldc2Long (pc' := 178) dDGT_175 (hw _ (List.mem_of_getElem? (i := 252) rfl)) rfl ?_
  refine WP.lcmp (pc' := 179) dDGT_178 rfl ?_
  by_cases hlt : M < 100000000000000000
  · refine WP.ifT (pc' := 185) dDGT_179 (by decide) (by decide) ((lw_gt n (-100000000000000000)).mpr (by rw [Int64.lt_iff_toInt_lt, hn, e]; omega)) ?_
    have := hl.mpr hlt
    rw [show min (digs M).length 17 = min (digs M).length 18 by omega]
    exact K
  · refine WP.ifF (pc' := 182) dDGT_179 rfl (fun q => by rw [lw_gt, Int64.lt_iff_toInt_lt, hn, e] at q; omega) ?_
    have h2 : 18 ≤ (digs M).length := by rcases Nat.lt_or_ge 17 (digs M).length with q | q; exact q; exact absurd (hl.mp q) hlt
    rw [show min (digs M).length 18 = 18 by omega] at K
    refine WP.bipush (pc' := 184) (x := 18) dDGT_182 (by decide) rfl ?_
    refine WP.istoreN (pc' := 185) dDGT_184 rfl rfl rfl ?_
    dsimp only [List.set]
    exact K
set_option maxRecDepth 65536 in
set_option maxHeartbeats 40000000 in
theorem step_DGT18 (hw : ∀ d ∈ tables_1, d.before a0 Z = true) {n : Int64} {M : Nat} (hn : n.toInt = -(M : Int)) (K : WP "com/example/orunmila/orunmila/LocationToStringPinLaw" method_2_code 3 (some .int) "digits" R0 Z LT h [] mine (fun v h' nw => nw = [] ∧ v = some (.int (Int32.ofNat (digs M).length)) ∧ h' = h) mine 0 0 h 196 [.val (.long n), .second, .val (.int (Int32.ofNat (min (digs M).length 19)))] []) :
    WP "com/example/orunmila/orunmila/LocationToStringPinLaw" method_2_code 3 (some .int) "digits" R0 Z LT h [] mine (fun v h' nw => nw = [] ∧ v = some (.int (Int32.ofNat (digs M).length)) ∧ h' = h) mine 0 0 h 185 [.val (.long n), .second, .val (.int (Int32.ofNat (min (digs M).length 18)))] [] := by
  have e : (-1000000000000000000 : Int64).toInt = -1000000000000000000 := by decide
  have hl : (digs M).length ≤ 18 ↔ M < 1000000000000000000 := digs_len 17 M
  refine WP.lloadN (pc' := 186) dDGT_185 rfl rfl ?_
  refine WP.ldc2Long (pc' := 189) dDGT_186 (hw _ (List.mem_of_getElem? (i := 253) rfl)) rfl ?_
  refine WP.lcmp (pc' := 190) dDGT_189 rfl ?_
  by_cases hlt : M < 1000000000000000000
  · refine WP.ifT (pc' := 196) dDGT_190 (by decide) (by decide) ((lw_gt n (-1000000000000000000)).mpr (by rw [Int64.lt_iff_toInt_lt, hn, e]; omega)) ?_
    have := hl.mpr hlt
    rw [show min (digs M).length 18 = min (digs M).length 19 by omega]
    exact K
  · refine WP.ifF (pc' := 193) dDGT_190 rfl (fun q => by rw [lw_gt, Int64.lt_iff_toInt_lt, hn, e] at q; omega) ?_
    have h2 : 19 ≤ (digs M).length := by rcases Nat.lt_or_ge 18 (digs M).length with q | q; exact q; exact absurd (hl.mp q) hlt
    rw [show min (digs M).length 19 = 19 by omega] at K
    refine WP.bipush (pc' := 195) (x := 19) dDGT_193 (by decide) rfl ?_
    refine WP.istoreN (pc' := 196) dDGT_195 rfl rfl rfl ?_
    dsimp only [List.set]
    exact K
set_option maxRecDepth 65536 in
set_option maxHeartbeats 40000000 in
theorem con_DGT (hw : ∀ d ∈ tables_1, d.before a0 Z = true) {n : Int64} {M : Nat} (hn : n.toInt = -(M : Int)) (hM : M ≤ 9223372036854775808) : Con (⟨"com/example/orunmila/orunmila/LocationToStringPinLaw", "digits", "(J)I"⟩ : MethodName) method_2_code 3 (some .int) R0 Z LT [] #[.long n] h [] mine (fun v h' nw => nw = [] ∧ v = some (.int (Int32.ofNat (digs M).length)) ∧ h' = h) := by
  refine Con.of pnDGT (Ls := [.val (.long n), .second, .unset]) (fun m => by first | (simp [entryFrame, mkF, argsToLocals, Value.category]; done) | (simp [entryFrame, mkF, argsToLocals, Value.category, maxLocals]; done) | rfl) ?_
  refine WP.iconst (pc' := 1) (x := 1) dDGT_0 (by decide) rfl ?_
  refine WP.istoreN (pc' := 2) dDGT_1 rfl rfl rfl ?_
  dsimp only [List.set]
  have h1 := digs_pos M
  have h19 : (digs M).length ≤ 19 := (digs_len 18 M).mpr (by omega)
  have K : WP "com/example/orunmila/orunmila/LocationToStringPinLaw" method_2_code 3 (some .int) "digits" R0 Z LT h [] mine (fun v h' nw => nw = [] ∧ v = some (.int (Int32.ofNat (digs M).length)) ∧ h' = h) mine 0 0 h 196 [.val (.long n), .second, .val (.int (Int32.ofNat (min (digs M).length 19)))] [] := by
    refine WP.iloadN (pc' := 197) dDGT_196 rfl rfl ?_
    rw [show min (digs M).length 19 = (digs M).length by omega]
    exact WP.ireturn dDGT_197 rfl (by simp) rfl ⟨rfl, rfl, rfl⟩ (fun _ hx => nomatch hx) (fun _ hx => hx) (by first | exact Nat.le_of_ble_eq_true rfl | omega) (by first | exact Nat.le_of_ble_eq_true rfl | omega)
  replace K := step_DGT18 hw hn K
  replace K := step_DGT17 hw hn K
  replace K := step_DGT16 hw hn K
  replace K := step_DGT15 hw hn K
  replace K := step_DGT14 hw hn K
  replace K := step_DGT13 hw hn K
  replace K := step_DGT12 hw hn K
  replace K := step_DGT11 hw hn K
  replace K := step_DGT10 hw hn K
  replace K := step_DGT9 hw hn K
  replace K := step_DGT8 hw hn K
  replace K := step_DGT7 hw hn K
  replace K := step_DGT6 hw hn K
  replace K := step_DGT5 hw hn K
  replace K := step_DGT4 hw hn K
  replace K := step_DGT3 hw hn K
  replace K := step_DGT2 hw hn K
  replace K := step_DGT1 hw hn K
  rw [show min (digs M).length 1 = 1 by omega] at K
  exact K
theorem dNLE_0 : decode method_3_code 0 = .ok (.lload_n 0, 1) := by decide +kernel
theorem dNLE_1 : decode method_3_code 1 = .ok (.lconst 0, 1) := by decide +kernel
theorem dNLE_2 : decode method_3_code 2 = .ok (.lcmp, 1) := by decide +kernel
theorem dNLE_3 : decode method_3_code 3 = .ok (.ifCond .ge 7, 3) := by decide +kernel
theorem dNLE_6 : decode method_3_code 6 = .ok (.iconst 1, 1) := by decide +kernel
theorem dNLE_7 : decode method_3_code 7 = .ok (.goto 4, 3) := by decide +kernel
theorem dNLE_10 : decode method_3_code 10 = .ok (.iconst 0, 1) := by decide +kernel
theorem dNLE_11 : decode method_3_code 11 = .ok (.istore_n 2, 1) := by decide +kernel
theorem dNLE_12 : decode method_3_code 12 = .ok (.iload_n 2, 1) := by decide +kernel
theorem dNLE_13 : decode method_3_code 13 = .ok (.ifCond .eq 7, 3) := by decide +kernel
theorem dNLE_16 : decode method_3_code 16 = .ok (.lload_n 0, 1) := by decide +kernel
theorem dNLE_17 : decode method_3_code 17 = .ok (.goto 5, 3) := by decide +kernel
theorem dNLE_20 : decode method_3_code 20 = .ok (.lload_n 0, 1) := by decide +kernel
theorem dNLE_21 : decode method_3_code 21 = .ok (.lneg, 1) := by decide +kernel
theorem dNLE_22 : decode method_3_code 22 = .ok (.lstore_n 3, 1) := by decide +kernel
theorem dNLE_23 : decode method_3_code 23 = .ok (.iload_n 2, 1) := by decide +kernel
theorem dNLE_24 : decode method_3_code 24 = .ok (.ifCond .eq 7, 3) := by decide +kernel
theorem dNLE_27 : decode method_3_code 27 = .ok (.iconst 1, 1) := by decide +kernel
theorem dNLE_28 : decode method_3_code 28 = .ok (.goto 4, 3) := by decide +kernel
theorem dNLE_31 : decode method_3_code 31 = .ok (.iconst 0, 1) := by decide +kernel
theorem dNLE_32 : decode method_3_code 32 = .ok (.lload_n 3, 1) := by decide +kernel
theorem dNLE_33 : decode method_3_code 33 = .ok (.invokestatic 43, 3) := by decide +kernel
theorem dNLE_36 : decode method_3_code 36 = .ok (.iadd, 1) := by decide +kernel
theorem dNLE_37 : decode method_3_code 37 = .ok (.ireturn, 1) := by decide +kernel
theorem pnNLE : plainFor (⟨"com/example/orunmila/orunmila/LocationToStringPinLaw", "numLen", "(J)I"⟩ : MethodName) = true := plainFor_of_name (by first | (simp [plainName, overriddenIn]; done) | decide +kernel)
set_option maxRecDepth 65536 in
set_option maxHeartbeats 40000000 in
theorem con_NLE (hw : ∀ d ∈ tables_1, d.before a0 Z = true) {x : Int64} : Con (⟨"com/example/orunmila/orunmila/LocationToStringPinLaw", "numLen", "(J)I"⟩ : MethodName) method_3_code 5 (some .int) { frames := 1, cells := 0, slots := 0, locals := 15 } Z LT [] #[.long x] h [] mine (fun v h' nw => nw = [] ∧ v = some (.int (Int32.ofNat (dec x.toInt).length)) ∧ h' = h) := by
  have hx := neg64 x
  have e0 : (0 : Int64).toInt = 0 := rfl
  refine Con.of pnNLE (Ls := [.val (.long x), .second, .unset, .unset, .unset]) (fun m => by first | (simp [entryFrame, mkF, argsToLocals, Value.category]; done) | (simp [entryFrame, mkF, argsToLocals, Value.category, maxLocals]; done) | rfl) ?_
  refine WP.lloadN (pc' := 1) dNLE_0 rfl rfl ?_
  refine WP.lconst (pc' := 2) (x := 0) dNLE_1 (by decide) rfl ?_
  refine WP.lcmp (pc' := 3) dNLE_2 rfl ?_
  by_cases hneg : x < 0
  · refine WP.ifF (pc' := 6) dNLE_3 rfl ((lw_lt x 0).mpr hneg) ?_
    refine WP.iconst (pc' := 7) (x := 1) dNLE_6 (by decide) rfl ?_
    refine WP.goto (pc' := 11) dNLE_7 (by decide) (by decide) ?_
    refine WP.istoreN (pc' := 12) dNLE_11 rfl rfl rfl ?_
    dsimp only [List.set]
    refine WP.iloadN (pc' := 13) dNLE_12 rfl rfl ?_
    refine WP.ifF (pc' := 16) dNLE_13 rfl (show ¬ (1 : Int32) = 0 by decide) ?_
    refine WP.lloadN (pc' := 17) dNLE_16 rfl rfl ?_
    refine WP.goto (pc' := 22) dNLE_17 (by decide) (by decide) ?_
    first | refine WP.lstoreN (pc' := 23) dNLE_22 rfl rfl rfl rfl ?_ | refine WP.lstoreLN (pc' := 23) dNLE_22 rfl rfl rfl rfl ?_
    dsimp only [List.set]
    refine WP.iloadN (pc' := 24) dNLE_23 rfl rfl ?_
    refine WP.ifF (pc' := 27) dNLE_24 rfl (show ¬ (1 : Int32) = 0 by decide) ?_
    refine WP.iconst (pc' := 28) (x := 1) dNLE_27 (by decide) rfl ?_
    refine WP.goto (pc' := 32) dNLE_28 (by decide) (by decide) ?_
    refine WP.lloadN (pc' := 33) dNLE_32 rfl rfl ?_
    refine WP.callS (pc' := 36) (con_DGT hw (hx.2.1 hneg) hx.2.2) (hw _ (List.mem_of_getElem? (i := 233) rfl)) (hw _ (List.mem_of_getElem? (i := 234) rfl)) (hw _ (List.mem_of_getElem? (i := 231) rfl)) (hw _ (List.mem_of_getElem? (i := 235) rfl)) dNLE_33 (by decide) pdx23 rfl rfl rfl (by first | exact Nat.le_of_ble_eq_true rfl | omega | (simp; done) | (simp; omega) | (dsimp only; omega)) (by first | exact Nat.le_of_ble_eq_true rfl | omega | (simp; done) | (simp; omega) | (dsimp only; omega)) (by first | exact Nat.le_of_ble_eq_true rfl | omega | (simp; done) | (simp; omega) | (dsimp only; omega)) (by first | exact Nat.le_of_ble_eq_true rfl | omega | (simp; done) | (simp; omega) | (dsimp only; omega)) (fun _ hx => nomatch hx) rfl ?_
    rintro v h' nw K hnw ⟨rfl, rfl, rfl⟩
    dsimp only [Option.toList, List.cons_append, List.nil_append]
    refine WP.iadd (pc' := 37) dNLE_36 rfl ?_
    have ed : (dec x.toInt).length = 1 + (digs x.toInt.natAbs).length := by
      rw [Int64.lt_iff_toInt_lt, e0] at hneg
      unfold dec sgn; rw [if_pos hneg]; simp [Nat.add_comm]
    rw [ed, show (1 : Int32) + Int32.ofNat (digs x.toInt.natAbs).length = Int32.ofNat (1 + (digs x.toInt.natAbs).length) from n32_add 1 _]
    exact WP.ireturn dNLE_37 rfl (by simp) rfl ⟨rfl, rfl, rfl⟩ (fun _ hx => nomatch hx) (fun _ hx => hx) (by first | exact Nat.le_of_ble_eq_true rfl | omega) (by first | exact Nat.le_of_ble_eq_true rfl | omega)
  · refine WP.ifT (pc' := 10) dNLE_3 (by decide) (by decide) (fun q => hneg ((lw_lt x 0).mp q)) ?_
    refine WP.iconst (pc' := 11) (x := 0) dNLE_10 (by decide) rfl ?_
    refine WP.istoreN (pc' := 12) dNLE_11 rfl rfl rfl ?_
    dsimp only [List.set]
    refine WP.iloadN (pc' := 13) dNLE_12 rfl rfl ?_
    refine WP.ifT (pc' := 20) dNLE_13 (by decide) (by decide) rfl ?_
    refine WP.lloadN (pc' := 21) dNLE_20 rfl rfl ?_
    refine WP.lneg (pc' := 22) dNLE_21 rfl ?_
    first | refine WP.lstoreN (pc' := 23) dNLE_22 rfl rfl rfl rfl ?_ | refine WP.lstoreLN (pc' := 23) dNLE_22 rfl rfl rfl rfl ?_
    dsimp only [List.set]
    refine WP.iloadN (pc' := 24) dNLE_23 rfl rfl ?_
    refine WP.ifT (pc' := 31) dNLE_24 (by decide) (by decide) rfl ?_
    refine WP.iconst (pc' := 32) (x := 0) dNLE_31 (by decide) rfl ?_
    refine WP.lloadN (pc' := 33) dNLE_32 rfl rfl ?_
    refine WP.callS (pc' := 36) (con_DGT hw (hx.1 hneg) hx.2.2) (hw _ (List.mem_of_getElem? (i := 233) rfl)) (hw _ (List.mem_of_getElem? (i := 234) rfl)) (hw _ (List.mem_of_getElem? (i := 231) rfl)) (hw _ (List.mem_of_getElem? (i := 235) rfl)) dNLE_33 (by decide) pdx23 rfl rfl rfl (by first | exact Nat.le_of_ble_eq_true rfl | omega | (simp; done) | (simp; omega) | (dsimp only; omega)) (by first | exact Nat.le_of_ble_eq_true rfl | omega | (simp; done) | (simp; omega) | (dsimp only; omega)) (by first | exact Nat.le_of_ble_eq_true rfl | omega | (simp; done) | (simp; omega) | (dsimp only; omega)) (by first | exact Nat.le_of_ble_eq_true rfl | omega | (simp; done) | (simp; omega) | (dsimp only; omega)) (fun _ hx => nomatch hx) rfl ?_
    rintro v h' nw K hnw ⟨rfl, rfl, rfl⟩
    dsimp only [Option.toList, List.cons_append, List.nil_append]
    refine WP.iadd (pc' := 37) dNLE_36 rfl ?_
    have ed : (dec x.toInt).length = 0 + (digs x.toInt.natAbs).length := by
      rw [Int64.lt_iff_toInt_lt, e0] at hneg
      unfold dec sgn; rw [if_neg hneg]; simp
    rw [ed, show (0 : Int32) + Int32.ofNat (digs x.toInt.natAbs).length = Int32.ofNat (0 + (digs x.toInt.natAbs).length) from n32_add 0 _]
    exact WP.ireturn dNLE_37 rfl (by simp) rfl ⟨rfl, rfl, rfl⟩ (fun _ hx => nomatch hx) (fun _ hx => hx) (by first | exact Nat.le_of_ble_eq_true rfl | omega) (by first | exact Nat.le_of_ble_eq_true rfl | omega)
theorem dDIG_0 : decode method_4_code 0 = .ok (.aload_n 0, 1) := by decide +kernel
theorem dDIG_1 : decode method_4_code 1 = .ok (.iload_n 1, 1) := by decide +kernel
theorem dDIG_2 : decode method_4_code 2 = .ok (.invokevirtual 49, 3) := by decide +kernel
theorem dDIG_5 : decode method_4_code 5 = .ok (.bipush 48, 2) := by decide +kernel
theorem dDIG_7 : decode method_4_code 7 = .ok (.lload_n 2, 1) := by decide +kernel
theorem dDIG_8 : decode method_4_code 8 = .ok (.ldc2_w 55, 3) := by decide +kernel
theorem dDIG_11 : decode method_4_code 11 = .ok (.lrem, 1) := by decide +kernel
theorem dDIG_12 : decode method_4_code 12 = .ok (.l2i, 1) := by decide +kernel
theorem dDIG_13 : decode method_4_code 13 = .ok (.isub, 1) := by decide +kernel
theorem dDIG_14 : decode method_4_code 14 = .ok (.i2c, 1) := by decide +kernel
theorem dDIG_15 : decode method_4_code 15 = .ok (.if_icmp .ne 7, 3) := by decide +kernel
theorem dDIG_18 : decode method_4_code 18 = .ok (.iconst 1, 1) := by decide +kernel
theorem dDIG_19 : decode method_4_code 19 = .ok (.goto 4, 3) := by decide +kernel
theorem dDIG_22 : decode method_4_code 22 = .ok (.iconst 0, 1) := by decide +kernel
theorem dDIG_23 : decode method_4_code 23 = .ok (.ireturn, 1) := by decide +kernel
theorem pnDIG : plainFor (⟨"com/example/orunmila/orunmila/LocationToStringPinLaw", "dig", "(Ljava/lang/String;IJ)Z"⟩ : MethodName) = true := plainFor_of_name (by first | (simp [plainName, overriddenIn]; done) | decide +kernel)
set_option maxRecDepth 65536 in
set_option maxHeartbeats 40000000 in
theorem con_DIG (hw : ∀ d ∈ tables_1, d.before a0 Z = true) {cz : Int32} (hc : Compact Z cz) {vf : Value} (hf : Fmt Z vf) {a t : Addr} {us : List UInt16} (hlat : lat us = true) (S : StrAt Z h a t us) {i M : Nat} {m : Int64} (hm : m.toInt = -(M : Int)) (hu : us[i]? = some (dgc M)) : Con (⟨"com/example/orunmila/orunmila/LocationToStringPinLaw", "dig", "(Ljava/lang/String;IJ)Z"⟩ : MethodName) method_4_code 4 (some .boolean) { frames := 5, cells := 0, slots := 0, locals := 66 } Z LT [] #[.ref a, .int (Int32.ofNat i), .long m] h [] mine (fun v h' nw => nw = [] ∧ v = some (.int 1) ∧ h' = h) := by
  refine Con.of pnDIG (Ls := [.val (.ref a), .val (.int (Int32.ofNat i)), .val (.long m), .second]) (fun m => by first | (simp [entryFrame, mkF, argsToLocals, Value.category]; done) | (simp [entryFrame, mkF, argsToLocals, Value.category, maxLocals]; done) | rfl) ?_
  refine WP.aloadN (pc' := 1) dDIG_0 rfl rfl rfl ?_
  refine WP.iloadN (pc' := 2) dDIG_1 rfl rfl ?_
  refine WP.callV (pc' := 5) (con_CA hw hc hf hlat S hu) S.1 (hw _ (List.mem_of_getElem? (i := 255) rfl)) (hw _ (List.mem_of_getElem? (i := 256) rfl)) (fun s hs => notFace_of_selects (args := #[]) (mv hs (hw _ (List.mem_of_getElem? (i := 258) rfl)))) (hw _ (List.mem_of_getElem? (i := 258) rfl)) (hw _ (List.mem_of_getElem? (i := 257) rfl)) (hw _ (List.mem_of_getElem? (i := 4) rfl)) (hw _ (List.mem_of_getElem? (i := 259) rfl)) dDIG_2 (by decide) pdx28 rfl rfl rfl (by first | exact Nat.le_of_ble_eq_true rfl | omega | (simp; done) | (simp; omega) | (dsimp only; omega)) (by first | exact Nat.le_of_ble_eq_true rfl | omega | (simp; done) | (simp; omega) | (dsimp only; omega)) (by first | exact Nat.le_of_ble_eq_true rfl | omega | (simp; done) | (simp; omega) | (dsimp only; omega)) (by first | exact Nat.le_of_ble_eq_true rfl | omega | (simp; done) | (simp; omega) | (dsimp only; omega)) (fun _ hx => nomatch hx) rfl ?_
  rintro v h' nw K hnw ⟨rfl, rfl, rfl⟩
  dsimp only [Option.toList, List.cons_append, List.nil_append]
  refine WP.bipush (pc' := 7) (x := 48) dDIG_5 (by decide) rfl ?_
  refine WP.lloadN (pc' := 8) dDIG_7 rfl rfl ?_
  refine WP.ldc2Long (pc' := 11) dDIG_8 (hw _ (List.mem_of_getElem? (i := 283) rfl)) rfl ?_
  refine WP.lrem (pc' := 12) dDIG_11 (by decide) rfl ?_
  refine WP.l2i (pc' := 13) dDIG_12 rfl ?_
  refine WP.isub (pc' := 14) dDIG_13 rfl ?_
  refine WP.i2c (pc' := 15) dDIG_14 rfl ?_
  rw [dig_val hm]
  refine WP.icmpF (pc' := 18) dDIG_15 rfl rfl ?_
  refine WP.iconst (pc' := 19) (x := 1) dDIG_18 (by decide) rfl ?_
  refine WP.goto (pc' := 23) dDIG_19 (by decide) (by decide) ?_
  exact WP.ireturn dDIG_23 rfl (by simp) rfl ⟨rfl, rfl, rfl⟩ (fun _ hx => nomatch hx) (fun _ hx => hx) (by first | exact Nat.le_of_ble_eq_true rfl | omega) (by first | exact Nat.le_of_ble_eq_true rfl | omega)
theorem dNOK_0 : decode method_5_code 0 = .ok (.lload_n 2, 1) := by decide +kernel
theorem dNOK_1 : decode method_5_code 1 = .ok (.lconst 0, 1) := by decide +kernel
theorem dNOK_2 : decode method_5_code 2 = .ok (.lcmp, 1) := by decide +kernel
theorem dNOK_3 : decode method_5_code 3 = .ok (.ifCond .ge 7, 3) := by decide +kernel
theorem dNOK_6 : decode method_5_code 6 = .ok (.iconst 1, 1) := by decide +kernel
theorem dNOK_7 : decode method_5_code 7 = .ok (.goto 4, 3) := by decide +kernel
theorem dNOK_10 : decode method_5_code 10 = .ok (.iconst 0, 1) := by decide +kernel
theorem dNOK_11 : decode method_5_code 11 = .ok (.istore 4, 2) := by decide +kernel
theorem dNOK_13 : decode method_5_code 13 = .ok (.iload 4, 2) := by decide +kernel
theorem dNOK_15 : decode method_5_code 15 = .ok (.ifCond .eq 7, 3) := by decide +kernel
theorem dNOK_18 : decode method_5_code 18 = .ok (.lload_n 2, 1) := by decide +kernel
theorem dNOK_19 : decode method_5_code 19 = .ok (.goto 5, 3) := by decide +kernel
theorem dNOK_22 : decode method_5_code 22 = .ok (.lload_n 2, 1) := by decide +kernel
theorem dNOK_23 : decode method_5_code 23 = .ok (.lneg, 1) := by decide +kernel
theorem dNOK_24 : decode method_5_code 24 = .ok (.lstore 5, 2) := by decide +kernel
theorem dNOK_26 : decode method_5_code 26 = .ok (.lload 5, 2) := by decide +kernel
theorem dNOK_28 : decode method_5_code 28 = .ok (.invokestatic 43, 3) := by decide +kernel
theorem dNOK_31 : decode method_5_code 31 = .ok (.istore 7, 2) := by decide +kernel
theorem dNOK_33 : decode method_5_code 33 = .ok (.iload_n 1, 1) := by decide +kernel
theorem dNOK_34 : decode method_5_code 34 = .ok (.istore 8, 2) := by decide +kernel
theorem dNOK_36 : decode method_5_code 36 = .ok (.iload 4, 2) := by decide +kernel
theorem dNOK_38 : decode method_5_code 38 = .ok (.ifCond .eq 20, 3) := by decide +kernel
theorem dNOK_41 : decode method_5_code 41 = .ok (.aload_n 0, 1) := by decide +kernel
theorem dNOK_42 : decode method_5_code 42 = .ok (.iload_n 1, 1) := by decide +kernel
theorem dNOK_43 : decode method_5_code 43 = .ok (.invokevirtual 49, 3) := by decide +kernel
theorem dNOK_46 : decode method_5_code 46 = .ok (.bipush 45, 2) := by decide +kernel
theorem dNOK_48 : decode method_5_code 48 = .ok (.if_icmp .eq 5, 3) := by decide +kernel
theorem dNOK_51 : decode method_5_code 51 = .ok (.iconst 0, 1) := by decide +kernel
theorem dNOK_52 : decode method_5_code 52 = .ok (.ireturn, 1) := by decide +kernel
theorem dNOK_53 : decode method_5_code 53 = .ok (.iload_n 1, 1) := by decide +kernel
theorem dNOK_54 : decode method_5_code 54 = .ok (.iconst 1, 1) := by decide +kernel
theorem dNOK_55 : decode method_5_code 55 = .ok (.iadd, 1) := by decide +kernel
theorem dNOK_56 : decode method_5_code 56 = .ok (.istore 8, 2) := by decide +kernel
theorem dNOK_58 : decode method_5_code 58 = .ok (.iload 8, 2) := by decide +kernel
theorem dNOK_60 : decode method_5_code 60 = .ok (.iload 7, 2) := by decide +kernel
theorem dNOK_62 : decode method_5_code 62 = .ok (.iadd, 1) := by decide +kernel
theorem dNOK_63 : decode method_5_code 63 = .ok (.iconst 1, 1) := by decide +kernel
theorem dNOK_64 : decode method_5_code 64 = .ok (.isub, 1) := by decide +kernel
theorem dNOK_65 : decode method_5_code 65 = .ok (.istore 9, 2) := by decide +kernel
theorem dNOK_67 : decode method_5_code 67 = .ok (.aload_n 0, 1) := by decide +kernel
theorem dNOK_68 : decode method_5_code 68 = .ok (.iload 9, 2) := by decide +kernel
theorem dNOK_70 : decode method_5_code 70 = .ok (.lload 5, 2) := by decide +kernel
theorem dNOK_72 : decode method_5_code 72 = .ok (.invokestatic 57, 3) := by decide +kernel
theorem dNOK_75 : decode method_5_code 75 = .ok (.istore 10, 2) := by decide +kernel
theorem dNOK_77 : decode method_5_code 77 = .ok (.lload 5, 2) := by decide +kernel
theorem dNOK_79 : decode method_5_code 79 = .ok (.ldc2_w 55, 3) := by decide +kernel
theorem dNOK_82 : decode method_5_code 82 = .ok (.ldiv, 1) := by decide +kernel
theorem dNOK_83 : decode method_5_code 83 = .ok (.lstore 11, 2) := by decide +kernel
theorem dNOK_85 : decode method_5_code 85 = .ok (.iload 7, 2) := by decide +kernel
theorem dNOK_87 : decode method_5_code 87 = .ok (.iconst 1, 1) := by decide +kernel
theorem dNOK_88 : decode method_5_code 88 = .ok (.if_icmp .le 28, 3) := by decide +kernel
theorem dNOK_91 : decode method_5_code 91 = .ok (.iload 10, 2) := by decide +kernel
theorem dNOK_93 : decode method_5_code 93 = .ok (.ifCond .eq 20, 3) := by decide +kernel
theorem dNOK_96 : decode method_5_code 96 = .ok (.aload_n 0, 1) := by decide +kernel
theorem dNOK_97 : decode method_5_code 97 = .ok (.iload 9, 2) := by decide +kernel
theorem dNOK_99 : decode method_5_code 99 = .ok (.iconst 1, 1) := by decide +kernel
theorem dNOK_100 : decode method_5_code 100 = .ok (.isub, 1) := by decide +kernel
theorem dNOK_101 : decode method_5_code 101 = .ok (.lload 11, 2) := by decide +kernel
theorem dNOK_103 : decode method_5_code 103 = .ok (.invokestatic 57, 3) := by decide +kernel
theorem dNOK_106 : decode method_5_code 106 = .ok (.ifCond .eq 7, 3) := by decide +kernel
theorem dNOK_109 : decode method_5_code 109 = .ok (.iconst 1, 1) := by decide +kernel
theorem dNOK_110 : decode method_5_code 110 = .ok (.goto 4, 3) := by decide +kernel
theorem dNOK_113 : decode method_5_code 113 = .ok (.iconst 0, 1) := by decide +kernel
theorem dNOK_114 : decode method_5_code 114 = .ok (.istore 10, 2) := by decide +kernel
theorem dNOK_116 : decode method_5_code 116 = .ok (.lload 11, 2) := by decide +kernel
theorem dNOK_118 : decode method_5_code 118 = .ok (.ldc2_w 55, 3) := by decide +kernel
theorem dNOK_121 : decode method_5_code 121 = .ok (.ldiv, 1) := by decide +kernel
theorem dNOK_122 : decode method_5_code 122 = .ok (.lstore 11, 2) := by decide +kernel
theorem dNOK_124 : decode method_5_code 124 = .ok (.iload 7, 2) := by decide +kernel
theorem dNOK_126 : decode method_5_code 126 = .ok (.iconst 2, 1) := by decide +kernel
theorem dNOK_127 : decode method_5_code 127 = .ok (.if_icmp .le 28, 3) := by decide +kernel
theorem dNOK_130 : decode method_5_code 130 = .ok (.iload 10, 2) := by decide +kernel
theorem dNOK_132 : decode method_5_code 132 = .ok (.ifCond .eq 20, 3) := by decide +kernel
theorem dNOK_135 : decode method_5_code 135 = .ok (.aload_n 0, 1) := by decide +kernel
theorem dNOK_136 : decode method_5_code 136 = .ok (.iload 9, 2) := by decide +kernel
theorem dNOK_138 : decode method_5_code 138 = .ok (.iconst 2, 1) := by decide +kernel
theorem dNOK_139 : decode method_5_code 139 = .ok (.isub, 1) := by decide +kernel
theorem dNOK_140 : decode method_5_code 140 = .ok (.lload 11, 2) := by decide +kernel
theorem dNOK_142 : decode method_5_code 142 = .ok (.invokestatic 57, 3) := by decide +kernel
theorem dNOK_145 : decode method_5_code 145 = .ok (.ifCond .eq 7, 3) := by decide +kernel
theorem dNOK_148 : decode method_5_code 148 = .ok (.iconst 1, 1) := by decide +kernel
theorem dNOK_149 : decode method_5_code 149 = .ok (.goto 4, 3) := by decide +kernel
theorem dNOK_152 : decode method_5_code 152 = .ok (.iconst 0, 1) := by decide +kernel
theorem dNOK_153 : decode method_5_code 153 = .ok (.istore 10, 2) := by decide +kernel
theorem dNOK_155 : decode method_5_code 155 = .ok (.lload 11, 2) := by decide +kernel
theorem dNOK_157 : decode method_5_code 157 = .ok (.ldc2_w 55, 3) := by decide +kernel
theorem dNOK_160 : decode method_5_code 160 = .ok (.ldiv, 1) := by decide +kernel
theorem dNOK_161 : decode method_5_code 161 = .ok (.lstore 11, 2) := by decide +kernel
theorem dNOK_163 : decode method_5_code 163 = .ok (.iload 7, 2) := by decide +kernel
theorem dNOK_165 : decode method_5_code 165 = .ok (.iconst 3, 1) := by decide +kernel
theorem dNOK_166 : decode method_5_code 166 = .ok (.if_icmp .le 28, 3) := by decide +kernel
theorem dNOK_169 : decode method_5_code 169 = .ok (.iload 10, 2) := by decide +kernel
theorem dNOK_171 : decode method_5_code 171 = .ok (.ifCond .eq 20, 3) := by decide +kernel
theorem dNOK_174 : decode method_5_code 174 = .ok (.aload_n 0, 1) := by decide +kernel
theorem dNOK_175 : decode method_5_code 175 = .ok (.iload 9, 2) := by decide +kernel
theorem dNOK_177 : decode method_5_code 177 = .ok (.iconst 3, 1) := by decide +kernel
theorem dNOK_178 : decode method_5_code 178 = .ok (.isub, 1) := by decide +kernel
theorem dNOK_179 : decode method_5_code 179 = .ok (.lload 11, 2) := by decide +kernel
theorem dNOK_181 : decode method_5_code 181 = .ok (.invokestatic 57, 3) := by decide +kernel
theorem dNOK_184 : decode method_5_code 184 = .ok (.ifCond .eq 7, 3) := by decide +kernel
theorem dNOK_187 : decode method_5_code 187 = .ok (.iconst 1, 1) := by decide +kernel
theorem dNOK_188 : decode method_5_code 188 = .ok (.goto 4, 3) := by decide +kernel
theorem dNOK_191 : decode method_5_code 191 = .ok (.iconst 0, 1) := by decide +kernel
theorem dNOK_192 : decode method_5_code 192 = .ok (.istore 10, 2) := by decide +kernel
theorem dNOK_194 : decode method_5_code 194 = .ok (.lload 11, 2) := by decide +kernel
theorem dNOK_196 : decode method_5_code 196 = .ok (.ldc2_w 55, 3) := by decide +kernel
theorem dNOK_199 : decode method_5_code 199 = .ok (.ldiv, 1) := by decide +kernel
theorem dNOK_200 : decode method_5_code 200 = .ok (.lstore 11, 2) := by decide +kernel
theorem dNOK_202 : decode method_5_code 202 = .ok (.iload 7, 2) := by decide +kernel
theorem dNOK_204 : decode method_5_code 204 = .ok (.iconst 4, 1) := by decide +kernel
theorem dNOK_205 : decode method_5_code 205 = .ok (.if_icmp .le 28, 3) := by decide +kernel
theorem dNOK_208 : decode method_5_code 208 = .ok (.iload 10, 2) := by decide +kernel
theorem dNOK_210 : decode method_5_code 210 = .ok (.ifCond .eq 20, 3) := by decide +kernel
theorem dNOK_213 : decode method_5_code 213 = .ok (.aload_n 0, 1) := by decide +kernel
theorem dNOK_214 : decode method_5_code 214 = .ok (.iload 9, 2) := by decide +kernel
theorem dNOK_216 : decode method_5_code 216 = .ok (.iconst 4, 1) := by decide +kernel
theorem dNOK_217 : decode method_5_code 217 = .ok (.isub, 1) := by decide +kernel
theorem dNOK_218 : decode method_5_code 218 = .ok (.lload 11, 2) := by decide +kernel
theorem dNOK_220 : decode method_5_code 220 = .ok (.invokestatic 57, 3) := by decide +kernel
theorem dNOK_223 : decode method_5_code 223 = .ok (.ifCond .eq 7, 3) := by decide +kernel
theorem dNOK_226 : decode method_5_code 226 = .ok (.iconst 1, 1) := by decide +kernel
theorem dNOK_227 : decode method_5_code 227 = .ok (.goto 4, 3) := by decide +kernel
theorem dNOK_230 : decode method_5_code 230 = .ok (.iconst 0, 1) := by decide +kernel
theorem dNOK_231 : decode method_5_code 231 = .ok (.istore 10, 2) := by decide +kernel
theorem dNOK_233 : decode method_5_code 233 = .ok (.lload 11, 2) := by decide +kernel
theorem dNOK_235 : decode method_5_code 235 = .ok (.ldc2_w 55, 3) := by decide +kernel
theorem dNOK_238 : decode method_5_code 238 = .ok (.ldiv, 1) := by decide +kernel
theorem dNOK_239 : decode method_5_code 239 = .ok (.lstore 11, 2) := by decide +kernel
theorem dNOK_241 : decode method_5_code 241 = .ok (.iload 7, 2) := by decide +kernel
theorem dNOK_243 : decode method_5_code 243 = .ok (.iconst 5, 1) := by decide +kernel
theorem dNOK_244 : decode method_5_code 244 = .ok (.if_icmp .le 28, 3) := by decide +kernel
theorem dNOK_247 : decode method_5_code 247 = .ok (.iload 10, 2) := by decide +kernel
theorem dNOK_249 : decode method_5_code 249 = .ok (.ifCond .eq 20, 3) := by decide +kernel
theorem dNOK_252 : decode method_5_code 252 = .ok (.aload_n 0, 1) := by decide +kernel
theorem dNOK_253 : decode method_5_code 253 = .ok (.iload 9, 2) := by decide +kernel
theorem dNOK_255 : decode method_5_code 255 = .ok (.iconst 5, 1) := by decide +kernel
theorem dNOK_256 : decode method_5_code 256 = .ok (.isub, 1) := by decide +kernel
theorem dNOK_257 : decode method_5_code 257 = .ok (.lload 11, 2) := by decide +kernel
theorem dNOK_259 : decode method_5_code 259 = .ok (.invokestatic 57, 3) := by decide +kernel
theorem dNOK_262 : decode method_5_code 262 = .ok (.ifCond .eq 7, 3) := by decide +kernel
theorem dNOK_265 : decode method_5_code 265 = .ok (.iconst 1, 1) := by decide +kernel
theorem dNOK_266 : decode method_5_code 266 = .ok (.goto 4, 3) := by decide +kernel
theorem dNOK_269 : decode method_5_code 269 = .ok (.iconst 0, 1) := by decide +kernel
theorem dNOK_270 : decode method_5_code 270 = .ok (.istore 10, 2) := by decide +kernel
theorem dNOK_272 : decode method_5_code 272 = .ok (.lload 11, 2) := by decide +kernel
theorem dNOK_274 : decode method_5_code 274 = .ok (.ldc2_w 55, 3) := by decide +kernel
theorem dNOK_277 : decode method_5_code 277 = .ok (.ldiv, 1) := by decide +kernel
theorem dNOK_278 : decode method_5_code 278 = .ok (.lstore 11, 2) := by decide +kernel
theorem dNOK_280 : decode method_5_code 280 = .ok (.iload 7, 2) := by decide +kernel
theorem dNOK_282 : decode method_5_code 282 = .ok (.bipush 6, 2) := by decide +kernel
theorem dNOK_284 : decode method_5_code 284 = .ok (.if_icmp .le 29, 3) := by decide +kernel
theorem dNOK_287 : decode method_5_code 287 = .ok (.iload 10, 2) := by decide +kernel
theorem dNOK_289 : decode method_5_code 289 = .ok (.ifCond .eq 21, 3) := by decide +kernel
theorem dNOK_292 : decode method_5_code 292 = .ok (.aload_n 0, 1) := by decide +kernel
theorem dNOK_293 : decode method_5_code 293 = .ok (.iload 9, 2) := by decide +kernel
theorem dNOK_295 : decode method_5_code 295 = .ok (.bipush 6, 2) := by decide +kernel
theorem dNOK_297 : decode method_5_code 297 = .ok (.isub, 1) := by decide +kernel
theorem dNOK_298 : decode method_5_code 298 = .ok (.lload 11, 2) := by decide +kernel
theorem dNOK_300 : decode method_5_code 300 = .ok (.invokestatic 57, 3) := by decide +kernel
theorem dNOK_303 : decode method_5_code 303 = .ok (.ifCond .eq 7, 3) := by decide +kernel
theorem dNOK_306 : decode method_5_code 306 = .ok (.iconst 1, 1) := by decide +kernel
theorem dNOK_307 : decode method_5_code 307 = .ok (.goto 4, 3) := by decide +kernel
theorem dNOK_310 : decode method_5_code 310 = .ok (.iconst 0, 1) := by decide +kernel
theorem dNOK_311 : decode method_5_code 311 = .ok (.istore 10, 2) := by decide +kernel
theorem dNOK_313 : decode method_5_code 313 = .ok (.lload 11, 2) := by decide +kernel
theorem dNOK_315 : decode method_5_code 315 = .ok (.ldc2_w 55, 3) := by decide +kernel
theorem dNOK_318 : decode method_5_code 318 = .ok (.ldiv, 1) := by decide +kernel
theorem dNOK_319 : decode method_5_code 319 = .ok (.lstore 11, 2) := by decide +kernel
theorem dNOK_321 : decode method_5_code 321 = .ok (.iload 7, 2) := by decide +kernel
theorem dNOK_323 : decode method_5_code 323 = .ok (.bipush 7, 2) := by decide +kernel
theorem dNOK_325 : decode method_5_code 325 = .ok (.if_icmp .le 29, 3) := by decide +kernel
theorem dNOK_328 : decode method_5_code 328 = .ok (.iload 10, 2) := by decide +kernel
theorem dNOK_330 : decode method_5_code 330 = .ok (.ifCond .eq 21, 3) := by decide +kernel
theorem dNOK_333 : decode method_5_code 333 = .ok (.aload_n 0, 1) := by decide +kernel
theorem dNOK_334 : decode method_5_code 334 = .ok (.iload 9, 2) := by decide +kernel
theorem dNOK_336 : decode method_5_code 336 = .ok (.bipush 7, 2) := by decide +kernel
theorem dNOK_338 : decode method_5_code 338 = .ok (.isub, 1) := by decide +kernel
theorem dNOK_339 : decode method_5_code 339 = .ok (.lload 11, 2) := by decide +kernel
theorem dNOK_341 : decode method_5_code 341 = .ok (.invokestatic 57, 3) := by decide +kernel
theorem dNOK_344 : decode method_5_code 344 = .ok (.ifCond .eq 7, 3) := by decide +kernel
theorem dNOK_347 : decode method_5_code 347 = .ok (.iconst 1, 1) := by decide +kernel
theorem dNOK_348 : decode method_5_code 348 = .ok (.goto 4, 3) := by decide +kernel
theorem dNOK_351 : decode method_5_code 351 = .ok (.iconst 0, 1) := by decide +kernel
theorem dNOK_352 : decode method_5_code 352 = .ok (.istore 10, 2) := by decide +kernel
theorem dNOK_354 : decode method_5_code 354 = .ok (.lload 11, 2) := by decide +kernel
theorem dNOK_356 : decode method_5_code 356 = .ok (.ldc2_w 55, 3) := by decide +kernel
theorem dNOK_359 : decode method_5_code 359 = .ok (.ldiv, 1) := by decide +kernel
theorem dNOK_360 : decode method_5_code 360 = .ok (.lstore 11, 2) := by decide +kernel
theorem dNOK_362 : decode method_5_code 362 = .ok (.iload 7, 2) := by decide +kernel
theorem dNOK_364 : decode method_5_code 364 = .ok (.bipush 8, 2) := by decide +kernel
theorem dNOK_366 : decode method_5_code 366 = .ok (.if_icmp .le 29, 3) := by decide +kernel
theorem dNOK_369 : decode method_5_code 369 = .ok (.iload 10, 2) := by decide +kernel
theorem dNOK_371 : decode method_5_code 371 = .ok (.ifCond .eq 21, 3) := by decide +kernel
theorem dNOK_374 : decode method_5_code 374 = .ok (.aload_n 0, 1) := by decide +kernel
theorem dNOK_375 : decode method_5_code 375 = .ok (.iload 9, 2) := by decide +kernel
theorem dNOK_377 : decode method_5_code 377 = .ok (.bipush 8, 2) := by decide +kernel
theorem dNOK_379 : decode method_5_code 379 = .ok (.isub, 1) := by decide +kernel
theorem dNOK_380 : decode method_5_code 380 = .ok (.lload 11, 2) := by decide +kernel
theorem dNOK_382 : decode method_5_code 382 = .ok (.invokestatic 57, 3) := by decide +kernel
theorem dNOK_385 : decode method_5_code 385 = .ok (.ifCond .eq 7, 3) := by decide +kernel
theorem dNOK_388 : decode method_5_code 388 = .ok (.iconst 1, 1) := by decide +kernel
theorem dNOK_389 : decode method_5_code 389 = .ok (.goto 4, 3) := by decide +kernel
theorem dNOK_392 : decode method_5_code 392 = .ok (.iconst 0, 1) := by decide +kernel
theorem dNOK_393 : decode method_5_code 393 = .ok (.istore 10, 2) := by decide +kernel
theorem dNOK_395 : decode method_5_code 395 = .ok (.lload 11, 2) := by decide +kernel
theorem dNOK_397 : decode method_5_code 397 = .ok (.ldc2_w 55, 3) := by decide +kernel
theorem dNOK_400 : decode method_5_code 400 = .ok (.ldiv, 1) := by decide +kernel
theorem dNOK_401 : decode method_5_code 401 = .ok (.lstore 11, 2) := by decide +kernel
theorem dNOK_403 : decode method_5_code 403 = .ok (.iload 7, 2) := by decide +kernel
theorem dNOK_405 : decode method_5_code 405 = .ok (.bipush 9, 2) := by decide +kernel
theorem dNOK_407 : decode method_5_code 407 = .ok (.if_icmp .le 29, 3) := by decide +kernel
theorem dNOK_410 : decode method_5_code 410 = .ok (.iload 10, 2) := by decide +kernel
theorem dNOK_412 : decode method_5_code 412 = .ok (.ifCond .eq 21, 3) := by decide +kernel
theorem dNOK_415 : decode method_5_code 415 = .ok (.aload_n 0, 1) := by decide +kernel
theorem dNOK_416 : decode method_5_code 416 = .ok (.iload 9, 2) := by decide +kernel
theorem dNOK_418 : decode method_5_code 418 = .ok (.bipush 9, 2) := by decide +kernel
theorem dNOK_420 : decode method_5_code 420 = .ok (.isub, 1) := by decide +kernel
theorem dNOK_421 : decode method_5_code 421 = .ok (.lload 11, 2) := by decide +kernel
theorem dNOK_423 : decode method_5_code 423 = .ok (.invokestatic 57, 3) := by decide +kernel
theorem dNOK_426 : decode method_5_code 426 = .ok (.ifCond .eq 7, 3) := by decide +kernel
theorem dNOK_429 : decode method_5_code 429 = .ok (.iconst 1, 1) := by decide +kernel
theorem dNOK_430 : decode method_5_code 430 = .ok (.goto 4, 3) := by decide +kernel
theorem dNOK_433 : decode method_5_code 433 = .ok (.iconst 0, 1) := by decide +kernel
theorem dNOK_434 : decode method_5_code 434 = .ok (.istore 10, 2) := by decide +kernel
theorem dNOK_436 : decode method_5_code 436 = .ok (.lload 11, 2) := by decide +kernel
theorem dNOK_438 : decode method_5_code 438 = .ok (.ldc2_w 55, 3) := by decide +kernel
theorem dNOK_441 : decode method_5_code 441 = .ok (.ldiv, 1) := by decide +kernel
theorem dNOK_442 : decode method_5_code 442 = .ok (.lstore 11, 2) := by decide +kernel
theorem dNOK_444 : decode method_5_code 444 = .ok (.iload 7, 2) := by decide +kernel
theorem dNOK_446 : decode method_5_code 446 = .ok (.bipush 10, 2) := by decide +kernel
theorem dNOK_448 : decode method_5_code 448 = .ok (.if_icmp .le 29, 3) := by decide +kernel
theorem dNOK_451 : decode method_5_code 451 = .ok (.iload 10, 2) := by decide +kernel
theorem dNOK_453 : decode method_5_code 453 = .ok (.ifCond .eq 21, 3) := by decide +kernel
theorem dNOK_456 : decode method_5_code 456 = .ok (.aload_n 0, 1) := by decide +kernel
theorem dNOK_457 : decode method_5_code 457 = .ok (.iload 9, 2) := by decide +kernel
theorem dNOK_459 : decode method_5_code 459 = .ok (.bipush 10, 2) := by decide +kernel
theorem dNOK_461 : decode method_5_code 461 = .ok (.isub, 1) := by decide +kernel
theorem dNOK_462 : decode method_5_code 462 = .ok (.lload 11, 2) := by decide +kernel
theorem dNOK_464 : decode method_5_code 464 = .ok (.invokestatic 57, 3) := by decide +kernel
theorem dNOK_467 : decode method_5_code 467 = .ok (.ifCond .eq 7, 3) := by decide +kernel
theorem dNOK_470 : decode method_5_code 470 = .ok (.iconst 1, 1) := by decide +kernel
theorem dNOK_471 : decode method_5_code 471 = .ok (.goto 4, 3) := by decide +kernel
theorem dNOK_474 : decode method_5_code 474 = .ok (.iconst 0, 1) := by decide +kernel
theorem dNOK_475 : decode method_5_code 475 = .ok (.istore 10, 2) := by decide +kernel
theorem dNOK_477 : decode method_5_code 477 = .ok (.lload 11, 2) := by decide +kernel
theorem dNOK_479 : decode method_5_code 479 = .ok (.ldc2_w 55, 3) := by decide +kernel
theorem dNOK_482 : decode method_5_code 482 = .ok (.ldiv, 1) := by decide +kernel
theorem dNOK_483 : decode method_5_code 483 = .ok (.lstore 11, 2) := by decide +kernel
theorem dNOK_485 : decode method_5_code 485 = .ok (.iload 7, 2) := by decide +kernel
theorem dNOK_487 : decode method_5_code 487 = .ok (.bipush 11, 2) := by decide +kernel
theorem dNOK_489 : decode method_5_code 489 = .ok (.if_icmp .le 29, 3) := by decide +kernel
theorem dNOK_492 : decode method_5_code 492 = .ok (.iload 10, 2) := by decide +kernel
theorem dNOK_494 : decode method_5_code 494 = .ok (.ifCond .eq 21, 3) := by decide +kernel
theorem dNOK_497 : decode method_5_code 497 = .ok (.aload_n 0, 1) := by decide +kernel
theorem dNOK_498 : decode method_5_code 498 = .ok (.iload 9, 2) := by decide +kernel
theorem dNOK_500 : decode method_5_code 500 = .ok (.bipush 11, 2) := by decide +kernel
theorem dNOK_502 : decode method_5_code 502 = .ok (.isub, 1) := by decide +kernel
theorem dNOK_503 : decode method_5_code 503 = .ok (.lload 11, 2) := by decide +kernel
theorem dNOK_505 : decode method_5_code 505 = .ok (.invokestatic 57, 3) := by decide +kernel
theorem dNOK_508 : decode method_5_code 508 = .ok (.ifCond .eq 7, 3) := by decide +kernel
theorem dNOK_511 : decode method_5_code 511 = .ok (.iconst 1, 1) := by decide +kernel
theorem dNOK_512 : decode method_5_code 512 = .ok (.goto 4, 3) := by decide +kernel
theorem dNOK_515 : decode method_5_code 515 = .ok (.iconst 0, 1) := by decide +kernel
theorem dNOK_516 : decode method_5_code 516 = .ok (.istore 10, 2) := by decide +kernel
theorem dNOK_518 : decode method_5_code 518 = .ok (.lload 11, 2) := by decide +kernel
theorem dNOK_520 : decode method_5_code 520 = .ok (.ldc2_w 55, 3) := by decide +kernel
theorem dNOK_523 : decode method_5_code 523 = .ok (.ldiv, 1) := by decide +kernel
theorem dNOK_524 : decode method_5_code 524 = .ok (.lstore 11, 2) := by decide +kernel
theorem dNOK_526 : decode method_5_code 526 = .ok (.iload 7, 2) := by decide +kernel
theorem dNOK_528 : decode method_5_code 528 = .ok (.bipush 12, 2) := by decide +kernel
theorem dNOK_530 : decode method_5_code 530 = .ok (.if_icmp .le 29, 3) := by decide +kernel
theorem dNOK_533 : decode method_5_code 533 = .ok (.iload 10, 2) := by decide +kernel
theorem dNOK_535 : decode method_5_code 535 = .ok (.ifCond .eq 21, 3) := by decide +kernel
theorem dNOK_538 : decode method_5_code 538 = .ok (.aload_n 0, 1) := by decide +kernel
theorem dNOK_539 : decode method_5_code 539 = .ok (.iload 9, 2) := by decide +kernel
theorem dNOK_541 : decode method_5_code 541 = .ok (.bipush 12, 2) := by decide +kernel
theorem dNOK_543 : decode method_5_code 543 = .ok (.isub, 1) := by decide +kernel
theorem dNOK_544 : decode method_5_code 544 = .ok (.lload 11, 2) := by decide +kernel
theorem dNOK_546 : decode method_5_code 546 = .ok (.invokestatic 57, 3) := by decide +kernel
theorem dNOK_549 : decode method_5_code 549 = .ok (.ifCond .eq 7, 3) := by decide +kernel
theorem dNOK_552 : decode method_5_code 552 = .ok (.iconst 1, 1) := by decide +kernel
theorem dNOK_553 : decode method_5_code 553 = .ok (.goto 4, 3) := by decide +kernel
theorem dNOK_556 : decode method_5_code 556 = .ok (.iconst 0, 1) := by decide +kernel
theorem dNOK_557 : decode method_5_code 557 = .ok (.istore 10, 2) := by decide +kernel
theorem dNOK_559 : decode method_5_code 559 = .ok (.lload 11, 2) := by decide +kernel
theorem dNOK_561 : decode method_5_code 561 = .ok (.ldc2_w 55, 3) := by decide +kernel
theorem dNOK_564 : decode method_5_code 564 = .ok (.ldiv, 1) := by decide +kernel
theorem dNOK_565 : decode method_5_code 565 = .ok (.lstore 11, 2) := by decide +kernel
theorem dNOK_567 : decode method_5_code 567 = .ok (.iload 7, 2) := by decide +kernel
theorem dNOK_569 : decode method_5_code 569 = .ok (.bipush 13, 2) := by decide +kernel
theorem dNOK_571 : decode method_5_code 571 = .ok (.if_icmp .le 29, 3) := by decide +kernel
theorem dNOK_574 : decode method_5_code 574 = .ok (.iload 10, 2) := by decide +kernel
theorem dNOK_576 : decode method_5_code 576 = .ok (.ifCond .eq 21, 3) := by decide +kernel
theorem dNOK_579 : decode method_5_code 579 = .ok (.aload_n 0, 1) := by decide +kernel
theorem dNOK_580 : decode method_5_code 580 = .ok (.iload 9, 2) := by decide +kernel
theorem dNOK_582 : decode method_5_code 582 = .ok (.bipush 13, 2) := by decide +kernel
theorem dNOK_584 : decode method_5_code 584 = .ok (.isub, 1) := by decide +kernel
theorem dNOK_585 : decode method_5_code 585 = .ok (.lload 11, 2) := by decide +kernel
theorem dNOK_587 : decode method_5_code 587 = .ok (.invokestatic 57, 3) := by decide +kernel
theorem dNOK_590 : decode method_5_code 590 = .ok (.ifCond .eq 7, 3) := by decide +kernel
theorem dNOK_593 : decode method_5_code 593 = .ok (.iconst 1, 1) := by decide +kernel
theorem dNOK_594 : decode method_5_code 594 = .ok (.goto 4, 3) := by decide +kernel
theorem dNOK_597 : decode method_5_code 597 = .ok (.iconst 0, 1) := by decide +kernel
theorem dNOK_598 : decode method_5_code 598 = .ok (.istore 10, 2) := by decide +kernel
theorem dNOK_600 : decode method_5_code 600 = .ok (.lload 11, 2) := by decide +kernel
theorem dNOK_602 : decode method_5_code 602 = .ok (.ldc2_w 55, 3) := by decide +kernel
theorem dNOK_605 : decode method_5_code 605 = .ok (.ldiv, 1) := by decide +kernel
theorem dNOK_606 : decode method_5_code 606 = .ok (.lstore 11, 2) := by decide +kernel
theorem dNOK_608 : decode method_5_code 608 = .ok (.iload 7, 2) := by decide +kernel
theorem dNOK_610 : decode method_5_code 610 = .ok (.bipush 14, 2) := by decide +kernel
theorem dNOK_612 : decode method_5_code 612 = .ok (.if_icmp .le 29, 3) := by decide +kernel
theorem dNOK_615 : decode method_5_code 615 = .ok (.iload 10, 2) := by decide +kernel
theorem dNOK_617 : decode method_5_code 617 = .ok (.ifCond .eq 21, 3) := by decide +kernel
theorem dNOK_620 : decode method_5_code 620 = .ok (.aload_n 0, 1) := by decide +kernel
theorem dNOK_621 : decode method_5_code 621 = .ok (.iload 9, 2) := by decide +kernel
theorem dNOK_623 : decode method_5_code 623 = .ok (.bipush 14, 2) := by decide +kernel
theorem dNOK_625 : decode method_5_code 625 = .ok (.isub, 1) := by decide +kernel
theorem dNOK_626 : decode method_5_code 626 = .ok (.lload 11, 2) := by decide +kernel
theorem dNOK_628 : decode method_5_code 628 = .ok (.invokestatic 57, 3) := by decide +kernel
theorem dNOK_631 : decode method_5_code 631 = .ok (.ifCond .eq 7, 3) := by decide +kernel
theorem dNOK_634 : decode method_5_code 634 = .ok (.iconst 1, 1) := by decide +kernel
theorem dNOK_635 : decode method_5_code 635 = .ok (.goto 4, 3) := by decide +kernel
theorem dNOK_638 : decode method_5_code 638 = .ok (.iconst 0, 1) := by decide +kernel
theorem dNOK_639 : decode method_5_code 639 = .ok (.istore 10, 2) := by decide +kernel
theorem dNOK_641 : decode method_5_code 641 = .ok (.lload 11, 2) := by decide +kernel
theorem dNOK_643 : decode method_5_code 643 = .ok (.ldc2_w 55, 3) := by decide +kernel
theorem dNOK_646 : decode method_5_code 646 = .ok (.ldiv, 1) := by decide +kernel
theorem dNOK_647 : decode method_5_code 647 = .ok (.lstore 11, 2) := by decide +kernel
theorem dNOK_649 : decode method_5_code 649 = .ok (.iload 7, 2) := by decide +kernel
theorem dNOK_651 : decode method_5_code 651 = .ok (.bipush 15, 2) := by decide +kernel
theorem dNOK_653 : decode method_5_code 653 = .ok (.if_icmp .le 29, 3) := by decide +kernel
theorem dNOK_656 : decode method_5_code 656 = .ok (.iload 10, 2) := by decide +kernel
theorem dNOK_658 : decode method_5_code 658 = .ok (.ifCond .eq 21, 3) := by decide +kernel
theorem dNOK_661 : decode method_5_code 661 = .ok (.aload_n 0, 1) := by decide +kernel
theorem dNOK_662 : decode method_5_code 662 = .ok (.iload 9, 2) := by decide +kernel
theorem dNOK_664 : decode method_5_code 664 = .ok (.bipush 15, 2) := by decide +kernel
theorem dNOK_666 : decode method_5_code 666 = .ok (.isub, 1) := by decide +kernel
theorem dNOK_667 : decode method_5_code 667 = .ok (.lload 11, 2) := by decide +kernel
theorem dNOK_669 : decode method_5_code 669 = .ok (.invokestatic 57, 3) := by decide +kernel
theorem dNOK_672 : decode method_5_code 672 = .ok (.ifCond .eq 7, 3) := by decide +kernel
theorem dNOK_675 : decode method_5_code 675 = .ok (.iconst 1, 1) := by decide +kernel
theorem dNOK_676 : decode method_5_code 676 = .ok (.goto 4, 3) := by decide +kernel
theorem dNOK_679 : decode method_5_code 679 = .ok (.iconst 0, 1) := by decide +kernel
theorem dNOK_680 : decode method_5_code 680 = .ok (.istore 10, 2) := by decide +kernel
theorem dNOK_682 : decode method_5_code 682 = .ok (.lload 11, 2) := by decide +kernel
theorem dNOK_684 : decode method_5_code 684 = .ok (.ldc2_w 55, 3) := by decide +kernel
theorem dNOK_687 : decode method_5_code 687 = .ok (.ldiv, 1) := by decide +kernel
theorem dNOK_688 : decode method_5_code 688 = .ok (.lstore 11, 2) := by decide +kernel
theorem dNOK_690 : decode method_5_code 690 = .ok (.iload 7, 2) := by decide +kernel
theorem dNOK_692 : decode method_5_code 692 = .ok (.bipush 16, 2) := by decide +kernel
theorem dNOK_694 : decode method_5_code 694 = .ok (.if_icmp .le 29, 3) := by decide +kernel
theorem dNOK_697 : decode method_5_code 697 = .ok (.iload 10, 2) := by decide +kernel
theorem dNOK_699 : decode method_5_code 699 = .ok (.ifCond .eq 21, 3) := by decide +kernel
theorem dNOK_702 : decode method_5_code 702 = .ok (.aload_n 0, 1) := by decide +kernel
theorem dNOK_703 : decode method_5_code 703 = .ok (.iload 9, 2) := by decide +kernel
theorem dNOK_705 : decode method_5_code 705 = .ok (.bipush 16, 2) := by decide +kernel
theorem dNOK_707 : decode method_5_code 707 = .ok (.isub, 1) := by decide +kernel
theorem dNOK_708 : decode method_5_code 708 = .ok (.lload 11, 2) := by decide +kernel
theorem dNOK_710 : decode method_5_code 710 = .ok (.invokestatic 57, 3) := by decide +kernel
theorem dNOK_713 : decode method_5_code 713 = .ok (.ifCond .eq 7, 3) := by decide +kernel
theorem dNOK_716 : decode method_5_code 716 = .ok (.iconst 1, 1) := by decide +kernel
theorem dNOK_717 : decode method_5_code 717 = .ok (.goto 4, 3) := by decide +kernel
theorem dNOK_720 : decode method_5_code 720 = .ok (.iconst 0, 1) := by decide +kernel
theorem dNOK_721 : decode method_5_code 721 = .ok (.istore 10, 2) := by decide +kernel
theorem dNOK_723 : decode method_5_code 723 = .ok (.lload 11, 2) := by decide +kernel
theorem dNOK_725 : decode method_5_code 725 = .ok (.ldc2_w 55, 3) := by decide +kernel
theorem dNOK_728 : decode method_5_code 728 = .ok (.ldiv, 1) := by decide +kernel
theorem dNOK_729 : decode method_5_code 729 = .ok (.lstore 11, 2) := by decide +kernel
theorem dNOK_731 : decode method_5_code 731 = .ok (.iload 7, 2) := by decide +kernel
theorem dNOK_733 : decode method_5_code 733 = .ok (.bipush 17, 2) := by decide +kernel
theorem dNOK_735 : decode method_5_code 735 = .ok (.if_icmp .le 29, 3) := by decide +kernel
theorem dNOK_738 : decode method_5_code 738 = .ok (.iload 10, 2) := by decide +kernel
theorem dNOK_740 : decode method_5_code 740 = .ok (.ifCond .eq 21, 3) := by decide +kernel
theorem dNOK_743 : decode method_5_code 743 = .ok (.aload_n 0, 1) := by decide +kernel
theorem dNOK_744 : decode method_5_code 744 = .ok (.iload 9, 2) := by decide +kernel
theorem dNOK_746 : decode method_5_code 746 = .ok (.bipush 17, 2) := by decide +kernel
theorem dNOK_748 : decode method_5_code 748 = .ok (.isub, 1) := by decide +kernel
theorem dNOK_749 : decode method_5_code 749 = .ok (.lload 11, 2) := by decide +kernel
theorem dNOK_751 : decode method_5_code 751 = .ok (.invokestatic 57, 3) := by decide +kernel
theorem dNOK_754 : decode method_5_code 754 = .ok (.ifCond .eq 7, 3) := by decide +kernel
theorem dNOK_757 : decode method_5_code 757 = .ok (.iconst 1, 1) := by decide +kernel
theorem dNOK_758 : decode method_5_code 758 = .ok (.goto 4, 3) := by decide +kernel
theorem dNOK_761 : decode method_5_code 761 = .ok (.iconst 0, 1) := by decide +kernel
theorem dNOK_762 : decode method_5_code 762 = .ok (.istore 10, 2) := by decide +kernel
theorem dNOK_764 : decode method_5_code 764 = .ok (.lload 11, 2) := by decide +kernel
theorem dNOK_766 : decode method_5_code 766 = .ok (.ldc2_w 55, 3) := by decide +kernel
theorem dNOK_769 : decode method_5_code 769 = .ok (.ldiv, 1) := by decide +kernel
theorem dNOK_770 : decode method_5_code 770 = .ok (.lstore 11, 2) := by decide +kernel
theorem dNOK_772 : decode method_5_code 772 = .ok (.iload 7, 2) := by decide +kernel
theorem dNOK_774 : decode method_5_code 774 = .ok (.bipush 18, 2) := by decide +kernel
theorem dNOK_776 : decode method_5_code 776 = .ok (.if_icmp .le 29, 3) := by decide +kernel
theorem dNOK_779 : decode method_5_code 779 = .ok (.iload 10, 2) := by decide +kernel
theorem dNOK_781 : decode method_5_code 781 = .ok (.ifCond .eq 21, 3) := by decide +kernel
theorem dNOK_784 : decode method_5_code 784 = .ok (.aload_n 0, 1) := by decide +kernel
theorem dNOK_785 : decode method_5_code 785 = .ok (.iload 9, 2) := by decide +kernel
theorem dNOK_787 : decode method_5_code 787 = .ok (.bipush 18, 2) := by decide +kernel
theorem dNOK_789 : decode method_5_code 789 = .ok (.isub, 1) := by decide +kernel
theorem dNOK_790 : decode method_5_code 790 = .ok (.lload 11, 2) := by decide +kernel
theorem dNOK_792 : decode method_5_code 792 = .ok (.invokestatic 57, 3) := by decide +kernel
theorem dNOK_795 : decode method_5_code 795 = .ok (.ifCond .eq 7, 3) := by decide +kernel
theorem dNOK_798 : decode method_5_code 798 = .ok (.iconst 1, 1) := by decide +kernel
theorem dNOK_799 : decode method_5_code 799 = .ok (.goto 4, 3) := by decide +kernel
theorem dNOK_802 : decode method_5_code 802 = .ok (.iconst 0, 1) := by decide +kernel
theorem dNOK_803 : decode method_5_code 803 = .ok (.istore 10, 2) := by decide +kernel
theorem dNOK_805 : decode method_5_code 805 = .ok (.iload 10, 2) := by decide +kernel
theorem dNOK_807 : decode method_5_code 807 = .ok (.ireturn, 1) := by decide +kernel
theorem pnNOK : plainFor (⟨"com/example/orunmila/orunmila/LocationToStringPinLaw", "numOk", "(Ljava/lang/String;IJ)Z"⟩ : MethodName) = true := plainFor_of_name (by first | (simp [plainName, overriddenIn]; done) | decide +kernel)
set_option maxRecDepth 65536 in
set_option maxHeartbeats 40000000 in
theorem step_NOK1 (hw : ∀ d ∈ tables_1, d.before a0 Z = true) {cz : Int32} (hc : Compact Z cz) {vf : Value} (hf : Fmt Z vf) {a t : Addr} {us : List UInt16} (hlat : lat us = true) (S : StrAt Z h a t us) {x n : Int64} {M e : Nat} {p0 ng st : Int32} (he : (digs M).length ≤ e + 1) (he2 : e < 2 ^ 31) (h19 : (digs M).length ≤ 19) (hg : ∀ k, k < (digs M).length → us[e - k]? = some (dgc (M / 10 ^ k))) (K : ∀ m : Int64, m.toInt = -((M / 100 : Nat) : Int) → WP "com/example/orunmila/orunmila/LocationToStringPinLaw" method_5_code 13 (some .boolean) "numOk" { frames := 6, cells := 0, slots := 0, locals := 81 } Z LT h [] mine (fun v h' nw => nw = [] ∧ v = some (.int 1) ∧ h' = h) mine 0 0 h 124 [.val (.ref a), .val (.int p0), .val (.long x), .second, .val (.int ng), .val (.long n), .second, .val (.int (Int32.ofNat (digs M).length)), .val (.int st), .val (.int (Int32.ofNat e)), .val (.int 1), .val (.long m), .second] []) :
    ∀ m : Int64, m.toInt = -((M / 10 : Nat) : Int) → WP "com/example/orunmila/orunmila/LocationToStringPinLaw" method_5_code 13 (some .boolean) "numOk" { frames := 6, cells := 0, slots := 0, locals := 81 } Z LT h [] mine (fun v h' nw => nw = [] ∧ v = some (.int 1) ∧ h' = h) mine 0 0 h 85 [.val (.ref a), .val (.int p0), .val (.long x), .second, .val (.int ng), .val (.long n), .second, .val (.int (Int32.ofNat (digs M).length)), .val (.int st), .val (.int (Int32.ofNat e)), .val (.int 1), .val (.long m), .second] [] := by
  intro m hm
  have J : WP "com/example/orunmila/orunmila/LocationToStringPinLaw" method_5_code 13 (some .boolean) "numOk" { frames := 6, cells := 0, slots := 0, locals := 81 } Z LT h [] mine (fun v h' nw => nw = [] ∧ v = some (.int 1) ∧ h' = h) mine 0 0 h 116 [.val (.ref a), .val (.int p0), .val (.long x), .second, .val (.int ng), .val (.long n), .second, .val (.int (Int32.ofNat (digs M).length)), .val (.int st), .val (.int (Int32.ofNat e)), .val (.int 1), .val (.long m), .second] [] := by
    refine WP.lload (pc' := 118) dNOK_116 rfl rfl ?_
    refine WP.ldc2Long (pc' := 121) dNOK_118 (hw _ (List.mem_of_getElem? (i := 283) rfl)) rfl ?_
    refine WP.ldiv (pc' := 122) dNOK_121 (by decide) rfl ?_
    first | refine WP.lstore (pc' := 124) dNOK_122 rfl rfl rfl rfl ?_ | refine WP.lstoreL (pc' := 124) dNOK_122 rfl rfl rfl rfl ?_
    dsimp only [List.set]
    exact K (m / 10) (by have q := l_div (d := 10) hm (y := 10) (by decide) (by decide); rw [q, Nat.div_div_eq_div_mul])
  refine WP.iload (pc' := 87) dNOK_85 rfl rfl ?_
  refine WP.iconst (pc' := 88) (x := 1) dNOK_87 (by decide) rfl ?_
  by_cases hk : 1 < (digs M).length
  · refine WP.icmpF (pc' := 91) dNOK_88 rfl ((n32_lt (i := 1) (by omega) (by omega)).mpr hk) ?_
    refine WP.iload (pc' := 93) dNOK_91 rfl rfl ?_
    refine WP.ifF (pc' := 96) dNOK_93 rfl (show ¬ (1 : Int32) = 0 by decide) ?_
    refine WP.aloadN (pc' := 97) dNOK_96 rfl rfl rfl ?_
    refine WP.iload (pc' := 99) dNOK_97 rfl rfl ?_
    refine WP.iconst (pc' := 100) (x := 1) dNOK_99 (by decide) rfl ?_
    refine WP.isub (pc' := 101) dNOK_100 rfl ?_
    rw [show Int32.ofNat e - 1 = Int32.ofNat (e - 1) from n32_sub (k := 1) (by omega) he2]
    refine WP.lload (pc' := 103) dNOK_101 rfl rfl ?_
    refine WP.callS (pc' := 106) (con_DIG hw hc hf hlat S hm (hg 1 hk)) (hw _ (List.mem_of_getElem? (i := 280) rfl)) (hw _ (List.mem_of_getElem? (i := 281) rfl)) (hw _ (List.mem_of_getElem? (i := 231) rfl)) (hw _ (List.mem_of_getElem? (i := 282) rfl)) dNOK_103 (by decide) pdx29 rfl rfl rfl (by first | exact Nat.le_of_ble_eq_true rfl | omega | (simp; done) | (simp; omega) | (dsimp only; omega)) (by first | exact Nat.le_of_ble_eq_true rfl | omega | (simp; done) | (simp; omega) | (dsimp only; omega)) (by first | exact Nat.le_of_ble_eq_true rfl | omega | (simp; done) | (simp; omega) | (dsimp only; omega)) (by first | exact Nat.le_of_ble_eq_true rfl | omega | (simp; done) | (simp; omega) | (dsimp only; omega)) (fun _ hx => nomatch hx) rfl ?_
    rintro v h' nw K' hnw ⟨rfl, rfl, rfl⟩
    dsimp only [Option.toList, List.cons_append, List.nil_append]
    refine WP.ifF (pc' := 109) dNOK_106 rfl (show ¬ (1 : Int32) = 0 by decide) ?_
    refine WP.iconst (pc' := 110) (x := 1) dNOK_109 (by decide) rfl ?_
    refine WP.goto (pc' := 114) dNOK_110 (by decide) (by decide) ?_
    refine WP.istore (pc' := 116) dNOK_114 rfl rfl rfl ?_
    dsimp only [List.set]
    exact J
  · refine WP.icmpT (pc' := 116) dNOK_88 (by decide) (by decide) (fun q => hk ((n32_lt (i := 1) (by omega) (by omega)).mp q)) ?_
    exact J
set_option maxRecDepth 65536 in
set_option maxHeartbeats 40000000 in
theorem step_NOK2 (hw : ∀ d ∈ tables_1, d.before a0 Z = true) {cz : Int32} (hc : Compact Z cz) {vf : Value} (hf : Fmt Z vf) {a t : Addr} {us : List UInt16} (hlat : lat us = true) (S : StrAt Z h a t us) {x n : Int64} {M e : Nat} {p0 ng st : Int32} (he : (digs M).length ≤ e + 1) (he2 : e < 2 ^ 31) (h19 : (digs M).length ≤ 19) (hg : ∀ k, k < (digs M).length → us[e - k]? = some (dgc (M / 10 ^ k))) (K : ∀ m : Int64, m.toInt = -((M / 1000 : Nat) : Int) → WP "com/example/orunmila/orunmila/LocationToStringPinLaw" method_5_code 13 (some .boolean) "numOk" { frames := 6, cells := 0, slots := 0, locals := 81 } Z LT h [] mine (fun v h' nw => nw = [] ∧ v = some (.int 1) ∧ h' = h) mine 0 0 h 163 [.val (.ref a), .val (.int p0), .val (.long x), .second, .val (.int ng), .val (.long n), .second, .val (.int (Int32.ofNat (digs M).length)), .val (.int st), .val (.int (Int32.ofNat e)), .val (.int 1), .val (.long m), .second] []) :
    ∀ m : Int64, m.toInt = -((M / 100 : Nat) : Int) → WP "com/example/orunmila/orunmila/LocationToStringPinLaw" method_5_code 13 (some .boolean) "numOk" { frames := 6, cells := 0, slots := 0, locals := 81 } Z LT h [] mine (fun v h' nw => nw = [] ∧ v = some (.int 1) ∧ h' = h) mine 0 0 h 124 [.val (.ref a), .val (.int p0), .val (.long x), .second, .val (.int ng), .val (.long n), .second, .val (.int (Int32.ofNat (digs M).length)), .val (.int st), .val (.int (Int32.ofNat e)), .val (.int 1), .val (.long m), .second] [] := by
  intro m hm
  have J : WP "com/example/orunmila/orunmila/LocationToStringPinLaw" method_5_code 13 (some .boolean) "numOk" { frames := 6, cells := 0, slots := 0, locals := 81 } Z LT h [] mine (fun v h' nw => nw = [] ∧ v = some (.int 1) ∧ h' = h) mine 0 0 h 155 [.val (.ref a), .val (.int p0), .val (.long x), .second, .val (.int ng), .val (.long n), .second, .val (.int (Int32.ofNat (digs M).length)), .val (.int st), .val (.int (Int32.ofNat e)), .val (.int 1), .val (.long m), .second] [] := by
    refine WP.lload (pc' := 157) dNOK_155 rfl rfl ?_
    refine WP.ldc2Long (pc' := 160) dNOK_157 (hw _ (List.mem_of_getElem? (i := 283) rfl)) rfl ?_
    refine WP.ldiv (pc' := 161) dNOK_160 (by decide) rfl ?_
    first | refine WP.lstore (pc' := 163) dNOK_161 rfl rfl rfl rfl ?_ | refine WP.lstoreL (pc' := 163) dNOK_161 rfl rfl rfl rfl ?_
    dsimp only [List.set]
    exact K (m / 10) (by have q := l_div (d := 10) hm (y := 10) (by decide) (by decide); rw [q, Nat.div_div_eq_div_mul])
  refine WP.iload (pc' := 126) dNOK_124 rfl rfl ?_
  refine WP.iconst (pc' := 127) (x := 2) dNOK_126 (by decide) rfl ?_
  by_cases hk : 2 < (digs M).length
  · refine WP.icmpF (pc' := 130) dNOK_127 rfl ((n32_lt (i := 2) (by omega) (by omega)).mpr hk) ?_
    refine WP.iload (pc' := 132) dNOK_130 rfl rfl ?_
    refine WP.ifF (pc' := 135) dNOK_132 rfl (show ¬ (1 : Int32) = 0 by decide) ?_
    refine WP.aloadN (pc' := 136) dNOK_135 rfl rfl rfl ?_
    refine WP.iload (pc' := 138) dNOK_136 rfl rfl ?_
    refine WP.iconst (pc' := 139) (x := 2) dNOK_138 (by decide) rfl ?_
    refine WP.isub (pc' := 140) dNOK_139 rfl ?_
    rw [show Int32.ofNat e - 2 = Int32.ofNat (e - 2) from n32_sub (k := 2) (by omega) he2]
    refine WP.lload (pc' := 142) dNOK_140 rfl rfl ?_
    refine WP.callS (pc' := 145) (con_DIG hw hc hf hlat S hm (hg 2 hk)) (hw _ (List.mem_of_getElem? (i := 280) rfl)) (hw _ (List.mem_of_getElem? (i := 281) rfl)) (hw _ (List.mem_of_getElem? (i := 231) rfl)) (hw _ (List.mem_of_getElem? (i := 282) rfl)) dNOK_142 (by decide) pdx29 rfl rfl rfl (by first | exact Nat.le_of_ble_eq_true rfl | omega | (simp; done) | (simp; omega) | (dsimp only; omega)) (by first | exact Nat.le_of_ble_eq_true rfl | omega | (simp; done) | (simp; omega) | (dsimp only; omega)) (by first | exact Nat.le_of_ble_eq_true rfl | omega | (simp; done) | (simp; omega) | (dsimp only; omega)) (by first | exact Nat.le_of_ble_eq_true rfl | omega | (simp; done) | (simp; omega) | (dsimp only; omega)) (fun _ hx => nomatch hx) rfl ?_
    rintro v h' nw K' hnw ⟨rfl, rfl, rfl⟩
    dsimp only [Option.toList, List.cons_append, List.nil_append]
    refine WP.ifF (pc' := 148) dNOK_145 rfl (show ¬ (1 : Int32) = 0 by decide) ?_
    refine WP.iconst (pc' := 149) (x := 1) dNOK_148 (by decide) rfl ?_
    refine WP.goto (pc' := 153) dNOK_149 (by decide) (by decide) ?_
    refine WP.istore (pc' := 155) dNOK_153 rfl rfl rfl ?_
    dsimp only [List.set]
    exact J
  · refine WP.icmpT (pc' := 155) dNOK_127 (by decide) (by decide) (fun q => hk ((n32_lt (i := 2) (by omega) (by omega)).mp q)) ?_
    exact J
set_option maxRecDepth 65536 in
set_option maxHeartbeats 40000000 in
theorem step_NOK3 (hw : ∀ d ∈ tables_1, d.before a0 Z = true) {cz : Int32} (hc : Compact Z cz) {vf : Value} (hf : Fmt Z vf) {a t : Addr} {us : List UInt16} (hlat : lat us = true) (S : StrAt Z h a t us) {x n : Int64} {M e : Nat} {p0 ng st : Int32} (he : (digs M).length ≤ e + 1) (he2 : e < 2 ^ 31) (h19 : (digs M).length ≤ 19) (hg : ∀ k, k < (digs M).length → us[e - k]? = some (dgc (M / 10 ^ k))) (K : ∀ m : Int64, m.toInt = -((M / 10000 : Nat) : Int) → WP "com/example/orunmila/orunmila/LocationToStringPinLaw" method_5_code 13 (some .boolean) "numOk" { frames := 6, cells := 0, slots := 0, locals := 81 } Z LT h [] mine (fun v h' nw => nw = [] ∧ v = some (.int 1) ∧ h' = h) mine 0 0 h 202 [.val (.ref a), .val (.int p0), .val (.long x), .second, .val (.int ng), .val (.long n), .second, .val (.int (Int32.ofNat (digs M).length)), .val (.int st), .val (.int (Int32.ofNat e)), .val (.int 1), .val (.long m), .second] []) :
    ∀ m : Int64, m.toInt = -((M / 1000 : Nat) : Int) → WP "com/example/orunmila/orunmila/LocationToStringPinLaw" method_5_code 13 (some .boolean) "numOk" { frames := 6, cells := 0, slots := 0, locals := 81 } Z LT h [] mine (fun v h' nw => nw = [] ∧ v = some (.int 1) ∧ h' = h) mine 0 0 h 163 [.val (.ref a), .val (.int p0), .val (.long x), .second, .val (.int ng), .val (.long n), .second, .val (.int (Int32.ofNat (digs M).length)), .val (.int st), .val (.int (Int32.ofNat e)), .val (.int 1), .val (.long m), .second] [] := by
  intro m hm
  have J : WP "com/example/orunmila/orunmila/LocationToStringPinLaw" method_5_code 13 (some .boolean) "numOk" { frames := 6, cells := 0, slots := 0, locals := 81 } Z LT h [] mine (fun v h' nw => nw = [] ∧ v = some (.int 1) ∧ h' = h) mine 0 0 h 194 [.val (.ref a), .val (.int p0), .val (.long x), .second, .val (.int ng), .val (.long n), .second, .val (.int (Int32.ofNat (digs M).length)), .val (.int st), .val (.int (Int32.ofNat e)), .val (.int 1), .val (.long m), .second] [] := by
    refine WP.lload (pc' := 196) dNOK_194 rfl rfl ?_
    refine WP.ldc2Long (pc' := 199) dNOK_196 (hw _ (List.mem_of_getElem? (i := 283) rfl)) rfl ?_
    refine WP.ldiv (pc' := 200) dNOK_199 (by decide) rfl ?_
    first | refine WP.lstore (pc' := 202) dNOK_200 rfl rfl rfl rfl ?_ | refine WP.lstoreL (pc' := 202) dNOK_200 rfl rfl rfl rfl ?_
    dsimp only [List.set]
    exact K (m / 10) (by have q := l_div (d := 10) hm (y := 10) (by decide) (by decide); rw [q, Nat.div_div_eq_div_mul])
  refine WP.iload (pc' := 165) dNOK_163 rfl rfl ?_
  refine WP.iconst (pc' := 166) (x := 3) dNOK_165 (by decide) rfl ?_
  by_cases hk : 3 < (digs M).length
  · refine WP.icmpF (pc' := 169) dNOK_166 rfl ((n32_lt (i := 3) (by omega) (by omega)).mpr hk) ?_
    refine WP.iload (pc' := 171) dNOK_169 rfl rfl ?_
    refine WP.ifF (pc' := 174) dNOK_171 rfl (show ¬ (1 : Int32) = 0 by decide) ?_
    refine WP.aloadN (pc' := 175) dNOK_174 rfl rfl rfl ?_
    refine WP.iload (pc' := 177) dNOK_175 rfl rfl ?_
    refine WP.iconst (pc' := 178) (x := 3) dNOK_177 (by decide) rfl ?_
    refine WP.isub (pc' := 179) dNOK_178 rfl ?_
    rw [show Int32.ofNat e - 3 = Int32.ofNat (e - 3) from n32_sub (k := 3) (by omega) he2]
    refine WP.lload (pc' := 181) dNOK_179 rfl rfl ?_
    refine WP.callS (pc' := 184) (con_DIG hw hc hf hlat S hm (hg 3 hk)) (hw _ (List.mem_of_getElem? (i := 280) rfl)) (hw _ (List.mem_of_getElem? (i := 281) rfl)) (hw _ (List.mem_of_getElem? (i := 231) rfl)) (hw _ (List.mem_of_getElem? (i := 282) rfl)) dNOK_181 (by decide) pdx29 rfl rfl rfl (by first | exact Nat.le_of_ble_eq_true rfl | omega | (simp; done) | (simp; omega) | (dsimp only; omega)) (by first | exact Nat.le_of_ble_eq_true rfl | omega | (simp; done) | (simp; omega) | (dsimp only; omega)) (by first | exact Nat.le_of_ble_eq_true rfl | omega | (simp; done) | (simp; omega) | (dsimp only; omega)) (by first | exact Nat.le_of_ble_eq_true rfl | omega | (simp; done) | (simp; omega) | (dsimp only; omega)) (fun _ hx => nomatch hx) rfl ?_
    rintro v h' nw K' hnw ⟨rfl, rfl, rfl⟩
    dsimp only [Option.toList, List.cons_append, List.nil_append]
    refine WP.ifF (pc' := 187) dNOK_184 rfl (show ¬ (1 : Int32) = 0 by decide) ?_
    refine WP.iconst (pc' := 188) (x := 1) dNOK_187 (by decide) rfl ?_
    refine WP.goto (pc' := 192) dNOK_188 (by decide) (by decide) ?_
    refine WP.istore (pc' := 194) dNOK_192 rfl rfl rfl ?_
    dsimp only [List.set]
    exact J
  · refine WP.icmpT (pc' := 194) dNOK_166 (by decide) (by decide) (fun q => hk ((n32_lt (i := 3) (by omega) (by omega)).mp q)) ?_
    exact J
set_option maxRecDepth 65536 in
set_option maxHeartbeats 40000000 in
theorem step_NOK4 (hw : ∀ d ∈ tables_1, d.before a0 Z = true) {cz : Int32} (hc : Compact Z cz) {vf : Value} (hf : Fmt Z vf) {a t : Addr} {us : List UInt16} (hlat : lat us = true) (S : StrAt Z h a t us) {x n : Int64} {M e : Nat} {p0 ng st : Int32} (he : (digs M).length ≤ e + 1) (he2 : e < 2 ^ 31) (h19 : (digs M).length ≤ 19) (hg : ∀ k, k < (digs M).length → us[e - k]? = some (dgc (M / 10 ^ k))) (K : ∀ m : Int64, m.toInt = -((M / 100000 : Nat) : Int) → WP "com/example/orunmila/orunmila/LocationToStringPinLaw" method_5_code 13 (some .boolean) "numOk" { frames := 6, cells := 0, slots := 0, locals := 81 } Z LT h [] mine (fun v h' nw => nw = [] ∧ v = some (.int 1) ∧ h' = h) mine 0 0 h 241 [.val (.ref a), .val (.int p0), .val (.long x), .second, .val (.int ng), .val (.long n), .second, .val (.int (Int32.ofNat (digs M).length)), .val (.int st), .val (.int (Int32.ofNat e)), .val (.int 1), .val (.long m), .second] []) :
    ∀ m : Int64, m.toInt = -((M / 10000 : Nat) : Int) → WP "com/example/orunmila/orunmila/LocationToStringPinLaw" method_5_code 13 (some .boolean) "numOk" { frames := 6, cells := 0, slots := 0, locals := 81 } Z LT h [] mine (fun v h' nw => nw = [] ∧ v = some (.int 1) ∧ h' = h) mine 0 0 h 202 [.val (.ref a), .val (.int p0), .val (.long x), .second, .val (.int ng), .val (.long n), .second, .val (.int (Int32.ofNat (digs M).length)), .val (.int st), .val (.int (Int32.ofNat e)), .val (.int 1), .val (.long m), .second] [] := by
  intro m hm
  have J : WP "com/example/orunmila/orunmila/LocationToStringPinLaw" method_5_code 13 (some .boolean) "numOk" { frames := 6, cells := 0, slots := 0, locals := 81 } Z LT h [] mine (fun v h' nw => nw = [] ∧ v = some (.int 1) ∧ h' = h) mine 0 0 h 233 [.val (.ref a), .val (.int p0), .val (.long x), .second, .val (.int ng), .val (.long n), .second, .val (.int (Int32.ofNat (digs M).length)), .val (.int st), .val (.int (Int32.ofNat e)), .val (.int 1), .val (.long m), .second] [] := by
    refine WP.lload (pc' := 235) dNOK_233 rfl rfl ?_
    refine WP.ldc2Long (pc' := 238) dNOK_235 (hw _ (List.mem_of_getElem? (i := 283) rfl)) rfl ?_
    refine WP.ldiv (pc' := 239) dNOK_238 (by decide) rfl ?_
    first | refine WP.lstore (pc' := 241) dNOK_239 rfl rfl rfl rfl ?_ | refine WP.lstoreL (pc' := 241) dNOK_239 rfl rfl rfl rfl ?_
    dsimp only [List.set]
    exact K (m / 10) (by have q := l_div (d := 10) hm (y := 10) (by decide) (by decide); rw [q, Nat.div_div_eq_div_mul])
  refine WP.iload (pc' := 204) dNOK_202 rfl rfl ?_
  refine WP.iconst (pc' := 205) (x := 4) dNOK_204 (by decide) rfl ?_
  by_cases hk : 4 < (digs M).length
  · refine WP.icmpF (pc' := 208) dNOK_205 rfl ((n32_lt (i := 4) (by omega) (by omega)).mpr hk) ?_
    refine WP.iload (pc' := 210) dNOK_208 rfl rfl ?_
    refine WP.ifF (pc' := 213) dNOK_210 rfl (show ¬ (1 : Int32) = 0 by decide) ?_
    refine WP.aloadN (pc' := 214) dNOK_213 rfl rfl rfl ?_
    refine WP.iload (pc' := 216) dNOK_214 rfl rfl ?_
    refine WP.iconst (pc' := 217) (x := 4) dNOK_216 (by decide) rfl ?_
    refine WP.isub (pc' := 218) dNOK_217 rfl ?_
    rw [show Int32.ofNat e - 4 = Int32.ofNat (e - 4) from n32_sub (k := 4) (by omega) he2]
    refine WP.lload (pc' := 220) dNOK_218 rfl rfl ?_
    refine WP.callS (pc' := 223) (con_DIG hw hc hf hlat S hm (hg 4 hk)) (hw _ (List.mem_of_getElem? (i := 280) rfl)) (hw _ (List.mem_of_getElem? (i := 281) rfl)) (hw _ (List.mem_of_getElem? (i := 231) rfl)) (hw _ (List.mem_of_getElem? (i := 282) rfl)) dNOK_220 (by decide) pdx29 rfl rfl rfl (by first | exact Nat.le_of_ble_eq_true rfl | omega | (simp; done) | (simp; omega) | (dsimp only; omega)) (by first | exact Nat.le_of_ble_eq_true rfl | omega | (simp; done) | (simp; omega) | (dsimp only; omega)) (by first | exact Nat.le_of_ble_eq_true rfl | omega | (simp; done) | (simp; omega) | (dsimp only; omega)) (by first | exact Nat.le_of_ble_eq_true rfl | omega | (simp; done) | (simp; omega) | (dsimp only; omega)) (fun _ hx => nomatch hx) rfl ?_
    rintro v h' nw K' hnw ⟨rfl, rfl, rfl⟩
    dsimp only [Option.toList, List.cons_append, List.nil_append]
    refine WP.ifF (pc' := 226) dNOK_223 rfl (show ¬ (1 : Int32) = 0 by decide) ?_
    refine WP.iconst (pc' := 227) (x := 1) dNOK_226 (by decide) rfl ?_
    refine WP.goto (pc' := 231) dNOK_227 (by decide) (by decide) ?_
    refine WP.istore (pc' := 233) dNOK_231 rfl rfl rfl ?_
    dsimp only [List.set]
    exact J
  · refine WP.icmpT (pc' := 233) dNOK_205 (by decide) (by decide) (fun q => hk ((n32_lt (i := 4) (by omega) (by omega)).mp q)) ?_
    exact J
set_option maxRecDepth 65536 in
set_option maxHeartbeats 40000000 in
theorem step_NOK5 (hw : ∀ d ∈ tables_1, d.before a0 Z = true) {cz : Int32} (hc : Compact Z cz) {vf : Value} (hf : Fmt Z vf) {a t : Addr} {us : List UInt16} (hlat : lat us = true) (S : StrAt Z h a t us) {x n : Int64} {M e : Nat} {p0 ng st : Int32} (he : (digs M).length ≤ e + 1) (he2 : e < 2 ^ 31) (h19 : (digs M).length ≤ 19) (hg : ∀ k, k < (digs M).length → us[e - k]? = some (dgc (M / 10 ^ k))) (K : ∀ m : Int64, m.toInt = -((M / 1000000 : Nat) : Int) → WP "com/example/orunmila/orunmila/LocationToStringPinLaw" method_5_code 13 (some .boolean) "numOk" { frames := 6, cells := 0, slots := 0, locals := 81 } Z LT h [] mine (fun v h' nw => nw = [] ∧ v = some (.int 1) ∧ h' = h) mine 0 0 h 280 [.val (.ref a), .val (.int p0), .val (.long x), .second, .val (.int ng), .val (.long n), .second, .val (.int (Int32.ofNat (digs M).length)), .val (.int st), .val (.int (Int32.ofNat e)), .val (.int 1), .val (.long m), .second] []) :
    ∀ m : Int64, m.toInt = -((M / 100000 : Nat) : Int) → WP "com/example/orunmila/orunmila/LocationToStringPinLaw" method_5_code 13 (some .boolean) "numOk" { frames := 6, cells := 0, slots := 0, locals := 81 } Z LT h [] mine (fun v h' nw => nw = [] ∧ v = some (.int 1) ∧ h' = h) mine 0 0 h 241 [.val (.ref a), .val (.int p0), .val (.long x), .second, .val (.int ng), .val (.long n), .second, .val (.int (Int32.ofNat (digs M).length)), .val (.int st), .val (.int (Int32.ofNat e)), .val (.int 1), .val (.long m), .second] [] := by
  intro m hm
  have J : WP "com/example/orunmila/orunmila/LocationToStringPinLaw" method_5_code 13 (some .boolean) "numOk" { frames := 6, cells := 0, slots := 0, locals := 81 } Z LT h [] mine (fun v h' nw => nw = [] ∧ v = some (.int 1) ∧ h' = h) mine 0 0 h 272 [.val (.ref a), .val (.int p0), .val (.long x), .second, .val (.int ng), .val (.long n), .second, .val (.int (Int32.ofNat (digs M).length)), .val (.int st), .val (.int (Int32.ofNat e)), .val (.int 1), .val (.long m), .second] [] := by
    refine WP.lload (pc' := 274) dNOK_272 rfl rfl ?_
    refine WP.ldc2Long (pc' := 277) dNOK_274 (hw _ (List.mem_of_getElem? (i := 283) rfl)) rfl ?_
    refine WP.ldiv (pc' := 278) dNOK_277 (by decide) rfl ?_
    first | refine WP.lstore (pc' := 280) dNOK_278 rfl rfl rfl rfl ?_ | refine WP.lstoreL (pc' := 280) dNOK_278 rfl rfl rfl rfl ?_
    dsimp only [List.set]
    exact K (m / 10) (by have q := l_div (d := 10) hm (y := 10) (by decide) (by decide); rw [q, Nat.div_div_eq_div_mul])
  refine WP.iload (pc' := 243) dNOK_241 rfl rfl ?_
  refine WP.iconst (pc' := 244) (x := 5) dNOK_243 (by decide) rfl ?_
  by_cases hk : 5 < (digs M).length
  · refine WP.icmpF (pc' := 247) dNOK_244 rfl ((n32_lt (i := 5) (by omega) (by omega)).mpr hk) ?_
    refine WP.iload (pc' := 249) dNOK_247 rfl rfl ?_
    refine WP.ifF (pc' := 252) dNOK_249 rfl (show ¬ (1 : Int32) = 0 by decide) ?_
    refine WP.aloadN (pc' := 253) dNOK_252 rfl rfl rfl ?_
    refine WP.iload (pc' := 255) dNOK_253 rfl rfl ?_
    refine WP.iconst (pc' := 256) (x := 5) dNOK_255 (by decide) rfl ?_
    refine WP.isub (pc' := 257) dNOK_256 rfl ?_
    rw [show Int32.ofNat e - 5 = Int32.ofNat (e - 5) from n32_sub (k := 5) (by omega) he2]
    refine WP.lload (pc' := 259) dNOK_257 rfl rfl ?_
    refine WP.callS (pc' := 262) (con_DIG hw hc hf hlat S hm (hg 5 hk)) (hw _ (List.mem_of_getElem? (i := 280) rfl)) (hw _ (List.mem_of_getElem? (i := 281) rfl)) (hw _ (List.mem_of_getElem? (i := 231) rfl)) (hw _ (List.mem_of_getElem? (i := 282) rfl)) dNOK_259 (by decide) pdx29 rfl rfl rfl (by first | exact Nat.le_of_ble_eq_true rfl | omega | (simp; done) | (simp; omega) | (dsimp only; omega)) (by first | exact Nat.le_of_ble_eq_true rfl | omega | (simp; done) | (simp; omega) | (dsimp only; omega)) (by first | exact Nat.le_of_ble_eq_true rfl | omega | (simp; done) | (simp; omega) | (dsimp only; omega)) (by first | exact Nat.le_of_ble_eq_true rfl | omega | (simp; done) | (simp; omega) | (dsimp only; omega)) (fun _ hx => nomatch hx) rfl ?_
    rintro v h' nw K' hnw ⟨rfl, rfl, rfl⟩
    dsimp only [Option.toList, List.cons_append, List.nil_append]
    refine WP.ifF (pc' := 265) dNOK_262 rfl (show ¬ (1 : Int32) = 0 by decide) ?_
    refine WP.iconst (pc' := 266) (x := 1) dNOK_265 (by decide) rfl ?_
    refine WP.goto (pc' := 270) dNOK_266 (by decide) (by decide) ?_
    refine WP.istore (pc' := 272) dNOK_270 rfl rfl rfl ?_
    dsimp only [List.set]
    exact J
  · refine WP.icmpT (pc' := 272) dNOK_244 (by decide) (by decide) (fun q => hk ((n32_lt (i := 5) (by omega) (by omega)).mp q)) ?_
    exact J
set_option maxRecDepth 65536 in
set_option maxHeartbeats 40000000 in
theorem step_NOK6 (hw : ∀ d ∈ tables_1, d.before a0 Z = true) {cz : Int32} (hc : Compact Z cz) {vf : Value} (hf : Fmt Z vf) {a t : Addr} {us : List UInt16} (hlat : lat us = true) (S : StrAt Z h a t us) {x n : Int64} {M e : Nat} {p0 ng st : Int32} (he : (digs M).length ≤ e + 1) (he2 : e < 2 ^ 31) (h19 : (digs M).length ≤ 19) (hg : ∀ k, k < (digs M).length → us[e - k]? = some (dgc (M / 10 ^ k))) (K : ∀ m : Int64, m.toInt = -((M / 10000000 : Nat) : Int) → WP "com/example/orunmila/orunmila/LocationToStringPinLaw" method_5_code 13 (some .boolean) "numOk" { frames := 6, cells := 0, slots := 0, locals := 81 } Z LT h [] mine (fun v h' nw => nw = [] ∧ v = some (.int 1) ∧ h' = h) mine 0 0 h 321 [.val (.ref a), .val (.int p0), .val (.long x), .second, .val (.int ng), .val (.long n), .second, .val (.int (Int32.ofNat (digs M).length)), .val (.int st), .val (.int (Int32.ofNat e)), .val (.int 1), .val (.long m), .second] []) :
    ∀ m : Int64, m.toInt = -((M / 1000000 : Nat) : Int) → WP "com/example/orunmila/orunmila/LocationToStringPinLaw" method_5_code 13 (some .boolean) "numOk" { frames := 6, cells := 0, slots := 0, locals := 81 } Z LT h [] mine (fun v h' nw => nw = [] ∧ v = some (.int 1) ∧ h' = h) mine 0 0 h 280 [.val (.ref a), .val (.int p0), .val (.long x), .second, .val (.int ng), .val (.long n), .second, .val (.int (Int32.ofNat (digs M).length)), .val (.int st), .val (.int (Int32.ofNat e)), .val (.int 1), .val (.long m), .second] [] := by
  intro m hm
  have J : WP "com/example/orunmila/orunmila/LocationToStringPinLaw" method_5_code 13 (some .boolean) "numOk" { frames := 6, cells := 0, slots := 0, locals := 81 } Z LT h [] mine (fun v h' nw => nw = [] ∧ v = some (.int 1) ∧ h' = h) mine 0 0 h 313 [.val (.ref a), .val (.int p0), .val (.long x), .second, .val (.int ng), .val (.long n), .second, .val (.int (Int32.ofNat (digs M).length)), .val (.int st), .val (.int (Int32.ofNat e)), .val (.int 1), .val (.long m), .second] [] := by
    refine WP.lload (pc' := 315) dNOK_313 rfl rfl ?_
    refine WP.ldc2Long (pc' := 318) dNOK_315 (hw _ (List.mem_of_getElem? (i := 283) rfl)) rfl ?_
    refine WP.ldiv (pc' := 319) dNOK_318 (by decide) rfl ?_
    first | refine WP.lstore (pc' := 321) dNOK_319 rfl rfl rfl rfl ?_ | refine WP.lstoreL (pc' := 321) dNOK_319 rfl rfl rfl rfl ?_
    dsimp only [List.set]
    exact K (m / 10) (by have q := l_div (d := 10) hm (y := 10) (by decide) (by decide); rw [q, Nat.div_div_eq_div_mul])
  refine WP.iload (pc' := 282) dNOK_280 rfl rfl ?_
  refine WP.bipush (pc' := 284) (x := 6) dNOK_282 (by decide) rfl ?_
  by_cases hk : 6 < (digs M).length
  · refine WP.icmpF (pc' := 287) dNOK_284 rfl ((n32_lt (i := 6) (by omega) (by omega)).mpr hk) ?_
    refine WP.iload (pc' := 289) dNOK_287 rfl rfl ?_
    refine WP.ifF (pc' := 292) dNOK_289 rfl (show ¬ (1 : Int32) = 0 by decide) ?_
    refine WP.aloadN (pc' := 293) dNOK_292 rfl rfl rfl ?_
    refine WP.iload (pc' := 295) dNOK_293 rfl rfl ?_
    refine WP.bipush (pc' := 297) (x := 6) dNOK_295 (by decide) rfl ?_
    refine WP.isub (pc' := 298) dNOK_297 rfl ?_
    rw [show Int32.ofNat e - 6 = Int32.ofNat (e - 6) from n32_sub (k := 6) (by omega) he2]
    refine WP.lload (pc' := 300) dNOK_298 rfl rfl ?_
    refine WP.callS (pc' := 303) (con_DIG hw hc hf hlat S hm (hg 6 hk)) (hw _ (List.mem_of_getElem? (i := 280) rfl)) (hw _ (List.mem_of_getElem? (i := 281) rfl)) (hw _ (List.mem_of_getElem? (i := 231) rfl)) (hw _ (List.mem_of_getElem? (i := 282) rfl)) dNOK_300 (by decide) pdx29 rfl rfl rfl (by first | exact Nat.le_of_ble_eq_true rfl | omega | (simp; done) | (simp; omega) | (dsimp only; omega)) (by first | exact Nat.le_of_ble_eq_true rfl | omega | (simp; done) | (simp; omega) | (dsimp only; omega)) (by first | exact Nat.le_of_ble_eq_true rfl | omega | (simp; done) | (simp; omega) | (dsimp only; omega)) (by first | exact Nat.le_of_ble_eq_true rfl | omega | (simp; done) | (simp; omega) | (dsimp only; omega)) (fun _ hx => nomatch hx) rfl ?_
    rintro v h' nw K' hnw ⟨rfl, rfl, rfl⟩
    dsimp only [Option.toList, List.cons_append, List.nil_append]
    refine WP.ifF (pc' := 306) dNOK_303 rfl (show ¬ (1 : Int32) = 0 by decide) ?_
    refine WP.iconst (pc' := 307) (x := 1) dNOK_306 (by decide) rfl ?_
    refine WP.goto (pc' := 311) dNOK_307 (by decide) (by decide) ?_
    refine WP.istore (pc' := 313) dNOK_311 rfl rfl rfl ?_
    dsimp only [List.set]
    exact J
  · refine WP.icmpT (pc' := 313) dNOK_284 (by decide) (by decide) (fun q => hk ((n32_lt (i := 6) (by omega) (by omega)).mp q)) ?_
    exact J
set_option maxRecDepth 65536 in
set_option maxHeartbeats 40000000 in
theorem step_NOK7 (hw : ∀ d ∈ tables_1, d.before a0 Z = true) {cz : Int32} (hc : Compact Z cz) {vf : Value} (hf : Fmt Z vf) {a t : Addr} {us : List UInt16} (hlat : lat us = true) (S : StrAt Z h a t us) {x n : Int64} {M e : Nat} {p0 ng st : Int32} (he : (digs M).length ≤ e + 1) (he2 : e < 2 ^ 31) (h19 : (digs M).length ≤ 19) (hg : ∀ k, k < (digs M).length → us[e - k]? = some (dgc (M / 10 ^ k))) (K : ∀ m : Int64, m.toInt = -((M / 100000000 : Nat) : Int) → WP "com/example/orunmila/orunmila/LocationToStringPinLaw" method_5_code 13 (some .boolean) "numOk" { frames := 6, cells := 0, slots := 0, locals := 81 } Z LT h [] mine (fun v h' nw => nw = [] ∧ v = some (.int 1) ∧ h' = h) mine 0 0 h 362 [.val (.ref a), .val (.int p0), .val (.long x), .second, .val (.int ng), .val (.long n), .second, .val (.int (Int32.ofNat (digs M).length)), .val (.int st), .val (.int (Int32.ofNat e)), .val (.int 1), .val (.long m), .second] []) :
    ∀ m : Int64, m.toInt = -((M / 10000000 : Nat) : Int) → WP "com/example/orunmila/orunmila/LocationToStringPinLaw" method_5_code 13 (some .boolean) "numOk" { frames := 6, cells := 0, slots := 0, locals := 81 } Z LT h [] mine (fun v h' nw => nw = [] ∧ v = some (.int 1) ∧ h' = h) mine 0 0 h 321 [.val (.ref a), .val (.int p0), .val (.long x), .second, .val (.int ng), .val (.long n), .second, .val (.int (Int32.ofNat (digs M).length)), .val (.int st), .val (.int (Int32.ofNat e)), .val (.int 1), .val (.long m), .second] [] := by
  intro m hm
  have J : WP "com/example/orunmila/orunmila/LocationToStringPinLaw" method_5_code 13 (some .boolean) "numOk" { frames := 6, cells := 0, slots := 0, locals := 81 } Z LT h [] mine (fun v h' nw => nw = [] ∧ v = some (.int 1) ∧ h' = h) mine 0 0 h 354 [.val (.ref a), .val (.int p0), .val (.long x), .second, .val (.int ng), .val (.long n), .second, .val (.int (Int32.ofNat (digs M).length)), .val (.int st), .val (.int (Int32.ofNat e)), .val (.int 1), .val (.long m), .second] [] := by
    refine WP.lload (pc' := 356) dNOK_354 rfl rfl ?_
    refine WP.ldc2Long (pc' := 359) dNOK_356 (hw _ (List.mem_of_getElem? (i := 283) rfl)) rfl ?_
    refine WP.ldiv (pc' := 360) dNOK_359 (by decide) rfl ?_
    first | refine WP.lstore (pc' := 362) dNOK_360 rfl rfl rfl rfl ?_ | refine WP.lstoreL (pc' := 362) dNOK_360 rfl rfl rfl rfl ?_
    dsimp only [List.set]
    exact K (m / 10) (by have q := l_div (d := 10) hm (y := 10) (by decide) (by decide); rw [q, Nat.div_div_eq_div_mul])
  refine WP.iload (pc' := 323) dNOK_321 rfl rfl ?_
  refine WP.bipush (pc' := 325) (x := 7) dNOK_323 (by decide) rfl ?_
  by_cases hk : 7 < (digs M).length
  · refine WP.icmpF (pc' := 328) dNOK_325 rfl ((n32_lt (i := 7) (by omega) (by omega)).mpr hk) ?_
    refine WP.iload (pc' := 330) dNOK_328 rfl rfl ?_
    refine WP.ifF (pc' := 333) dNOK_330 rfl (show ¬ (1 : Int32) = 0 by decide) ?_
    refine WP.aloadN (pc' := 334) dNOK_333 rfl rfl rfl ?_
    refine WP.iload (pc' := 336) dNOK_334 rfl rfl ?_
    refine WP.bipush (pc' := 338) (x := 7) dNOK_336 (by decide) rfl ?_
    refine WP.isub (pc' := 339) dNOK_338 rfl ?_
    rw [show Int32.ofNat e - 7 = Int32.ofNat (e - 7) from n32_sub (k := 7) (by omega) he2]
    refine WP.lload (pc' := 341) dNOK_339 rfl rfl ?_
    refine WP.callS (pc' := 344) (con_DIG hw hc hf hlat S hm (hg 7 hk)) (hw _ (List.mem_of_getElem? (i := 280) rfl)) (hw _ (List.mem_of_getElem? (i := 281) rfl)) (hw _ (List.mem_of_getElem? (i := 231) rfl)) (hw _ (List.mem_of_getElem? (i := 282) rfl)) dNOK_341 (by decide) pdx29 rfl rfl rfl (by first | exact Nat.le_of_ble_eq_true rfl | omega | (simp; done) | (simp; omega) | (dsimp only; omega)) (by first | exact Nat.le_of_ble_eq_true rfl | omega | (simp; done) | (simp; omega) | (dsimp only; omega)) (by first | exact Nat.le_of_ble_eq_true rfl | omega | (simp; done) | (simp; omega) | (dsimp only; omega)) (by first | exact Nat.le_of_ble_eq_true rfl | omega | (simp; done) | (simp; omega) | (dsimp only; omega)) (fun _ hx => nomatch hx) rfl ?_
    rintro v h' nw K' hnw ⟨rfl, rfl, rfl⟩
    dsimp only [Option.toList, List.cons_append, List.nil_append]
    refine WP.ifF (pc' := 347) dNOK_344 rfl (show ¬ (1 : Int32) = 0 by decide) ?_
    refine WP.iconst (pc' := 348) (x := 1) dNOK_347 (by decide) rfl ?_
    refine WP.goto (pc' := 352) dNOK_348 (by decide) (by decide) ?_
    refine WP.istore (pc' := 354) dNOK_352 rfl rfl rfl ?_
    dsimp only [List.set]
    exact J
  · refine WP.icmpT (pc' := 354) dNOK_325 (by decide) (by decide) (fun q => hk ((n32_lt (i := 7) (by omega) (by omega)).mp q)) ?_
    exact J
set_option maxRecDepth 65536 in
set_option maxHeartbeats 40000000 in
theorem step_NOK8 (hw : ∀ d ∈ tables_1, d.before a0 Z = true) {cz : Int32} (hc : Compact Z cz) {vf : Value} (hf : Fmt Z vf) {a t : Addr} {us : List UInt16} (hlat : lat us = true) (S : StrAt Z h a t us) {x n : Int64} {M e : Nat} {p0 ng st : Int32} (he : (digs M).length ≤ e + 1) (he2 : e < 2 ^ 31) (h19 : (digs M).length ≤ 19) (hg : ∀ k, k < (digs M).length → us[e - k]? = some (dgc (M / 10 ^ k))) (K : ∀ m : Int64, m.toInt = -((M / 1000000000 : Nat) : Int) → WP "com/example/orunmila/orunmila/LocationToStringPinLaw" method_5_code 13 (some .boolean) "numOk" { frames := 6, cells := 0, slots := 0, locals := 81 } Z LT h [] mine (fun v h' nw => nw = [] ∧ v = some (.int 1) ∧ h' = h) mine 0 0 h 403 [.val (.ref a), .val (.int p0), .val (.long x), .second, .val (.int ng), .val (.long n), .second, .val (.int (Int32.ofNat (digs M).length)), .val (.int st), .val (.int (Int32.ofNat e)), .val (.int 1), .val (.long m), .second] []) :
    ∀ m : Int64, m.toInt = -((M / 100000000 : Nat) : Int) → WP "com/example/orunmila/orunmila/LocationToStringPinLaw" method_5_code 13 (some .boolean) "numOk" { frames := 6, cells := 0, slots := 0, locals := 81 } Z LT h [] mine (fun v h' nw => nw = [] ∧ v = some (.int 1) ∧ h' = h) mine 0 0 h 362 [.val (.ref a), .val (.int p0), .val (.long x), .second, .val (.int ng), .val (.long n), .second, .val (.int (Int32.ofNat (digs M).length)), .val (.int st), .val (.int (Int32.ofNat e)), .val (.int 1), .val (.long m), .second] [] := by
  intro m hm
  have J : WP "com/example/orunmila/orunmila/LocationToStringPinLaw" method_5_code 13 (some .boolean) "numOk" { frames := 6, cells := 0, slots := 0, locals := 81 } Z LT h [] mine (fun v h' nw => nw = [] ∧ v = some (.int 1) ∧ h' = h) mine 0 0 h 395 [.val (.ref a), .val (.int p0), .val (.long x), .second, .val (.int ng), .val (.long n), .second, .val (.int (Int32.ofNat (digs M).length)), .val (.int st), .val (.int (Int32.ofNat e)), .val (.int 1), .val (.long m), .second] [] := by
    refine WP.lload (pc' := 397) dNOK_395 rfl rfl ?_
    refine WP.ldc2Long (pc' := 400) dNOK_397 (hw _ (List.mem_of_getElem? (i := 283) rfl)) rfl ?_
    refine WP.ldiv (pc' := 401) dNOK_400 (by decide) rfl ?_
    first | refine WP.lstore (pc' := 403) dNOK_401 rfl rfl rfl rfl ?_ | refine WP.lstoreL (pc' := 403) dNOK_401 rfl rfl rfl rfl ?_
    dsimp only [List.set]
    exact K (m / 10) (by have q := l_div (d := 10) hm (y := 10) (by decide) (by decide); rw [q, Nat.div_div_eq_div_mul])
  refine WP.iload (pc' := 364) dNOK_362 rfl rfl ?_
  refine WP.bipush (pc' := 366) (x := 8) dNOK_364 (by decide) rfl ?_
  by_cases hk : 8 < (digs M).length
  · refine WP.icmpF (pc' := 369) dNOK_366 rfl ((n32_lt (i := 8) (by omega) (by omega)).mpr hk) ?_
    refine WP.iload (pc' := 371) dNOK_369 rfl rfl ?_
    refine WP.ifF (pc' := 374) dNOK_371 rfl (show ¬ (1 : Int32) = 0 by decide) ?_
    refine WP.aloadN (pc' := 375) dNOK_374 rfl rfl rfl ?_
    refine WP.iload (pc' := 377) dNOK_375 rfl rfl ?_
    refine WP.bipush (pc' := 379) (x := 8) dNOK_377 (by decide) rfl ?_
    refine WP.isub (pc' := 380) dNOK_379 rfl ?_
    rw [show Int32.ofNat e - 8 = Int32.ofNat (e - 8) from n32_sub (k := 8) (by omega) he2]
    refine WP.lload (pc' := 382) dNOK_380 rfl rfl ?_
    refine WP.callS (pc' := 385) (con_DIG hw hc hf hlat S hm (hg 8 hk)) (hw _ (List.mem_of_getElem? (i := 280) rfl)) (hw _ (List.mem_of_getElem? (i := 281) rfl)) (hw _ (List.mem_of_getElem? (i := 231) rfl)) (hw _ (List.mem_of_getElem? (i := 282) rfl)) dNOK_382 (by decide) pdx29 rfl rfl rfl (by first | exact Nat.le_of_ble_eq_true rfl | omega | (simp; done) | (simp; omega) | (dsimp only; omega)) (by first | exact Nat.le_of_ble_eq_true rfl | omega | (simp; done) | (simp; omega) | (dsimp only; omega)) (by first | exact Nat.le_of_ble_eq_true rfl | omega | (simp; done) | (simp; omega) | (dsimp only; omega)) (by first | exact Nat.le_of_ble_eq_true rfl | omega | (simp; done) | (simp; omega) | (dsimp only; omega)) (fun _ hx => nomatch hx) rfl ?_
    rintro v h' nw K' hnw ⟨rfl, rfl, rfl⟩
    dsimp only [Option.toList, List.cons_append, List.nil_append]
    refine WP.ifF (pc' := 388) dNOK_385 rfl (show ¬ (1 : Int32) = 0 by decide) ?_
    refine WP.iconst (pc' := 389) (x := 1) dNOK_388 (by decide) rfl ?_
    refine WP.goto (pc' := 393) dNOK_389 (by decide) (by decide) ?_
    refine WP.istore (pc' := 395) dNOK_393 rfl rfl rfl ?_
    dsimp only [List.set]
    exact J
  · refine WP.icmpT (pc' := 395) dNOK_366 (by decide) (by decide) (fun q => hk ((n32_lt (i := 8) (by omega) (by omega)).mp q)) ?_
    exact J
set_option maxRecDepth 65536 in
set_option maxHeartbeats 40000000 in
theorem step_NOK9 (hw : ∀ d ∈ tables_1, d.before a0 Z = true) {cz : Int32} (hc : Compact Z cz) {vf : Value} (hf : Fmt Z vf) {a t : Addr} {us : List UInt16} (hlat : lat us = true) (S : StrAt Z h a t us) {x n : Int64} {M e : Nat} {p0 ng st : Int32} (he : (digs M).length ≤ e + 1) (he2 : e < 2 ^ 31) (h19 : (digs M).length ≤ 19) (hg : ∀ k, k < (digs M).length → us[e - k]? = some (dgc (M / 10 ^ k))) (K : ∀ m : Int64, m.toInt = -((M / 10000000000 : Nat) : Int) → WP "com/example/orunmila/orunmila/LocationToStringPinLaw" method_5_code 13 (some .boolean) "numOk" { frames := 6, cells := 0, slots := 0, locals := 81 } Z LT h [] mine (fun v h' nw => nw = [] ∧ v = some (.int 1) ∧ h' = h) mine 0 0 h 444 [.val (.ref a), .val (.int p0), .val (.long x), .second, .val (.int ng), .val (.long n), .second, .val (.int (Int32.ofNat (digs M).length)), .val (.int st), .val (.int (Int32.ofNat e)), .val (.int 1), .val (.long m), .second] []) :
    ∀ m : Int64, m.toInt = -((M / 1000000000 : Nat) : Int) → WP "com/example/orunmila/orunmila/LocationToStringPinLaw" method_5_code 13 (some .boolean) "numOk" { frames := 6, cells := 0, slots := 0, locals := 81 } Z LT h [] mine (fun v h' nw => nw = [] ∧ v = some (.int 1) ∧ h' = h) mine 0 0 h 403 [.val (.ref a), .val (.int p0), .val (.long x), .second, .val (.int ng), .val (.long n), .second, .val (.int (Int32.ofNat (digs M).length)), .val (.int st), .val (.int (Int32.ofNat e)), .val (.int 1), .val (.long m), .second] [] := by
  intro m hm
  have J : WP "com/example/orunmila/orunmila/LocationToStringPinLaw" method_5_code 13 (some .boolean) "numOk" { frames := 6, cells := 0, slots := 0, locals := 81 } Z LT h [] mine (fun v h' nw => nw = [] ∧ v = some (.int 1) ∧ h' = h) mine 0 0 h 436 [.val (.ref a), .val (.int p0), .val (.long x), .second, .val (.int ng), .val (.long n), .second, .val (.int (Int32.ofNat (digs M).length)), .val (.int st), .val (.int (Int32.ofNat e)), .val (.int 1), .val (.long m), .second] [] := by
    refine WP.lload (pc' := 438) dNOK_436 rfl rfl ?_
    refine WP.ldc2Long (pc' := 441) dNOK_438 (hw _ (List.mem_of_getElem? (i := 283) rfl)) rfl ?_
    refine WP.ldiv (pc' := 442) dNOK_441 (by decide) rfl ?_
    first | refine WP.lstore (pc' := 444) dNOK_442 rfl rfl rfl rfl ?_ | refine WP.lstoreL (pc' := 444) dNOK_442 rfl rfl rfl rfl ?_
    dsimp only [List.set]
    exact K (m / 10) (by have q := l_div (d := 10) hm (y := 10) (by decide) (by decide); rw [q, Nat.div_div_eq_div_mul])
  refine WP.iload (pc' := 405) dNOK_403 rfl rfl ?_
  refine WP.bipush (pc' := 407) (x := 9) dNOK_405 (by decide) rfl ?_
  by_cases hk : 9 < (digs M).length
  · refine WP.icmpF (pc' := 410) dNOK_407 rfl ((n32_lt (i := 9) (by omega) (by omega)).mpr hk) ?_
    refine WP.iload (pc' := 412) dNOK_410 rfl rfl ?_
    refine WP.ifF (pc' := 415) dNOK_412 rfl (show ¬ (1 : Int32) = 0 by decide) ?_
    refine WP.aloadN (pc' := 416) dNOK_415 rfl rfl rfl ?_
    refine WP.iload (pc' := 418) dNOK_416 rfl rfl ?_
    refine WP.bipush (pc' := 420) (x := 9) dNOK_418 (by decide) rfl ?_
    refine WP.isub (pc' := 421) dNOK_420 rfl ?_
    rw [show Int32.ofNat e - 9 = Int32.ofNat (e - 9) from n32_sub (k := 9) (by omega) he2]
    refine WP.lload (pc' := 423) dNOK_421 rfl rfl ?_
    refine WP.callS (pc' := 426) (con_DIG hw hc hf hlat S hm (hg 9 hk)) (hw _ (List.mem_of_getElem? (i := 280) rfl)) (hw _ (List.mem_of_getElem? (i := 281) rfl)) (hw _ (List.mem_of_getElem? (i := 231) rfl)) (hw _ (List.mem_of_getElem? (i := 282) rfl)) dNOK_423 (by decide) pdx29 rfl rfl rfl (by first | exact Nat.le_of_ble_eq_true rfl | omega | (simp; done) | (simp; omega) | (dsimp only; omega)) (by first | exact Nat.le_of_ble_eq_true rfl | omega | (simp; done) | (simp; omega) | (dsimp only; omega)) (by first | exact Nat.le_of_ble_eq_true rfl | omega | (simp; done) | (simp; omega) | (dsimp only; omega)) (by first | exact Nat.le_of_ble_eq_true rfl | omega | (simp; done) | (simp; omega) | (dsimp only; omega)) (fun _ hx => nomatch hx) rfl ?_
    rintro v h' nw K' hnw ⟨rfl, rfl, rfl⟩
    dsimp only [Option.toList, List.cons_append, List.nil_append]
    refine WP.ifF (pc' := 429) dNOK_426 rfl (show ¬ (1 : Int32) = 0 by decide) ?_
    refine WP.iconst (pc' := 430) (x := 1) dNOK_429 (by decide) rfl ?_
    refine WP.goto (pc' := 434) dNOK_430 (by decide) (by decide) ?_
    refine WP.istore (pc' := 436) dNOK_434 rfl rfl rfl ?_
    dsimp only [List.set]
    exact J
  · refine WP.icmpT (pc' := 436) dNOK_407 (by decide) (by decide) (fun q => hk ((n32_lt (i := 9) (by omega) (by omega)).mp q)) ?_
    exact J
set_option maxRecDepth 65536 in
set_option maxHeartbeats 40000000 in
theorem step_NOK10 (hw : ∀ d ∈ tables_1, d.before a0 Z = true) {cz : Int32} (hc : Compact Z cz) {vf : Value} (hf : Fmt Z vf) {a t : Addr} {us : List UInt16} (hlat : lat us = true) (S : StrAt Z h a t us) {x n : Int64} {M e : Nat} {p0 ng st : Int32} (he : (digs M).length ≤ e + 1) (he2 : e < 2 ^ 31) (h19 : (digs M).length ≤ 19) (hg : ∀ k, k < (digs M).length → us[e - k]? = some (dgc (M / 10 ^ k))) (K : ∀ m : Int64, m.toInt = -((M / 100000000000 : Nat) : Int) → WP "com/example/orunmila/orunmila/LocationToStringPinLaw" method_5_code 13 (some .boolean) "numOk" { frames := 6, cells := 0, slots := 0, locals := 81 } Z LT h [] mine (fun v h' nw => nw = [] ∧ v = some (.int 1) ∧ h' = h) mine 0 0 h 485 [.val (.ref a), .val (.int p0), .val (.long x), .second, .val (.int ng), .val (.long n), .second, .val (.int (Int32.ofNat (digs M).length)), .val (.int st), .val (.int (Int32.ofNat e)), .val (.int 1), .val (.long m), .second] []) :
    ∀ m : Int64, m.toInt = -((M / 10000000000 : Nat) : Int) → WP "com/example/orunmila/orunmila/LocationToStringPinLaw" method_5_code 13 (some .boolean) "numOk" { frames := 6, cells := 0, slots := 0, locals := 81 } Z LT h [] mine (fun v h' nw => nw = [] ∧ v = some (.int 1) ∧ h' = h) mine 0 0 h 444 [.val (.ref a), .val (.int p0), .val (.long x), .second, .val (.int ng), .val (.long n), .second, .val (.int (Int32.ofNat (digs M).length)), .val (.int st), .val (.int (Int32.ofNat e)), .val (.int 1), .val (.long m), .second] [] := by
  intro m hm
  have J : WP "com/example/orunmila/orunmila/LocationToStringPinLaw" method_5_code 13 (some .boolean) "numOk" { frames := 6, cells := 0, slots := 0, locals := 81 } Z LT h [] mine (fun v h' nw => nw = [] ∧ v = some (.int 1) ∧ h' = h) mine 0 0 h 477 [.val (.ref a), .val (.int p0), .val (.long x), .second, .val (.int ng), .val (.long n), .second, .val (.int (Int32.ofNat (digs M).length)), .val (.int st), .val (.int (Int32.ofNat e)), .val (.int 1), .val (.long m), .second] [] := by
    refine WP.lload (pc' := 479) dNOK_477 rfl rfl ?_
    refine WP.ldc2Long (pc' := 482) dNOK_479 (hw _ (List.mem_of_getElem? (i := 283) rfl)) rfl ?_
    refine WP.ldiv (pc' := 483) dNOK_482 (by decide) rfl ?_
    first | refine WP.lstore (pc' := 485) dNOK_483 rfl rfl rfl rfl ?_ | refine WP.lstoreL (pc' := 485) dNOK_483 rfl rfl rfl rfl ?_
    dsimp only [List.set]
    exact K (m / 10) (by have q := l_div (d := 10) hm (y := 10) (by decide) (by decide); rw [q, Nat.div_div_eq_div_mul])
  refine WP.iload (pc' := 446) dNOK_444 rfl rfl ?_
  refine WP.bipush (pc' := 448) (x := 10) dNOK_446 (by decide) rfl ?_
  by_cases hk : 10 < (digs M).length
  · refine WP.icmpF (pc' := 451) dNOK_448 rfl ((n32_lt (i := 10) (by omega) (by omega)).mpr hk) ?_
    refine WP.iload (pc' := 453) dNOK_451 rfl rfl ?_
    refine WP.ifF (pc' := 456) dNOK_453 rfl (show ¬ (1 : Int32) = 0 by decide) ?_
    refine WP.aloadN (pc' := 457) dNOK_456 rfl rfl rfl ?_
    refine WP.iload (pc' := 459) dNOK_457 rfl rfl ?_
    refine WP.bipush (pc' := 461) (x := 10) dNOK_459 (by decide) rfl ?_
    refine WP.isub (pc' := 462) dNOK_461 rfl ?_
    rw [show Int32.ofNat e - 10 = Int32.ofNat (e - 10) from n32_sub (k := 10) (by omega) he2]
    refine WP.lload (pc' := 464) dNOK_462 rfl rfl ?_
    refine WP.callS (pc' := 467) (con_DIG hw hc hf hlat S hm (hg 10 hk)) (hw _ (List.mem_of_getElem? (i := 280) rfl)) (hw _ (List.mem_of_getElem? (i := 281) rfl)) (hw _ (List.mem_of_getElem? (i := 231) rfl)) (hw _ (List.mem_of_getElem? (i := 282) rfl)) dNOK_464 (by decide) pdx29 rfl rfl rfl (by first | exact Nat.le_of_ble_eq_true rfl | omega | (simp; done) | (simp; omega) | (dsimp only; omega)) (by first | exact Nat.le_of_ble_eq_true rfl | omega | (simp; done) | (simp; omega) | (dsimp only; omega)) (by first | exact Nat.le_of_ble_eq_true rfl | omega | (simp; done) | (simp; omega) | (dsimp only; omega)) (by first | exact Nat.le_of_ble_eq_true rfl | omega | (simp; done) | (simp; omega) | (dsimp only; omega)) (fun _ hx => nomatch hx) rfl ?_
    rintro v h' nw K' hnw ⟨rfl, rfl, rfl⟩
    dsimp only [Option.toList, List.cons_append, List.nil_append]
    refine WP.ifF (pc' := 470) dNOK_467 rfl (show ¬ (1 : Int32) = 0 by decide) ?_
    refine WP.iconst (pc' := 471) (x := 1) dNOK_470 (by decide) rfl ?_
    refine WP.goto (pc' := 475) dNOK_471 (by decide) (by decide) ?_
    refine WP.istore (pc' := 477) dNOK_475 rfl rfl rfl ?_
    dsimp only [List.set]
    exact J
  · refine WP.icmpT (pc' := 477) dNOK_448 (by decide) (by decide) (fun q => hk ((n32_lt (i := 10) (by omega) (by omega)).mp q)) ?_
    exact J
set_option maxRecDepth 65536 in
set_option maxHeartbeats 40000000 in
theorem step_NOK11 (hw : ∀ d ∈ tables_1, d.before a0 Z = true) {cz : Int32} (hc : Compact Z cz) {vf : Value} (hf : Fmt Z vf) {a t : Addr} {us : List UInt16} (hlat : lat us = true) (S : StrAt Z h a t us) {x n : Int64} {M e : Nat} {p0 ng st : Int32} (he : (digs M).length ≤ e + 1) (he2 : e < 2 ^ 31) (h19 : (digs M).length ≤ 19) (hg : ∀ k, k < (digs M).length → us[e - k]? = some (dgc (M / 10 ^ k))) (K : ∀ m : Int64, m.toInt = -((M / 1000000000000 : Nat) : Int) → WP "com/example/orunmila/orunmila/LocationToStringPinLaw" method_5_code 13 (some .boolean) "numOk" { frames := 6, cells := 0, slots := 0, locals := 81 } Z LT h [] mine (fun v h' nw => nw = [] ∧ v = some (.int 1) ∧ h' = h) mine 0 0 h 526 [.val (.ref a), .val (.int p0), .val (.long x), .second, .val (.int ng), .val (.long n), .second, .val (.int (Int32.ofNat (digs M).length)), .val (.int st), .val (.int (Int32.ofNat e)), .val (.int 1), .val (.long m), .second] []) :
    ∀ m : Int64, m.toInt = -((M / 100000000000 : Nat) : Int) → WP "com/example/orunmila/orunmila/LocationToStringPinLaw" method_5_code 13 (some .boolean) "numOk" { frames := 6, cells := 0, slots := 0, locals := 81 } Z LT h [] mine (fun v h' nw => nw = [] ∧ v = some (.int 1) ∧ h' = h) mine 0 0 h 485 [.val (.ref a), .val (.int p0), .val (.long x), .second, .val (.int ng), .val (.long n), .second, .val (.int (Int32.ofNat (digs M).length)), .val (.int st), .val (.int (Int32.ofNat e)), .val (.int 1), .val (.long m), .second] [] := by
  intro m hm
  have J : WP "com/example/orunmila/orunmila/LocationToStringPinLaw" method_5_code 13 (some .boolean) "numOk" { frames := 6, cells := 0, slots := 0, locals := 81 } Z LT h [] mine (fun v h' nw => nw = [] ∧ v = some (.int 1) ∧ h' = h) mine 0 0 h 518 [.val (.ref a), .val (.int p0), .val (.long x), .second, .val (.int ng), .val (.long n), .second, .val (.int (Int32.ofNat (digs M).length)), .val (.int st), .val (.int (Int32.ofNat e)), .val (.int 1), .val (.long m), .second] [] := by
    refine WP.lload (pc' := 520) dNOK_518 rfl rfl ?_
    refine WP.ldc2Long (pc' := 523) dNOK_520 (hw _ (List.mem_of_getElem? (i := 283) rfl)) rfl ?_
    refine WP.ldiv (pc' := 524) dNOK_523 (by decide) rfl ?_
    first | refine WP.lstore (pc' := 526) dNOK_524 rfl rfl rfl rfl ?_ | refine WP.lstoreL (pc' := 526) dNOK_524 rfl rfl rfl rfl ?_
    dsimp only [List.set]
    exact K (m / 10) (by have q := l_div (d := 10) hm (y := 10) (by decide) (by decide); rw [q, Nat.div_div_eq_div_mul])
  refine WP.iload (pc' := 487) dNOK_485 rfl rfl ?_
  refine WP.bipush (pc' := 489) (x := 11) dNOK_487 (by decide) rfl ?_
  by_cases hk : 11 < (digs M).length
  · refine WP.icmpF (pc' := 492) dNOK_489 rfl ((n32_lt (i := 11) (by omega) (by omega)).mpr hk) ?_
    refine WP.iload (pc' := 494) dNOK_492 rfl rfl ?_
    refine WP.ifF (pc' := 497) dNOK_494 rfl (show ¬ (1 : Int32) = 0 by decide) ?_
    refine WP.aloadN (pc' := 498) dNOK_497 rfl rfl rfl ?_
    refine WP.iload (pc' := 500) dNOK_498 rfl rfl ?_
    refine WP.bipush (pc' := 502) (x := 11) dNOK_500 (by decide) rfl ?_
    refine WP.isub (pc' := 503) dNOK_502 rfl ?_
    rw [show Int32.ofNat e - 11 = Int32.ofNat (e - 11) from n32_sub (k := 11) (by omega) he2]
    refine WP.lload (pc' := 505) dNOK_503 rfl rfl ?_
    refine WP.callS (pc' := 508) (con_DIG hw hc hf hlat S hm (hg 11 hk)) (hw _ (List.mem_of_getElem? (i := 280) rfl)) (hw _ (List.mem_of_getElem? (i := 281) rfl)) (hw _ (List.mem_of_getElem? (i := 231) rfl)) (hw _ (List.mem_of_getElem? (i := 282) rfl)) dNOK_505 (by decide) pdx29 rfl rfl rfl (by first | exact Nat.le_of_ble_eq_true rfl | omega | (simp; done) | (simp; omega) | (dsimp only; omega)) (by first | exact Nat.le_of_ble_eq_true rfl | omega | (simp; done) | (simp; omega) | (dsimp only; omega)) (by first | exact Nat.le_of_ble_eq_true rfl | omega | (simp; done) | (simp; omega) | (dsimp only; omega)) (by first | exact Nat.le_of_ble_eq_true rfl | omega | (simp; done) | (simp; omega) | (dsimp only; omega)) (fun _ hx => nomatch hx) rfl ?_
    rintro v h' nw K' hnw ⟨rfl, rfl, rfl⟩
    dsimp only [Option.toList, List.cons_append, List.nil_append]
    refine WP.ifF (pc' := 511) dNOK_508 rfl (show ¬ (1 : Int32) = 0 by decide) ?_
    refine WP.iconst (pc' := 512) (x := 1) dNOK_511 (by decide) rfl ?_
    refine WP.goto (pc' := 516) dNOK_512 (by decide) (by decide) ?_
    refine WP.istore (pc' := 518) dNOK_516 rfl rfl rfl ?_
    dsimp only [List.set]
    exact J
  · refine WP.icmpT (pc' := 518) dNOK_489 (by decide) (by decide) (fun q => hk ((n32_lt (i := 11) (by omega) (by omega)).mp q)) ?_
    exact J
set_option maxRecDepth 65536 in
set_option maxHeartbeats 40000000 in
theorem step_NOK12 (hw : ∀ d ∈ tables_1, d.before a0 Z = true) {cz : Int32} (hc : Compact Z cz) {vf : Value} (hf : Fmt Z vf) {a t : Addr} {us : List UInt16} (hlat : lat us = true) (S : StrAt Z h a t us) {x n : Int64} {M e : Nat} {p0 ng st : Int32} (he : (digs M).length ≤ e + 1) (he2 : e < 2 ^ 31) (h19 : (digs M).length ≤ 19) (hg : ∀ k, k < (digs M).length → us[e - k]? = some (dgc (M / 10 ^ k))) (K : ∀ m : Int64, m.toInt = -((M / 10000000000000 : Nat) : Int) → WP "com/example/orunmila/orunmila/LocationToStringPinLaw" method_5_code 13 (some .boolean) "numOk" { frames := 6, cells := 0, slots := 0, locals := 81 } Z LT h [] mine (fun v h' nw => nw = [] ∧ v = some (.int 1) ∧ h' = h) mine 0 0 h 567 [.val (.ref a), .val (.int p0), .val (.long x), .second, .val (.int ng), .val (.long n), .second, .val (.int (Int32.ofNat (digs M).length)), .val (.int st), .val (.int (Int32.ofNat e)), .val (.int 1), .val (.long m), .second] []) :
    ∀ m : Int64, m.toInt = -((M / 1000000000000 : Nat) : Int) → WP "com/example/orunmila/orunmila/LocationToStringPinLaw" method_5_code 13 (some .boolean) "numOk" { frames := 6, cells := 0, slots := 0, locals := 81 } Z LT h [] mine (fun v h' nw => nw = [] ∧ v = some (.int 1) ∧ h' = h) mine 0 0 h 526 [.val (.ref a), .val (.int p0), .val (.long x), .second, .val (.int ng), .val (.long n), .second, .val (.int (Int32.ofNat (digs M).length)), .val (.int st), .val (.int (Int32.ofNat e)), .val (.int 1), .val (.long m), .second] [] := by
  intro m hm
  have J : WP "com/example/orunmila/orunmila/LocationToStringPinLaw" method_5_code 13 (some .boolean) "numOk" { frames := 6, cells := 0, slots := 0, locals := 81 } Z LT h [] mine (fun v h' nw => nw = [] ∧ v = some (.int 1) ∧ h' = h) mine 0 0 h 559 [.val (.ref a), .val (.int p0), .val (.long x), .second, .val (.int ng), .val (.long n), .second, .val (.int (Int32.ofNat (digs M).length)), .val (.int st), .val (.int (Int32.ofNat e)), .val (.int 1), .val (.long m), .second] [] := by
    refine WP.lload (pc' := 561) dNOK_559 rfl rfl ?_
    refine WP.ldc2Long (pc' := 564) dNOK_561 (hw _ (List.mem_of_getElem? (i := 283) rfl)) rfl ?_
    refine WP.ldiv (pc' := 565) dNOK_564 (by decide) rfl ?_
    first | refine WP.lstore (pc' := 567) dNOK_565 rfl rfl rfl rfl ?_ | refine WP.lstoreL (pc' := 567) dNOK_565 rfl rfl rfl rfl ?_
    dsimp only [List.set]
    exact K (m / 10) (by have q := l_div (d := 10) hm (y := 10) (by decide) (by decide); rw [q, Nat.div_div_eq_div_mul])
  refine WP.iload (pc' := 528) dNOK_526 rfl rfl ?_
  refine WP.bipush (pc' := 530) (x := 12) dNOK_528 (by decide) rfl ?_
  by_cases hk : 12 < (digs M).length
  · refine WP.icmpF (pc' := 533) dNOK_530 rfl ((n32_lt (i := 12) (by omega) (by omega)).mpr hk) ?_
    refine WP.iload (pc' := 535) dNOK_533 rfl rfl ?_
    refine WP.ifF (pc' := 538) dNOK_535 rfl (show ¬ (1 : Int32) = 0 by decide) ?_
    refine WP.aloadN (pc' := 539) dNOK_538 rfl rfl rfl ?_
    refine WP.iload (pc' := 541) dNOK_539 rfl rfl ?_
    refine WP.bipush (pc' := 543) (x := 12) dNOK_541 (by decide) rfl ?_
    refine WP.isub (pc' := 544) dNOK_543 rfl ?_
    rw [show Int32.ofNat e - 12 = Int32.ofNat (e - 12) from n32_sub (k := 12) (by omega) he2]
    refine WP.lload (pc' := 546) dNOK_544 rfl rfl ?_
    refine WP.callS (pc' := 549) (con_DIG hw hc hf hlat S hm (hg 12 hk)) (hw _ (List.mem_of_getElem? (i := 280) rfl)) (hw _ (List.mem_of_getElem? (i := 281) rfl)) (hw _ (List.mem_of_getElem? (i := 231) rfl)) (hw _ (List.mem_of_getElem? (i := 282) rfl)) dNOK_546 (by decide) pdx29 rfl rfl rfl (by first | exact Nat.le_of_ble_eq_true rfl | omega | (simp; done) | (simp; omega) | (dsimp only; omega)) (by first | exact Nat.le_of_ble_eq_true rfl | omega | (simp; done) | (simp; omega) | (dsimp only; omega)) (by first | exact Nat.le_of_ble_eq_true rfl | omega | (simp; done) | (simp; omega) | (dsimp only; omega)) (by first | exact Nat.le_of_ble_eq_true rfl | omega | (simp; done) | (simp; omega) | (dsimp only; omega)) (fun _ hx => nomatch hx) rfl ?_
    rintro v h' nw K' hnw ⟨rfl, rfl, rfl⟩
    dsimp only [Option.toList, List.cons_append, List.nil_append]
    refine WP.ifF (pc' := 552) dNOK_549 rfl (show ¬ (1 : Int32) = 0 by decide) ?_
    refine WP.iconst (pc' := 553) (x := 1) dNOK_552 (by decide) rfl ?_
    refine WP.goto (pc' := 557) dNOK_553 (by decide) (by decide) ?_
    refine WP.istore (pc' := 559) dNOK_557 rfl rfl rfl ?_
    dsimp only [List.set]
    exact J
  · refine WP.icmpT (pc' := 559) dNOK_530 (by decide) (by decide) (fun q => hk ((n32_lt (i := 12) (by omega) (by omega)).mp q)) ?_
    exact J
set_option maxRecDepth 65536 in
set_option maxHeartbeats 40000000 in
theorem step_NOK13 (hw : ∀ d ∈ tables_1, d.before a0 Z = true) {cz : Int32} (hc : Compact Z cz) {vf : Value} (hf : Fmt Z vf) {a t : Addr} {us : List UInt16} (hlat : lat us = true) (S : StrAt Z h a t us) {x n : Int64} {M e : Nat} {p0 ng st : Int32} (he : (digs M).length ≤ e + 1) (he2 : e < 2 ^ 31) (h19 : (digs M).length ≤ 19) (hg : ∀ k, k < (digs M).length → us[e - k]? = some (dgc (M / 10 ^ k))) (K : ∀ m : Int64, m.toInt = -((M / 100000000000000 : Nat) : Int) → WP "com/example/orunmila/orunmila/LocationToStringPinLaw" method_5_code 13 (some .boolean) "numOk" { frames := 6, cells := 0, slots := 0, locals := 81 } Z LT h [] mine (fun v h' nw => nw = [] ∧ v = some (.int 1) ∧ h' = h) mine 0 0 h 608 [.val (.ref a), .val (.int p0), .val (.long x), .second, .val (.int ng), .val (.long n), .second, .val (.int (Int32.ofNat (digs M).length)), .val (.int st), .val (.int (Int32.ofNat e)), .val (.int 1), .val (.long m), .second] []) :
    ∀ m : Int64, m.toInt = -((M / 10000000000000 : Nat) : Int) → WP "com/example/orunmila/orunmila/LocationToStringPinLaw" method_5_code 13 (some .boolean) "numOk" { frames := 6, cells := 0, slots := 0, locals := 81 } Z LT h [] mine (fun v h' nw => nw = [] ∧ v = some (.int 1) ∧ h' = h) mine 0 0 h 567 [.val (.ref a), .val (.int p0), .val (.long x), .second, .val (.int ng), .val (.long n), .second, .val (.int (Int32.ofNat (digs M).length)), .val (.int st), .val (.int (Int32.ofNat e)), .val (.int 1), .val (.long m), .second] [] := by
  intro m hm
  have J : WP "com/example/orunmila/orunmila/LocationToStringPinLaw" method_5_code 13 (some .boolean) "numOk" { frames := 6, cells := 0, slots := 0, locals := 81 } Z LT h [] mine (fun v h' nw => nw = [] ∧ v = some (.int 1) ∧ h' = h) mine 0 0 h 600 [.val (.ref a), .val (.int p0), .val (.long x), .second, .val (.int ng), .val (.long n), .second, .val (.int (Int32.ofNat (digs M).length)), .val (.int st), .val (.int (Int32.ofNat e)), .val (.int 1), .val (.long m), .second] [] := by
    refine WP.lload (pc' := 602) dNOK_600 rfl rfl ?_
    refine WP.ldc2Long (pc' := 605) dNOK_602 (hw _ (List.mem_of_getElem? (i := 283) rfl)) rfl ?_
    refine WP.ldiv (pc' := 606) dNOK_605 (by decide) rfl ?_
    first | refine WP.lstore (pc' := 608) dNOK_606 rfl rfl rfl rfl ?_ | refine WP.lstoreL (pc' := 608) dNOK_606 rfl rfl rfl rfl ?_
    dsimp only [List.set]
    exact K (m / 10) (by have q := l_div (d := 10) hm (y := 10) (by decide) (by decide); rw [q, Nat.div_div_eq_div_mul])
  refine WP.iload (pc' := 569) dNOK_567 rfl rfl ?_
  refine WP.bipush (pc' := 571) (x := 13) dNOK_569 (by decide) rfl ?_
  by_cases hk : 13 < (digs M).length
  · refine WP.icmpF (pc' := 574) dNOK_571 rfl ((n32_lt (i := 13) (by omega) (by omega)).mpr hk) ?_
    refine WP.iload (pc' := 576) dNOK_574 rfl rfl ?_
    refine WP.ifF (pc' := 579) dNOK_576 rfl (show ¬ (1 : Int32) = 0 by decide) ?_
    refine WP.aloadN (pc' := 580) dNOK_579 rfl rfl rfl ?_
    refine WP.iload (pc' := 582) dNOK_580 rfl rfl ?_
    refine WP.bipush (pc' := 584) (x := 13) dNOK_582 (by decide) rfl ?_
    refine WP.isub (pc' := 585) dNOK_584 rfl ?_
    rw [show Int32.ofNat e - 13 = Int32.ofNat (e - 13) from n32_sub (k := 13) (by omega) he2]
    refine WP.lload (pc' := 587) dNOK_585 rfl rfl ?_
    refine WP.callS (pc' := 590) (con_DIG hw hc hf hlat S hm (hg 13 hk)) (hw _ (List.mem_of_getElem? (i := 280) rfl)) (hw _ (List.mem_of_getElem? (i := 281) rfl)) (hw _ (List.mem_of_getElem? (i := 231) rfl)) (hw _ (List.mem_of_getElem? (i := 282) rfl)) dNOK_587 (by decide) pdx29 rfl rfl rfl (by first | exact Nat.le_of_ble_eq_true rfl | omega | (simp; done) | (simp; omega) | (dsimp only; omega)) (by first | exact Nat.le_of_ble_eq_true rfl | omega | (simp; done) | (simp; omega) | (dsimp only; omega)) (by first | exact Nat.le_of_ble_eq_true rfl | omega | (simp; done) | (simp; omega) | (dsimp only; omega)) (by first | exact Nat.le_of_ble_eq_true rfl | omega | (simp; done) | (simp; omega) | (dsimp only; omega)) (fun _ hx => nomatch hx) rfl ?_
    rintro v h' nw K' hnw ⟨rfl, rfl, rfl⟩
    dsimp only [Option.toList, List.cons_append, List.nil_append]
    refine WP.ifF (pc' := 593) dNOK_590 rfl (show ¬ (1 : Int32) = 0 by decide) ?_
    refine WP.iconst (pc' := 594) (x := 1) dNOK_593 (by decide) rfl ?_
    refine WP.goto (pc' := 598) dNOK_594 (by decide) (by decide) ?_
    refine WP.istore (pc' := 600) dNOK_598 rfl rfl rfl ?_
    dsimp only [List.set]
    exact J
  · refine WP.icmpT (pc' := 600) dNOK_571 (by decide) (by decide) (fun q => hk ((n32_lt (i := 13) (by omega) (by omega)).mp q)) ?_
    exact J
set_option maxRecDepth 65536 in
set_option maxHeartbeats 40000000 in
theorem step_NOK14 (hw : ∀ d ∈ tables_1, d.before a0 Z = true) {cz : Int32} (hc : Compact Z cz) {vf : Value} (hf : Fmt Z vf) {a t : Addr} {us : List UInt16} (hlat : lat us = true) (S : StrAt Z h a t us) {x n : Int64} {M e : Nat} {p0 ng st : Int32} (he : (digs M).length ≤ e + 1) (he2 : e < 2 ^ 31) (h19 : (digs M).length ≤ 19) (hg : ∀ k, k < (digs M).length → us[e - k]? = some (dgc (M / 10 ^ k))) (K : ∀ m : Int64, m.toInt = -((M / 1000000000000000 : Nat) : Int) → WP "com/example/orunmila/orunmila/LocationToStringPinLaw" method_5_code 13 (some .boolean) "numOk" { frames := 6, cells := 0, slots := 0, locals := 81 } Z LT h [] mine (fun v h' nw => nw = [] ∧ v = some (.int 1) ∧ h' = h) mine 0 0 h 649 [.val (.ref a), .val (.int p0), .val (.long x), .second, .val (.int ng), .val (.long n), .second, .val (.int (Int32.ofNat (digs M).length)), .val (.int st), .val (.int (Int32.ofNat e)), .val (.int 1), .val (.long m), .second] []) :
    ∀ m : Int64, m.toInt = -((M / 100000000000000 : Nat) : Int) → WP "com/example/orunmila/orunmila/LocationToStringPinLaw" method_5_code 13 (some .boolean) "numOk" { frames := 6, cells := 0, slots := 0, locals := 81 } Z LT h [] mine (fun v h' nw => nw = [] ∧ v = some (.int 1) ∧ h' = h) mine 0 0 h 608 [.val (.ref a), .val (.int p0), .val (.long x), .second, .val (.int ng), .val (.long n), .second, .val (.int (Int32.ofNat (digs M).length)), .val (.int st), .val (.int (Int32.ofNat e)), .val (.int 1), .val (.long m), .second] [] := by
  intro m hm
  have J : WP "com/example/orunmila/orunmila/LocationToStringPinLaw" method_5_code 13 (some .boolean) "numOk" { frames := 6, cells := 0, slots := 0, locals := 81 } Z LT h [] mine (fun v h' nw => nw = [] ∧ v = some (.int 1) ∧ h' = h) mine 0 0 h 641 [.val (.ref a), .val (.int p0), .val (.long x), .second, .val (.int ng), .val (.long n), .second, .val (.int (Int32.ofNat (digs M).length)), .val (.int st), .val (.int (Int32.ofNat e)), .val (.int 1), .val (.long m), .second] [] := by
    refine WP.lload (pc' := 643) dNOK_641 rfl rfl ?_
    refine WP.ldc2Long (pc' := 646) dNOK_643 (hw _ (List.mem_of_getElem? (i := 283) rfl)) rfl ?_
    refine WP.ldiv (pc' := 647) dNOK_646 (by decide) rfl ?_
    first | refine WP.lstore (pc' := 649) dNOK_647 rfl rfl rfl rfl ?_ | refine WP.lstoreL (pc' := 649) dNOK_647 rfl rfl rfl rfl ?_
    dsimp only [List.set]
    exact K (m / 10) (by have q := l_div (d := 10) hm (y := 10) (by decide) (by decide); rw [q, Nat.div_div_eq_div_mul])
  refine WP.iload (pc' := 610) dNOK_608 rfl rfl ?_
  refine WP.bipush (pc' := 612) (x := 14) dNOK_610 (by decide) rfl ?_
  by_cases hk : 14 < (digs M).length
  · refine WP.icmpF (pc' := 615) dNOK_612 rfl ((n32_lt (i := 14) (by omega) (by omega)).mpr hk) ?_
    refine WP.iload (pc' := 617) dNOK_615 rfl rfl ?_
    refine WP.ifF (pc' := 620) dNOK_617 rfl (show ¬ (1 : Int32) = 0 by decide) ?_
    refine WP.aloadN (pc' := 621) dNOK_620 rfl rfl rfl ?_
    refine WP.iload (pc' := 623) dNOK_621 rfl rfl ?_
    refine WP.bipush (pc' := 625) (x := 14) dNOK_623 (by decide) rfl ?_
    refine WP.isub (pc' := 626) dNOK_625 rfl ?_
    rw [show Int32.ofNat e - 14 = Int32.ofNat (e - 14) from n32_sub (k := 14) (by omega) he2]
    refine WP.lload (pc' := 628) dNOK_626 rfl rfl ?_
    refine WP.callS (pc' := 631) (con_DIG hw hc hf hlat S hm (hg 14 hk)) (hw _ (List.mem_of_getElem? (i := 280) rfl)) (hw _ (List.mem_of_getElem? (i := 281) rfl)) (hw _ (List.mem_of_getElem? (i := 231) rfl)) (hw _ (List.mem_of_getElem? (i := 282) rfl)) dNOK_628 (by decide) pdx29 rfl rfl rfl (by first | exact Nat.le_of_ble_eq_true rfl | omega | (simp; done) | (simp; omega) | (dsimp only; omega)) (by first | exact Nat.le_of_ble_eq_true rfl | omega | (simp; done) | (simp; omega) | (dsimp only; omega)) (by first | exact Nat.le_of_ble_eq_true rfl | omega | (simp; done) | (simp; omega) | (dsimp only; omega)) (by first | exact Nat.le_of_ble_eq_true rfl | omega | (simp; done) | (simp; omega) | (dsimp only; omega)) (fun _ hx => nomatch hx) rfl ?_
    rintro v h' nw K' hnw ⟨rfl, rfl, rfl⟩
    dsimp only [Option.toList, List.cons_append, List.nil_append]
    refine WP.ifF (pc' := 634) dNOK_631 rfl (show ¬ (1 : Int32) = 0 by decide) ?_
    refine WP.iconst (pc' := 635) (x := 1) dNOK_634 (by decide) rfl ?_
    refine WP.goto (pc' := 639) dNOK_635 (by decide) (by decide) ?_
    refine WP.istore (pc' := 641) dNOK_639 rfl rfl rfl ?_
    dsimp only [List.set]
    exact J
  · refine WP.icmpT (pc' := 641) dNOK_612 (by decide) (by decide) (fun q => hk ((n32_lt (i := 14) (by omega) (by omega)).mp q)) ?_
    exact J
set_option maxRecDepth 65536 in
set_option maxHeartbeats 40000000 in
theorem step_NOK15 (hw : ∀ d ∈ tables_1, d.before a0 Z = true) {cz : Int32} (hc : Compact Z cz) {vf : Value} (hf : Fmt Z vf) {a t : Addr} {us : List UInt16} (hlat : lat us = true) (S : StrAt Z h a t us) {x n : Int64} {M e : Nat} {p0 ng st : Int32} (he : (digs M).length ≤ e + 1) (he2 : e < 2 ^ 31) (h19 : (digs M).length ≤ 19) (hg : ∀ k, k < (digs M).length → us[e - k]? = some (dgc (M / 10 ^ k))) (K : ∀ m : Int64, m.toInt = -((M / 10000000000000000 : Nat) : Int) → WP "com/example/orunmila/orunmila/LocationToStringPinLaw" method_5_code 13 (some .boolean) "numOk" { frames := 6, cells := 0, slots := 0, locals := 81 } Z LT h [] mine (fun v h' nw => nw = [] ∧ v = some (.int 1) ∧ h' = h) mine 0 0 h 690 [.val (.ref a), .val (.int p0), .val (.long x), .second, .val (.int ng), .val (.long n), .second, .val (.int (Int32.ofNat (digs M).length)), .val (.int st), .val (.int (Int32.ofNat e)), .val (.int 1), .val (.long m), .second] []) :
    ∀ m : Int64, m.toInt = -((M / 1000000000000000 : Nat) : Int) → WP "com/example/orunmila/orunmila/LocationToStringPinLaw" method_5_code 13 (some .boolean) "numOk" { frames := 6, cells := 0, slots := 0, locals := 81 } Z LT h [] mine (fun v h' nw => nw = [] ∧ v = some (.int 1) ∧ h' = h) mine 0 0 h 649 [.val (.ref a), .val (.int p0), .val (.long x), .second, .val (.int ng), .val (.long n), .second, .val (.int (Int32.ofNat (digs M).length)), .val (.int st), .val (.int (Int32.ofNat e)), .val (.int 1), .val (.long m), .second] [] := by
  intro m hm
  have J : WP "com/example/orunmila/orunmila/LocationToStringPinLaw" method_5_code 13 (some .boolean) "numOk" { frames := 6, cells := 0, slots := 0, locals := 81 } Z LT h [] mine (fun v h' nw => nw = [] ∧ v = some (.int 1) ∧ h' = h) mine 0 0 h 682 [.val (.ref a), .val (.int p0), .val (.long x), .second, .val (.int ng), .val (.long n), .second, .val (.int (Int32.ofNat (digs M).length)), .val (.int st), .val (.int (Int32.ofNat e)), .val (.int 1), .val (.long m), .second] [] := by
    refine WP.lload (pc' := 684) dNOK_682 rfl rfl ?_
    refine WP.ldc2Long (pc' := 687) dNOK_684 (hw _ (List.mem_of_getElem? (i := 283) rfl)) rfl ?_
    refine WP.ldiv (pc' := 688) dNOK_687 (by decide) rfl ?_
    first | refine WP.lstore (pc' := 690) dNOK_688 rfl rfl rfl rfl ?_ | refine WP.lstoreL (pc' := 690) dNOK_688 rfl rfl rfl rfl ?_
    dsimp only [List.set]
    exact K (m / 10) (by have q := l_div (d := 10) hm (y := 10) (by decide) (by decide); rw [q, Nat.div_div_eq_div_mul])
  refine WP.iload (pc' := 651) dNOK_649 rfl rfl ?_
  refine WP.bipush (pc' := 653) (x := 15) dNOK_651 (by decide) rfl ?_
  by_cases hk : 15 < (digs M).length
  · refine WP.icmpF (pc' := 656) dNOK_653 rfl ((n32_lt (i := 15) (by omega) (by omega)).mpr hk) ?_
    refine WP.iload (pc' := 658) dNOK_656 rfl rfl ?_
    refine WP.ifF (pc' := 661) dNOK_658 rfl (show ¬ (1 : Int32) = 0 by decide) ?_
    refine WP.aloadN (pc' := 662) dNOK_661 rfl rfl rfl ?_
    refine WP.iload (pc' := 664) dNOK_662 rfl rfl ?_
    refine WP.bipush (pc' := 666) (x := 15) dNOK_664 (by decide) rfl ?_
    refine WP.isub (pc' := 667) dNOK_666 rfl ?_
    rw [show Int32.ofNat e - 15 = Int32.ofNat (e - 15) from n32_sub (k := 15) (by omega) he2]
    refine WP.lload (pc' := 669) dNOK_667 rfl rfl ?_
    refine WP.callS (pc' := 672) (con_DIG hw hc hf hlat S hm (hg 15 hk)) (hw _ (List.mem_of_getElem? (i := 280) rfl)) (hw _ (List.mem_of_getElem? (i := 281) rfl)) (hw _ (List.mem_of_getElem? (i := 231) rfl)) (hw _ (List.mem_of_getElem? (i := 282) rfl)) dNOK_669 (by decide) pdx29 rfl rfl rfl (by first | exact Nat.le_of_ble_eq_true rfl | omega | (simp; done) | (simp; omega) | (dsimp only; omega)) (by first | exact Nat.le_of_ble_eq_true rfl | omega | (simp; done) | (simp; omega) | (dsimp only; omega)) (by first | exact Nat.le_of_ble_eq_true rfl | omega | (simp; done) | (simp; omega) | (dsimp only; omega)) (by first | exact Nat.le_of_ble_eq_true rfl | omega | (simp; done) | (simp; omega) | (dsimp only; omega)) (fun _ hx => nomatch hx) rfl ?_
    rintro v h' nw K' hnw ⟨rfl, rfl, rfl⟩
    dsimp only [Option.toList, List.cons_append, List.nil_append]
    refine WP.ifF (pc' := 675) dNOK_672 rfl (show ¬ (1 : Int32) = 0 by decide) ?_
    refine WP.iconst (pc' := 676) (x := 1) dNOK_675 (by decide) rfl ?_
    refine WP.goto (pc' := 680) dNOK_676 (by decide) (by decide) ?_
    refine WP.istore (pc' := 682) dNOK_680 rfl rfl rfl ?_
    dsimp only [List.set]
    exact J
  · refine WP.icmpT (pc' := 682) dNOK_653 (by decide) (by decide) (fun q => hk ((n32_lt (i := 15) (by omega) (by omega)).mp q)) ?_
    exact J
set_option maxRecDepth 65536 in
set_option maxHeartbeats 40000000 in
theorem step_NOK16 (hw : ∀ d ∈ tables_1, d.before a0 Z = true) {cz : Int32} (hc : Compact Z cz) {vf : Value} (hf : Fmt Z vf) {a t : Addr} {us : List UInt16} (hlat : lat us = true) (S : StrAt Z h a t us) {x n : Int64} {M e : Nat} {p0 ng st : Int32} (he : (digs M).length ≤ e + 1) (he2 : e < 2 ^ 31) (h19 : (digs M).length ≤ 19) (hg : ∀ k, k < (digs M).length → us[e - k]? = some (dgc (M / 10 ^ k))) (K : ∀ m : Int64, m.toInt = -((M / 100000000000000000 : Nat) : Int) → WP "com/example/orunmila/orunmila/LocationToStringPinLaw" method_5_code 13 (some .boolean) "numOk" { frames := 6, cells := 0, slots := 0, locals := 81 } Z LT h [] mine (fun v h' nw => nw = [] ∧ v = some (.int 1) ∧ h' = h) mine 0 0 h 731 [.val (.ref a), .val (.int p0), .val (.long x), .second, .val (.int ng), .val (.long n), .second, .val (.int (Int32.ofNat (digs M).length)), .val (.int st), .val (.int (Int32.ofNat e)), .val (.int 1), .val (.long m), .second] []) :
    ∀ m : Int64, m.toInt = -((M / 10000000000000000 : Nat) : Int) → WP "com/example/orunmila/orunmila/LocationToStringPinLaw" method_5_code 13 (some .boolean) "numOk" { frames := 6, cells := 0, slots := 0, locals := 81 } Z LT h [] mine (fun v h' nw => nw = [] ∧ v = some (.int 1) ∧ h' = h) mine 0 0 h 690 [.val (.ref a), .val (.int p0), .val (.long x), .second, .val (.int ng), .val (.long n), .second, .val (.int (Int32.ofNat (digs M).length)), .val (.int st), .val (.int (Int32.ofNat e)), .val (.int 1), .val (.long m), .second] [] := by
  intro m hm
  have J : WP "com/example/orunmila/orunmila/LocationToStringPinLaw" method_5_code 13 (some .boolean) "numOk" { frames := 6, cells := 0, slots := 0, locals := 81 } Z LT h [] mine (fun v h' nw => nw = [] ∧ v = some (.int 1) ∧ h' = h) mine 0 0 h 723 [.val (.ref a), .val (.int p0), .val (.long x), .second, .val (.int ng), .val (.long n), .second, .val (.int (Int32.ofNat (digs M).length)), .val (.int st), .val (.int (Int32.ofNat e)), .val (.int 1), .val (.long m), .second] [] := by
    refine WP.lload (pc' := 725) dNOK_723 rfl rfl ?_
    refine WP.ldc2Long (pc' := 728) dNOK_725 (hw _ (List.mem_of_getElem? (i := 283) rfl)) rfl ?_
    refine WP.ldiv (pc' := 729) dNOK_728 (by decide) rfl ?_
    first | refine WP.lstore (pc' := 731) dNOK_729 rfl rfl rfl rfl ?_ | refine WP.lstoreL (pc' := 731) dNOK_729 rfl rfl rfl rfl ?_
    dsimp only [List.set]
    exact K (m / 10) (by have q := l_div (d := 10) hm (y := 10) (by decide) (by decide); rw [q, Nat.div_div_eq_div_mul])
  refine WP.iload (pc' := 692) dNOK_690 rfl rfl ?_
  refine WP.bipush (pc' := 694) (x := 16) dNOK_692 (by decide) rfl ?_
  by_cases hk : 16 < (digs M).length
  · refine WP.icmpF (pc' := 697) dNOK_694 rfl ((n32_lt (i := 16) (by omega) (by omega)).mpr hk) ?_
    refine WP.iload (pc' := 699) dNOK_697 rfl rfl ?_
    refine WP.ifF (pc' := 702) dNOK_699 rfl (show ¬ (1 : Int32) = 0 by decide) ?_
    refine WP.aloadN (pc' := 703) dNOK_702 rfl rfl rfl ?_
    refine WP.iload (pc' := 705) dNOK_703 rfl rfl ?_
    refine WP.bipush (pc' := 707) (x := 16) dNOK_705 (by decide) rfl ?_
    refine WP.isub (pc' := 708) dNOK_707 rfl ?_
    rw [show Int32.ofNat e - 16 = Int32.ofNat (e - 16) from n32_sub (k := 16) (by omega) he2]
    refine WP.lload (pc' := 710) dNOK_708 rfl rfl ?_
    refine WP.callS (pc' := 713) (con_DIG hw hc hf hlat S hm (hg 16 hk)) (hw _ (List.mem_of_getElem? (i := 280) rfl)) (hw _ (List.mem_of_getElem? (i := 281) rfl)) (hw _ (List.mem_of_getElem? (i := 231) rfl)) (hw _ (List.mem_of_getElem? (i := 282) rfl)) dNOK_710 (by decide) pdx29 rfl rfl rfl (by first | exact Nat.le_of_ble_eq_true rfl | omega | (simp; done) | (simp; omega) | (dsimp only; omega)) (by first | exact Nat.le_of_ble_eq_true rfl | omega | (simp; done) | (simp; omega) | (dsimp only; omega)) (by first | exact Nat.le_of_ble_eq_true rfl | omega | (simp; done) | (simp; omega) | (dsimp only; omega)) (by first | exact Nat.le_of_ble_eq_true rfl | omega | (simp; done) | (simp; omega) | (dsimp only; omega)) (fun _ hx => nomatch hx) rfl ?_
    rintro v h' nw K' hnw ⟨rfl, rfl, rfl⟩
    dsimp only [Option.toList, List.cons_append, List.nil_append]
    refine WP.ifF (pc' := 716) dNOK_713 rfl (show ¬ (1 : Int32) = 0 by decide) ?_
    refine WP.iconst (pc' := 717) (x := 1) dNOK_716 (by decide) rfl ?_
    refine WP.goto (pc' := 721) dNOK_717 (by decide) (by decide) ?_
    refine WP.istore (pc' := 723) dNOK_721 rfl rfl rfl ?_
    dsimp only [List.set]
    exact J
  · refine WP.icmpT (pc' := 723) dNOK_694 (by decide) (by decide) (fun q => hk ((n32_lt (i := 16) (by omega) (by omega)).mp q)) ?_
    exact J
set_option maxRecDepth 65536 in
set_option maxHeartbeats 40000000 in
theorem step_NOK17 (hw : ∀ d ∈ tables_1, d.before a0 Z = true) {cz : Int32} (hc : Compact Z cz) {vf : Value} (hf : Fmt Z vf) {a t : Addr} {us : List UInt16} (hlat : lat us = true) (S : StrAt Z h a t us) {x n : Int64} {M e : Nat} {p0 ng st : Int32} (he : (digs M).length ≤ e + 1) (he2 : e < 2 ^ 31) (h19 : (digs M).length ≤ 19) (hg : ∀ k, k < (digs M).length → us[e - k]? = some (dgc (M / 10 ^ k))) (K : ∀ m : Int64, m.toInt = -((M / 1000000000000000000 : Nat) : Int) → WP "com/example/orunmila/orunmila/LocationToStringPinLaw" method_5_code 13 (some .boolean) "numOk" { frames := 6, cells := 0, slots := 0, locals := 81 } Z LT h [] mine (fun v h' nw => nw = [] ∧ v = some (.int 1) ∧ h' = h) mine 0 0 h 772 [.val (.ref a), .val (.int p0), .val (.long x), .second, .val (.int ng), .val (.long n), .second, .val (.int (Int32.ofNat (digs M).length)), .val (.int st), .val (.int (Int32.ofNat e)), .val (.int 1), .val (.long m), .second] []) :
    ∀ m : Int64, m.toInt = -((M / 100000000000000000 : Nat) : Int) → WP "com/example/orunmila/orunmila/LocationToStringPinLaw" method_5_code 13 (some .boolean) "numOk" { frames := 6, cells := 0, slots := 0, locals := 81 } Z LT h [] mine (fun v h' nw => nw = [] ∧ v = some (.int 1) ∧ h' = h) mine 0 0 h 731 [.val (.ref a), .val (.int p0), .val (.long x), .second, .val (.int ng), .val (.long n), .second, .val (.int (Int32.ofNat (digs M).length)), .val (.int st), .val (.int (Int32.ofNat e)), .val (.int 1), .val (.long m), .second] [] := by
  intro m hm
  have J : WP "com/example/orunmila/orunmila/LocationToStringPinLaw" method_5_code 13 (some .boolean) "numOk" { frames := 6, cells := 0, slots := 0, locals := 81 } Z LT h [] mine (fun v h' nw => nw = [] ∧ v = some (.int 1) ∧ h' = h) mine 0 0 h 764 [.val (.ref a), .val (.int p0), .val (.long x), .second, .val (.int ng), .val (.long n), .second, .val (.int (Int32.ofNat (digs M).length)), .val (.int st), .val (.int (Int32.ofNat e)), .val (.int 1), .val (.long m), .second] [] := by
    refine WP.lload (pc' := 766) dNOK_764 rfl rfl ?_
    refine WP.ldc2Long (pc' := 769) dNOK_766 (hw _ (List.mem_of_getElem? (i := 283) rfl)) rfl ?_
    refine WP.ldiv (pc' := 770) dNOK_769 (by decide) rfl ?_
    first | refine WP.lstore (pc' := 772) dNOK_770 rfl rfl rfl rfl ?_ | refine WP.lstoreL (pc' := 772) dNOK_770 rfl rfl rfl rfl ?_
    dsimp only [List.set]
    exact K (m / 10) (by have q := l_div (d := 10) hm (y := 10) (by decide) (by decide); rw [q, Nat.div_div_eq_div_mul])
  refine WP.iload (pc' := 733) dNOK_731 rfl rfl ?_
  refine WP.bipush (pc' := 735) (x := 17) dNOK_733 (by decide) rfl ?_
  by_cases hk : 17 < (digs M).length
  · refine WP.icmpF (pc' := 738) dNOK_735 rfl ((n32_lt (i := 17) (by omega) (by omega)).mpr hk) ?_
    refine WP.iload (pc' := 740) dNOK_738 rfl rfl ?_
    refine WP.ifF (pc' := 743) dNOK_740 rfl (show ¬ (1 : Int32) = 0 by decide) ?_
    refine WP.aloadN (pc' := 744) dNOK_743 rfl rfl rfl ?_
    refine WP.iload (pc' := 746) dNOK_744 rfl rfl ?_
    refine WP.bipush (pc' := 748) (x := 17) dNOK_746 (by decide) rfl ?_
    refine WP.isub (pc' := 749) dNOK_748 rfl ?_
    rw [show Int32.ofNat e - 17 = Int32.ofNat (e - 17) from n32_sub (k := 17) (by omega) he2]
    refine WP.lload (pc' := 751) dNOK_749 rfl rfl ?_
    refine WP.callS (pc' := 754) (con_DIG hw hc hf hlat S hm (hg 17 hk)) (hw _ (List.mem_of_getElem? (i := 280) rfl)) (hw _ (List.mem_of_getElem? (i := 281) rfl)) (hw _ (List.mem_of_getElem? (i := 231) rfl)) (hw _ (List.mem_of_getElem? (i := 282) rfl)) dNOK_751 (by decide) pdx29 rfl rfl rfl (by first | exact Nat.le_of_ble_eq_true rfl | omega | (simp; done) | (simp; omega) | (dsimp only; omega)) (by first | exact Nat.le_of_ble_eq_true rfl | omega | (simp; done) | (simp; omega) | (dsimp only; omega)) (by first | exact Nat.le_of_ble_eq_true rfl | omega | (simp; done) | (simp; omega) | (dsimp only; omega)) (by first | exact Nat.le_of_ble_eq_true rfl | omega | (simp; done) | (simp; omega) | (dsimp only; omega)) (fun _ hx => nomatch hx) rfl ?_
    rintro v h' nw K' hnw ⟨rfl, rfl, rfl⟩
    dsimp only [Option.toList, List.cons_append, List.nil_append]
    refine WP.ifF (pc' := 757) dNOK_754 rfl (show ¬ (1 : Int32) = 0 by decide) ?_
    refine WP.iconst (pc' := 758) (x := 1) dNOK_757 (by decide) rfl ?_
    refine WP.goto (pc' := 762) dNOK_758 (by decide) (by decide) ?_
    refine WP.istore (pc' := 764) dNOK_762 rfl rfl rfl ?_
    dsimp only [List.set]
    exact J
  · refine WP.icmpT (pc' := 764) dNOK_735 (by decide) (by decide) (fun q => hk ((n32_lt (i := 17) (by omega) (by omega)).mp q)) ?_
    exact J
set_option maxRecDepth 65536 in
set_option maxHeartbeats 40000000 in
theorem step_NOK18 (hw : ∀ d ∈ tables_1, d.before a0 Z = true) {cz : Int32} (hc : Compact Z cz) {vf : Value} (hf : Fmt Z vf) {a t : Addr} {us : List UInt16} (hlat : lat us = true) (S : StrAt Z h a t us) {x n : Int64} {M e : Nat} {p0 ng st : Int32} (he : (digs M).length ≤ e + 1) (he2 : e < 2 ^ 31) (h19 : (digs M).length ≤ 19) (hg : ∀ k, k < (digs M).length → us[e - k]? = some (dgc (M / 10 ^ k))) (K : ∀ m : Int64, WP "com/example/orunmila/orunmila/LocationToStringPinLaw" method_5_code 13 (some .boolean) "numOk" { frames := 6, cells := 0, slots := 0, locals := 81 } Z LT h [] mine (fun v h' nw => nw = [] ∧ v = some (.int 1) ∧ h' = h) mine 0 0 h 805 [.val (.ref a), .val (.int p0), .val (.long x), .second, .val (.int ng), .val (.long n), .second, .val (.int (Int32.ofNat (digs M).length)), .val (.int st), .val (.int (Int32.ofNat e)), .val (.int 1), .val (.long m), .second] []) :
    ∀ m : Int64, m.toInt = -((M / 1000000000000000000 : Nat) : Int) → WP "com/example/orunmila/orunmila/LocationToStringPinLaw" method_5_code 13 (some .boolean) "numOk" { frames := 6, cells := 0, slots := 0, locals := 81 } Z LT h [] mine (fun v h' nw => nw = [] ∧ v = some (.int 1) ∧ h' = h) mine 0 0 h 772 [.val (.ref a), .val (.int p0), .val (.long x), .second, .val (.int ng), .val (.long n), .second, .val (.int (Int32.ofNat (digs M).length)), .val (.int st), .val (.int (Int32.ofNat e)), .val (.int 1), .val (.long m), .second] [] := by
  intro m hm
  have J : WP "com/example/orunmila/orunmila/LocationToStringPinLaw" method_5_code 13 (some .boolean) "numOk" { frames := 6, cells := 0, slots := 0, locals := 81 } Z LT h [] mine (fun v h' nw => nw = [] ∧ v = some (.int 1) ∧ h' = h) mine 0 0 h 805 [.val (.ref a), .val (.int p0), .val (.long x), .second, .val (.int ng), .val (.long n), .second, .val (.int (Int32.ofNat (digs M).length)), .val (.int st), .val (.int (Int32.ofNat e)), .val (.int 1), .val (.long m), .second] [] := by
    exact K m
  refine WP.iload (pc' := 774) dNOK_772 rfl rfl ?_
  refine WP.bipush (pc' := 776) (x := 18) dNOK_774 (by decide) rfl ?_
  by_cases hk : 18 < (digs M).length
  · refine WP.icmpF (pc' := 779) dNOK_776 rfl ((n32_lt (i := 18) (by omega) (by omega)).mpr hk) ?_
    refine WP.iload (pc' := 781) dNOK_779 rfl rfl ?_
    refine WP.ifF (pc' := 784) dNOK_781 rfl (show ¬ (1 : Int32) = 0 by decide) ?_
    refine WP.aloadN (pc' := 785) dNOK_784 rfl rfl rfl ?_
    refine WP.iload (pc' := 787) dNOK_785 rfl rfl ?_
    refine WP.bipush (pc' := 789) (x := 18) dNOK_787 (by decide) rfl ?_
    refine WP.isub (pc' := 790) dNOK_789 rfl ?_
    rw [show Int32.ofNat e - 18 = Int32.ofNat (e - 18) from n32_sub (k := 18) (by omega) he2]
    refine WP.lload (pc' := 792) dNOK_790 rfl rfl ?_
    refine WP.callS (pc' := 795) (con_DIG hw hc hf hlat S hm (hg 18 hk)) (hw _ (List.mem_of_getElem? (i := 280) rfl)) (hw _ (List.mem_of_getElem? (i := 281) rfl)) (hw _ (List.mem_of_getElem? (i := 231) rfl)) (hw _ (List.mem_of_getElem? (i := 282) rfl)) dNOK_792 (by decide) pdx29 rfl rfl rfl (by first | exact Nat.le_of_ble_eq_true rfl | omega | (simp; done) | (simp; omega) | (dsimp only; omega)) (by first | exact Nat.le_of_ble_eq_true rfl | omega | (simp; done) | (simp; omega) | (dsimp only; omega)) (by first | exact Nat.le_of_ble_eq_true rfl | omega | (simp; done) | (simp; omega) | (dsimp only; omega)) (by first | exact Nat.le_of_ble_eq_true rfl | omega | (simp; done) | (simp; omega) | (dsimp only; omega)) (fun _ hx => nomatch hx) rfl ?_
    rintro v h' nw K' hnw ⟨rfl, rfl, rfl⟩
    dsimp only [Option.toList, List.cons_append, List.nil_append]
    refine WP.ifF (pc' := 798) dNOK_795 rfl (show ¬ (1 : Int32) = 0 by decide) ?_
    refine WP.iconst (pc' := 799) (x := 1) dNOK_798 (by decide) rfl ?_
    refine WP.goto (pc' := 803) dNOK_799 (by decide) (by decide) ?_
    refine WP.istore (pc' := 805) dNOK_803 rfl rfl rfl ?_
    dsimp only [List.set]
    exact J
  · refine WP.icmpT (pc' := 805) dNOK_776 (by decide) (by decide) (fun q => hk ((n32_lt (i := 18) (by omega) (by omega)).mp q)) ?_
    exact J
set_option maxRecDepth 65536 in
set_option maxHeartbeats 40000000 in
theorem tail_NOK (hw : ∀ d ∈ tables_1, d.before a0 Z = true) {cz : Int32} (hc : Compact Z cz) {vf : Value} (hf : Fmt Z vf) {a t : Addr} {us : List UInt16} (hlat : lat us = true) (S : StrAt Z h a t us) {x n : Int64} {M e : Nat} {p0 ng st : Int32} (he : (digs M).length ≤ e + 1) (he2 : e < 2 ^ 31) (h19 : (digs M).length ≤ 19) (hg : ∀ k, k < (digs M).length → us[e - k]? = some (dgc (M / 10 ^ k))) (hn : n.toInt = -(M : Int)) :
    WP "com/example/orunmila/orunmila/LocationToStringPinLaw" method_5_code 13 (some .boolean) "numOk" { frames := 6, cells := 0, slots := 0, locals := 81 } Z LT h [] mine (fun v h' nw => nw = [] ∧ v = some (.int 1) ∧ h' = h) mine 0 0 h 67 [.val (.ref a), .val (.int p0), .val (.long x), .second, .val (.int ng), .val (.long n), .second, .val (.int (Int32.ofNat (digs M).length)), .val (.int st), .val (.int (Int32.ofNat e)), .unset, .unset, .unset] [] := by
  have hpos := digs_pos M
  have K : ∀ m : Int64, WP "com/example/orunmila/orunmila/LocationToStringPinLaw" method_5_code 13 (some .boolean) "numOk" { frames := 6, cells := 0, slots := 0, locals := 81 } Z LT h [] mine (fun v h' nw => nw = [] ∧ v = some (.int 1) ∧ h' = h) mine 0 0 h 805 [.val (.ref a), .val (.int p0), .val (.long x), .second, .val (.int ng), .val (.long n), .second, .val (.int (Int32.ofNat (digs M).length)), .val (.int st), .val (.int (Int32.ofNat e)), .val (.int 1), .val (.long m), .second] [] := by
    intro m
    refine WP.iload (pc' := 807) dNOK_805 rfl rfl ?_
    exact WP.ireturn dNOK_807 rfl (by simp) rfl ⟨rfl, rfl, rfl⟩ (fun _ hx => nomatch hx) (fun _ hx => hx) (by first | exact Nat.le_of_ble_eq_true rfl | omega) (by first | exact Nat.le_of_ble_eq_true rfl | omega)
  have K18 := step_NOK18 hw hc hf hlat S (x := x) (n := n) (p0 := p0) (ng := ng) (st := st) he he2 h19 hg K
  have K17 := step_NOK17 hw hc hf hlat S (x := x) (n := n) (p0 := p0) (ng := ng) (st := st) he he2 h19 hg K18
  have K16 := step_NOK16 hw hc hf hlat S (x := x) (n := n) (p0 := p0) (ng := ng) (st := st) he he2 h19 hg K17
  have K15 := step_NOK15 hw hc hf hlat S (x := x) (n := n) (p0 := p0) (ng := ng) (st := st) he he2 h19 hg K16
  have K14 := step_NOK14 hw hc hf hlat S (x := x) (n := n) (p0 := p0) (ng := ng) (st := st) he he2 h19 hg K15
  have K13 := step_NOK13 hw hc hf hlat S (x := x) (n := n) (p0 := p0) (ng := ng) (st := st) he he2 h19 hg K14
  have K12 := step_NOK12 hw hc hf hlat S (x := x) (n := n) (p0 := p0) (ng := ng) (st := st) he he2 h19 hg K13
  have K11 := step_NOK11 hw hc hf hlat S (x := x) (n := n) (p0 := p0) (ng := ng) (st := st) he he2 h19 hg K12
  have K10 := step_NOK10 hw hc hf hlat S (x := x) (n := n) (p0 := p0) (ng := ng) (st := st) he he2 h19 hg K11
  have K9 := step_NOK9 hw hc hf hlat S (x := x) (n := n) (p0 := p0) (ng := ng) (st := st) he he2 h19 hg K10
  have K8 := step_NOK8 hw hc hf hlat S (x := x) (n := n) (p0 := p0) (ng := ng) (st := st) he he2 h19 hg K9
  have K7 := step_NOK7 hw hc hf hlat S (x := x) (n := n) (p0 := p0) (ng := ng) (st := st) he he2 h19 hg K8
  have K6 := step_NOK6 hw hc hf hlat S (x := x) (n := n) (p0 := p0) (ng := ng) (st := st) he he2 h19 hg K7
  have K5 := step_NOK5 hw hc hf hlat S (x := x) (n := n) (p0 := p0) (ng := ng) (st := st) he he2 h19 hg K6
  have K4 := step_NOK4 hw hc hf hlat S (x := x) (n := n) (p0 := p0) (ng := ng) (st := st) he he2 h19 hg K5
  have K3 := step_NOK3 hw hc hf hlat S (x := x) (n := n) (p0 := p0) (ng := ng) (st := st) he he2 h19 hg K4
  have K2 := step_NOK2 hw hc hf hlat S (x := x) (n := n) (p0 := p0) (ng := ng) (st := st) he he2 h19 hg K3
  have K1 := step_NOK1 hw hc hf hlat S (x := x) (n := n) (p0 := p0) (ng := ng) (st := st) he he2 h19 hg K2
  refine WP.aloadN (pc' := 68) dNOK_67 rfl rfl rfl ?_
  refine WP.iload (pc' := 70) dNOK_68 rfl rfl ?_
  refine WP.lload (pc' := 72) dNOK_70 rfl rfl ?_
  refine WP.callS (pc' := 75) (con_DIG hw hc hf hlat S hn (by have q := hg 0 (by omega); simpa using q)) (hw _ (List.mem_of_getElem? (i := 280) rfl)) (hw _ (List.mem_of_getElem? (i := 281) rfl)) (hw _ (List.mem_of_getElem? (i := 231) rfl)) (hw _ (List.mem_of_getElem? (i := 282) rfl)) dNOK_72 (by decide) pdx29 rfl rfl rfl (by first | exact Nat.le_of_ble_eq_true rfl | omega | (simp; done) | (simp; omega) | (dsimp only; omega)) (by first | exact Nat.le_of_ble_eq_true rfl | omega | (simp; done) | (simp; omega) | (dsimp only; omega)) (by first | exact Nat.le_of_ble_eq_true rfl | omega | (simp; done) | (simp; omega) | (dsimp only; omega)) (by first | exact Nat.le_of_ble_eq_true rfl | omega | (simp; done) | (simp; omega) | (dsimp only; omega)) (fun _ hx => nomatch hx) rfl ?_
  rintro v h' nw K' hnw ⟨rfl, rfl, rfl⟩
  dsimp only [Option.toList, List.cons_append, List.nil_append]
  refine WP.istore (pc' := 77) dNOK_75 rfl rfl rfl ?_
  dsimp only [List.set]
  refine WP.lload (pc' := 79) dNOK_77 rfl rfl ?_
  refine WP.ldc2Long (pc' := 82) dNOK_79 (hw _ (List.mem_of_getElem? (i := 283) rfl)) rfl ?_
  refine WP.ldiv (pc' := 83) dNOK_82 (by decide) rfl ?_
  first | refine WP.lstore (pc' := 85) dNOK_83 rfl rfl rfl rfl ?_ | refine WP.lstoreL (pc' := 85) dNOK_83 rfl rfl rfl rfl ?_
  dsimp only [List.set]
  exact K1 (n / 10) (l_div (d := 10) hn (y := 10) (by decide) (by decide))
set_option maxRecDepth 65536 in
set_option maxHeartbeats 40000000 in
theorem con_NOK (hw : ∀ d ∈ tables_1, d.before a0 Z = true) {cz : Int32} (hc : Compact Z cz) {vf : Value} (hf : Fmt Z vf) {a t : Addr} {us : List UInt16} (hlat : lat us = true) (S : StrAt Z h a t us) {x : Int64} {pos : Nat} (hp : pos + (dec x.toInt).length < 2 ^ 31) (hs : ∀ i u, (dec x.toInt)[i]? = some u → us[pos + i]? = some u) :
    Con (⟨"com/example/orunmila/orunmila/LocationToStringPinLaw", "numOk", "(Ljava/lang/String;IJ)Z"⟩ : MethodName) method_5_code 13 (some .boolean) { frames := 6, cells := 0, slots := 0, locals := 81 } Z LT [] #[.ref a, .int (Int32.ofNat pos), .long x] h [] mine (fun v h' nw => nw = [] ∧ v = some (.int 1) ∧ h' = h) := by
  have hx := neg64 x
  have e0 : (0 : Int64).toInt = 0 := rfl
  have h1 := digs_pos x.toInt.natAbs
  have h19 : (digs x.toInt.natAbs).length ≤ 19 := (digs_len 18 _).mpr (by omega)
  refine Con.of pnNOK (Ls := [.val (.ref a), .val (.int (Int32.ofNat pos)), .val (.long x), .second, .unset, .unset, .unset, .unset, .unset, .unset, .unset, .unset, .unset]) (fun m => by first | (simp [entryFrame, mkF, argsToLocals, Value.category]; done) | (simp [entryFrame, mkF, argsToLocals, Value.category, maxLocals]; done) | rfl) ?_
  refine WP.lloadN (pc' := 1) dNOK_0 rfl rfl ?_
  refine WP.lconst (pc' := 2) (x := 0) dNOK_1 (by decide) rfl ?_
  refine WP.lcmp (pc' := 3) dNOK_2 rfl ?_
  by_cases hneg : x < 0
  · have hneg' := hneg
    rw [Int64.lt_iff_toInt_lt, e0] at hneg'
    have ed : dec x.toInt = 45 :: digs x.toInt.natAbs := by unfold dec sgn; rw [if_pos hneg']; rfl
    rw [ed] at hs hp
    rw [List.length_cons] at hp
    refine WP.ifF (pc' := 6) dNOK_3 rfl ((lw_lt x 0).mpr hneg) ?_
    refine WP.iconst (pc' := 7) (x := 1) dNOK_6 (by decide) rfl ?_
    refine WP.goto (pc' := 11) dNOK_7 (by decide) (by decide) ?_
    refine WP.istore (pc' := 13) dNOK_11 rfl rfl rfl ?_
    dsimp only [List.set]
    refine WP.iload (pc' := 15) dNOK_13 rfl rfl ?_
    refine WP.ifF (pc' := 18) dNOK_15 rfl (show ¬ (1 : Int32) = 0 by decide) ?_
    refine WP.lloadN (pc' := 19) dNOK_18 rfl rfl ?_
    refine WP.goto (pc' := 24) dNOK_19 (by decide) (by decide) ?_
    first | refine WP.lstore (pc' := 26) dNOK_24 rfl rfl rfl rfl ?_ | refine WP.lstoreL (pc' := 26) dNOK_24 rfl rfl rfl rfl ?_
    dsimp only [List.set]
    refine WP.lload (pc' := 28) dNOK_26 rfl rfl ?_
    refine WP.callS (pc' := 31) (con_DGT hw (hx.2.1 hneg) hx.2.2) (hw _ (List.mem_of_getElem? (i := 233) rfl)) (hw _ (List.mem_of_getElem? (i := 234) rfl)) (hw _ (List.mem_of_getElem? (i := 231) rfl)) (hw _ (List.mem_of_getElem? (i := 235) rfl)) dNOK_28 (by decide) pdx23 rfl rfl rfl (by first | exact Nat.le_of_ble_eq_true rfl | omega | (simp; done) | (simp; omega) | (dsimp only; omega)) (by first | exact Nat.le_of_ble_eq_true rfl | omega | (simp; done) | (simp; omega) | (dsimp only; omega)) (by first | exact Nat.le_of_ble_eq_true rfl | omega | (simp; done) | (simp; omega) | (dsimp only; omega)) (by first | exact Nat.le_of_ble_eq_true rfl | omega | (simp; done) | (simp; omega) | (dsimp only; omega)) (fun _ hx => nomatch hx) rfl ?_
    rintro v h' nw K hnw ⟨rfl, rfl, rfl⟩
    dsimp only [Option.toList, List.cons_append, List.nil_append]
    refine WP.istore (pc' := 33) dNOK_31 rfl rfl rfl ?_
    dsimp only [List.set]
    refine WP.iloadN (pc' := 34) dNOK_33 rfl rfl ?_
    refine WP.istore (pc' := 36) dNOK_34 rfl rfl rfl ?_
    dsimp only [List.set]
    refine WP.iload (pc' := 38) dNOK_36 rfl rfl ?_
    refine WP.ifF (pc' := 41) dNOK_38 rfl (show ¬ (1 : Int32) = 0 by decide) ?_
    refine WP.aloadN (pc' := 42) dNOK_41 rfl rfl rfl ?_
    refine WP.iloadN (pc' := 43) dNOK_42 rfl rfl ?_
    refine WP.callV (pc' := 46) (con_CA hw hc hf hlat (i := pos) (u := 45) S (by have q := hs 0 45 rfl; simpa using q)) S.1 (hw _ (List.mem_of_getElem? (i := 255) rfl)) (hw _ (List.mem_of_getElem? (i := 256) rfl)) (fun s hs => notFace_of_selects (args := #[]) (mv hs (hw _ (List.mem_of_getElem? (i := 258) rfl)))) (hw _ (List.mem_of_getElem? (i := 258) rfl)) (hw _ (List.mem_of_getElem? (i := 257) rfl)) (hw _ (List.mem_of_getElem? (i := 4) rfl)) (hw _ (List.mem_of_getElem? (i := 259) rfl)) dNOK_43 (by decide) pdx28 rfl rfl rfl (by first | exact Nat.le_of_ble_eq_true rfl | omega | (simp; done) | (simp; omega) | (dsimp only; omega)) (by first | exact Nat.le_of_ble_eq_true rfl | omega | (simp; done) | (simp; omega) | (dsimp only; omega)) (by first | exact Nat.le_of_ble_eq_true rfl | omega | (simp; done) | (simp; omega) | (dsimp only; omega)) (by first | exact Nat.le_of_ble_eq_true rfl | omega | (simp; done) | (simp; omega) | (dsimp only; omega)) (fun _ hx => nomatch hx) rfl ?_
    rintro v h' nw K hnw ⟨rfl, rfl, rfl⟩
    dsimp only [Option.toList, List.cons_append, List.nil_append]
    refine WP.bipush (pc' := 48) (x := 45) dNOK_46 (by decide) rfl ?_
    refine WP.icmpT (pc' := 53) dNOK_48 (by decide) (by decide) (show chv 45 = 45 by decide) ?_
    refine WP.iloadN (pc' := 54) dNOK_53 rfl rfl ?_
    refine WP.iconst (pc' := 55) (x := 1) dNOK_54 (by decide) rfl ?_
    refine WP.iadd (pc' := 56) dNOK_55 rfl ?_
    rw [n32_succ]
    refine WP.istore (pc' := 58) dNOK_56 rfl rfl rfl ?_
    dsimp only [List.set]
    refine WP.iload (pc' := 60) dNOK_58 rfl rfl ?_
    refine WP.iload (pc' := 62) dNOK_60 rfl rfl ?_
    refine WP.iadd (pc' := 63) dNOK_62 rfl ?_
    rw [n32_add]
    refine WP.iconst (pc' := 64) (x := 1) dNOK_63 (by decide) rfl ?_
    refine WP.isub (pc' := 65) dNOK_64 rfl ?_
    rw [show Int32.ofNat (pos + 1 + (digs x.toInt.natAbs).length) - 1 = Int32.ofNat (pos + (digs x.toInt.natAbs).length) by rw [show (1 : Int32) = Int32.ofNat 1 from rfl, n32_sub (by omega) (by omega)]; congr 1; omega]
    refine WP.istore (pc' := 67) dNOK_65 rfl rfl rfl ?_
    dsimp only [List.set]
    exact tail_NOK hw hc hf hlat S (M := x.toInt.natAbs) (e := pos + (digs x.toInt.natAbs).length) (by omega) (by omega) h19 (fun k hk => by
      have q := hs (1 + ((digs x.toInt.natAbs).length - 1 - k)) (dgc (x.toInt.natAbs / 10 ^ k)) (by rw [Nat.add_comm, List.getElem?_cons_succ]; exact digs_get k _ hk)
      rw [← q]; congr 1; omega) (hx.2.1 hneg)
  · have hneg' := hneg
    rw [Int64.lt_iff_toInt_lt, e0] at hneg'
    have ed : dec x.toInt = digs x.toInt.natAbs := by unfold dec sgn; rw [if_neg hneg']; rfl
    rw [ed] at hs hp
    refine WP.ifT (pc' := 10) dNOK_3 (by decide) (by decide) (fun q => hneg ((lw_lt x 0).mp q)) ?_
    refine WP.iconst (pc' := 11) (x := 0) dNOK_10 (by decide) rfl ?_
    refine WP.istore (pc' := 13) dNOK_11 rfl rfl rfl ?_
    dsimp only [List.set]
    refine WP.iload (pc' := 15) dNOK_13 rfl rfl ?_
    refine WP.ifT (pc' := 22) dNOK_15 (by decide) (by decide) rfl ?_
    refine WP.lloadN (pc' := 23) dNOK_22 rfl rfl ?_
    refine WP.lneg (pc' := 24) dNOK_23 rfl ?_
    first | refine WP.lstore (pc' := 26) dNOK_24 rfl rfl rfl rfl ?_ | refine WP.lstoreL (pc' := 26) dNOK_24 rfl rfl rfl rfl ?_
    dsimp only [List.set]
    refine WP.lload (pc' := 28) dNOK_26 rfl rfl ?_
    refine WP.callS (pc' := 31) (con_DGT hw (hx.1 hneg) hx.2.2) (hw _ (List.mem_of_getElem? (i := 233) rfl)) (hw _ (List.mem_of_getElem? (i := 234) rfl)) (hw _ (List.mem_of_getElem? (i := 231) rfl)) (hw _ (List.mem_of_getElem? (i := 235) rfl)) dNOK_28 (by decide) pdx23 rfl rfl rfl (by first | exact Nat.le_of_ble_eq_true rfl | omega | (simp; done) | (simp; omega) | (dsimp only; omega)) (by first | exact Nat.le_of_ble_eq_true rfl | omega | (simp; done) | (simp; omega) | (dsimp only; omega)) (by first | exact Nat.le_of_ble_eq_true rfl | omega | (simp; done) | (simp; omega) | (dsimp only; omega)) (by first | exact Nat.le_of_ble_eq_true rfl | omega | (simp; done) | (simp; omega) | (dsimp only; omega)) (fun _ hx => nomatch hx) rfl ?_
    rintro v h' nw K hnw ⟨rfl, rfl, rfl⟩
    dsimp only [Option.toList, List.cons_append, List.nil_append]
    refine WP.istore (pc' := 33) dNOK_31 rfl rfl rfl ?_
    dsimp only [List.set]
    refine WP.iloadN (pc' := 34) dNOK_33 rfl rfl ?_
    refine WP.istore (pc' := 36) dNOK_34 rfl rfl rfl ?_
    dsimp only [List.set]
    refine WP.iload (pc' := 38) dNOK_36 rfl rfl ?_
    refine WP.ifT (pc' := 58) dNOK_38 (by decide) (by decide) rfl ?_
    refine WP.iload (pc' := 60) dNOK_58 rfl rfl ?_
    refine WP.iload (pc' := 62) dNOK_60 rfl rfl ?_
    refine WP.iadd (pc' := 63) dNOK_62 rfl ?_
    rw [n32_add]
    refine WP.iconst (pc' := 64) (x := 1) dNOK_63 (by decide) rfl ?_
    refine WP.isub (pc' := 65) dNOK_64 rfl ?_
    rw [show Int32.ofNat (pos + (digs x.toInt.natAbs).length) - 1 = Int32.ofNat (pos + (digs x.toInt.natAbs).length - 1) from n32_sub (k := 1) (by omega) (by omega)]
    refine WP.istore (pc' := 67) dNOK_65 rfl rfl rfl ?_
    dsimp only [List.set]
    exact tail_NOK hw hc hf hlat S (M := x.toInt.natAbs) (e := pos + (digs x.toInt.natAbs).length - 1) (by omega) (by omega) h19 (fun k hk => by
      have q := hs ((digs x.toInt.natAbs).length - 1 - k) (dgc (x.toInt.natAbs / 10 ^ k)) (digs_get k _ hk)
      rw [← q]; congr 1; omega) (hx.1 hneg)
abbrev LOC : String := "com/example/orunmila/orunmila/Location"
def Loc (Z : State) (h : Heap) (o s : Addr) (x : Int64) (c : Int32) : Prop := Exa Z h o LOC ∧ Fld Z h o LOC "source" "Ljava/lang/String;" (.ref s) ∧ Fld Z h o LOC "line" "J" (.long x) ∧ Fld Z h o LOC "column" "I" (.int c)
theorem dRCI_0 : decode jdk_30_method_1_code 0 = .ok (.aload_n 0, 1) := by decide +kernel
theorem dRCI_1 : decode jdk_30_method_1_code 1 = .ok (.invokespecial 1, 3) := by decide +kernel
theorem dRCI_4 : decode jdk_30_method_1_code 4 = .ok (.return_, 1) := by decide +kernel
theorem pnRCI : plainFor (⟨"java/lang/Record", "<init>", "()V"⟩ : MethodName) = true := plainFor_of_name (by first | (simp [plainName, overriddenIn]; done) | decide +kernel)
set_option maxRecDepth 65536 in
set_option maxHeartbeats 40000000 in
theorem con_RCI (hw : ∀ d ∈ tables_1, d.before a0 Z = true) {o : Addr} : Con (⟨"java/lang/Record", "<init>", "()V"⟩ : MethodName) jdk_30_method_1_code 1 none { frames := 1, cells := 0, slots := 0, locals := 12 } Z LT [] #[.ref o] h [] mine (fun v h' nw => nw = [] ∧ v = none ∧ h' = h) := by
  refine Con.of pnRCI (Ls := [.val (.ref o)]) (fun m => by first | (simp [entryFrame, mkF, argsToLocals, Value.category]; done) | (simp [entryFrame, mkF, argsToLocals, Value.category, maxLocals]; done) | rfl) ?_
  refine WP.aloadN (pc' := 1) dRCI_0 rfl rfl rfl ?_
  refine WP.initObj (pc' := 4) (W := 0) dRCI_1 (hw _ (List.mem_of_getElem? (i := 42) rfl)) (hw _ (List.mem_of_getElem? (i := 13) rfl)) (hw _ (List.mem_of_getElem? (i := 14) rfl)) rfl (by first | exact Nat.le_of_ble_eq_true rfl | omega | (simp; done) | (simp; omega) | (dsimp only; omega)) (by first | exact Nat.le_of_ble_eq_true rfl | omega | (simp; done) | (simp; omega) | (dsimp only; omega)) (by first | exact Nat.le_of_ble_eq_true rfl | omega | (simp; done) | (simp; omega) | (dsimp only; omega)) rfl ?_
  exact WP.vret dRCI_4 rfl ⟨rfl, rfl, rfl⟩ (fun _ hx => nomatch hx) (fun _ hx => hx) (by first | exact Nat.le_of_ble_eq_true rfl | omega) (by first | exact Nat.le_of_ble_eq_true rfl | omega)
theorem dRNN_0 : decode jdk_31_method_11_code 0 = .ok (.aload_n 0, 1) := by decide +kernel
theorem dRNN_1 : decode jdk_31_method_11_code 1 = .ok (.ifnonnull 12, 3) := by decide +kernel
theorem dRNN_4 : decode jdk_31_method_11_code 4 = .ok (.new 84, 3) := by decide +kernel
theorem dRNN_7 : decode jdk_31_method_11_code 7 = .ok (.dup, 1) := by decide +kernel
theorem dRNN_8 : decode jdk_31_method_11_code 8 = .ok (.aload_n 1, 1) := by decide +kernel
theorem dRNN_9 : decode jdk_31_method_11_code 9 = .ok (.invokespecial 87, 3) := by decide +kernel
theorem dRNN_12 : decode jdk_31_method_11_code 12 = .ok (.athrow, 1) := by decide +kernel
theorem dRNN_13 : decode jdk_31_method_11_code 13 = .ok (.aload_n 0, 1) := by decide +kernel
theorem dRNN_14 : decode jdk_31_method_11_code 14 = .ok (.areturn, 1) := by decide +kernel
theorem pnRNN : plainFor (⟨"java/util/Objects", "requireNonNull", "(Ljava/lang/Object;Ljava/lang/String;)Ljava/lang/Object;"⟩ : MethodName) = true := plainFor_of_name (by first | (simp [plainName, overriddenIn]; done) | decide +kernel)
set_option maxRecDepth 65536 in
set_option maxHeartbeats 40000000 in
theorem con_RNN (hw : ∀ d ∈ tables_1, d.before a0 Z = true) {o m : Addr} : Con (⟨"java/util/Objects", "requireNonNull", "(Ljava/lang/Object;Ljava/lang/String;)Ljava/lang/Object;"⟩ : MethodName) jdk_31_method_11_code 2 (some (.object "java/lang/Object")) R0 Z LT [] #[.ref o, .ref m] h [] mine (fun v h' nw => nw = [] ∧ v = some (.ref o) ∧ h' = h) := by
  refine Con.of pnRNN (Ls := [.val (.ref o), .val (.ref m)]) (fun m => by first | (simp [entryFrame, mkF, argsToLocals, Value.category]; done) | (simp [entryFrame, mkF, argsToLocals, Value.category, maxLocals]; done) | rfl) ?_
  refine WP.aloadN (pc' := 1) dRNN_0 rfl rfl rfl ?_
  refine WP.ifnonnullT (pc' := 13) dRNN_1 (by decide) (by decide) ?_
  refine WP.aloadN (pc' := 14) dRNN_13 rfl rfl rfl ?_
  exact WP.areturn dRNN_14 rfl rfl rfl ⟨rfl, rfl, rfl⟩ (fun _ hx => nomatch hx) (fun _ hx => hx) (by first | exact Nat.le_of_ble_eq_true rfl | omega) (by first | exact Nat.le_of_ble_eq_true rfl | omega)
theorem dLOI_0 : decode prog_4_method_1_code 0 = .ok (.aload_n 0, 1) := by decide +kernel
theorem dLOI_1 : decode prog_4_method_1_code 1 = .ok (.invokespecial 1, 3) := by decide +kernel
theorem dLOI_4 : decode prog_4_method_1_code 4 = .ok (.aload_n 1, 1) := by decide +kernel
theorem dLOI_5 : decode prog_4_method_1_code 5 = .ok (.ldc 7, 2) := by decide +kernel
theorem dLOI_7 : decode prog_4_method_1_code 7 = .ok (.invokestatic 9, 3) := by decide +kernel
theorem dLOI_10 : decode prog_4_method_1_code 10 = .ok (.pop, 1) := by decide +kernel
theorem dLOI_11 : decode prog_4_method_1_code 11 = .ok (.aload_n 0, 1) := by decide +kernel
theorem dLOI_12 : decode prog_4_method_1_code 12 = .ok (.aload_n 1, 1) := by decide +kernel
theorem dLOI_13 : decode prog_4_method_1_code 13 = .ok (.putfield 15, 3) := by decide +kernel
theorem dLOI_16 : decode prog_4_method_1_code 16 = .ok (.aload_n 0, 1) := by decide +kernel
theorem dLOI_17 : decode prog_4_method_1_code 17 = .ok (.lload_n 2, 1) := by decide +kernel
theorem dLOI_18 : decode prog_4_method_1_code 18 = .ok (.putfield 20, 3) := by decide +kernel
theorem dLOI_21 : decode prog_4_method_1_code 21 = .ok (.aload_n 0, 1) := by decide +kernel
theorem dLOI_22 : decode prog_4_method_1_code 22 = .ok (.iload 4, 2) := by decide +kernel
theorem dLOI_24 : decode prog_4_method_1_code 24 = .ok (.putfield 24, 3) := by decide +kernel
theorem dLOI_27 : decode prog_4_method_1_code 27 = .ok (.return_, 1) := by decide +kernel
theorem pnLOI : plainFor (⟨"com/example/orunmila/orunmila/Location", "<init>", "(Ljava/lang/String;JI)V"⟩ : MethodName) = true := plainFor_of_name (by first | (simp [plainName, overriddenIn]; done) | decide +kernel)
set_option maxRecDepth 65536 in
set_option maxHeartbeats 40000000 in
theorem con_LOI (hw : ∀ d ∈ tables_1, d.before a0 Z = true) {o s : Addr} {x : Int64} {c : Int32} (E : Exa Z h o LOC) (F1 : Fld Z h o LOC "source" "Ljava/lang/String;" .null) (F2 : Fld Z h o LOC "line" "J" (.long 0)) (F3 : Fld Z h o LOC "column" "I" (.int 0)) (hm : o ∈ mine) : Con (⟨"com/example/orunmila/orunmila/Location", "<init>", "(Ljava/lang/String;JI)V"⟩ : MethodName) prog_4_method_1_code 5 none { frames := 2, cells := 2, slots := 28, locals := 24 } Z LT [] #[.ref o, .ref s, .long x, .int c] h [o] mine (fun v h' nw => nw = [] ∧ v = none ∧ Loc Z h' o s x c) := by
  have ws : o ∈ [o] ∨ h.size ≤ o := Or.inl (List.mem_singleton.mpr rfl)
  have n12 : Jvm.RoadKit.slotOf Z LOC "source" "Ljava/lang/String;" ≠ Jvm.RoadKit.slotOf Z LOC "line" "J" := slot_ne (Or.inr (hw _ (List.mem_of_getElem? (i := 51) rfl))) (Or.inr (hw _ (List.mem_of_getElem? (i := 53) rfl))) (by decide) (t := .object "java/lang/String") (t' := .long) (by decide) (by decide)
  have n13 : Jvm.RoadKit.slotOf Z LOC "source" "Ljava/lang/String;" ≠ Jvm.RoadKit.slotOf Z LOC "column" "I" := slot_ne (Or.inr (hw _ (List.mem_of_getElem? (i := 51) rfl))) (Or.inr (hw _ (List.mem_of_getElem? (i := 55) rfl))) (by decide) (t := .object "java/lang/String") (t' := .int) (by decide) (by decide)
  have n23 : Jvm.RoadKit.slotOf Z LOC "line" "J" ≠ Jvm.RoadKit.slotOf Z LOC "column" "I" := slot_ne (Or.inr (hw _ (List.mem_of_getElem? (i := 53) rfl))) (Or.inr (hw _ (List.mem_of_getElem? (i := 55) rfl))) (by decide) (t := .long) (t' := .int) (by decide) (by decide)
  refine Con.of pnLOI (Ls := [.val (.ref o), .val (.ref s), .val (.long x), .second, .val (.int c)]) (fun m => by first | (simp [entryFrame, mkF, argsToLocals, Value.category]; done) | (simp [entryFrame, mkF, argsToLocals, Value.category, maxLocals]; done) | rfl) ?_
  refine WP.aloadN (pc' := 1) dLOI_0 rfl rfl rfl ?_
  refine WP.callSp (pc' := 4) (con_RCI hw) rfl (hw _ (List.mem_of_getElem? (i := 37) rfl)) (hw _ (List.mem_of_getElem? (i := 38) rfl)) (hw _ (List.mem_of_getElem? (i := 40) rfl)) (hw _ (List.mem_of_getElem? (i := 41) rfl)) dLOI_1 (by decide) pdx30 rfl rfl rfl (by first | exact Nat.le_of_ble_eq_true rfl | omega | (simp; done) | (simp; omega) | (dsimp only; omega)) (by first | exact Nat.le_of_ble_eq_true rfl | omega | (simp; done) | (simp; omega) | (dsimp only; omega)) (by first | exact Nat.le_of_ble_eq_true rfl | omega | (simp; done) | (simp; omega) | (dsimp only; omega)) (by first | exact Nat.le_of_ble_eq_true rfl | omega | (simp; done) | (simp; omega) | (dsimp only; omega)) (fun _ hx => nomatch hx) rfl ?_
  rintro v h1 nw K hnw ⟨rfl, rfl, rfl⟩
  dsimp only [Option.toList, List.nil_append]
  refine WP.aloadN (pc' := 5) dLOI_4 rfl rfl rfl ?_
  refine WP.ldcS (pc' := 7) (text := "source") (n := 24) dLOI_5 (by decide) (atoms hw) (by decide) (by decide) (by decide) (by first | exact Nat.le_of_ble_eq_true rfl | omega | (simp; done) | (simp; omega) | (dsimp only; omega)) (by first | exact Nat.le_of_ble_eq_true rfl | omega | (simp; done) | (simp; omega) | (dsimp only; omega)) rfl ?_
  intro h1 q E1 Sq
  refine WP.callS (pc' := 10) (con_RNN hw) (hw _ (List.mem_of_getElem? (i := 46) rfl)) (hw _ (List.mem_of_getElem? (i := 47) rfl)) (hw _ (List.mem_of_getElem? (i := 48) rfl)) (hw _ (List.mem_of_getElem? (i := 49) rfl)) dLOI_7 (by decide) pdx31 rfl rfl rfl (by first | exact Nat.le_of_ble_eq_true rfl | omega | (simp; done) | (simp; omega) | (dsimp only; omega)) (by first | exact Nat.le_of_ble_eq_true rfl | omega | (simp; done) | (simp; omega) | (dsimp only; omega)) (by first | exact Nat.le_of_ble_eq_true rfl | omega | (simp; done) | (simp; omega) | (dsimp only; omega)) (by first | exact Nat.le_of_ble_eq_true rfl | omega | (simp; done) | (simp; omega) | (dsimp only; omega)) (fun _ hx => nomatch hx) rfl ?_
  rintro v h2 nw K hnw ⟨rfl, rfl, rfl⟩
  dsimp only [Option.toList, List.cons_append, List.nil_append]
  refine WP.pop (pc' := 11) dLOI_10 rfl rfl ?_
  refine WP.aloadN (pc' := 12) dLOI_11 rfl rfl rfl ?_
  refine WP.aloadN (pc' := 13) dLOI_12 rfl rfl rfl ?_
  refine WP.putfield (pc' := 16) (host := "") dLOI_13 (Or.inl (hw _ (List.mem_of_getElem? (i := 50) rfl))) Via.refl (F1.ext E1) (E.ext E1) (Or.inr ⟨(hw _ (List.mem_of_getElem? (i := 51) rfl)), rfl, rfl⟩) (hw _ (List.mem_of_getElem? (i := 32) rfl)) (ty := (.object "java/lang/String")) (by decide) rfl rfl hm ws rfl ?_
  intro h2 W2 G2 E2
  refine WP.aloadN (pc' := 17) dLOI_16 rfl rfl rfl ?_
  refine WP.lloadN (pc' := 18) dLOI_17 rfl rfl ?_
  refine WP.putfield (pc' := 21) (host := "") dLOI_18 (Or.inl (hw _ (List.mem_of_getElem? (i := 52) rfl))) Via.refl ((F2.ext E1).other W2 (Or.inr (Ne.symm n12))) E2 (Or.inr ⟨(hw _ (List.mem_of_getElem? (i := 53) rfl)), rfl, rfl⟩) (hw _ (List.mem_of_getElem? (i := 32) rfl)) (ty := .long) (by decide) rfl rfl hm ws rfl ?_
  intro h3 W3 G3 E3
  refine WP.aloadN (pc' := 22) dLOI_21 rfl rfl rfl ?_
  refine WP.iload (pc' := 24) dLOI_22 rfl rfl ?_
  refine WP.putfield (pc' := 27) (host := "") dLOI_24 (Or.inl (hw _ (List.mem_of_getElem? (i := 54) rfl))) Via.refl (((F3.ext E1).other W2 (Or.inr (Ne.symm n13))).other W3 (Or.inr (Ne.symm n23))) E3 (Or.inr ⟨(hw _ (List.mem_of_getElem? (i := 55) rfl)), rfl, rfl⟩) (hw _ (List.mem_of_getElem? (i := 32) rfl)) (ty := .int) (by decide) rfl rfl hm ws rfl ?_
  intro h4 W4 G4 E4
  exact WP.vret dLOI_27 rfl ⟨rfl, rfl, E4, (G2.other W3 (Or.inr n12)).other W4 (Or.inr n13), G3.other W4 (Or.inr n23), G4⟩ (fun _ hx => nomatch hx) (fun _ hx => hx) (by first | exact Nat.le_of_ble_eq_true rfl | omega) (by first | exact Nat.le_of_ble_eq_true rfl | omega)
theorem Loc.ext {h' : Heap} {o s : Addr} {x : Int64} {c : Int32} (O : Loc Z h o s x c) (E : Ext h h') : Loc Z h' o s x c := ⟨O.1.ext E, O.2.1.ext E, O.2.2.1.ext E, O.2.2.2.ext E⟩
theorem Loc.keep {h' : Heap} {ws : List Addr} {o s : Addr} {x : Int64} {c : Int32} (O : Loc Z h o s x c) (K : Keep h h' ws) (q : o ∉ ws) : Loc Z h' o s x c := ⟨O.1.keep K, O.2.1.keep K q, O.2.2.1.keep K q, O.2.2.2.keep K q⟩
theorem dec_len64 (x : Int64) : (dec x.toInt).length ≤ 20 := by
  have h := (digs_len 18 x.toInt.natAbs).mpr (by have := (neg64 x).2.2; omega)
  unfold dec sgn
  split <;> simp <;> omega
theorem dec_len32 (x : Int32) : (dec x.toInt).length ≤ 11 := by
  have h := (digs_len 9 x.toInt.natAbs).mpr (by have := (neg32 x).2.2; omega)
  unfold dec sgn
  split <;> simp <;> omega
theorem txt_colon : txt ":" = [58] := by decide
theorem dLTS_0 : decode prog_4_method_2_code 0 = .ok (.new 28, 3) := by decide +kernel
theorem dLTS_3 : decode prog_4_method_2_code 3 = .ok (.dup, 1) := by decide +kernel
theorem dLTS_4 : decode prog_4_method_2_code 4 = .ok (.invokespecial 30, 3) := by decide +kernel
theorem dLTS_7 : decode prog_4_method_2_code 7 = .ok (.aload_n 0, 1) := by decide +kernel
theorem dLTS_8 : decode prog_4_method_2_code 8 = .ok (.getfield 15, 3) := by decide +kernel
theorem dLTS_11 : decode prog_4_method_2_code 11 = .ok (.invokevirtual 31, 3) := by decide +kernel
theorem dLTS_14 : decode prog_4_method_2_code 14 = .ok (.ldc 35, 2) := by decide +kernel
theorem dLTS_16 : decode prog_4_method_2_code 16 = .ok (.invokevirtual 31, 3) := by decide +kernel
theorem dLTS_19 : decode prog_4_method_2_code 19 = .ok (.aload_n 0, 1) := by decide +kernel
theorem dLTS_20 : decode prog_4_method_2_code 20 = .ok (.getfield 20, 3) := by decide +kernel
theorem dLTS_23 : decode prog_4_method_2_code 23 = .ok (.invokevirtual 37, 3) := by decide +kernel
theorem dLTS_26 : decode prog_4_method_2_code 26 = .ok (.ldc 35, 2) := by decide +kernel
theorem dLTS_28 : decode prog_4_method_2_code 28 = .ok (.invokevirtual 31, 3) := by decide +kernel
theorem dLTS_31 : decode prog_4_method_2_code 31 = .ok (.aload_n 0, 1) := by decide +kernel
theorem dLTS_32 : decode prog_4_method_2_code 32 = .ok (.getfield 24, 3) := by decide +kernel
theorem dLTS_35 : decode prog_4_method_2_code 35 = .ok (.invokevirtual 40, 3) := by decide +kernel
theorem dLTS_38 : decode prog_4_method_2_code 38 = .ok (.invokevirtual 43, 3) := by decide +kernel
theorem dLTS_41 : decode prog_4_method_2_code 41 = .ok (.areturn, 1) := by decide +kernel
theorem pnLTS : plainFor (⟨"com/example/orunmila/orunmila/Location", "toString", "()Ljava/lang/String;"⟩ : MethodName) = true := plainFor_of_name (by first | (simp [plainName, overriddenIn]; done) | decide +kernel)
set_option maxRecDepth 65536 in
set_option maxHeartbeats 40000000 in
theorem con_LTS (hw : ∀ d ∈ tables_1, d.before a0 Z = true) {cz : Int32} (hc : Compact Z cz) {o1 o2 : Addr} (Dg : Dig Z o1 o2) {o s : Addr} {x : Int64} {c : Int32} {us : List UInt16} (hlu : lat us = true) (hus : us.length ≤ 2) (O : Loc Z h o s x c) (S : FStr Z h mine s us) :
    Con (⟨"com/example/orunmila/orunmila/Location", "toString", "()Ljava/lang/String;"⟩ : MethodName) prog_4_method_2_code 1 (some (.object "java/lang/String")) { frames := 6, cells := 22, slots := 1000, locals := 93 } Z LT [] #[.ref o] h [] mine (fun w h' nw => nw = [] ∧ ∃ r, w = some (.ref r) ∧ FStr Z h' mine r (us ++ [58] ++ dec x.toInt ++ [58] ++ dec c.toInt)) := by
  have hdl := dec_len64 x
  have hdc := dec_len32 c
  have hos := O.1.lt
  refine Con.of pnLTS (Ls := [.val (.ref o)]) (fun m => by first | (simp [entryFrame, mkF, argsToLocals, Value.category]; done) | (simp [entryFrame, mkF, argsToLocals, Value.category, maxLocals]; done) | rfl) ?_
  refine WP.new (pc' := 3) dLTS_0 (hw _ (List.mem_of_getElem? (i := 61) rfl)) (hw _ (List.mem_of_getElem? (i := 62) rfl)) (hw _ (List.mem_of_getElem? (i := 63) rfl)) (by first | exact Nat.le_of_ble_eq_true rfl | omega | (simp; done) | (simp; omega) | (dsimp only; omega)) (by first | exact Nat.le_of_ble_eq_true rfl | omega | (simp; done) | (simp; omega) | (dsimp only; omega)) rfl ?_
  intro h1 b eb nb mb E1 X Dn
  have F1 : Fld Z h1 b ASBN "value" "[B" .null := Dn (Or.inl (hw _ (List.mem_of_getElem? (i := 76) rfl))) (ty := .array .byte) (by decide)
  have F2 : Fld Z h1 b ASBN "coder" "B" (.int 0) := Dn (Or.inl (hw _ (List.mem_of_getElem? (i := 78) rfl))) (ty := .byte) (by decide)
  have F3 : Fld Z h1 b ASBN "count" "I" (.int 0) := Dn (Or.inl (hw _ (List.mem_of_getElem? (i := 100) rfl))) (ty := .int) (by decide)
  refine WP.dup (pc' := 4) dLTS_3 rfl rfl ?_
  refine WP.callSp (pc' := 7) (con_SB0 hw hc X F1 F2 F3 trivial (List.mem_cons_self ..)) rfl (hw _ (List.mem_of_getElem? (i := 64) rfl)) (hw _ (List.mem_of_getElem? (i := 65) rfl)) (hw _ (List.mem_of_getElem? (i := 63) rfl)) (hw _ (List.mem_of_getElem? (i := 66) rfl)) dLTS_4 (by decide) pdx30 rfl rfl rfl (by first | exact Nat.le_of_ble_eq_true rfl | omega | (simp; done) | (simp; omega) | (dsimp only; omega)) (by first | exact Nat.le_of_ble_eq_true rfl | omega | (simp; done) | (simp; omega) | (dsimp only; omega)) (by first | exact Nat.le_of_ble_eq_true rfl | omega | (simp; done) | (simp; omega) | (dsimp only; omega)) (by first | exact Nat.le_of_ble_eq_true rfl | omega | (simp; done) | (simp; omega) | (dsimp only; omega)) (fun x hx => by cases List.mem_singleton.mp hx; exact Or.inr mb) rfl ?_
  rintro w h2 nw K2 hnw2 ⟨v, rfl, rfl, B⟩
  dsimp only [Option.toList, List.nil_append, List.cons_append]
  have hv2 := hnw2 v (by simp)
  have hvh : h.size ≤ v := Nat.le_trans E1.1 hv2
  have nob : o ≠ b := fun q => absurd hos (Nat.not_lt.mpr (by rw [q]; exact mb))
  have nov : o ≠ v := fun q => absurd hos (Nat.not_lt.mpr (by rw [q]; exact hvh))
  replace O := (O.ext E1).keep K2 (fun q => nob (List.mem_singleton.mp q))
  have S2 : FStr Z h2 (v :: b :: mine) s us := FStr.call (nw := [v]) (S.new E1 eb) K2 (fun x hx => by cases List.mem_singleton.mp hx; simp) hnw2
  have hmm : ∀ x ∈ mine, x ∈ v :: b :: mine := fun x hx => List.mem_cons_of_mem _ (List.mem_cons_of_mem _ hx)
  have hbm : b ∈ v :: b :: mine := by simp
  have hvm : v ∈ v :: b :: mine := by simp
  generalize v :: b :: mine = mn at *
  refine WP.aloadN (pc' := 8) dLTS_7 rfl rfl rfl ?_
  refine WP.getfield (pc' := 11) (host := "") dLTS_8 (Or.inl (hw _ (List.mem_of_getElem? (i := 50) rfl))) Via.refl O.2.1 rfl ?_
  refine WP.callV (pc' := 14) (con_SAS hw hc (us := []) rfl hlu (N := 68) B (by simp only [List.length_nil]; omega) (by omega) S2 hbm hvm) B.exa (hw _ (List.mem_of_getElem? (i := 79) rfl)) (hw _ (List.mem_of_getElem? (i := 80) rfl)) (fun s hs => notFace_of_selects (args := #[]) (mv hs (hw _ (List.mem_of_getElem? (i := 82) rfl)))) (hw _ (List.mem_of_getElem? (i := 82) rfl)) (hw _ (List.mem_of_getElem? (i := 81) rfl)) (hw _ (List.mem_of_getElem? (i := 63) rfl)) (hw _ (List.mem_of_getElem? (i := 83) rfl)) dLTS_11 (by decide) pdx32 rfl rfl rfl (by first | exact Nat.le_of_ble_eq_true rfl | omega | (simp; done) | (simp; omega) | (dsimp only; omega)) (by first | exact Nat.le_of_ble_eq_true rfl | omega | (simp; done) | (simp; omega) | (dsimp only; omega)) (by first | exact Nat.le_of_ble_eq_true rfl | omega | (simp; done) | (simp; omega) | (dsimp only; omega)) (by first | exact Nat.le_of_ble_eq_true rfl | omega | (simp; done) | (simp; omega) | (dsimp only; omega)) (fun x hx => by rcases List.mem_cons.mp hx with rfl | hx; exact Or.inr mb; cases List.mem_singleton.mp hx; exact Or.inr hvh) rfl ?_
  rintro w h3 nw3 K3 hnw3 ⟨rfl, v3, C3, hv3, hz3, B3, hle3, hC3⟩
  dsimp only [Option.toList, List.nil_append, List.cons_append]
  have hh3 : h.size ≤ h3.size := Nat.le_trans E1.1 (Nat.le_trans K2.1 K3.1)
  have hvh3 : h.size ≤ v3 := hz3.elim (fun q => q ▸ hvh) (fun q => Nat.le_trans (Nat.le_trans E1.1 K2.1) q)
  have nov3 : o ≠ v3 := fun q => absurd hos (Nat.not_lt.mpr (by rw [q]; exact hvh3))
  replace O := O.keep K3 (fun q => (List.mem_cons.mp q).elim nob (fun q => nov (List.mem_singleton.mp q)))
  replace hmm : ∀ x ∈ mine, x ∈ nw3 ++ mn := fun x hx => List.mem_append.mpr (Or.inr (hmm x hx))
  replace hbm : b ∈ nw3 ++ mn := List.mem_append.mpr (Or.inr hbm)
  replace B3 : SB Z h3 b v3 us C3 := B3
  replace hC3 : C3 = 16 := hC3.elim id (fun q => absurd q.1 (by rw [List.nil_append]; omega))
  clear hvm hle3
  generalize nw3 ++ mn = mn3 at *
  refine WP.ldcS (pc' := 16) (text := ":") (n := 4) dLTS_14 (by decide) (atoms hw) (by decide) (by decide) (by decide) (by first | exact Nat.le_of_ble_eq_true rfl | omega | (simp; done) | (simp; omega) | (dsimp only; omega)) (by first | exact Nat.le_of_ble_eq_true rfl | omega | (simp; done) | (simp; omega) | (dsimp only; omega)) rfl ?_
  intro h4 q4 E4 S4
  rw [txt_colon] at S4
  replace B3 := B3.ext E4
  replace O := O.ext E4
  refine WP.callV (pc' := 19) (con_SAS hw hc hlu (vs := [58]) rfl (N := 68) B3 (by simp only [List.length_nil, List.length_cons]; omega) (by omega) S4 hbm hv3) B3.exa (hw _ (List.mem_of_getElem? (i := 79) rfl)) (hw _ (List.mem_of_getElem? (i := 80) rfl)) (fun s hs => notFace_of_selects (args := #[]) (mv hs (hw _ (List.mem_of_getElem? (i := 82) rfl)))) (hw _ (List.mem_of_getElem? (i := 82) rfl)) (hw _ (List.mem_of_getElem? (i := 81) rfl)) (hw _ (List.mem_of_getElem? (i := 63) rfl)) (hw _ (List.mem_of_getElem? (i := 83) rfl)) dLTS_16 (by decide) pdx32 rfl rfl rfl (by first | exact Nat.le_of_ble_eq_true rfl | omega | (simp; done) | (simp; omega) | (dsimp only; omega)) (by first | exact Nat.le_of_ble_eq_true rfl | omega | (simp; done) | (simp; omega) | (dsimp only; omega)) (by first | exact Nat.le_of_ble_eq_true rfl | omega | (simp; done) | (simp; omega) | (dsimp only; omega)) (by first | exact Nat.le_of_ble_eq_true rfl | omega | (simp; done) | (simp; omega) | (dsimp only; omega)) (fun x hx => by rcases List.mem_cons.mp hx with rfl | hx; exact Or.inr mb; cases List.mem_singleton.mp hx; exact Or.inr hvh3) rfl ?_
  rintro w h5 nw5 K5 hnw5 ⟨rfl, v5, C5, hv5, hz5, B5, hle5, hC5⟩
  dsimp only [Option.toList, List.nil_append, List.cons_append]
  have hh4 : h.size ≤ h4.size := Nat.le_trans hh3 E4.1
  have hh5 : h.size ≤ h5.size := Nat.le_trans hh4 K5.1
  have hvh5 : h.size ≤ v5 := hz5.elim (fun q => q ▸ hvh3) (fun q => Nat.le_trans hh4 q)
  have nov5 : o ≠ v5 := fun q => absurd hos (Nat.not_lt.mpr (by rw [q]; exact hvh5))
  replace O := O.keep K5 (fun q => (List.mem_cons.mp q).elim nob (fun q => nov3 (List.mem_singleton.mp q)))
  replace hmm : ∀ x ∈ mine, x ∈ nw5 ++ mn3 := fun x hx => List.mem_append.mpr (Or.inr (hmm x hx))
  replace hbm : b ∈ nw5 ++ mn3 := List.mem_append.mpr (Or.inr hbm)
  have hl5 : (us ++ [58]).length = us.length + 1 := by simp
  replace hC5 : C5 = 16 := hC5.elim (fun q => q.trans hC3) (fun q => absurd q.1 (by rw [hl5]; omega))
  have hlt5 : lat (us ++ [58]) = true := by rw [lat_app2, hlu]; rfl
  clear hle5
  generalize nw5 ++ mn3 = mn5 at *
  refine WP.aloadN (pc' := 20) dLTS_19 rfl rfl rfl ?_
  refine WP.getfield (pc' := 23) (host := "") dLTS_20 (Or.inl (hw _ (List.mem_of_getElem? (i := 52) rfl))) Via.refl O.2.2.1 rfl ?_
  refine WP.callV (pc' := 26) (con_SAJ hw hc Dg hlt5 (x := x) (N := 68) B5 (by rw [hl5]; omega) (by omega) hbm hv5) B5.exa (hw _ (List.mem_of_getElem? (i := 127) rfl)) (hw _ (List.mem_of_getElem? (i := 128) rfl)) (fun s hs => notFace_of_selects (args := #[]) (mv hs (hw _ (List.mem_of_getElem? (i := 130) rfl)))) (hw _ (List.mem_of_getElem? (i := 130) rfl)) (hw _ (List.mem_of_getElem? (i := 129) rfl)) (hw _ (List.mem_of_getElem? (i := 63) rfl)) (hw _ (List.mem_of_getElem? (i := 131) rfl)) dLTS_23 (by decide) pdx33 rfl rfl rfl (by first | exact Nat.le_of_ble_eq_true rfl | omega | (simp; done) | (simp; omega) | (dsimp only; omega)) (by first | exact Nat.le_of_ble_eq_true rfl | omega | (simp; done) | (simp; omega) | (dsimp only; omega)) (by first | exact Nat.le_of_ble_eq_true rfl | omega | (simp; done) | (simp; omega) | (dsimp only; omega)) (by first | exact Nat.le_of_ble_eq_true rfl | omega | (simp; done) | (simp; omega) | (dsimp only; omega)) (fun x hx => by rcases List.mem_cons.mp hx with rfl | hx; exact Or.inr mb; cases List.mem_singleton.mp hx; exact Or.inr hvh5) rfl ?_
  rintro w h6 nw6 K6 hnw6 ⟨rfl, v6, C6, hv6, hz6, B6, hle6, hC6⟩
  dsimp only [Option.toList, List.nil_append, List.cons_append]
  have hh6 : h.size ≤ h6.size := Nat.le_trans hh5 K6.1
  have hvh6 : h.size ≤ v6 := hz6.elim (fun q => q ▸ hvh5) (fun q => Nat.le_trans hh5 q)
  have nov6 : o ≠ v6 := fun q => absurd hos (Nat.not_lt.mpr (by rw [q]; exact hvh6))
  replace O := O.keep K6 (fun q => (List.mem_cons.mp q).elim nob (fun q => nov5 (List.mem_singleton.mp q)))
  replace hmm : ∀ x ∈ mine, x ∈ nw6 ++ mn5 := fun x hx => List.mem_append.mpr (Or.inr (hmm x hx))
  replace hbm : b ∈ nw6 ++ mn5 := List.mem_append.mpr (Or.inr hbm)
  have hl6 : (us ++ [58] ++ dec x.toInt).length = us.length + 1 + (dec x.toInt).length := by simp; omega
  have hlt6 : lat (us ++ [58] ++ dec x.toInt) = true := by rw [lat_app2, hlt5, lat_dec]; rfl
  replace hC6 : C6 = 16 ∨ C6 = 34 := by rw [hl6] at hC6; omega
  clear hle6
  generalize nw6 ++ mn5 = mn6 at *
  generalize us ++ [58] ++ dec x.toInt = u6 at *
  refine WP.ldcS (pc' := 28) (text := ":") (n := 4) dLTS_26 (by decide) (atoms hw) (by decide) (by decide) (by decide) (by first | exact Nat.le_of_ble_eq_true rfl | omega | (simp; done) | (simp; omega) | (dsimp only; omega)) (by first | exact Nat.le_of_ble_eq_true rfl | omega | (simp; done) | (simp; omega) | (dsimp only; omega)) rfl ?_
  intro h7 q7 E7 S7
  rw [txt_colon] at S7
  replace B6 := B6.ext E7
  replace O := O.ext E7
  refine WP.callV (pc' := 31) (con_SAS hw hc hlt6 (vs := [58]) rfl (N := 140) B6 (by simp only [List.length_nil, List.length_cons]; omega) (by omega) S7 hbm hv6) B6.exa (hw _ (List.mem_of_getElem? (i := 79) rfl)) (hw _ (List.mem_of_getElem? (i := 80) rfl)) (fun s hs => notFace_of_selects (args := #[]) (mv hs (hw _ (List.mem_of_getElem? (i := 82) rfl)))) (hw _ (List.mem_of_getElem? (i := 82) rfl)) (hw _ (List.mem_of_getElem? (i := 81) rfl)) (hw _ (List.mem_of_getElem? (i := 63) rfl)) (hw _ (List.mem_of_getElem? (i := 83) rfl)) dLTS_28 (by decide) pdx32 rfl rfl rfl (by first | exact Nat.le_of_ble_eq_true rfl | omega | (simp; done) | (simp; omega) | (dsimp only; omega)) (by first | exact Nat.le_of_ble_eq_true rfl | omega | (simp; done) | (simp; omega) | (dsimp only; omega)) (by first | exact Nat.le_of_ble_eq_true rfl | omega | (simp; done) | (simp; omega) | (dsimp only; omega)) (by first | exact Nat.le_of_ble_eq_true rfl | omega | (simp; done) | (simp; omega) | (dsimp only; omega)) (fun x hx => by rcases List.mem_cons.mp hx with rfl | hx; exact Or.inr mb; cases List.mem_singleton.mp hx; exact Or.inr hvh6) rfl ?_
  rintro w h8 nw8 K8 hnw8 ⟨rfl, v8, C8, hv8, hz8, B8, hle8, hC8⟩
  dsimp only [Option.toList, List.nil_append, List.cons_append]
  have hh7 : h.size ≤ h7.size := Nat.le_trans hh6 E7.1
  have hh8 : h.size ≤ h8.size := Nat.le_trans hh7 K8.1
  have hvh8 : h.size ≤ v8 := hz8.elim (fun q => q ▸ hvh6) (fun q => Nat.le_trans hh7 q)
  have nov8 : o ≠ v8 := fun q => absurd hos (Nat.not_lt.mpr (by rw [q]; exact hvh8))
  replace O := O.keep K8 (fun q => (List.mem_cons.mp q).elim nob (fun q => nov6 (List.mem_singleton.mp q)))
  replace hmm : ∀ x ∈ mine, x ∈ nw8 ++ mn6 := fun x hx => List.mem_append.mpr (Or.inr (hmm x hx))
  replace hbm : b ∈ nw8 ++ mn6 := List.mem_append.mpr (Or.inr hbm)
  have hl8 : (u6 ++ [58]).length = u6.length + 1 := by simp
  have hlt8 : lat (u6 ++ [58]) = true := by rw [lat_app2, hlt6]; rfl
  replace hC8 : C8 = 16 ∨ C8 = 34 := by rw [hl8] at hC8; omega
  clear hle8
  generalize nw8 ++ mn6 = mn8 at *
  generalize u6 ++ [58] = u8 at *
  refine WP.aloadN (pc' := 32) dLTS_31 rfl rfl rfl ?_
  refine WP.getfield (pc' := 35) (host := "") dLTS_32 (Or.inl (hw _ (List.mem_of_getElem? (i := 54) rfl))) Via.refl O.2.2.2 rfl ?_
  refine WP.callV (pc' := 38) (con_SAI hw hc Dg hlt8 (x := c) (N := 140) B8 (by omega) (by omega) hbm hv8) B8.exa (hw _ (List.mem_of_getElem? (i := 178) rfl)) (hw _ (List.mem_of_getElem? (i := 179) rfl)) (fun s hs => notFace_of_selects (args := #[]) (mv hs (hw _ (List.mem_of_getElem? (i := 181) rfl)))) (hw _ (List.mem_of_getElem? (i := 181) rfl)) (hw _ (List.mem_of_getElem? (i := 180) rfl)) (hw _ (List.mem_of_getElem? (i := 63) rfl)) (hw _ (List.mem_of_getElem? (i := 182) rfl)) dLTS_35 (by decide) pdx34 rfl rfl rfl (by first | exact Nat.le_of_ble_eq_true rfl | omega | (simp; done) | (simp; omega) | (dsimp only; omega)) (by first | exact Nat.le_of_ble_eq_true rfl | omega | (simp; done) | (simp; omega) | (dsimp only; omega)) (by first | exact Nat.le_of_ble_eq_true rfl | omega | (simp; done) | (simp; omega) | (dsimp only; omega)) (by first | exact Nat.le_of_ble_eq_true rfl | omega | (simp; done) | (simp; omega) | (dsimp only; omega)) (fun x hx => by rcases List.mem_cons.mp hx with rfl | hx; exact Or.inr mb; cases List.mem_singleton.mp hx; exact Or.inr hvh8) rfl ?_
  rintro w h9 nw9 K9 hnw9 ⟨rfl, v9, C9, hv9, hz9, B9, hle9, hC9⟩
  dsimp only [Option.toList, List.nil_append, List.cons_append]
  have hl9 : (u8 ++ dec c.toInt).length ≤ 35 := by rw [List.length_append]; omega
  have hlt9 : lat (u8 ++ dec c.toInt) = true := by rw [lat_app2, hlt8, lat_dec]; rfl
  refine WP.callV (pc' := 41) (con_TOS hw hc (N := 70) hlt9 trivial B9 (by omega) (by omega)) B9.exa (hw _ (List.mem_of_getElem? (i := 194) rfl)) (hw _ (List.mem_of_getElem? (i := 195) rfl)) (fun s hs => notFace_of_selects (args := #[]) (mv hs (hw _ (List.mem_of_getElem? (i := 197) rfl)))) (hw _ (List.mem_of_getElem? (i := 197) rfl)) (hw _ (List.mem_of_getElem? (i := 196) rfl)) (hw _ (List.mem_of_getElem? (i := 63) rfl)) (hw _ (List.mem_of_getElem? (i := 198) rfl)) dLTS_38 (by decide) pdx35 rfl rfl rfl (by first | exact Nat.le_of_ble_eq_true rfl | omega | (simp; done) | (simp; omega) | (dsimp only; omega)) (by first | exact Nat.le_of_ble_eq_true rfl | omega | (simp; done) | (simp; omega) | (dsimp only; omega)) (by first | exact Nat.le_of_ble_eq_true rfl | omega | (simp; done) | (simp; omega) | (dsimp only; omega)) (by first | exact Nat.le_of_ble_eq_true rfl | omega | (simp; done) | (simp; omega) | (dsimp only; omega)) (fun _ hx => nomatch hx) rfl ?_
  rintro w h10 nw10 K10 hnw10 ⟨rfl, r, rfl, R⟩
  dsimp only [Option.toList, List.nil_append, List.cons_append]
  exact WP.areturn (nw := []) dLTS_41 rfl rfl rfl ⟨rfl, r, rfl, R.mono (fun x hx => List.mem_append.mpr (Or.inr (hmm x hx)))⟩ (fun _ hx => nomatch hx) (fun x hx => List.mem_append.mpr (Or.inr (hmm x hx))) (by dsimp only; omega) (by dsimp only; omega)
theorem pnLAW : plainFor (⟨"com/example/orunmila/orunmila/LocationToStringPinLaw", "law", "(IIIJI)Z"⟩ : MethodName) = true := plainFor_of_name (by first | (simp [plainName, overriddenIn]; done) | decide +kernel)
theorem get_sep {us vs ws : List UInt16} {u : UInt16} : (us ++ [u] ++ vs ++ ws)[us.length]? = some u := by
  rw [List.append_assoc, List.append_assoc, List.getElem?_append_right (Nat.le_refl _), Nat.sub_self]; rfl
theorem get_mid {us vs ws : List UInt16} {i : Nat} {u : UInt16} (h : vs[i]? = some u) : (us ++ vs ++ ws)[us.length + i]? = some u := by
  have hi := (List.getElem?_eq_some_iff.mp h).1
  rw [List.append_assoc, List.getElem?_append_right (by omega), Nat.add_sub_cancel_left, List.getElem?_append_left hi]; exact h
theorem get_end {us vs : List UInt16} {i : Nat} {u : UInt16} (h : vs[i]? = some u) : (us ++ vs)[us.length + i]? = some u := by
  rw [List.getElem?_append_right (by omega), Nat.add_sub_cancel_left]; exact h
set_option maxRecDepth 65536 in
set_option maxHeartbeats 40000000 in
theorem tail_LAW3 (hw : ∀ d ∈ tables_1, d.before a0 Z = true) {cz : Int32} (hc : Compact Z cz) {vf : Value} (hf : Fmt Z vf) {h1 : Heap} {r : Addr} {us : List UInt16} {x : Int64} {c : Int32} (hlu : lat us = true) (hus : us.length ≤ 2) (R : FStr Z h1 mine r (us ++ [58] ++ dec x.toInt ++ [58] ++ dec c.toInt)) 
    {l0 l1 l2 l6 l7 l9 l10 l11 l12 l13 l16 : Slot} :
    WP "com/example/orunmila/orunmila/LocationToStringPinLaw" code 17 ret "law" room_1 Z LT h [] mine (fun v h' nw => v = some (.int 1)) mine 33 1052 h1 181 [l0, l1, l2, .val (.long x), .second, .val (.int c), l6, l7, .val (.int (Int32.ofNat us.length)), l9, l10, l11, l12, l13, .val (.ref r), .val (.int (Int32.ofNat (dec x.toInt).length)), l16] [] := by
  have hdl := dec_len64 x
  have hdc := dec_len32 c
  have hl2 : lat (us ++ [58] ++ dec x.toInt ++ [58] ++ dec c.toInt) = true := by rw [lat_app2, lat_app2, lat_app2, lat_app2, hlu, lat_dec, lat_dec]; rfl
  obtain ⟨t, S, -, -⟩ := R
  refine WP.aload (pc' := 183) at_181 rfl rfl rfl ?_
  refine WP.iload (pc' := 185) at_183 rfl rfl ?_
  refine WP.callV (pc' := 188) (con_CA hw hc hf hl2 (i := us.length) (u := 58) S (by rw [List.append_assoc]; exact get_sep)) S.1 (hw _ (List.mem_of_getElem? (i := 255) rfl)) (hw _ (List.mem_of_getElem? (i := 256) rfl)) (fun s hs => notFace_of_selects (args := #[]) (mv hs (hw _ (List.mem_of_getElem? (i := 258) rfl)))) (hw _ (List.mem_of_getElem? (i := 258) rfl)) (hw _ (List.mem_of_getElem? (i := 257) rfl)) (hw _ (List.mem_of_getElem? (i := 4) rfl)) (hw _ (List.mem_of_getElem? (i := 259) rfl)) at_185 (by decide) pdx28 rfl rfl rfl (by first | exact Nat.le_of_ble_eq_true rfl | omega | (simp; done) | (simp; omega) | (dsimp only; omega)) (by first | exact Nat.le_of_ble_eq_true rfl | omega | (simp; done) | (simp; omega) | (dsimp only; omega)) (by first | exact Nat.le_of_ble_eq_true rfl | omega | (simp; done) | (simp; omega) | (dsimp only; omega)) (by first | exact Nat.le_of_ble_eq_true rfl | omega | (simp; done) | (simp; omega) | (dsimp only; omega)) (fun _ hx => nomatch hx) rfl ?_
  rintro v h2 nw K hnw ⟨rfl, rfl, rfl⟩
  dsimp only [Option.toList, List.cons_append, List.nil_append]
  refine WP.bipush (pc' := 190) (x := 58) at_188 (by decide) rfl ?_
  refine WP.icmpT (pc' := 195) at_190 (by decide) (by decide) (show chv 58 = 58 by decide) ?_
  refine WP.aload (pc' := 197) at_195 rfl rfl rfl ?_
  refine WP.iload (pc' := 199) at_197 rfl rfl ?_
  refine WP.iconst (pc' := 200) (x := 1) at_199 (by decide) rfl ?_
  refine WP.iadd (pc' := 201) at_200 rfl ?_
  rw [n32_succ]
  refine WP.lloadN (pc' := 202) at_201 rfl rfl ?_
  refine WP.callS (pc' := 205) (con_NOK hw hc hf hl2 S (x := x) (pos := us.length + 1) (by omega) (fun i u hi => by have q := get_mid (us := us ++ [58]) (ws := [58] ++ dec c.toInt) hi; rw [List.length_append] at q; rw [List.append_assoc _ [58] (dec c.toInt)]; exact q)) (hw _ (List.mem_of_getElem? (i := 277) rfl)) (hw _ (List.mem_of_getElem? (i := 278) rfl)) (hw _ (List.mem_of_getElem? (i := 231) rfl)) (hw _ (List.mem_of_getElem? (i := 279) rfl)) at_202 (by decide) pdx29 rfl rfl rfl (by first | exact Nat.le_of_ble_eq_true rfl | omega | (simp; done) | (simp; omega) | (dsimp only; omega)) (by first | exact Nat.le_of_ble_eq_true rfl | omega | (simp; done) | (simp; omega) | (dsimp only; omega)) (by first | exact Nat.le_of_ble_eq_true rfl | omega | (simp; done) | (simp; omega) | (dsimp only; omega)) (by first | exact Nat.le_of_ble_eq_true rfl | omega | (simp; done) | (simp; omega) | (dsimp only; omega)) (fun _ hx => nomatch hx) rfl ?_
  rintro v h2 nw K hnw ⟨rfl, rfl, rfl⟩
  dsimp only [Option.toList, List.cons_append, List.nil_append]
  refine WP.ifT (pc' := 210) at_205 (by decide) (by decide) (show ¬ (1 : Int32) = 0 by decide) ?_
  refine WP.aload (pc' := 212) at_210 rfl rfl rfl ?_
  refine WP.iload (pc' := 214) at_212 rfl rfl ?_
  refine WP.iconst (pc' := 215) (x := 1) at_214 (by decide) rfl ?_
  refine WP.iadd (pc' := 216) at_215 rfl ?_
  refine WP.iload (pc' := 218) at_216 rfl rfl ?_
  refine WP.iadd (pc' := 219) at_218 rfl ?_
  rw [n32_succ, n32_add]
  refine WP.callV (pc' := 222) (con_CA hw hc hf hl2 (i := us.length + 1 + (dec x.toInt).length) (u := 58) S (by have q := get_mid (us := us ++ [58] ++ dec x.toInt) (vs := [58]) (ws := dec c.toInt) (i := 0) (u := 58) rfl; rw [← q]; congr 1; simp; omega)) S.1 (hw _ (List.mem_of_getElem? (i := 255) rfl)) (hw _ (List.mem_of_getElem? (i := 256) rfl)) (fun s hs => notFace_of_selects (args := #[]) (mv hs (hw _ (List.mem_of_getElem? (i := 258) rfl)))) (hw _ (List.mem_of_getElem? (i := 258) rfl)) (hw _ (List.mem_of_getElem? (i := 257) rfl)) (hw _ (List.mem_of_getElem? (i := 4) rfl)) (hw _ (List.mem_of_getElem? (i := 259) rfl)) at_219 (by decide) pdx28 rfl rfl rfl (by first | exact Nat.le_of_ble_eq_true rfl | omega | (simp; done) | (simp; omega) | (dsimp only; omega)) (by first | exact Nat.le_of_ble_eq_true rfl | omega | (simp; done) | (simp; omega) | (dsimp only; omega)) (by first | exact Nat.le_of_ble_eq_true rfl | omega | (simp; done) | (simp; omega) | (dsimp only; omega)) (by first | exact Nat.le_of_ble_eq_true rfl | omega | (simp; done) | (simp; omega) | (dsimp only; omega)) (fun _ hx => nomatch hx) rfl ?_
  rintro v h2 nw K hnw ⟨rfl, rfl, rfl⟩
  dsimp only [Option.toList, List.cons_append, List.nil_append]
  refine WP.bipush (pc' := 224) (x := 58) at_222 (by decide) rfl ?_
  refine WP.icmpT (pc' := 229) at_224 (by decide) (by decide) (show chv 58 = 58 by decide) ?_
  refine WP.aload (pc' := 231) at_229 rfl rfl rfl ?_
  refine WP.iload (pc' := 233) at_231 rfl rfl ?_
  refine WP.iconst (pc' := 234) (x := 2) at_233 (by decide) rfl ?_
  refine WP.iadd (pc' := 235) at_234 rfl ?_
  rw [show Int32.ofNat us.length + 2 = Int32.ofNat (us.length + 2) from n32_add _ 2]
  refine WP.iload (pc' := 237) at_235 rfl rfl ?_
  refine WP.iadd (pc' := 238) at_237 rfl ?_
  rw [n32_add]
  refine WP.iload (pc' := 240) at_238 rfl rfl ?_
  refine WP.i2l (pc' := 241) at_240 rfl ?_
  have ec := Int32.toInt_toInt64 c
  refine WP.callS (pc' := 244) (con_NOK hw hc hf hl2 S (x := c.toInt64) (pos := us.length + 2 + (dec x.toInt).length) (by rw [ec]; omega) (fun i u hi => by rw [ec] at hi; have q := get_end (us := us ++ [58] ++ dec x.toInt ++ [58]) hi; rw [← q]; congr 1; simp; omega)) (hw _ (List.mem_of_getElem? (i := 277) rfl)) (hw _ (List.mem_of_getElem? (i := 278) rfl)) (hw _ (List.mem_of_getElem? (i := 231) rfl)) (hw _ (List.mem_of_getElem? (i := 279) rfl)) at_241 (by decide) pdx29 rfl rfl rfl (by first | exact Nat.le_of_ble_eq_true rfl | omega | (simp; done) | (simp; omega) | (dsimp only; omega)) (by first | exact Nat.le_of_ble_eq_true rfl | omega | (simp; done) | (simp; omega) | (dsimp only; omega)) (by first | exact Nat.le_of_ble_eq_true rfl | omega | (simp; done) | (simp; omega) | (dsimp only; omega)) (by first | exact Nat.le_of_ble_eq_true rfl | omega | (simp; done) | (simp; omega) | (dsimp only; omega)) (fun _ hx => nomatch hx) rfl ?_
  rintro v h2 nw K hnw ⟨rfl, rfl, rfl⟩
  dsimp only [Option.toList, List.cons_append, List.nil_append]
  exact WP.ireturn (nw := []) at_244 rfl (by simp) rfl rfl (fun _ hx => nomatch hx) (fun _ hx => hx) (Nat.le_of_ble_eq_true rfl) (Nat.le_of_ble_eq_true rfl)
set_option maxRecDepth 65536 in
set_option maxHeartbeats 40000000 in
theorem tail_LAW2 (hw : ∀ d ∈ tables_1, d.before a0 Z = true) {cz : Int32} (hc : Compact Z cz) {vf : Value} (hf : Fmt Z vf) {h1 : Heap} {r : Addr} {us : List UInt16} {x : Int64} {c : Int32} {ux uy : UInt16} (hlu : lat us = true) (hus : us = [] ∨ us = [ux] ∨ us = [ux, uy]) (R : FStr Z h1 mine r (us ++ [58] ++ dec x.toInt ++ [58] ++ dec c.toInt)) 
    {l0 l1 l2 l9 l10 l11 l12 l13 l16 : Slot} :
    WP "com/example/orunmila/orunmila/LocationToStringPinLaw" code 17 ret "law" room_1 Z LT h [] mine (fun v h' nw => v = some (.int 1)) mine 33 1052 h1 143 [l0, l1, l2, .val (.long x), .second, .val (.int c), .val (.int (chv ux)), .val (.int (chv uy)), .val (.int (Int32.ofNat us.length)), l9, l10, l11, l12, l13, .val (.ref r), .val (.int (Int32.ofNat (dec x.toInt).length)), l16] [] := by
  have hl2 : lat (us ++ [58] ++ dec x.toInt ++ [58] ++ dec c.toInt) = true := by rw [lat_app2, lat_app2, lat_app2, lat_app2, hlu, lat_dec, lat_dec]; rfl
  have go := tail_LAW3 (h := h) hw hc hf hlu (by rcases hus with rfl | rfl | rfl <;> simp) R (l0 := l0) (l1 := l1) (l2 := l2) (l6 := .val (.int (chv ux))) (l7 := .val (.int (chv uy))) (l9 := l9) (l10 := l10) (l11 := l11) (l12 := l12) (l13 := l13) (l16 := l16)
  obtain ⟨t, S, -, -⟩ := R
  refine WP.iload (pc' := 145) at_143 rfl rfl ?_
  refine WP.iconst (pc' := 146) (x := 1) at_145 (by decide) rfl ?_
  rcases hus with rfl | rfl | rfl
  · refine WP.icmpT (pc' := 162) at_146 (by decide) (by decide) (show Int32.ofNat ([] : List UInt16).length < 1 by decide) ?_
    refine WP.iload (pc' := 164) at_162 rfl rfl ?_
    refine WP.iconst (pc' := 165) (x := 2) at_164 (by decide) rfl ?_
    refine WP.icmpT (pc' := 181) at_165 (by decide) (by decide) (show Int32.ofNat ([] : List UInt16).length < 2 by decide) ?_
    exact go
  · refine WP.icmpF (pc' := 149) at_146 rfl (show ¬ Int32.ofNat [ux].length < 1 by simp) ?_
    refine WP.aload (pc' := 151) at_149 rfl rfl rfl ?_
    refine WP.iconst (pc' := 152) (x := 0) at_151 (by decide) rfl ?_
    refine WP.callV (pc' := 155) (con_CA hw hc hf hl2 (i := 0) (u := ux) S rfl) S.1 (hw _ (List.mem_of_getElem? (i := 255) rfl)) (hw _ (List.mem_of_getElem? (i := 256) rfl)) (fun s hs => notFace_of_selects (args := #[]) (mv hs (hw _ (List.mem_of_getElem? (i := 258) rfl)))) (hw _ (List.mem_of_getElem? (i := 258) rfl)) (hw _ (List.mem_of_getElem? (i := 257) rfl)) (hw _ (List.mem_of_getElem? (i := 4) rfl)) (hw _ (List.mem_of_getElem? (i := 259) rfl)) at_152 (by decide) pdx28 rfl rfl rfl (by first | exact Nat.le_of_ble_eq_true rfl | omega | (simp; done) | (simp; omega) | (dsimp only; omega)) (by first | exact Nat.le_of_ble_eq_true rfl | omega | (simp; done) | (simp; omega) | (dsimp only; omega)) (by first | exact Nat.le_of_ble_eq_true rfl | omega | (simp; done) | (simp; omega) | (dsimp only; omega)) (by first | exact Nat.le_of_ble_eq_true rfl | omega | (simp; done) | (simp; omega) | (dsimp only; omega)) (fun _ hx => nomatch hx) rfl ?_
    rintro v h2 nw K hnw ⟨rfl, rfl, rfl⟩
    dsimp only [Option.toList, List.cons_append, List.nil_append]
    refine WP.iload (pc' := 157) at_155 rfl rfl ?_
    refine WP.icmpT (pc' := 162) at_157 (by decide) (by decide) rfl ?_
    refine WP.iload (pc' := 164) at_162 rfl rfl ?_
    refine WP.iconst (pc' := 165) (x := 2) at_164 (by decide) rfl ?_
    refine WP.icmpT (pc' := 181) at_165 (by decide) (by decide) (show Int32.ofNat [ux].length < 2 by simp) ?_
    exact go
  · refine WP.icmpF (pc' := 149) at_146 rfl (show ¬ Int32.ofNat [ux, uy].length < 1 by simp) ?_
    refine WP.aload (pc' := 151) at_149 rfl rfl rfl ?_
    refine WP.iconst (pc' := 152) (x := 0) at_151 (by decide) rfl ?_
    refine WP.callV (pc' := 155) (con_CA hw hc hf hl2 (i := 0) (u := ux) S rfl) S.1 (hw _ (List.mem_of_getElem? (i := 255) rfl)) (hw _ (List.mem_of_getElem? (i := 256) rfl)) (fun s hs => notFace_of_selects (args := #[]) (mv hs (hw _ (List.mem_of_getElem? (i := 258) rfl)))) (hw _ (List.mem_of_getElem? (i := 258) rfl)) (hw _ (List.mem_of_getElem? (i := 257) rfl)) (hw _ (List.mem_of_getElem? (i := 4) rfl)) (hw _ (List.mem_of_getElem? (i := 259) rfl)) at_152 (by decide) pdx28 rfl rfl rfl (by first | exact Nat.le_of_ble_eq_true rfl | omega | (simp; done) | (simp; omega) | (dsimp only; omega)) (by first | exact Nat.le_of_ble_eq_true rfl | omega | (simp; done) | (simp; omega) | (dsimp only; omega)) (by first | exact Nat.le_of_ble_eq_true rfl | omega | (simp; done) | (simp; omega) | (dsimp only; omega)) (by first | exact Nat.le_of_ble_eq_true rfl | omega | (simp; done) | (simp; omega) | (dsimp only; omega)) (fun _ hx => nomatch hx) rfl ?_
    rintro v h2 nw K hnw ⟨rfl, rfl, rfl⟩
    dsimp only [Option.toList, List.cons_append, List.nil_append]
    refine WP.iload (pc' := 157) at_155 rfl rfl ?_
    refine WP.icmpT (pc' := 162) at_157 (by decide) (by decide) rfl ?_
    refine WP.iload (pc' := 164) at_162 rfl rfl ?_
    refine WP.iconst (pc' := 165) (x := 2) at_164 (by decide) rfl ?_
    refine WP.icmpF (pc' := 168) at_165 rfl (show ¬ Int32.ofNat [ux, uy].length < 2 by simp) ?_
    refine WP.aload (pc' := 170) at_168 rfl rfl rfl ?_
    refine WP.iconst (pc' := 171) (x := 1) at_170 (by decide) rfl ?_
    refine WP.callV (pc' := 174) (con_CA hw hc hf hl2 (i := 1) (u := uy) S rfl) S.1 (hw _ (List.mem_of_getElem? (i := 255) rfl)) (hw _ (List.mem_of_getElem? (i := 256) rfl)) (fun s hs => notFace_of_selects (args := #[]) (mv hs (hw _ (List.mem_of_getElem? (i := 258) rfl)))) (hw _ (List.mem_of_getElem? (i := 258) rfl)) (hw _ (List.mem_of_getElem? (i := 257) rfl)) (hw _ (List.mem_of_getElem? (i := 4) rfl)) (hw _ (List.mem_of_getElem? (i := 259) rfl)) at_171 (by decide) pdx28 rfl rfl rfl (by first | exact Nat.le_of_ble_eq_true rfl | omega | (simp; done) | (simp; omega) | (dsimp only; omega)) (by first | exact Nat.le_of_ble_eq_true rfl | omega | (simp; done) | (simp; omega) | (dsimp only; omega)) (by first | exact Nat.le_of_ble_eq_true rfl | omega | (simp; done) | (simp; omega) | (dsimp only; omega)) (by first | exact Nat.le_of_ble_eq_true rfl | omega | (simp; done) | (simp; omega) | (dsimp only; omega)) (fun _ hx => nomatch hx) rfl ?_
    rintro v h2 nw K hnw ⟨rfl, rfl, rfl⟩
    dsimp only [Option.toList, List.cons_append, List.nil_append]
    refine WP.iload (pc' := 176) at_174 rfl rfl ?_
    refine WP.icmpT (pc' := 181) at_176 (by decide) (by decide) rfl ?_
    exact go
set_option maxRecDepth 65536 in
set_option maxHeartbeats 40000000 in
theorem tail_LAW1 (hw : ∀ d ∈ tables_1, d.before a0 Z = true) {cz : Int32} (hc : Compact Z cz) {vf : Value} (hf : Fmt Z vf) {o1 o2 : Addr} (Dg : Dig Z o1 o2) {h1 : Heap} {a q : Addr} {us : List UInt16} {x : Int64} {c : Int32} {ux uy : UInt16} (hlu : lat us = true) (hus : us = [] ∨ us = [ux] ∨ us = [ux, uy]) {mn : List Addr} (hmn : ∀ x ∈ mine, x ∈ mn) (hm : a ∈ mn) (na : a ∉ mine) (ma : h.size ≤ a) (X : Exa Z h1 a ST) (V : Fld Z h1 a ST "value" "[B" .null) (C : Fld Z h1 a ST "coder" "B" (.int 0)) (A : ArI Z h1 q .char (us.map chv))
    {l0 l1 l2 : Slot} {q0 q1 q2 : Addr} :
    WP "com/example/orunmila/orunmila/LocationToStringPinLaw" code 17 ret "law" room_1 Z LT h [] mine (fun v h' nw => v = some (.int 1)) mn 4 7 h1 81 [l0, l1, l2, .val (.long x), .second, .val (.int c), .val (.int (chv ux)), .val (.int (chv uy)), .val (.int (Int32.ofNat us.length)), .val (.ref q0), .val (.ref q1), .val (.ref q2), .unset, .unset, .unset, .unset, .unset] [.ref q, .ref a, .ref a] := by
  have h2l : us.length ≤ 2 := by rcases hus with rfl | rfl | rfl <;> simp
  refine WP.callSp (pc' := 84) (con_SI1 hw hc hlu (us := us) (N := 2) h2l (by decide) X V C A hm) rfl (hw _ (List.mem_of_getElem? (i := 5) rfl)) (hw _ (List.mem_of_getElem? (i := 6) rfl)) (hw _ (List.mem_of_getElem? (i := 4) rfl)) (hw _ (List.mem_of_getElem? (i := 7) rfl)) at_81 (by decide) pdx36 rfl rfl rfl (by first | exact Nat.le_of_ble_eq_true rfl | omega | (simp; done) | (simp; omega) | (dsimp only; omega)) (by first | exact Nat.le_of_ble_eq_true rfl | omega | (simp; done) | (simp; omega) | (dsimp only; omega)) (by first | exact Nat.le_of_ble_eq_true rfl | omega | (simp; done) | (simp; omega) | (dsimp only; omega)) (by first | exact Nat.le_of_ble_eq_true rfl | omega | (simp; done) | (simp; omega) | (dsimp only; omega)) (fun x hx => by cases List.mem_singleton.mp hx; exact Or.inr ma) rfl ?_
  rintro v h2 nw K hnw ⟨rfl, rfl, t, S, ht⟩
  dsimp only [Option.toList, List.nil_append]
  have F : FStr Z h2 mine a us := ⟨t, S, na, fun z => ht (hmn _ z)⟩
  refine WP.freeze (mine' := mine) ?_ hmn
  refine WP.astore (pc' := 86) at_84 rfl rfl rfl rfl rfl ?_
  dsimp only [List.set]
  refine WP.new (pc' := 89) at_86 (hw _ (List.mem_of_getElem? (i := 31) rfl)) (hw _ (List.mem_of_getElem? (i := 32) rfl)) (hw _ (List.mem_of_getElem? (i := 33) rfl)) (by first | exact Nat.le_of_ble_eq_true rfl | omega | (simp; done) | (simp; omega) | (dsimp only; omega)) (by first | exact Nat.le_of_ble_eq_true rfl | omega | (simp; done) | (simp; omega) | (dsimp only; omega)) rfl ?_
  intro h3 o eo no mo E3 X3 D3
  have F1 : Fld Z h3 o LOC "source" "Ljava/lang/String;" .null := D3 (Or.inr (hw _ (List.mem_of_getElem? (i := 51) rfl))) (ty := .object "java/lang/String") (by decide)
  have F2 : Fld Z h3 o LOC "line" "J" (.long 0) := D3 (Or.inr (hw _ (List.mem_of_getElem? (i := 53) rfl))) (ty := .long) (by decide)
  have F3 : Fld Z h3 o LOC "column" "I" (.int 0) := D3 (Or.inr (hw _ (List.mem_of_getElem? (i := 55) rfl))) (ty := .int) (by decide)
  refine WP.dup (pc' := 90) at_89 rfl rfl ?_
  refine WP.aload (pc' := 92) at_90 rfl rfl rfl ?_
  refine WP.lloadN (pc' := 93) at_92 rfl rfl ?_
  refine WP.iload (pc' := 95) at_93 rfl rfl ?_
  refine WP.callSp (pc' := 98) (con_LOI hw (s := a) (x := x) (c := c) X3 F1 F2 F3 (List.mem_cons_self ..)) rfl (hw _ (List.mem_of_getElem? (i := 34) rfl)) (hw _ (List.mem_of_getElem? (i := 35) rfl)) (hw _ (List.mem_of_getElem? (i := 33) rfl)) (hw _ (List.mem_of_getElem? (i := 36) rfl)) at_95 (by decide) pdx37 rfl rfl rfl (by first | exact Nat.le_of_ble_eq_true rfl | omega | (simp; done) | (simp; omega) | (dsimp only; omega)) (by first | exact Nat.le_of_ble_eq_true rfl | omega | (simp; done) | (simp; omega) | (dsimp only; omega)) (by first | exact Nat.le_of_ble_eq_true rfl | omega | (simp; done) | (simp; omega) | (dsimp only; omega)) (by first | exact Nat.le_of_ble_eq_true rfl | omega | (simp; done) | (simp; omega) | (dsimp only; omega)) (fun x hx => by cases List.mem_singleton.mp hx; exact Or.inr mo) rfl ?_
  rintro v h4 nw K4 hnw4 ⟨rfl, rfl, O⟩
  dsimp only [Option.toList, List.nil_append]
  have F4 : FStr Z h4 (o :: mine) a us := FStr.call (nw := []) (F.new E3 eo) K4 (fun x hx => by cases List.mem_singleton.mp hx; simp) (fun _ hx => nomatch hx)
  refine WP.freeze (mine' := mine) ?_ (fun x hx => List.mem_cons_of_mem _ hx)
  refine WP.astore (pc' := 100) at_98 rfl rfl rfl rfl rfl ?_
  dsimp only [List.set]
  refine WP.aload (pc' := 102) at_100 rfl rfl rfl ?_
  refine WP.callV (pc' := 105) (con_LTS hw hc Dg hlu h2l O (F4.mono (fun x hx => List.mem_cons_of_mem _ hx))) O.1 (hw _ (List.mem_of_getElem? (i := 56) rfl)) (hw _ (List.mem_of_getElem? (i := 57) rfl)) (fun s hs => notFace_of_selects (args := #[]) (mv hs (hw _ (List.mem_of_getElem? (i := 59) rfl)))) (hw _ (List.mem_of_getElem? (i := 59) rfl)) (hw _ (List.mem_of_getElem? (i := 58) rfl)) (hw _ (List.mem_of_getElem? (i := 33) rfl)) (hw _ (List.mem_of_getElem? (i := 60) rfl)) at_102 (by decide) pdx35 rfl rfl rfl (by first | exact Nat.le_of_ble_eq_true rfl | omega | (simp; done) | (simp; omega) | (dsimp only; omega)) (by first | exact Nat.le_of_ble_eq_true rfl | omega | (simp; done) | (simp; omega) | (dsimp only; omega)) (by first | exact Nat.le_of_ble_eq_true rfl | omega | (simp; done) | (simp; omega) | (dsimp only; omega)) (by first | exact Nat.le_of_ble_eq_true rfl | omega | (simp; done) | (simp; omega) | (dsimp only; omega)) (fun _ hx => nomatch hx) rfl ?_
  rintro v h5 nw K5 hnw5 ⟨rfl, r, rfl, R⟩
  dsimp only [Option.toList, List.cons_append, List.nil_append]
  refine WP.astore (pc' := 107) at_105 rfl rfl rfl rfl rfl ?_
  dsimp only [List.set]
  refine WP.lloadN (pc' := 108) at_107 rfl rfl ?_
  refine WP.callS (pc' := 111) (con_NLE hw (x := x)) (hw _ (List.mem_of_getElem? (i := 229) rfl)) (hw _ (List.mem_of_getElem? (i := 230) rfl)) (hw _ (List.mem_of_getElem? (i := 231) rfl)) (hw _ (List.mem_of_getElem? (i := 232) rfl)) at_108 (by decide) pdx23 rfl rfl rfl (by first | exact Nat.le_of_ble_eq_true rfl | omega | (simp; done) | (simp; omega) | (dsimp only; omega)) (by first | exact Nat.le_of_ble_eq_true rfl | omega | (simp; done) | (simp; omega) | (dsimp only; omega)) (by first | exact Nat.le_of_ble_eq_true rfl | omega | (simp; done) | (simp; omega) | (dsimp only; omega)) (by first | exact Nat.le_of_ble_eq_true rfl | omega | (simp; done) | (simp; omega) | (dsimp only; omega)) (fun _ hx => nomatch hx) rfl ?_
  rintro v h6 nw K hnw ⟨rfl, rfl, rfl⟩
  dsimp only [Option.toList, List.cons_append, List.nil_append]
  refine WP.istore (pc' := 113) at_111 rfl rfl rfl ?_
  dsimp only [List.set]
  refine WP.iload (pc' := 115) at_113 rfl rfl ?_
  refine WP.i2l (pc' := 116) at_115 rfl ?_
  refine WP.callS (pc' := 119) (con_NLE hw (x := c.toInt64)) (hw _ (List.mem_of_getElem? (i := 229) rfl)) (hw _ (List.mem_of_getElem? (i := 230) rfl)) (hw _ (List.mem_of_getElem? (i := 231) rfl)) (hw _ (List.mem_of_getElem? (i := 232) rfl)) at_116 (by decide) pdx23 rfl rfl rfl (by first | exact Nat.le_of_ble_eq_true rfl | omega | (simp; done) | (simp; omega) | (dsimp only; omega)) (by first | exact Nat.le_of_ble_eq_true rfl | omega | (simp; done) | (simp; omega) | (dsimp only; omega)) (by first | exact Nat.le_of_ble_eq_true rfl | omega | (simp; done) | (simp; omega) | (dsimp only; omega)) (by first | exact Nat.le_of_ble_eq_true rfl | omega | (simp; done) | (simp; omega) | (dsimp only; omega)) (fun _ hx => nomatch hx) rfl ?_
  rintro v h6 nw K hnw ⟨rfl, rfl, rfl⟩
  dsimp only [Option.toList, List.cons_append, List.nil_append]
  rw [Int32.toInt_toInt64]
  refine WP.istore (pc' := 121) at_119 rfl rfl rfl ?_
  dsimp only [List.set]
  refine WP.aload (pc' := 123) at_121 rfl rfl rfl ?_
  obtain ⟨tr, SR, -, -⟩ := id R
  refine WP.callV (pc' := 126) (con_LEN hw hc SR) SR.1 (hw _ (List.mem_of_getElem? (i := 254) rfl)) (hw _ (List.mem_of_getElem? (i := 90) rfl)) (fun s hs => notFace_of_selects (args := #[]) (mv hs (hw _ (List.mem_of_getElem? (i := 92) rfl)))) (hw _ (List.mem_of_getElem? (i := 92) rfl)) (hw _ (List.mem_of_getElem? (i := 91) rfl)) (hw _ (List.mem_of_getElem? (i := 4) rfl)) (hw _ (List.mem_of_getElem? (i := 93) rfl)) at_123 (by decide) pdx14 rfl rfl rfl (by first | exact Nat.le_of_ble_eq_true rfl | omega | (simp; done) | (simp; omega) | (dsimp only; omega)) (by first | exact Nat.le_of_ble_eq_true rfl | omega | (simp; done) | (simp; omega) | (dsimp only; omega)) (by first | exact Nat.le_of_ble_eq_true rfl | omega | (simp; done) | (simp; omega) | (dsimp only; omega)) (by first | exact Nat.le_of_ble_eq_true rfl | omega | (simp; done) | (simp; omega) | (dsimp only; omega)) (fun _ hx => nomatch hx) rfl ?_
  rintro v h6 nw K hnw ⟨rfl, rfl, rfl⟩
  dsimp only [Option.toList, List.cons_append, List.nil_append]
  refine WP.iload (pc' := 128) at_126 rfl rfl ?_
  refine WP.iconst (pc' := 129) (x := 1) at_128 (by decide) rfl ?_
  refine WP.iadd (pc' := 130) at_129 rfl ?_
  refine WP.iload (pc' := 132) at_130 rfl rfl ?_
  refine WP.iadd (pc' := 133) at_132 rfl ?_
  refine WP.iconst (pc' := 134) (x := 1) at_133 (by decide) rfl ?_
  refine WP.iadd (pc' := 135) at_134 rfl ?_
  refine WP.iload (pc' := 137) at_135 rfl rfl ?_
  refine WP.iadd (pc' := 138) at_137 rfl ?_
  rw [n32_succ, n32_add, n32_succ, n32_add]
  refine WP.icmpT (pc' := 143) at_138 (by decide) (by decide) (congrArg Int32.ofNat (by simp; omega)) ?_
  exact tail_LAW2 hw hc hf hlu hus R
theorem rem3 (n : Int32) : (n &&& 2147483647) % 3 = 0 ∨ (n &&& 2147483647) % 3 = 1 ∨ (n &&& 2147483647) % 3 = 2 := by
  have m := c_mask n 2147483647 31 (by decide) (by decide)
  have r := (c_irem (n &&& 2147483647) 3 3 rfl).1 (by omega)
  have e : ((n &&& 2147483647) % 3).toInt = 0 ∨ ((n &&& 2147483647) % 3).toInt = 1 ∨ ((n &&& 2147483647) % 3).toInt = 2 := by omega
  rcases e with e | e | e
  · exact Or.inl (Int32.toInt_inj.mp e)
  · exact Or.inr (Or.inl (Int32.toInt_inj.mp e))
  · exact Or.inr (Or.inr (Int32.toInt_inj.mp e))
set_option maxRecDepth 65536 in
set_option maxHeartbeats 40000000 in
theorem con_LAW (hw : ∀ d ∈ tables_1, d.before a0 Z = true) {cz : Int32} (hc : Compact Z cz) {vf : Value} (hf : Fmt Z vf) {o1 o2 : Addr} (Dg : Dig Z o1 o2) {c0 c1 n c : Int32} {xl : Int64} :
    Con x code maxLocals ret room_1 Z LT tables_1 #[.int c0, .int c1, .int n, .long xl, .int c] h [] mine (fun v h' nw => v = some (.int 1)) := by
  refine Con.of pnLAW (Ls := [.val (.int c0), .val (.int c1), .val (.int n), .val (.long xl), .second, .val (.int c), .unset, .unset, .unset, .unset, .unset, .unset, .unset, .unset, .unset, .unset, .unset]) (fun m => by first | (simp [entryFrame, mkF, argsToLocals, Value.category]; done) | (simp [entryFrame, mkF, argsToLocals, Value.category, maxLocals]; done) | rfl) ?_
  refine WP.iloadN (pc' := 1) at_0 rfl rfl ?_
  refine WP.sipush (pc' := 4) (x := 255) at_1 (by decide) rfl ?_
  refine WP.iand (pc' := 5) at_4 rfl ?_
  refine WP.i2c (pc' := 6) at_5 rfl ?_
  refine WP.istore (pc' := 8) at_6 rfl rfl rfl ?_
  dsimp only [List.set]
  refine WP.iloadN (pc' := 9) at_8 rfl rfl ?_
  refine WP.sipush (pc' := 12) (x := 255) at_9 (by decide) rfl ?_
  refine WP.iand (pc' := 13) at_12 rfl ?_
  refine WP.i2c (pc' := 14) at_13 rfl ?_
  refine WP.istore (pc' := 16) at_14 rfl rfl rfl ?_
  dsimp only [List.set]
  refine WP.iloadN (pc' := 17) at_16 rfl rfl ?_
  refine WP.ldcInt (pc' := 19) at_17 (hw _ (List.mem_of_getElem? (i := 0) rfl)) rfl ?_
  refine WP.iand (pc' := 20) at_19 rfl ?_
  refine WP.iconst (pc' := 21) (x := 3) at_20 (by decide) rfl ?_
  refine WP.irem (pc' := 22) at_21 (by decide) rfl ?_
  refine WP.istore (pc' := 24) at_22 rfl rfl rfl ?_
  dsimp only [List.set]
  refine WP.iconst (pc' := 25) (x := 0) at_24 (by decide) rfl ?_
  generalize he : (n &&& 2147483647) % 3 = len
  have e3 : len = 0 ∨ len = 1 ∨ len = 2 := he ▸ rem3 n
  refine WP.newarray (pc' := 27) (N := 0) at_25 (hw _ (List.mem_of_getElem? (i := 1) rfl)) rfl (by decide) (by first | exact Nat.le_of_ble_eq_true rfl | omega | (simp; done) | (simp; omega) | (dsimp only; omega)) (by first | exact Nat.le_of_ble_eq_true rfl | omega | (simp; done) | (simp; omega) | (dsimp only; omega)) (by first | exact Nat.le_of_ble_eq_true rfl | omega | (simp; done) | (simp; omega) | (dsimp only; omega)) rfl ?_
  intro h1 q0 eq0 nq0 mq0 E1 A0
  replace A0 : ArI Z h1 q0 .char (([] : List UInt16).map chv) := A0
  refine WP.astore (pc' := 29) at_27 rfl rfl rfl rfl rfl ?_
  dsimp only [List.set]
  refine WP.iconst (pc' := 30) (x := 1) at_29 (by decide) rfl ?_
  refine WP.newarray (pc' := 32) (N := 1) at_30 (hw _ (List.mem_of_getElem? (i := 1) rfl)) rfl (by decide) (by first | exact Nat.le_of_ble_eq_true rfl | omega | (simp; done) | (simp; omega) | (dsimp only; omega)) (by first | exact Nat.le_of_ble_eq_true rfl | omega | (simp; done) | (simp; omega) | (dsimp only; omega)) (by first | exact Nat.le_of_ble_eq_true rfl | omega | (simp; done) | (simp; omega) | (dsimp only; omega)) rfl ?_
  intro h2 q1 eq1 nq1 mq1 E2 A1
  replace A0 := A0.ext E2
  refine WP.dup (pc' := 33) at_32 rfl rfl ?_
  refine WP.iconst (pc' := 34) (x := 0) at_33 (by decide) rfl ?_
  refine WP.iload (pc' := 36) at_34 rfl rfl ?_
  refine WP.castore (pc' := 37) (i := 0) at_36 A1 (by decide) (by simp) (List.mem_cons_self ..) (Or.inr mq1) rfl ?_
  intro h3 W3 A1
  replace A1 : ArI Z h3 q1 .char ([cu (c0 &&& 255)].map chv) := by
    have z : ArI Z h3 q1 .char [nar .char (chv (cu (c0 &&& 255)))] := A1
    rw [chv_nar] at z; exact z
  have n01 : q0 ≠ q1 := fun q => nq1 (q ▸ List.mem_cons_self ..)
  replace A0 := A0.other W3 n01
  refine WP.astore (pc' := 39) at_37 rfl rfl rfl rfl rfl ?_
  dsimp only [List.set]
  refine WP.iconst (pc' := 40) (x := 2) at_39 (by decide) rfl ?_
  refine WP.newarray (pc' := 42) (N := 2) at_40 (hw _ (List.mem_of_getElem? (i := 1) rfl)) rfl (by decide) (by first | exact Nat.le_of_ble_eq_true rfl | omega | (simp; done) | (simp; omega) | (dsimp only; omega)) (by first | exact Nat.le_of_ble_eq_true rfl | omega | (simp; done) | (simp; omega) | (dsimp only; omega)) (by first | exact Nat.le_of_ble_eq_true rfl | omega | (simp; done) | (simp; omega) | (dsimp only; omega)) rfl ?_
  intro h4 q2 eq2 nq2 mq2 E4 A2
  replace A0 := A0.ext E4
  replace A1 := A1.ext E4
  have n12 : q1 ≠ q2 := fun q => nq2 (q ▸ List.mem_cons_self ..)
  have n02 : q0 ≠ q2 := fun q => nq2 (q ▸ List.mem_cons_of_mem _ (List.mem_cons_self ..))
  refine WP.dup (pc' := 43) at_42 rfl rfl ?_
  refine WP.iconst (pc' := 44) (x := 0) at_43 (by decide) rfl ?_
  refine WP.iload (pc' := 46) at_44 rfl rfl ?_
  refine WP.castore (pc' := 47) (i := 0) at_46 A2 (by decide) (by simp) (List.mem_cons_self ..) (Or.inr mq2) rfl ?_
  intro h5 W5 A2
  replace A0 := A0.other W5 n02
  replace A1 := A1.other W5 n12
  refine WP.dup (pc' := 48) at_47 rfl rfl ?_
  refine WP.iconst (pc' := 49) (x := 1) at_48 (by decide) rfl ?_
  refine WP.iload (pc' := 51) at_49 rfl rfl ?_
  refine WP.castore (pc' := 52) (i := 1) at_51 A2 (by decide) (by simp) (List.mem_cons_self ..) (Or.inr mq2) rfl ?_
  intro h6 W6 A2
  replace A0 := A0.other W6 n02
  replace A1 := A1.other W6 n12
  replace A2 : ArI Z h6 q2 .char ([cu (c0 &&& 255), cu (c1 &&& 255)].map chv) := by
    have z : ArI Z h6 q2 .char [nar .char (chv (cu (c0 &&& 255))), nar .char (chv (cu (c1 &&& 255)))] := A2
    rw [chv_nar, chv_nar] at z; exact z
  refine WP.astore (pc' := 54) at_52 rfl rfl rfl rfl rfl ?_
  dsimp only [List.set]
  refine WP.new (pc' := 57) at_54 (hw _ (List.mem_of_getElem? (i := 2) rfl)) (hw _ (List.mem_of_getElem? (i := 3) rfl)) (hw _ (List.mem_of_getElem? (i := 4) rfl)) (by first | exact Nat.le_of_ble_eq_true rfl | omega | (simp; done) | (simp; omega) | (dsimp only; omega)) (by first | exact Nat.le_of_ble_eq_true rfl | omega | (simp; done) | (simp; omega) | (dsimp only; omega)) rfl ?_
  intro h7 a ea na ma E7 X7 D7
  have V : Fld Z h7 a ST "value" "[B" .null := D7 (Or.inr (hw _ (List.mem_of_getElem? (i := 30) rfl))) (ty := .array .byte) (by decide)
  have C : Fld Z h7 a ST "coder" "B" (.int 0) := D7 (Or.inr (hw _ (List.mem_of_getElem? (i := 28) rfl))) (ty := .byte) (by decide)
  replace A0 := A0.ext E7
  replace A1 := A1.ext E7
  replace A2 := A2.ext E7
  have hmn : ∀ x ∈ mine, x ∈ a :: q2 :: q1 :: q0 :: mine := fun x hx => List.mem_cons_of_mem _ (List.mem_cons_of_mem _ (List.mem_cons_of_mem _ (List.mem_cons_of_mem _ hx)))
  have na' : a ∉ mine := fun q => na (List.mem_cons_of_mem _ (List.mem_cons_of_mem _ (List.mem_cons_of_mem _ q)))
  refine WP.dup (pc' := 58) at_57 rfl rfl ?_
  refine WP.iload (pc' := 60) at_58 rfl rfl ?_
  rcases e3 with rfl | rfl | rfl
  · refine WP.ifF (pc' := 63) at_60 rfl rfl ?_
    refine WP.aload (pc' := 65) at_63 rfl rfl rfl ?_
    refine WP.goto (pc' := 81) at_65 (by decide) (by decide) ?_
    exact tail_LAW1 (ux := cu (c0 &&& 255)) (uy := cu (c1 &&& 255)) hw hc hf Dg rfl (Or.inl rfl) hmn (List.mem_cons_self ..) na' ma X7 V C A0
  · refine WP.ifT (pc' := 68) at_60 (by decide) (by decide) (show ¬ (1 : Int32) = 0 by decide) ?_
    refine WP.iload (pc' := 70) at_68 rfl rfl ?_
    refine WP.iconst (pc' := 71) (x := 1) at_70 (by decide) rfl ?_
    refine WP.icmpF (pc' := 74) at_71 rfl rfl ?_
    refine WP.aload (pc' := 76) at_74 rfl rfl rfl ?_
    refine WP.goto (pc' := 81) at_76 (by decide) (by decide) ?_
    exact tail_LAW1 (ux := cu (c0 &&& 255)) (uy := cu (c1 &&& 255)) hw hc hf Dg (by simp [lat, lat_cu]) (Or.inr (Or.inl rfl)) hmn (List.mem_cons_self ..) na' ma X7 V C A1
  · refine WP.ifT (pc' := 68) at_60 (by decide) (by decide) (show ¬ (2 : Int32) = 0 by decide) ?_
    refine WP.iload (pc' := 70) at_68 rfl rfl ?_
    refine WP.iconst (pc' := 71) (x := 1) at_70 (by decide) rfl ?_
    refine WP.icmpT (pc' := 79) at_71 (by decide) (by decide) (show ¬ (2 : Int32) = 1 by decide) ?_
    refine WP.aload (pc' := 81) at_79 rfl rfl rfl ?_
    exact tail_LAW1 (ux := cu (c0 &&& 255)) (uy := cu (c1 &&& 255)) hw hc hf Dg (by simp [lat, lat_cu]) (Or.inr (Or.inr rfl)) hmn (List.mem_cons_self ..) na' ma X7 V C A2
end LawBodies
set_option maxRecDepth 65536 in
set_option maxHeartbeats 40000000 in
theorem comes_1 {Post : Tables → Env → Array Value → State → Outcome → State → Prop} (hpost : ∀ tb e args s v u, (limb_1_1.after args s (.returned v) u = true ∧ limb_1_2.after args s (.returned v) u = true ∧ True) → ReturnedEndW s (.returned v) u (Jvm.fieldLocs frame_1_writes args s ++ Jvm.arrayLocs frame_1_arrays args s ++ Jvm.staticLocs frame_1_statics s) 40 3392 → Post tb e args s (.returned v) u) :
    ArmFor flags0 classFile x code maxLocals ret World_1 tables_1 room_1 Calls_1 rest_1 Pre_1 Post := by
  intro l hfl _ _ p e ha hc1 hk s m args below hf hA hF happ hP
  obtain ⟨hcalls, hrest, hpre⟩ := hP
  obtain ⟨-, -, -, hnamed, -, -, -, hat⟩ := (Spec.applies_iff hf).mp happ
  obtain ⟨hg, hn⟩ := and_e (Cond.before_iff.mp (show (Jvm.Cond.and given_1 narrow_1).before args s = true from hpre))
  obtain ⟨g1, g2⟩ := and_e hg
  obtain ⟨g3, g4⟩ := and_e g2
  obtain ⟨g5, g6⟩ := and_e g4
  obtain ⟨g7, g8⟩ := and_e g6
  obtain ⟨g9, g10⟩ := and_e g8
  obtain ⟨w0, w1, w2, w3, w4, rfl⟩ : ∃ w0 w1 w2 w3 w4 : Value, args = #[w0, w1, w2, w3, w4] := by
    have hs : args.size = 5 := by simpa [Cond.value, given_1] using g1
    obtain ⟨L⟩ := args
    match L, hs with
    | [w0, w1, w2, w3, w4], _ => exact ⟨w0, w1, w2, w3, w4, rfl⟩
  have hw := fun d (hd : d ∈ tables_1) => atoms_spec (ws := Jvm.Cond.code x code maxLocals ret :: tables_1) hat d (List.mem_cons_of_mem _ hd)
  have hfit : Fit s := fun {y c} hc i hi => by
    obtain ⟨ha, rfl⟩ := Array.getElem?_eq_some_iff.mp hc
    have q := List.all_eq_true.mp ((Array.all_eq_true_iff_forall_mem.mp hF) _ (Array.getElem_mem ha)) i (List.mem_range.mpr hi)
    simpa [Array.getElem?_eq_getElem hi] using q
  obtain ⟨hsets, hown0⟩ := atoms_of _ (rest_1_c_eq ▸ (show rest_1_c.before _ s = true from hrest))
  obtain ⟨i0, ei0⟩ := is_v g3
  obtain rfl : w0 = (.int i0) := Option.some.inj ei0
  obtain ⟨i1, ei1⟩ := is_v g5
  obtain rfl : w1 = (.int i1) := Option.some.inj ei1
  obtain ⟨i2, ei2⟩ := is_v g7
  obtain rfl : w2 = (.int i2) := Option.some.inj ei2
  obtain ⟨i3, ei3⟩ := isL_v g9
  obtain rfl : w3 = (.long i3) := Option.some.inj ei3
  obtain ⟨i4, ei4⟩ := is_v g10
  obtain rfl : w4 = (.int i4) := Option.some.inj ei4
  have wS := atoms hw
  have hcw : Jvm.Lit.compactW.before _ s = true := (hsets _ (List.mem_of_getElem? (i := 2) rfl))
  have hlink : Links s LT := fun q hq => by
    simp only [LT, List.mem_cons, List.not_mem_nil, or_false] at hq
    rcases hq with rfl | rfl | rfl
    · exact ⟨_, (hw _ (List.mem_of_getElem? (i := 43) rfl))⟩
    · exact ⟨_, (hw _ (List.mem_of_getElem? (i := 126) rfl))⟩
    · exact ⟨_, (hw _ (List.mem_of_getElem? (i := 285) rfl))⟩
  have hheld : ∀ q ∈ LT, ConstHeldL s q.1 q.2.1 := fun q hq => by
    have hh : ∀ p ∈ consts_1, Jvm.Lit.constHeld s p.1 p.2 := hcalls.1
    simp only [LT, List.mem_cons, List.not_mem_nil, or_false] at hq
    rcases hq with rfl | rfl | rfl
    · exact heldStart (hh (_, _) (by simp [consts_1])) (hw _ (List.mem_of_getElem? (i := 43) rfl)) (by decide) hcw (hw _ (List.mem_of_getElem? (i := 20) rfl)) (hw _ (List.mem_of_getElem? (i := 3) rfl))
    · exact heldStart (hh (_, _) (by simp [consts_1])) (hw _ (List.mem_of_getElem? (i := 126) rfl)) (by decide) hcw (hw _ (List.mem_of_getElem? (i := 20) rfl)) (hw _ (List.mem_of_getElem? (i := 3) rfl))
    · exact heldStart (hh (_, _) (by simp [consts_1])) (hw _ (List.mem_of_getElem? (i := 285) rfl)) (by decide) hcw (hw _ (List.mem_of_getElem? (i := 20) rfl)) (hw _ (List.mem_of_getElem? (i := 3) rfl))
  have hinv := inv_start hlink hheld
  obtain ⟨cz, Scz, ecz⟩ := sta_int (hsets _ (List.mem_of_getElem? (i := 1) rfl)) (hsets _ (List.mem_of_getElem? (i := 0) rfl))
  have hcz : Compact s cz := ⟨Scz, sta_nz ecz hcw⟩
  obtain ⟨vf, sf, hvf⟩ := sta_isref (hsets _ (List.mem_of_getElem? (i := 8) rfl)) (hsets _ (List.mem_of_getElem? (i := 7) rfl))
  obtain ⟨d1, x1, ds1, da1, dx1⟩ := sta_tbl (f := fun i => lo8 (dgc i)) (hsets _ (List.mem_of_getElem? (i := 11) rfl)) (hsets _ (List.mem_of_getElem? (i := 12) rfl)) (hsets _ (List.mem_of_getElem? (i := 13) rfl)) (hsets _ (List.mem_of_getElem? (i := 14) rfl)) (hw _ (List.mem_of_getElem? (i := 20) rfl)) (fun i hi => by
    show some (Value.int (48 + Int32.ofNat i % 10)) = some (.int (lo8 (dgc i)))
    rw [ones_num hi])
  obtain ⟨d2, x2, ds2, da2, dx2⟩ := sta_tbl (f := fun i => lo8 (dgc (i / 10))) (hsets _ (List.mem_of_getElem? (i := 16) rfl)) (hsets _ (List.mem_of_getElem? (i := 17) rfl)) (hsets _ (List.mem_of_getElem? (i := 18) rfl)) (hsets _ (List.mem_of_getElem? (i := 19) rfl)) (hw _ (List.mem_of_getElem? (i := 20) rfl)) (fun i hi => by
    show some (Value.int (48 + Int32.ofNat i / 10)) = some (.int (lo8 (dgc (i / 10))))
    rw [tens_num hi])
  obtain ⟨n, o, h1, h2, h3, v, locs, nw, rfl, hq, N, -, -, -, rfl⟩ := (con_LAW hw hcz ⟨sf, hvf⟩ ⟨ds1, ds2, ⟨x1, da1, dx1⟩, ⟨x2, da2, dx2⟩⟩ : Con x code maxLocals ret room_1 s LT tables_1 _ s.heap [] [] _) l p e ha hc1 hk s m _ below hf ((Spec.applies_iff_loose hf).mp happ).1 ⟨rfl, rfl, hinv⟩ trivial
  refine ⟨n, _, h1, h2, h3, hpost _ _ _ _ _ _ ⟨Cond.after_iff.mpr rfl, Cond.after_iff.mpr (eq_i res_at (Term.int_eval (1)) rfl), trivial⟩ ⟨hq.1, hq.2.1, hq.2.2.1, (hq.2.2.2.sift fun y hy => Or.inr (N y hy)).mono (by decide) (by decide)⟩⟩
theorem main_1_1 : Claimed_1_1 := comes_1 fun _ _ _ _ _ _ h hF => ⟨h.1, hF⟩
theorem main_1_2 : Claimed_1_2 := comes_1 fun _ _ _ _ _ _ h hF => ⟨h.2.1, hF⟩
end Jvm.Pilot.@@N@@
namespace Jvm.Pilot.@@N@@
open Jvm Jvm.ClassFile Sem Op Lib Jvm.Free Jvm.Stand Jvm.Pilot.@@N@@.Jvm.D
/-! MADE BY PROGRAM (witnessworld.py) out of the Statement's table words and the real class files: 31 classes; the members and pool entries that the words name. The judged class is class 1, her method 5. -/
namespace start1
open Jvm.ClassFile
def u (s : String) : CpInfo := .utf8 (stringToUtf16 s)
/-- a pool by its gaps: so many unusable entries, then the entry; so many at the end -/
def gap : Nat → List CpInfo → List CpInfo
  | 0, r => r
  | n + 1, r => .unusable :: gap n r
def poolList (es : List (Nat × CpInfo)) (last : Nat) : List CpInfo := es.foldr (fun e r => gap e.1 (e.2 :: r)) (gap last [])
def pool (es : List (Nat × CpInfo)) (last : Nat) : Array CpInfo := ⟨poolList es last⟩
def fileOf (pool : Array CpInfo) (this : Nat) (attrs : Array Attribute := #[]) (ms : Array MethodInfo := #[]) (fl : Nat := 33) (sup : Nat := 0) (ifs : Array Nat := #[]) (fds : Array FieldInfo := #[]) : ClassFile where
  minorVersion := 0
  majorVersion := 65
  constantPool := pool
  accessFlags := fl
  thisClass := this
  superClass := sup
  interfaces := ifs
  fields := fds
  methods := ms
  attributes := attrs
def plain (name : String) (sup : Option ClassId) : Class where
  name := name
  kind := .ordinary
  loader := none
  accessFlags := 33
  super := sup
  interfaces := #[]
  cf := none
  fields := #[]
  methods := #[]
  instanceTypes := #[]
  staticTypes := #[]
  resolved := #[]
  callSites := []
  init := .initialized
  statics := none
  mirror := none

def pool0 : Array CpInfo := pool [(5, u "<init>"), (0, u "()V"), (1, .class_ 10), (1, u "java/lang/Object"), (85, u "clone"), (0, u "()Ljava/lang/Object;")] 26

def k0c0 : Code := { maxStack := 0, maxLocals := 1, code := object_method_1_code, exceptionTable := #[], attributes := #[] }
def k0m0 : Method := { name := "<init>", desc := "()V", sig := { parameters := [], returnType := none }, accessFlags := 1, code := some k0c0 }
def k0m1 : Method := { name := "clone", desc := "()Ljava/lang/Object;", sig := { parameters := [], returnType := some (.object "java/lang/Object") }, accessFlags := 260, code := none }
/-- java/lang/Object -/
def k0 : Class := { plain "java/lang/Object" none with
  accessFlags := 33
  interfaces := #[]
  cf := some (fileOf pool0 8 #[] #[{ accessFlags := 1, nameIndex := 5, descriptorIndex := 6, attributes := #[] }, { accessFlags := 260, nameIndex := 96, descriptorIndex := 97, attributes := #[] }] 33 0 #[] #[])
  fields := #[]
  methods := #[k0m0, k0m1]
  instanceTypes := #[]
  staticTypes := #[]
  resolved := Array.replicate 124 none
  statics := none }

def pool1 : Array CpInfo := pool [(2, .class_ 4), (1, u "java/lang/Object"), (0, u "<init>"), (0, u "()V"), (0, .long 18446744073709551606), (1, .long 18446744073709551516), (1, .long 18446744073709550616), (1, .long 18446744073709541616), (1, .long 18446744073709451616), (1, .long 18446744073708551616), (1, .long 18446744073699551616), (1, .long 18446744073609551616), (1, .long 18446744072709551616), (1, .long 18446744063709551616), (1, .long 18446743973709551616), (1, .long 18446743073709551616), (1, .long 18446734073709551616), (1, .long 18446644073709551616), (1, .long 18445744073709551616), (1, .long 18436744073709551616), (1, .long 18346744073709551616), (1, .long 17446744073709551616), (1, .methodref 44 45), (0, .class_ 46), (0, .nameAndType 47 48), (0, u "com/example/orunmila/orunmila/LocationToStringPinLaw"), (0, u "digits"), (0, u "(J)I"), (0, .methodref 50 51), (0, .class_ 52), (0, .nameAndType 53 54), (0, u "java/lang/String"), (0, u "charAt"), (0, u "(I)C"), (0, .long 10), (1, .methodref 44 58), (0, .nameAndType 59 60), (0, u "dig"), (0, u "(Ljava/lang/String;IJ)Z"), (0, .integer 2147483647), (0, .methodref 50 63), (0, .nameAndType 5 64), (0, u "([C)V"), (0, .class_ 66), (0, u "com/example/orunmila/orunmila/Location"), (0, .methodref 65 68), (0, .nameAndType 5 69), (0, u "(Ljava/lang/String;JI)V"), (0, .methodref 65 71), (0, .nameAndType 72 73), (0, u "toString"), (0, u "()Ljava/lang/String;"), (0, .methodref 44 75), (0, .nameAndType 76 48), (0, u "numLen"), (0, .methodref 50 78), (0, .nameAndType 79 80), (0, u "length"), (0, u "()I"), (0, .methodref 44 82), (0, .nameAndType 83 60), (0, u "numOk"), (3, u "law"), (0, u "(IIIJI)Z")] 4

def k1m0 : Method := { name := "<init>", desc := "()V", sig := { parameters := [], returnType := none }, accessFlags := 1, code := none }
def k1c1 : Code := { maxStack := 4, maxLocals := 3, code := method_2_code, exceptionTable := #[], attributes := #[] }
def k1m1 : Method := { name := "digits", desc := "(J)I", sig := { parameters := [.long], returnType := some .int }, accessFlags := 10, code := some k1c1 }
def k1c2 : Code := { maxStack := 4, maxLocals := 5, code := method_3_code, exceptionTable := #[], attributes := #[] }
def k1m2 : Method := { name := "numLen", desc := "(J)I", sig := { parameters := [.long], returnType := some .int }, accessFlags := 10, code := some k1c2 }
def k1c3 : Code := { maxStack := 6, maxLocals := 4, code := method_4_code, exceptionTable := #[], attributes := #[] }
def k1m3 : Method := { name := "dig", desc := "(Ljava/lang/String;IJ)Z", sig := { parameters := [(.object "java/lang/String"), .int, .long], returnType := some .boolean }, accessFlags := 10, code := some k1c3 }
def k1c4 : Code := { maxStack := 4, maxLocals := 13, code := method_5_code, exceptionTable := #[], attributes := #[] }
def k1m4 : Method := { name := "numOk", desc := "(Ljava/lang/String;IJ)Z", sig := { parameters := [(.object "java/lang/String"), .int, .long], returnType := some .boolean }, accessFlags := 10, code := some k1c4 }
def k1c5 : Code := { maxStack := 6, maxLocals := 17, code := code, exceptionTable := #[], attributes := #[] }
def k1m5 : Method := { name := "law", desc := "(IIIJI)Z", sig := { parameters := [.int, .int, .int, .long, .int], returnType := some .boolean }, accessFlags := 9, code := some k1c5 }
/-- com/example/orunmila/orunmila/LocationToStringPinLaw -/
def k1 : Class := { plain "com/example/orunmila/orunmila/LocationToStringPinLaw" (some 0) with
  accessFlags := 49
  interfaces := #[]
  cf := some (fileOf pool1 44 #[] #[{ accessFlags := 1, nameIndex := 5, descriptorIndex := 6, attributes := #[] }, { accessFlags := 10, nameIndex := 47, descriptorIndex := 48, attributes := #[] }, { accessFlags := 10, nameIndex := 76, descriptorIndex := 48, attributes := #[] }, { accessFlags := 10, nameIndex := 59, descriptorIndex := 60, attributes := #[] }, { accessFlags := 10, nameIndex := 83, descriptorIndex := 60, attributes := #[] }, { accessFlags := 9, nameIndex := 87, descriptorIndex := 88, attributes := #[] }] 49 2 #[] #[])
  fields := #[]
  methods := #[k1m0, k1m1, k1m2, k1m3, k1m4, k1m5]
  instanceTypes := #[]
  staticTypes := #[]
  resolved := Array.replicate 93 none
  statics := none }

def pool2 : Array CpInfo := pool [(1, .class_ 2), (0, u "java/io/Serializable"), (0, .class_ 4), (0, u "java/lang/Object")] 2

/-- java/io/Serializable -/
def k2 : Class := { plain "java/io/Serializable" (some 0) with
  accessFlags := 1537
  interfaces := #[]
  cf := some (fileOf pool2 1 #[] #[] 1537 3 #[] #[])
  fields := #[]
  methods := #[]
  instanceTypes := #[]
  staticTypes := #[]
  resolved := Array.replicate 7 none
  statics := none }

def pool3 : Array CpInfo := pool [(1, .class_ 2), (0, u "java/lang/Comparable"), (0, .class_ 4), (0, u "java/lang/Object")] 7

/-- java/lang/Comparable -/
def k3 : Class := { plain "java/lang/Comparable" (some 0) with
  accessFlags := 1537
  interfaces := #[]
  cf := some (fileOf pool3 1 #[] #[] 1537 3 #[] #[])
  fields := #[]
  methods := #[]
  instanceTypes := #[]
  staticTypes := #[]
  resolved := Array.replicate 12 none
  statics := none }

def pool4 : Array CpInfo := pool [(2, .class_ 4), (1, u "java/lang/CharSequence"), (42, .class_ 48), (0, u "java/lang/CharSequence$1CodePointIterator"), (10, .class_ 60), (0, u "java/lang/CharSequence$1CharIterator"), (5, .class_ 67), (0, u "java/lang/Object")] 63

/-- java/lang/CharSequence -/
def k4 : Class := { plain "java/lang/CharSequence" (some 0) with
  accessFlags := 1537
  interfaces := #[]
  cf := some (fileOf pool4 2 #[.nestMembers #[47, 59]] #[] 1537 66 #[] #[])
  fields := #[]
  methods := #[]
  instanceTypes := #[]
  staticTypes := #[]
  resolved := Array.replicate 131 none
  statics := none }

def pool5 : Array CpInfo := pool [(1, .class_ 2), (0, u "java/lang/constant/Constable"), (0, .class_ 4), (0, u "java/lang/Object")] 6

/-- java/lang/constant/Constable -/
def k5 : Class := { plain "java/lang/constant/Constable" (some 0) with
  accessFlags := 1537
  interfaces := #[]
  cf := some (fileOf pool5 1 #[] #[] 1537 3 #[] #[])
  fields := #[]
  methods := #[]
  instanceTypes := #[]
  staticTypes := #[]
  resolved := Array.replicate 11 none
  statics := none }

def pool6 : Array CpInfo := pool [(1, .class_ 2), (0, u "java/lang/constant/ConstantDesc"), (0, .class_ 4), (0, u "java/lang/Object")] 32

/-- java/lang/constant/ConstantDesc -/
def k6 : Class := { plain "java/lang/constant/ConstantDesc" (some 0) with
  accessFlags := 1537
  interfaces := #[]
  cf := some (fileOf pool6 1 #[] #[] 1537 3 #[] #[])
  fields := #[]
  methods := #[]
  instanceTypes := #[]
  staticTypes := #[]
  resolved := Array.replicate 37 none
  statics := none }

def pool7 : Array CpInfo := pool [(1, .methodref 2 3), (0, .class_ 4), (0, .nameAndType 5 6), (0, u "java/lang/Object"), (0, u "<init>"), (0, u "()V"), (0, .string 8), (0, u ""), (0, .fieldref 10 11), (0, .class_ 12), (0, .nameAndType 13 14), (0, u "java/lang/String"), (0, u "value"), (0, u "[B"), (0, .fieldref 10 16), (0, .nameAndType 17 18), (0, u "coder"), (0, u "B"), (2, u "hash"), (0, u "I"), (2, u "hashIsZero"), (0, u "Z"), (0, .methodref 10 28), (0, .nameAndType 5 29), (0, u "([CIILjava/lang/Void;)V"), (8, .fieldref 10 39), (0, .nameAndType 40 26), (0, u "COMPACT_STRINGS"), (1, .class_ 44), (1, u "java/lang/StringUTF16"), (0, u "compress"), (1, .methodref 42 48), (0, .nameAndType 49 50), (0, u "coderFromArrayLen"), (0, u "([BI)B"), (3, .methodref 55 56), (0, .class_ 57), (0, .nameAndType 58 59), (0, u "java/util/Arrays"), (0, u "copyOfRange"), (0, u "([BII)[B"), (47, .class_ 109), (1, u "java/lang/StringLatin1"), (32, u "()Z"), (34, .methodref 42 178), (0, .nameAndType 45 179), (0, u "([CII)[B"), (13, .class_ 195), (1, u "java/lang/System"), (16, .methodref 193 213), (0, .nameAndType 214 215), (0, u "arraycopy"), (0, u "(Ljava/lang/Object;ILjava/lang/Object;II)V"), (118, u "()I"), (0, .methodref 10 336), (0, .nameAndType 17 337), (0, u "()B"), (2, u "()[B"), (22, u "([BI)C"), (27, u "(II)V"), (35, u "(I)C"), (61, .methodref 10 490), (0, .nameAndType 5 491), (0, u "(Ljava/lang/AbstractStringBuilder;Ljava/lang/Void;)V"), (0, .methodref 10 493), (0, .nameAndType 494 142), (0, u "isLatin1"), (0, .methodref 107 496), (0, .nameAndType 497 363), (0, u "charAt"), (3, u "checkIndex"), (4, .nameAndType 507 334), (0, u "length"), (24, u "getBytes"), (16, .methodref 550 506), (0, .class_ 551), (0, u "java/lang/AbstractStringBuilder"), (0, .methodref 550 553), (0, .nameAndType 554 340), (0, u "getValue"), (20, .class_ 576), (0, u "java/lang/CharSequence"), (22, u "CASE_INSENSITIVE_ORDER"), (0, u "Ljava/util/Comparator;"), (220, u "([BIB)V"), (188, u "([C)V"), (36, .methodref 550 493), (5, .fieldref 1054 1055), (0, .class_ 1056), (0, .nameAndType 1057 1058), (0, u "jdk/internal/util/Preconditions"), (0, u "SIOOBE_FORMATTER"), (0, u "Ljava/util/function/BiFunction;"), (0, .methodref 1054 1060), (0, .nameAndType 501 1061), (0, u "(IILjava/util/function/BiFunction;)I"), (39, u "serialPersistentFields"), (0, u "[Ljava/io/ObjectStreamField;"), (0, .class_ 1104), (0, u "java/lang/String$CaseInsensitiveComparator"), (1, .class_ 1107), (0, u "java/io/Serializable"), (0, .class_ 1109), (0, u "java/lang/Comparable"), (0, .class_ 1111), (0, u "java/lang/constant/Constable"), (0, .class_ 1113), (0, u "java/lang/constant/ConstantDesc"), (2, u "serialVersionUID"), (0, u "J"), (3, u "REPL"), (0, u "C"), (2, u "LATIN1"), (1, u "UTF16"), (105, u "(Ljava/lang/StringBuilder;)V")] 217

def k7m0 : Method := { name := "<init>", desc := "()V", sig := { parameters := [], returnType := none }, accessFlags := 1, code := none }
def k7c1 : Code := { maxStack := 5, maxLocals := 2, code := jdk_42_method_3_code, exceptionTable := #[], attributes := #[] }
def k7m1 : Method := { name := "<init>", desc := "([C)V", sig := { parameters := [(.array .char)], returnType := none }, accessFlags := 1, code := some k7c1 }
def k7c2 : Code := { maxStack := 3, maxLocals := 2, code := jdk_42_method_53_code, exceptionTable := #[], attributes := #[] }
def k7m2 : Method := { name := "<init>", desc := "(Ljava/lang/StringBuilder;)V", sig := { parameters := [(.object "java/lang/StringBuilder")], returnType := none }, accessFlags := 1, code := some k7c2 }
def k7c3 : Code := { maxStack := 2, maxLocals := 1, code := jdk_42_method_54_code, exceptionTable := #[], attributes := #[] }
def k7m3 : Method := { name := "length", desc := "()I", sig := { parameters := [], returnType := some .int }, accessFlags := 1, code := some k7c3 }
def k7c4 : Code := { maxStack := 2, maxLocals := 2, code := jdk_42_method_56_code, exceptionTable := #[], attributes := #[] }
def k7m4 : Method := { name := "charAt", desc := "(I)C", sig := { parameters := [.int], returnType := some .char }, accessFlags := 1, code := some k7c4 }
def k7c5 : Code := { maxStack := 5, maxLocals := 4, code := jdk_42_method_147_code, exceptionTable := #[], attributes := #[] }
def k7m5 : Method := { name := "getBytes", desc := "([BIB)V", sig := { parameters := [(.array .byte), .int, .byte], returnType := none }, accessFlags := 0, code := some k7c5 }
def k7c6 : Code := { maxStack := 4, maxLocals := 6, code := jdk_42_method_149_code, exceptionTable := #[], attributes := #[] }
def k7m6 : Method := { name := "<init>", desc := "([CIILjava/lang/Void;)V", sig := { parameters := [(.array .char), .int, .int, (.object "java/lang/Void")], returnType := none }, accessFlags := 2, code := some k7c6 }
def k7c7 : Code := { maxStack := 5, maxLocals := 5, code := jdk_42_method_150_code, exceptionTable := #[], attributes := #[] }
def k7m7 : Method := { name := "<init>", desc := "(Ljava/lang/AbstractStringBuilder;Ljava/lang/Void;)V", sig := { parameters := [(.object "java/lang/AbstractStringBuilder"), (.object "java/lang/Void")], returnType := none }, accessFlags := 0, code := some k7c7 }
def k7c8 : Code := { maxStack := 1, maxLocals := 1, code := jdk_42_method_152_code, exceptionTable := #[], attributes := #[] }
def k7m8 : Method := { name := "coder", desc := "()B", sig := { parameters := [], returnType := some .byte }, accessFlags := 0, code := some k7c8 }
def k7c9 : Code := { maxStack := 1, maxLocals := 1, code := jdk_42_method_154_code, exceptionTable := #[], attributes := #[] }
def k7m9 : Method := { name := "isLatin1", desc := "()Z", sig := { parameters := [], returnType := some .boolean }, accessFlags := 0, code := some k7c9 }
def k7c10 : Code := { maxStack := 3, maxLocals := 2, code := jdk_42_method_155_code, exceptionTable := #[], attributes := #[] }
def k7m10 : Method := { name := "checkIndex", desc := "(II)V", sig := { parameters := [.int, .int], returnType := none }, accessFlags := 8, code := some k7c10 }
/-- java/lang/String -/
def k7 : Class := { plain "java/lang/String" (some 0) with
  accessFlags := 49
  interfaces := #[2, 3, 4, 5, 6]
  cf := some (fileOf pool7 10 #[.nestMembers #[1103]] #[{ accessFlags := 1, nameIndex := 5, descriptorIndex := 6, attributes := #[] }, { accessFlags := 1, nameIndex := 5, descriptorIndex := 1010, attributes := #[] }, { accessFlags := 1, nameIndex := 5, descriptorIndex := 1233, attributes := #[] }, { accessFlags := 1, nameIndex := 507, descriptorIndex := 334, attributes := #[] }, { accessFlags := 1, nameIndex := 497, descriptorIndex := 427, attributes := #[] }, { accessFlags := 0, nameIndex := 532, descriptorIndex := 821, attributes := #[] }, { accessFlags := 2, nameIndex := 5, descriptorIndex := 29, attributes := #[] }, { accessFlags := 0, nameIndex := 5, descriptorIndex := 491, attributes := #[] }, { accessFlags := 0, nameIndex := 17, descriptorIndex := 337, attributes := #[] }, { accessFlags := 0, nameIndex := 494, descriptorIndex := 142, attributes := #[] }, { accessFlags := 8, nameIndex := 501, descriptorIndex := 391, attributes := #[] }] 49 2 #[1106, 1108, 575, 1110, 1112] #[{ accessFlags := 18, nameIndex := 13, descriptorIndex := 14, attributes := #[] }, { accessFlags := 18, nameIndex := 17, descriptorIndex := 18, attributes := #[] }, { accessFlags := 2, nameIndex := 21, descriptorIndex := 22, attributes := #[] }, { accessFlags := 2, nameIndex := 25, descriptorIndex := 26, attributes := #[] }, { accessFlags := 26, nameIndex := 1116, descriptorIndex := 1117, attributes := #[] }, { accessFlags := 24, nameIndex := 40, descriptorIndex := 26, attributes := #[] }, { accessFlags := 26, nameIndex := 1101, descriptorIndex := 1102, attributes := #[] }, { accessFlags := 26, nameIndex := 1121, descriptorIndex := 1122, attributes := #[] }, { accessFlags := 25, nameIndex := 599, descriptorIndex := 600, attributes := #[] }, { accessFlags := 24, nameIndex := 1125, descriptorIndex := 18, attributes := #[] }, { accessFlags := 24, nameIndex := 1127, descriptorIndex := 18, attributes := #[] }])
  fields := #[{ name := "value", type := (.array .byte), accessFlags := 18, slot := 0, constantValue := 0 }, { name := "coder", type := .byte, accessFlags := 18, slot := 1, constantValue := 0 }, { name := "hash", type := .int, accessFlags := 2, slot := 2, constantValue := 0 }, { name := "hashIsZero", type := .boolean, accessFlags := 2, slot := 3, constantValue := 0 }, { name := "serialVersionUID", type := .long, accessFlags := 26, slot := 0, constantValue := 0 }, { name := "COMPACT_STRINGS", type := .boolean, accessFlags := 24, slot := 1, constantValue := 0 }, { name := "serialPersistentFields", type := (.array (.object "java/io/ObjectStreamField")), accessFlags := 26, slot := 2, constantValue := 0 }, { name := "REPL", type := .char, accessFlags := 26, slot := 3, constantValue := 0 }, { name := "CASE_INSENSITIVE_ORDER", type := (.object "java/util/Comparator"), accessFlags := 25, slot := 4, constantValue := 0 }, { name := "LATIN1", type := .byte, accessFlags := 24, slot := 5, constantValue := 0 }, { name := "UTF16", type := .byte, accessFlags := 24, slot := 6, constantValue := 0 }]
  methods := #[k7m0, k7m1, k7m2, k7m3, k7m4, k7m5, k7m6, k7m7, k7m8, k7m9, k7m10]
  instanceTypes := #[(.array .byte), .byte, .int, .boolean]
  staticTypes := #[.long, .boolean, (.array (.object "java/io/ObjectStreamField")), .char, (.object "java/util/Comparator"), .byte, .byte]
  resolved := Array.replicate 1451 none
  statics := some 0 }

def pool8 : Array CpInfo := pool [(6, .class_ 8), (1, u "java/lang/Object"), (0, u "<init>"), (0, u "()V"), (1, .class_ 14), (1, u "java/lang/StringUTF16"), (31, u "$assertionsDisabled"), (0, u "Z"), (13, u "HI_BYTE_SHIFT"), (0, u "I"), (2, u "LO_BYTE_SHIFT"), (49, .methodref 12 116), (0, .nameAndType 117 118), (0, u "compress"), (0, u "([CI[BII)I"), (3, u "([CII)[B"), (138, u "coderFromArrayLen"), (0, u "([BI)B"), (106, .class_ 371), (1, u "java/lang/StringUTF16$LinesSpliterator"), (58, u "MAX_LENGTH"), (196, .class_ 628), (0, u "java/lang/StringUTF16$CodePointsSpliterator"), (0, .class_ 630), (0, u "java/lang/StringUTF16$CharsSpliterator")] 4

def k8m0 : Method := { name := "<init>", desc := "()V", sig := { parameters := [], returnType := none }, accessFlags := 0, code := none }
def k8c1 : Code := { maxStack := 2, maxLocals := 2, code := jdk_52_method_15_code, exceptionTable := #[], attributes := #[] }
def k8m1 : Method := { name := "coderFromArrayLen", desc := "([BI)B", sig := { parameters := [(.array .byte), .int], returnType := some .byte }, accessFlags := 8, code := some k8c1 }
def k8c2 : Code := { maxStack := 5, maxLocals := 6, code := jdk_52_method_16_code, exceptionTable := #[], attributes := #[] }
def k8m2 : Method := { name := "compress", desc := "([CII)[B", sig := { parameters := [(.array .char), .int, .int], returnType := some (.array .byte) }, accessFlags := 9, code := some k8c2 }
def k8c3 : Code := { maxStack := 3, maxLocals := 7, code := jdk_52_method_21_code, exceptionTable := #[], attributes := #[] }
def k8m3 : Method := { name := "compress", desc := "([CI[BII)I", sig := { parameters := [(.array .char), .int, (.array .byte), .int, .int], returnType := some .int }, accessFlags := 9, code := some k8c3 }
/-- java/lang/StringUTF16 -/
def k8 : Class := { plain "java/lang/StringUTF16" (some 0) with
  accessFlags := 48
  interfaces := #[]
  cf := some (fileOf pool8 12 #[.nestMembers #[627, 629, 369]] #[{ accessFlags := 0, nameIndex := 9, descriptorIndex := 10, attributes := #[] }, { accessFlags := 8, nameIndex := 261, descriptorIndex := 262, attributes := #[] }, { accessFlags := 9, nameIndex := 117, descriptorIndex := 122, attributes := #[] }, { accessFlags := 9, nameIndex := 117, descriptorIndex := 118, attributes := #[] }] 48 6 #[] #[{ accessFlags := 26, nameIndex := 61, descriptorIndex := 62, attributes := #[] }, { accessFlags := 26, nameIndex := 65, descriptorIndex := 62, attributes := #[] }, { accessFlags := 24, nameIndex := 430, descriptorIndex := 62, attributes := #[] }, { accessFlags := 4120, nameIndex := 46, descriptorIndex := 47, attributes := #[] }])
  fields := #[{ name := "HI_BYTE_SHIFT", type := .int, accessFlags := 26, slot := 0, constantValue := 0 }, { name := "LO_BYTE_SHIFT", type := .int, accessFlags := 26, slot := 1, constantValue := 0 }, { name := "MAX_LENGTH", type := .int, accessFlags := 24, slot := 2, constantValue := 0 }, { name := "$assertionsDisabled", type := .boolean, accessFlags := 4120, slot := 3, constantValue := 0 }]
  methods := #[k8m0, k8m1, k8m2, k8m3]
  instanceTypes := #[]
  staticTypes := #[.int, .int, .int, .boolean]
  resolved := Array.replicate 635 none
  statics := none }

def pool9 : Array CpInfo := pool [(1, .methodref 2 3), (0, .class_ 4), (0, .nameAndType 5 6), (0, u "java/lang/Object"), (0, u "<init>"), (0, u "()V"), (0, .class_ 8), (0, u "java/lang/Record")] 13

def k9c0 : Code := { maxStack := 1, maxLocals := 1, code := jdk_30_method_1_code, exceptionTable := #[], attributes := #[] }
def k9m0 : Method := { name := "<init>", desc := "()V", sig := { parameters := [], returnType := none }, accessFlags := 4, code := some k9c0 }
/-- java/lang/Record -/
def k9 : Class := { plain "java/lang/Record" (some 0) with
  accessFlags := 1057
  interfaces := #[]
  cf := some (fileOf pool9 7 #[] #[{ accessFlags := 4, nameIndex := 5, descriptorIndex := 6, attributes := #[] }] 1057 2 #[] #[])
  fields := #[]
  methods := #[k9m0]
  instanceTypes := #[]
  staticTypes := #[]
  resolved := Array.replicate 22 none
  statics := none }

def pool10 : Array CpInfo := pool [(1, .methodref 2 3), (0, .class_ 4), (0, .nameAndType 5 6), (0, u "java/lang/Record"), (0, u "<init>"), (0, u "()V"), (0, .string 8), (0, u "source"), (0, .methodref 10 11), (0, .class_ 12), (0, .nameAndType 13 14), (0, u "java/util/Objects"), (0, u "requireNonNull"), (0, u "(Ljava/lang/Object;Ljava/lang/String;)Ljava/lang/Object;"), (0, .fieldref 16 17), (0, .class_ 18), (0, .nameAndType 8 19), (0, u "com/example/orunmila/orunmila/Location"), (0, u "Ljava/lang/String;"), (0, .fieldref 16 21), (0, .nameAndType 22 23), (0, u "line"), (0, u "J"), (0, .fieldref 16 25), (0, .nameAndType 26 27), (0, u "column"), (0, u "I"), (0, .class_ 29), (0, u "java/lang/StringBuilder"), (0, .methodref 28 3), (0, .methodref 28 32), (0, .nameAndType 33 34), (0, u "append"), (0, u "(Ljava/lang/String;)Ljava/lang/StringBuilder;"), (0, .string 36), (0, u ":"), (0, .methodref 28 38), (0, .nameAndType 33 39), (0, u "(J)Ljava/lang/StringBuilder;"), (0, .methodref 28 41), (0, .nameAndType 33 42), (0, u "(I)Ljava/lang/StringBuilder;"), (0, .methodref 28 44), (0, .nameAndType 45 46), (0, u "toString"), (0, u "()Ljava/lang/String;"), (8, .class_ 56), (0, u "java/io/Serializable"), (0, u "(Ljava/lang/String;JI)V")] 28

def k10c0 : Code := { maxStack := 3, maxLocals := 5, code := prog_4_method_1_code, exceptionTable := #[], attributes := #[] }
def k10m0 : Method := { name := "<init>", desc := "(Ljava/lang/String;JI)V", sig := { parameters := [(.object "java/lang/String"), .long, .int], returnType := none }, accessFlags := 1, code := some k10c0 }
def k10c1 : Code := { maxStack := 3, maxLocals := 1, code := prog_4_method_2_code, exceptionTable := #[], attributes := #[] }
def k10m1 : Method := { name := "toString", desc := "()Ljava/lang/String;", sig := { parameters := [], returnType := some (.object "java/lang/String") }, accessFlags := 1, code := some k10c1 }
/-- com/example/orunmila/orunmila/Location -/
def k10 : Class := { plain "com/example/orunmila/orunmila/Location" (some 9) with
  accessFlags := 49
  interfaces := #[2]
  cf := some (fileOf pool10 16 #[] #[{ accessFlags := 1, nameIndex := 5, descriptorIndex := 57, attributes := #[] }, { accessFlags := 1, nameIndex := 45, descriptorIndex := 46, attributes := #[] }] 49 2 #[55] #[{ accessFlags := 18, nameIndex := 8, descriptorIndex := 19, attributes := #[] }, { accessFlags := 18, nameIndex := 22, descriptorIndex := 23, attributes := #[] }, { accessFlags := 18, nameIndex := 26, descriptorIndex := 27, attributes := #[] }])
  fields := #[{ name := "source", type := (.object "java/lang/String"), accessFlags := 18, slot := 0, constantValue := 0 }, { name := "line", type := .long, accessFlags := 18, slot := 1, constantValue := 0 }, { name := "column", type := .int, accessFlags := 18, slot := 2, constantValue := 0 }]
  methods := #[k10m0, k10m1]
  instanceTypes := #[(.object "java/lang/String"), .long, .int]
  staticTypes := #[]
  resolved := Array.replicate 86 none
  statics := none }

def pool11 : Array CpInfo := pool [(2, .class_ 4), (1, u "java/lang/Object"), (0, u "<init>"), (0, u "()V"), (35, .class_ 44), (1, u "java/util/Objects"), (0, u "requireNonNull"), (48, u "(Ljava/lang/Object;Ljava/lang/String;)Ljava/lang/Object;")] 89

def k11m0 : Method := { name := "<init>", desc := "()V", sig := { parameters := [], returnType := none }, accessFlags := 2, code := none }
def k11c1 : Code := { maxStack := 3, maxLocals := 2, code := jdk_31_method_11_code, exceptionTable := #[], attributes := #[] }
def k11m1 : Method := { name := "requireNonNull", desc := "(Ljava/lang/Object;Ljava/lang/String;)Ljava/lang/Object;", sig := { parameters := [(.object "java/lang/Object"), (.object "java/lang/String")], returnType := some (.object "java/lang/Object") }, accessFlags := 9, code := some k11c1 }
/-- java/util/Objects -/
def k11 : Class := { plain "java/util/Objects" (some 0) with
  accessFlags := 49
  interfaces := #[]
  cf := some (fileOf pool11 42 #[] #[{ accessFlags := 2, nameIndex := 5, descriptorIndex := 6, attributes := #[] }, { accessFlags := 9, nameIndex := 45, descriptorIndex := 94, attributes := #[] }] 49 2 #[] #[])
  fields := #[]
  methods := #[k11m0, k11m1]
  instanceTypes := #[]
  staticTypes := #[]
  resolved := Array.replicate 184 none
  statics := none }

def pool12 : Array CpInfo := pool [(1, .class_ 2), (0, u "java/lang/Appendable"), (0, .class_ 4), (0, u "java/lang/Object")] 9

/-- java/lang/Appendable -/
def k12 : Class := { plain "java/lang/Appendable" (some 0) with
  accessFlags := 1537
  interfaces := #[]
  cf := some (fileOf pool12 1 #[] #[] 1537 3 #[] #[])
  fields := #[]
  methods := #[]
  instanceTypes := #[]
  staticTypes := #[]
  resolved := Array.replicate 14 none
  statics := none }

def pool13 : Array CpInfo := pool [(1, .class_ 2), (0, u "java/lang/String"), (0, .methodref 4 5), (0, .class_ 6), (0, .nameAndType 7 8), (0, u "java/lang/Object"), (0, u "<init>"), (0, u "()V"), (1, .class_ 12), (1, u "java/lang/AbstractStringBuilder"), (0, u "EMPTYVALUE"), (0, u "[B"), (0, .fieldref 10 16), (0, .nameAndType 17 14), (0, u "value"), (0, .fieldref 1 19), (0, .nameAndType 20 21), (0, u "COMPACT_STRINGS"), (0, u "Z"), (0, .fieldref 10 23), (0, .nameAndType 24 25), (0, u "coder"), (0, u "B"), (6, .methodref 1 33), (0, .nameAndType 34 35), (0, u "length"), (0, u "()I"), (0, .class_ 37), (0, u "java/lang/Integer"), (1, .integer 2147483647), (0, .methodref 1 41), (0, .nameAndType 24 42), (0, u "()B"), (2, u "append"), (0, u "(Ljava/lang/String;)Ljava/lang/AbstractStringBuilder;"), (1, .class_ 49), (0, u "java/lang/CharSequence"), (19, u "(Ljava/lang/String;)V"), (5, u "maybeLatin1"), (3, .fieldref 10 80), (0, .nameAndType 81 82), (0, u "count"), (0, u "I"), (0, .methodref 10 84), (0, .nameAndType 85 86), (0, u "isLatin1"), (0, u "()Z"), (13, .methodref 10 101), (0, .nameAndType 102 103), (0, u "ensureCapacityInternal"), (0, u "(I)V"), (0, .methodref 10 105), (0, .nameAndType 106 107), (0, u "newCapacity"), (0, u "(I)I"), (0, .methodref 109 110), (0, .class_ 111), (0, .nameAndType 112 113), (0, u "java/util/Arrays"), (0, u "copyOf"), (0, u "([BI)[B"), (0, .methodref 115 116), (0, .class_ 117), (0, .nameAndType 118 119), (0, u "jdk/internal/util/ArraysSupport"), (0, u "newLength"), (0, u "(III)I"), (68, u "getChars"), (19, .methodref 10 209), (0, .nameAndType 210 211), (0, u "putStringAt"), (0, u "(ILjava/lang/String;)V"), (5, u "inflateIfNeededFor"), (2, .nameAndType 221 222), (0, u "getBytes"), (0, u "([BIB)V"), (22, .methodref 36 246), (0, .nameAndType 247 107), (0, u "stringSize"), (0, .methodref 36 249), (0, .nameAndType 188 250), (0, u "(II[B)I"), (3, .methodref 255 256), (0, .class_ 257), (0, .nameAndType 247 258), (0, u "java/lang/Long"), (0, u "(J)I"), (0, .methodref 255 260), (0, .nameAndType 188 261), (0, u "(JI[B)I"), (135, .methodref 10 398), (0, .nameAndType 217 69), (0, .methodref 1 220), (3, u "()[B"), (40, .class_ 445), (0, u "java/lang/Appendable"), (65, u "(I)Ljava/lang/AbstractStringBuilder;"), (1, u "(J)Ljava/lang/AbstractStringBuilder;"), (38, u "getValue")] 56

def k13m0 : Method := { name := "<init>", desc := "()V", sig := { parameters := [], returnType := none }, accessFlags := 0, code := none }
def k13c1 : Code := { maxStack := 2, maxLocals := 2, code := jdk_68_method_2_code, exceptionTable := #[], attributes := #[] }
def k13m1 : Method := { name := "<init>", desc := "(I)V", sig := { parameters := [.int], returnType := none }, accessFlags := 0, code := some k13c1 }
def k13c2 : Code := { maxStack := 1, maxLocals := 1, code := jdk_68_method_6_code, exceptionTable := #[], attributes := #[] }
def k13m2 : Method := { name := "length", desc := "()I", sig := { parameters := [], returnType := some .int }, accessFlags := 1, code := some k13c2 }
def k13c3 : Code := { maxStack := 4, maxLocals := 3, code := jdk_68_method_9_code, exceptionTable := #[], attributes := #[] }
def k13m3 : Method := { name := "ensureCapacityInternal", desc := "(I)V", sig := { parameters := [.int], returnType := none }, accessFlags := 2, code := some k13c3 }
def k13c4 : Code := { maxStack := 5, maxLocals := 6, code := jdk_68_method_10_code, exceptionTable := #[], attributes := #[] }
def k13m4 : Method := { name := "newCapacity", desc := "(I)I", sig := { parameters := [.int], returnType := some .int }, accessFlags := 2, code := some k13c4 }
def k13c5 : Code := { maxStack := 3, maxLocals := 3, code := jdk_68_method_22_code, exceptionTable := #[], attributes := #[] }
def k13m5 : Method := { name := "append", desc := "(Ljava/lang/String;)Ljava/lang/AbstractStringBuilder;", sig := { parameters := [(.object "java/lang/String")], returnType := some (.object "java/lang/AbstractStringBuilder") }, accessFlags := 1, code := some k13c5 }
def k13c6 : Code := { maxStack := 4, maxLocals := 4, code := jdk_68_method_32_code, exceptionTable := #[], attributes := #[] }
def k13m6 : Method := { name := "append", desc := "(I)Ljava/lang/AbstractStringBuilder;", sig := { parameters := [.int], returnType := some (.object "java/lang/AbstractStringBuilder") }, accessFlags := 1, code := some k13c6 }
def k13c7 : Code := { maxStack := 5, maxLocals := 5, code := jdk_68_method_33_code, exceptionTable := #[], attributes := #[] }
def k13m7 : Method := { name := "append", desc := "(J)Ljava/lang/AbstractStringBuilder;", sig := { parameters := [.long], returnType := some (.object "java/lang/AbstractStringBuilder") }, accessFlags := 1, code := some k13c7 }
def k13c8 : Code := { maxStack := 1, maxLocals := 1, code := jdk_68_method_64_code, exceptionTable := #[], attributes := #[] }
def k13m8 : Method := { name := "getValue", desc := "()[B", sig := { parameters := [], returnType := some (.array .byte) }, accessFlags := 16, code := some k13c8 }
def k13c9 : Code := { maxStack := 1, maxLocals := 1, code := jdk_68_method_68_code, exceptionTable := #[], attributes := #[] }
def k13m9 : Method := { name := "isLatin1", desc := "()Z", sig := { parameters := [], returnType := some .boolean }, accessFlags := 16, code := some k13c9 }
def k13c10 : Code := { maxStack := 2, maxLocals := 2, code := jdk_68_method_71_code, exceptionTable := #[], attributes := #[] }
def k13m10 : Method := { name := "inflateIfNeededFor", desc := "(Ljava/lang/String;)V", sig := { parameters := [(.object "java/lang/String")], returnType := none }, accessFlags := 2, code := some k13c10 }
def k13c11 : Code := { maxStack := 4, maxLocals := 3, code := jdk_68_method_73_code, exceptionTable := #[], attributes := #[] }
def k13m11 : Method := { name := "putStringAt", desc := "(ILjava/lang/String;)V", sig := { parameters := [.int, (.object "java/lang/String")], returnType := none }, accessFlags := 2, code := some k13c11 }
/-- java/lang/AbstractStringBuilder -/
def k13 : Class := { plain "java/lang/AbstractStringBuilder" (some 0) with
  accessFlags := 1056
  interfaces := #[12, 4]
  cf := some (fileOf pool13 10 #[] #[{ accessFlags := 0, nameIndex := 7, descriptorIndex := 8, attributes := #[] }, { accessFlags := 0, nameIndex := 7, descriptorIndex := 103, attributes := #[] }, { accessFlags := 1, nameIndex := 34, descriptorIndex := 35, attributes := #[] }, { accessFlags := 2, nameIndex := 102, descriptorIndex := 103, attributes := #[] }, { accessFlags := 2, nameIndex := 106, descriptorIndex := 107, attributes := #[] }, { accessFlags := 1, nameIndex := 45, descriptorIndex := 46, attributes := #[] }, { accessFlags := 1, nameIndex := 45, descriptorIndex := 511, attributes := #[] }, { accessFlags := 1, nameIndex := 45, descriptorIndex := 513, attributes := #[] }, { accessFlags := 16, nameIndex := 552, descriptorIndex := 403, attributes := #[] }, { accessFlags := 16, nameIndex := 85, descriptorIndex := 86, attributes := #[] }, { accessFlags := 2, nameIndex := 217, descriptorIndex := 69, attributes := #[] }, { accessFlags := 2, nameIndex := 210, descriptorIndex := 211, attributes := #[] }] 1056 4 #[444, 48] #[{ accessFlags := 0, nameIndex := 17, descriptorIndex := 14, attributes := #[] }, { accessFlags := 0, nameIndex := 24, descriptorIndex := 25, attributes := #[] }, { accessFlags := 0, nameIndex := 75, descriptorIndex := 21, attributes := #[] }, { accessFlags := 0, nameIndex := 81, descriptorIndex := 82, attributes := #[] }, { accessFlags := 26, nameIndex := 13, descriptorIndex := 14, attributes := #[] }])
  fields := #[{ name := "value", type := (.array .byte), accessFlags := 0, slot := 0, constantValue := 0 }, { name := "coder", type := .byte, accessFlags := 0, slot := 1, constantValue := 0 }, { name := "maybeLatin1", type := .boolean, accessFlags := 0, slot := 2, constantValue := 0 }, { name := "count", type := .int, accessFlags := 0, slot := 3, constantValue := 0 }, { name := "EMPTYVALUE", type := (.array .byte), accessFlags := 26, slot := 0, constantValue := 0 }]
  methods := #[k13m0, k13m1, k13m2, k13m3, k13m4, k13m5, k13m6, k13m7, k13m8, k13m9, k13m10, k13m11]
  instanceTypes := #[(.array .byte), .byte, .boolean, .int]
  staticTypes := #[(.array .byte)]
  resolved := Array.replicate 609 none
  statics := none }

def pool14 : Array CpInfo := pool [(1, .methodref 2 3), (0, .class_ 4), (0, .nameAndType 5 6), (0, u "java/lang/AbstractStringBuilder"), (0, u "<init>"), (0, u "(I)V"), (11, .class_ 20), (1, u "java/lang/String"), (3, .class_ 26), (1, u "java/lang/StringBuilder"), (0, u "append"), (0, u "(Ljava/lang/String;)Ljava/lang/StringBuilder;"), (0, .methodref 2 30), (0, .nameAndType 27 31), (0, u "(Ljava/lang/String;)Ljava/lang/AbstractStringBuilder;"), (21, .methodref 2 54), (0, .nameAndType 27 55), (0, u "(I)Ljava/lang/AbstractStringBuilder;"), (0, .methodref 2 57), (0, .nameAndType 27 58), (0, u "(J)Ljava/lang/AbstractStringBuilder;"), (78, .methodref 18 138), (0, .nameAndType 5 139), (0, u "(Ljava/lang/StringBuilder;)V"), (5, u "()V"), (10, u "()I"), (111, u "(I)Ljava/lang/StringBuilder;"), (12, u "(J)Ljava/lang/StringBuilder;"), (61, .methodref 2 344), (0, .nameAndType 345 156), (0, u "length"), (3, .class_ 350), (0, u "java/lang/Appendable"), (0, .class_ 352), (0, u "java/io/Serializable"), (0, .class_ 354), (0, u "java/lang/Comparable"), (0, .class_ 356), (0, u "java/lang/CharSequence"), (0, u "serialVersionUID"), (0, u "J"), (40, u "toString"), (0, u "()Ljava/lang/String;")] 21

def k14c0 : Code := { maxStack := 2, maxLocals := 1, code := jdk_67_method_1_code, exceptionTable := #[], attributes := #[] }
def k14m0 : Method := { name := "<init>", desc := "()V", sig := { parameters := [], returnType := none }, accessFlags := 1, code := some k14c0 }
def k14c1 : Code := { maxStack := 2, maxLocals := 2, code := jdk_67_method_7_code, exceptionTable := #[], attributes := #[] }
def k14m1 : Method := { name := "append", desc := "(Ljava/lang/String;)Ljava/lang/StringBuilder;", sig := { parameters := [(.object "java/lang/String")], returnType := some (.object "java/lang/StringBuilder") }, accessFlags := 1, code := some k14c1 }
def k14c2 : Code := { maxStack := 2, maxLocals := 2, code := jdk_67_method_15_code, exceptionTable := #[], attributes := #[] }
def k14m2 : Method := { name := "append", desc := "(I)Ljava/lang/StringBuilder;", sig := { parameters := [.int], returnType := some (.object "java/lang/StringBuilder") }, accessFlags := 1, code := some k14c2 }
def k14c3 : Code := { maxStack := 3, maxLocals := 3, code := jdk_67_method_16_code, exceptionTable := #[], attributes := #[] }
def k14m3 : Method := { name := "append", desc := "(J)Ljava/lang/StringBuilder;", sig := { parameters := [.long], returnType := some (.object "java/lang/StringBuilder") }, accessFlags := 1, code := some k14c3 }
def k14c4 : Code := { maxStack := 3, maxLocals := 1, code := jdk_67_method_42_code, exceptionTable := #[], attributes := #[] }
def k14m4 : Method := { name := "toString", desc := "()Ljava/lang/String;", sig := { parameters := [], returnType := some (.object "java/lang/String") }, accessFlags := 1, code := some k14c4 }
def k14c5 : Code := { maxStack := 1, maxLocals := 1, code := jdk_67_method_93_code, exceptionTable := #[], attributes := #[] }
def k14m5 : Method := { name := "length", desc := "()I", sig := { parameters := [], returnType := some .int }, accessFlags := 4161, code := some k14c5 }
/-- java/lang/StringBuilder -/
def k14 : Class := { plain "java/lang/StringBuilder" (some 13) with
  accessFlags := 49
  interfaces := #[12, 2, 3, 4]
  cf := some (fileOf pool14 24 #[] #[{ accessFlags := 1, nameIndex := 5, descriptorIndex := 145, attributes := #[] }, { accessFlags := 1, nameIndex := 27, descriptorIndex := 28, attributes := #[] }, { accessFlags := 1, nameIndex := 27, descriptorIndex := 268, attributes := #[] }, { accessFlags := 1, nameIndex := 27, descriptorIndex := 281, attributes := #[] }, { accessFlags := 1, nameIndex := 399, descriptorIndex := 400, attributes := #[] }, { accessFlags := 4161, nameIndex := 345, descriptorIndex := 156, attributes := #[] }] 49 2 #[349, 351, 353, 355] #[{ accessFlags := 24, nameIndex := 357, descriptorIndex := 358, attributes := #[] }])
  fields := #[{ name := "serialVersionUID", type := .long, accessFlags := 24, slot := 0, constantValue := 0 }]
  methods := #[k14m0, k14m1, k14m2, k14m3, k14m4, k14m5]
  instanceTypes := #[(.array .byte), .byte, .boolean, .int]
  staticTypes := #[.long]
  resolved := Array.replicate 422 none
  statics := none }

def pool15 : Array CpInfo := pool [(2, .class_ 4), (1, u "java/lang/Object"), (0, u "<init>"), (0, u "()V"), (1, .class_ 10), (1, u "java/lang/System"), (0, u "allowSecurityManager"), (0, u "I"), (16, u "cons"), (0, u "Ljava/io/Console;"), (77, .class_ 110), (1, u "java/lang/System$CallersHolder"), (43, u "initialErrStream"), (0, u "Ljava/io/PrintStream;"), (19, u "security"), (0, u "Ljava/lang/SecurityManager;"), (31, .class_ 209), (0, u "java/lang/System$1"), (7, u "props"), (0, u "Ljava/util/Properties;"), (2, u "lineSeparator"), (0, u "Ljava/lang/String;"), (96, .class_ 321), (1, u "java/lang/System$LoggerFinder"), (5, .class_ 328), (0, u "java/lang/System$Logger"), (67, u "err"), (2, u "out"), (91, u "notSupportedJnuEncoding"), (15, u "in"), (17, u "initialIn"), (0, u "Ljava/io/InputStream;"), (35, u "bootLayer"), (0, u "Ljava/lang/ModuleLayer;"), (99, .class_ 664), (0, u "java/lang/System$2"), (9, u "NEVER"), (2, u "MAYBE"), (49, u "arraycopy"), (0, u "(Ljava/lang/Object;ILjava/lang/Object;II)V"), (72, .class_ 802), (0, u "java/lang/System$Logger$Level")] 31

def k15m0 : Method := { name := "<init>", desc := "()V", sig := { parameters := [], returnType := none }, accessFlags := 2, code := none }
def k15m1 : Method := { name := "arraycopy", desc := "(Ljava/lang/Object;ILjava/lang/Object;II)V", sig := { parameters := [(.object "java/lang/Object"), .int, (.object "java/lang/Object"), .int, .int], returnType := none }, accessFlags := 265, code := none }
/-- java/lang/System -/
def k15 : Class := { plain "java/lang/System" (some 0) with
  accessFlags := 49
  interfaces := #[]
  cf := some (fileOf pool15 8 #[.nestMembers #[319, 327, 801, 108, 663, 208]] #[{ accessFlags := 2, nameIndex := 5, descriptorIndex := 6, attributes := #[] }, { accessFlags := 265, nameIndex := 727, descriptorIndex := 728, attributes := #[] }] 49 2 #[] #[{ accessFlags := 25, nameIndex := 507, descriptorIndex := 526, attributes := #[] }, { accessFlags := 25, nameIndex := 399, descriptorIndex := 155, attributes := #[] }, { accessFlags := 25, nameIndex := 396, descriptorIndex := 155, attributes := #[] }, { accessFlags := 10, nameIndex := 525, descriptorIndex := 526, attributes := #[] }, { accessFlags := 26, nameIndex := 674, descriptorIndex := 12, attributes := #[] }, { accessFlags := 26, nameIndex := 677, descriptorIndex := 12, attributes := #[] }, { accessFlags := 10, nameIndex := 11, descriptorIndex := 12, attributes := #[] }, { accessFlags := 74, nameIndex := 175, descriptorIndex := 176, attributes := #[] }, { accessFlags := 10, nameIndex := 491, descriptorIndex := 222, attributes := #[] }, { accessFlags := 74, nameIndex := 29, descriptorIndex := 30, attributes := #[] }, { accessFlags := 74, nameIndex := 154, descriptorIndex := 155, attributes := #[] }, { accessFlags := 10, nameIndex := 217, descriptorIndex := 218, attributes := #[] }, { accessFlags := 10, nameIndex := 221, descriptorIndex := 222, attributes := #[] }, { accessFlags := 8, nameIndex := 562, descriptorIndex := 563, attributes := #[] }])
  fields := #[{ name := "in", type := (.object "java/io/InputStream"), accessFlags := 25, slot := 0, constantValue := 0 }, { name := "out", type := (.object "java/io/PrintStream"), accessFlags := 25, slot := 1, constantValue := 0 }, { name := "err", type := (.object "java/io/PrintStream"), accessFlags := 25, slot := 2, constantValue := 0 }, { name := "initialIn", type := (.object "java/io/InputStream"), accessFlags := 10, slot := 3, constantValue := 0 }, { name := "NEVER", type := .int, accessFlags := 26, slot := 4, constantValue := 0 }, { name := "MAYBE", type := .int, accessFlags := 26, slot := 5, constantValue := 0 }, { name := "allowSecurityManager", type := .int, accessFlags := 10, slot := 6, constantValue := 0 }, { name := "security", type := (.object "java/lang/SecurityManager"), accessFlags := 74, slot := 7, constantValue := 0 }, { name := "notSupportedJnuEncoding", type := (.object "java/lang/String"), accessFlags := 10, slot := 8, constantValue := 0 }, { name := "cons", type := (.object "java/io/Console"), accessFlags := 74, slot := 9, constantValue := 0 }, { name := "initialErrStream", type := (.object "java/io/PrintStream"), accessFlags := 74, slot := 10, constantValue := 0 }, { name := "props", type := (.object "java/util/Properties"), accessFlags := 10, slot := 11, constantValue := 0 }, { name := "lineSeparator", type := (.object "java/lang/String"), accessFlags := 10, slot := 12, constantValue := 0 }, { name := "bootLayer", type := (.object "java/lang/ModuleLayer"), accessFlags := 8, slot := 13, constantValue := 0 }]
  methods := #[k15m0, k15m1]
  instanceTypes := #[]
  staticTypes := #[(.object "java/io/InputStream"), (.object "java/io/PrintStream"), (.object "java/io/PrintStream"), (.object "java/io/InputStream"), .int, .int, .int, (.object "java/lang/SecurityManager"), (.object "java/lang/String"), (.object "java/io/Console"), (.object "java/io/PrintStream"), (.object "java/util/Properties"), (.object "java/lang/String"), (.object "java/lang/ModuleLayer")]
  resolved := Array.replicate 834 none
  statics := none }

def pool16 : Array CpInfo := pool [(2, .class_ 4), (1, u "java/lang/Object"), (0, u "<init>"), (0, u "()V"), (1, .class_ 10), (1, u "java/lang/Number"), (2, .class_ 14), (0, u "java/io/Serializable"), (0, u "serialVersionUID"), (0, u "J")] 20

def k16m0 : Method := { name := "<init>", desc := "()V", sig := { parameters := [], returnType := none }, accessFlags := 1, code := none }
/-- java/lang/Number -/
def k16 : Class := { plain "java/lang/Number" (some 0) with
  accessFlags := 1057
  interfaces := #[2]
  cf := some (fileOf pool16 8 #[] #[{ accessFlags := 1, nameIndex := 5, descriptorIndex := 6, attributes := #[] }] 1057 2 #[13] #[{ accessFlags := 26, nameIndex := 15, descriptorIndex := 16, attributes := #[] }])
  fields := #[{ name := "serialVersionUID", type := .long, accessFlags := 26, slot := 0, constantValue := 0 }]
  methods := #[k16m0]
  instanceTypes := #[]
  staticTypes := #[.long]
  resolved := Array.replicate 37 none
  statics := none }

def pool17 : Array CpInfo := pool [(1, .class_ 2), (0, u "java/lang/Long"), (15, .class_ 20), (1, u "java/lang/Integer"), (32, .long 10), (47, u "(J)I"), (18, u "stringSize"), (2, u "getChars"), (0, u "(JI[B)I"), (4, .long 18446744071562067968), (1, .long 100), (1, .fieldref 18 134), (0, .nameAndType 135 136), (0, u "DigitOnes"), (0, u "[B"), (0, .fieldref 18 138), (0, .nameAndType 139 136), (0, u "DigitTens"), (0, .long 18446744073709551606), (94, .class_ 237), (1, u "java/lang/Long$LongCache"), (33, .class_ 272), (0, u "java/lang/Number"), (2, u "value"), (0, u "J"), (84, u "TYPE"), (0, u "Ljava/lang/Class;"), (0, .class_ 364), (0, u "java/lang/Comparable"), (0, .class_ 366), (0, u "java/lang/constant/Constable"), (0, .class_ 368), (0, u "java/lang/constant/ConstantDesc"), (0, u "MIN_VALUE"), (1, u "MAX_VALUE"), (4, u "SIZE"), (0, u "I"), (1, u "BYTES"), (1, u "serialVersionUID")] 142

def k17c0 : Code := { maxStack := 4, maxLocals := 11, code := jdk_35_method_14_code, exceptionTable := #[], attributes := #[] }
def k17m0 : Method := { name := "getChars", desc := "(JI[B)I", sig := { parameters := [.long, .int, (.array .byte)], returnType := some .int }, accessFlags := 8, code := some k17c0 }
def k17c1 : Code := { maxStack := 4, maxLocals := 6, code := jdk_35_method_15_code, exceptionTable := #[], attributes := #[] }
def k17m1 : Method := { name := "stringSize", desc := "(J)I", sig := { parameters := [.long], returnType := some .int }, accessFlags := 8, code := some k17c1 }
/-- java/lang/Long -/
def k17 : Class := { plain "java/lang/Long" (some 16) with
  accessFlags := 49
  interfaces := #[3, 5, 6]
  cf := some (fileOf pool17 1 #[.nestMembers #[235]] #[{ accessFlags := 8, nameIndex := 123, descriptorIndex := 124, attributes := #[] }, { accessFlags := 8, nameIndex := 120, descriptorIndex := 101, attributes := #[] }] 49 271 #[363, 365, 367] #[{ accessFlags := 25, nameIndex := 369, descriptorIndex := 276, attributes := #[] }, { accessFlags := 25, nameIndex := 371, descriptorIndex := 276, attributes := #[] }, { accessFlags := 25, nameIndex := 361, descriptorIndex := 362, attributes := #[] }, { accessFlags := 18, nameIndex := 275, descriptorIndex := 276, attributes := #[] }, { accessFlags := 25, nameIndex := 376, descriptorIndex := 377, attributes := #[] }, { accessFlags := 25, nameIndex := 379, descriptorIndex := 377, attributes := #[] }, { accessFlags := 26, nameIndex := 381, descriptorIndex := 276, attributes := #[] }])
  fields := #[{ name := "MIN_VALUE", type := .long, accessFlags := 25, slot := 0, constantValue := 0 }, { name := "MAX_VALUE", type := .long, accessFlags := 25, slot := 1, constantValue := 0 }, { name := "TYPE", type := (.object "java/lang/Class"), accessFlags := 25, slot := 2, constantValue := 0 }, { name := "value", type := .long, accessFlags := 18, slot := 0, constantValue := 0 }, { name := "SIZE", type := .int, accessFlags := 25, slot := 3, constantValue := 0 }, { name := "BYTES", type := .int, accessFlags := 25, slot := 4, constantValue := 0 }, { name := "serialVersionUID", type := .long, accessFlags := 26, slot := 5, constantValue := 0 }]
  methods := #[k17m0, k17m1]
  instanceTypes := #[.long]
  staticTypes := #[.long, .long, (.object "java/lang/Class"), .int, .int, .long]
  resolved := Array.replicate 524 none
  statics := none }

def pool18 : Array CpInfo := pool [(9, u "<init>"), (6, .class_ 18), (1, u "java/lang/Object"), (0, u "()V"), (1, .class_ 23), (1, u "jdk/internal/util/ArraysSupport"), (0, u "LOG2_ARRAY_LONG_INDEX_SCALE"), (0, u "I"), (2, u "U"), (0, u "Ljdk/internal/misc/Unsafe;"), (8, u "BIG_ENDIAN"), (0, u "Z"), (8, u "LOG2_BYTE_BIT_SIZE"), (4, u "LOG2_ARRAY_INT_INDEX_SCALE"), (54, u "JLA"), (0, u "Ljdk/internal/access/JavaLangAccess;"), (11, u "LOG2_ARRAY_BOOLEAN_INDEX_SCALE"), (9, u "LOG2_ARRAY_BYTE_INDEX_SCALE"), (5, u "LOG2_ARRAY_CHAR_INDEX_SCALE"), (5, u "LOG2_ARRAY_SHORT_INDEX_SCALE"), (18, u "LOG2_ARRAY_FLOAT_INDEX_SCALE"), (24, u "LOG2_ARRAY_DOUBLE_INDEX_SCALE"), (6, .methodref 195 196), (0, .class_ 197), (0, .nameAndType 198 199), (0, u "java/lang/Math"), (0, u "max"), (0, u "(II)I"), (0, .integer 2147483639), (76, u "T_BOOLEAN"), (2, u "T_CHAR"), (1, u "T_FLOAT"), (1, u "T_DOUBLE"), (1, u "T_BYTE"), (1, u "T_SHORT"), (1, u "T_INT"), (1, u "T_LONG"), (1, u "SOFT_MAX_ARRAY_LENGTH"), (56, u "newLength"), (0, u "(III)I")] 25

def k18m0 : Method := { name := "<init>", desc := "()V", sig := { parameters := [], returnType := none }, accessFlags := 2, code := none }
def k18c1 : Code := { maxStack := 3, maxLocals := 4, code := jdk_48_method_27_code, exceptionTable := #[], attributes := #[] }
def k18m1 : Method := { name := "newLength", desc := "(III)I", sig := { parameters := [.int, .int, .int], returnType := some .int }, accessFlags := 9, code := some k18c1 }
/-- jdk/internal/util/ArraysSupport -/
def k18 : Class := { plain "jdk/internal/util/ArraysSupport" (some 0) with
  accessFlags := 33
  interfaces := #[]
  cf := some (fileOf pool18 21 #[] #[{ accessFlags := 2, nameIndex := 9, descriptorIndex := 19, attributes := #[] }, { accessFlags := 9, nameIndex := 351, descriptorIndex := 352, attributes := #[] }] 33 16 #[] #[{ accessFlags := 24, nameIndex := 28, descriptorIndex := 29, attributes := #[] }, { accessFlags := 26, nameIndex := 38, descriptorIndex := 39, attributes := #[] }, { accessFlags := 25, nameIndex := 121, descriptorIndex := 25, attributes := #[] }, { accessFlags := 25, nameIndex := 131, descriptorIndex := 25, attributes := #[] }, { accessFlags := 25, nameIndex := 137, descriptorIndex := 25, attributes := #[] }, { accessFlags := 25, nameIndex := 143, descriptorIndex := 25, attributes := #[] }, { accessFlags := 25, nameIndex := 53, descriptorIndex := 25, attributes := #[] }, { accessFlags := 25, nameIndex := 24, descriptorIndex := 25, attributes := #[] }, { accessFlags := 25, nameIndex := 162, descriptorIndex := 25, attributes := #[] }, { accessFlags := 25, nameIndex := 187, descriptorIndex := 25, attributes := #[] }, { accessFlags := 26, nameIndex := 48, descriptorIndex := 25, attributes := #[] }, { accessFlags := 25, nameIndex := 277, descriptorIndex := 25, attributes := #[] }, { accessFlags := 25, nameIndex := 280, descriptorIndex := 25, attributes := #[] }, { accessFlags := 25, nameIndex := 282, descriptorIndex := 25, attributes := #[] }, { accessFlags := 25, nameIndex := 284, descriptorIndex := 25, attributes := #[] }, { accessFlags := 25, nameIndex := 286, descriptorIndex := 25, attributes := #[] }, { accessFlags := 25, nameIndex := 288, descriptorIndex := 25, attributes := #[] }, { accessFlags := 25, nameIndex := 290, descriptorIndex := 25, attributes := #[] }, { accessFlags := 25, nameIndex := 292, descriptorIndex := 25, attributes := #[] }, { accessFlags := 26, nameIndex := 108, descriptorIndex := 109, attributes := #[] }, { accessFlags := 25, nameIndex := 294, descriptorIndex := 25, attributes := #[] }])
  fields := #[{ name := "U", type := (.object "jdk/internal/misc/Unsafe"), accessFlags := 24, slot := 0, constantValue := 0 }, { name := "BIG_ENDIAN", type := .boolean, accessFlags := 26, slot := 1, constantValue := 0 }, { name := "LOG2_ARRAY_BOOLEAN_INDEX_SCALE", type := .int, accessFlags := 25, slot := 2, constantValue := 0 }, { name := "LOG2_ARRAY_BYTE_INDEX_SCALE", type := .int, accessFlags := 25, slot := 3, constantValue := 0 }, { name := "LOG2_ARRAY_CHAR_INDEX_SCALE", type := .int, accessFlags := 25, slot := 4, constantValue := 0 }, { name := "LOG2_ARRAY_SHORT_INDEX_SCALE", type := .int, accessFlags := 25, slot := 5, constantValue := 0 }, { name := "LOG2_ARRAY_INT_INDEX_SCALE", type := .int, accessFlags := 25, slot := 6, constantValue := 0 }, { name := "LOG2_ARRAY_LONG_INDEX_SCALE", type := .int, accessFlags := 25, slot := 7, constantValue := 0 }, { name := "LOG2_ARRAY_FLOAT_INDEX_SCALE", type := .int, accessFlags := 25, slot := 8, constantValue := 0 }, { name := "LOG2_ARRAY_DOUBLE_INDEX_SCALE", type := .int, accessFlags := 25, slot := 9, constantValue := 0 }, { name := "LOG2_BYTE_BIT_SIZE", type := .int, accessFlags := 26, slot := 10, constantValue := 0 }, { name := "T_BOOLEAN", type := .int, accessFlags := 25, slot := 11, constantValue := 0 }, { name := "T_CHAR", type := .int, accessFlags := 25, slot := 12, constantValue := 0 }, { name := "T_FLOAT", type := .int, accessFlags := 25, slot := 13, constantValue := 0 }, { name := "T_DOUBLE", type := .int, accessFlags := 25, slot := 14, constantValue := 0 }, { name := "T_BYTE", type := .int, accessFlags := 25, slot := 15, constantValue := 0 }, { name := "T_SHORT", type := .int, accessFlags := 25, slot := 16, constantValue := 0 }, { name := "T_INT", type := .int, accessFlags := 25, slot := 17, constantValue := 0 }, { name := "T_LONG", type := .int, accessFlags := 25, slot := 18, constantValue := 0 }, { name := "JLA", type := (.object "jdk/internal/access/JavaLangAccess"), accessFlags := 26, slot := 19, constantValue := 0 }, { name := "SOFT_MAX_ARRAY_LENGTH", type := .int, accessFlags := 25, slot := 20, constantValue := 0 }]
  methods := #[k18m0, k18m1]
  instanceTypes := #[]
  staticTypes := #[(.object "jdk/internal/misc/Unsafe"), .boolean, .int, .int, .int, .int, .int, .int, .int, .int, .int, .int, .int, .int, .int, .int, .int, .int, .int, (.object "jdk/internal/access/JavaLangAccess"), .int]
  resolved := Array.replicate 378 none
  statics := none }

def pool19 : Array CpInfo := pool [(1, .class_ 2), (0, u "java/lang/Math"), (1, .class_ 6), (1, u "java/lang/Object"), (0, u "<init>"), (0, u "()V"), (89, .class_ 100), (1, u "java/lang/Math$RandomNumberGeneratorHolder"), (71, u "negativeZeroFloatBits"), (0, u "J"), (2, u "negativeZeroDoubleBits"), (21, u "max"), (2, u "min"), (43, u "$assertionsDisabled"), (0, u "Z"), (88, u "(II)I"), (2, u "twoToTheDoubleScaleDown"), (0, u "D"), (4, u "twoToTheDoubleScaleUp"), (9, u "E"), (3, u "PI"), (2, u "TAU"), (2, u "DEGREES_TO_RADIANS"), (0, u "RADIANS_TO_DEGREES")] 94

def k19m0 : Method := { name := "<init>", desc := "()V", sig := { parameters := [], returnType := none }, accessFlags := 2, code := none }
def k19c1 : Code := { maxStack := 2, maxLocals := 2, code := jdk_29_method_65_code, exceptionTable := #[], attributes := #[] }
def k19m1 : Method := { name := "max", desc := "(II)I", sig := { parameters := [.int, .int], returnType := some .int }, accessFlags := 9, code := some k19c1 }
def k19c2 : Code := { maxStack := 2, maxLocals := 2, code := jdk_29_method_69_code, exceptionTable := #[], attributes := #[] }
def k19m2 : Method := { name := "min", desc := "(II)I", sig := { parameters := [.int, .int], returnType := some .int }, accessFlags := 9, code := some k19c2 }
/-- java/lang/Math -/
def k19 : Class := { plain "java/lang/Math" (some 0) with
  accessFlags := 49
  interfaces := #[]
  cf := some (fileOf pool19 1 #[.nestMembers #[98]] #[{ accessFlags := 2, nameIndex := 7, descriptorIndex := 8, attributes := #[] }, { accessFlags := 9, nameIndex := 198, descriptorIndex := 335, attributes := #[] }, { accessFlags := 9, nameIndex := 201, descriptorIndex := 335, attributes := #[] }] 49 4 #[] #[{ accessFlags := 25, nameIndex := 354, descriptorIndex := 339, attributes := #[] }, { accessFlags := 25, nameIndex := 358, descriptorIndex := 339, attributes := #[] }, { accessFlags := 25, nameIndex := 361, descriptorIndex := 339, attributes := #[] }, { accessFlags := 26, nameIndex := 364, descriptorIndex := 339, attributes := #[] }, { accessFlags := 26, nameIndex := 365, descriptorIndex := 339, attributes := #[] }, { accessFlags := 26, nameIndex := 172, descriptorIndex := 173, attributes := #[] }, { accessFlags := 26, nameIndex := 176, descriptorIndex := 173, attributes := #[] }, { accessFlags := 8, nameIndex := 344, descriptorIndex := 339, attributes := #[] }, { accessFlags := 8, nameIndex := 338, descriptorIndex := 339, attributes := #[] }, { accessFlags := 4120, nameIndex := 245, descriptorIndex := 246, attributes := #[] }])
  fields := #[{ name := "E", type := .double, accessFlags := 25, slot := 0, constantValue := 0 }, { name := "PI", type := .double, accessFlags := 25, slot := 1, constantValue := 0 }, { name := "TAU", type := .double, accessFlags := 25, slot := 2, constantValue := 0 }, { name := "DEGREES_TO_RADIANS", type := .double, accessFlags := 26, slot := 3, constantValue := 0 }, { name := "RADIANS_TO_DEGREES", type := .double, accessFlags := 26, slot := 4, constantValue := 0 }, { name := "negativeZeroFloatBits", type := .long, accessFlags := 26, slot := 5, constantValue := 0 }, { name := "negativeZeroDoubleBits", type := .long, accessFlags := 26, slot := 6, constantValue := 0 }, { name := "twoToTheDoubleScaleUp", type := .double, accessFlags := 8, slot := 7, constantValue := 0 }, { name := "twoToTheDoubleScaleDown", type := .double, accessFlags := 8, slot := 8, constantValue := 0 }, { name := "$assertionsDisabled", type := .boolean, accessFlags := 4120, slot := 9, constantValue := 0 }]
  methods := #[k19m0, k19m1, k19m2]
  instanceTypes := #[]
  staticTypes := #[.double, .double, .double, .double, .double, .long, .long, .double, .double, .boolean]
  resolved := Array.replicate 460 none
  statics := none }

def pool20 : Array CpInfo := pool [(2, .class_ 4), (1, u "java/lang/Object"), (0, u "<init>"), (0, u "()V"), (7, .class_ 16), (1, u "java/util/Arrays"), (57, .class_ 76), (1, u "java/util/Arrays$NaturalOrder"), (32, u "()Ljava/lang/Object;"), (3, .class_ 115), (1, u "java/util/Arrays$LegacyMergeSort"), (1, u "Z"), (10, .nameAndType 129 109), (0, u "clone"), (9, u "copyOfRange"), (10, .methodref 151 152), (0, .class_ 153), (0, .nameAndType 154 155), (0, u "java/lang/System"), (0, u "arraycopy"), (0, u "(Ljava/lang/Object;ILjava/lang/Object;II)V"), (146, u "copyOf"), (1, .methodref 305 306), (0, .class_ 307), (0, .nameAndType 308 309), (0, u "java/lang/Math"), (0, u "min"), (0, u "(II)I"), (0, .methodref 311 128), (0, .class_ 312), (0, u "[B"), (26, .methodref 14 340), (0, .nameAndType 341 342), (0, u "copyOfRangeByte"), (0, u "([BII)[B"), (0, .methodref 14 344), (0, .nameAndType 345 346), (0, u "checkLength"), (0, u "(II)V"), (28, .class_ 376), (0, u "java/util/Arrays$ArrayList"), (68, u "$assertionsDisabled"), (269, u "MIN_ARRAY_SORT_GRAN"), (0, u "I"), (2, u "INSERTIONSORT_THRESHOLD"), (149, u "([BI)[B"), (105, .class_ 976), (0, u "java/util/Arrays$ArrayItr")] 52

def k20m0 : Method := { name := "<init>", desc := "()V", sig := { parameters := [], returnType := none }, accessFlags := 2, code := none }
def k20c1 : Code := { maxStack := 6, maxLocals := 3, code := jdk_65_method_121_code, exceptionTable := #[], attributes := #[] }
def k20m1 : Method := { name := "copyOf", desc := "([BI)[B", sig := { parameters := [(.array .byte), .int], returnType := some (.array .byte) }, accessFlags := 9, code := some k20c1 }
def k20c2 : Code := { maxStack := 4, maxLocals := 2, code := jdk_65_method_131_code, exceptionTable := #[], attributes := #[] }
def k20m2 : Method := { name := "checkLength", desc := "(II)V", sig := { parameters := [.int, .int], returnType := none }, accessFlags := 10, code := some k20c2 }
def k20c3 : Code := { maxStack := 3, maxLocals := 3, code := jdk_65_method_132_code, exceptionTable := #[], attributes := #[] }
def k20m3 : Method := { name := "copyOfRange", desc := "([BII)[B", sig := { parameters := [(.array .byte), .int, .int], returnType := some (.array .byte) }, accessFlags := 9, code := some k20c3 }
def k20c4 : Code := { maxStack := 6, maxLocals := 5, code := jdk_65_method_133_code, exceptionTable := #[], attributes := #[] }
def k20m4 : Method := { name := "copyOfRangeByte", desc := "([BII)[B", sig := { parameters := [(.array .byte), .int, .int], returnType := some (.array .byte) }, accessFlags := 10, code := some k20c4 }
/-- java/util/Arrays -/
def k20 : Class := { plain "java/util/Arrays" (some 0) with
  accessFlags := 49
  interfaces := #[]
  cf := some (fileOf pool20 14 #[.nestMembers #[975, 375, 113, 74]] #[{ accessFlags := 2, nameIndex := 5, descriptorIndex := 6, attributes := #[] }, { accessFlags := 9, nameIndex := 302, descriptorIndex := 869, attributes := #[] }, { accessFlags := 10, nameIndex := 345, descriptorIndex := 346, attributes := #[] }, { accessFlags := 9, nameIndex := 139, descriptorIndex := 342, attributes := #[] }, { accessFlags := 10, nameIndex := 341, descriptorIndex := 342, attributes := #[] }] 49 2 #[] #[{ accessFlags := 26, nameIndex := 715, descriptorIndex := 716, attributes := #[] }, { accessFlags := 26, nameIndex := 719, descriptorIndex := 716, attributes := #[] }, { accessFlags := 4120, nameIndex := 445, descriptorIndex := 117, attributes := #[] }])
  fields := #[{ name := "MIN_ARRAY_SORT_GRAN", type := .int, accessFlags := 26, slot := 0, constantValue := 0 }, { name := "INSERTIONSORT_THRESHOLD", type := .int, accessFlags := 26, slot := 1, constantValue := 0 }, { name := "$assertionsDisabled", type := .boolean, accessFlags := 4120, slot := 2, constantValue := 0 }]
  methods := #[k20m0, k20m1, k20m2, k20m3, k20m4]
  instanceTypes := #[]
  staticTypes := #[.int, .int, .boolean]
  resolved := Array.replicate 1029 none
  statics := none }

def pool21 : Array CpInfo := pool [(1, .class_ 2), (0, u "java/lang/Integer"), (16, u "digits"), (0, u "[C"), (33, u "(I)I"), (19, u "stringSize"), (2, u "getChars"), (0, u "(II[B)I"), (4, .fieldref 1 84), (0, .nameAndType 85 86), (0, u "DigitOnes"), (0, u "[B"), (0, .fieldref 1 88), (0, .nameAndType 89 86), (0, u "DigitTens"), (99, .class_ 190), (0, u "java/lang/Integer$IntegerCache"), (3, u "I"), (8, .class_ 204), (0, u "java/lang/Number"), (2, u "value"), (94, u "TYPE"), (0, u "Ljava/lang/Class;"), (0, .class_ 305), (0, u "java/lang/Comparable"), (0, .class_ 307), (0, u "java/lang/constant/Constable"), (0, .class_ 309), (0, u "java/lang/constant/ConstantDesc"), (0, u "MIN_VALUE"), (1, u "MAX_VALUE"), (3, u "SIZE"), (1, u "BYTES"), (1, u "serialVersionUID"), (0, u "J")] 131

def k21c0 : Code := { maxStack := 4, maxLocals := 7, code := jdk_33_method_12_code, exceptionTable := #[], attributes := #[] }
def k21m0 : Method := { name := "getChars", desc := "(II[B)I", sig := { parameters := [.int, .int, (.array .byte)], returnType := some .int }, accessFlags := 8, code := some k21c0 }
def k21c1 : Code := { maxStack := 2, maxLocals := 4, code := jdk_33_method_13_code, exceptionTable := #[], attributes := #[] }
def k21m1 : Method := { name := "stringSize", desc := "(I)I", sig := { parameters := [.int], returnType := some .int }, accessFlags := 8, code := some k21c1 }
/-- java/lang/Integer -/
def k21 : Class := { plain "java/lang/Integer" (some 16) with
  accessFlags := 49
  interfaces := #[3, 5, 6]
  cf := some (fileOf pool21 1 #[.nestMembers #[189]] #[{ accessFlags := 8, nameIndex := 77, descriptorIndex := 78, attributes := #[] }, { accessFlags := 8, nameIndex := 74, descriptorIndex := 54, attributes := #[] }] 49 203 #[304, 306, 308] #[{ accessFlags := 25, nameIndex := 310, descriptorIndex := 194, attributes := #[] }, { accessFlags := 25, nameIndex := 312, descriptorIndex := 194, attributes := #[] }, { accessFlags := 25, nameIndex := 302, descriptorIndex := 303, attributes := #[] }, { accessFlags := 24, nameIndex := 19, descriptorIndex := 20, attributes := #[] }, { accessFlags := 24, nameIndex := 89, descriptorIndex := 86, attributes := #[] }, { accessFlags := 24, nameIndex := 85, descriptorIndex := 86, attributes := #[] }, { accessFlags := 18, nameIndex := 207, descriptorIndex := 194, attributes := #[] }, { accessFlags := 25, nameIndex := 316, descriptorIndex := 194, attributes := #[] }, { accessFlags := 25, nameIndex := 318, descriptorIndex := 194, attributes := #[] }, { accessFlags := 26, nameIndex := 320, descriptorIndex := 321, attributes := #[] }])
  fields := #[{ name := "MIN_VALUE", type := .int, accessFlags := 25, slot := 0, constantValue := 0 }, { name := "MAX_VALUE", type := .int, accessFlags := 25, slot := 1, constantValue := 0 }, { name := "TYPE", type := (.object "java/lang/Class"), accessFlags := 25, slot := 2, constantValue := 0 }, { name := "digits", type := (.array .char), accessFlags := 24, slot := 3, constantValue := 0 }, { name := "DigitTens", type := (.array .byte), accessFlags := 24, slot := 4, constantValue := 0 }, { name := "DigitOnes", type := (.array .byte), accessFlags := 24, slot := 5, constantValue := 0 }, { name := "value", type := .int, accessFlags := 18, slot := 0, constantValue := 0 }, { name := "SIZE", type := .int, accessFlags := 25, slot := 6, constantValue := 0 }, { name := "BYTES", type := .int, accessFlags := 25, slot := 7, constantValue := 0 }, { name := "serialVersionUID", type := .long, accessFlags := 26, slot := 8, constantValue := 0 }]
  methods := #[k21m0, k21m1]
  instanceTypes := #[.int]
  staticTypes := #[.int, .int, (.object "java/lang/Class"), (.array .char), (.array .byte), (.array .byte), .int, .int, .long]
  resolved := Array.replicate 453 none
  statics := some 1 }

def pool22 : Array CpInfo := pool [(1, .class_ 2), (0, u "java/lang/String"), (1, .class_ 6), (1, u "java/lang/Object"), (0, u "<init>"), (0, u "()V"), (0, .methodref 1 10), (0, .nameAndType 11 12), (0, u "checkIndex"), (0, u "(II)V"), (1, .class_ 16), (1, u "java/lang/StringLatin1"), (36, u "([BI)C"), (67, u "$assertionsDisabled"), (0, u "Z"), (98, .class_ 223), (1, u "java/lang/StringLatin1$LinesSpliterator"), (28, u "charAt"), (137, .class_ 391), (0, u "java/lang/StringLatin1$CharsSpliterator")] 3

def k22m0 : Method := { name := "<init>", desc := "()V", sig := { parameters := [], returnType := none }, accessFlags := 0, code := none }
def k22c1 : Code := { maxStack := 2, maxLocals := 2, code := jdk_43_method_2_code, exceptionTable := #[], attributes := #[] }
def k22m1 : Method := { name := "charAt", desc := "([BI)C", sig := { parameters := [(.array .byte), .int], returnType := some .char }, accessFlags := 9, code := some k22c1 }
/-- java/lang/StringLatin1 -/
def k22 : Class := { plain "java/lang/StringLatin1" (some 0) with
  accessFlags := 48
  interfaces := #[]
  cf := some (fileOf pool22 14 #[.nestMembers #[390, 221]] #[{ accessFlags := 0, nameIndex := 7, descriptorIndex := 8, attributes := #[] }, { accessFlags := 9, nameIndex := 252, descriptorIndex := 53, attributes := #[] }] 48 4 #[] #[{ accessFlags := 4120, nameIndex := 121, descriptorIndex := 122, attributes := #[] }])
  fields := #[{ name := "$assertionsDisabled", type := .boolean, accessFlags := 4120, slot := 0, constantValue := 0 }]
  methods := #[k22m0, k22m1]
  instanceTypes := #[]
  staticTypes := #[.boolean]
  resolved := Array.replicate 395 none
  statics := none }

def pool23 : Array CpInfo := pool [(2, .class_ 4), (1, u "java/lang/Object"), (0, u "<init>"), (0, u "()V"), (17, .class_ 26), (1, u "jdk/internal/util/Preconditions"), (6, u "checkIndex"), (21, .class_ 56), (0, u "jdk/internal/util/Preconditions$4"), (57, .class_ 115), (0, u "jdk/internal/util/Preconditions$1"), (7, u "SIOOBE_FORMATTER"), (0, u "Ljava/util/function/BiFunction;"), (0, .class_ 126), (0, u "jdk/internal/util/Preconditions$2"), (3, u "AIOOBE_FORMATTER"), (0, .class_ 132), (0, u "jdk/internal/util/Preconditions$3"), (3, u "IOOBE_FORMATTER"), (41, u "(IILjava/util/function/BiFunction;)I")] 15

def k23m0 : Method := { name := "<init>", desc := "()V", sig := { parameters := [], returnType := none }, accessFlags := 1, code := none }
def k23c1 : Code := { maxStack := 3, maxLocals := 3, code := jdk_41_method_11_code, exceptionTable := #[], attributes := #[] }
def k23m1 : Method := { name := "checkIndex", desc := "(IILjava/util/function/BiFunction;)I", sig := { parameters := [.int, .int, (.object "java/util/function/BiFunction")], returnType := some .int }, accessFlags := 9, code := some k23c1 }
/-- jdk/internal/util/Preconditions -/
def k23 : Class := { plain "jdk/internal/util/Preconditions" (some 0) with
  accessFlags := 33
  interfaces := #[]
  cf := some (fileOf pool23 24 #[.nestMembers #[55, 131, 125, 114]] #[{ accessFlags := 1, nameIndex := 5, descriptorIndex := 6, attributes := #[] }, { accessFlags := 9, nameIndex := 33, descriptorIndex := 178, attributes := #[] }] 33 2 #[] #[{ accessFlags := 25, nameIndex := 123, descriptorIndex := 124, attributes := #[] }, { accessFlags := 25, nameIndex := 130, descriptorIndex := 124, attributes := #[] }, { accessFlags := 25, nameIndex := 136, descriptorIndex := 124, attributes := #[] }])
  fields := #[{ name := "SIOOBE_FORMATTER", type := (.object "java/util/function/BiFunction"), accessFlags := 25, slot := 0, constantValue := 0 }, { name := "AIOOBE_FORMATTER", type := (.object "java/util/function/BiFunction"), accessFlags := 25, slot := 1, constantValue := 0 }, { name := "IOOBE_FORMATTER", type := (.object "java/util/function/BiFunction"), accessFlags := 25, slot := 2, constantValue := 0 }]
  methods := #[k23m0, k23m1]
  instanceTypes := #[]
  staticTypes := #[(.object "java/util/function/BiFunction"), (.object "java/util/function/BiFunction"), (.object "java/util/function/BiFunction")]
  resolved := Array.replicate 194 none
  statics := some 2 }

def pool24 : Array CpInfo := pool [(1, .class_ 2), (0, u "java/lang/Cloneable"), (0, .class_ 4), (0, u "java/lang/Object")] 2

/-- java/lang/Cloneable -/
def k24 : Class := { plain "java/lang/Cloneable" (some 0) with
  accessFlags := 1537
  interfaces := #[]
  cf := some (fileOf pool24 1 #[] #[] 1537 3 #[] #[])
  fields := #[]
  methods := #[]
  instanceTypes := #[]
  staticTypes := #[]
  resolved := Array.replicate 7 none
  statics := none }

/-- the primitive byte -/
def k25 : Class := { plain "byte" none with kind := .primitive 'B', accessFlags := 0x411 }
/-- [B -/
def k26 : Class := { plain "[B" (some 0) with kind := .array 25 .byte, interfaces := #[24, 2], accessFlags := 1041 }

/-- the primitive char -/
def k27 : Class := { plain "char" none with kind := .primitive 'C', accessFlags := 0x411 }
/-- [C -/
def k28 : Class := { plain "[C" (some 0) with kind := .array 27 .char, interfaces := #[24, 2], accessFlags := 1041 }

/-- the primitive int -/
def k29 : Class := { plain "int" none with kind := .primitive 'I', accessFlags := 0x411 }
/-- [I -/
def k30 : Class := { plain "[I" (some 0) with kind := .array 29 .int, interfaces := #[24, 2], accessFlags := 1041 }

def heap : Heap := #[{ cls := 7, slots := #[.long 0, .int 1, .null, .int 0, .null, .int 0, .int 0], vm := .statics 7 },
  { cls := 21, slots := #[.int 0, .int 0, .null, .null, .ref 4, .ref 3, .int 0, .int 0, .long 0], vm := .statics 21 },
  { cls := 23, slots := #[.null, .null, .null], vm := .statics 23 },
  { cls := 26, slots := #[.int 48, .int 49, .int 50, .int 51, .int 52, .int 53, .int 54, .int 55, .int 56, .int 57, .int 48, .int 49, .int 50, .int 51, .int 52, .int 53, .int 54, .int 55, .int 56, .int 57, .int 48, .int 49, .int 50, .int 51, .int 52, .int 53, .int 54, .int 55, .int 56, .int 57, .int 48, .int 49, .int 50, .int 51, .int 52, .int 53, .int 54, .int 55, .int 56, .int 57, .int 48, .int 49, .int 50, .int 51, .int 52, .int 53, .int 54, .int 55, .int 56, .int 57, .int 48, .int 49, .int 50, .int 51, .int 52, .int 53, .int 54, .int 55, .int 56, .int 57, .int 48, .int 49, .int 50, .int 51, .int 52, .int 53, .int 54, .int 55, .int 56, .int 57, .int 48, .int 49, .int 50, .int 51, .int 52, .int 53, .int 54, .int 55, .int 56, .int 57, .int 48, .int 49, .int 50, .int 51, .int 52, .int 53, .int 54, .int 55, .int 56, .int 57, .int 48, .int 49, .int 50, .int 51, .int 52, .int 53, .int 54, .int 55, .int 56, .int 57], vm := .none },
  { cls := 26, slots := #[.int 48, .int 48, .int 48, .int 48, .int 48, .int 48, .int 48, .int 48, .int 48, .int 48, .int 49, .int 49, .int 49, .int 49, .int 49, .int 49, .int 49, .int 49, .int 49, .int 49, .int 50, .int 50, .int 50, .int 50, .int 50, .int 50, .int 50, .int 50, .int 50, .int 50, .int 51, .int 51, .int 51, .int 51, .int 51, .int 51, .int 51, .int 51, .int 51, .int 51, .int 52, .int 52, .int 52, .int 52, .int 52, .int 52, .int 52, .int 52, .int 52, .int 52, .int 53, .int 53, .int 53, .int 53, .int 53, .int 53, .int 53, .int 53, .int 53, .int 53, .int 54, .int 54, .int 54, .int 54, .int 54, .int 54, .int 54, .int 54, .int 54, .int 54, .int 55, .int 55, .int 55, .int 55, .int 55, .int 55, .int 55, .int 55, .int 55, .int 55, .int 56, .int 56, .int 56, .int 56, .int 56, .int 56, .int 56, .int 56, .int 56, .int 56, .int 57, .int 57, .int 57, .int 57, .int 57, .int 57, .int 57, .int 57, .int 57, .int 57], vm := .none }]
def classes : Array Class := #[k0, k1, k2, k3, k4, k5, k6, k7, k8, k9, k10, k11, k12, k13, k14, k15, k16, k17, k18, k19, k20, k21, k22, k23, k24, k25, k26, k27, k28, k29, k30]
def interned : List (Array UInt16 × Addr) := []
def slotsUsed : Nat := 219
def theMethod : MethodId := ⟨1, 5⟩
def args0 : Array Value := #[.int 65, .int 66, .int 2, .long 77, .int 7]
def aboutOver (below : List Frame) : State where
  vm := { classes := classes, interned := interned.toArray }
  heap := heap
  slotsUsed := slotsUsed
  threads := #[{ frames := .invoking theMethod args0 :: below }]
def below0 : List Frame := [.native { method := ⟨0, 0⟩, args := #[] }]
def about1 : State := aboutOver below0
def p0 : Program := .bare "" "" ""
def e0 : Env := launch0.env 0 0 0
theorem w_frames : about1.frames = Frame.invoking theMethod args0 :: below0 := rfl
set_option maxRecDepth 65536 in
theorem w_args : argsFit about1.vm theMethod args0 = true := by decide +kernel
set_option maxRecDepth 65536 in
theorem w_heap : heapFits about1 = true := by decide +kernel
set_option maxRecDepth 65536 in
theorem w_runnable : about1.curStatus? = some .runnable := by decide +kernel
set_option maxRecDepth 65536 in
theorem w_alone : about1.alone = true := by decide +kernel
set_option maxRecDepth 65536 in
theorem w_named : about1.methodNamed? x = some theMethod := by decide +kernel
set_option maxRecDepth 65536 in
theorem w_hears : about1.hears theMethod below0 = true := by decide +kernel
set_option maxRecDepth 65536 in
theorem w_ripe : about1.ripe theMethod args0 below0 = true := by decide +kernel
theorem w_running : about1.status = .running := rfl
set_option maxRecDepth 65536 in
theorem w_room : about1.hasRoom e0.platform room_1 = true :=
  launch0.hasRoom_least _ room_1 (by decide +kernel) (by decide +kernel) (by decide +kernel) (by decide +kernel) (by decide +kernel) (by decide +kernel)
theorem allAtoms_all (ts : List Jvm.Cond) (a : Array Jvm.Value) (st : Jvm.State) : (allAtoms ts).before a st = ts.all (fun c => c.before a st) := by
  induction ts with
  | nil => rfl
  | cons c t ih =>
    show (Jvm.Cond.and c (allAtoms t)).before a st = _
    rw [Jvm.Cond.before_and, ih, List.all_cons]
def words1 : List Jvm.Cond := Jvm.Cond.code x code maxLocals ret :: tables_1
/-- a 'code' word, met by the world's own term for the bytes: nothing is compared byte by byte -/
theorem code_word {y : MethodName} {bytes : ByteArray} {mx : Nat} {rt : Option FieldType} {a : Array Value} {s : State} {m : MethodId} {meth : Method} {c : Code} (h1 : s.methodNamed? y = some m) (h2 : s.vm.method? m = some meth) (h3 : meth.code = some c) (h4 : c.code = bytes)
    (h5 : (c.maxLocals == mx && c.exceptionTable.isEmpty && decide (c.maxStack ≤ mostOperands) && decide (meth.sig.returnType = rt) && !meth.locks && decide (parseMethodDescriptor y.desc = some meth.sig)) = true) : (Jvm.Cond.code y bytes mx rt).before a s = true := by
  simp only [Bool.and_eq_true, beq_iff_eq, Bool.not_eq_true', decide_eq_true_eq] at h5
  obtain ⟨⟨⟨⟨⟨g1, g2⟩, g3⟩, g4⟩, g5⟩, g6⟩ := h5
  simp [Cond.before, Cond.holds, Cond.value, h1, h2, h3, h4, g1, g2, g3, g4, g5, g6]
def isCode : Jvm.Cond → Bool
  | .code _ _ _ _ => true
  | _ => false
theorem all_split {L : List Jvm.Cond} {P : Jvm.Cond → Bool} (h1 : L.all (fun c => isCode c || P c) = true) (h2 : ∀ c ∈ L.filter isCode, P c = true) : L.all P = true := by
  refine List.all_eq_true.mpr fun c hc => ?_
  have h := List.all_eq_true.mp h1 c hc
  rcases Bool.eq_false_or_eq_true (isCode c) with hi | hi
  · exact h2 c (List.mem_filter.mpr ⟨hc, hi⟩)
  · simpa [hi] using h
set_option maxRecDepth 65536 in
theorem w_c0 : (Jvm.Cond.code x code maxLocals ret).before args0 about1 = true := code_word (m := ⟨1, 5⟩) (meth := k1m5) (c := k1c5) (by decide +kernel) rfl rfl rfl (by decide +kernel)
set_option maxRecDepth 65536 in
theorem w_c1 : (Jvm.Cond.code ({ cls := "java/lang/String", name := "<init>", desc := "([C)V" } : Jvm.MethodName) jdk_42_method_3_code (2 : Nat) (Option.none : Option Jvm.ClassFile.FieldType)).before args0 about1 = true := code_word (m := ⟨7, 1⟩) (meth := k7m1) (c := k7c1) (by decide +kernel) rfl rfl rfl (by decide +kernel)
set_option maxRecDepth 65536 in
theorem w_c2 : (Jvm.Cond.code ({ cls := "java/lang/String", name := "<init>", desc := "([CIILjava/lang/Void;)V" } : Jvm.MethodName) jdk_42_method_149_code (6 : Nat) (Option.none : Option Jvm.ClassFile.FieldType)).before args0 about1 = true := code_word (m := ⟨7, 6⟩) (meth := k7m6) (c := k7c6) (by decide +kernel) rfl rfl rfl (by decide +kernel)
set_option maxRecDepth 65536 in
theorem w_c3 : (Jvm.Cond.code ({ cls := "java/lang/Object", name := "<init>", desc := "()V" } : Jvm.MethodName) object_method_1_code (1 : Nat) (Option.none : Option Jvm.ClassFile.FieldType)).before args0 about1 = true := code_word (m := ⟨0, 0⟩) (meth := k0m0) (c := k0c0) (by decide +kernel) rfl rfl rfl (by decide +kernel)
set_option maxRecDepth 65536 in
theorem w_c4 : (Jvm.Cond.code ({ cls := "java/lang/StringUTF16", name := "compress", desc := "([CII)[B" } : Jvm.MethodName) jdk_52_method_16_code (6 : Nat) (Option.some (Jvm.ClassFile.FieldType.array Jvm.ClassFile.FieldType.byte))).before args0 about1 = true := code_word (m := ⟨8, 2⟩) (meth := k8m2) (c := k8c2) (by decide +kernel) rfl rfl rfl (by decide +kernel)
set_option maxRecDepth 65536 in
theorem w_c5 : (Jvm.Cond.code ({ cls := "java/lang/StringUTF16", name := "compress", desc := "([CI[BII)I" } : Jvm.MethodName) jdk_52_method_21_code (7 : Nat) (Option.some Jvm.ClassFile.FieldType.int)).before args0 about1 = true := code_word (m := ⟨8, 3⟩) (meth := k8m3) (c := k8c3) (by decide +kernel) rfl rfl rfl (by decide +kernel)
set_option maxRecDepth 65536 in
theorem w_c6 : (Jvm.Cond.code ({ cls := "java/lang/StringUTF16", name := "coderFromArrayLen", desc := "([BI)B" } : Jvm.MethodName) jdk_52_method_15_code (2 : Nat) (Option.some Jvm.ClassFile.FieldType.byte)).before args0 about1 = true := code_word (m := ⟨8, 1⟩) (meth := k8m1) (c := k8c1) (by decide +kernel) rfl rfl rfl (by decide +kernel)
set_option maxRecDepth 65536 in
theorem w_c7 : (Jvm.Cond.code ({ cls := "com/example/orunmila/orunmila/Location", name := "<init>", desc := "(Ljava/lang/String;JI)V" } : Jvm.MethodName) prog_4_method_1_code (5 : Nat) (Option.none : Option Jvm.ClassFile.FieldType)).before args0 about1 = true := code_word (m := ⟨10, 0⟩) (meth := k10m0) (c := k10c0) (by decide +kernel) rfl rfl rfl (by decide +kernel)
set_option maxRecDepth 65536 in
theorem w_c8 : (Jvm.Cond.code ({ cls := "java/lang/Record", name := "<init>", desc := "()V" } : Jvm.MethodName) jdk_30_method_1_code (1 : Nat) (Option.none : Option Jvm.ClassFile.FieldType)).before args0 about1 = true := code_word (m := ⟨9, 0⟩) (meth := k9m0) (c := k9c0) (by decide +kernel) rfl rfl rfl (by decide +kernel)
set_option maxRecDepth 65536 in
theorem w_c9 : (Jvm.Cond.code ({ cls := "java/util/Objects", name := "requireNonNull", desc := "(Ljava/lang/Object;Ljava/lang/String;)Ljava/lang/Object;" } : Jvm.MethodName) jdk_31_method_11_code (2 : Nat) (Option.some (Jvm.ClassFile.FieldType.object "java/lang/Object"))).before args0 about1 = true := code_word (m := ⟨11, 1⟩) (meth := k11m1) (c := k11c1) (by decide +kernel) rfl rfl rfl (by decide +kernel)
set_option maxRecDepth 65536 in
theorem w_c10 : (Jvm.Cond.code ({ cls := "com/example/orunmila/orunmila/Location", name := "toString", desc := "()Ljava/lang/String;" } : Jvm.MethodName) prog_4_method_2_code (1 : Nat) (Option.some (Jvm.ClassFile.FieldType.object "java/lang/String"))).before args0 about1 = true := code_word (m := ⟨10, 1⟩) (meth := k10m1) (c := k10c1) (by decide +kernel) rfl rfl rfl (by decide +kernel)
set_option maxRecDepth 65536 in
theorem w_c11 : (Jvm.Cond.code ({ cls := "java/lang/StringBuilder", name := "<init>", desc := "()V" } : Jvm.MethodName) jdk_67_method_1_code (1 : Nat) (Option.none : Option Jvm.ClassFile.FieldType)).before args0 about1 = true := code_word (m := ⟨14, 0⟩) (meth := k14m0) (c := k14c0) (by decide +kernel) rfl rfl rfl (by decide +kernel)
set_option maxRecDepth 65536 in
theorem w_c12 : (Jvm.Cond.code ({ cls := "java/lang/AbstractStringBuilder", name := "<init>", desc := "(I)V" } : Jvm.MethodName) jdk_68_method_2_code (2 : Nat) (Option.none : Option Jvm.ClassFile.FieldType)).before args0 about1 = true := code_word (m := ⟨13, 1⟩) (meth := k13m1) (c := k13c1) (by decide +kernel) rfl rfl rfl (by decide +kernel)
set_option maxRecDepth 65536 in
theorem w_c13 : (Jvm.Cond.code ({ cls := "java/lang/StringBuilder", name := "append", desc := "(Ljava/lang/String;)Ljava/lang/StringBuilder;" } : Jvm.MethodName) jdk_67_method_7_code (2 : Nat) (Option.some (Jvm.ClassFile.FieldType.object "java/lang/StringBuilder"))).before args0 about1 = true := code_word (m := ⟨14, 1⟩) (meth := k14m1) (c := k14c1) (by decide +kernel) rfl rfl rfl (by decide +kernel)
set_option maxRecDepth 65536 in
theorem w_c14 : (Jvm.Cond.code ({ cls := "java/lang/AbstractStringBuilder", name := "append", desc := "(Ljava/lang/String;)Ljava/lang/AbstractStringBuilder;" } : Jvm.MethodName) jdk_68_method_22_code (3 : Nat) (Option.some (Jvm.ClassFile.FieldType.object "java/lang/AbstractStringBuilder"))).before args0 about1 = true := code_word (m := ⟨13, 5⟩) (meth := k13m5) (c := k13c5) (by decide +kernel) rfl rfl rfl (by decide +kernel)
set_option maxRecDepth 65536 in
theorem w_c15 : (Jvm.Cond.code ({ cls := "java/lang/String", name := "length", desc := "()I" } : Jvm.MethodName) jdk_42_method_54_code (1 : Nat) (Option.some Jvm.ClassFile.FieldType.int)).before args0 about1 = true := code_word (m := ⟨7, 3⟩) (meth := k7m3) (c := k7c3) (by decide +kernel) rfl rfl rfl (by decide +kernel)
set_option maxRecDepth 65536 in
theorem w_c16 : (Jvm.Cond.code ({ cls := "java/lang/String", name := "coder", desc := "()B" } : Jvm.MethodName) jdk_42_method_152_code (1 : Nat) (Option.some Jvm.ClassFile.FieldType.byte)).before args0 about1 = true := code_word (m := ⟨7, 8⟩) (meth := k7m8) (c := k7c8) (by decide +kernel) rfl rfl rfl (by decide +kernel)
set_option maxRecDepth 65536 in
theorem w_c17 : (Jvm.Cond.code ({ cls := "java/lang/AbstractStringBuilder", name := "ensureCapacityInternal", desc := "(I)V" } : Jvm.MethodName) jdk_68_method_9_code (3 : Nat) (Option.none : Option Jvm.ClassFile.FieldType)).before args0 about1 = true := code_word (m := ⟨13, 3⟩) (meth := k13m3) (c := k13c3) (by decide +kernel) rfl rfl rfl (by decide +kernel)
set_option maxRecDepth 65536 in
theorem w_c18 : (Jvm.Cond.code ({ cls := "java/lang/AbstractStringBuilder", name := "putStringAt", desc := "(ILjava/lang/String;)V" } : Jvm.MethodName) jdk_68_method_73_code (3 : Nat) (Option.none : Option Jvm.ClassFile.FieldType)).before args0 about1 = true := code_word (m := ⟨13, 11⟩) (meth := k13m11) (c := k13c11) (by decide +kernel) rfl rfl rfl (by decide +kernel)
set_option maxRecDepth 65536 in
theorem w_c19 : (Jvm.Cond.code ({ cls := "java/lang/AbstractStringBuilder", name := "inflateIfNeededFor", desc := "(Ljava/lang/String;)V" } : Jvm.MethodName) jdk_68_method_71_code (2 : Nat) (Option.none : Option Jvm.ClassFile.FieldType)).before args0 about1 = true := code_word (m := ⟨13, 10⟩) (meth := k13m10) (c := k13c10) (by decide +kernel) rfl rfl rfl (by decide +kernel)
set_option maxRecDepth 65536 in
theorem w_c20 : (Jvm.Cond.code ({ cls := "java/lang/String", name := "getBytes", desc := "([BIB)V" } : Jvm.MethodName) jdk_42_method_147_code (4 : Nat) (Option.none : Option Jvm.ClassFile.FieldType)).before args0 about1 = true := code_word (m := ⟨7, 5⟩) (meth := k7m5) (c := k7c5) (by decide +kernel) rfl rfl rfl (by decide +kernel)
set_option maxRecDepth 65536 in
theorem w_c21 : (Jvm.Cond.code ({ cls := "java/lang/StringBuilder", name := "append", desc := "(J)Ljava/lang/StringBuilder;" } : Jvm.MethodName) jdk_67_method_16_code (3 : Nat) (Option.some (Jvm.ClassFile.FieldType.object "java/lang/StringBuilder"))).before args0 about1 = true := code_word (m := ⟨14, 3⟩) (meth := k14m3) (c := k14c3) (by decide +kernel) rfl rfl rfl (by decide +kernel)
set_option maxRecDepth 65536 in
theorem w_c22 : (Jvm.Cond.code ({ cls := "java/lang/AbstractStringBuilder", name := "append", desc := "(J)Ljava/lang/AbstractStringBuilder;" } : Jvm.MethodName) jdk_68_method_33_code (5 : Nat) (Option.some (Jvm.ClassFile.FieldType.object "java/lang/AbstractStringBuilder"))).before args0 about1 = true := code_word (m := ⟨13, 7⟩) (meth := k13m7) (c := k13c7) (by decide +kernel) rfl rfl rfl (by decide +kernel)
set_option maxRecDepth 65536 in
theorem w_c23 : (Jvm.Cond.code ({ cls := "java/lang/Long", name := "stringSize", desc := "(J)I" } : Jvm.MethodName) jdk_35_method_15_code (6 : Nat) (Option.some Jvm.ClassFile.FieldType.int)).before args0 about1 = true := code_word (m := ⟨17, 1⟩) (meth := k17m1) (c := k17c1) (by decide +kernel) rfl rfl rfl (by decide +kernel)
set_option maxRecDepth 65536 in
theorem w_c24 : (Jvm.Cond.code ({ cls := "java/lang/AbstractStringBuilder", name := "newCapacity", desc := "(I)I" } : Jvm.MethodName) jdk_68_method_10_code (6 : Nat) (Option.some Jvm.ClassFile.FieldType.int)).before args0 about1 = true := code_word (m := ⟨13, 4⟩) (meth := k13m4) (c := k13c4) (by decide +kernel) rfl rfl rfl (by decide +kernel)
set_option maxRecDepth 65536 in
theorem w_c25 : (Jvm.Cond.code ({ cls := "jdk/internal/util/ArraysSupport", name := "newLength", desc := "(III)I" } : Jvm.MethodName) jdk_48_method_27_code (4 : Nat) (Option.some Jvm.ClassFile.FieldType.int)).before args0 about1 = true := code_word (m := ⟨18, 1⟩) (meth := k18m1) (c := k18c1) (by decide +kernel) rfl rfl rfl (by decide +kernel)
set_option maxRecDepth 65536 in
theorem w_c26 : (Jvm.Cond.code ({ cls := "java/lang/Math", name := "max", desc := "(II)I" } : Jvm.MethodName) jdk_29_method_65_code (2 : Nat) (Option.some Jvm.ClassFile.FieldType.int)).before args0 about1 = true := code_word (m := ⟨19, 1⟩) (meth := k19m1) (c := k19c1) (by decide +kernel) rfl rfl rfl (by decide +kernel)
set_option maxRecDepth 65536 in
theorem w_c27 : (Jvm.Cond.code ({ cls := "java/util/Arrays", name := "copyOf", desc := "([BI)[B" } : Jvm.MethodName) jdk_65_method_121_code (3 : Nat) (Option.some (Jvm.ClassFile.FieldType.array Jvm.ClassFile.FieldType.byte))).before args0 about1 = true := code_word (m := ⟨20, 1⟩) (meth := k20m1) (c := k20c1) (by decide +kernel) rfl rfl rfl (by decide +kernel)
set_option maxRecDepth 65536 in
theorem w_c28 : (Jvm.Cond.code ({ cls := "java/lang/Math", name := "min", desc := "(II)I" } : Jvm.MethodName) jdk_29_method_69_code (2 : Nat) (Option.some Jvm.ClassFile.FieldType.int)).before args0 about1 = true := code_word (m := ⟨19, 2⟩) (meth := k19m2) (c := k19c2) (by decide +kernel) rfl rfl rfl (by decide +kernel)
set_option maxRecDepth 65536 in
theorem w_c29 : (Jvm.Cond.code ({ cls := "java/lang/AbstractStringBuilder", name := "isLatin1", desc := "()Z" } : Jvm.MethodName) jdk_68_method_68_code (1 : Nat) (Option.some Jvm.ClassFile.FieldType.boolean)).before args0 about1 = true := code_word (m := ⟨13, 9⟩) (meth := k13m9) (c := k13c9) (by decide +kernel) rfl rfl rfl (by decide +kernel)
set_option maxRecDepth 65536 in
theorem w_c30 : (Jvm.Cond.code ({ cls := "java/lang/Long", name := "getChars", desc := "(JI[B)I" } : Jvm.MethodName) jdk_35_method_14_code (11 : Nat) (Option.some Jvm.ClassFile.FieldType.int)).before args0 about1 = true := code_word (m := ⟨17, 0⟩) (meth := k17m0) (c := k17c0) (by decide +kernel) rfl rfl rfl (by decide +kernel)
set_option maxRecDepth 65536 in
theorem w_c31 : (Jvm.Cond.code ({ cls := "java/lang/StringBuilder", name := "append", desc := "(I)Ljava/lang/StringBuilder;" } : Jvm.MethodName) jdk_67_method_15_code (2 : Nat) (Option.some (Jvm.ClassFile.FieldType.object "java/lang/StringBuilder"))).before args0 about1 = true := code_word (m := ⟨14, 2⟩) (meth := k14m2) (c := k14c2) (by decide +kernel) rfl rfl rfl (by decide +kernel)
set_option maxRecDepth 65536 in
theorem w_c32 : (Jvm.Cond.code ({ cls := "java/lang/AbstractStringBuilder", name := "append", desc := "(I)Ljava/lang/AbstractStringBuilder;" } : Jvm.MethodName) jdk_68_method_32_code (4 : Nat) (Option.some (Jvm.ClassFile.FieldType.object "java/lang/AbstractStringBuilder"))).before args0 about1 = true := code_word (m := ⟨13, 6⟩) (meth := k13m6) (c := k13c6) (by decide +kernel) rfl rfl rfl (by decide +kernel)
set_option maxRecDepth 65536 in
theorem w_c33 : (Jvm.Cond.code ({ cls := "java/lang/Integer", name := "stringSize", desc := "(I)I" } : Jvm.MethodName) jdk_33_method_13_code (4 : Nat) (Option.some Jvm.ClassFile.FieldType.int)).before args0 about1 = true := code_word (m := ⟨21, 1⟩) (meth := k21m1) (c := k21c1) (by decide +kernel) rfl rfl rfl (by decide +kernel)
set_option maxRecDepth 65536 in
theorem w_c34 : (Jvm.Cond.code ({ cls := "java/lang/Integer", name := "getChars", desc := "(II[B)I" } : Jvm.MethodName) jdk_33_method_12_code (7 : Nat) (Option.some Jvm.ClassFile.FieldType.int)).before args0 about1 = true := code_word (m := ⟨21, 0⟩) (meth := k21m0) (c := k21c0) (by decide +kernel) rfl rfl rfl (by decide +kernel)
set_option maxRecDepth 65536 in
theorem w_c35 : (Jvm.Cond.code ({ cls := "java/lang/StringBuilder", name := "toString", desc := "()Ljava/lang/String;" } : Jvm.MethodName) jdk_67_method_42_code (1 : Nat) (Option.some (Jvm.ClassFile.FieldType.object "java/lang/String"))).before args0 about1 = true := code_word (m := ⟨14, 4⟩) (meth := k14m4) (c := k14c4) (by decide +kernel) rfl rfl rfl (by decide +kernel)
set_option maxRecDepth 65536 in
theorem w_c36 : (Jvm.Cond.code ({ cls := "java/lang/String", name := "<init>", desc := "(Ljava/lang/StringBuilder;)V" } : Jvm.MethodName) jdk_42_method_53_code (2 : Nat) (Option.none : Option Jvm.ClassFile.FieldType)).before args0 about1 = true := code_word (m := ⟨7, 2⟩) (meth := k7m2) (c := k7c2) (by decide +kernel) rfl rfl rfl (by decide +kernel)
set_option maxRecDepth 65536 in
theorem w_c37 : (Jvm.Cond.code ({ cls := "java/lang/String", name := "<init>", desc := "(Ljava/lang/AbstractStringBuilder;Ljava/lang/Void;)V" } : Jvm.MethodName) jdk_42_method_150_code (5 : Nat) (Option.none : Option Jvm.ClassFile.FieldType)).before args0 about1 = true := code_word (m := ⟨7, 7⟩) (meth := k7m7) (c := k7c7) (by decide +kernel) rfl rfl rfl (by decide +kernel)
set_option maxRecDepth 65536 in
theorem w_c38 : (Jvm.Cond.code ({ cls := "java/lang/AbstractStringBuilder", name := "getValue", desc := "()[B" } : Jvm.MethodName) jdk_68_method_64_code (1 : Nat) (Option.some (Jvm.ClassFile.FieldType.array Jvm.ClassFile.FieldType.byte))).before args0 about1 = true := code_word (m := ⟨13, 8⟩) (meth := k13m8) (c := k13c8) (by decide +kernel) rfl rfl rfl (by decide +kernel)
set_option maxRecDepth 65536 in
theorem w_c39 : (Jvm.Cond.code ({ cls := "java/lang/StringBuilder", name := "length", desc := "()I" } : Jvm.MethodName) jdk_67_method_93_code (1 : Nat) (Option.some Jvm.ClassFile.FieldType.int)).before args0 about1 = true := code_word (m := ⟨14, 5⟩) (meth := k14m5) (c := k14c5) (by decide +kernel) rfl rfl rfl (by decide +kernel)
set_option maxRecDepth 65536 in
theorem w_c40 : (Jvm.Cond.code ({ cls := "java/lang/AbstractStringBuilder", name := "length", desc := "()I" } : Jvm.MethodName) jdk_68_method_6_code (1 : Nat) (Option.some Jvm.ClassFile.FieldType.int)).before args0 about1 = true := code_word (m := ⟨13, 2⟩) (meth := k13m2) (c := k13c2) (by decide +kernel) rfl rfl rfl (by decide +kernel)
set_option maxRecDepth 65536 in
theorem w_c41 : (Jvm.Cond.code ({ cls := "java/util/Arrays", name := "copyOfRange", desc := "([BII)[B" } : Jvm.MethodName) jdk_65_method_132_code (3 : Nat) (Option.some (Jvm.ClassFile.FieldType.array Jvm.ClassFile.FieldType.byte))).before args0 about1 = true := code_word (m := ⟨20, 3⟩) (meth := k20m3) (c := k20c3) (by decide +kernel) rfl rfl rfl (by decide +kernel)
set_option maxRecDepth 65536 in
theorem w_c42 : (Jvm.Cond.code ({ cls := "java/util/Arrays", name := "copyOfRangeByte", desc := "([BII)[B" } : Jvm.MethodName) jdk_65_method_133_code (5 : Nat) (Option.some (Jvm.ClassFile.FieldType.array Jvm.ClassFile.FieldType.byte))).before args0 about1 = true := code_word (m := ⟨20, 4⟩) (meth := k20m4) (c := k20c4) (by decide +kernel) rfl rfl rfl (by decide +kernel)
set_option maxRecDepth 65536 in
theorem w_c43 : (Jvm.Cond.code ({ cls := "java/util/Arrays", name := "checkLength", desc := "(II)V" } : Jvm.MethodName) jdk_65_method_131_code (2 : Nat) (Option.none : Option Jvm.ClassFile.FieldType)).before args0 about1 = true := code_word (m := ⟨20, 2⟩) (meth := k20m2) (c := k20c2) (by decide +kernel) rfl rfl rfl (by decide +kernel)
set_option maxRecDepth 65536 in
theorem w_c44 : (Jvm.Cond.code ({ cls := "com/example/orunmila/orunmila/LocationToStringPinLaw", name := "numLen", desc := "(J)I" } : Jvm.MethodName) method_3_code (5 : Nat) (Option.some Jvm.ClassFile.FieldType.int)).before args0 about1 = true := code_word (m := ⟨1, 2⟩) (meth := k1m2) (c := k1c2) (by decide +kernel) rfl rfl rfl (by decide +kernel)
set_option maxRecDepth 65536 in
theorem w_c45 : (Jvm.Cond.code ({ cls := "com/example/orunmila/orunmila/LocationToStringPinLaw", name := "digits", desc := "(J)I" } : Jvm.MethodName) method_2_code (3 : Nat) (Option.some Jvm.ClassFile.FieldType.int)).before args0 about1 = true := code_word (m := ⟨1, 1⟩) (meth := k1m1) (c := k1c1) (by decide +kernel) rfl rfl rfl (by decide +kernel)
set_option maxRecDepth 65536 in
theorem w_c46 : (Jvm.Cond.code ({ cls := "java/lang/String", name := "charAt", desc := "(I)C" } : Jvm.MethodName) jdk_42_method_56_code (2 : Nat) (Option.some Jvm.ClassFile.FieldType.char)).before args0 about1 = true := code_word (m := ⟨7, 4⟩) (meth := k7m4) (c := k7c4) (by decide +kernel) rfl rfl rfl (by decide +kernel)
set_option maxRecDepth 65536 in
theorem w_c47 : (Jvm.Cond.code ({ cls := "java/lang/String", name := "isLatin1", desc := "()Z" } : Jvm.MethodName) jdk_42_method_154_code (1 : Nat) (Option.some Jvm.ClassFile.FieldType.boolean)).before args0 about1 = true := code_word (m := ⟨7, 9⟩) (meth := k7m9) (c := k7c9) (by decide +kernel) rfl rfl rfl (by decide +kernel)
set_option maxRecDepth 65536 in
theorem w_c48 : (Jvm.Cond.code ({ cls := "java/lang/StringLatin1", name := "charAt", desc := "([BI)C" } : Jvm.MethodName) jdk_43_method_2_code (2 : Nat) (Option.some Jvm.ClassFile.FieldType.char)).before args0 about1 = true := code_word (m := ⟨22, 1⟩) (meth := k22m1) (c := k22c1) (by decide +kernel) rfl rfl rfl (by decide +kernel)
set_option maxRecDepth 65536 in
theorem w_c49 : (Jvm.Cond.code ({ cls := "java/lang/String", name := "checkIndex", desc := "(II)V" } : Jvm.MethodName) jdk_42_method_155_code (2 : Nat) (Option.none : Option Jvm.ClassFile.FieldType)).before args0 about1 = true := code_word (m := ⟨7, 10⟩) (meth := k7m10) (c := k7c10) (by decide +kernel) rfl rfl rfl (by decide +kernel)
set_option maxRecDepth 65536 in
theorem w_c50 : (Jvm.Cond.code ({ cls := "jdk/internal/util/Preconditions", name := "checkIndex", desc := "(IILjava/util/function/BiFunction;)I" } : Jvm.MethodName) jdk_41_method_11_code (3 : Nat) (Option.some Jvm.ClassFile.FieldType.int)).before args0 about1 = true := code_word (m := ⟨23, 1⟩) (meth := k23m1) (c := k23c1) (by decide +kernel) rfl rfl rfl (by decide +kernel)
set_option maxRecDepth 65536 in
theorem w_c51 : (Jvm.Cond.code ({ cls := "com/example/orunmila/orunmila/LocationToStringPinLaw", name := "numOk", desc := "(Ljava/lang/String;IJ)Z" } : Jvm.MethodName) method_5_code (13 : Nat) (Option.some Jvm.ClassFile.FieldType.boolean)).before args0 about1 = true := code_word (m := ⟨1, 4⟩) (meth := k1m4) (c := k1c4) (by decide +kernel) rfl rfl rfl (by decide +kernel)
set_option maxRecDepth 65536 in
theorem w_c52 : (Jvm.Cond.code ({ cls := "com/example/orunmila/orunmila/LocationToStringPinLaw", name := "dig", desc := "(Ljava/lang/String;IJ)Z" } : Jvm.MethodName) method_4_code (4 : Nat) (Option.some Jvm.ClassFile.FieldType.boolean)).before args0 about1 = true := code_word (m := ⟨1, 3⟩) (meth := k1m3) (c := k1c3) (by decide +kernel) rfl rfl rfl (by decide +kernel)
def codes1 : List Jvm.Cond := [Jvm.Cond.code x code maxLocals ret, Jvm.Cond.code ({ cls := "java/lang/String", name := "<init>", desc := "([C)V" } : Jvm.MethodName) jdk_42_method_3_code (2 : Nat) (Option.none : Option Jvm.ClassFile.FieldType), Jvm.Cond.code ({ cls := "java/lang/String", name := "<init>", desc := "([CIILjava/lang/Void;)V" } : Jvm.MethodName) jdk_42_method_149_code (6 : Nat) (Option.none : Option Jvm.ClassFile.FieldType), Jvm.Cond.code ({ cls := "java/lang/Object", name := "<init>", desc := "()V" } : Jvm.MethodName) object_method_1_code (1 : Nat) (Option.none : Option Jvm.ClassFile.FieldType), Jvm.Cond.code ({ cls := "java/lang/StringUTF16", name := "compress", desc := "([CII)[B" } : Jvm.MethodName) jdk_52_method_16_code (6 : Nat) (Option.some (Jvm.ClassFile.FieldType.array Jvm.ClassFile.FieldType.byte)), Jvm.Cond.code ({ cls := "java/lang/StringUTF16", name := "compress", desc := "([CI[BII)I" } : Jvm.MethodName) jdk_52_method_21_code (7 : Nat) (Option.some Jvm.ClassFile.FieldType.int), Jvm.Cond.code ({ cls := "java/lang/StringUTF16", name := "coderFromArrayLen", desc := "([BI)B" } : Jvm.MethodName) jdk_52_method_15_code (2 : Nat) (Option.some Jvm.ClassFile.FieldType.byte), Jvm.Cond.code ({ cls := "com/example/orunmila/orunmila/Location", name := "<init>", desc := "(Ljava/lang/String;JI)V" } : Jvm.MethodName) prog_4_method_1_code (5 : Nat) (Option.none : Option Jvm.ClassFile.FieldType), Jvm.Cond.code ({ cls := "java/lang/Record", name := "<init>", desc := "()V" } : Jvm.MethodName) jdk_30_method_1_code (1 : Nat) (Option.none : Option Jvm.ClassFile.FieldType), Jvm.Cond.code ({ cls := "java/util/Objects", name := "requireNonNull", desc := "(Ljava/lang/Object;Ljava/lang/String;)Ljava/lang/Object;" } : Jvm.MethodName) jdk_31_method_11_code (2 : Nat) (Option.some (Jvm.ClassFile.FieldType.object "java/lang/Object")), Jvm.Cond.code ({ cls := "com/example/orunmila/orunmila/Location", name := "toString", desc := "()Ljava/lang/String;" } : Jvm.MethodName) prog_4_method_2_code (1 : Nat) (Option.some (Jvm.ClassFile.FieldType.object "java/lang/String")), Jvm.Cond.code ({ cls := "java/lang/StringBuilder", name := "<init>", desc := "()V" } : Jvm.MethodName) jdk_67_method_1_code (1 : Nat) (Option.none : Option Jvm.ClassFile.FieldType), Jvm.Cond.code ({ cls := "java/lang/AbstractStringBuilder", name := "<init>", desc := "(I)V" } : Jvm.MethodName) jdk_68_method_2_code (2 : Nat) (Option.none : Option Jvm.ClassFile.FieldType), Jvm.Cond.code ({ cls := "java/lang/StringBuilder", name := "append", desc := "(Ljava/lang/String;)Ljava/lang/StringBuilder;" } : Jvm.MethodName) jdk_67_method_7_code (2 : Nat) (Option.some (Jvm.ClassFile.FieldType.object "java/lang/StringBuilder")), Jvm.Cond.code ({ cls := "java/lang/AbstractStringBuilder", name := "append", desc := "(Ljava/lang/String;)Ljava/lang/AbstractStringBuilder;" } : Jvm.MethodName) jdk_68_method_22_code (3 : Nat) (Option.some (Jvm.ClassFile.FieldType.object "java/lang/AbstractStringBuilder")), Jvm.Cond.code ({ cls := "java/lang/String", name := "length", desc := "()I" } : Jvm.MethodName) jdk_42_method_54_code (1 : Nat) (Option.some Jvm.ClassFile.FieldType.int), Jvm.Cond.code ({ cls := "java/lang/String", name := "coder", desc := "()B" } : Jvm.MethodName) jdk_42_method_152_code (1 : Nat) (Option.some Jvm.ClassFile.FieldType.byte), Jvm.Cond.code ({ cls := "java/lang/AbstractStringBuilder", name := "ensureCapacityInternal", desc := "(I)V" } : Jvm.MethodName) jdk_68_method_9_code (3 : Nat) (Option.none : Option Jvm.ClassFile.FieldType), Jvm.Cond.code ({ cls := "java/lang/AbstractStringBuilder", name := "putStringAt", desc := "(ILjava/lang/String;)V" } : Jvm.MethodName) jdk_68_method_73_code (3 : Nat) (Option.none : Option Jvm.ClassFile.FieldType), Jvm.Cond.code ({ cls := "java/lang/AbstractStringBuilder", name := "inflateIfNeededFor", desc := "(Ljava/lang/String;)V" } : Jvm.MethodName) jdk_68_method_71_code (2 : Nat) (Option.none : Option Jvm.ClassFile.FieldType), Jvm.Cond.code ({ cls := "java/lang/String", name := "getBytes", desc := "([BIB)V" } : Jvm.MethodName) jdk_42_method_147_code (4 : Nat) (Option.none : Option Jvm.ClassFile.FieldType), Jvm.Cond.code ({ cls := "java/lang/StringBuilder", name := "append", desc := "(J)Ljava/lang/StringBuilder;" } : Jvm.MethodName) jdk_67_method_16_code (3 : Nat) (Option.some (Jvm.ClassFile.FieldType.object "java/lang/StringBuilder")), Jvm.Cond.code ({ cls := "java/lang/AbstractStringBuilder", name := "append", desc := "(J)Ljava/lang/AbstractStringBuilder;" } : Jvm.MethodName) jdk_68_method_33_code (5 : Nat) (Option.some (Jvm.ClassFile.FieldType.object "java/lang/AbstractStringBuilder")), Jvm.Cond.code ({ cls := "java/lang/Long", name := "stringSize", desc := "(J)I" } : Jvm.MethodName) jdk_35_method_15_code (6 : Nat) (Option.some Jvm.ClassFile.FieldType.int), Jvm.Cond.code ({ cls := "java/lang/AbstractStringBuilder", name := "newCapacity", desc := "(I)I" } : Jvm.MethodName) jdk_68_method_10_code (6 : Nat) (Option.some Jvm.ClassFile.FieldType.int), Jvm.Cond.code ({ cls := "jdk/internal/util/ArraysSupport", name := "newLength", desc := "(III)I" } : Jvm.MethodName) jdk_48_method_27_code (4 : Nat) (Option.some Jvm.ClassFile.FieldType.int), Jvm.Cond.code ({ cls := "java/lang/Math", name := "max", desc := "(II)I" } : Jvm.MethodName) jdk_29_method_65_code (2 : Nat) (Option.some Jvm.ClassFile.FieldType.int), Jvm.Cond.code ({ cls := "java/util/Arrays", name := "copyOf", desc := "([BI)[B" } : Jvm.MethodName) jdk_65_method_121_code (3 : Nat) (Option.some (Jvm.ClassFile.FieldType.array Jvm.ClassFile.FieldType.byte)), Jvm.Cond.code ({ cls := "java/lang/Math", name := "min", desc := "(II)I" } : Jvm.MethodName) jdk_29_method_69_code (2 : Nat) (Option.some Jvm.ClassFile.FieldType.int), Jvm.Cond.code ({ cls := "java/lang/AbstractStringBuilder", name := "isLatin1", desc := "()Z" } : Jvm.MethodName) jdk_68_method_68_code (1 : Nat) (Option.some Jvm.ClassFile.FieldType.boolean), Jvm.Cond.code ({ cls := "java/lang/Long", name := "getChars", desc := "(JI[B)I" } : Jvm.MethodName) jdk_35_method_14_code (11 : Nat) (Option.some Jvm.ClassFile.FieldType.int), Jvm.Cond.code ({ cls := "java/lang/StringBuilder", name := "append", desc := "(I)Ljava/lang/StringBuilder;" } : Jvm.MethodName) jdk_67_method_15_code (2 : Nat) (Option.some (Jvm.ClassFile.FieldType.object "java/lang/StringBuilder")), Jvm.Cond.code ({ cls := "java/lang/AbstractStringBuilder", name := "append", desc := "(I)Ljava/lang/AbstractStringBuilder;" } : Jvm.MethodName) jdk_68_method_32_code (4 : Nat) (Option.some (Jvm.ClassFile.FieldType.object "java/lang/AbstractStringBuilder")), Jvm.Cond.code ({ cls := "java/lang/Integer", name := "stringSize", desc := "(I)I" } : Jvm.MethodName) jdk_33_method_13_code (4 : Nat) (Option.some Jvm.ClassFile.FieldType.int), Jvm.Cond.code ({ cls := "java/lang/Integer", name := "getChars", desc := "(II[B)I" } : Jvm.MethodName) jdk_33_method_12_code (7 : Nat) (Option.some Jvm.ClassFile.FieldType.int), Jvm.Cond.code ({ cls := "java/lang/StringBuilder", name := "toString", desc := "()Ljava/lang/String;" } : Jvm.MethodName) jdk_67_method_42_code (1 : Nat) (Option.some (Jvm.ClassFile.FieldType.object "java/lang/String")), Jvm.Cond.code ({ cls := "java/lang/String", name := "<init>", desc := "(Ljava/lang/StringBuilder;)V" } : Jvm.MethodName) jdk_42_method_53_code (2 : Nat) (Option.none : Option Jvm.ClassFile.FieldType), Jvm.Cond.code ({ cls := "java/lang/String", name := "<init>", desc := "(Ljava/lang/AbstractStringBuilder;Ljava/lang/Void;)V" } : Jvm.MethodName) jdk_42_method_150_code (5 : Nat) (Option.none : Option Jvm.ClassFile.FieldType), Jvm.Cond.code ({ cls := "java/lang/AbstractStringBuilder", name := "getValue", desc := "()[B" } : Jvm.MethodName) jdk_68_method_64_code (1 : Nat) (Option.some (Jvm.ClassFile.FieldType.array Jvm.ClassFile.FieldType.byte)), Jvm.Cond.code ({ cls := "java/lang/StringBuilder", name := "length", desc := "()I" } : Jvm.MethodName) jdk_67_method_93_code (1 : Nat) (Option.some Jvm.ClassFile.FieldType.int), Jvm.Cond.code ({ cls := "java/lang/AbstractStringBuilder", name := "length", desc := "()I" } : Jvm.MethodName) jdk_68_method_6_code (1 : Nat) (Option.some Jvm.ClassFile.FieldType.int), Jvm.Cond.code ({ cls := "java/util/Arrays", name := "copyOfRange", desc := "([BII)[B" } : Jvm.MethodName) jdk_65_method_132_code (3 : Nat) (Option.some (Jvm.ClassFile.FieldType.array Jvm.ClassFile.FieldType.byte)), Jvm.Cond.code ({ cls := "java/util/Arrays", name := "copyOfRangeByte", desc := "([BII)[B" } : Jvm.MethodName) jdk_65_method_133_code (5 : Nat) (Option.some (Jvm.ClassFile.FieldType.array Jvm.ClassFile.FieldType.byte)), Jvm.Cond.code ({ cls := "java/util/Arrays", name := "checkLength", desc := "(II)V" } : Jvm.MethodName) jdk_65_method_131_code (2 : Nat) (Option.none : Option Jvm.ClassFile.FieldType), Jvm.Cond.code ({ cls := "com/example/orunmila/orunmila/LocationToStringPinLaw", name := "numLen", desc := "(J)I" } : Jvm.MethodName) method_3_code (5 : Nat) (Option.some Jvm.ClassFile.FieldType.int), Jvm.Cond.code ({ cls := "com/example/orunmila/orunmila/LocationToStringPinLaw", name := "digits", desc := "(J)I" } : Jvm.MethodName) method_2_code (3 : Nat) (Option.some Jvm.ClassFile.FieldType.int), Jvm.Cond.code ({ cls := "java/lang/String", name := "charAt", desc := "(I)C" } : Jvm.MethodName) jdk_42_method_56_code (2 : Nat) (Option.some Jvm.ClassFile.FieldType.char), Jvm.Cond.code ({ cls := "java/lang/String", name := "isLatin1", desc := "()Z" } : Jvm.MethodName) jdk_42_method_154_code (1 : Nat) (Option.some Jvm.ClassFile.FieldType.boolean), Jvm.Cond.code ({ cls := "java/lang/StringLatin1", name := "charAt", desc := "([BI)C" } : Jvm.MethodName) jdk_43_method_2_code (2 : Nat) (Option.some Jvm.ClassFile.FieldType.char), Jvm.Cond.code ({ cls := "java/lang/String", name := "checkIndex", desc := "(II)V" } : Jvm.MethodName) jdk_42_method_155_code (2 : Nat) (Option.none : Option Jvm.ClassFile.FieldType), Jvm.Cond.code ({ cls := "jdk/internal/util/Preconditions", name := "checkIndex", desc := "(IILjava/util/function/BiFunction;)I" } : Jvm.MethodName) jdk_41_method_11_code (3 : Nat) (Option.some Jvm.ClassFile.FieldType.int), Jvm.Cond.code ({ cls := "com/example/orunmila/orunmila/LocationToStringPinLaw", name := "numOk", desc := "(Ljava/lang/String;IJ)Z" } : Jvm.MethodName) method_5_code (13 : Nat) (Option.some Jvm.ClassFile.FieldType.boolean), Jvm.Cond.code ({ cls := "com/example/orunmila/orunmila/LocationToStringPinLaw", name := "dig", desc := "(Ljava/lang/String;IJ)Z" } : Jvm.MethodName) method_4_code (4 : Nat) (Option.some Jvm.ClassFile.FieldType.boolean)]
set_option maxRecDepth 65536 in
theorem codes_eq : words1.filter isCode = codes1 := rfl
theorem w_codes : ∀ c ∈ words1.filter isCode, c.before args0 about1 = true := by
  rw [codes_eq]
  intro c hc
  simp only [codes1, List.mem_cons, List.not_mem_nil, or_false] at hc
  rcases hc with rfl | rfl | rfl | rfl | rfl | rfl | rfl | rfl | rfl | rfl | rfl | rfl | rfl | rfl | rfl | rfl | rfl | rfl | rfl | rfl | rfl | rfl | rfl | rfl | rfl | rfl | rfl | rfl | rfl | rfl | rfl | rfl | rfl | rfl | rfl | rfl | rfl | rfl | rfl | rfl | rfl | rfl | rfl | rfl | rfl | rfl | rfl | rfl | rfl | rfl | rfl | rfl | rfl
  · exact w_c0
  · exact w_c1
  · exact w_c2
  · exact w_c3
  · exact w_c4
  · exact w_c5
  · exact w_c6
  · exact w_c7
  · exact w_c8
  · exact w_c9
  · exact w_c10
  · exact w_c11
  · exact w_c12
  · exact w_c13
  · exact w_c14
  · exact w_c15
  · exact w_c16
  · exact w_c17
  · exact w_c18
  · exact w_c19
  · exact w_c20
  · exact w_c21
  · exact w_c22
  · exact w_c23
  · exact w_c24
  · exact w_c25
  · exact w_c26
  · exact w_c27
  · exact w_c28
  · exact w_c29
  · exact w_c30
  · exact w_c31
  · exact w_c32
  · exact w_c33
  · exact w_c34
  · exact w_c35
  · exact w_c36
  · exact w_c37
  · exact w_c38
  · exact w_c39
  · exact w_c40
  · exact w_c41
  · exact w_c42
  · exact w_c43
  · exact w_c44
  · exact w_c45
  · exact w_c46
  · exact w_c47
  · exact w_c48
  · exact w_c49
  · exact w_c50
  · exact w_c51
  · exact w_c52
set_option maxRecDepth 65536 in
theorem w_t1 : (words1.take 24).all (fun c => isCode c || c.before args0 about1) = true := by decide +kernel
set_option maxRecDepth 65536 in
theorem w_t2 : ((words1.drop 24).take 24).all (fun c => isCode c || c.before args0 about1) = true := by decide +kernel
set_option maxRecDepth 65536 in
theorem w_t3 : (((words1.drop 24).drop 24).take 24).all (fun c => isCode c || c.before args0 about1) = true := by decide +kernel
set_option maxRecDepth 65536 in
theorem w_t4 : ((((words1.drop 24).drop 24).drop 24).take 24).all (fun c => isCode c || c.before args0 about1) = true := by decide +kernel
set_option maxRecDepth 65536 in
theorem w_t5 : (((((words1.drop 24).drop 24).drop 24).drop 24).take 24).all (fun c => isCode c || c.before args0 about1) = true := by decide +kernel
set_option maxRecDepth 65536 in
theorem w_t6 : ((((((words1.drop 24).drop 24).drop 24).drop 24).drop 24).take 24).all (fun c => isCode c || c.before args0 about1) = true := by decide +kernel
set_option maxRecDepth 65536 in
theorem w_t7 : (((((((words1.drop 24).drop 24).drop 24).drop 24).drop 24).drop 24).take 24).all (fun c => isCode c || c.before args0 about1) = true := by decide +kernel
set_option maxRecDepth 65536 in
theorem w_t8 : ((((((((words1.drop 24).drop 24).drop 24).drop 24).drop 24).drop 24).drop 24).take 24).all (fun c => isCode c || c.before args0 about1) = true := by decide +kernel
set_option maxRecDepth 65536 in
theorem w_t9 : (((((((((words1.drop 24).drop 24).drop 24).drop 24).drop 24).drop 24).drop 24).drop 24).take 24).all (fun c => isCode c || c.before args0 about1) = true := by decide +kernel
set_option maxRecDepth 65536 in
theorem w_t10 : ((((((((((words1.drop 24).drop 24).drop 24).drop 24).drop 24).drop 24).drop 24).drop 24).drop 24).take 24).all (fun c => isCode c || c.before args0 about1) = true := by decide +kernel
set_option maxRecDepth 65536 in
theorem w_t11 : (((((((((((words1.drop 24).drop 24).drop 24).drop 24).drop 24).drop 24).drop 24).drop 24).drop 24).drop 24).take 24).all (fun c => isCode c || c.before args0 about1) = true := by decide +kernel
set_option maxRecDepth 65536 in
theorem w_t12 : ((((((((((((words1.drop 24).drop 24).drop 24).drop 24).drop 24).drop 24).drop 24).drop 24).drop 24).drop 24).drop 24).take 24).all (fun c => isCode c || c.before args0 about1) = true := by decide +kernel
set_option maxRecDepth 65536 in
theorem w_t13 : ((((((((((((words1.drop 24).drop 24).drop 24).drop 24).drop 24).drop 24).drop 24).drop 24).drop 24).drop 24).drop 24).drop 24).all (fun c => isCode c || c.before args0 about1) = true := by decide +kernel
theorem w_tables : (allAtoms (Jvm.Cond.code x code maxLocals ret :: tables_1)).before args0 about1 = true := by
  rw [allAtoms_all]
  show words1.all (fun c => c.before args0 about1) = true
  refine all_split ?_ w_codes
  rw [← List.take_append_drop 24 words1, List.all_append, w_t1, ← List.take_append_drop 24 (words1.drop 24), List.all_append, w_t2, ← List.take_append_drop 24 ((words1.drop 24).drop 24), List.all_append, w_t3, ← List.take_append_drop 24 (((words1.drop 24).drop 24).drop 24), List.all_append, w_t4, ← List.take_append_drop 24 ((((words1.drop 24).drop 24).drop 24).drop 24), List.all_append, w_t5, ← List.take_append_drop 24 (((((words1.drop 24).drop 24).drop 24).drop 24).drop 24), List.all_append, w_t6, ← List.take_append_drop 24 ((((((words1.drop 24).drop 24).drop 24).drop 24).drop 24).drop 24), List.all_append, w_t7, ← List.take_append_drop 24 (((((((words1.drop 24).drop 24).drop 24).drop 24).drop 24).drop 24).drop 24), List.all_append, w_t8, ← List.take_append_drop 24 ((((((((words1.drop 24).drop 24).drop 24).drop 24).drop 24).drop 24).drop 24).drop 24), List.all_append, w_t9, ← List.take_append_drop 24 (((((((((words1.drop 24).drop 24).drop 24).drop 24).drop 24).drop 24).drop 24).drop 24).drop 24), List.all_append, w_t10, ← List.take_append_drop 24 ((((((((((words1.drop 24).drop 24).drop 24).drop 24).drop 24).drop 24).drop 24).drop 24).drop 24).drop 24), List.all_append, w_t11, ← List.take_append_drop 24 (((((((((((words1.drop 24).drop 24).drop 24).drop 24).drop 24).drop 24).drop 24).drop 24).drop 24).drop 24).drop 24), List.all_append, w_t12, w_t13]
  rfl
set_option maxRecDepth 65536 in
theorem w_rest : rest_1_c.before args0 about1 = true := by decide +kernel
set_option maxRecDepth 65536 in
theorem w_case : (Jvm.Cond.and given_1 narrow_1).before args0 about1 = true := by decide +kernel
set_option maxRecDepth 65536 in
theorem w_consts : constsHeld consts_1 about1 := Jvm.Lit.constsHeldB_iff.mp (by decide +kernel)
theorem w_applies : (headSpec (Jvm.Cond.code x code maxLocals ret :: tables_1) room_1).applies x e0.platform about1 = true :=
  (Spec.applies_iff w_frames).mpr ⟨w_running, w_runnable, w_alone, w_named, w_hears, w_ripe, w_room, w_tables⟩
theorem atStart : AtStart classFile x code maxLocals ret World_1 tables_1 room_1 Calls_1 rest_1 Pre_1 launch0 p0 e0 about1 theMethod args0 below0 :=
  ⟨lists_1, trivial, launch0.admits_env _ _ _, launch0.least_env, fairChoices_fair.cas, fairChoices_fair.clock, w_frames, w_args, w_heap, w_applies, ⟨w_consts, trivial⟩, w_rest, w_case⟩
end start1
theorem witness_1 : WitnessClaimed_1 := ⟨start1.p0, start1.e0, start1.about1, start1.theMethod, start1.args0, start1.below0, start1.atStart⟩
end Jvm.Pilot.@@N@@
