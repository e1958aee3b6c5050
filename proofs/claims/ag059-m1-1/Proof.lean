import JvmDerived
import JvmDerived.Pilot.@@N@@Statement
import JvmDerived.Pilot.@@N@@Code
set_option linter.unusedVariables false
set_option linter.unusedSimpArgs false
namespace Jvm.OwnKit
open Sem ClassFile Op Lib Jvm.Stand Jvm.Free Jvm.LawKit Jvm.RoadKit
def k_ushr (x y : Int32) : Int32 := (x.toUInt32 >>> (y &&& 31).toUInt32).toInt32
def k_ushrL (x : Int64) (y : Int32) : Int64 := (x.toUInt64 >>> (y &&& 63).toInt64.toUInt64).toInt64
def k_cmpL (x y : Int64) : Int32 := if x > y then 1 else if x = y then 0 else -1
/-- the state over whose tables the walk stands: the start itself, or (wd: a String constant may have been interned meanwhile) the start with tables grown since -/
def KBase (wd : Bool) (s s' : State) (n : Nat) : Prop := match wd with
  | true => ∃ (vm : Vm) (k : Nat), s' = s.setVm vm ∧ s.Since vm k ∧ k ≤ n
  | false => s' = s
/-- where a run stands: the state T with the heap h; what was written lies at n0 or above; of h0 all is kept but ws -/
def KPos (wd : Bool) (p : Program) (l : Launch) (e : Env) (R : Room) (s : State) (m : MethodId) (args : Array Value) (below : List Frame) (meth : Method) (c : Code) (Z : State) (own : String) (n0 : Nat) (h0 : Heap) (ws : List Addr) (T : State) (h : Heap) (cells slots : Nat) : Prop :=
  ∃ s' locs, Stand p l e R s' m args below meth c T locs cells slots ∧ KBase wd s s' h.size ∧ Z.Warmed39 s'.vm ∧ s'.vm.findClass own = some m.cls ∧ T.heap = h ∧ n0 ≤ h.size ∧ Fr n0 locs ∧ Keep h0 h ws
/-- what stands still in a body's walk -/
def KCx (tbl : List Jvm.Cond) (nm : String) (cod : ByteArray) (ml : Nat) (ret : Option FieldType) (p : Program) (meth : Method) (c : Code) (Z : State) (a0 : Array Value) : Prop :=
  p.tables.exec = Jvm.exec ∧ (∀ d ∈ tbl, d.before a0 Z = true) ∧ c.code = cod ∧ c.maxLocals = ml ∧ meth.sig.returnType = ret ∧ meth.name = nm ∧ meth.locks = false
/-- from this frame the run comes to an end that K speaks of -/
def KGo (p : Program) (e : Env) (below : List Frame) (K : State → Outcome → Prop) (T : State) (m : MethodId) (pc : Nat) (Ls : Array Slot) (st : List Value) : Prop :=
  ∃ s₂ o, Steps p.tables e below (T.setTop (mkF m pc Ls st)) s₂ ∧ s₂.status = .running ∧ Ended s₂ below o ∧ K s₂ o
/-- the frame of an end -/
def KEnde (wd : Bool) (s : State) (o : Outcome) (s₂ : State) (L : List Loc) (kc ks : Nat) : Prop := match wd with
  | true => ReturnedEndW s o s₂ L kc ks
  | false => FrameEnd s o s₂ L kc ks
/-- the end of a body that returns -/
def KEnd (wd : Bool) (s : State) (n0 : Nat) (h0 : Heap) (ws : List Addr) (Q : Option Value → Heap → Prop) (kc ks : Nat) (s₂ : State) (o : Outcome) : Prop :=
  ∃ v L, o = .returned v ∧ (Fr n0 L ∧ Keep h0 s₂.heap ws ∧ Q v s₂.heap) ∧ KEnde wd s o s₂ L kc ks
/-- a body's contract -/
def KCt (wd : Bool) (l : Launch) (y : MethodName) (cod : ByteArray) (ml : Nat) (ret : Option FieldType) (rm : Room) (Z : State) (n0 : Nat) (h0 : Heap) (as : Array Value) (ws : List Addr) (Q : Option Value → Heap → Prop) : Prop :=
  ∀ wsc : List Jvm.Cond, MetFree l y (head1 (Jvm.Cond.code y cod ml ret :: wsc) rm) (fun a U => a = as ∧ Z.Warmed39 U.vm ∧ U.heap = h0) (fun _ _ _ _ _ => True)
    (fun _ U o U' => ∃ v L, o = .returned v ∧ (Fr n0 L ∧ Keep h0 U'.heap ws ∧ Q v U'.heap) ∧ KEnde wd U o U' L rm.cells rm.slots)
section Kit
variable {wd : Bool} {p : Program} {l : Launch} {e : Env} {R : Room} {s : State} {m : MethodId} {args : Array Value} {below : List Frame} {meth : Method} {c : Code} {T : State} {cells slots : Nat} {Z : State} {a0 : Array Value} {h h' h0 : Heap} {n0 : Nat} {ws : List Addr} {K : State → Outcome → Prop}
  {tbl : List Jvm.Cond} {own nm : String} {cod : ByteArray} {ml : Nat} {ret : Option FieldType} {pc : Nat} {Ls : Array Slot} {st : List Value} {a b : Addr}
theorem KCx.exec (C : KCx tbl nm cod ml ret p meth c Z a0) : p.tables.exec = Jvm.exec := C.1
theorem KCx.hw (C : KCx tbl nm cod ml ret p meth c Z a0) : ∀ d ∈ tbl, d.before a0 Z = true := C.2.1
theorem KCx.cdE (C : KCx tbl nm cod ml ret p meth c Z a0) : c.code = cod := C.2.2.1
theorem KCx.mlE (C : KCx tbl nm cod ml ret p meth c Z a0) : c.maxLocals = ml := C.2.2.2.1
theorem KCx.rtE (C : KCx tbl nm cod ml ret p meth c Z a0) : meth.sig.returnType = ret := C.2.2.2.2.1
theorem KCx.nmE (C : KCx tbl nm cod ml ret p meth c Z a0) : meth.name = nm := C.2.2.2.2.2.1
theorem KCx.lk (C : KCx tbl nm cod ml ret p meth c Z a0) : meth.locks = false := C.2.2.2.2.2.2
theorem KCx.w (C : KCx tbl nm cod ml ret p meth c Z a0) (i : Nat) {d : Jvm.Cond} (q : tbl[i]? = some d) : d.before a0 Z = true := C.hw d (List.mem_of_getElem? q)
theorem KBase.mono {s' : State} {n n' : Nat} (B : KBase wd s s' n) (h : n ≤ n') : KBase wd s s' n' := by
  cases wd
  · exact B
  · obtain ⟨vm, k, h1, h2, h3⟩ := B; exact ⟨vm, k, h1, h2, Nat.le_trans h3 h⟩
theorem KPos.here (P : KPos wd p l e R s m args below meth c Z own n0 h0 ws T h cells slots) : At T m c below := by obtain ⟨_, _, X, -⟩ := P; exact X.here
theorem KPos.more (P : KPos wd p l e R s m args below meth c Z own n0 h0 ws T h cells slots) {cells' slots' : Nat} (hc : cells ≤ cells') (hs : slots ≤ slots') : KPos wd p l e R s m args below meth c Z own n0 h0 ws T h cells' slots' := by
  obtain ⟨s', L, X, r⟩ := P; exact ⟨s', L, X.more hc hs, r⟩
theorem KPos.size (P : KPos wd p l e R s m args below meth c Z own n0 h0 ws T h cells slots) : n0 ≤ h.size := by obtain ⟨_, _, _, _, _, _, _, r, -⟩ := P; exact r
theorem KPos.kept (P : KPos wd p l e R s m args below meth c Z own n0 h0 ws T h cells slots) : Keep h0 h ws := by obtain ⟨_, _, _, _, _, _, _, _, _, r⟩ := P; exact r
theorem KGo.step {T' : State} {pc' : Nat} {Ls' : Array Slot} {st' : List Value} (k : KGo p e below K T' m pc' Ls' st') (q : ∀ t, Steps p.tables e below (T'.setTop (mkF m pc' Ls' st')) t → Steps p.tables e below (T.setTop (mkF m pc Ls st)) t) : KGo p e below K T m pc Ls st := by
  obtain ⟨x, y, u, r⟩ := k; exact ⟨x, y, q _ u, r⟩
theorem KGo.cast {Ls' : Array Slot} {st' : List Value} (k : KGo p e below K T m pc Ls' st') (q : Ls' = Ls) (r : st' = st) : KGo p e below K T m pc Ls st := by subst q r; exact k
/-- a body is entered -/
theorem k_enter {y : MethodName} {rm : Room} {as : Array Value} {Q : Option Value → Heap → Prop} (hp : plainFor y = true) (hw : ∀ d ∈ tbl, d.before a0 Z = true) (hn : n0 ≤ h0.size) (hef : ∀ m, entryFrame m as ml = mkF m 0 Ls [])
    (body : ∀ p e s m below meth c T, KCx tbl y.name cod ml ret p meth c Z a0 → KPos wd p l e rm s m as below meth c Z y.cls n0 h0 ws T h0 0 0 → KGo p e below (KEnd wd s n0 h0 ws Q rm.cells rm.slots) T m 0 Ls []) : KCt wd l y cod ml ret rm Z n0 h0 as ws Q := by
  intro wsc
  refine MetFree.of_bodySF hp hisR ?_
  intro p e s m args below meth c s₁ Bd hml0 hP hK
  obtain ⟨rfl, hZ, hh⟩ := hP
  have B : KBase wd s s h0.size := by
    cases wd
    · rfl
    · exact ⟨s.vm, 0, rfl, State.WarmedH.since (State.WarmedH.refl s) 0, Nat.zero_le _⟩
  have g := body p e s m below meth c s₁ ⟨Bd.exec, hw, Bd.bytes, hml0, Bd.returns, (name_of_methodNamed Bd.named Bd.method).1, Bd.notSynchronized⟩ ⟨s, [], Stand.of_body Bd, B, hZ, findClass_of_methodNamed Bd.named, by rw [← hh, Bd.state]; rfl, hn, Fr.nil _, Keep.refl _ _⟩
  obtain ⟨s₂, o, g1, g2, g3, v, L, g4, g5, g6⟩ := g
  exact ⟨s₂, o, castTop (hef m) g1, g2, g3, v, L, g4, g5, g6⟩
theorem KCt.plain {y : MethodName} {rm : Room} {as : Array Value} {Q : Option Value → Heap → Prop} (k : KCt false l y cod ml ret rm Z n0 h0 as ws Q) : MetFree l y (head1 [Jvm.Cond.code y cod ml ret] rm) (fun a U => a = as ∧ Z.Warmed39 U.vm ∧ U.heap = h0) (fun _ _ _ _ _ => True)
    (fun _ U o U' => ∃ v L, o = .returned v ∧ (Fr n0 L ∧ Keep h0 U'.heap ws ∧ Q v U'.heap) ∧ FrameEnd U o U' L rm.cells rm.slots) := k []
/-- a contract said more weakly -/
theorem KCt.imp {y : MethodName} {rm : Room} {as : Array Value} {Q Q' : Option Value → Heap → Prop} (k : KCt wd l y cod ml ret rm Z n0 h0 as ws Q) (q : ∀ v h, Q v h → Q' v h) : KCt wd l y cod ml ret rm Z n0 h0 as ws Q' := by
  intro wsc p e h1 h2 h3 s m args below h4 h5 h6 h7
  obtain ⟨n, o, g1, g2, g3, v, L, g4, ⟨g5, g6, g7⟩, g8⟩ := k wsc p e h1 h2 h3 s m args below h4 h5 h6 h7
  exact ⟨n, o, g1, g2, g3, v, L, g4, ⟨g5, g6, q _ _ g7⟩, g8⟩
/-! ### returns -/
theorem k_retVal {Q : Option Value → Heap → Prop} {kc ks : Nat} {v : Option Value} (C : KCx tbl nm cod ml ret p meth c Z a0) (P : KPos wd p l e R s m args below meth c Z own n0 h0 ws T h cells slots) (hv : ret = none → v = none) (hc : cells ≤ kc) (hs : slots ≤ ks) (hQ : Q v h)
    (q : ∀ fs, (∀ (f : JFrame) (acts : List Action), f.method = m → f.locked = none → f.entered = [] → (doReturn e (T.setTop f) acts v).1 = T.setFrames fs) → Steps p.tables e below (T.setTop (mkF m pc Ls st)) (T.setFrames fs)) : KGo p e below (KEnd wd s n0 h0 ws Q kc ks) T m pc Ls st := by
  obtain ⟨s', L, X, B, hZ, hown, eT, hn, hF, hk⟩ := P
  have hl : meth.locks = false := C.lk
  have X2 := X.more hc hs
  cases wd
  · cases B
    obtain ⟨fs, hr, hrun, hended, hW, hsame⟩ := X2.leave (v := v) (fun q => hv (C.rtE.symm.trans q)) hl
    exact ⟨_, _, q fs hr, hrun, hended, v, L, rfl, ⟨hF, by show Keep h0 T.heap ws; rw [eT]; exact hk, by show Q v T.heap; rw [eT]; exact hQ⟩, ⟨_, rfl⟩, hW, hsame⟩
  · obtain ⟨vm, k, rfl, hS, hk0⟩ := B
    obtain ⟨fs, hr, hrun, hended, hW⟩ := X2.leaveW hS (by rw [eT]; exact hk0) (v := v) (fun q => hv (C.rtE.symm.trans q)) hl
    exact ⟨_, _, q fs hr, hrun, hended, v, L, rfl, ⟨hF, by show Keep h0 T.heap ws; rw [eT]; exact hk, by show Q v T.heap; rw [eT]; exact hQ⟩, hW⟩
theorem k_retV {Q : Option Value → Heap → Prop} {kc ks : Nat} (C : KCx tbl nm cod ml none p meth c Z a0) (P : KPos wd p l e R s m args below meth c Z own n0 h0 ws T h cells slots) (hd : decode cod pc = .ok (.return_, 1)) (hc : cells ≤ kc) (hs : slots ≤ ks) (hQ : Q none h) : KGo p e below (KEnd wd s n0 h0 ws Q kc ks) T m pc Ls [] :=
  k_retVal C P (fun _ => rfl) hc hs hQ fun fs hr => by obtain ⟨s', L, X, -⟩ := P; exact X.returnOut C.1 C.rtE (hb C.cdE hd) hr
theorem k_retI {Q : Option Value → Heap → Prop} {kc ks : Nat} {z : Int32} (C : KCx tbl nm cod ml (some .int) p meth c Z a0) (P : KPos wd p l e R s m args below meth c Z own n0 h0 ws T h cells slots) (hd : decode cod pc = .ok (.ireturn, 1)) (hc : cells ≤ kc) (hs : slots ≤ ks) (hQ : Q (some (.int z)) h) : KGo p e below (KEnd wd s n0 h0 ws Q kc ks) T m pc Ls (.int z :: st) :=
  k_retVal C P (fun q => nomatch q) hc hs hQ fun fs hr => by
    obtain ⟨s', L, X, -⟩ := P
    exact retOut X C.1 C.rtE (rfl : narrow .int (.int z) = .int z) (Or.inl ⟨rfl, Or.inl rfl, _, rfl⟩) (hb C.cdE hd) hr
theorem k_retZ {Q : Option Value → Heap → Prop} {kc ks : Nat} {z z' : Int32} {t : FieldType} (C : KCx tbl nm cod ml (some t) p meth c Z a0) (P : KPos wd p l e R s m args below meth c Z own n0 h0 ws T h cells slots) (ht : t = .boolean ∨ t = .byte ∨ t = .char ∨ t = .short) (hd : decode cod pc = .ok (.ireturn, 1)) (hz : nar t z = z') (hc : cells ≤ kc) (hs : slots ≤ ks) (hQ : Q (some (.int z')) h) : KGo p e below (KEnd wd s n0 h0 ws Q kc ks) T m pc Ls (.int z :: st) :=
  k_retVal C P (fun q => nomatch q) hc hs hQ fun fs hr => by
    subst hz
    obtain ⟨s', L, X, -⟩ := P
    exact retN X C.1 C.rtE ht (hb C.cdE hd) hr
theorem k_retJ {Q : Option Value → Heap → Prop} {kc ks : Nat} {z : Int64} (C : KCx tbl nm cod ml (some .long) p meth c Z a0) (P : KPos wd p l e R s m args below meth c Z own n0 h0 ws T h cells slots) (hd : decode cod pc = .ok (.lreturn, 1)) (hc : cells ≤ kc) (hs : slots ≤ ks) (hQ : Q (some (.long z)) h) : KGo p e below (KEnd wd s n0 h0 ws Q kc ks) T m pc Ls (.long z :: st) :=
  k_retVal C P (fun q => nomatch q) hc hs hQ fun fs hr => by
    obtain ⟨s', L, X, -⟩ := P
    exact retOut X C.1 C.rtE (rfl : narrow .long (.long z) = .long z) (Or.inr (Or.inl ⟨rfl, rfl, _, rfl⟩)) (hb C.cdE hd) hr
theorem k_retD {Q : Option Value → Heap → Prop} {kc ks : Nat} {z : UInt64} (C : KCx tbl nm cod ml (some .double) p meth c Z a0) (P : KPos wd p l e R s m args below meth c Z own n0 h0 ws T h cells slots) (hd : decode cod pc = .ok (.dreturn, 1)) (hc : cells ≤ kc) (hs : slots ≤ ks) (hQ : Q (some (.double z)) h) : KGo p e below (KEnd wd s n0 h0 ws Q kc ks) T m pc Ls (.double z :: st) :=
  k_retVal C P (fun q => nomatch q) hc hs hQ fun fs hr => by
    obtain ⟨s', L, X, -⟩ := P
    exact retOut X C.1 C.rtE (rfl : narrow .double (.double z) = .double z) (Or.inr (Or.inr (Or.inl ⟨rfl, rfl, _, rfl⟩))) (hb C.cdE hd) hr
theorem k_narrow_ref {t : FieldType} {v : Value} (hv : v.isRef = true) : narrow t v = v := by rcases ref_cases hv with rfl | ⟨x, rfl⟩ <;> cases t <;> rfl
theorem k_retA {Q : Option Value → Heap → Prop} {kc ks : Nat} {v : Value} {t : FieldType} (C : KCx tbl nm cod ml (some t) p meth c Z a0) (P : KPos wd p l e R s m args below meth c Z own n0 h0 ws T h cells slots) (hd : decode cod pc = .ok (.areturn, 1)) (ht : t.isReference = true) (hv : v.isRef = true) (hc : cells ≤ kc) (hs : slots ≤ ks) (hQ : Q (some v) h) : KGo p e below (KEnd wd s n0 h0 ws Q kc ks) T m pc Ls (v :: st) :=
  k_retVal C P (fun q => nomatch q) hc hs hQ fun fs hr => by
    obtain ⟨s', L, X, -⟩ := P
    exact retOut X C.1 C.rtE (k_narrow_ref hv) (Or.inr (Or.inr (Or.inr (Or.inr ⟨rfl, ht, hv⟩)))) (hb C.cdE hd) hr
theorem k_10 : ¬ (1 : Int32) = 0 := by decide
theorem k_01 : (0 : Int32) = 0 := rfl
/-! ### branches -/
def CondP (cd : ClassFile.Cond) (x y : Int32) : Prop := match cd with | .eq => x = y | .ne => ¬ x = y | .lt => x < y | .ge => ¬ x < y | .gt => y < x | .le => ¬ y < x
def CondN (cd : ClassFile.Cond) (x y : Int32) : Prop := match cd with | .eq => ¬ x = y | .ne => x = y | .lt => ¬ x < y | .ge => x < y | .gt => ¬ y < x | .le => y < x
theorem k_condP {cd : ClassFile.Cond} {x y : Int32} (h : CondP cd x y) : if_icmp.holds cd x y = true := by
  cases cd <;> first | exact (teq h).1 | exact (feq h).2 | exact (tlt h).1 | exact (flt h).2.1 | exact (tlt h).2.2.1 | exact (flt h).2.2.2
theorem k_condN {cd : ClassFile.Cond} {x y : Int32} (h : CondN cd x y) : if_icmp.holds cd x y = false := by
  cases cd <;> first | exact (feq h).1 | exact (teq h).2 | exact (flt h).1 | exact (tlt h).2.1 | exact (flt h).2.2.1 | exact (tlt h).2.2.2
theorem k_condT {cd : ClassFile.Cond} (x y : Int32) : CondP cd x y ∨ CondN cd x y := by
  cases cd <;> simp only [CondP, CondN] <;> first | exact Classical.em _ | exact (Classical.em _).symm
theorem k_ifY {cd : ClassFile.Cond} {x : Int32} {o : Int} (C : KCx tbl nm cod ml ret p meth c Z a0) (P : KPos wd p l e R s m args below meth c Z own n0 h0 ws T h cells slots) (hd : decode cod pc = .ok (.ifCond cd o, 3)) (hc : CondP cd x 0) (ho : 0 ≤ (pc : Int) + o) {pc' : Nat} (hp : ((pc : Int) + o).toNat = pc') (k : KGo p e below K T m pc' Ls st) : KGo p e below K T m pc Ls (.int x :: st) :=
  k.step fun t q => XS.ifYes P.here C.1 rfl rfl (hb C.cdE hd) rfl ((if0 _ _).trans (k_condP hc)) ho hp q
theorem k_ifN {cd : ClassFile.Cond} {x : Int32} {o : Int} (C : KCx tbl nm cod ml ret p meth c Z a0) (P : KPos wd p l e R s m args below meth c Z own n0 h0 ws T h cells slots) (hd : decode cod pc = .ok (.ifCond cd o, 3)) (hc : CondN cd x 0) {pc' : Nat} (hp : pc + 3 = pc') (k : KGo p e below K T m pc' Ls st) : KGo p e below K T m pc Ls (.int x :: st) := by
  subst hp; exact k.step fun t q => XS.ifNo P.here C.1 rfl (hb C.cdE hd) rfl ((if0 _ _).trans (k_condN hc)) q
theorem k_ifB {cd : ClassFile.Cond} {x : Int32} {o : Int} (C : KCx tbl nm cod ml ret p meth c Z a0) (P : KPos wd p l e R s m args below meth c Z own n0 h0 ws T h cells slots) (hd : decode cod pc = .ok (.ifCond cd o, 3)) (ho : 0 ≤ (pc : Int) + o) {pcY pcN : Nat} (hp : ((pc : Int) + o).toNat = pcY) (hp' : pc + 3 = pcN) (kY : CondP cd x 0 → KGo p e below K T m pcY Ls st) (kN : CondN cd x 0 → KGo p e below K T m pcN Ls st) : KGo p e below K T m pc Ls (.int x :: st) :=
  (k_condT x 0).elim (fun q => k_ifY C P hd q ho hp (kY q)) (fun q => k_ifN C P hd q hp' (kN q))
theorem k_icY {cd : ClassFile.Cond} {x y : Int32} {o : Int} (C : KCx tbl nm cod ml ret p meth c Z a0) (P : KPos wd p l e R s m args below meth c Z own n0 h0 ws T h cells slots) (hd : decode cod pc = .ok (.if_icmp cd o, 3)) (hc : CondP cd x y) (ho : 0 ≤ (pc : Int) + o) {pc' : Nat} (hp : ((pc : Int) + o).toNat = pc') (k : KGo p e below K T m pc' Ls st) : KGo p e below K T m pc Ls (.int y :: .int x :: st) :=
  k.step fun t q => XS.icmpYes P.here C.1 rfl rfl (hb C.cdE hd) rfl (k_condP hc) ho hp q
theorem k_icN {cd : ClassFile.Cond} {x y : Int32} {o : Int} (C : KCx tbl nm cod ml ret p meth c Z a0) (P : KPos wd p l e R s m args below meth c Z own n0 h0 ws T h cells slots) (hd : decode cod pc = .ok (.if_icmp cd o, 3)) (hc : CondN cd x y) {pc' : Nat} (hp : pc + 3 = pc') (k : KGo p e below K T m pc' Ls st) : KGo p e below K T m pc Ls (.int y :: .int x :: st) := by
  subst hp; exact k.step fun t q => XS.icmpNo P.here C.1 rfl (hb C.cdE hd) rfl (k_condN hc) q
theorem k_icB {cd : ClassFile.Cond} {x y : Int32} {o : Int} (C : KCx tbl nm cod ml ret p meth c Z a0) (P : KPos wd p l e R s m args below meth c Z own n0 h0 ws T h cells slots) (hd : decode cod pc = .ok (.if_icmp cd o, 3)) (ho : 0 ≤ (pc : Int) + o) {pcY pcN : Nat} (hp : ((pc : Int) + o).toNat = pcY) (hp' : pc + 3 = pcN) (kY : CondP cd x y → KGo p e below K T m pcY Ls st) (kN : CondN cd x y → KGo p e below K T m pcN Ls st) : KGo p e below K T m pc Ls (.int y :: .int x :: st) :=
  (k_condT x y).elim (fun q => k_icY C P hd q ho hp (kY q)) (fun q => k_icN C P hd q hp' (kN q))
theorem k_goto {o : Int} (C : KCx tbl nm cod ml ret p meth c Z a0) (P : KPos wd p l e R s m args below meth c Z own n0 h0 ws T h cells slots) (hd : decode cod pc = .ok (.goto o, 3)) (ho : 0 ≤ (pc : Int) + o) {pc' : Nat} (hp : ((pc : Int) + o).toNat = pc') (k : KGo p e below K T m pc' Ls st) : KGo p e below K T m pc Ls st :=
  k.step fun t q => XS.goto P.here C.1 rfl rfl (hb C.cdE hd) ho hp q
theorem k_nullY {o : Int} (C : KCx tbl nm cod ml ret p meth c Z a0) (P : KPos wd p l e R s m args below meth c Z own n0 h0 ws T h cells slots) (hd : decode cod pc = .ok (.ifnull o, 3)) (ho : 0 ≤ (pc : Int) + o) {pc' : Nat} (hp : ((pc : Int) + o).toNat = pc') (k : KGo p e below K T m pc' Ls st) : KGo p e below K T m pc Ls (.null :: st) :=
  k.step fun t q => XS.ifnullYes P.here C.1 rfl rfl (hb C.cdE hd) rfl ho hp q
theorem k_nullN {o : Int} (C : KCx tbl nm cod ml ret p meth c Z a0) (P : KPos wd p l e R s m args below meth c Z own n0 h0 ws T h cells slots) (hd : decode cod pc = .ok (.ifnull o, 3)) {pc' : Nat} (hp : pc + 3 = pc') (k : KGo p e below K T m pc' Ls st) : KGo p e below K T m pc Ls (.ref a :: st) := by
  subst hp; exact k.step fun t q => XS.ifnullNo P.here C.1 rfl (hb C.cdE hd) rfl q
theorem k_nonnullY {o : Int} (C : KCx tbl nm cod ml ret p meth c Z a0) (P : KPos wd p l e R s m args below meth c Z own n0 h0 ws T h cells slots) (hd : decode cod pc = .ok (.ifnonnull o, 3)) (ho : 0 ≤ (pc : Int) + o) {pc' : Nat} (hp : ((pc : Int) + o).toNat = pc') (k : KGo p e below K T m pc' Ls st) : KGo p e below K T m pc Ls (.ref a :: st) :=
  k.step fun t q => XS.ifnonnullYes P.here C.1 rfl rfl (hb C.cdE hd) rfl ho hp q
theorem k_nonnullN {o : Int} (C : KCx tbl nm cod ml ret p meth c Z a0) (P : KPos wd p l e R s m args below meth c Z own n0 h0 ws T h cells slots) (hd : decode cod pc = .ok (.ifnonnull o, 3)) {pc' : Nat} (hp : pc + 3 = pc') (k : KGo p e below K T m pc' Ls st) : KGo p e below K T m pc Ls (.null :: st) := by
  subst hp; exact k.step fun t q => XS.ifnonnullNo P.here C.1 rfl (hb C.cdE hd) rfl q
theorem k_acB {cd : ClassFile.ACond} {x y : Value} {o : Int} (C : KCx tbl nm cod ml ret p meth c Z a0) (P : KPos wd p l e R s m args below meth c Z own n0 h0 ws T h cells slots) (hd : decode cod pc = .ok (.if_acmp cd o, 3)) (hx : x.isRef = true) (hy : y.isRef = true) (ho : 0 ≤ (pc : Int) + o) {pcY pcN : Nat} (hp : ((pc : Int) + o).toNat = pcY) (hp' : pc + 3 = pcN)
    (kY : XT.acmp cd x y = true → KGo p e below K T m pcY Ls st) (kN : XT.acmp cd x y = false → KGo p e below K T m pcN Ls st) : KGo p e below K T m pc Ls (y :: x :: st) := by
  cases q : XT.acmp cd x y
  · subst hp'; exact (kN q).step fun t r => XT.acmpNo P.here C.1 rfl (hb C.cdE hd) rfl hx hy q r
  · exact (kY q).step fun t r => XT.acmpYes P.here C.1 rfl rfl (hb C.cdE hd) rfl hx hy q ho hp r
/-- a condition laid on the stack as 1 or 0: if.., iconst, k_goto, iconst -/
theorem k_ternIf {cd : ClassFile.Cond} {x : Int32} {o : Int} {i j : Int} {vN vY : Int32} {Pp : Prop} [Decidable Pp] (C : KCx tbl nm cod ml ret p meth c Z a0) (P : KPos wd p l e R s m args below meth c Z own n0 h0 ws T h cells slots)
    (hd : decode cod pc = .ok (.ifCond cd o, 3)) {p1 p2 p3 p4 : Nat} (d1 : decode cod p1 = .ok (.iconst i, 1)) (d2 : decode cod p2 = .ok (.goto 4, 3)) (d3 : decode cod p3 = .ok (.iconst j, 1)) (q1 : pc + 3 = p1) (q2 : p1 + 1 = p2) (q3 : ((pc : Int) + o).toNat = p3) (q0 : 0 ≤ (pc : Int) + o) (q4 : p3 + 1 = p4) (q5 : p2 + 4 = p4)
    (hi : Int32.ofInt i = vN) (hj : Int32.ofInt j = vY) (hY : CondP cd x 0 → Pp) (hN : CondN cd x 0 → ¬ Pp) (k : KGo p e below K T m p4 Ls (.int (if Pp then vY else vN) :: st)) : KGo p e below K T m pc Ls (.int x :: st) := by
  refine k_ifB C P hd q0 q3 q1 (fun q => ?_) (fun q => ?_)
  · rw [if_pos (hY q)] at k
    subst q4 hj; exact k.step fun t r => XS.iconst P.here C.1 rfl (hb C.cdE d3) r
  · rw [if_neg (hN q)] at k
    subst hi q2
    have k2 : KGo p e below K T m (p1 + 1) Ls (.int (Int32.ofInt i) :: st) := k_goto C P d2 (by omega) (by omega) k
    exact k2.step fun t r => XS.iconst P.here C.1 rfl (hb C.cdE d1) r
theorem k_ternIc {cd : ClassFile.Cond} {x y : Int32} {o : Int} {i j : Int} {vN vY : Int32} {Pp : Prop} [Decidable Pp] (C : KCx tbl nm cod ml ret p meth c Z a0) (P : KPos wd p l e R s m args below meth c Z own n0 h0 ws T h cells slots)
    (hd : decode cod pc = .ok (.if_icmp cd o, 3)) {p1 p2 p3 p4 : Nat} (d1 : decode cod p1 = .ok (.iconst i, 1)) (d2 : decode cod p2 = .ok (.goto 4, 3)) (d3 : decode cod p3 = .ok (.iconst j, 1)) (q1 : pc + 3 = p1) (q2 : p1 + 1 = p2) (q3 : ((pc : Int) + o).toNat = p3) (q0 : 0 ≤ (pc : Int) + o) (q4 : p3 + 1 = p4) (q5 : p2 + 4 = p4)
    (hi : Int32.ofInt i = vN) (hj : Int32.ofInt j = vY) (hY : CondP cd x y → Pp) (hN : CondN cd x y → ¬ Pp) (k : KGo p e below K T m p4 Ls (.int (if Pp then vY else vN) :: st)) : KGo p e below K T m pc Ls (.int y :: .int x :: st) := by
  refine k_icB C P hd q0 q3 q1 (fun q => ?_) (fun q => ?_)
  · rw [if_pos (hY q)] at k
    subst q4 hj; exact k.step fun t r => XS.iconst P.here C.1 rfl (hb C.cdE d3) r
  · rw [if_neg (hN q)] at k
    subst hi q2
    have k2 : KGo p e below K T m (p1 + 1) Ls (.int (Int32.ofInt i) :: st) := k_goto C P d2 (by omega) (by omega) k
    exact k2.step fun t r => XS.iconst P.here C.1 rfl (hb C.cdE d1) r
theorem k_iload (C : KCx tbl nm cod ml ret p meth c Z a0) (P : KPos wd p l e R s m args below meth c Z own n0 h0 ws T h cells slots) {k : Nat} {v : Int32} (hd : decode cod pc = .ok (.iload k, 2)) (hl : Ls[k]? = some (.val (.int v))) {pc' : Nat} (hp : pc + 2 = pc') (k' : KGo p e below K T m pc' Ls (.int v :: st)) : KGo p e below K T m pc Ls (st) := by
  subst hp; exact k'.step fun t q => XS.iload P.here C.1 rfl (hb C.cdE hd) hl q
theorem k_iloadN (C : KCx tbl nm cod ml ret p meth c Z a0) (P : KPos wd p l e R s m args below meth c Z own n0 h0 ws T h cells slots) {k : Fin 4} {v : Int32} (hd : decode cod pc = .ok (.iload_n k, 1)) (hl : Ls[k.val]? = some (.val (.int v))) {pc' : Nat} (hp : pc + 1 = pc') (k' : KGo p e below K T m pc' Ls (.int v :: st)) : KGo p e below K T m pc Ls (st) := by
  subst hp; exact k'.step fun t q => XS.iloadN P.here C.1 rfl (hb C.cdE hd) hl q
theorem k_istore (C : KCx tbl nm cod ml ret p meth c Z a0) (P : KPos wd p l e R s m args below meth c Z own n0 h0 ws T h cells slots) {k : Nat} {x : Int32} {l' : Array Slot} (hd : decode cod pc = .ok (.istore k, 2)) (hl : storeLocals Ls k (.int x) = some l') {pc' : Nat} (hp : pc + 2 = pc') (k' : KGo p e below K T m pc' l' (st)) : KGo p e below K T m pc Ls (.int x :: st) := by
  subst hp; exact k'.step fun t q => XS.istore P.here C.1 rfl (hb C.cdE hd) rfl hl q
theorem k_istoreN (C : KCx tbl nm cod ml ret p meth c Z a0) (P : KPos wd p l e R s m args below meth c Z own n0 h0 ws T h cells slots) {k : Fin 4} {x : Int32} {l' : Array Slot} (hd : decode cod pc = .ok (.istore_n k, 1)) (hl : storeLocals Ls k.val (.int x) = some l') {pc' : Nat} (hp : pc + 1 = pc') (k' : KGo p e below K T m pc' l' (st)) : KGo p e below K T m pc Ls (.int x :: st) := by
  subst hp; exact k'.step fun t q => XS.istoreN P.here C.1 rfl (hb C.cdE hd) rfl hl q
theorem k_lload (C : KCx tbl nm cod ml ret p meth c Z a0) (P : KPos wd p l e R s m args below meth c Z own n0 h0 ws T h cells slots) {k : Nat} {v : Int64} (hd : decode cod pc = .ok (.lload k, 2)) (hl : Ls[k]? = some (.val (.long v))) {pc' : Nat} (hp : pc + 2 = pc') (k' : KGo p e below K T m pc' Ls (.long v :: st)) : KGo p e below K T m pc Ls (st) := by
  subst hp; exact k'.step fun t q => XS.lload P.here C.1 rfl (hb C.cdE hd) hl q
theorem k_lloadN (C : KCx tbl nm cod ml ret p meth c Z a0) (P : KPos wd p l e R s m args below meth c Z own n0 h0 ws T h cells slots) {k : Fin 4} {v : Int64} (hd : decode cod pc = .ok (.lload_n k, 1)) (hl : Ls[k.val]? = some (.val (.long v))) {pc' : Nat} (hp : pc + 1 = pc') (k' : KGo p e below K T m pc' Ls (.long v :: st)) : KGo p e below K T m pc Ls (st) := by
  subst hp; exact k'.step fun t q => XS.lloadN P.here C.1 rfl (hb C.cdE hd) hl q
theorem k_lstore (C : KCx tbl nm cod ml ret p meth c Z a0) (P : KPos wd p l e R s m args below meth c Z own n0 h0 ws T h cells slots) {k : Nat} {x : Int64} {l' : Array Slot} (hd : decode cod pc = .ok (.lstore k, 2)) (hl : storeLocals Ls k (.long x) = some l') {pc' : Nat} (hp : pc + 2 = pc') (k' : KGo p e below K T m pc' l' (st)) : KGo p e below K T m pc Ls (.long x :: st) := by
  subst hp; exact k'.step fun t q => XS.lstore P.here C.1 rfl (hb C.cdE hd) rfl hl q
theorem k_lstoreN (C : KCx tbl nm cod ml ret p meth c Z a0) (P : KPos wd p l e R s m args below meth c Z own n0 h0 ws T h cells slots) {k : Fin 4} {x : Int64} {l' : Array Slot} (hd : decode cod pc = .ok (.lstore_n k, 1)) (hl : storeLocals Ls k.val (.long x) = some l') {pc' : Nat} (hp : pc + 1 = pc') (k' : KGo p e below K T m pc' l' (st)) : KGo p e below K T m pc Ls (.long x :: st) := by
  subst hp; exact k'.step fun t q => XS.lstoreN P.here C.1 rfl (hb C.cdE hd) rfl hl q
theorem k_aload (C : KCx tbl nm cod ml ret p meth c Z a0) (P : KPos wd p l e R s m args below meth c Z own n0 h0 ws T h cells slots) {k : Nat} {v : Value} (hd : decode cod pc = .ok (.aload k, 2)) (hl : Ls[k]? = some (.val v)) (hv : v.isRef = true) {pc' : Nat} (hp : pc + 2 = pc') (k' : KGo p e below K T m pc' Ls (v :: st)) : KGo p e below K T m pc Ls (st) := by
  subst hp; exact k'.step fun t q => XS.aload P.here C.1 rfl (hb C.cdE hd) hl hv q
theorem k_aloadN (C : KCx tbl nm cod ml ret p meth c Z a0) (P : KPos wd p l e R s m args below meth c Z own n0 h0 ws T h cells slots) {k : Fin 4} {v : Value} (hd : decode cod pc = .ok (.aload_n k, 1)) (hl : Ls[k.val]? = some (.val v)) (hv : v.isRef = true) {pc' : Nat} (hp : pc + 1 = pc') (k' : KGo p e below K T m pc' Ls (v :: st)) : KGo p e below K T m pc Ls (st) := by
  subst hp; exact k'.step fun t q => XS.aloadN P.here C.1 rfl (hb C.cdE hd) hl hv q
theorem k_astore (C : KCx tbl nm cod ml ret p meth c Z a0) (P : KPos wd p l e R s m args below meth c Z own n0 h0 ws T h cells slots) {k : Nat} {x : Value} {l' : Array Slot} (hd : decode cod pc = .ok (.astore k, 2)) (hv : x.isRef = true) (hl : storeLocals Ls k x = some l') {pc' : Nat} (hp : pc + 2 = pc') (k' : KGo p e below K T m pc' l' (st)) : KGo p e below K T m pc Ls (x :: st) := by
  subst hp; exact k'.step fun t q => XS.astore P.here C.1 rfl (hb C.cdE hd) rfl hv hl q
theorem k_astoreN (C : KCx tbl nm cod ml ret p meth c Z a0) (P : KPos wd p l e R s m args below meth c Z own n0 h0 ws T h cells slots) {k : Fin 4} {x : Value} {l' : Array Slot} (hd : decode cod pc = .ok (.astore_n k, 1)) (hv : x.isRef = true) (hl : storeLocals Ls k.val x = some l') {pc' : Nat} (hp : pc + 1 = pc') (k' : KGo p e below K T m pc' l' (st)) : KGo p e below K T m pc Ls (x :: st) := by
  subst hp; exact k'.step fun t q => XS.astoreN P.here C.1 rfl (hb C.cdE hd) rfl hv hl q
theorem k_iconst (C : KCx tbl nm cod ml ret p meth c Z a0) (P : KPos wd p l e R s m args below meth c Z own n0 h0 ws T h cells slots) {i : Int} {z : Int32} (hd : decode cod pc = .ok (.iconst i, 1)) (hz : Int32.ofInt i = z) {pc' : Nat} (hp : pc + 1 = pc') (k' : KGo p e below K T m pc' Ls (.int z :: st)) : KGo p e below K T m pc Ls (st) := by
  subst hp; exact k'.step fun t q => XS.iconst P.here C.1 rfl (hb C.cdE hd) (hz ▸ q)
theorem k_bipush (C : KCx tbl nm cod ml ret p meth c Z a0) (P : KPos wd p l e R s m args below meth c Z own n0 h0 ws T h cells slots) {i : Int} {z : Int32} (hd : decode cod pc = .ok (.bipush i, 2)) (hz : (Int8.ofInt i).toInt32 = z) {pc' : Nat} (hp : pc + 2 = pc') (k' : KGo p e below K T m pc' Ls (.int z :: st)) : KGo p e below K T m pc Ls (st) := by
  subst hp; exact k'.step fun t q => XS.bipush P.here C.1 rfl (hb C.cdE hd) (hz ▸ q)
theorem k_sipush (C : KCx tbl nm cod ml ret p meth c Z a0) (P : KPos wd p l e R s m args below meth c Z own n0 h0 ws T h cells slots) {i : Int} {z : Int32} (hd : decode cod pc = .ok (.sipush i, 3)) (hz : (Int16.ofInt i).toInt32 = z) {pc' : Nat} (hp : pc + 3 = pc') (k' : KGo p e below K T m pc' Ls (.int z :: st)) : KGo p e below K T m pc Ls (st) := by
  subst hp; exact k'.step fun t q => XS.sipush P.here C.1 rfl (hb C.cdE hd) (hz ▸ q)
theorem k_lconst (C : KCx tbl nm cod ml ret p meth c Z a0) (P : KPos wd p l e R s m args below meth c Z own n0 h0 ws T h cells slots) {i : Fin 2} {z : Int64} (hd : decode cod pc = .ok (.lconst i, 1)) (hz : Int64.ofNat i = z) {pc' : Nat} (hp : pc + 1 = pc') (k' : KGo p e below K T m pc' Ls (.long z :: st)) : KGo p e below K T m pc Ls (st) := by
  subst hp; exact k'.step fun t q => XS.lconst P.here C.1 rfl (hb C.cdE hd) (hz ▸ q)
theorem k_aconstNull (C : KCx tbl nm cod ml ret p meth c Z a0) (P : KPos wd p l e R s m args below meth c Z own n0 h0 ws T h cells slots)  (hd : decode cod pc = .ok (.aconst_null, 1))  {pc' : Nat} (hp : pc + 1 = pc') (k' : KGo p e below K T m pc' Ls (.null :: st)) : KGo p e below K T m pc Ls (st) := by
  subst hp; exact k'.step fun t q => XS.aconstNull P.here C.1 rfl (hb C.cdE hd) q
theorem k_iadd (C : KCx tbl nm cod ml ret p meth c Z a0) (P : KPos wd p l e R s m args below meth c Z own n0 h0 ws T h cells slots) {x y : Int32} (hd : decode cod pc = .ok (.iadd, 1))  {pc' : Nat} (hp : pc + 1 = pc') (k' : KGo p e below K T m pc' Ls (.int (x + y) :: st)) : KGo p e below K T m pc Ls (.int y :: .int x :: st) := by
  subst hp; exact k'.step fun t q => XS.iadd P.here C.1 rfl (hb C.cdE hd) rfl q
theorem k_isub (C : KCx tbl nm cod ml ret p meth c Z a0) (P : KPos wd p l e R s m args below meth c Z own n0 h0 ws T h cells slots) {x y : Int32} (hd : decode cod pc = .ok (.isub, 1))  {pc' : Nat} (hp : pc + 1 = pc') (k' : KGo p e below K T m pc' Ls (.int (x - y) :: st)) : KGo p e below K T m pc Ls (.int y :: .int x :: st) := by
  subst hp; exact k'.step fun t q => XS.isub P.here C.1 rfl (hb C.cdE hd) rfl q
theorem k_imul (C : KCx tbl nm cod ml ret p meth c Z a0) (P : KPos wd p l e R s m args below meth c Z own n0 h0 ws T h cells slots) {x y : Int32} (hd : decode cod pc = .ok (.imul, 1))  {pc' : Nat} (hp : pc + 1 = pc') (k' : KGo p e below K T m pc' Ls (.int (x * y) :: st)) : KGo p e below K T m pc Ls (.int y :: .int x :: st) := by
  subst hp; exact k'.step fun t q => XS.imul P.here C.1 rfl (hb C.cdE hd) rfl q
theorem k_iand (C : KCx tbl nm cod ml ret p meth c Z a0) (P : KPos wd p l e R s m args below meth c Z own n0 h0 ws T h cells slots) {x y : Int32} (hd : decode cod pc = .ok (.iand, 1))  {pc' : Nat} (hp : pc + 1 = pc') (k' : KGo p e below K T m pc' Ls (.int (x &&& y) :: st)) : KGo p e below K T m pc Ls (.int y :: .int x :: st) := by
  subst hp; exact k'.step fun t q => XS.iand P.here C.1 rfl (hb C.cdE hd) rfl q
theorem k_ior (C : KCx tbl nm cod ml ret p meth c Z a0) (P : KPos wd p l e R s m args below meth c Z own n0 h0 ws T h cells slots) {x y : Int32} (hd : decode cod pc = .ok (.ior, 1))  {pc' : Nat} (hp : pc + 1 = pc') (k' : KGo p e below K T m pc' Ls (.int (x ||| y) :: st)) : KGo p e below K T m pc Ls (.int y :: .int x :: st) := by
  subst hp; exact k'.step fun t q => XS.ior P.here C.1 rfl (hb C.cdE hd) rfl q
theorem k_ixor (C : KCx tbl nm cod ml ret p meth c Z a0) (P : KPos wd p l e R s m args below meth c Z own n0 h0 ws T h cells slots) {x y : Int32} (hd : decode cod pc = .ok (.ixor, 1))  {pc' : Nat} (hp : pc + 1 = pc') (k' : KGo p e below K T m pc' Ls (.int (x ^^^ y) :: st)) : KGo p e below K T m pc Ls (.int y :: .int x :: st) := by
  subst hp; exact k'.step fun t q => XS.ixor P.here C.1 rfl (hb C.cdE hd) rfl q
theorem k_ishl (C : KCx tbl nm cod ml ret p meth c Z a0) (P : KPos wd p l e R s m args below meth c Z own n0 h0 ws T h cells slots) {x y : Int32} (hd : decode cod pc = .ok (.ishl, 1))  {pc' : Nat} (hp : pc + 1 = pc') (k' : KGo p e below K T m pc' Ls (.int (x <<< (y &&& 31)) :: st)) : KGo p e below K T m pc Ls (.int y :: .int x :: st) := by
  subst hp; exact k'.step fun t q => XS.ishl P.here C.1 rfl (hb C.cdE hd) rfl q
theorem k_ishr (C : KCx tbl nm cod ml ret p meth c Z a0) (P : KPos wd p l e R s m args below meth c Z own n0 h0 ws T h cells slots) {x y : Int32} (hd : decode cod pc = .ok (.ishr, 1))  {pc' : Nat} (hp : pc + 1 = pc') (k' : KGo p e below K T m pc' Ls (.int (x >>> (y &&& 31)) :: st)) : KGo p e below K T m pc Ls (.int y :: .int x :: st) := by
  subst hp; exact k'.step fun t q => XS.ishr P.here C.1 rfl (hb C.cdE hd) rfl q
theorem k_iushr (C : KCx tbl nm cod ml ret p meth c Z a0) (P : KPos wd p l e R s m args below meth c Z own n0 h0 ws T h cells slots) {x y : Int32} (hd : decode cod pc = .ok (.iushr, 1))  {pc' : Nat} (hp : pc + 1 = pc') (k' : KGo p e below K T m pc' Ls (.int (k_ushr x y) :: st)) : KGo p e below K T m pc Ls (.int y :: .int x :: st) := by
  subst hp; exact k'.step fun t q => XS.iushr P.here C.1 rfl (hb C.cdE hd) rfl q
theorem k_ladd (C : KCx tbl nm cod ml ret p meth c Z a0) (P : KPos wd p l e R s m args below meth c Z own n0 h0 ws T h cells slots) {x y : Int64} (hd : decode cod pc = .ok (.ladd, 1))  {pc' : Nat} (hp : pc + 1 = pc') (k' : KGo p e below K T m pc' Ls (.long (x + y) :: st)) : KGo p e below K T m pc Ls (.long y :: .long x :: st) := by
  subst hp; exact k'.step fun t q => XS.ladd P.here C.1 rfl (hb C.cdE hd) rfl q
theorem k_lsub (C : KCx tbl nm cod ml ret p meth c Z a0) (P : KPos wd p l e R s m args below meth c Z own n0 h0 ws T h cells slots) {x y : Int64} (hd : decode cod pc = .ok (.lsub, 1))  {pc' : Nat} (hp : pc + 1 = pc') (k' : KGo p e below K T m pc' Ls (.long (x - y) :: st)) : KGo p e below K T m pc Ls (.long y :: .long x :: st) := by
  subst hp; exact k'.step fun t q => XS.lsub P.here C.1 rfl (hb C.cdE hd) rfl q
theorem k_lmul (C : KCx tbl nm cod ml ret p meth c Z a0) (P : KPos wd p l e R s m args below meth c Z own n0 h0 ws T h cells slots) {x y : Int64} (hd : decode cod pc = .ok (.lmul, 1))  {pc' : Nat} (hp : pc + 1 = pc') (k' : KGo p e below K T m pc' Ls (.long (x * y) :: st)) : KGo p e below K T m pc Ls (.long y :: .long x :: st) := by
  subst hp; exact k'.step fun t q => XS.lmul P.here C.1 rfl (hb C.cdE hd) rfl q
theorem k_land (C : KCx tbl nm cod ml ret p meth c Z a0) (P : KPos wd p l e R s m args below meth c Z own n0 h0 ws T h cells slots) {x y : Int64} (hd : decode cod pc = .ok (.land, 1))  {pc' : Nat} (hp : pc + 1 = pc') (k' : KGo p e below K T m pc' Ls (.long (x &&& y) :: st)) : KGo p e below K T m pc Ls (.long y :: .long x :: st) := by
  subst hp; exact k'.step fun t q => XS.land P.here C.1 rfl (hb C.cdE hd) rfl q
theorem k_lor (C : KCx tbl nm cod ml ret p meth c Z a0) (P : KPos wd p l e R s m args below meth c Z own n0 h0 ws T h cells slots) {x y : Int64} (hd : decode cod pc = .ok (.lor, 1))  {pc' : Nat} (hp : pc + 1 = pc') (k' : KGo p e below K T m pc' Ls (.long (x ||| y) :: st)) : KGo p e below K T m pc Ls (.long y :: .long x :: st) := by
  subst hp; exact k'.step fun t q => XS.lor P.here C.1 rfl (hb C.cdE hd) rfl q
theorem k_lxor (C : KCx tbl nm cod ml ret p meth c Z a0) (P : KPos wd p l e R s m args below meth c Z own n0 h0 ws T h cells slots) {x y : Int64} (hd : decode cod pc = .ok (.lxor, 1))  {pc' : Nat} (hp : pc + 1 = pc') (k' : KGo p e below K T m pc' Ls (.long (x ^^^ y) :: st)) : KGo p e below K T m pc Ls (.long y :: .long x :: st) := by
  subst hp; exact k'.step fun t q => XS.lxor P.here C.1 rfl (hb C.cdE hd) rfl q
theorem k_lshl (C : KCx tbl nm cod ml ret p meth c Z a0) (P : KPos wd p l e R s m args below meth c Z own n0 h0 ws T h cells slots) {x : Int64} {y : Int32} (hd : decode cod pc = .ok (.lshl, 1))  {pc' : Nat} (hp : pc + 1 = pc') (k' : KGo p e below K T m pc' Ls (.long (x <<< (y &&& 63).toInt64) :: st)) : KGo p e below K T m pc Ls (.int y :: .long x :: st) := by
  subst hp; exact k'.step fun t q => XS.lshl P.here C.1 rfl (hb C.cdE hd) rfl q
theorem k_lshr (C : KCx tbl nm cod ml ret p meth c Z a0) (P : KPos wd p l e R s m args below meth c Z own n0 h0 ws T h cells slots) {x : Int64} {y : Int32} (hd : decode cod pc = .ok (.lshr, 1))  {pc' : Nat} (hp : pc + 1 = pc') (k' : KGo p e below K T m pc' Ls (.long (x >>> (y &&& 63).toInt64) :: st)) : KGo p e below K T m pc Ls (.int y :: .long x :: st) := by
  subst hp; exact k'.step fun t q => XS.lshr P.here C.1 rfl (hb C.cdE hd) rfl q
theorem k_lushr (C : KCx tbl nm cod ml ret p meth c Z a0) (P : KPos wd p l e R s m args below meth c Z own n0 h0 ws T h cells slots) {x : Int64} {y : Int32} (hd : decode cod pc = .ok (.lushr, 1))  {pc' : Nat} (hp : pc + 1 = pc') (k' : KGo p e below K T m pc' Ls (.long (k_ushrL x y) :: st)) : KGo p e below K T m pc Ls (.int y :: .long x :: st) := by
  subst hp; exact k'.step fun t q => XS.lushr P.here C.1 rfl (hb C.cdE hd) rfl q
theorem k_lcmp (C : KCx tbl nm cod ml ret p meth c Z a0) (P : KPos wd p l e R s m args below meth c Z own n0 h0 ws T h cells slots) {x y : Int64} (hd : decode cod pc = .ok (.lcmp, 1))  {pc' : Nat} (hp : pc + 1 = pc') (k' : KGo p e below K T m pc' Ls (.int (k_cmpL x y) :: st)) : KGo p e below K T m pc Ls (.long y :: .long x :: st) := by
  subst hp; exact k'.step fun t q => XS.lcmp P.here C.1 rfl (hb C.cdE hd) rfl q
theorem k_i2l (C : KCx tbl nm cod ml ret p meth c Z a0) (P : KPos wd p l e R s m args below meth c Z own n0 h0 ws T h cells slots) {x : Int32} (hd : decode cod pc = .ok (.i2l, 1))  {pc' : Nat} (hp : pc + 1 = pc') (k' : KGo p e below K T m pc' Ls (.long (x.toInt64) :: st)) : KGo p e below K T m pc Ls (.int x :: st) := by
  subst hp; exact k'.step fun t q => XS.i2l P.here C.1 rfl (hb C.cdE hd) rfl q
theorem k_l2i (C : KCx tbl nm cod ml ret p meth c Z a0) (P : KPos wd p l e R s m args below meth c Z own n0 h0 ws T h cells slots) {x : Int64} (hd : decode cod pc = .ok (.l2i, 1))  {pc' : Nat} (hp : pc + 1 = pc') (k' : KGo p e below K T m pc' Ls (.int (x.toInt32) :: st)) : KGo p e below K T m pc Ls (.long x :: st) := by
  subst hp; exact k'.step fun t q => XS.l2i P.here C.1 rfl (hb C.cdE hd) rfl q
theorem k_i2b (C : KCx tbl nm cod ml ret p meth c Z a0) (P : KPos wd p l e R s m args below meth c Z own n0 h0 ws T h cells slots) {x : Int32} (hd : decode cod pc = .ok (.i2b, 1))  {pc' : Nat} (hp : pc + 1 = pc') (k' : KGo p e below K T m pc' Ls (.int (x.toInt8.toInt32) :: st)) : KGo p e below K T m pc Ls (.int x :: st) := by
  subst hp; exact k'.step fun t q => XS.i2b P.here C.1 rfl (hb C.cdE hd) rfl q
theorem k_i2c (C : KCx tbl nm cod ml ret p meth c Z a0) (P : KPos wd p l e R s m args below meth c Z own n0 h0 ws T h cells slots) {x : Int32} (hd : decode cod pc = .ok (.i2c, 1))  {pc' : Nat} (hp : pc + 1 = pc') (k' : KGo p e below K T m pc' Ls (.int (x.toUInt32.toUInt16.toUInt32.toInt32) :: st)) : KGo p e below K T m pc Ls (.int x :: st) := by
  subst hp; exact k'.step fun t q => XS.i2c P.here C.1 rfl (hb C.cdE hd) rfl q
theorem k_i2s (C : KCx tbl nm cod ml ret p meth c Z a0) (P : KPos wd p l e R s m args below meth c Z own n0 h0 ws T h cells slots) {x : Int32} (hd : decode cod pc = .ok (.i2s, 1))  {pc' : Nat} (hp : pc + 1 = pc') (k' : KGo p e below K T m pc' Ls (.int (x.toInt16.toInt32) :: st)) : KGo p e below K T m pc Ls (.int x :: st) := by
  subst hp; exact k'.step fun t q => XS.i2s P.here C.1 rfl (hb C.cdE hd) rfl q
theorem k_ineg (C : KCx tbl nm cod ml ret p meth c Z a0) (P : KPos wd p l e R s m args below meth c Z own n0 h0 ws T h cells slots) {x : Int32} (hd : decode cod pc = .ok (.ineg, 1))  {pc' : Nat} (hp : pc + 1 = pc') (k' : KGo p e below K T m pc' Ls (.int (-x) :: st)) : KGo p e below K T m pc Ls (.int x :: st) := by
  subst hp; exact k'.step fun t q => XS.ineg P.here C.1 rfl (hb C.cdE hd) rfl q
theorem k_lneg (C : KCx tbl nm cod ml ret p meth c Z a0) (P : KPos wd p l e R s m args below meth c Z own n0 h0 ws T h cells slots) {x : Int64} (hd : decode cod pc = .ok (.lneg, 1))  {pc' : Nat} (hp : pc + 1 = pc') (k' : KGo p e below K T m pc' Ls (.long (-x) :: st)) : KGo p e below K T m pc Ls (.long x :: st) := by
  subst hp; exact k'.step fun t q => XS.lneg P.here C.1 rfl (hb C.cdE hd) rfl q
theorem k_irem (C : KCx tbl nm cod ml ret p meth c Z a0) (P : KPos wd p l e R s m args below meth c Z own n0 h0 ws T h cells slots) {x y : Int32} (hd : decode cod pc = .ok (.irem, 1)) (hy : y ≠ 0) {pc' : Nat} (hp : pc + 1 = pc') (k' : KGo p e below K T m pc' Ls (.int (x % y) :: st)) : KGo p e below K T m pc Ls (.int y :: .int x :: st) := by
  subst hp; exact k'.step fun t q => XS.irem P.here C.1 rfl (hb C.cdE hd) rfl hy (by rw [irem_eq_mod]; exact q)
theorem k_idiv (C : KCx tbl nm cod ml ret p meth c Z a0) (P : KPos wd p l e R s m args below meth c Z own n0 h0 ws T h cells slots) {x y : Int32} (hd : decode cod pc = .ok (.idiv, 1)) (hy : y ≠ 0) {pc' : Nat} (hp : pc + 1 = pc') (k' : KGo p e below K T m pc' Ls (.int (x / y) :: st)) : KGo p e below K T m pc Ls (.int y :: .int x :: st) := by
  subst hp; exact k'.step fun t q => XS.idiv P.here C.1 rfl (hb C.cdE hd) rfl hy q
theorem k_iinc (C : KCx tbl nm cod ml ret p meth c Z a0) (P : KPos wd p l e R s m args below meth c Z own n0 h0 ws T h cells slots) {k : Nat} {cst : Int} {x z : Int32} {l' : Array Slot} (hd : decode cod pc = .ok (.iinc k cst, 3)) (hl : Ls[k]? = some (.val (.int x))) (hz : x + Int32.ofInt cst = z) (hl' : storeLocals Ls k (.int z) = some l') {pc' : Nat} (hp : pc + 3 = pc') (k' : KGo p e below K T m pc' l' (st)) : KGo p e below K T m pc Ls (st) := by
  subst hp; exact k'.step fun t q => XS.iinc P.here C.1 rfl (hb C.cdE hd) hl (hz ▸ hl') q
theorem k_dup (C : KCx tbl nm cod ml ret p meth c Z a0) (P : KPos wd p l e R s m args below meth c Z own n0 h0 ws T h cells slots) {x : Value} (hd : decode cod pc = .ok (.dup, 1)) (hc : x.category = 1) {pc' : Nat} (hp : pc + 1 = pc') (k' : KGo p e below K T m pc' Ls (x :: x :: st)) : KGo p e below K T m pc Ls (x :: st) := by
  subst hp; exact k'.step fun t q => XS.dup P.here C.1 rfl (hb C.cdE hd) rfl hc q
theorem k_pop (C : KCx tbl nm cod ml ret p meth c Z a0) (P : KPos wd p l e R s m args below meth c Z own n0 h0 ws T h cells slots) {x : Value} (hd : decode cod pc = .ok (.pop, 1)) (hc : x.category = 1) {pc' : Nat} (hp : pc + 1 = pc') (k' : KGo p e below K T m pc' Ls (st)) : KGo p e below K T m pc Ls (x :: st) := by
  subst hp; exact k'.step fun t q => XS.pop P.here C.1 rfl (hb C.cdE hd) rfl hc q
theorem k_dupX1 (C : KCx tbl nm cod ml ret p meth c Z a0) (P : KPos wd p l e R s m args below meth c Z own n0 h0 ws T h cells slots) {x y : Value} (hd : decode cod pc = .ok (.dup_x1, 1)) (hc : x.category = 1) (hc' : y.category = 1) {pc' : Nat} (hp : pc + 1 = pc') (k' : KGo p e below K T m pc' Ls (x :: y :: x :: st)) : KGo p e below K T m pc Ls (x :: y :: st) := by
  subst hp; exact k'.step fun t q => XS.dupX1 P.here C.1 rfl (hb C.cdE hd) rfl hc hc' q
theorem k_dup2 (C : KCx tbl nm cod ml ret p meth c Z a0) (P : KPos wd p l e R s m args below meth c Z own n0 h0 ws T h cells slots) {x y : Value} (hd : decode cod pc = .ok (.dup2, 1)) (hc : x.category = 1) (hc' : y.category = 1) {pc' : Nat} (hp : pc + 1 = pc') (k' : KGo p e below K T m pc' Ls (x :: y :: x :: y :: st)) : KGo p e below K T m pc Ls (x :: y :: st) := by
  subst hp; exact k'.step fun t q => XT.dup2 P.here C.1 rfl (hb C.cdE hd) rfl hc hc' q
theorem k_dload (C : KCx tbl nm cod ml ret p meth c Z a0) (P : KPos wd p l e R s m args below meth c Z own n0 h0 ws T h cells slots) {k : Nat} {v : UInt64} (hd : decode cod pc = .ok (.dload k, 2)) (hl : Ls[k]? = some (.val (.double v))) {pc' : Nat} (hp : pc + 2 = pc') (k' : KGo p e below K T m pc' Ls (.double v :: st)) : KGo p e below K T m pc Ls (st) := by
  subst hp; exact k'.step fun t q => XS.dload P.here C.1 rfl (hb C.cdE hd) hl q
theorem k_dloadN (C : KCx tbl nm cod ml ret p meth c Z a0) (P : KPos wd p l e R s m args below meth c Z own n0 h0 ws T h cells slots) {k : Fin 4} {v : UInt64} (hd : decode cod pc = .ok (.dload_n k, 1)) (hl : Ls[k.val]? = some (.val (.double v))) {pc' : Nat} (hp : pc + 1 = pc') (k' : KGo p e below K T m pc' Ls (.double v :: st)) : KGo p e below K T m pc Ls (st) := by
  subst hp; exact k'.step fun t q => XS.dloadN P.here C.1 rfl (hb C.cdE hd) hl q
theorem k_dstore (C : KCx tbl nm cod ml ret p meth c Z a0) (P : KPos wd p l e R s m args below meth c Z own n0 h0 ws T h cells slots) {k : Nat} {x : UInt64} {l' : Array Slot} (hd : decode cod pc = .ok (.dstore k, 2)) (hl : storeLocals Ls k (.double x) = some l') {pc' : Nat} (hp : pc + 2 = pc') (k' : KGo p e below K T m pc' l' (st)) : KGo p e below K T m pc Ls (.double x :: st) := by
  subst hp; exact k'.step fun t q => XS.dstore P.here C.1 rfl (hb C.cdE hd) rfl hl q
theorem k_dstoreN (C : KCx tbl nm cod ml ret p meth c Z a0) (P : KPos wd p l e R s m args below meth c Z own n0 h0 ws T h cells slots) {k : Fin 4} {x : UInt64} {l' : Array Slot} (hd : decode cod pc = .ok (.dstore_n k, 1)) (hl : storeLocals Ls k.val (.double x) = some l') {pc' : Nat} (hp : pc + 1 = pc') (k' : KGo p e below K T m pc' l' (st)) : KGo p e below K T m pc Ls (.double x :: st) := by
  subst hp; exact k'.step fun t q => XS.dstoreN P.here C.1 rfl (hb C.cdE hd) rfl hl q
theorem k_dconst0 (C : KCx tbl nm cod ml ret p meth c Z a0) (P : KPos wd p l e R s m args below meth c Z own n0 h0 ws T h cells slots) {z : UInt64} (hd : decode cod pc = .ok (.dconst 0, 1)) (hz : FP.dconst0 = z) {pc' : Nat} (hp : pc + 1 = pc') (k' : KGo p e below K T m pc' Ls (.double z :: st)) : KGo p e below K T m pc Ls (st) := by
  subst hp; exact k'.step fun t q => XS.dconst0 P.here C.1 rfl (hb C.cdE hd) hz q
theorem k_dconst1 (C : KCx tbl nm cod ml ret p meth c Z a0) (P : KPos wd p l e R s m args below meth c Z own n0 h0 ws T h cells slots) {z : UInt64} (hd : decode cod pc = .ok (.dconst 1, 1)) (hz : FP.dconst1 = z) {pc' : Nat} (hp : pc + 1 = pc') (k' : KGo p e below K T m pc' Ls (.double z :: st)) : KGo p e below K T m pc Ls (st) := by
  subst hp; exact k'.step fun t q => XS.dconst1 P.here C.1 rfl (hb C.cdE hd) hz q
theorem k_i2d (C : KCx tbl nm cod ml ret p meth c Z a0) (P : KPos wd p l e R s m args below meth c Z own n0 h0 ws T h cells slots) {x : Int32} (hd : decode cod pc = .ok (.i2d, 1))  {pc' : Nat} (hp : pc + 1 = pc') (k' : KGo p e below K T m pc' Ls (.double (FP.i2d x) :: st)) : KGo p e below K T m pc Ls (.int x :: st) := by
  subst hp; exact k'.step fun t q => XS.i2dS P.here C.1 rfl (hb C.cdE hd) rfl rfl q
theorem k_l2d (C : KCx tbl nm cod ml ret p meth c Z a0) (P : KPos wd p l e R s m args below meth c Z own n0 h0 ws T h cells slots) {x : Int64} (hd : decode cod pc = .ok (.l2d, 1))  {pc' : Nat} (hp : pc + 1 = pc') (k' : KGo p e below K T m pc' Ls (.double (FP.l2d x) :: st)) : KGo p e below K T m pc Ls (.long x :: st) := by
  subst hp; exact k'.step fun t q => XS.l2dS P.here C.1 rfl (hb C.cdE hd) rfl rfl q
theorem k_dneg (C : KCx tbl nm cod ml ret p meth c Z a0) (P : KPos wd p l e R s m args below meth c Z own n0 h0 ws T h cells slots) {x : UInt64} (hd : decode cod pc = .ok (.dneg, 1))  {pc' : Nat} (hp : pc + 1 = pc') (k' : KGo p e below K T m pc' Ls (.double (FP.dneg x) :: st)) : KGo p e below K T m pc Ls (.double x :: st) := by
  subst hp; exact k'.step fun t q => XS.dnegS P.here C.1 rfl (hb C.cdE hd) rfl rfl q
theorem k_dcmp (C : KCx tbl nm cod ml ret p meth c Z a0) (P : KPos wd p l e R s m args below meth c Z own n0 h0 ws T h cells slots) {o : CmpOp} {x y : UInt64} {z : Int32} (hd : decode cod pc = .ok (.dcmp o, 1)) (hz : cmpValue (FP.dcmp x y) o = z) {pc' : Nat} (hp : pc + 1 = pc') (k' : KGo p e below K T m pc' Ls (.int z :: st)) : KGo p e below K T m pc Ls (.double y :: .double x :: st) := by
  subst hp; exact k'.step fun t q => XS.dcmpS P.here C.1 rfl (hb C.cdE hd) rfl hz q
theorem k_dadd (C : KCx tbl nm cod ml ret p meth c Z a0) (P : KPos wd p l e R s m args below meth c Z own n0 h0 ws T h cells slots) {x y z : UInt64} (hd : decode cod pc = .ok (.dadd, 1)) (hn : Jvm.Free.Fl.NoNaN64 (FP.dadd x y)) (hz : FP.dadd x y = z) {pc' : Nat} (hp : pc + 1 = pc') (k' : KGo p e below K T m pc' Ls (.double z :: st)) : KGo p e below K T m pc Ls (.double y :: .double x :: st) := by
  subst hp; exact k'.step fun t q => XS.daddS P.here C.1 rfl (hb C.cdE hd) rfl hn hz q
theorem k_dsub (C : KCx tbl nm cod ml ret p meth c Z a0) (P : KPos wd p l e R s m args below meth c Z own n0 h0 ws T h cells slots) {x y z : UInt64} (hd : decode cod pc = .ok (.dsub, 1)) (hn : Jvm.Free.Fl.NoNaN64 (FP.dsub x y)) (hz : FP.dsub x y = z) {pc' : Nat} (hp : pc + 1 = pc') (k' : KGo p e below K T m pc' Ls (.double z :: st)) : KGo p e below K T m pc Ls (.double y :: .double x :: st) := by
  subst hp; exact k'.step fun t q => XS.dsubS P.here C.1 rfl (hb C.cdE hd) rfl hn hz q
theorem k_dmul (C : KCx tbl nm cod ml ret p meth c Z a0) (P : KPos wd p l e R s m args below meth c Z own n0 h0 ws T h cells slots) {x y z : UInt64} (hd : decode cod pc = .ok (.dmul, 1)) (hn : Jvm.Free.Fl.NoNaN64 (FP.dmul x y)) (hz : FP.dmul x y = z) {pc' : Nat} (hp : pc + 1 = pc') (k' : KGo p e below K T m pc' Ls (.double z :: st)) : KGo p e below K T m pc Ls (.double y :: .double x :: st) := by
  subst hp; exact k'.step fun t q => XS.dmulS P.here C.1 rfl (hb C.cdE hd) rfl hn hz q
theorem k_ddiv (C : KCx tbl nm cod ml ret p meth c Z a0) (P : KPos wd p l e R s m args below meth c Z own n0 h0 ws T h cells slots) {x y z : UInt64} (hd : decode cod pc = .ok (.ddiv, 1)) (hn : Jvm.Free.Fl.NoNaN64 (FP.ddiv x y)) (hz : FP.ddiv x y = z) {pc' : Nat} (hp : pc + 1 = pc') (k' : KGo p e below K T m pc' Ls (.double z :: st)) : KGo p e below K T m pc Ls (.double y :: .double x :: st) := by
  subst hp; exact k'.step fun t q => XS.ddivS P.here C.1 rfl (hb C.cdE hd) rfl hn hz q
/-! ### objects and arrays -/
def KOb (Z : State) (h : Heap) (a : Addr) (Cn : String) (lay : List (String × String × String)) (vs : List Value) : Prop :=
  Exa Z h a Cn ∧ lay.length = vs.length ∧ ∀ (i : Nat) (O n d : String) (v : Value), lay[i]? = some (O, n, d) → vs[i]? = some v → Fld Z h a O n d v
def KLay (Z : State) (a0 : Array Value) (Cn : String) (lay : List (String × String × String)) : Prop :=
  (∀ x ∈ lay, Laid Z a0 Cn x.1 x.2.1 x.2.2 ∧ (parseFieldDescriptor x.2.2).isSome = true) ∧ (lay.map (·.2.1)).Nodup
def KVA (Z : State) (h : Heap) (a : Addr) (k : ClassId) (ty : FieldType) (N : Nat) (f : Nat → Value) : Prop :=
  ∃ cl : Cell, Arr Z h a cl ty ∧ cl.cls = k ∧ cl.slots.size = N ∧ N < 2 ^ 31 ∧ ∀ j, j < N → cl.slots[j]? = some (f j)
section Facts
variable {Cn O n d : String} {lay : List (String × String × String)} {vs : List Value} {v : Value} {sl : Nat} {k : ClassId} {ty : FieldType} {N : Nat} {f : Nat → Value} {ws' : List Addr}
theorem KOb.exa (F : KOb Z h a Cn lay vs) : Exa Z h a Cn := F.1
theorem KOb.lt (F : KOb Z h a Cn lay vs) : a < h.size := F.1.lt
theorem KOb.fld (F : KOb Z h a Cn lay vs) (i : Nat) (q : lay[i]? = some (O, n, d)) (r : vs[i]? = some v) : Fld Z h a O n d v := F.2.2 i O n d v q r
theorem KOb.ext (F : KOb Z h a Cn lay vs) (E : Ext h h') : KOb Z h' a Cn lay vs := ⟨F.1.ext E, F.2.1, fun i O n d v q r => (F.2.2 i O n d v q r).ext E⟩
theorem KOb.keep (F : KOb Z h a Cn lay vs) (E : Keep h h' ws') (q : a ∉ ws') : KOb Z h' a Cn lay vs := ⟨F.1.keep E, F.2.1, fun i O n d v u r => (F.2.2 i O n d v u r).keep E q⟩
theorem KOb.other (F : KOb Z h a Cn lay vs) (W : Wr h h' b sl v) (q : a ≠ b) : KOb Z h' a Cn lay vs := ⟨F.1.wr W, F.2.1, fun i O n d v u r => (F.2.2 i O n d v u r).other W (Or.inl q)⟩
theorem KOb.put (F : KOb Z h a Cn lay vs) (L : KLay Z a0 Cn lay) (i : Nat) (q : lay[i]? = some (O, n, d)) (W : Wr h h' a (Jvm.RoadKit.slotOf Z O n d) v) {vs' : List Value} (hv : vs.set i v = vs') : KOb Z h' a Cn lay vs' := by
  subst hv
  refine ⟨F.1.wr W, by rw [List.length_set]; exact F.2.1, fun j O' n' d' v' u r => ?_⟩
  by_cases e : i = j
  · subst e
    cases q.symm.trans u
    have hi : i < vs.length := by rw [← F.2.1]; exact (List.getElem?_eq_some_iff.mp q).1
    rw [List.getElem?_set_self hi] at r
    cases r
    exact (F.2.2 i O n d _ q (List.getElem?_eq_getElem hi)).same W
  · rw [List.getElem?_set_ne e] at r
    obtain ⟨l1, t1⟩ := L.1 _ (List.mem_of_getElem? u)
    obtain ⟨l2, t2⟩ := L.1 _ (List.mem_of_getElem? q)
    obtain ⟨t, ht⟩ := Option.isSome_iff_exists.mp t1
    obtain ⟨t', ht'⟩ := Option.isSome_iff_exists.mp t2
    refine (F.2.2 j O' n' d' v' u r).other W (Or.inr (slot_ne l1 l2 (fun en => ?_) ht ht'))
    have m1 : (lay.map (·.2.1))[j]? = some n' := by rw [List.getElem?_map, u]; rfl
    have m2 : (lay.map (·.2.1))[i]? = some n' := by rw [List.getElem?_map, q]; exact congrArg some en.symm
    exact e (((List.getElem?_inj (List.getElem?_eq_some_iff.mp m2).1 L.2).mp (m2.trans m1.symm)))
theorem KOb.new (E : Exa Z h a Cn) (D : ∀ {O nm d : String} {ty : FieldType}, Laid Z a0 Cn O nm d → parseFieldDescriptor d = some ty → Fld Z h a O nm d (defaultValue ty)) (L : KLay Z a0 Cn lay) (hv : (lay.map fun x => (parseFieldDescriptor x.2.2).map defaultValue) = vs.map some) : KOb Z h a Cn lay vs := by
  have hl : lay.length = vs.length := by have := congrArg List.length hv; simpa using this
  refine ⟨E, hl, fun i O n d v q r => ?_⟩
  obtain ⟨l1, t1⟩ := L.1 _ (List.mem_of_getElem? q)
  obtain ⟨t, ht⟩ := Option.isSome_iff_exists.mp t1
  have e1 : (lay.map fun x => (parseFieldDescriptor x.2.2).map defaultValue)[i]? = some (some (defaultValue t)) := by rw [List.getElem?_map, q]; show some ((parseFieldDescriptor d).map defaultValue) = _; rw [show parseFieldDescriptor d = some t from ht]; rfl
  rw [hv, List.getElem?_map, r] at e1
  cases e1
  exact D l1 ht
theorem KOb.one (E : Exa Z h a Cn) (F : Fld Z h a O n d v) : KOb Z h a Cn [(O, n, d)] [v] := ⟨E, rfl, fun i O' n' d' v' q r => by
  match i, q, r with
  | 0, q, r => cases q; cases r; exact F⟩
theorem KOb.two {O2 n2 d2 : String} {v2 : Value} (E : Exa Z h a Cn) (F : Fld Z h a O n d v) (F2 : Fld Z h a O2 n2 d2 v2) : KOb Z h a Cn [(O, n, d), (O2, n2, d2)] [v, v2] := ⟨E, rfl, fun i O' n' d' v' q r => by
  match i, q, r with
  | 0, q, r => cases q; cases r; exact F
  | 1, q, r => cases q; cases r; exact F2⟩
theorem KVA.lt (F : KVA Z h a k ty N f) : a < h.size := by obtain ⟨c, A, -⟩ := F; exact A.lt
theorem KVA.ext (F : KVA Z h a k ty N f) (E : Ext h h') : KVA Z h' a k ty N f := by obtain ⟨c, A, r⟩ := F; exact ⟨c, A.ext E, r⟩
theorem KVA.keep (F : KVA Z h a k ty N f) (E : Keep h h' ws') (q : a ∉ ws') : KVA Z h' a k ty N f := by obtain ⟨c, A, r⟩ := F; exact ⟨c, ⟨E.2.1 a c A.1 q, A.2⟩, r⟩
theorem KVA.other (F : KVA Z h a k ty N f) (W : Wr h h' b sl v) (q : a ≠ b) : KVA Z h' a k ty N f := by obtain ⟨c, A, r⟩ := F; exact ⟨c, A.other W q, r⟩
theorem KVA.congr (F : KVA Z h a k ty N f) {g : Nat → Value} (q : ∀ j, j < N → f j = g j) : KVA Z h a k ty N g := by obtain ⟨c, A, r1, r2, r3, r4⟩ := F; exact ⟨c, A, r1, r2, r3, fun j hj => by rw [← q j hj]; exact r4 j hj⟩
theorem KVA.set (F : KVA Z h a k ty N f) (W : Wr h h' a sl v) {g : Nat → Value} (q : ∀ j, j < N → (if j = sl then v else f j) = g j) : KVA Z h' a k ty N g := by
  obtain ⟨c, A, r1, r2, r3, r4⟩ := F
  refine ⟨c.setSlot sl v, A.same W, r1, by rw [sz_set]; exact r2, r3, fun j hj => ?_⟩
  rw [← q j hj]
  by_cases e : j = sl
  · subst e; rw [if_pos rfl]; simp [Cell.setSlot, r2, hj]
  · rw [if_neg e]; show (c.slots.setIfInBounds sl v)[j]? = _; rw [Array.getElem?_setIfInBounds_ne (Ne.symm e)]; exact r4 j hj
theorem KVA.new {z : Int32} (A : Arr Z h a (newA k ty z) ty) (q : z.toInt = (N : Int)) : KVA Z h a k ty N (fun _ => defaultValue ty) := by
  have e : z.toNatClampNeg = N := by simp only [Int32.toNatClampNeg]; omega
  have := Int32.toInt_lt z
  exact ⟨_, A, rfl, (sz_new _ _ _).trans e, by omega, fun j hj => by simp [newA, e, hj]⟩
theorem KVA.ne_ob {kk : Nat} (F : KVA Z h a k ty N f) (G : Exa Z h b Cn) (wi : (Cond.instantiable Cn kk).before a0 Z = true) : a ≠ b := by obtain ⟨c, A, -⟩ := F; exact (ne_arr G wi A).symm
theorem KVA.start {cl : Cell} (A : Arr Z h a cl ty) (hs : cl.slots.size = N) (hN : N < 2 ^ 31) (H : ∀ j, j < N → cl.slots[j]? = some (f j)) : KVA Z h a cl.cls ty N f := ⟨cl, A, rfl, hs, hN, H⟩
theorem k_cat_ref {v : Value} (hv : v.isRef = true) : v.category = 1 := by rcases ref_cases hv with rfl | ⟨_, rfl⟩ <;> rfl
theorem k_fits_ref {v : Value} (ht : ty.isReference = true) (hv : v.isRef = true) : fits ty v = true := by rcases ref_cases hv with rfl | ⟨_, rfl⟩ <;> cases ty <;> first | rfl | (cases ht; done)
theorem k_ext_of_keep (E : Keep h h' []) : Ext h h' := ⟨E.1, fun x c q => E.2.1 x c q nin0⟩
theorem k_idx {j : Int32} {J : Nat} (hj : j.toInt = (J : Int)) {S : Nat} (hJ : J < S) : ¬ (j < 0 ∨ S ≤ j.toNatClampNeg) ∧ j.toNatClampNeg = J := by
  have e : j.toNatClampNeg = J := by simp only [Int32.toNatClampNeg]; omega
  refine ⟨?_, e⟩
  rw [e, Int32.lt_iff_toInt_lt]
  have : (0 : Int32).toInt = 0 := rfl
  omega
end Facts
/-! ### steps on the heap -/
theorem k_getf {R0 O n d Cn : String} {index : Nat} {lay : List (String × String × String)} {vs : List Value} {v : Value} (C : KCx tbl nm cod ml ret p meth c Z a0) (P : KPos wd p l e R s m args below meth c Z own n0 h0 ws T h cells slots) (w : (Jvm.Cond.fieldLink own index R0 n d).before a0 Z = true) (via : Via Z R0 O n d) (F : KOb Z h a Cn lay vs) (i : Nat) (q : lay[i]? = some (O, n, d)) (r : vs[i]? = some v)
    (hd : decode cod pc = .ok (.getfield index, 3)) {pc' : Nat} (hp : pc + 3 = pc') (k' : ∀ T', KPos wd p l e R s m args below meth c Z own n0 h0 ws T' h cells slots → KGo p e below K T' m pc' Ls (v :: st)) : KGo p e below K T m pc Ls (.ref a :: st) := by
  subst hp
  obtain ⟨s', L, X, B, hZ, hown, eT, r1⟩ := P
  obtain ⟨T', X', e', stp⟩ := getF X C.1 hZ hown (host := "") (Or.inl w) via eT (F.fld i q r) (g := mkF m pc Ls (.ref a :: st)) rfl rfl (hb C.cdE hd)
  exact (k' T' ⟨s', L, X', B, hZ, hown, e', r1⟩).step stp
theorem k_putf {R0 O n d Cn : String} {index kk : Nat} {lay : List (String × String × String)} {vs : List Value} {v v' : Value} {ty : FieldType} (C : KCx tbl nm cod ml ret p meth c Z a0) (P : KPos wd p l e R s m args below meth c Z own n0 h0 ws T h cells slots) (w : (Jvm.Cond.fieldLink own index R0 n d).before a0 Z = true) (via : Via Z R0 O n d) (F : KOb Z h a Cn lay vs) (i : Nat) (q : lay[i]? = some (O, n, d))
    (L : (Jvm.Cond.lays Cn O n d).before a0 Z = true ∨ ((Jvm.Cond.laysFinal Cn O n d).before a0 Z = true ∧ own = O ∧ nm = "<init>")) (wi : (Jvm.Cond.instantiable Cn kk).before a0 Z = true) (hty : parseFieldDescriptor d = some ty) (hn : narrow ty v = v') (hf : fits ty v' = true)
    (hd : decode cod pc = .ok (.putfield index, 3)) (ha : n0 ≤ a) (hk : a ∈ ws ∨ h0.size ≤ a) {pc' : Nat} (hp : pc + 3 = pc') (k' : ∀ T' h', KPos wd p l e R s m args below meth c Z own n0 h0 ws T' h' cells slots → Wr h h' a (Jvm.RoadKit.slotOf Z O n d) v' → KGo p e below K T' m pc' Ls st) : KGo p e below K T m pc Ls (v :: .ref a :: st) := by
  subst hp
  obtain ⟨s', Lo, X, B, hZ, hown, eT, r1, r2, r3⟩ := P
  have hi : i < vs.length := by rw [← F.2.1]; exact (List.getElem?_eq_some_iff.mp q).1
  obtain ⟨T', h', X', e', W, stp⟩ := putFN X C.1 hZ hown w via eT (F.fld i q (List.getElem?_eq_getElem hi)) F.1 (L.imp id fun z => ⟨z.1, z.2.1, C.nmE.trans z.2.2⟩) wi hty hn hf (g := mkF m pc Ls (v :: .ref a :: st)) rfl rfl (hb C.cdE hd)
  exact (k' T' h' ⟨s', _, X', B.mono (Nat.le_of_eq W.size.symm), hZ, hown, e', W.size ▸ r1, Fr.snoc X' r2 ha, r3.wr W hk⟩ W).step stp
theorem k_gets {R0 O n d : String} {index : Nat} {v : Value} (C : KCx tbl nm cod ml ret p meth c Z a0) (P : KPos wd p l e R s m args below meth c Z own n0 h0 ws T h cells slots) (w : (Jvm.Cond.fieldLink own index R0 n d).before a0 Z = true) (via : Via Z R0 O n d) (F : Sta Z h O n d v) (hd : decode cod pc = .ok (.getstatic index, 3)) {pc' : Nat} (hp : pc + 3 = pc')
    (k' : ∀ T', KPos wd p l e R s m args below meth c Z own n0 h0 ws T' h cells slots → KGo p e below K T' m pc' Ls (v :: st)) : KGo p e below K T m pc Ls st := by
  subst hp
  obtain ⟨s', L, X, B, hZ, hown, eT, r1⟩ := P
  obtain ⟨T', X', e', stp⟩ := getS2 X C.1 hZ hown (host := "") (Or.inl w) via eT F (g := mkF m pc Ls st) rfl (hb C.cdE hd)
  exact (k' T' ⟨s', L, X', B, hZ, hown, e', r1⟩).step stp
theorem k_newo {Cn : String} {index n : Nat} (C : KCx tbl nm cod ml ret p meth c Z a0) (P : KPos wd p l e R s m args below meth c Z own n0 h0 ws T h cells slots) (w : (Jvm.Cond.classLink own index Cn).before a0 Z = true) (wi : (Jvm.Cond.instantiable Cn n).before a0 Z = true) (wz : (Jvm.Cond.initialized Cn).before a0 Z = true) (hd : decode cod pc = .ok (.new index, 3))
    {cells' slots' : Nat} (hc : cells + 1 = cells') (hs : slots + n = slots') (hc' : cells' ≤ R.cells) (hs' : slots' ≤ R.slots) {pc' : Nat} (hp : pc + 3 = pc')
    (k' : ∀ T' h' a, KPos wd p l e R s m args below meth c Z own n0 h0 ws T' h' cells' slots' → h.size = a → n0 ≤ a → h0.size ≤ a → Ext h h' → Exa Z h' a Cn → (∀ {O nm d : String} {ty : FieldType}, Laid Z a0 Cn O nm d → parseFieldDescriptor d = some ty → Fld Z h' a O nm d (defaultValue ty)) → KGo p e below K T' m pc' Ls (.ref a :: st)) : KGo p e below K T m pc Ls st := by
  subst hp hc hs
  obtain ⟨s', Lo, X, B, hZ, hown, eT, r1, r2, r3⟩ := P
  obtain ⟨T', h', X', e', E, A, D, -, stp⟩ := newO X C.1 hZ hown w wi wz eT (g := mkF m pc Ls st) rfl (hb C.cdE hd) hc' hs'
  exact (k' T' h' _ ⟨s', _, X', B.mono E.1, hZ, hown, e', Nat.le_trans r1 E.1, r2, r3.ext E⟩ rfl r1 r3.1 E A D).step stp
theorem k_newp {aty : ArrayType} {z : Int32} {N cap : Nat} (C : KCx tbl nm cod ml ret p meth c Z a0) (P : KPos wd p l e R s m args below meth c Z own n0 h0 ws T h cells slots) (w : (Jvm.Cond.arrayClass (newarray.typeOf aty)).before a0 Z = true) (hd : decode cod pc = .ok (.newarray aty, 2)) (hN : z.toInt = (N : Int)) (hcap : N ≤ cap) (hb8 : cap * 8 ≤ 536870912)
    {cells' slots' : Nat} (hc : cells + 1 = cells') (hs : slots + cap = slots') (hc' : cells' ≤ R.cells) (hs' : slots' ≤ R.slots) {pc' : Nat} (hp : pc + 2 = pc')
    (k' : ∀ T' h' a k, KPos wd p l e R s m args below meth c Z own n0 h0 ws T' h' cells' slots' → h.size = a → n0 ≤ a → h0.size ≤ a → Ext h h' → KVA Z h' a k (newarray.typeOf aty) N (fun _ => defaultValue (newarray.typeOf aty)) → KGo p e below K T' m pc' Ls (.ref a :: st)) : KGo p e below K T m pc Ls (.int z :: st) := by
  subst hp hc hs
  obtain ⟨s', Lo, X, B, hZ, hown, eT, r1, r2, r3⟩ := P
  have e0 : ¬ z < 0 := by rw [Int32.lt_iff_toInt_lt]; have : (0 : Int32).toInt = 0 := rfl; omega
  have e1 : z.toNatClampNeg ≤ cap := by simp only [Int32.toNatClampNeg]; omega
  obtain ⟨T', h', kA, X', e', E, A, stp⟩ := newP X C.1 hZ w eT (g := mkF m pc Ls (.int z :: st)) rfl (hb C.cdE hd) rfl e0 e1 hb8 hc' hs'
  exact (k' T' h' _ kA ⟨s', _, X', B.mono E.1, hZ, hown, e', Nat.le_trans r1 E.1, r2, r3.ext E⟩ rfl r1 r3.1 E (KVA.new A hN)).step stp
theorem k_newr {Cn : String} {index : Nat} {z : Int32} {N cap : Nat} (C : KCx tbl nm cod ml ret p meth c Z a0) (P : KPos wd p l e R s m args below meth c Z own n0 h0 ws T h cells slots) (w : (Jvm.Cond.classLink own index Cn).before a0 Z = true) (w2 : (Jvm.Cond.arrayOver (.object Cn)).before a0 Z = true) (hd : decode cod pc = .ok (.anewarray index, 3)) (hN : z.toInt = (N : Int)) (hcap : N ≤ cap) (hb8 : cap * 8 ≤ 536870912)
    {cells' slots' : Nat} (hc : cells + 1 = cells') (hs : slots + cap = slots') (hc' : cells' ≤ R.cells) (hs' : slots' ≤ R.slots) {pc' : Nat} (hp : pc + 3 = pc')
    (k' : ∀ T' h' a k, KPos wd p l e R s m args below meth c Z own n0 h0 ws T' h' cells' slots' → h.size = a → n0 ≤ a → h0.size ≤ a → Ext h h' → KVA Z h' a k (.object Cn) N (fun _ => .null) → Ovr Z k Cn → KGo p e below K T' m pc' Ls (.ref a :: st)) : KGo p e below K T m pc Ls (.int z :: st) := by
  subst hp hc hs
  obtain ⟨s', Lo, X, B, hZ, hown, eT, r1, r2, r3⟩ := P
  have e0 : ¬ z < 0 := by rw [Int32.lt_iff_toInt_lt]; have : (0 : Int32).toInt = 0 := rfl; omega
  have e1 : z.toNatClampNeg ≤ cap := by simp only [Int32.toNatClampNeg]; omega
  obtain ⟨T', h', kA, X', e', E, A, O, stp⟩ := newR X C.1 hZ hown w w2 eT (g := mkF m pc Ls (.int z :: st)) rfl (hb C.cdE hd) rfl e0 e1 hb8 hc' hs'
  exact (k' T' h' _ kA ⟨s', _, X', B.mono E.1, hZ, hown, e', Nat.le_trans r1 E.1, r2, r3.ext E⟩ rfl r1 r3.1 E (KVA.new A hN) O).step stp
theorem k_newra {Cn ad : String} {ty : FieldType} {index : Nat} {z : Int32} {N cap : Nat} (C : KCx tbl nm cod ml ret p meth c Z a0) (P : KPos wd p l e R s m args below meth c Z own n0 h0 ws T h cells slots) (hC : (FieldType.array ty).toString = Cn) (had : "[" ++ Cn = ad) (w : (Jvm.Cond.classLink own index Cn).before a0 Z = true) (w2 : (Jvm.Cond.arrayOver (.array ty)).before a0 Z = true) (hd : decode cod pc = .ok (.anewarray index, 3)) (hN : z.toInt = (N : Int)) (hcap : N ≤ cap) (hb8 : cap * 8 ≤ 536870912)
    {cells' slots' : Nat} (hc : cells + 1 = cells') (hs : slots + cap = slots') (hc' : cells' ≤ R.cells) (hs' : slots' ≤ R.slots) {pc' : Nat} (hp : pc + 3 = pc')
    (k' : ∀ T' h' a k, KPos wd p l e R s m args below meth c Z own n0 h0 ws T' h' cells' slots' → h.size = a → n0 ≤ a → h0.size ≤ a → Ext h h' → KVA Z h' a k (.array ty) N (fun _ => .null) → Exa Z h' a ad → OvrA Z k ty Cn → KGo p e below K T' m pc' Ls (.ref a :: st)) : KGo p e below K T m pc Ls (.int z :: st) := by
  subst hp hc hs
  obtain ⟨s', Lo, X, B, hZ, hown, eT, r1, r2, r3⟩ := P
  have e0 : ¬ z < 0 := by rw [Int32.lt_iff_toInt_lt]; have : (0 : Int32).toInt = 0 := rfl; omega
  have e1 : z.toNatClampNeg ≤ cap := by simp only [Int32.toNatClampNeg]; omega
  obtain ⟨T', h', kA, X', e', E, A, Ex, O, stp⟩ := newRA X C.1 hZ hown hC w w2 eT (g := mkF m pc Ls (.int z :: st)) rfl (hb C.cdE hd) rfl e0 e1 hb8 hc' hs' had
  exact (k' T' h' _ kA ⟨s', _, X', B.mono E.1, hZ, hown, e', Nat.le_trans r1 E.1, r2, r3.ext E⟩ rfl r1 r3.1 E (KVA.new A hN) Ex O).step stp
theorem k_arrlen {k : ClassId} {ty : FieldType} {N : Nat} {f : Nat → Value} {z : Int32} (C : KCx tbl nm cod ml ret p meth c Z a0) (P : KPos wd p l e R s m args below meth c Z own n0 h0 ws T h cells slots) (V : KVA Z h a k ty N f) (hd : decode cod pc = .ok (.arraylength, 1)) (hz : z.toInt = (N : Int)) {pc' : Nat} (hp : pc + 1 = pc') (k' : KGo p e below K T m pc' Ls (.int z :: st)) : KGo p e below K T m pc Ls (.ref a :: st) := by
  subst hp
  obtain ⟨s', L, X, B, hZ, hown, eT, r1⟩ := P
  obtain ⟨cl, A, -, S, hN, -⟩ := V
  have e : cl.slots.size.toInt32 = z := by rw [S]; exact Int32.toInt_inj.mp (by rw [len_toInt hN, hz])
  subst e
  exact k'.step fun t q => X.arraylength C.1 (by rw [eT]; exact A.1) (State.isArrayOf_alike hZ.alike A.2.1) (g := mkF m pc Ls (.ref a :: st)) rfl rfl (hb C.cdE hd) t q
theorem k_iaload {k : ClassId} {N J : Nat} {f : Nat → Value} {j : Int32} {v : Value} (C : KCx tbl nm cod ml ret p meth c Z a0) (P : KPos wd p l e R s m args below meth c Z own n0 h0 ws T h cells slots) (V : KVA Z h a k .int N f) (hd : decode cod pc = .ok (.iaload, 1)) (hj : j.toInt = (J : Int)) (hJ : J < N) (hv : f J = v) {pc' : Nat} (hp : pc + 1 = pc') (k' : KGo p e below K T m pc' Ls (v :: st)) : KGo p e below K T m pc Ls (.int j :: .ref a :: st) := by
  subst hp hv
  obtain ⟨s', L, X, B, hZ, hown, eT, r1⟩ := P
  obtain ⟨cl, A, -, S, hN, H⟩ := V
  obtain ⟨q1, q2⟩ := k_idx hj (S.symm ▸ hJ)
  exact k'.step fun t q => X.iaload C.1 (by rw [eT]; exact A.1) (State.isArrayOf_alike hZ.alike A.2.1) A.2.2 q1 (by rw [q2]; exact H J hJ) (g := mkF m pc Ls (.int j :: .ref a :: st)) rfl rfl (hb C.cdE hd) t q
theorem k_laload {k : ClassId} {N J : Nat} {f : Nat → Value} {j : Int32} {v : Value} (C : KCx tbl nm cod ml ret p meth c Z a0) (P : KPos wd p l e R s m args below meth c Z own n0 h0 ws T h cells slots) (V : KVA Z h a k .long N f) (hd : decode cod pc = .ok (.laload, 1)) (hj : j.toInt = (J : Int)) (hJ : J < N) (hv : f J = v) {pc' : Nat} (hp : pc + 1 = pc') (k' : KGo p e below K T m pc' Ls (v :: st)) : KGo p e below K T m pc Ls (.int j :: .ref a :: st) := by
  subst hp hv
  obtain ⟨s', L, X, B, hZ, hown, eT, r1⟩ := P
  obtain ⟨cl, A, -, S, hN, H⟩ := V
  obtain ⟨q1, q2⟩ := k_idx hj (S.symm ▸ hJ)
  exact k'.step fun t q => X.laload C.1 (by rw [eT]; exact A.1) (State.isArrayOf_alike hZ.alike A.2.1) A.2.2 q1 (by rw [q2]; exact H J hJ) (g := mkF m pc Ls (.int j :: .ref a :: st)) rfl rfl (hb C.cdE hd) t q
theorem k_caload {k : ClassId} {N J : Nat} {f : Nat → Value} {j : Int32} {v : Value} (C : KCx tbl nm cod ml ret p meth c Z a0) (P : KPos wd p l e R s m args below meth c Z own n0 h0 ws T h cells slots) (V : KVA Z h a k .char N f) (hd : decode cod pc = .ok (.caload, 1)) (hj : j.toInt = (J : Int)) (hJ : J < N) (hv : f J = v) {pc' : Nat} (hp : pc + 1 = pc') (k' : KGo p e below K T m pc' Ls (v :: st)) : KGo p e below K T m pc Ls (.int j :: .ref a :: st) := by
  subst hp hv
  obtain ⟨s', L, X, B, hZ, hown, eT, r1⟩ := P
  obtain ⟨cl, A, -, S, hN, H⟩ := V
  obtain ⟨q1, q2⟩ := k_idx hj (S.symm ▸ hJ)
  exact k'.step fun t q => X.caload C.1 (by rw [eT]; exact A.1) (State.isArrayOf_alike hZ.alike A.2.1) A.2.2 q1 (by rw [q2]; exact H J hJ) (g := mkF m pc Ls (.int j :: .ref a :: st)) rfl rfl (hb C.cdE hd) t q
theorem k_baload {k : ClassId} {N J : Nat} {f : Nat → Value} {j : Int32} {v : Value} (C : KCx tbl nm cod ml ret p meth c Z a0) (P : KPos wd p l e R s m args below meth c Z own n0 h0 ws T h cells slots) (V : KVA Z h a k .byte N f) (hd : decode cod pc = .ok (.baload, 1)) (hj : j.toInt = (J : Int)) (hJ : J < N) (hv : f J = v) {pc' : Nat} (hp : pc + 1 = pc') (k' : KGo p e below K T m pc' Ls (v :: st)) : KGo p e below K T m pc Ls (.int j :: .ref a :: st) := by
  subst hp hv
  obtain ⟨s', L, X, B, hZ, hown, eT, r1⟩ := P
  obtain ⟨cl, A, -, S, hN, H⟩ := V
  obtain ⟨q1, q2⟩ := k_idx hj (S.symm ▸ hJ)
  exact k'.step fun t q => X.baloadBytes C.1 (by rw [eT]; exact A.1) (State.isArrayOf_alike hZ.alike A.2.1) A.2.2 q1 (by rw [q2]; exact H J hJ) (g := mkF m pc Ls (.int j :: .ref a :: st)) rfl rfl (hb C.cdE hd) t q
theorem k_daload {k : ClassId} {N J : Nat} {f : Nat → Value} {j : Int32} {v : Value} (C : KCx tbl nm cod ml ret p meth c Z a0) (P : KPos wd p l e R s m args below meth c Z own n0 h0 ws T h cells slots) (V : KVA Z h a k .double N f) (hd : decode cod pc = .ok (.daload, 1)) (hj : j.toInt = (J : Int)) (hJ : J < N) (hv : f J = v) {pc' : Nat} (hp : pc + 1 = pc') (k' : KGo p e below K T m pc' Ls (v :: st)) : KGo p e below K T m pc Ls (.int j :: .ref a :: st) := by
  subst hp hv
  obtain ⟨s', L, X, B, hZ, hown, eT, r1⟩ := P
  obtain ⟨cl, A, -, S, hN, H⟩ := V
  obtain ⟨q1, q2⟩ := k_idx hj (S.symm ▸ hJ)
  exact k'.step fun t q => X.daload C.1 (by rw [eT]; exact A.1) (State.isArrayOf_alike hZ.alike A.2.1) A.2.2 q1 (by rw [q2]; exact H J hJ) (g := mkF m pc Ls (.int j :: .ref a :: st)) rfl rfl (hb C.cdE hd) t q
theorem k_aaload {k : ClassId} {ty : FieldType} {N J : Nat} {f : Nat → Value} {j : Int32} {v : Value} (C : KCx tbl nm cod ml ret p meth c Z a0) (P : KPos wd p l e R s m args below meth c Z own n0 h0 ws T h cells slots) (V : KVA Z h a k ty N f) (hty : ty.isReference = true) (hd : decode cod pc = .ok (.aaload, 1)) (hj : j.toInt = (J : Int)) (hJ : J < N) (hv : f J = v) {pc' : Nat} (hp : pc + 1 = pc') (k' : KGo p e below K T m pc' Ls (v :: st)) : KGo p e below K T m pc Ls (.int j :: .ref a :: st) := by
  subst hp hv
  obtain ⟨s', L, X, B, hZ, hown, eT, r1⟩ := P
  obtain ⟨cl, A, -, S, hN, H⟩ := V
  obtain ⟨q1, q2⟩ := k_idx hj (S.symm ▸ hJ)
  exact k'.step fun t q => X.aaload C.1 (by rw [eT]; exact A.1) (State.isArrayOf_alike hZ.alike A.2.1) hty A.2.2 q1 (by rw [q2]; exact H J hJ) (g := mkF m pc Ls (.int j :: .ref a :: st)) rfl rfl (hb C.cdE hd) t q
theorem k_iastore {k : ClassId} {N J : Nat} {f g' : Nat → Value} {j : Int32} {x : Int32} (C : KCx tbl nm cod ml ret p meth c Z a0) (P : KPos wd p l e R s m args below meth c Z own n0 h0 ws T h cells slots) (V : KVA Z h a k .int N f) (hd : decode cod pc = .ok (.iastore, 1)) (hj : j.toInt = (J : Int)) (hJ : J < N) (hg' : ∀ i, i < N → (if i = J then (.int x : Value) else f i) = g' i) (ha : n0 ≤ a) (hk : a ∈ ws ∨ h0.size ≤ a) {pc' : Nat} (hp : pc + 1 = pc') (k' : ∀ T' h', KPos wd p l e R s m args below meth c Z own n0 h0 ws T' h' cells slots → Wr h h' a J (.int x) → KVA Z h' a k .int N g' → KGo p e below K T' m pc' Ls st) : KGo p e below K T m pc Ls (.int x :: .int j :: .ref a :: st) := by
  subst hp
  obtain ⟨s', Lo, X, B, hZ, hown, eT, r1, r2, r3⟩ := P
  have V0 := V
  obtain ⟨cl, A, -, S, hN, H⟩ := V
  obtain ⟨q1, q2⟩ := k_idx hj (S.symm ▸ hJ)
  obtain ⟨T', h', X', e', W, stp⟩ := stI X C.1 hZ eT A q1 (g := mkF m pc Ls (.int x :: .int j :: .ref a :: st)) rfl rfl (hb C.cdE hd)
  have W' := W
  rw [q2] at W'
  exact (k' T' h' ⟨s', _, X', B.mono (Nat.le_of_eq W.size.symm), hZ, hown, e', W.size ▸ r1, Fr.snoc X' r2 ha, r3.wr W hk⟩ W' (V0.set W' hg')).step stp
theorem k_lastore {k : ClassId} {N J : Nat} {f g' : Nat → Value} {j : Int32} {x : Int64} (C : KCx tbl nm cod ml ret p meth c Z a0) (P : KPos wd p l e R s m args below meth c Z own n0 h0 ws T h cells slots) (V : KVA Z h a k .long N f) (hd : decode cod pc = .ok (.lastore, 1)) (hj : j.toInt = (J : Int)) (hJ : J < N) (hg' : ∀ i, i < N → (if i = J then (.long x : Value) else f i) = g' i) (ha : n0 ≤ a) (hk : a ∈ ws ∨ h0.size ≤ a) {pc' : Nat} (hp : pc + 1 = pc') (k' : ∀ T' h', KPos wd p l e R s m args below meth c Z own n0 h0 ws T' h' cells slots → Wr h h' a J (.long x) → KVA Z h' a k .long N g' → KGo p e below K T' m pc' Ls st) : KGo p e below K T m pc Ls (.long x :: .int j :: .ref a :: st) := by
  subst hp
  obtain ⟨s', Lo, X, B, hZ, hown, eT, r1, r2, r3⟩ := P
  have V0 := V
  obtain ⟨cl, A, -, S, hN, H⟩ := V
  obtain ⟨q1, q2⟩ := k_idx hj (S.symm ▸ hJ)
  obtain ⟨T', h', X', e', W, stp⟩ := stJ X C.1 hZ eT A q1 (g := mkF m pc Ls (.long x :: .int j :: .ref a :: st)) rfl rfl (hb C.cdE hd)
  have W' := W
  rw [q2] at W'
  exact (k' T' h' ⟨s', _, X', B.mono (Nat.le_of_eq W.size.symm), hZ, hown, e', W.size ▸ r1, Fr.snoc X' r2 ha, r3.wr W hk⟩ W' (V0.set W' hg')).step stp
theorem k_castore {k : ClassId} {N J : Nat} {f g' : Nat → Value} {j : Int32} {x : Int32} (C : KCx tbl nm cod ml ret p meth c Z a0) (P : KPos wd p l e R s m args below meth c Z own n0 h0 ws T h cells slots) (V : KVA Z h a k .char N f) (hd : decode cod pc = .ok (.castore, 1)) (hj : j.toInt = (J : Int)) (hJ : J < N) (hg' : ∀ i, i < N → (if i = J then (.int (nar .char x) : Value) else f i) = g' i) (ha : n0 ≤ a) (hk : a ∈ ws ∨ h0.size ≤ a) {pc' : Nat} (hp : pc + 1 = pc') (k' : ∀ T' h', KPos wd p l e R s m args below meth c Z own n0 h0 ws T' h' cells slots → Wr h h' a J (.int (nar .char x)) → KVA Z h' a k .char N g' → KGo p e below K T' m pc' Ls st) : KGo p e below K T m pc Ls (.int x :: .int j :: .ref a :: st) := by
  subst hp
  obtain ⟨s', Lo, X, B, hZ, hown, eT, r1, r2, r3⟩ := P
  have V0 := V
  obtain ⟨cl, A, -, S, hN, H⟩ := V
  obtain ⟨q1, q2⟩ := k_idx hj (S.symm ▸ hJ)
  obtain ⟨T', h', X', e', W, stp⟩ := stC X C.1 hZ eT A q1 (g := mkF m pc Ls (.int x :: .int j :: .ref a :: st)) rfl rfl (hb C.cdE hd)
  have W' := W
  rw [q2] at W'
  exact (k' T' h' ⟨s', _, X', B.mono (Nat.le_of_eq W.size.symm), hZ, hown, e', W.size ▸ r1, Fr.snoc X' r2 ha, r3.wr W hk⟩ W' (V0.set W' hg')).step stp
theorem k_bastore {k : ClassId} {N J : Nat} {f g' : Nat → Value} {j : Int32} {x : Int32} (C : KCx tbl nm cod ml ret p meth c Z a0) (P : KPos wd p l e R s m args below meth c Z own n0 h0 ws T h cells slots) (V : KVA Z h a k .byte N f) (hd : decode cod pc = .ok (.bastore, 1)) (hj : j.toInt = (J : Int)) (hJ : J < N) (hg' : ∀ i, i < N → (if i = J then (.int (nar .byte x) : Value) else f i) = g' i) (ha : n0 ≤ a) (hk : a ∈ ws ∨ h0.size ≤ a) {pc' : Nat} (hp : pc + 1 = pc') (k' : ∀ T' h', KPos wd p l e R s m args below meth c Z own n0 h0 ws T' h' cells slots → Wr h h' a J (.int (nar .byte x)) → KVA Z h' a k .byte N g' → KGo p e below K T' m pc' Ls st) : KGo p e below K T m pc Ls (.int x :: .int j :: .ref a :: st) := by
  subst hp
  obtain ⟨s', Lo, X, B, hZ, hown, eT, r1, r2, r3⟩ := P
  have V0 := V
  obtain ⟨cl, A, -, S, hN, H⟩ := V
  obtain ⟨q1, q2⟩ := k_idx hj (S.symm ▸ hJ)
  obtain ⟨T', h', X', e', W, stp⟩ := stB X C.1 hZ eT A q1 (g := mkF m pc Ls (.int x :: .int j :: .ref a :: st)) rfl rfl (hb C.cdE hd)
  have W' := W
  rw [q2] at W'
  exact (k' T' h' ⟨s', _, X', B.mono (Nat.le_of_eq W.size.symm), hZ, hown, e', W.size ▸ r1, Fr.snoc X' r2 ha, r3.wr W hk⟩ W' (V0.set W' hg')).step stp
theorem k_dastore {k : ClassId} {N J : Nat} {f g' : Nat → Value} {j : Int32} {x : UInt64} (C : KCx tbl nm cod ml ret p meth c Z a0) (P : KPos wd p l e R s m args below meth c Z own n0 h0 ws T h cells slots) (V : KVA Z h a k .double N f) (hd : decode cod pc = .ok (.dastore, 1)) (hj : j.toInt = (J : Int)) (hJ : J < N) (hg' : ∀ i, i < N → (if i = J then (.double x : Value) else f i) = g' i) (ha : n0 ≤ a) (hk : a ∈ ws ∨ h0.size ≤ a) {pc' : Nat} (hp : pc + 1 = pc') (k' : ∀ T' h', KPos wd p l e R s m args below meth c Z own n0 h0 ws T' h' cells slots → Wr h h' a J (.double x) → KVA Z h' a k .double N g' → KGo p e below K T' m pc' Ls st) : KGo p e below K T m pc Ls (.double x :: .int j :: .ref a :: st) := by
  subst hp
  obtain ⟨s', Lo, X, B, hZ, hown, eT, r1, r2, r3⟩ := P
  have V0 := V
  obtain ⟨cl, A, -, S, hN, H⟩ := V
  obtain ⟨q1, q2⟩ := k_idx hj (S.symm ▸ hJ)
  obtain ⟨T', h', X', e', W, stp⟩ := stD X C.1 hZ eT A q1 (g := mkF m pc Ls (.double x :: .int j :: .ref a :: st)) rfl rfl (hb C.cdE hd)
  have W' := W
  rw [q2] at W'
  exact (k' T' h' ⟨s', _, X', B.mono (Nat.le_of_eq W.size.symm), hZ, hown, e', W.size ▸ r1, Fr.snoc X' r2 ha, r3.wr W hk⟩ W' (V0.set W' hg')).step stp
theorem k_aastore {k : ClassId} {ty : FieldType} {N J : Nat} {f g' : Nat → Value} {j : Int32} {x : Value} (C : KCx tbl nm cod ml ret p meth c Z a0) (P : KPos wd p l e R s m args below meth c Z own n0 h0 ws T h cells slots) (V : KVA Z h a k ty N f) (hty : ty.isReference = true) (S0 : Sto Z h a x) (hd : decode cod pc = .ok (.aastore, 1)) (hj : j.toInt = (J : Int)) (hJ : J < N) (hg' : ∀ i, i < N → (if i = J then x else f i) = g' i) (ha : n0 ≤ a) (hk : a ∈ ws ∨ h0.size ≤ a) {pc' : Nat} (hp : pc + 1 = pc') (k' : ∀ T' h', KPos wd p l e R s m args below meth c Z own n0 h0 ws T' h' cells slots → Wr h h' a J x → KVA Z h' a k ty N g' → KGo p e below K T' m pc' Ls st) : KGo p e below K T m pc Ls (x :: .int j :: .ref a :: st) := by
  subst hp
  obtain ⟨s', Lo, X, B, hZ, hown, eT, r1, r2, r3⟩ := P
  have V0 := V
  obtain ⟨cl, A, -, S, hN, H⟩ := V
  obtain ⟨q1, q2⟩ := k_idx hj (S.symm ▸ hJ)
  obtain ⟨T', h', X', e', W, stp⟩ := stR X C.1 hZ eT A q1 hty S0 (g := mkF m pc Ls (x :: .int j :: .ref a :: st)) rfl rfl (hb C.cdE hd)
  have W' := W
  rw [q2] at W'
  exact (k' T' h' ⟨s', _, X', B.mono (Nat.le_of_eq W.size.symm), hZ, hown, e', W.size ▸ r1, Fr.snoc X' r2 ha, r3.wr W hk⟩ W' (V0.set W' hg')).step stp
theorem KVA.sto {k : ClassId} {N : Nat} {f : Nat → Value} {Cn K1 : String} {ty : FieldType} (V : KVA Z h a k ty N f) (O : Ovr Z k Cn) (I : Ins Z h b Cn true) : Sto Z h a (.ref b) := by
  obtain ⟨cl, A, q, -⟩ := V; exact Sto.ofV A q O I
theorem KVA.stoA {k : ClassId} {N : Nat} {f : Nat → Value} {Cn : String} {ty t0 : FieldType} (V : KVA Z h a k t0 N f) (O : OvrA Z k ty Cn) (I : Ins Z h b Cn true) : Sto Z h a (.ref b) := by
  obtain ⟨cl, A, q, -⟩ := V; exact Sto.ofVA A q O I
theorem k_ldcI {index : Nat} {z : Int32} (C : KCx tbl nm cod ml ret p meth c Z a0) (P : KPos wd p l e R s m args below meth c Z own n0 h0 ws T h cells slots) (w : (Jvm.Cond.constant own index z).before a0 Z = true) (hd : decode cod pc = .ok (.ldc index, 2)) {pc' : Nat} (hp : pc + 2 = pc') (k' : KGo p e below K T m pc' Ls (.int z :: st)) : KGo p e below K T m pc Ls st := by
  subst hp
  obtain ⟨s', L, X, B, hZ, hown, eT, r1⟩ := P
  exact k'.step fun t q => X.ldcInt C.1 hown (mvT hZ w) (g := mkF m pc Ls st) rfl (hb C.cdE hd) t q
theorem k_ldc2L {index : Nat} {z : Int64} (C : KCx tbl nm cod ml ret p meth c Z a0) (P : KPos wd p l e R s m args below meth c Z own n0 h0 ws T h cells slots) (w : (Jvm.Cond.constantLong own index z).before a0 Z = true) (hd : decode cod pc = .ok (.ldc2_w index, 3)) {pc' : Nat} (hp : pc + 3 = pc') (k' : KGo p e below K T m pc' Ls (.long z :: st)) : KGo p e below K T m pc Ls st := by
  subst hp
  obtain ⟨s', L, X, B, hZ, hown, eT, r1⟩ := P
  exact k'.step fun t q => X.ldc2Long C.1 hown (mvT hZ w) (g := mkF m pc Ls st) rfl (hb C.cdE hd) t q
theorem k_ldc2D {index : Nat} {z : UInt64} (C : KCx tbl nm cod ml ret p meth c Z a0) (P : KPos wd p l e R s m args below meth c Z own n0 h0 ws T h cells slots) (w : (Jvm.Cond.constantDouble own index z).before a0 Z = true) (hd : decode cod pc = .ok (.ldc2_w index, 3)) {pc' : Nat} (hp : pc + 3 = pc') (k' : KGo p e below K T m pc' Ls (.double z :: st)) : KGo p e below K T m pc Ls st := by
  subst hp
  obtain ⟨s', L, X, B, hZ, hown, eT, r1⟩ := P
  exact k'.step fun t q => X.ldc2DoubleC C.1 hown (mvT hZ w) (g := mkF m pc Ls st) rfl (hb C.cdE hd) t q
theorem k_castO {Kn : String} {index : Nat} (C : KCx tbl nm cod ml ret p meth c Z a0) (P : KPos wd p l e R s m args below meth c Z own n0 h0 ws T h cells slots) (w : (Jvm.Cond.classLink own index Kn).before a0 Z = true) (F : Ins Z h a Kn true) (hd : decode cod pc = .ok (.checkcast index, 3)) {pc' : Nat} (hp : pc + 3 = pc') (k' : ∀ T', KPos wd p l e R s m args below meth c Z own n0 h0 ws T' h cells slots → KGo p e below K T' m pc' Ls (.ref a :: st)) : KGo p e below K T m pc Ls (.ref a :: st) := by
  subst hp
  obtain ⟨s', L, X, B, hZ, hown, eT, r1⟩ := P
  obtain ⟨T', X', e', stp⟩ := castY X C.1 hZ hown w eT F (g := mkF m pc Ls (.ref a :: st)) rfl rfl (hb C.cdE hd)
  exact (k' T' ⟨s', L, X', B, hZ, hown, e', r1⟩).step stp
/-! ### calls -/
theorem k_initObj {index W : Nat} (C : KCx tbl nm cod ml ret p meth c Z a0) (P : KPos wd p l e R s m args below meth c Z own n0 h0 ws T h cells slots) (w1 : (Jvm.Cond.methodLink own index Lib.objectInit).before a0 Z = true) (w2 : (Jvm.Cond.instanceMethod Lib.objectInit).before a0 Z = true) (w3 : (Jvm.Cond.code Lib.objectInit ⟨#[0xb1]⟩ 1 none).before a0 Z = true)
    (hd : decode cod pc = .ok (.invokespecial index, 3)) (hsz : Ls.size = ml) (hf : 1 ≤ R.frames) (hW : (st.map fun v => v.category).sum ≤ W) (hl : W + 12 ≤ R.locals) {pc' : Nat} (hp : pc + 3 = pc') (k' : ∀ T', KPos wd p l e R s m args below meth c Z own n0 h0 ws T' h cells slots → KGo p e below K T' m pc' Ls st) : KGo p e below K T m pc Ls (.ref a :: st) := by
  subst hp
  obtain ⟨s', L, X, B, hZ, hown, eT, r1⟩ := P
  obtain ⟨T', X', e', stp⟩ := initO X C.1 hZ hown w1 w2 w3 eT (g := mkF m pc Ls (.ref a :: st)) rfl (hsz.trans C.mlE.symm) rfl (hb C.cdE hd) hf (by show 2 * 0 + _ ≤ _; rw [Nat.mul_zero, Nat.zero_add]; exact hW) hl
  exact (k' T' ⟨s', L, X', B, hZ, hown, e', r1⟩).step stp
theorem k_callN {y : MethodName} {index W maxL : Nat} {bytes : ByteArray} {rm : Room} {as : Array Value} {ws' : List Addr} {Q : Option Value → Heap → Prop} (C : KCx tbl nm cod ml ret p meth c Z a0) (P : KPos wd p l e R s m args below meth c Z own n0 h0 ws T h cells slots)
    (hy1 : y.name = "<init>") (w1 : (Jvm.Cond.methodLink own index y).before a0 Z = true) (w2 : (Jvm.Cond.instanceMethod y).before a0 Z = true) (w3 : (Jvm.Cond.code y bytes maxL none).before a0 Z = true) (w4 : (Jvm.Cond.initialized y.cls).before a0 Z = true) (hy : y.cls ≠ "java/lang/invoke/MethodHandle" ∧ y.cls ≠ "java/lang/invoke/VarHandle")
    (hM : KCt false l y bytes maxL none rm Z n0 h as ws' Q) (a : Addr) (argsL rest : List Value) (has : as = (.ref a :: argsL).toArray) (hlen : ∀ sig, parseMethodDescriptor y.desc = some sig → argsL.length = sig.parameters.length) (hst : st = argsL.reverse ++ .ref a :: rest) (hW : (rest.map fun v => v.category).sum ≤ W)
    (hd : decode cod pc = .ok (.invokespecial index, 3)) (hsz : Ls.size = ml) (hf : rm.frames + 1 ≤ R.frames) (hl : W + (maxL + 11) + rm.locals ≤ R.locals) {cells' slots' : Nat} (hc : cells + rm.cells = cells') (hs : slots + rm.slots = slots') (hc' : cells' ≤ R.cells) (hs' : slots' ≤ R.slots) (hws : ∀ x ∈ ws', x ∈ ws ∨ h0.size ≤ x) {pc' : Nat} (hp : pc + 3 = pc')
    (k' : ∀ T' h' v, KPos wd p l e R s m args below meth c Z own n0 h0 ws T' h' cells' slots' → Keep h h' ws' → Q v h' → KGo p e below K T' m pc' Ls (v.toList ++ rest)) : KGo p e below K T m pc Ls st := by
  subst hp hc hs has
  obtain ⟨s', L, X, B, hZ, hown, eT, r1, r2, r3⟩ := P
  obtain ⟨v, _, ⟨T', L', k1, n1⟩, -, X', ⟨Lc, ⟨q1, q2, q3⟩, l1, y1, z1⟩, stp⟩ := X.specialBack C.1 (y := y) hy1 hown (mvT hZ w1) (mvT hZ w2) (mvT hZ w3) hy (backOf (W := W) (Q := fun v h' L => Fr n0 L ∧ Keep h h' ws' ∧ Q v h') hM.plain hZ w3 w4 hf hl) (g := mkF m pc Ls st) rfl (hsz.trans C.mlE.symm) (Steps.refl _) (a := a) (argsL := argsL) (rest := rest) hlen hst (by show 2 * 0 + _ ≤ _; rw [Nat.mul_zero, Nat.zero_add]; exact hW) (hb C.cdE hd) (fun _ _ => ⟨rfl, eT, hc', hs'⟩)
  dsimp only [Pt.U, Pt.locs, Pt.cells, Pt.slots] at X' l1 y1 z1 stp q2 q3
  subst l1 y1 z1
  exact (k' T' T'.heap v ⟨s', _, X', B.mono q2.1, hZ, hown, rfl, Nat.le_trans r1 q2.1, Fr.app r2 q1, r3.trans q2 hws⟩ q2 q3).step fun t q => stp.trans q
theorem k_callV {y z : MethodName} {Cn : String} {index W maxL : Nat} {bytes : ByteArray} {rt : Option FieldType} {rm : Room} {as : Array Value} {ws' : List Addr} {Q : Option Value → Heap → Prop} (C : KCx tbl nm cod ml ret p meth c Z a0) (P : KPos wd p l e R s m args below meth c Z own n0 h0 ws T h cells slots)
    (w1 : (Jvm.Cond.methodLink own index y).before a0 Z = true) (wdc : (Jvm.Cond.declares y).before a0 Z = true) (nf : ∀ s' : State, Z.Warmed39 s'.vm → NotFace s' y) (wsel : (Jvm.Cond.selects Cn y z).before a0 Z = true) (w2 : (Jvm.Cond.instanceMethod z).before a0 Z = true) (w3 : (Jvm.Cond.code z bytes maxL rt).before a0 Z = true) (w4 : (Jvm.Cond.initialized z.cls).before a0 Z = true) (hy : y.cls ≠ "java/lang/invoke/MethodHandle" ∧ y.cls ≠ "java/lang/invoke/VarHandle")
    (hM : KCt false l z bytes maxL rt rm Z n0 h as ws' Q) (E : Exa Z h a Cn) (argsL rest : List Value) (has : as = (.ref a :: argsL).toArray) (hlen : ∀ sig, parseMethodDescriptor y.desc = some sig → argsL.length = sig.parameters.length) (hst : st = argsL.reverse ++ .ref a :: rest) (hW : (rest.map fun v => v.category).sum ≤ W)
    (hd : decode cod pc = .ok (.invokevirtual index, 3)) (hsz : Ls.size = ml) (hf : rm.frames + 1 ≤ R.frames) (hl : W + (maxL + 11) + rm.locals ≤ R.locals) {cells' slots' : Nat} (hc : cells + rm.cells = cells') (hs : slots + rm.slots = slots') (hc' : cells' ≤ R.cells) (hs' : slots' ≤ R.slots) (hws : ∀ x ∈ ws', x ∈ ws ∨ h0.size ≤ x) {pc' : Nat} (hp : pc + 3 = pc')
    (k' : ∀ T' h' v, KPos wd p l e R s m args below meth c Z own n0 h0 ws T' h' cells' slots' → Keep h h' ws' → Q v h' → KGo p e below K T' m pc' Ls (v.toList ++ rest)) : KGo p e below K T m pc Ls st := by
  subst hp hc hs has
  obtain ⟨s', L, X, B, hZ, hown, eT, r1, r2, r3⟩ := P
  obtain ⟨cq, kq, qa, qb, qc⟩ := isOf hZ eT E
  obtain ⟨v, _, ⟨T', L', k1, n1⟩, -, X', ⟨Lc, ⟨q1, q2, q3⟩, l1, y1, z1⟩, stp⟩ := X.virtualBack C.1 (y := y) (z := z) hown (mvT hZ w1) (mvT hZ wdc) (nf s' hZ) (mvT hZ wsel) (mvT hZ w2) hy (backOf (W := W) (Q := fun v h' L => Fr n0 L ∧ Keep h h' ws' ∧ Q v h') hM.plain hZ w3 w4 hf hl) qa qc (g := mkF m pc Ls st) rfl (hsz.trans C.mlE.symm) (Steps.refl _) (argsL := argsL) (rest := rest) hlen hst (by show 2 * 0 + _ ≤ _; rw [Nat.mul_zero, Nat.zero_add]; exact hW) (hb C.cdE hd) (fun _ _ => ⟨rfl, eT, hc', hs'⟩)
  dsimp only [Pt.U, Pt.locs, Pt.cells, Pt.slots] at X' l1 y1 z1 stp q2 q3
  subst l1 y1 z1
  exact (k' T' T'.heap v ⟨s', _, X', B.mono q2.1, hZ, hown, rfl, Nat.le_trans r1 q2.1, Fr.app r2 q1, r3.trans q2 hws⟩ q2 q3).step fun t q => stp.trans q
theorem k_callI {xi y : MethodName} {Cn : String} {index count W maxL : Nat} {bytes : ByteArray} {rt : Option FieldType} {rm : Room} {as : Array Value} {ws' : List Addr} {Q : Option Value → Heap → Prop} (C : KCx tbl nm cod ml ret p meth c Z a0) (P : KPos wd p l e R s m args below meth c Z own n0 h0 ws T h cells slots)
    (w1 : (Jvm.Cond.methodLink own index xi).before a0 Z = true) (wdc : (Jvm.Cond.declares xi).before a0 Z = true) (wf : (Jvm.Cond.interfaceMethod xi.cls xi.cls xi.name xi.desc).before a0 Z = true) (wsel : (Jvm.Cond.selects Cn xi y).before a0 Z = true) (w2 : (Jvm.Cond.instanceMethod y).before a0 Z = true) (wp : (Jvm.Cond.publicMethod y).before a0 Z = true) (wu : (Jvm.Cond.unhidden Cn xi.name xi.desc).before a0 Z = true) (wc : (Jvm.Cond.castable Cn xi.cls).before a0 Z = true)
    (w3 : (Jvm.Cond.code y bytes maxL rt).before a0 Z = true) (w4 : (Jvm.Cond.initialized y.cls).before a0 Z = true) (hy : xi.cls ≠ "java/lang/invoke/MethodHandle" ∧ xi.cls ≠ "java/lang/invoke/VarHandle")
    (hM : KCt false l y bytes maxL rt rm Z n0 h as ws' Q) (E : Exa Z h a Cn) (argsL rest : List Value) (has : as = (.ref a :: argsL).toArray) (hlen : ∀ sig, parseMethodDescriptor xi.desc = some sig → argsL.length = sig.parameters.length) (hst : st = argsL.reverse ++ .ref a :: rest) (hW : (rest.map fun v => v.category).sum ≤ W)
    (hd : decode cod pc = .ok (.invokeinterface index count, 5)) (hsz : Ls.size = ml) (hf : rm.frames + 1 ≤ R.frames) (hl : W + (maxL + 11) + rm.locals ≤ R.locals) {cells' slots' : Nat} (hc : cells + rm.cells = cells') (hs : slots + rm.slots = slots') (hc' : cells' ≤ R.cells) (hs' : slots' ≤ R.slots) (hws : ∀ x ∈ ws', x ∈ ws ∨ h0.size ≤ x) {pc' : Nat} (hp : pc + 5 = pc')
    (k' : ∀ T' h' v, KPos wd p l e R s m args below meth c Z own n0 h0 ws T' h' cells' slots' → Keep h h' ws' → Q v h' → KGo p e below K T' m pc' Ls (v.toList ++ rest)) : KGo p e below K T m pc Ls st := by
  subst hp hc hs has
  obtain ⟨s', L, X, B, hZ, hown, eT, r1, r2, r3⟩ := P
  obtain ⟨cq, kq, qa, qb, qc⟩ := isOf hZ eT E
  obtain ⟨v, _, ⟨T', L', k1, n1⟩, -, X', ⟨Lc, ⟨q1, q2, q3⟩, l1, y1, z1⟩, stp⟩ := X.interfaceBack C.1 (xi := xi) (y := y) hown (mvT hZ w1) (mvT hZ wdc) (mvT hZ wf (by simp [Cond.onTables, Cond.keepsFace, Cond.faceAtom, hy.1, hy.2])) (mvT hZ wsel) (mvT hZ w2) (mvT hZ wp) (mvT hZ wu) (mvT hZ wc) hy (backOf (W := W) (Q := fun v h' L => Fr n0 L ∧ Keep h h' ws' ∧ Q v h') hM.plain hZ w3 w4 hf hl) qa qb qc (g := mkF m pc Ls st) rfl (hsz.trans C.mlE.symm) (Steps.refl _) (argsL := argsL) (rest := rest) hlen hst (by show 2 * 0 + _ ≤ _; rw [Nat.mul_zero, Nat.zero_add]; exact hW) (hb C.cdE hd) (fun _ _ => ⟨rfl, eT, hc', hs'⟩)
  dsimp only [Pt.U, Pt.locs, Pt.cells, Pt.slots] at X' l1 y1 z1 stp q2 q3
  subst l1 y1 z1
  exact (k' T' T'.heap v ⟨s', _, X', B.mono q2.1, hZ, hown, rfl, Nat.le_trans r1 q2.1, Fr.app r2 q1, r3.trans q2 hws⟩ q2 q3).step fun t q => stp.trans q
theorem k_callP {y : MethodName} {Cn : String} {index W maxL : Nat} {bytes : ByteArray} {rt : Option FieldType} {rm : Room} {as : Array Value} {ws' : List Addr} {Q : Option Value → Heap → Prop} (C : KCx tbl nm cod ml ret p meth c Z a0) (P : KPos wd p l e R s m args below meth c Z own n0 h0 ws T h cells slots)
    (w1 : (Jvm.Cond.methodLink own index y).before a0 Z = true) (w2 : (Jvm.Cond.instanceMethod y).before a0 Z = true) (wsel : (Jvm.Cond.selects y.cls y y).before a0 Z = true) (wp : (Jvm.Cond.privateMethod y).before a0 Z = true) (w3 : (Jvm.Cond.code y bytes maxL rt).before a0 Z = true) (w4 : (Jvm.Cond.initialized y.cls).before a0 Z = true) (hy : y.cls ≠ "java/lang/invoke/MethodHandle" ∧ y.cls ≠ "java/lang/invoke/VarHandle")
    (hM : KCt false l y bytes maxL rt rm Z n0 h as ws' Q) (E : Exa Z h a Cn) (argsL rest : List Value) (has : as = (.ref a :: argsL).toArray) (hlen : ∀ sig, parseMethodDescriptor y.desc = some sig → argsL.length = sig.parameters.length) (hst : st = argsL.reverse ++ .ref a :: rest) (hW : (rest.map fun v => v.category).sum ≤ W)
    (hd : decode cod pc = .ok (.invokevirtual index, 3)) (hsz : Ls.size = ml) (hf : rm.frames + 1 ≤ R.frames) (hl : W + (maxL + 11) + rm.locals ≤ R.locals) {cells' slots' : Nat} (hc : cells + rm.cells = cells') (hs : slots + rm.slots = slots') (hc' : cells' ≤ R.cells) (hs' : slots' ≤ R.slots) (hws : ∀ x ∈ ws', x ∈ ws ∨ h0.size ≤ x) {pc' : Nat} (hp : pc + 3 = pc')
    (k' : ∀ T' h' v, KPos wd p l e R s m args below meth c Z own n0 h0 ws T' h' cells' slots' → Keep h h' ws' → Q v h' → KGo p e below K T' m pc' Ls (v.toList ++ rest)) : KGo p e below K T m pc Ls st := by
  subst hp hc hs has
  obtain ⟨s', L, X, B, hZ, hown, eT, r1, r2, r3⟩ := P
  obtain ⟨cq, qa, qb⟩ := E.cell
  obtain ⟨v, _, ⟨T', L', k1, n1⟩, -, X', ⟨Lc, ⟨q1, q2, q3⟩, l1, y1, z1⟩, stp⟩ := X.privateBack C.1 (y := y) hown (mvT hZ w1) (mvT hZ w2) (mvT hZ wsel) (Cond.privateMethod_at (mvP hZ wp (args := #[]))) (mvT hZ w3) hy (backOf (W := W) (Q := fun v h' L => Fr n0 L ∧ Keep h h' ws' ∧ Q v h') hM.plain hZ w3 w4 hf hl) (g := mkF m pc Ls st) rfl (hsz.trans C.mlE.symm) (Steps.refl _) (a := a) (by rw [eT]; exact qa) qb (argsL := argsL) (rest := rest) hlen hst (by show 2 * 0 + _ ≤ _; rw [Nat.mul_zero, Nat.zero_add]; exact hW) (hb C.cdE hd) (fun _ _ => ⟨rfl, eT, hc', hs'⟩)
  dsimp only [Pt.U, Pt.locs, Pt.cells, Pt.slots] at X' l1 y1 z1 stp q2 q3
  subst l1 y1 z1
  exact (k' T' T'.heap v ⟨s', _, X', B.mono q2.1, hZ, hown, rfl, Nat.le_trans r1 q2.1, Fr.app r2 q1, r3.trans q2 hws⟩ q2 q3).step fun t q => stp.trans q
theorem k_callT {y : MethodName} {index W maxL : Nat} {bytes : ByteArray} {rt : Option FieldType} {rm : Room} {as : Array Value} {ws' : List Addr} {Q : Option Value → Heap → Prop} (C : KCx tbl nm cod ml ret p meth c Z a0) (P : KPos wd p l e R s m args below meth c Z own n0 h0 ws T h cells slots)
    (w1 : (Jvm.Cond.methodLink own index y).before a0 Z = true) (w2 : (Jvm.Cond.static y).before a0 Z = true) (w3 : (Jvm.Cond.code y bytes maxL rt).before a0 Z = true) (w4 : (Jvm.Cond.initialized y.cls).before a0 Z = true) (hy : y.cls ≠ "java/lang/invoke/MethodHandle" ∧ y.cls ≠ "java/lang/invoke/VarHandle")
    (hM : KCt false l y bytes maxL rt rm Z n0 h as ws' Q) (argsL rest : List Value) (has : as = argsL.toArray) (hlen : ∀ sig, parseMethodDescriptor y.desc = some sig → argsL.length = sig.parameters.length) (hst : st = argsL.reverse ++ rest) (hW : (rest.map fun v => v.category).sum ≤ W)
    (hd : decode cod pc = .ok (.invokestatic index, 3)) (hsz : Ls.size = ml) (hf : rm.frames + 1 ≤ R.frames) (hl : W + (maxL + 11) + rm.locals ≤ R.locals) {cells' slots' : Nat} (hc : cells + rm.cells = cells') (hs : slots + rm.slots = slots') (hc' : cells' ≤ R.cells) (hs' : slots' ≤ R.slots) (hws : ∀ x ∈ ws', x ∈ ws ∨ h0.size ≤ x) {pc' : Nat} (hp : pc + 3 = pc')
    (k' : ∀ T' h' v, KPos wd p l e R s m args below meth c Z own n0 h0 ws T' h' cells' slots' → Keep h h' ws' → Q v h' → KGo p e below K T' m pc' Ls (v.toList ++ rest)) : KGo p e below K T m pc Ls st := by
  subst hp hc hs has
  obtain ⟨s', L, X, B, hZ, hown, eT, r1, r2, r3⟩ := P
  obtain ⟨v, _, ⟨T', L', k1, n1⟩, -, X', ⟨Lc, ⟨q1, q2, q3⟩, l1, y1, z1⟩, stp⟩ := Jvm.LawKit.callS X C.1 (y := y) hown (mvT hZ w1) (mvT hZ w2) (mvT hZ w4) (mvT hZ w3) hy (backOf (W := W) (Q := fun v h' L => Fr n0 L ∧ Keep h h' ws' ∧ Q v h') hM.plain hZ w3 w4 hf hl) (g := mkF m pc Ls st) rfl (hsz.trans C.mlE.symm) (argsL := argsL) (rest := rest) hlen hst (by show 2 * 0 + _ ≤ _; rw [Nat.mul_zero, Nat.zero_add]; exact hW) (hb C.cdE hd) (fun _ _ => ⟨rfl, eT, hc', hs'⟩)
  dsimp only [Pt.U, Pt.locs, Pt.cells, Pt.slots] at X' l1 y1 z1 stp q2 q3
  subst l1 y1 z1
  exact (k' T' T'.heap v ⟨s', _, X', B.mono q2.1, hZ, hown, rfl, Nat.le_trans r1 q2.1, Fr.app r2 q1, r3.trans q2 hws⟩ q2 q3).step stp
theorem k_ldcS {index : Nat} {text : String} {n : Nat} (C : KCx tbl nm cod ml ret p meth c Z a0) (P : KPos true p l e R s m args below meth c Z own n0 h0 ws T h cells slots) (w : (Jvm.Cond.stringLink own index text).before a0 Z = true) (wS : ∀ a ∈ Bundle.stringAtoms, a.before a0 Z = true) (hd : decode cod pc = .ok (.ldc index, 2)) (hn : 4 * text.toList.length ≤ n) (hbig : n ≤ 536870912)
    {cells' slots' : Nat} (hc : cells + 2 = cells') (hs : slots + (n + 4) = slots') (hc' : cells' ≤ R.cells) (hs' : slots' ≤ R.slots) {pc' : Nat} (hp : pc + 2 = pc')
    (k' : ∀ T' h' a, KPos true p l e R s m args below meth c Z own n0 h0 ws T' h' cells' slots' → Ext h h' → KGo p e below K T' m pc' Ls (.ref a :: st)) : KGo p e below K T m pc Ls st := by
  subst hp hc hs
  obtain ⟨s', Lo, X, ⟨vm, k0, rfl, hS, hk0⟩, hZ, hown, eT, r1, r2, r3⟩ := P
  obtain ⟨a, T', h', k1, X', e', E, hS', hk1, hZ', hown', stp⟩ := ldcS X C.1 hZ hown w wS eT hS hk0 (g := mkF m pc Ls st) rfl (hb C.cdE hd) hn hbig hc' hs'
  exact (k' T' h' a ⟨s.setVm T'.vm, Lo, X', ⟨T'.vm, k1, rfl, hS', hk1⟩, hZ', hown', e', Nat.le_trans r1 E.1, r2, r3.ext E⟩ E).step stp
theorem k_newpE {aty : ArrayType} {ad : String} {z : Int32} {N cap : Nat} (C : KCx tbl nm cod ml ret p meth c Z a0) (P : KPos wd p l e R s m args below meth c Z own n0 h0 ws T h cells slots) (w : (Jvm.Cond.arrayClass (newarray.typeOf aty)).before a0 Z = true) (had : "[" ++ (newarray.typeOf aty).toString = ad) (hd : decode cod pc = .ok (.newarray aty, 2)) (hN : z.toInt = (N : Int)) (hcap : N ≤ cap) (hb8 : cap * 8 ≤ 536870912)
    {cells' slots' : Nat} (hc : cells + 1 = cells') (hs : slots + cap = slots') (hc' : cells' ≤ R.cells) (hs' : slots' ≤ R.slots) {pc' : Nat} (hp : pc + 2 = pc')
    (k' : ∀ T' h' a k, KPos wd p l e R s m args below meth c Z own n0 h0 ws T' h' cells' slots' → h.size = a → n0 ≤ a → h0.size ≤ a → Ext h h' → KVA Z h' a k (newarray.typeOf aty) N (fun _ => defaultValue (newarray.typeOf aty)) → Exa Z h' a ad → KGo p e below K T' m pc' Ls (.ref a :: st)) : KGo p e below K T m pc Ls (.int z :: st) := by
  subst hp hc hs
  obtain ⟨s', Lo, X, B, hZ, hown, eT, r1, r2, r3⟩ := P
  have e0 : ¬ z < 0 := by rw [Int32.lt_iff_toInt_lt]; have : (0 : Int32).toInt = 0 := rfl; omega
  have e1 : z.toNatClampNeg ≤ cap := by simp only [Int32.toNatClampNeg]; omega
  obtain ⟨T', h', kA, X', e', E, A, Ex, stp⟩ := newPE X C.1 hZ w eT (g := mkF m pc Ls (.int z :: st)) rfl (hb C.cdE hd) rfl e0 e1 hb8 hc' hs' had
  exact (k' T' h' _ kA ⟨s', _, X', B.mono E.1, hZ, hown, e', Nat.le_trans r1 E.1, r2, r3.ext E⟩ rfl r1 r3.1 E (KVA.new A hN) Ex).step stp
/-- an array's clone: its own, like it -/
theorem k_clone {ad : String} {index W N cap : Nat} {k : ClassId} {ty : FieldType} {f : Nat → Value} (C : KCx tbl nm cod ml ret p meth c Z a0) (P : KPos wd p l e R s m args below meth c Z own n0 h0 ws T h cells slots)
    (w1 : (Cond.methodLink own index ⟨ad, "clone", "()Ljava/lang/Object;"⟩).before a0 Z = true) (w2 : (Cond.sameMethod ad "java/lang/Object" "clone" "()Ljava/lang/Object;").before a0 Z = true) (w3 : (Cond.native ⟨"java/lang/Object", "clone", "()Ljava/lang/Object;"⟩).before a0 Z = true)
    (w4 : (Cond.instanceMethod ⟨"java/lang/Object", "clone", "()Ljava/lang/Object;"⟩).before a0 Z = true) (w5 : (Cond.selects ad ⟨ad, "clone", "()Ljava/lang/Object;"⟩ ⟨"java/lang/Object", "clone", "()Ljava/lang/Object;"⟩).before a0 Z = true) (w6 : (Cond.castable ad "java/lang/Cloneable").before a0 Z = true)
    (V : KVA Z h a k ty N f) (G : ∀ i, i < N → fits ty (f i) = true) (Ex : Exa Z h a ad) (hd : decode cod pc = .ok (.invokevirtual index, 3)) (hsz : Ls.size = ml) (hW : (st.map fun v => v.category).sum ≤ W) (hf : 1 ≤ R.frames) (hl : W + 14 ≤ R.locals) (hcap : N ≤ cap)
    {cells' slots' : Nat} (hc : cells + 1 = cells') (hs : slots + cap = slots') (hc' : cells' ≤ R.cells) (hs' : slots' ≤ R.slots) {pc' : Nat} (hp : pc + 3 = pc')
    (k' : ∀ T' h' b, KPos wd p l e R s m args below meth c Z own n0 h0 ws T' h' cells' slots' → h.size = b → n0 ≤ b → h0.size ≤ b → Ext h h' → KVA Z h' b k ty N f → Exa Z h' b ad → KGo p e below K T' m pc' Ls (.ref b :: st)) : KGo p e below K T m pc Ls (.ref a :: st) := by
  subst hp hc hs
  obtain ⟨s', Lo, X, B, hZ, hown, eT, r1, r2, r3⟩ := P
  obtain ⟨cl, A, q1, q2, q3, q4⟩ := V
  have FC : FitC Z cl := fitC_of A fun i hi v hv => by rw [q4 i (q2 ▸ hi)] at hv; cases hv; exact G i (q2 ▸ hi)
  obtain ⟨T', h', X', e', E, A', E', stp⟩ := cloneA X C.1 hZ hown w1 w2 w3 w4 w5 w6 eT A Ex FC (g := mkF m pc Ls (.ref a :: st)) rfl (hsz.trans C.mlE.symm) rfl (hb C.cdE hd) hf (by show 2 * 0 + _ ≤ _; rw [Nat.mul_zero, Nat.zero_add]; exact hW) hl (by rw [q2]; exact hcap) hc' hs'
  exact (k' T' h' _ ⟨s', _, X', B.mono E.1, hZ, hown, e', Nat.le_trans r1 E.1, r2, r3.ext E⟩ rfl r1 r3.1 E ⟨_, A', q1, q2, q3, q4⟩ E').step stp
theorem KVA.arv {k : ClassId} {ty : FieldType} {N : Nat} {f : Nat → Value} {z : Int32} (V : KVA Z h a k ty N f) (hz : z.toInt = (N : Int)) (G : ∀ i, i < N → fits ty (f i) = true) (dv : Value) : Arv Z h a k ty z ((List.range N).map f) dv := by
  obtain ⟨cl, A, q1, q2, q3, q4⟩ := V
  have e : z.toNatClampNeg = N := by simp only [Int32.toNatClampNeg]; omega
  have gd : ∀ i, i < N → ((List.range N).map f).getD i dv = f i := fun i hi => by simp [List.getD_eq_getElem?_getD, hi]
  refine ⟨cl, A, q1, by rw [q2, e], by rw [Int32.lt_iff_toInt_lt]; have : (0 : Int32).toInt = 0 := rfl; omega, fun i hi => ?_, fun i hi => ?_⟩
  · rw [gd i (q2 ▸ hi)]; exact q4 i (q2 ▸ hi)
  · rw [gd i (q2 ▸ hi)]; exact G i (q2 ▸ hi)
theorem KVA.of_arv {k : ClassId} {ty : FieldType} {N : Nat} {f : Nat → Value} {z : Int32} {vs : List Value} {dv : Value} (V : Arv Z h a k ty z vs dv) (hz : z.toInt = (N : Int)) (q : ∀ i, i < N → vs.getD i dv = f i) : KVA Z h a k ty N f := by
  obtain ⟨cl, A, q1, q2, q3, q4, -⟩ := V
  have e : z.toNatClampNeg = N := by simp only [Int32.toNatClampNeg]; omega
  have := Int32.toInt_lt z
  exact ⟨cl, A, q1, by rw [q2, e], by omega, fun i hi => by rw [← q i hi]; exact q4 i (by rw [q2, e]; exact hi)⟩
/-- System.arraycopy between arrays of one primitive kind -/
theorem k_acopy {index W N N' S D n : Nat} {k k1 : ClassId} {ty : FieldType} {f f' g' : Nat → Value} {sp dp nn : Int32} (C : KCx tbl nm cod ml ret p meth c Z a0) (P : KPos wd p l e R s m args below meth c Z own n0 h0 ws T h cells slots)
    (w1 : (Cond.methodLink own index Jvm.Stand.acN).before a0 Z = true) (w2 : (Cond.native Jvm.Stand.acN).before a0 Z = true) (w3 : (Cond.static Jvm.Stand.acN).before a0 Z = true) (w4 : (Cond.initialized "java/lang/System").before a0 Z = true)
    (A : KVA Z h a k ty N f) (B : KVA Z h b k1 ty N' f') (hty : refKind ty = false) (GA : ∀ i, i < N → fits ty (f i) = true) (GB : ∀ i, i < N' → fits ty (f' i) = true) (hS : sp.toInt = (S : Int)) (hD : dp.toInt = (D : Int)) (hn : nn.toInt = (n : Int)) (h4 : S + n ≤ N) (h5 : D + n ≤ N')
    (hg : ∀ i, i < N' → (if D ≤ i ∧ i < D + n then f (S + (i - D)) else f' i) = g' i) (hd : decode cod pc = .ok (.invokestatic index, 3)) (hsz : Ls.size = ml) (hW : (st.map fun v => v.category).sum ≤ W) (hf : 1 ≤ R.frames) (hlo : W + (nativeFrameWords "java/lang/System" "arraycopy" 5 + 11) ≤ R.locals) (hge : n0 ≤ b) (hwb : b ∈ ws ∨ h0.size ≤ b) {pc' : Nat} (hp : pc + 3 = pc')
    (k' : ∀ T' h', KPos wd p l e R s m args below meth c Z own n0 h0 ws T' h' cells slots → Keep h h' [b] → KVA Z h' b k1 ty N' g' → KGo p e below K T' m pc' Ls st) : KGo p e below K T m pc Ls (.int nn :: .int dp :: .ref b :: .int sp :: .ref a :: st) := by
  subst hp
  obtain ⟨s', Lo, X, Bs, hZ, hown, eT, r1, r2, r3⟩ := P
  have nat : ∀ {x : Int32} {M : Nat}, x.toInt = (M : Int) → ¬ x < 0 ∧ x.toNatClampNeg = M := fun {x M} q => ⟨by rw [Int32.lt_iff_toInt_lt]; have : (0 : Int32).toInt = 0 := rfl; omega, by simp only [Int32.toNatClampNeg]; omega⟩
  have zN : ∀ {M : Nat}, M < 2 ^ 31 → (Int32.ofNat M).toInt = (M : Int) := fun {M} q => by rw [Int32.toInt_ofNat_of_lt q]
  have bN : N < 2 ^ 31 := by obtain ⟨_, _, _, _, q, _⟩ := A; exact q
  have bN' : N' < 2 ^ 31 := by obtain ⟨_, _, _, _, q, _⟩ := B; exact q
  have e1 := nat hS; have e2 := nat hD; have e3 := nat hn; have e4 := nat (zN bN); have e5 := nat (zN bN')
  obtain ⟨T', h', L', X', e', F', Kp, V', stp⟩ := cpA X C.1 hZ hown w1 w2 w3 w4 eT (A.arv (zN bN) GA .null) (B.arv (zN bN') GB .null) (Or.inl ⟨rfl, hty⟩) e1.1 e2.1 e3.1 (by rw [e1.2, e3.2, e4.2]; exact h4) (by rw [e2.2, e3.2, e5.2]; exact h5) rfl (by rw [e2.2, e3.2]; simpa using h5) r2 hge (g := mkF m pc Ls (.int nn :: .int dp :: .ref b :: .int sp :: .ref a :: st)) rfl (hsz.trans C.mlE.symm) rfl (hb C.cdE hd) hf (by show 2 * 0 + _ ≤ _; rw [Nat.mul_zero, Nat.zero_add]; exact hW) hlo
  refine (k' T' h' ⟨s', _, X', Bs.mono Kp.1, hZ, hown, e', Nat.le_trans r1 Kp.1, F', r3.trans Kp (by intro x hx; rw [List.mem_singleton] at hx; subst hx; exact hwb)⟩ Kp (KVA.of_arv V' (zN bN') fun i hi => ?_)).step stp
  rw [← hg i hi, e1.2, e2.2, e3.2]
  by_cases q : D ≤ i ∧ i < D + n
  · rw [if_pos q, List.getD_eq_getElem?_getD, List.append_assoc, List.getElem?_append_right (by simp; omega), List.getElem?_append_left (by simp; omega)]
    simp only [List.length_take, List.length_map, List.length_range, Nat.min_eq_left (show D ≤ N' by omega)]
    rw [List.getElem?_map, List.getElem?_range (by omega)]
    simp only [Option.map_some, Option.getD_some, List.getD_eq_getElem?_getD]
    rw [List.getElem?_map, List.getElem?_range (by omega)]; rfl
  · rw [if_neg q, List.getD_eq_getElem?_getD, List.append_assoc]
    by_cases u : i < D
    · rw [List.getElem?_append_left (by simp; omega), List.getElem?_take_of_lt u, List.getElem?_map, List.getElem?_range hi]; rfl
    · rw [List.getElem?_append_right (by simp; omega), List.getElem?_append_right (by simp; omega)]
      simp only [List.length_take, List.length_map, List.length_range, Nat.min_eq_left (show D ≤ N' by omega), List.getElem?_drop]
      rw [show D + n + (i - D - n) = i by omega, List.getElem?_map, List.getElem?_range hi]; rfl
theorem k_selP {y : MethodName} {kk : Nat} (wi : (Jvm.Cond.instantiable y.cls kk).before a0 Z = true) (wp : (Jvm.Cond.privateMethod y).before a0 Z = true) (w2 : (Jvm.Cond.instanceMethod y).before a0 Z = true) (hy : y.cls ≠ "java/lang/invoke/MethodHandle" ∧ y.cls ≠ "java/lang/invoke/VarHandle") : (Jvm.Cond.selects y.cls y y).before a0 Z = true := by
  obtain ⟨c, k, h1, h2, -, h3, -⟩ := Cond.instantiable_spec wi
  exact selects_self_of_private h1 h2 (by simp at h3; exact h3.1) (Cond.privateMethod_at wp) w2 hy
theorem KCt.wide {y : MethodName} {rm : Room} {as : Array Value} {Q : Option Value → Heap → Prop} {ws' : List Addr} (k : KCt wd l y cod ml ret rm Z n0 h0 as ws Q) (hs : ∀ x ∈ ws, x ∈ ws') : KCt wd l y cod ml ret rm Z n0 h0 as ws' Q := by
  intro wsc p e h1 h2 h3 s m args below h4 h5 h6 h7
  obtain ⟨n, o, g1, g2, g3, v, L, g4, ⟨g5, g6, g7⟩, g8⟩ := k wsc p e h1 h2 h3 s m args below h4 h5 h6 h7
  exact ⟨n, o, g1, g2, g3, v, L, g4, ⟨g5, ⟨g6.1, fun x c q r => g6.2.1 x c q fun u => r (hs x u), g6.2.2⟩, g7⟩, g8⟩
theorem KVA.neT {k k1 : ClassId} {ty ty1 : FieldType} {N N1 : Nat} {f f1 : Nat → Value} (F : KVA Z h a k ty N f) (G : KVA Z h b k1 ty1 N1 f1) (hne : ty ≠ ty1) : a ≠ b := fun e => by
  subst e
  obtain ⟨c, A, -⟩ := F; obtain ⟨c1, A1, -⟩ := G
  cases A.1.symm.trans A1.1
  obtain ⟨-, k, hk, comp, hkind⟩ := A.2.1
  obtain ⟨-, k', hk', comp', hkind'⟩ := A1.2.1
  cases hk.symm.trans hk'
  rw [hkind] at hkind'; cases hkind'; exact hne rfl
/-- the ways from here to one place, made one (the heap unturned) -/
theorem k_join {pc' : Nat} {Ls' : Array Slot} {st' : List Value} (P : KPos wd p l e R s m args below meth c Z own n0 h0 ws T h cells slots)
    (f : (∀ T', KPos wd p l e R s m args below meth c Z own n0 h0 ws T' h cells slots → KGo p e below K T' m pc' Ls' st') → KGo p e below K T m pc Ls st)
    (k' : ∀ T', KPos wd p l e R s m args below meth c Z own n0 h0 ws T' h cells slots → KGo p e below K T' m pc' Ls' st') : KGo p e below K T m pc Ls st := f k'
theorem k_exaNs {Cn : String} (E : Exa Z h a Cn) : ∀ cell : Cell, h[a]? = some cell → cell.vm.isStatics = false := fun cell q => by
  obtain ⟨c', h1, h2⟩ := E.cell
  cases q.symm.trans h1
  cases e : cell.vm <;> first | rfl | exact absurd e (h2 _)
theorem KOb.ns {Cn : String} {lay : List (String × String × String)} {vs : List Value} (F : KOb Z h a Cn lay vs) : ∀ cell : Cell, h[a]? = some cell → cell.vm.isStatics = false := k_exaNs F.exa
theorem KVA.ns {k : ClassId} {ty : FieldType} {N : Nat} {f : Nat → Value} (F : KVA Z h a k ty N f) : ∀ cell : Cell, h[a]? = some cell → cell.vm.isStatics = false := fun cell q => by
  obtain ⟨c', A, -⟩ := F
  cases q.symm.trans A.1
  have h2 := A.2.1.1
  cases e : cell.vm <;> first | rfl | exact absurd e (h2 _)
theorem k_ns0 : ∀ x ∈ ([] : List Addr), ∀ cell : Cell, h[x]? = some cell → cell.vm.isStatics = false := fun _ q => nomatch q
theorem k_nsS {l' : List Addr} (q : ∀ cell : Cell, h[a]? = some cell → cell.vm.isStatics = false) (r : ∀ x ∈ l', ∀ cell : Cell, h[x]? = some cell → cell.vm.isStatics = false) : ∀ x ∈ a :: l', ∀ cell : Cell, h[x]? = some cell → cell.vm.isStatics = false := fun x hx => by
  rcases List.mem_cons.mp hx with rfl | u
  · exact q
  · exact r x u
theorem k_staKeep {Cn n d : String} {v : Value} {ws' : List Addr} (F : Sta Z h Cn n d v) (K' : Keep h h' ws') (q : ∀ x ∈ ws', ∀ cell : Cell, h[x]? = some cell → cell.vm.isStatics = false) : Sta Z h' Cn n d v := by
  obtain ⟨cf, i, k, f, st, cell, h1, h2, h3, h4, h5, h6, h7⟩ := F
  exact ⟨cf, i, k, f, st, cell, h1, h2, h3, h4, K'.2.1 st cell h5 (fun u => by have := q st u cell h5; rw [this] at h6; cases h6), h6, h7⟩
end Kit
end Jvm.OwnKit
namespace Jvm.OwnNum
theorem toInt {x : Int32} {n : Nat} (h : x.toBitVec.toNat = n) (hn : n < 2147483648) : x.toInt = (n : Int) := by
  show x.toBitVec.toInt = _
  rw [BitVec.toInt_eq_toNat_cond, if_pos (by omega), h]
theorem toNat {x : Int32} {n : Nat} (h : x.toInt = (n : Int)) : x.toBitVec.toNat = n := by
  have := x.toBitVec.isLt
  change x.toBitVec.toInt = _ at h
  rw [BitVec.toInt_eq_toNat_cond] at h
  split at h <;> omega
theorem small {x : Int32} {n : Nat} (h : x.toInt = (n : Int)) : n < 2147483648 := by have := Int32.toInt_lt x; omega
/-- x & m, m not negative -/
theorem mask (x m : Int32) {M : Nat} (hm : m.toInt = (M : Int)) : ∃ N : Nat, (x &&& m).toInt = (N : Int) ∧ N ≤ M := by
  have h1 := toNat hm
  have h2 : (x &&& m).toBitVec.toNat ≤ M := by rw [Int32.toBitVec_and, BitVec.toNat_and, h1]; exact Nat.and_le_right
  have h3 := small hm
  exact ⟨_, toInt rfl (by omega), h2⟩
theorem add {x y : Int32} {X Y : Nat} (hx : x.toInt = (X : Int)) (hy : y.toInt = (Y : Int)) (h : X + Y < 2147483648) : (x + y).toInt = ((X + Y : Nat) : Int) := by
  refine toInt ?_ h
  rw [Int32.toBitVec_add, BitVec.toNat_add, toNat hx, toNat hy]; omega
theorem rem {x y : Int32} {X Y : Nat} (hx : x.toInt = (X : Int)) (hy : y.toInt = (Y : Int)) (h : 0 < Y) : (x % y).toInt = ((X % Y : Nat) : Int) := by
  rw [(Jvm.RoadKit.c_irem x y Y hy).1 (by omega), hx]; rfl
theorem ne0 {y : Int32} {Y : Nat} (hy : y.toInt = (Y : Int)) (h : 0 < Y) : y ≠ 0 := fun e => by subst e; have : (0 : Int32).toInt = 0 := rfl; omega
theorem eq_iff {x y : Int32} {X Y : Nat} (hx : x.toInt = (X : Int)) (hy : y.toInt = (Y : Int)) : x = y ↔ X = Y := by
  rw [← Int32.toInt_inj, hx, hy]; omega
theorem lt_iff {x y : Int32} {X Y : Nat} (hx : x.toInt = (X : Int)) (hy : y.toInt = (Y : Int)) : x < y ↔ X < Y := by
  rw [Int32.lt_iff_toInt_lt, hx, hy]; omega
end Jvm.OwnNum

namespace Jvm.Pilot.@@N@@
open Jvm Jvm.ClassFile Sem Op Lib Jvm.Free Jvm.Stand Jvm.LawKit Jvm.RoadKit Jvm.OwnKit Bundle Jvm.Pilot.@@N@@.Jvm.D
theorem d1_0 : decode prog_44_method_1_code 0 = .ok (.aload_n 0, 1) := by decide +kernel
theorem d1_1 : decode prog_44_method_1_code 1 = .ok (.invokespecial 3, 3) := by decide +kernel
theorem d1_4 : decode prog_44_method_1_code 4 = .ok (.aload_n 0, 1) := by decide +kernel
theorem d1_5 : decode prog_44_method_1_code 5 = .ok (.new 9, 3) := by decide +kernel
theorem d1_8 : decode prog_44_method_1_code 8 = .ok (.dup, 1) := by decide +kernel
theorem d1_9 : decode prog_44_method_1_code 9 = .ok (.invokespecial 11, 3) := by decide +kernel
theorem d1_12 : decode prog_44_method_1_code 12 = .ok (.putfield 12, 3) := by decide +kernel
theorem d1_15 : decode prog_44_method_1_code 15 = .ok (.aload_n 0, 1) := by decide +kernel
theorem d1_16 : decode prog_44_method_1_code 16 = .ok (.iload_n 1, 1) := by decide +kernel
theorem d1_17 : decode prog_44_method_1_code 17 = .ok (.iconst 1, 1) := by decide +kernel
theorem d1_18 : decode prog_44_method_1_code 18 = .ok (.isub, 1) := by decide +kernel
theorem d1_19 : decode prog_44_method_1_code 19 = .ok (.bipush 15, 2) := by decide +kernel
theorem d1_21 : decode prog_44_method_1_code 21 = .ok (.iushr, 1) := by decide +kernel
theorem d1_22 : decode prog_44_method_1_code 22 = .ok (.iconst 1, 1) := by decide +kernel
theorem d1_23 : decode prog_44_method_1_code 23 = .ok (.iadd, 1) := by decide +kernel
theorem d1_24 : decode prog_44_method_1_code 24 = .ok (.anewarray 16, 3) := by decide +kernel
theorem d1_27 : decode prog_44_method_1_code 27 = .ok (.putfield 18, 3) := by decide +kernel
theorem d1_30 : decode prog_44_method_1_code 30 = .ok (.return_, 1) := by decide +kernel
theorem d2_0 : decode jdk_39_method_1_code 0 = .ok (.aload_n 0, 1) := by decide +kernel
theorem d2_1 : decode jdk_39_method_1_code 1 = .ok (.invokespecial 1, 3) := by decide +kernel
theorem d2_4 : decode jdk_39_method_1_code 4 = .ok (.aload_n 0, 1) := by decide +kernel
theorem d2_5 : decode jdk_39_method_1_code 5 = .ok (.iconst 0, 1) := by decide +kernel
theorem d2_6 : decode jdk_39_method_1_code 6 = .ok (.putfield 7, 3) := by decide +kernel
theorem d2_9 : decode jdk_39_method_1_code 9 = .ok (.return_, 1) := by decide +kernel
theorem d3_0 : decode jdk_22_method_1_code 0 = .ok (.aload_n 0, 1) := by decide +kernel
theorem d3_1 : decode jdk_22_method_1_code 1 = .ok (.invokespecial 1, 3) := by decide +kernel
theorem d3_4 : decode jdk_22_method_1_code 4 = .ok (.return_, 1) := by decide +kernel
theorem d5_0 : decode jdk_38_method_2_code 0 = .ok (.aload_n 0, 1) := by decide +kernel
theorem d5_1 : decode jdk_38_method_2_code 1 = .ok (.invokespecial 1, 3) := by decide +kernel
theorem d5_4 : decode jdk_38_method_2_code 4 = .ok (.aload_n 0, 1) := by decide +kernel
theorem d5_5 : decode jdk_38_method_2_code 5 = .ok (.getstatic 39, 3) := by decide +kernel
theorem d5_8 : decode jdk_38_method_2_code 8 = .ok (.putfield 9, 3) := by decide +kernel
theorem d5_11 : decode jdk_38_method_2_code 11 = .ok (.return_, 1) := by decide +kernel
theorem d6_0 : decode method_2_code 0 = .ok (.iload_n 2, 1) := by decide +kernel
theorem d6_1 : decode method_2_code 1 = .ok (.i2l, 1) := by decide +kernel
theorem d6_2 : decode method_2_code 2 = .ok (.bipush 56, 2) := by decide +kernel
theorem d6_4 : decode method_2_code 4 = .ok (.lshl, 1) := by decide +kernel
theorem d6_5 : decode method_2_code 5 = .ok (.lload_n 0, 1) := by decide +kernel
theorem d6_6 : decode method_2_code 6 = .ok (.lconst 1, 1) := by decide +kernel
theorem d6_7 : decode method_2_code 7 = .ok (.bipush 8, 2) := by decide +kernel
theorem d6_9 : decode method_2_code 9 = .ok (.iload_n 2, 1) := by decide +kernel
theorem d6_10 : decode method_2_code 10 = .ok (.imul, 1) := by decide +kernel
theorem d6_11 : decode method_2_code 11 = .ok (.lshl, 1) := by decide +kernel
theorem d6_12 : decode method_2_code 12 = .ok (.lconst 1, 1) := by decide +kernel
theorem d6_13 : decode method_2_code 13 = .ok (.lsub, 1) := by decide +kernel
theorem d6_14 : decode method_2_code 14 = .ok (.land, 1) := by decide +kernel
theorem d6_15 : decode method_2_code 15 = .ok (.lor, 1) := by decide +kernel
theorem d6_16 : decode method_2_code 16 = .ok (.lreturn, 1) := by decide +kernel
theorem d7_0 : decode jdk_42_method_139_code 0 = .ok (.getstatic 38, 3) := by decide +kernel
theorem d7_3 : decode jdk_42_method_139_code 3 = .ok (.ifCond .eq 23, 3) := by decide +kernel
theorem d7_6 : decode jdk_42_method_139_code 6 = .ok (.iload_n 0, 1) := by decide +kernel
theorem d7_7 : decode jdk_42_method_139_code 7 = .ok (.invokestatic 1015, 3) := by decide +kernel
theorem d7_10 : decode jdk_42_method_139_code 10 = .ok (.ifCond .eq 16, 3) := by decide +kernel
theorem d7_13 : decode jdk_42_method_139_code 13 = .ok (.new 10, 3) := by decide +kernel
theorem d7_16 : decode jdk_42_method_139_code 16 = .ok (.dup, 1) := by decide +kernel
theorem d7_17 : decode jdk_42_method_139_code 17 = .ok (.iload_n 0, 1) := by decide +kernel
theorem d7_18 : decode jdk_42_method_139_code 18 = .ok (.invokestatic 1018, 3) := by decide +kernel
theorem d7_21 : decode jdk_42_method_139_code 21 = .ok (.iconst 0, 1) := by decide +kernel
theorem d7_22 : decode jdk_42_method_139_code 22 = .ok (.invokespecial 209, 3) := by decide +kernel
theorem d7_25 : decode jdk_42_method_139_code 25 = .ok (.areturn, 1) := by decide +kernel
theorem d7_26 : decode jdk_42_method_139_code 26 = .ok (.new 10, 3) := by decide +kernel
theorem d7_29 : decode jdk_42_method_139_code 29 = .ok (.dup, 1) := by decide +kernel
theorem d7_30 : decode jdk_42_method_139_code 30 = .ok (.iload_n 0, 1) := by decide +kernel
theorem d7_31 : decode jdk_42_method_139_code 31 = .ok (.invokestatic 1021, 3) := by decide +kernel
theorem d7_34 : decode jdk_42_method_139_code 34 = .ok (.iconst 1, 1) := by decide +kernel
theorem d7_35 : decode jdk_42_method_139_code 35 = .ok (.invokespecial 209, 3) := by decide +kernel
theorem d7_38 : decode jdk_42_method_139_code 38 = .ok (.areturn, 1) := by decide +kernel
theorem d8_0 : decode jdk_43_method_3_code 0 = .ok (.iload_n 0, 1) := by decide +kernel
theorem d8_1 : decode jdk_43_method_3_code 1 = .ok (.sipush 255, 3) := by decide +kernel
theorem d8_4 : decode jdk_43_method_3_code 4 = .ok (.if_icmp .gt 7, 3) := by decide +kernel
theorem d8_7 : decode jdk_43_method_3_code 7 = .ok (.iconst 1, 1) := by decide +kernel
theorem d8_8 : decode jdk_43_method_3_code 8 = .ok (.goto 4, 3) := by decide +kernel
theorem d8_11 : decode jdk_43_method_3_code 11 = .ok (.iconst 0, 1) := by decide +kernel
theorem d8_12 : decode jdk_43_method_3_code 12 = .ok (.ireturn, 1) := by decide +kernel
theorem d9_0 : decode jdk_43_method_46_code 0 = .ok (.iconst 1, 1) := by decide +kernel
theorem d9_1 : decode jdk_43_method_46_code 1 = .ok (.newarray .byte, 2) := by decide +kernel
theorem d9_3 : decode jdk_43_method_46_code 3 = .ok (.dup, 1) := by decide +kernel
theorem d9_4 : decode jdk_43_method_46_code 4 = .ok (.iconst 0, 1) := by decide +kernel
theorem d9_5 : decode jdk_43_method_46_code 5 = .ok (.iload_n 0, 1) := by decide +kernel
theorem d9_6 : decode jdk_43_method_46_code 6 = .ok (.i2b, 1) := by decide +kernel
theorem d9_7 : decode jdk_43_method_46_code 7 = .ok (.bastore, 1) := by decide +kernel
theorem d9_8 : decode jdk_43_method_46_code 8 = .ok (.areturn, 1) := by decide +kernel
theorem d10_0 : decode jdk_42_method_151_code 0 = .ok (.aload_n 0, 1) := by decide +kernel
theorem d10_1 : decode jdk_42_method_151_code 1 = .ok (.invokespecial 1, 3) := by decide +kernel
theorem d10_4 : decode jdk_42_method_151_code 4 = .ok (.aload_n 0, 1) := by decide +kernel
theorem d10_5 : decode jdk_42_method_151_code 5 = .ok (.aload_n 1, 1) := by decide +kernel
theorem d10_6 : decode jdk_42_method_151_code 6 = .ok (.putfield 9, 3) := by decide +kernel
theorem d10_9 : decode jdk_42_method_151_code 9 = .ok (.aload_n 0, 1) := by decide +kernel
theorem d10_10 : decode jdk_42_method_151_code 10 = .ok (.iload_n 2, 1) := by decide +kernel
theorem d10_11 : decode jdk_42_method_151_code 11 = .ok (.putfield 15, 3) := by decide +kernel
theorem d10_14 : decode jdk_42_method_151_code 14 = .ok (.return_, 1) := by decide +kernel
theorem d11_0 : decode prog_44_method_4_code 0 = .ok (.aload_n 0, 1) := by decide +kernel
theorem d11_1 : decode prog_44_method_4_code 1 = .ok (.lload_n 1, 1) := by decide +kernel
theorem d11_2 : decode prog_44_method_4_code 2 = .ok (.invokevirtual 41, 3) := by decide +kernel
theorem d11_5 : decode prog_44_method_4_code 5 = .ok (.return_, 1) := by decide +kernel
theorem d12_0 : decode prog_44_method_6_code 0 = .ok (.aload_n 0, 1) := by decide +kernel
theorem d12_1 : decode prog_44_method_6_code 1 = .ok (.getfield 58, 3) := by decide +kernel
theorem d12_4 : decode prog_44_method_6_code 4 = .ok (.bipush 15, 2) := by decide +kernel
theorem d12_6 : decode prog_44_method_6_code 6 = .ok (.iushr, 1) := by decide +kernel
theorem d12_7 : decode prog_44_method_6_code 7 = .ok (.istore_n 3, 1) := by decide +kernel
theorem d12_8 : decode prog_44_method_6_code 8 = .ok (.aload_n 0, 1) := by decide +kernel
theorem d12_9 : decode prog_44_method_6_code 9 = .ok (.getfield 18, 3) := by decide +kernel
theorem d12_12 : decode prog_44_method_6_code 12 = .ok (.iload_n 3, 1) := by decide +kernel
theorem d12_13 : decode prog_44_method_6_code 13 = .ok (.aaload, 1) := by decide +kernel
theorem d12_14 : decode prog_44_method_6_code 14 = .ok (.ifnonnull 13, 3) := by decide +kernel
theorem d12_17 : decode prog_44_method_6_code 17 = .ok (.aload_n 0, 1) := by decide +kernel
theorem d12_18 : decode prog_44_method_6_code 18 = .ok (.getfield 18, 3) := by decide +kernel
theorem d12_21 : decode prog_44_method_6_code 21 = .ok (.iload_n 3, 1) := by decide +kernel
theorem d12_22 : decode prog_44_method_6_code 22 = .ok (.ldc 61, 2) := by decide +kernel
theorem d12_24 : decode prog_44_method_6_code 24 = .ok (.newarray .long, 2) := by decide +kernel
theorem d12_26 : decode prog_44_method_6_code 26 = .ok (.aastore, 1) := by decide +kernel
theorem d12_27 : decode prog_44_method_6_code 27 = .ok (.aload_n 0, 1) := by decide +kernel
theorem d12_28 : decode prog_44_method_6_code 28 = .ok (.getfield 18, 3) := by decide +kernel
theorem d12_31 : decode prog_44_method_6_code 31 = .ok (.iload_n 3, 1) := by decide +kernel
theorem d12_32 : decode prog_44_method_6_code 32 = .ok (.aaload, 1) := by decide +kernel
theorem d12_33 : decode prog_44_method_6_code 33 = .ok (.aload_n 0, 1) := by decide +kernel
theorem d12_34 : decode prog_44_method_6_code 34 = .ok (.getfield 58, 3) := by decide +kernel
theorem d12_37 : decode prog_44_method_6_code 37 = .ok (.sipush 32767, 3) := by decide +kernel
theorem d12_40 : decode prog_44_method_6_code 40 = .ok (.iand, 1) := by decide +kernel
theorem d12_41 : decode prog_44_method_6_code 41 = .ok (.lload_n 1, 1) := by decide +kernel
theorem d12_42 : decode prog_44_method_6_code 42 = .ok (.lastore, 1) := by decide +kernel
theorem d12_43 : decode prog_44_method_6_code 43 = .ok (.aload_n 0, 1) := by decide +kernel
theorem d12_44 : decode prog_44_method_6_code 44 = .ok (.dup, 1) := by decide +kernel
theorem d12_45 : decode prog_44_method_6_code 45 = .ok (.getfield 58, 3) := by decide +kernel
theorem d12_48 : decode prog_44_method_6_code 48 = .ok (.iconst 1, 1) := by decide +kernel
theorem d12_49 : decode prog_44_method_6_code 49 = .ok (.iadd, 1) := by decide +kernel
theorem d12_50 : decode prog_44_method_6_code 50 = .ok (.putfield 58, 3) := by decide +kernel
theorem d12_53 : decode prog_44_method_6_code 53 = .ok (.return_, 1) := by decide +kernel
theorem d13_0 : decode prog_44_method_5_code 0 = .ok (.aload_n 0, 1) := by decide +kernel
theorem d13_1 : decode prog_44_method_5_code 1 = .ok (.ldc2_w 28, 3) := by decide +kernel
theorem d13_4 : decode prog_44_method_5_code 4 = .ok (.aload_n 0, 1) := by decide +kernel
theorem d13_5 : decode prog_44_method_5_code 5 = .ok (.getfield 12, 3) := by decide +kernel
theorem d13_8 : decode prog_44_method_5_code 8 = .ok (.invokeinterface 45 1, 5) := by decide +kernel
theorem d13_13 : decode prog_44_method_5_code 13 = .ok (.i2l, 1) := by decide +kernel
theorem d13_14 : decode prog_44_method_5_code 14 = .ok (.lsub, 1) := by decide +kernel
theorem d13_15 : decode prog_44_method_5_code 15 = .ok (.invokevirtual 41, 3) := by decide +kernel
theorem d13_18 : decode prog_44_method_5_code 18 = .ok (.aload_n 0, 1) := by decide +kernel
theorem d13_19 : decode prog_44_method_5_code 19 = .ok (.getfield 12, 3) := by decide +kernel
theorem d13_22 : decode prog_44_method_5_code 22 = .ok (.aload_n 1, 1) := by decide +kernel
theorem d13_23 : decode prog_44_method_5_code 23 = .ok (.invokeinterface 50 1, 5) := by decide +kernel
theorem d13_28 : decode prog_44_method_5_code 28 = .ok (.invokeinterface 54 2, 5) := by decide +kernel
theorem d13_33 : decode prog_44_method_5_code 33 = .ok (.pop, 1) := by decide +kernel
theorem d13_34 : decode prog_44_method_5_code 34 = .ok (.return_, 1) := by decide +kernel
theorem d14_0 : decode jdk_38_method_8_code 0 = .ok (.aload_n 0, 1) := by decide +kernel
theorem d14_1 : decode jdk_38_method_8_code 1 = .ok (.getfield 48, 3) := by decide +kernel
theorem d14_4 : decode jdk_38_method_8_code 4 = .ok (.ireturn, 1) := by decide +kernel
theorem d15_0 : decode jdk_42_method_126_code 0 = .ok (.aload_n 0, 1) := by decide +kernel
theorem d15_1 : decode jdk_42_method_126_code 1 = .ok (.areturn, 1) := by decide +kernel
theorem d16_0 : decode jdk_38_method_25_code 0 = .ok (.aload_n 0, 1) := by decide +kernel
theorem d16_1 : decode jdk_38_method_25_code 1 = .ok (.dup, 1) := by decide +kernel
theorem d16_2 : decode jdk_38_method_25_code 2 = .ok (.getfield 63, 3) := by decide +kernel
theorem d16_5 : decode jdk_38_method_25_code 5 = .ok (.iconst 1, 1) := by decide +kernel
theorem d16_6 : decode jdk_38_method_25_code 6 = .ok (.iadd, 1) := by decide +kernel
theorem d16_7 : decode jdk_38_method_25_code 7 = .ok (.putfield 63, 3) := by decide +kernel
theorem d16_10 : decode jdk_38_method_25_code 10 = .ok (.aload_n 0, 1) := by decide +kernel
theorem d16_11 : decode jdk_38_method_25_code 11 = .ok (.aload_n 1, 1) := by decide +kernel
theorem d16_12 : decode jdk_38_method_25_code 12 = .ok (.aload_n 0, 1) := by decide +kernel
theorem d16_13 : decode jdk_38_method_25_code 13 = .ok (.getfield 9, 3) := by decide +kernel
theorem d16_16 : decode jdk_38_method_25_code 16 = .ok (.aload_n 0, 1) := by decide +kernel
theorem d16_17 : decode jdk_38_method_25_code 17 = .ok (.getfield 48, 3) := by decide +kernel
theorem d16_20 : decode jdk_38_method_25_code 20 = .ok (.invokevirtual 131, 3) := by decide +kernel
theorem d16_23 : decode jdk_38_method_25_code 23 = .ok (.iconst 1, 1) := by decide +kernel
theorem d16_24 : decode jdk_38_method_25_code 24 = .ok (.ireturn, 1) := by decide +kernel
theorem d17_0 : decode jdk_38_method_24_code 0 = .ok (.iload_n 3, 1) := by decide +kernel
theorem d17_1 : decode jdk_38_method_24_code 1 = .ok (.aload_n 2, 1) := by decide +kernel
theorem d17_2 : decode jdk_38_method_24_code 2 = .ok (.arraylength, 1) := by decide +kernel
theorem d17_3 : decode jdk_38_method_24_code 3 = .ok (.if_icmp .ne 8, 3) := by decide +kernel
theorem d17_6 : decode jdk_38_method_24_code 6 = .ok (.aload_n 0, 1) := by decide +kernel
theorem d17_7 : decode jdk_38_method_24_code 7 = .ok (.invokevirtual 129, 3) := by decide +kernel
theorem d17_10 : decode jdk_38_method_24_code 10 = .ok (.astore_n 2, 1) := by decide +kernel
theorem d17_11 : decode jdk_38_method_24_code 11 = .ok (.aload_n 2, 1) := by decide +kernel
theorem d17_12 : decode jdk_38_method_24_code 12 = .ok (.iload_n 3, 1) := by decide +kernel
theorem d17_13 : decode jdk_38_method_24_code 13 = .ok (.aload_n 1, 1) := by decide +kernel
theorem d17_14 : decode jdk_38_method_24_code 14 = .ok (.aastore, 1) := by decide +kernel
theorem d17_15 : decode jdk_38_method_24_code 15 = .ok (.aload_n 0, 1) := by decide +kernel
theorem d17_16 : decode jdk_38_method_24_code 16 = .ok (.iload_n 3, 1) := by decide +kernel
theorem d17_17 : decode jdk_38_method_24_code 17 = .ok (.iconst 1, 1) := by decide +kernel
theorem d17_18 : decode jdk_38_method_24_code 18 = .ok (.iadd, 1) := by decide +kernel
theorem d17_19 : decode jdk_38_method_24_code 19 = .ok (.putfield 48, 3) := by decide +kernel
theorem d17_22 : decode jdk_38_method_24_code 22 = .ok (.return_, 1) := by decide +kernel
theorem d18_0 : decode jdk_38_method_7_code 0 = .ok (.aload_n 0, 1) := by decide +kernel
theorem d18_1 : decode jdk_38_method_7_code 1 = .ok (.aload_n 0, 1) := by decide +kernel
theorem d18_2 : decode jdk_38_method_7_code 2 = .ok (.getfield 48, 3) := by decide +kernel
theorem d18_5 : decode jdk_38_method_7_code 5 = .ok (.iconst 1, 1) := by decide +kernel
theorem d18_6 : decode jdk_38_method_7_code 6 = .ok (.iadd, 1) := by decide +kernel
theorem d18_7 : decode jdk_38_method_7_code 7 = .ok (.invokevirtual 69, 3) := by decide +kernel
theorem d18_10 : decode jdk_38_method_7_code 10 = .ok (.areturn, 1) := by decide +kernel
theorem d19_0 : decode jdk_38_method_6_code 0 = .ok (.aload_n 0, 1) := by decide +kernel
theorem d19_1 : decode jdk_38_method_6_code 1 = .ok (.getfield 9, 3) := by decide +kernel
theorem d19_4 : decode jdk_38_method_6_code 4 = .ok (.arraylength, 1) := by decide +kernel
theorem d19_5 : decode jdk_38_method_6_code 5 = .ok (.istore_n 2, 1) := by decide +kernel
theorem d19_6 : decode jdk_38_method_6_code 6 = .ok (.iload_n 2, 1) := by decide +kernel
theorem d19_7 : decode jdk_38_method_6_code 7 = .ok (.ifCond .gt 13, 3) := by decide +kernel
theorem d19_10 : decode jdk_38_method_6_code 10 = .ok (.aload_n 0, 1) := by decide +kernel
theorem d19_11 : decode jdk_38_method_6_code 11 = .ok (.getfield 9, 3) := by decide +kernel
theorem d19_14 : decode jdk_38_method_6_code 14 = .ok (.getstatic 39, 3) := by decide +kernel
theorem d19_17 : decode jdk_38_method_6_code 17 = .ok (.if_acmp .eq 28, 3) := by decide +kernel
theorem d19_45 : decode jdk_38_method_6_code 45 = .ok (.aload_n 0, 1) := by decide +kernel
theorem d19_46 : decode jdk_38_method_6_code 46 = .ok (.bipush 10, 2) := by decide +kernel
theorem d19_48 : decode jdk_38_method_6_code 48 = .ok (.iload_n 1, 1) := by decide +kernel
theorem d19_49 : decode jdk_38_method_6_code 49 = .ok (.invokestatic 79, 3) := by decide +kernel
theorem d19_52 : decode jdk_38_method_6_code 52 = .ok (.anewarray 7, 3) := by decide +kernel
theorem d19_55 : decode jdk_38_method_6_code 55 = .ok (.dup_x1, 1) := by decide +kernel
theorem d19_56 : decode jdk_38_method_6_code 56 = .ok (.putfield 9, 3) := by decide +kernel
theorem d19_59 : decode jdk_38_method_6_code 59 = .ok (.areturn, 1) := by decide +kernel
theorem d20_0 : decode jdk_29_method_65_code 0 = .ok (.iload_n 0, 1) := by decide +kernel
theorem d20_1 : decode jdk_29_method_65_code 1 = .ok (.iload_n 1, 1) := by decide +kernel
theorem d20_2 : decode jdk_29_method_65_code 2 = .ok (.if_icmp .lt 7, 3) := by decide +kernel
theorem d20_5 : decode jdk_29_method_65_code 5 = .ok (.iload_n 0, 1) := by decide +kernel
theorem d20_6 : decode jdk_29_method_65_code 6 = .ok (.goto 4, 3) := by decide +kernel
theorem d20_9 : decode jdk_29_method_65_code 9 = .ok (.iload_n 1, 1) := by decide +kernel
theorem d20_10 : decode jdk_29_method_65_code 10 = .ok (.ireturn, 1) := by decide +kernel
theorem d21_0 : decode prog_44_method_7_code 0 = .ok (.aload_n 0, 1) := by decide +kernel
theorem d21_1 : decode prog_44_method_7_code 1 = .ok (.getfield 18, 3) := by decide +kernel
theorem d21_4 : decode prog_44_method_7_code 4 = .ok (.iload_n 1, 1) := by decide +kernel
theorem d21_5 : decode prog_44_method_7_code 5 = .ok (.bipush 15, 2) := by decide +kernel
theorem d21_7 : decode prog_44_method_7_code 7 = .ok (.iushr, 1) := by decide +kernel
theorem d21_8 : decode prog_44_method_7_code 8 = .ok (.aaload, 1) := by decide +kernel
theorem d21_9 : decode prog_44_method_7_code 9 = .ok (.iload_n 1, 1) := by decide +kernel
theorem d21_10 : decode prog_44_method_7_code 10 = .ok (.sipush 32767, 3) := by decide +kernel
theorem d21_13 : decode prog_44_method_7_code 13 = .ok (.iand, 1) := by decide +kernel
theorem d21_14 : decode prog_44_method_7_code 14 = .ok (.laload, 1) := by decide +kernel
theorem d21_15 : decode prog_44_method_7_code 15 = .ok (.lstore_n 2, 1) := by decide +kernel
theorem d21_16 : decode prog_44_method_7_code 16 = .ok (.lload_n 2, 1) := by decide +kernel
theorem d21_17 : decode prog_44_method_7_code 17 = .ok (.lconst 0, 1) := by decide +kernel
theorem d21_18 : decode prog_44_method_7_code 18 = .ok (.lcmp, 1) := by decide +kernel
theorem d21_19 : decode prog_44_method_7_code 19 = .ok (.ifCond .lt 7, 3) := by decide +kernel
theorem d21_22 : decode prog_44_method_7_code 22 = .ok (.lload_n 2, 1) := by decide +kernel
theorem d21_23 : decode prog_44_method_7_code 23 = .ok (.goto 6, 3) := by decide +kernel
theorem d21_26 : decode prog_44_method_7_code 26 = .ok (.ldc2_w 28, 3) := by decide +kernel
theorem d21_29 : decode prog_44_method_7_code 29 = .ok (.lreturn, 1) := by decide +kernel
theorem d22_0 : decode jdk_52_method_24_code 0 = .ok (.iconst 2, 1) := by decide +kernel
theorem d22_1 : decode jdk_52_method_24_code 1 = .ok (.newarray .byte, 2) := by decide +kernel
theorem d22_3 : decode jdk_52_method_24_code 3 = .ok (.astore_n 1, 1) := by decide +kernel
theorem d22_4 : decode jdk_52_method_24_code 4 = .ok (.aload_n 1, 1) := by decide +kernel
theorem d22_5 : decode jdk_52_method_24_code 5 = .ok (.iconst 0, 1) := by decide +kernel
theorem d22_6 : decode jdk_52_method_24_code 6 = .ok (.iload_n 0, 1) := by decide +kernel
theorem d22_7 : decode jdk_52_method_24_code 7 = .ok (.invokestatic 111, 3) := by decide +kernel
theorem d22_10 : decode jdk_52_method_24_code 10 = .ok (.aload_n 1, 1) := by decide +kernel
theorem d22_11 : decode jdk_52_method_24_code 11 = .ok (.areturn, 1) := by decide +kernel
theorem d23_0 : decode jdk_52_method_4_code 0 = .ok (.getstatic 44, 3) := by decide +kernel
theorem d23_3 : decode jdk_52_method_4_code 3 = .ok (.ifCond .ne 25, 3) := by decide +kernel
theorem d23_28 : decode jdk_52_method_4_code 28 = .ok (.iload_n 1, 1) := by decide +kernel
theorem d23_29 : decode jdk_52_method_4_code 29 = .ok (.iconst 1, 1) := by decide +kernel
theorem d23_30 : decode jdk_52_method_4_code 30 = .ok (.ishl, 1) := by decide +kernel
theorem d23_31 : decode jdk_52_method_4_code 31 = .ok (.istore_n 1, 1) := by decide +kernel
theorem d23_32 : decode jdk_52_method_4_code 32 = .ok (.aload_n 0, 1) := by decide +kernel
theorem d23_33 : decode jdk_52_method_4_code 33 = .ok (.iload_n 1, 1) := by decide +kernel
theorem d23_34 : decode jdk_52_method_4_code 34 = .ok (.iinc 1 1, 3) := by decide +kernel
theorem d23_37 : decode jdk_52_method_4_code 37 = .ok (.iload_n 2, 1) := by decide +kernel
theorem d23_38 : decode jdk_52_method_4_code 38 = .ok (.getstatic 59, 3) := by decide +kernel
theorem d23_41 : decode jdk_52_method_4_code 41 = .ok (.ishr, 1) := by decide +kernel
theorem d23_42 : decode jdk_52_method_4_code 42 = .ok (.i2b, 1) := by decide +kernel
theorem d23_43 : decode jdk_52_method_4_code 43 = .ok (.bastore, 1) := by decide +kernel
theorem d23_44 : decode jdk_52_method_4_code 44 = .ok (.aload_n 0, 1) := by decide +kernel
theorem d23_45 : decode jdk_52_method_4_code 45 = .ok (.iload_n 1, 1) := by decide +kernel
theorem d23_46 : decode jdk_52_method_4_code 46 = .ok (.iload_n 2, 1) := by decide +kernel
theorem d23_47 : decode jdk_52_method_4_code 47 = .ok (.getstatic 63, 3) := by decide +kernel
theorem d23_50 : decode jdk_52_method_4_code 50 = .ok (.ishr, 1) := by decide +kernel
theorem d23_51 : decode jdk_52_method_4_code 51 = .ok (.i2b, 1) := by decide +kernel
theorem d23_52 : decode jdk_52_method_4_code 52 = .ok (.bastore, 1) := by decide +kernel
theorem d23_53 : decode jdk_52_method_4_code 53 = .ok (.return_, 1) := by decide +kernel
theorem pd_0 : parseMethodDescriptor "([BII)V" = some ⟨[(.array .byte), .int, .int], none⟩ := by decide +kernel
theorem pd_1 : parseMethodDescriptor "(C)Z" = some ⟨[.char], some .boolean⟩ := by decide +kernel
theorem pd_2 : parseMethodDescriptor "(C)[B" = some ⟨[.char], some (.array .byte)⟩ := by decide +kernel
theorem pd_3 : parseMethodDescriptor "([BB)V" = some ⟨[(.array .byte), .byte], none⟩ := by decide +kernel
theorem pd_4 : parseMethodDescriptor "()V" = some ⟨[], none⟩ := by decide +kernel
theorem pd_5 : parseMethodDescriptor "(J)V" = some ⟨[.long], none⟩ := by decide +kernel
theorem pd_6 : parseMethodDescriptor "(II)I" = some ⟨[.int, .int], some .int⟩ := by decide +kernel
theorem pd_7 : parseMethodDescriptor "(I)[Ljava/lang/Object;" = some ⟨[.int], some (.array (.object "java/lang/Object"))⟩ := by decide +kernel
theorem pd_8 : parseMethodDescriptor "()[Ljava/lang/Object;" = some ⟨[], some (.array (.object "java/lang/Object"))⟩ := by decide +kernel
theorem pd_9 : parseMethodDescriptor "(Ljava/lang/Object;[Ljava/lang/Object;I)V" = some ⟨[(.object "java/lang/Object"), (.array (.object "java/lang/Object")), .int], none⟩ := by decide +kernel
theorem pd_10 : parseMethodDescriptor "()I" = some ⟨[], some .int⟩ := by decide +kernel
theorem pd_11 : parseMethodDescriptor "()Ljava/lang/String;" = some ⟨[], some (.object "java/lang/String")⟩ := by decide +kernel
theorem pd_12 : parseMethodDescriptor "(Ljava/lang/Object;)Z" = some ⟨[(.object "java/lang/Object")], some .boolean⟩ := by decide +kernel
theorem pd_13 : parseMethodDescriptor "(I)V" = some ⟨[.int], none⟩ := by decide +kernel
theorem pd_14 : parseMethodDescriptor "(JI)J" = some ⟨[.long, .int], some .long⟩ := by decide +kernel
theorem pd_15 : parseMethodDescriptor "(C)Ljava/lang/String;" = some ⟨[.char], some (.object "java/lang/String")⟩ := by decide +kernel
theorem pd_16 : parseMethodDescriptor "(I)J" = some ⟨[.int], some .long⟩ := by decide +kernel
theorem pd_17 : parseMethodDescriptor "(Ljava/lang/CharSequence;)V" = some ⟨[(.object "java/lang/CharSequence")], none⟩ := by decide +kernel
abbrev layS : List (String × String × String) := [("java/lang/String", "coder", "B"), ("java/lang/String", "value", "[B")]
theorem lokS {Z : State} {a0 : Array Value} (hw : ∀ d ∈ tables_1, d.before a0 Z = true) : KLay Z a0 "java/lang/String" layS := ⟨(List.forall_mem_cons.mpr ⟨⟨Or.inr (hw _ (List.mem_of_getElem? (i := 70) rfl)), by decide⟩, (List.forall_mem_cons.mpr ⟨⟨Or.inr (hw _ (List.mem_of_getElem? (i := 68) rfl)), by decide⟩, (by simp)⟩)⟩), by decide⟩
abbrev layL : List (String × String × String) := [("com/example/circular_authority/circularauthority/model/LabelList", "others", "Ljava/util/List;"), ("com/example/circular_authority/circularauthority/model/LabelList", "chunks", "[[J"), ("com/example/circular_authority/circularauthority/model/LabelList", "size", "I"), ("java/util/AbstractList", "modCount", "I")]
theorem lokL {Z : State} {a0 : Array Value} (hw : ∀ d ∈ tables_1, d.before a0 Z = true) : KLay Z a0 "com/example/circular_authority/circularauthority/model/LabelList" layL := ⟨(List.forall_mem_cons.mpr ⟨⟨Or.inr (hw _ (List.mem_of_getElem? (i := 37) rfl)), by decide⟩, (List.forall_mem_cons.mpr ⟨⟨Or.inr (hw _ (List.mem_of_getElem? (i := 41) rfl)), by decide⟩, (List.forall_mem_cons.mpr ⟨⟨Or.inl (hw _ (List.mem_of_getElem? (i := 81) rfl)), by decide⟩, (List.forall_mem_cons.mpr ⟨⟨Or.inl (hw _ (List.mem_of_getElem? (i := 22) rfl)), by decide⟩, (by simp)⟩)⟩)⟩)⟩), by decide⟩
abbrev layA : List (String × String × String) := [("java/util/AbstractList", "modCount", "I"), ("java/util/ArrayList", "elementData", "[Ljava/lang/Object;"), ("java/util/ArrayList", "size", "I")]
theorem lokA {Z : State} {a0 : Array Value} (hw : ∀ d ∈ tables_1, d.before a0 Z = true) : KLay Z a0 "java/util/ArrayList" layA := ⟨(List.forall_mem_cons.mpr ⟨⟨Or.inl (hw _ (List.mem_of_getElem? (i := 32) rfl)), by decide⟩, (List.forall_mem_cons.mpr ⟨⟨Or.inl (hw _ (List.mem_of_getElem? (i := 35) rfl)), by decide⟩, (List.forall_mem_cons.mpr ⟨⟨Or.inl (hw _ (List.mem_of_getElem? (i := 101) rfl)), by decide⟩, (by simp)⟩)⟩)⟩), by decide⟩

theorem own_shl0 : (0 : Int32) <<< ((1 : Int32) &&& 31) = 0 := by decide
theorem own_nacmp {x y : Value} (h : XT.acmp .eq x y = false) : ¬ x = y := of_decide_eq_false h

theorem own_01 (P : Prop) [Decidable P] : (if P then (0 : Int32) else 1) = 0 ∨ (if P then (0 : Int32) else 1) = 1 := by by_cases p : P <;> simp [p]
theorem own_lcs (x : Int64) : k_cmpL x x = 0 := by
  unfold k_cmpL; rw [if_neg (by exact Int64.lt_irrefl), if_pos rfl]
theorem own_lneg {x : Int64} (h : k_cmpL x 0 < 0) : x < 0 := by
  unfold k_cmpL at h
  by_cases a : x > 0
  · rw [if_pos a] at h; exact absurd h (by decide)
  · rw [if_neg a] at h
    by_cases b : x = 0
    · rw [if_pos b] at h; exact absurd h (by decide)
    · rw [Int64.lt_iff_toInt_lt]
      have e0 : (0 : Int64).toInt = 0 := rfl
      have a' : ¬ (0 : Int64).toInt < x.toInt := fun q => a (Int64.lt_iff_toInt_lt.mpr q)
      have b' : ¬ x.toInt = (0 : Int64).toInt := fun q => b (Int64.toInt_inj.mp q)
      omega
theorem own_nonneg {x : Int64} (h : x.toBitVec.msb = false) : ¬ k_cmpL x 0 < 0 := fun q => by
  have r := Int64.lt_iff_toInt_lt.mp (own_lneg q)
  have e0 : (0 : Int64).toInt = 0 := rfl
  rw [BitVec.msb_eq_toInt] at h
  have := of_decide_eq_false h
  exact this (by rw [e0] at r; exact r)
theorem own_pk1 (x : Int64) (a m : Int64) (ha : a.toBitVec.msb = false) (hm : m.toBitVec.msb = false) : ¬ k_cmpL (a ||| (x &&& m)) 0 < 0 := own_nonneg (by
  rw [Int64.toBitVec_or, Int64.toBitVec_and, BitVec.msb_or, BitVec.msb_and, ha, hm]; simp)
theorem own_pk (x : Int64) (p : Int32) : ¬ k_cmpL (((p &&& (7 : Int32)).toInt64 <<< ((56 : Int32) &&& 63).toInt64) ||| (x &&& (((1 : Int64) <<< (((8 : Int32) * (p &&& (7 : Int32))) &&& 63).toInt64) - (1 : Int64)))) 0 < 0 := by
  obtain ⟨M, h1, h2⟩ := OwnNum.mask p 7 (M := 7) rfl
  have e : p &&& 7 = Int32.ofNat M := Int32.toInt_inj.mp (by rw [h1, Int32.toInt_ofNat_of_lt (by omega)])
  rw [e]
  refine own_pk1 x _ _ ?_ ?_
  · match M, h2 with
    | 0, _ => decide | 1, _ => decide | 2, _ => decide | 3, _ => decide | 4, _ => decide | 5, _ => decide | 6, _ => decide | 7, _ => decide
  · match M, h2 with
    | 0, _ => decide | 1, _ => decide | 2, _ => decide | 3, _ => decide | 4, _ => decide | 5, _ => decide | 6, _ => decide | 7, _ => decide
theorem own_cap (p : Int32) : ∃ N : Nat, ((k_ushr (((p &&& (262143 : Int32)) + (1 : Int32)) - (1 : Int32)) (15 : Int32)) + (1 : Int32)).toInt = (N : Int) ∧ 0 < N ∧ N ≤ 8 := by
  obtain ⟨M, h1, h2⟩ := OwnNum.mask p 262143 (M := 262143) rfl
  generalize (p &&& (262143 : Int32)) = y at h1 ⊢
  have ha := OwnNum.add h1 (show (1 : Int32).toInt = ((1 : Nat) : Int) from rfl) (by omega)
  have e : ((y + 1) - 1).toInt = (M : Int) := by
    have e1 : (1 : Int32).toInt = 1 := rfl
    rw [Int32.toInt_sub, ha, e1, Int.bmod_eq_of_le (by omega) (by omega)]; omega
  generalize ((y + 1) - 1) = z at e ⊢
  have q : (k_ushr z (15 : Int32)).toInt = ((M / 32768 : Nat) : Int) := by
    refine OwnNum.toInt ?_ (by omega)
    show (z.toUInt32 >>> ((15 : Int32) &&& 31).toUInt32).toBitVec.toNat = _
    rw [UInt32.toBitVec_shiftRight]
    show (z.toBitVec >>> (15 % 32 : BitVec 32)).toNat = _
    rw [BitVec.ushiftRight_eq', BitVec.toNat_ushiftRight]
    show z.toBitVec.toNat >>> 15 = _
    rw [Nat.shiftRight_eq_div_pow, OwnNum.toNat e]
  exact ⟨M / 32768 + 1, OwnNum.add q (show (1 : Int32).toInt = ((1 : Nat) : Int) from rfl) (by omega), by omega, by omega⟩
theorem own_cs {s : State} {args : Array Value} (h : ∀ d ∈ jdkStatics_1, d.before args s = true) : ∃ cs : Int32, ¬ cs = 0 ∧ Sta s s.heap "java/lang/String" "COMPACT_STRINGS" "Z" (.int cs) := by
  have c0 := h _ (List.mem_of_getElem? (i := 9) rfl)
  have c1 := Cond.before_iff.mp (h _ (List.mem_of_getElem? (i := 10) rfl))
  have c2 := Cond.before_iff.mp (h _ (List.mem_of_getElem? (i := 11) rfl))
  obtain ⟨cs, ecs⟩ := is_v c1
  exact ⟨cs, gotF (Cond.eq_ints ecs (Term.int_eval 0)) (not_v c2), Sta.start ecs (Or.inl c0)⟩
theorem own_si {s : State} {args : Array Value} {C n d : String} {z : Int32} (c0 : (Jvm.Cond.initializedFor C n d).before args s = true) (c1 : (Jvm.Cond.eq (.static C n d) (.int z)).before args s = true) : Sta s s.heap C n d (.int z) :=
  Sta.start (eqv_i (Term.int_eval z) (Cond.before_iff.mp c1)) (Or.inl c0)
theorem own_ed {s : State} {args : Array Value} (hw : ∀ d ∈ tables_1, d.before args s = true) (h : ∀ d ∈ jdkStatics_1, d.before args s = true) : ∃ (ed : Addr) (kE : ClassId) (fE : Nat → Value), Sta s s.heap "java/util/ArrayList" "DEFAULTCAPACITY_EMPTY_ELEMENTDATA" "[Ljava/lang/Object;" (.ref ed) ∧ KVA s s.heap ed kE (.object "java/lang/Object") 0 fE := by
  have c2 := h _ (List.mem_of_getElem? (i := 2) rfl)
  have c6 := Cond.before_iff.mp (h _ (List.mem_of_getElem? (i := 6) rfl))
  have c8 := Cond.before_iff.mp (h _ (List.mem_of_getElem? (i := 8) rfl))
  obtain ⟨ed, e4⟩ := arr_v c6
  obtain ⟨cl, A⟩ := Arr.start e4 c6
  have e5 := eqv_i (Term.int_eval 0) c8
  have ha := A.fin (Vm.Alike.refl _)
  have hs : cl.slots.size = 0 := by
    by_cases hl : cl.slots.size < 2 ^ 31
    · rw [len_f e4 ha hl] at e5
      have q2 := congrArg Int32.toInt (Value.int.inj (Option.some.inj e5))
      rw [len_toInt hl] at q2
      have : (0 : Int32).toInt = 0 := rfl
      omega
    · exfalso
      have e5' : (Jvm.Term.length (.static "java/util/ArrayList" "DEFAULTCAPACITY_EMPTY_ELEMENTDATA" "[Ljava/lang/Object;")).eval args s none [] s = some (.int 0) := e5
      rw [Term.eval] at e5'
      simp [e4, ha, hl] at e5'
  exact ⟨ed, cl.cls, fun _ => .null, Sta.start e4 (Or.inr ⟨hw _ (List.mem_of_getElem? (i := 25) rfl), c2⟩), KVA.start A hs (by decide) (fun j hj => absurd hj (by omega))⟩
theorem pn_8 : plainName "java/lang/StringLatin1" = true := by first | (simp [plainName, overriddenIn]; done) | decide +kernel
theorem ef_rmEnc (m : MethodId) (x0 : Int32) : entryFrame m #[(.int x0)] 1 = mkF m 0 #[.val (.int x0)] [] := by first | (simp [entryFrame, mkF, argsToLocals, Value.category]; done) | rfl
set_option maxRecDepth 65536 in
set_option maxHeartbeats 40000000 in
theorem rmEnc (l : Launch) (Z : State) (a0 : Array Value) (hw : ∀ d ∈ tables_1, d.before a0 Z = true) (h0 : Heap) (n0 : Nat) (Z0 : n0 ≤ h0.size) (x : Int32) :
    KCt false l (⟨"java/lang/StringLatin1", "canEncode", "(C)Z"⟩ : MethodName) jdk_43_method_3_code 1 (some .boolean) ({ frames := 0, cells := 0, slots := 0, locals := 0 } : Room) Z n0 h0 #[(.int x)] [] (fun v h => v = some (.int (if 255 < x then 0 else 1)) ∧ h0 = h) := by
  refine k_enter (tbl := tables_1) (a0 := a0) (Ls := #[.val (.int x)]) (plainFor_of_name pn_8) hw Z0 (fun m => ef_rmEnc m x) ?_
  intro p e s m below meth c T C P
  refine k_iloadN (pc' := 1) C P d8_0 rfl rfl ?_
  refine k_sipush (z := (255 : Int32)) (pc' := 4) C P d8_1 rfl rfl ?_
  refine k_icB (pcY := 11) (pcN := 7) C P d8_4 (by decide) (by decide) rfl ?_ ?_
  · intro (hc4 : (255 : Int32) < x)
    refine k_iconst (z := (0 : Int32)) (pc' := 12) C P d8_11 rfl rfl ?_
    exact k_retZ (z' := (0 : Int32)) C P (by simp) d8_12 rfl (by decide) (by decide) ⟨by rw [if_pos hc4], rfl⟩
  · intro (hc4 : ¬ (255 : Int32) < x)
    refine k_iconst (z := (1 : Int32)) (pc' := 8) C P d8_7 rfl rfl ?_
    refine k_goto (pc' := 12) C P d8_8 (by decide) (by decide) ?_
    exact k_retZ (z' := (1 : Int32)) C P (by simp) d8_12 rfl (by decide) (by decide) ⟨by rw [if_neg hc4], rfl⟩
theorem pn_9 : plainName "java/lang/StringLatin1" = true := by first | (simp [plainName, overriddenIn]; done) | decide +kernel
theorem ef_rmTB (m : MethodId) (x0 : Int32) : entryFrame m #[(.int x0)] 1 = mkF m 0 #[.val (.int x0)] [] := by first | (simp [entryFrame, mkF, argsToLocals, Value.category]; done) | rfl
set_option maxRecDepth 65536 in
set_option maxHeartbeats 40000000 in
theorem rmTB (l : Launch) (Z : State) (a0 : Array Value) (hw : ∀ d ∈ tables_1, d.before a0 Z = true) (h0 : Heap) (n0 : Nat) (Z0 : n0 ≤ h0.size) (x : Int32) :
    KCt false l (⟨"java/lang/StringLatin1", "toBytes", "(C)[B"⟩ : MethodName) jdk_43_method_46_code 1 (some (.array .byte)) ({ frames := 0, cells := 1, slots := 1, locals := 0 } : Room) Z n0 h0 #[(.int x)] [] (fun v h => ∃ b : Addr, v = some (.ref b)) := by
  refine k_enter (tbl := tables_1) (a0 := a0) (Ls := #[.val (.int x)]) (plainFor_of_name pn_9) hw Z0 (fun m => ef_rmTB m x) ?_
  intro p e s m below meth c T C P
  refine k_iconst (z := (1 : Int32)) (pc' := 1) C P d9_0 rfl rfl ?_
  refine k_newp (pc' := 3) (cells' := 1) (slots' := 1) (N := 1) (cap := 1) C P (C.w 61 rfl) d9_1 rfl (by decide) (by decide) rfl rfl (by decide) (by decide) rfl ?_
  intro T1 h1 b1 k1 P1 hs1 ge_b1 sz_b1 E1 V1
  refine k_dup (pc' := 4) C P1 d9_3 rfl rfl ?_
  refine k_iconst (z := (0 : Int32)) (pc' := 5) C P1 d9_4 rfl rfl ?_
  refine k_iloadN (pc' := 6) C P1 d9_5 rfl rfl ?_
  refine k_i2b (pc' := 7) C P1 d9_6 rfl ?_
  refine k_bastore (J := 0) (g' := (fun _ => .int x.toInt8.toInt32.toInt8.toInt32)) (pc' := 8) C P1 V1 d9_7 rfl (by decide) (fun i hi => by rw [if_pos (by omega)]; rfl) ge_b1 (Or.inr sz_b1) rfl ?_
  intro T2 h2 P2 W2 V2
  exact k_retA C P2 d9_8 rfl rfl (by decide) (by decide) ⟨_, rfl⟩
theorem pn_23 : plainName "java/lang/StringUTF16" = true := by first | (simp [plainName, overriddenIn]; done) | decide +kernel
theorem ef_rmPC (m : MethodId) (x0 : Addr) (x1 : Int32) (x2 : Int32) : entryFrame m #[(.ref x0), (.int x1), (.int x2)] 3 = mkF m 0 #[.val (.ref x0), .val (.int x1), .val (.int x2)] [] := by first | (simp [entryFrame, mkF, argsToLocals, Value.category]; done) | rfl
set_option maxRecDepth 65536 in
set_option maxHeartbeats 40000000 in
theorem rmPC (l : Launch) (Z : State) (a0 : Array Value) (hw : ∀ d ∈ tables_1, d.before a0 Z = true) (h0 : Heap) (n0 : Nat) (Z0 : n0 ≤ h0.size) (b : Addr) (kb : ClassId) (x : Int32) (SA : Sta Z h0 "java/lang/StringUTF16" "$assertionsDisabled" "Z" (.int 1)) (SH : Sta Z h0 "java/lang/StringUTF16" "HI_BYTE_SHIFT" "I" (.int 0)) (SL : Sta Z h0 "java/lang/StringUTF16" "LO_BYTE_SHIFT" "I" (.int 8)) (ge_b : n0 ≤ b) (V : KVA Z h0 b kb .byte 2 (fun _ => .int 0)) :
    KCt false l (⟨"java/lang/StringUTF16", "putChar", "([BII)V"⟩ : MethodName) jdk_52_method_4_code 3 none ({ frames := 0, cells := 0, slots := 0, locals := 0 } : Room) Z n0 h0 #[(.ref b), (.int (0 : Int32)), (.int x)] [b] (fun v h => v = none) := by
  refine k_enter (tbl := tables_1) (a0 := a0) (Ls := #[.val (.ref b), .val (.int (0 : Int32)), .val (.int x)]) (plainFor_of_name pn_23) hw Z0 (fun m => ef_rmPC m b (0 : Int32) x) ?_
  intro p e s m below meth c T C P
  have sz_b : b ∈ [b] ∨ h0.size ≤ b := Or.inl (by simp)
  refine k_gets (pc' := 3) C P (C.w 156 rfl) Via.refl SA d23_0 rfl ?_
  intro T3 P3
  refine k_ifY (pc' := 28) C P3 d23_3 k_10 (by decide) (by decide) ?_
  refine k_iloadN (pc' := 29) C P3 d23_28 rfl rfl ?_
  refine k_iconst (z := (1 : Int32)) (pc' := 30) C P3 d23_29 rfl rfl ?_
  refine k_ishl (pc' := 31) C P3 d23_30 rfl ?_
  rw [own_shl0]
  refine k_istoreN (l' := #[.val (.ref b), .val (.int (0 : Int32)), .val (.int x)]) (pc' := 32) C P3 d23_31 rfl rfl ?_
  refine k_aloadN (pc' := 33) C P3 d23_32 rfl rfl rfl ?_
  refine k_iloadN (pc' := 34) C P3 d23_33 rfl rfl ?_
  refine k_iinc (z := (1 : Int32)) (l' := #[.val (.ref b), .val (.int (1 : Int32)), .val (.int x)]) (pc' := 37) C P3 d23_34 rfl rfl rfl rfl ?_
  refine k_iloadN (pc' := 38) C P3 d23_37 rfl rfl ?_
  refine k_gets (pc' := 41) C P3 (C.w 157 rfl) Via.refl SH d23_38 rfl ?_
  intro T4 P4
  refine k_ishr (pc' := 42) C P4 d23_41 rfl ?_
  refine k_i2b (pc' := 43) C P4 d23_42 rfl ?_
  refine k_bastore (J := 0) (g' := _) (pc' := 44) C P4 V d23_43 rfl (by decide) (fun i _ => rfl) ge_b sz_b rfl ?_
  intro T5 h5 P5 W5 V5
  have f5_S__assertionsDisabled := Sta.wr W5 SA
  have f5_S_HI_BYTE_SHIFT := Sta.wr W5 SH
  have f5_S_LO_BYTE_SHIFT := Sta.wr W5 SL
  refine k_aloadN (pc' := 45) C P5 d23_44 rfl rfl rfl ?_
  refine k_iloadN (pc' := 46) C P5 d23_45 rfl rfl ?_
  refine k_iloadN (pc' := 47) C P5 d23_46 rfl rfl ?_
  refine k_gets (pc' := 50) C P5 (C.w 158 rfl) Via.refl f5_S_LO_BYTE_SHIFT d23_47 rfl ?_
  intro T6 P6
  refine k_ishr (pc' := 51) C P6 d23_50 rfl ?_
  refine k_i2b (pc' := 52) C P6 d23_51 rfl ?_
  refine k_bastore (J := 1) (g' := _) (pc' := 53) C P6 V5 d23_52 rfl (by decide) (fun i _ => rfl) ge_b sz_b rfl ?_
  intro T7 h7 P7 W7 V7
  have f7_S__assertionsDisabled := Sta.wr W7 f5_S__assertionsDisabled
  have f7_S_HI_BYTE_SHIFT := Sta.wr W7 f5_S_HI_BYTE_SHIFT
  have f7_S_LO_BYTE_SHIFT := Sta.wr W7 f5_S_LO_BYTE_SHIFT
  exact k_retV C P7 d23_53 (by decide) (by decide) rfl
theorem pn_22 : plainName "java/lang/StringUTF16" = true := by first | (simp [plainName, overriddenIn]; done) | decide +kernel
theorem ef_rmTU (m : MethodId) (x0 : Int32) : entryFrame m #[(.int x0)] 2 = mkF m 0 #[.val (.int x0), .unset] [] := by first | (simp [entryFrame, mkF, argsToLocals, Value.category]; done) | rfl
set_option maxRecDepth 65536 in
set_option maxHeartbeats 40000000 in
theorem rmTU (l : Launch) (Z : State) (a0 : Array Value) (hw : ∀ d ∈ tables_1, d.before a0 Z = true) (h0 : Heap) (n0 : Nat) (Z0 : n0 ≤ h0.size) (x : Int32) (SA : Sta Z h0 "java/lang/StringUTF16" "$assertionsDisabled" "Z" (.int 1)) (SH : Sta Z h0 "java/lang/StringUTF16" "HI_BYTE_SHIFT" "I" (.int 0)) (SL : Sta Z h0 "java/lang/StringUTF16" "LO_BYTE_SHIFT" "I" (.int 8)) :
    KCt false l (⟨"java/lang/StringUTF16", "toBytes", "(C)[B"⟩ : MethodName) jdk_52_method_24_code 2 (some (.array .byte)) ({ frames := 1, cells := 1, slots := 2, locals := 15 } : Room) Z n0 h0 #[(.int x)] [] (fun v h => ∃ b : Addr, v = some (.ref b)) := by
  refine k_enter (tbl := tables_1) (a0 := a0) (Ls := #[.val (.int x), .unset]) (plainFor_of_name pn_22) hw Z0 (fun m => ef_rmTU m x) ?_
  intro p e s m below meth c T C P
  refine k_iconst (z := (2 : Int32)) (pc' := 1) C P d22_0 rfl rfl ?_
  refine k_newp (pc' := 3) (cells' := 1) (slots' := 2) (N := 2) (cap := 2) C P (C.w 61 rfl) d22_1 rfl (by decide) (by decide) rfl rfl (by decide) (by decide) rfl ?_
  intro T8 h8 b8 k8 P8 hs8 ge_b8 sz_b8 E8 V8
  have f8_S_SAs := Sta.ext E8 SA
  have f8_S_SHs := Sta.ext E8 SH
  have f8_S_SLs := Sta.ext E8 SL
  refine k_astoreN (l' := #[.val (.int x), .val (.ref b8)]) (pc' := 4) C P8 d22_3 rfl rfl rfl ?_
  refine k_aloadN (pc' := 5) C P8 d22_4 rfl rfl rfl ?_
  refine k_iconst (z := (0 : Int32)) (pc' := 6) C P8 d22_5 rfl rfl ?_
  refine k_iloadN (pc' := 7) C P8 d22_6 rfl rfl ?_
  refine k_callT (pc' := 10) (cells' := 1) (slots' := 2) (W := 0) C P8 (C.w 153 rfl) (C.w 154 rfl) (C.w 155 rfl) (C.w 151 rfl) (by decide) (rmPC l Z a0 hw _ n0 P8.size b8 k8 x f8_S_SAs f8_S_SHs f8_S_SLs ge_b8 V8) [(.ref b8), (.int (0 : Int32)), (.int x)] [] rfl (lenOf pd_0 rfl) rfl (Nat.le_of_eq rfl) d22_7 rfl (by decide) (by decide) rfl rfl (by decide) (by decide) (allS (Or.inr sz_b8) all0) rfl ?_
  intro T9 h9 v9 P9 K9 Q9
  obtain rfl := Q9
  have f9_S_SAs := k_staKeep f8_S_SAs K9 (k_nsS V8.ns k_ns0)
  have f9_S_SHs := k_staKeep f8_S_SHs K9 (k_nsS V8.ns k_ns0)
  have f9_S_SLs := k_staKeep f8_S_SLs K9 (k_nsS V8.ns k_ns0)
  show KGo p e below _ T9 m 10 #[.val (.int x), .val (.ref b8)] []
  refine k_aloadN (pc' := 11) C P9 d22_10 rfl rfl rfl ?_
  exact k_retA C P9 d22_11 rfl rfl (by decide) (by decide) ⟨_, rfl⟩
theorem pn_10 : plainName "java/lang/String" = true := by first | (simp [plainName, overriddenIn]; done) | decide +kernel
theorem ef_rmSI (m : MethodId) (x0 : Addr) (x1 : Addr) (x2 : Int32) : entryFrame m #[(.ref x0), (.ref x1), (.int x2)] 3 = mkF m 0 #[.val (.ref x0), .val (.ref x1), .val (.int x2)] [] := by first | (simp [entryFrame, mkF, argsToLocals, Value.category]; done) | rfl
set_option maxRecDepth 65536 in
set_option maxHeartbeats 40000000 in
theorem rmSI (l : Launch) (Z : State) (a0 : Array Value) (hw : ∀ d ∈ tables_1, d.before a0 Z = true) (h0 : Heap) (n0 : Nat) (Z0 : n0 ≤ h0.size) (a b : Addr) (cd : Int32) (hcd : nar .byte cd = cd) (hfd : fits .byte (.int cd) = true) (ge_a : n0 ≤ a) (F : KOb Z h0 a "java/lang/String" layS [.int 0, .null]) :
    KCt false l (⟨"java/lang/String", "<init>", "([BB)V"⟩ : MethodName) jdk_42_method_151_code 3 none ({ frames := 1, cells := 0, slots := 0, locals := 15 } : Room) Z n0 h0 #[(.ref a), (.ref b), (.int cd)] [a] (fun v h => v = none ∧ KOb Z h a "java/lang/String" layS [.int cd, .ref b]) := by
  refine k_enter (tbl := tables_1) (a0 := a0) (Ls := #[.val (.ref a), .val (.ref b), .val (.int cd)]) (plainFor_of_name pn_10) hw Z0 (fun m => ef_rmSI m a b cd) ?_
  intro p e s m below meth c T C P
  have sz_a : a ∈ [a] ∨ h0.size ≤ a := Or.inl (by simp)
  refine k_aloadN (pc' := 1) C P d10_0 rfl rfl rfl ?_
  refine k_initObj (pc' := 4) (W := 0) C P (C.w 66 rfl) (C.w 19 rfl) (C.w 20 rfl) d10_1 rfl (by decide) (by decide) (by decide) rfl ?_
  intro T10 P10
  refine k_aloadN (pc' := 5) C P10 d10_4 rfl rfl rfl ?_
  refine k_aloadN (pc' := 6) C P10 d10_5 rfl rfl rfl ?_
  refine k_putf (pc' := 9) (ty := (.array .byte)) (v' := (.ref b)) C P10 (C.w 67 rfl) Via.refl F 1 rfl (Or.inr ⟨(C.w 68 rfl), rfl, rfl⟩) (C.w 57 rfl) (by decide) rfl rfl d10_6 ge_a sz_a rfl ?_
  intro T11 h11 P11 W11
  have f11_a : KOb Z h11 a "java/lang/String" layS [(.int (0 : Int32)), (.ref b)] := F.put (lokS C.hw) 1 rfl W11 rfl
  refine k_aloadN (pc' := 10) C P11 d10_9 rfl rfl rfl ?_
  refine k_iloadN (pc' := 11) C P11 d10_10 rfl rfl ?_
  refine k_putf (pc' := 14) (ty := .byte) (v' := (.int cd)) C P11 (C.w 69 rfl) Via.refl f11_a 0 rfl (Or.inr ⟨(C.w 70 rfl), rfl, rfl⟩) (C.w 57 rfl) (by decide) (congrArg Value.int hcd) hfd d10_11 ge_a sz_a rfl ?_
  intro T12 h12 P12 W12
  have f12_a : KOb Z h12 a "java/lang/String" layS [(.int cd), (.ref b)] := f11_a.put (lokS C.hw) 0 rfl W12 rfl
  exact k_retV C P12 d10_14 (by decide) (by decide) ⟨rfl, f12_a⟩
theorem pn_7 : plainName "java/lang/String" = true := by first | (simp [plainName, overriddenIn]; done) | decide +kernel
theorem ef_rmVO (m : MethodId) (x0 : Int32) : entryFrame m #[(.int x0)] 1 = mkF m 0 #[.val (.int x0)] [] := by first | (simp [entryFrame, mkF, argsToLocals, Value.category]; done) | rfl
set_option maxRecDepth 65536 in
set_option maxHeartbeats 40000000 in
theorem rmVO (l : Launch) (Z : State) (a0 : Array Value) (hw : ∀ d ∈ tables_1, d.before a0 Z = true) (h0 : Heap) (n0 : Nat) (Z0 : n0 ≤ h0.size) (x : Int32) (cs : Int32) (hcs : ¬ cs = 0) (SC : Sta Z h0 "java/lang/String" "COMPACT_STRINGS" "Z" (.int cs)) (SA : Sta Z h0 "java/lang/StringUTF16" "$assertionsDisabled" "Z" (.int 1)) (SH : Sta Z h0 "java/lang/StringUTF16" "HI_BYTE_SHIFT" "I" (.int 0)) (SL : Sta Z h0 "java/lang/StringUTF16" "LO_BYTE_SHIFT" "I" (.int 8)) :
    KCt false l (⟨"java/lang/String", "valueOf", "(C)Ljava/lang/String;"⟩ : MethodName) jdk_42_method_139_code 1 (some (.object "java/lang/String")) ({ frames := 3, cells := 2, slots := 6, locals := 40 } : Room) Z n0 h0 #[(.int x)] [] (fun v h => ∃ a : Addr, v = some (.ref a) ∧ n0 ≤ a ∧ h0.size ≤ a ∧ Exa Z h a "java/lang/String") := by
  refine k_enter (tbl := tables_1) (a0 := a0) (Ls := #[.val (.int x)]) (plainFor_of_name pn_7) hw Z0 (fun m => ef_rmVO m x) ?_
  intro p e s m below meth c T C P
  refine k_gets (pc' := 3) C P (C.w 51 rfl) Via.refl SC d7_0 rfl ?_
  intro T13 P13
  refine k_ifN (pc' := 6) C P13 d7_3 hcs rfl ?_
  refine k_iloadN (pc' := 7) C P13 d7_6 rfl rfl ?_
  refine k_callT (pc' := 10) (cells' := 0) (slots' := 0) (W := 0) C P13 (C.w 52 rfl) (C.w 53 rfl) (C.w 55 rfl) (C.w 54 rfl) (by decide) (rmEnc l Z a0 hw _ n0 P13.size x) [(.int x)] [] rfl (lenOf pd_1 rfl) rfl (Nat.le_of_eq rfl) d7_7 rfl (by decide) (by decide) rfl rfl (by decide) (by decide) all0 rfl ?_
  intro T14 h14 v14 P14 K14 Q14
  obtain ⟨e14, g14⟩ := Q14
  subst g14
  subst e14
  show KGo p e below _ T14 m 10 #[.val (.int x)] [(.int (if 255 < x then (0 : Int32) else 1))]
  refine k_ifB (pcY := 26) (pcN := 13) C P14 d7_10 (by decide) (by decide) rfl ?_ ?_
  · intro (hc10 : (if 255 < x then (0 : Int32) else 1) = (0 : Int32))
    refine k_newo (pc' := 29) (cells' := 1) (slots' := 4) C P14 (C.w 56 rfl) (C.w 57 rfl) (C.w 49 rfl) d7_26 rfl rfl (by decide) (by decide) rfl ?_
    intro T15 h15 b15 P15 hs15 ge_b15 sz_b15 E15 A15 D15
    have f15_S_COMPACT_STRINGS := Sta.ext E15 SC
    have f15_S_SAs := Sta.ext E15 SA
    have f15_S_SHs := Sta.ext E15 SH
    have f15_S_SLs := Sta.ext E15 SL
    have f15_b15 : KOb Z h15 b15 "java/lang/String" layS [(.int (0 : Int32)), .null] := KOb.new A15 D15 (lokS C.hw) (by decide +kernel)
    refine k_dup (pc' := 30) C P15 d7_29 rfl rfl ?_
    refine k_iloadN (pc' := 31) C P15 d7_30 rfl rfl ?_
    refine k_callT (pc' := 34) (cells' := 2) (slots' := 6) (W := 2) C P15 (C.w 149 rfl) (C.w 150 rfl) (C.w 152 rfl) (C.w 151 rfl) (by decide) (rmTU l Z a0 hw _ n0 P15.size x f15_S_SAs f15_S_SHs f15_S_SLs) [(.int x)] [(.ref b15), (.ref b15)] rfl (lenOf pd_2 rfl) rfl (Nat.le_of_eq rfl) d7_31 rfl (by decide) (by decide) rfl rfl (by decide) (by decide) all0 rfl ?_
    intro T16 h16 v16 P16 K16 Q16
    obtain ⟨b16, rfl⟩ := Q16
    have f16_S_COMPACT_STRINGS := k_staKeep f15_S_COMPACT_STRINGS K16 k_ns0
    have f16_S_SAs := k_staKeep f15_S_SAs K16 k_ns0
    have f16_S_SHs := k_staKeep f15_S_SHs K16 k_ns0
    have f16_S_SLs := k_staKeep f15_S_SLs K16 k_ns0
    have f16_b15 := f15_b15.keep K16 nin0
    show KGo p e below _ T16 m 34 #[.val (.int x)] [(.ref b16), (.ref b15), (.ref b15)]
    refine k_iconst (z := (1 : Int32)) (pc' := 35) C P16 d7_34 rfl rfl ?_
    refine k_callN (pc' := 38) (cells' := 2) (slots' := 6) (W := 1) C P16 rfl (C.w 62 rfl) (C.w 63 rfl) (C.w 65 rfl) (C.w 49 rfl) (by decide) (rmSI l Z a0 hw _ n0 P16.size b15 b16 (1 : Int32) rfl rfl ge_b15 f16_b15) b15 [(.ref b16), (.int (1 : Int32))] [(.ref b15)] rfl (lenOf pd_3 rfl) rfl (Nat.le_of_eq rfl) d7_35 rfl (by decide) (by decide) rfl rfl (by decide) (by decide) (allS (Or.inr sz_b15) all0) rfl ?_
    intro T17 h17 v17 P17 K17 Q17
    obtain ⟨rfl, F17⟩ := Q17
    have f17_S_COMPACT_STRINGS := k_staKeep f16_S_COMPACT_STRINGS K17 (k_nsS f16_b15.ns k_ns0)
    have f17_S_SAs := k_staKeep f16_S_SAs K17 (k_nsS f16_b15.ns k_ns0)
    have f17_S_SHs := k_staKeep f16_S_SHs K17 (k_nsS f16_b15.ns k_ns0)
    have f17_S_SLs := k_staKeep f16_S_SLs K17 (k_nsS f16_b15.ns k_ns0)
    show KGo p e below _ T17 m 38 #[.val (.int x)] [(.ref b15)]
    exact k_retA C P17 d7_38 rfl rfl (by decide) (by decide) ⟨b15, rfl, ge_b15, sz_b15, F17.exa⟩
  · intro (hc10 : ¬ (if 255 < x then (0 : Int32) else 1) = (0 : Int32))
    refine k_newo (pc' := 16) (cells' := 1) (slots' := 4) C P14 (C.w 56 rfl) (C.w 57 rfl) (C.w 49 rfl) d7_13 rfl rfl (by decide) (by decide) rfl ?_
    intro T18 h18 b18 P18 hs18 ge_b18 sz_b18 E18 A18 D18
    have f18_S_COMPACT_STRINGS := Sta.ext E18 SC
    have f18_S_SAs := Sta.ext E18 SA
    have f18_S_SHs := Sta.ext E18 SH
    have f18_S_SLs := Sta.ext E18 SL
    have f18_b18 : KOb Z h18 b18 "java/lang/String" layS [(.int (0 : Int32)), .null] := KOb.new A18 D18 (lokS C.hw) (by decide +kernel)
    refine k_dup (pc' := 17) C P18 d7_16 rfl rfl ?_
    refine k_iloadN (pc' := 18) C P18 d7_17 rfl rfl ?_
    refine k_callT (pc' := 21) (cells' := 2) (slots' := 5) (W := 2) C P18 (C.w 58 rfl) (C.w 59 rfl) (C.w 60 rfl) (C.w 54 rfl) (by decide) (rmTB l Z a0 hw _ n0 P18.size x) [(.int x)] [(.ref b18), (.ref b18)] rfl (lenOf pd_2 rfl) rfl (Nat.le_of_eq rfl) d7_18 rfl (by decide) (by decide) rfl rfl (by decide) (by decide) all0 rfl ?_
    intro T19 h19 v19 P19 K19 Q19
    obtain ⟨b19, rfl⟩ := Q19
    have f19_S_COMPACT_STRINGS := k_staKeep f18_S_COMPACT_STRINGS K19 k_ns0
    have f19_S_SAs := k_staKeep f18_S_SAs K19 k_ns0
    have f19_S_SHs := k_staKeep f18_S_SHs K19 k_ns0
    have f19_S_SLs := k_staKeep f18_S_SLs K19 k_ns0
    have f19_b18 := f18_b18.keep K19 nin0
    show KGo p e below _ T19 m 21 #[.val (.int x)] [(.ref b19), (.ref b18), (.ref b18)]
    refine k_iconst (z := (0 : Int32)) (pc' := 22) C P19 d7_21 rfl rfl ?_
    refine k_callN (pc' := 25) (cells' := 2) (slots' := 5) (W := 1) C P19 rfl (C.w 62 rfl) (C.w 63 rfl) (C.w 65 rfl) (C.w 49 rfl) (by decide) (rmSI l Z a0 hw _ n0 P19.size b18 b19 (0 : Int32) rfl rfl ge_b18 f19_b18) b18 [(.ref b19), (.int (0 : Int32))] [(.ref b18)] rfl (lenOf pd_3 rfl) rfl (Nat.le_of_eq rfl) d7_22 rfl (by decide) (by decide) rfl rfl (by decide) (by decide) (allS (Or.inr sz_b18) all0) rfl ?_
    intro T20 h20 v20 P20 K20 Q20
    obtain ⟨rfl, F20⟩ := Q20
    have f20_S_COMPACT_STRINGS := k_staKeep f19_S_COMPACT_STRINGS K20 (k_nsS f19_b18.ns k_ns0)
    have f20_S_SAs := k_staKeep f19_S_SAs K20 (k_nsS f19_b18.ns k_ns0)
    have f20_S_SHs := k_staKeep f19_S_SHs K20 (k_nsS f19_b18.ns k_ns0)
    have f20_S_SLs := k_staKeep f19_S_SLs K20 (k_nsS f19_b18.ns k_ns0)
    show KGo p e below _ T20 m 25 #[.val (.int x)] [(.ref b18)]
    exact k_retA C P20 d7_25 rfl rfl (by decide) (by decide) ⟨b18, rfl, ge_b18, sz_b18, F20.exa⟩
theorem pn_3 : plainName "java/util/AbstractCollection" = true := by first | (simp [plainName, overriddenIn]; done) | decide +kernel
theorem ef_rmAC (m : MethodId) (x0 : Addr) : entryFrame m #[(.ref x0)] 1 = mkF m 0 #[.val (.ref x0)] [] := by first | (simp [entryFrame, mkF, argsToLocals, Value.category]; done) | rfl
set_option maxRecDepth 65536 in
set_option maxHeartbeats 40000000 in
theorem rmAC (l : Launch) (Z : State) (a0 : Array Value) (hw : ∀ d ∈ tables_1, d.before a0 Z = true) (h0 : Heap) (n0 : Nat) (Z0 : n0 ≤ h0.size) (a : Addr) :
    KCt false l (⟨"java/util/AbstractCollection", "<init>", "()V"⟩ : MethodName) jdk_22_method_1_code 1 none ({ frames := 1, cells := 0, slots := 0, locals := 13 } : Room) Z n0 h0 #[(.ref a)] [] (fun v h => v = none ∧ h0 = h) := by
  refine k_enter (tbl := tables_1) (a0 := a0) (Ls := #[.val (.ref a)]) (plainFor_of_name pn_3) hw Z0 (fun m => ef_rmAC m a) ?_
  intro p e s m below meth c T C P
  refine k_aloadN (pc' := 1) C P d3_0 rfl rfl rfl ?_
  refine k_initObj (pc' := 4) (W := 0) C P (C.w 18 rfl) (C.w 19 rfl) (C.w 20 rfl) d3_1 rfl (by decide) (by decide) (by decide) rfl ?_
  intro T21 P21
  exact k_retV C P21 d3_4 (by decide) (by decide) ⟨rfl, rfl⟩
theorem pn_2 : plainName "java/util/AbstractList" = true := by first | (simp [plainName, overriddenIn]; done) | decide +kernel
theorem ef_rmABl (m : MethodId) (x0 : Addr) : entryFrame m #[(.ref x0)] 1 = mkF m 0 #[.val (.ref x0)] [] := by first | (simp [entryFrame, mkF, argsToLocals, Value.category]; done) | rfl
set_option maxRecDepth 65536 in
set_option maxHeartbeats 40000000 in
theorem rmABl (l : Launch) (Z : State) (a0 : Array Value) (hw : ∀ d ∈ tables_1, d.before a0 Z = true) (h0 : Heap) (n0 : Nat) (Z0 : n0 ≤ h0.size) (a : Addr) (ge_a : n0 ≤ a) (F : KOb Z h0 a "com/example/circular_authority/circularauthority/model/LabelList" layL [.null, .null, (.int (0 : Int32)), (.int (0 : Int32))]) :
    KCt false l (⟨"java/util/AbstractList", "<init>", "()V"⟩ : MethodName) jdk_39_method_1_code 1 none ({ frames := 2, cells := 0, slots := 0, locals := 30 } : Room) Z n0 h0 #[(.ref a)] [a] (fun v h => v = none ∧ KOb Z h a "com/example/circular_authority/circularauthority/model/LabelList" layL [.null, .null, (.int (0 : Int32)), (.int (0 : Int32))]) := by
  refine k_enter (tbl := tables_1) (a0 := a0) (Ls := #[.val (.ref a)]) (plainFor_of_name pn_2) hw Z0 (fun m => ef_rmABl m a) ?_
  intro p e s m below meth c T C P
  have sz_a : a ∈ [a] ∨ h0.size ≤ a := Or.inl (by simp)
  refine k_aloadN (pc' := 1) C P d2_0 rfl rfl rfl ?_
  refine k_callN (pc' := 4) (cells' := 0) (slots' := 0) (W := 0) C P rfl (C.w 12 rfl) (C.w 13 rfl) (C.w 17 rfl) (C.w 16 rfl) (by decide) (rmAC l Z a0 hw _ n0 P.size a) a [] [] rfl (lenOf pd_4 rfl) rfl (Nat.le_of_eq rfl) d2_1 rfl (by decide) (by decide) rfl rfl (by decide) (by decide) all0 rfl ?_
  intro T22 h22 v22 P22 K22 Q22
  obtain ⟨e22, g22⟩ := Q22
  subst g22
  subst e22
  show KGo p e below _ T22 m 4 #[.val (.ref a)] []
  refine k_aloadN (pc' := 5) C P22 d2_4 rfl rfl rfl ?_
  refine k_iconst (z := (0 : Int32)) (pc' := 6) C P22 d2_5 rfl rfl ?_
  refine k_putf (pc' := 9) (ty := .int) (v' := (.int (0 : Int32))) C P22 (C.w 21 rfl) Via.refl F 3 rfl (Or.inl (C.w 22 rfl)) (C.w 1 rfl) (by decide) rfl rfl d2_6 ge_a sz_a rfl ?_
  intro T23 h23 P23 W23
  have f23_a : KOb Z h23 a "com/example/circular_authority/circularauthority/model/LabelList" layL [.null, .null, (.int (0 : Int32)), (.int (0 : Int32))] := F.put (lokL C.hw) 3 rfl W23 rfl
  exact k_retV C P23 d2_9 (by decide) (by decide) ⟨rfl, f23_a⟩
theorem ef_rmABa (m : MethodId) (x0 : Addr) : entryFrame m #[(.ref x0)] 1 = mkF m 0 #[.val (.ref x0)] [] := by first | (simp [entryFrame, mkF, argsToLocals, Value.category]; done) | rfl
set_option maxRecDepth 65536 in
set_option maxHeartbeats 40000000 in
theorem rmABa (l : Launch) (Z : State) (a0 : Array Value) (hw : ∀ d ∈ tables_1, d.before a0 Z = true) (h0 : Heap) (n0 : Nat) (Z0 : n0 ≤ h0.size) (a : Addr) (ge_a : n0 ≤ a) (F : KOb Z h0 a "java/util/ArrayList" layA [(.int (0 : Int32)), .null, (.int (0 : Int32))]) :
    KCt false l (⟨"java/util/AbstractList", "<init>", "()V"⟩ : MethodName) jdk_39_method_1_code 1 none ({ frames := 2, cells := 0, slots := 0, locals := 30 } : Room) Z n0 h0 #[(.ref a)] [a] (fun v h => v = none ∧ KOb Z h a "java/util/ArrayList" layA [(.int (0 : Int32)), .null, (.int (0 : Int32))]) := by
  refine k_enter (tbl := tables_1) (a0 := a0) (Ls := #[.val (.ref a)]) (plainFor_of_name pn_2) hw Z0 (fun m => ef_rmABa m a) ?_
  intro p e s m below meth c T C P
  have sz_a : a ∈ [a] ∨ h0.size ≤ a := Or.inl (by simp)
  refine k_aloadN (pc' := 1) C P d2_0 rfl rfl rfl ?_
  refine k_callN (pc' := 4) (cells' := 0) (slots' := 0) (W := 0) C P rfl (C.w 12 rfl) (C.w 13 rfl) (C.w 17 rfl) (C.w 16 rfl) (by decide) (rmAC l Z a0 hw _ n0 P.size a) a [] [] rfl (lenOf pd_4 rfl) rfl (Nat.le_of_eq rfl) d2_1 rfl (by decide) (by decide) rfl rfl (by decide) (by decide) all0 rfl ?_
  intro T24 h24 v24 P24 K24 Q24
  obtain ⟨e24, g24⟩ := Q24
  subst g24
  subst e24
  show KGo p e below _ T24 m 4 #[.val (.ref a)] []
  refine k_aloadN (pc' := 5) C P24 d2_4 rfl rfl rfl ?_
  refine k_iconst (z := (0 : Int32)) (pc' := 6) C P24 d2_5 rfl rfl ?_
  refine k_putf (pc' := 9) (ty := .int) (v' := (.int (0 : Int32))) C P24 (C.w 21 rfl) Via.refl F 0 rfl (Or.inl (C.w 32 rfl)) (C.w 24 rfl) (by decide) rfl rfl d2_6 ge_a sz_a rfl ?_
  intro T25 h25 P25 W25
  have f25_a : KOb Z h25 a "java/util/ArrayList" layA [(.int (0 : Int32)), .null, (.int (0 : Int32))] := F.put (lokA C.hw) 0 rfl W25 rfl
  exact k_retV C P25 d2_9 (by decide) (by decide) ⟨rfl, f25_a⟩
theorem pn_5 : plainName "java/util/ArrayList" = true := by first | (simp [plainName, overriddenIn]; done) | decide +kernel
theorem ef_rmAI (m : MethodId) (x0 : Addr) : entryFrame m #[(.ref x0)] 1 = mkF m 0 #[.val (.ref x0)] [] := by first | (simp [entryFrame, mkF, argsToLocals, Value.category]; done) | rfl
set_option maxRecDepth 65536 in
set_option maxHeartbeats 40000000 in
theorem rmAI (l : Launch) (Z : State) (a0 : Array Value) (hw : ∀ d ∈ tables_1, d.before a0 Z = true) (h0 : Heap) (n0 : Nat) (Z0 : n0 ≤ h0.size) (a : Addr) (ge_a : n0 ≤ a) (ed : Addr) (SD : Sta Z h0 "java/util/ArrayList" "DEFAULTCAPACITY_EMPTY_ELEMENTDATA" "[Ljava/lang/Object;" (.ref ed)) (F : KOb Z h0 a "java/util/ArrayList" layA [.int 0, .null, .int 0]) :
    KCt false l (⟨"java/util/ArrayList", "<init>", "()V"⟩ : MethodName) jdk_38_method_2_code 1 none ({ frames := 3, cells := 0, slots := 0, locals := 45 } : Room) Z n0 h0 #[(.ref a)] [a] (fun v h => v = none ∧ KOb Z h a "java/util/ArrayList" layA [.int 0, .ref ed, .int 0]) := by
  refine k_enter (tbl := tables_1) (a0 := a0) (Ls := #[.val (.ref a)]) (plainFor_of_name pn_5) hw Z0 (fun m => ef_rmAI m a) ?_
  intro p e s m below meth c T C P
  have sz_a : a ∈ [a] ∨ h0.size ≤ a := Or.inl (by simp)
  refine k_aloadN (pc' := 1) C P d5_0 rfl rfl rfl ?_
  refine k_callN (pc' := 4) (cells' := 0) (slots' := 0) (W := 0) C P rfl (C.w 29 rfl) (C.w 8 rfl) (C.w 11 rfl) (C.w 10 rfl) (by decide) (rmABa l Z a0 hw _ n0 P.size a ge_a F) a [] [] rfl (lenOf pd_4 rfl) rfl (Nat.le_of_eq rfl) d5_1 rfl (by decide) (by decide) rfl rfl (by decide) (by decide) (allS sz_a all0) rfl ?_
  intro T26 h26 v26 P26 K26 Q26
  obtain ⟨rfl, F26⟩ := Q26
  have f26_S_DEFAULTCAPACITY_EMPTY_ELEMENTDATA := k_staKeep SD K26 (k_nsS F.ns k_ns0)
  show KGo p e below _ T26 m 4 #[.val (.ref a)] []
  refine k_aloadN (pc' := 5) C P26 d5_4 rfl rfl rfl ?_
  refine k_gets (pc' := 8) C P26 (C.w 33 rfl) Via.refl f26_S_DEFAULTCAPACITY_EMPTY_ELEMENTDATA d5_5 rfl ?_
  intro T27 P27
  refine k_putf (pc' := 11) (ty := (.array (.object "java/lang/Object"))) (v' := (.ref ed)) C P27 (C.w 34 rfl) Via.refl F26 1 rfl (Or.inl (C.w 35 rfl)) (C.w 24 rfl) (by decide) rfl rfl d5_8 ge_a sz_a rfl ?_
  intro T28 h28 P28 W28
  have f28_a : KOb Z h28 a "java/util/ArrayList" layA [(.int (0 : Int32)), (.ref ed), (.int (0 : Int32))] := F26.put (lokA C.hw) 1 rfl W28 rfl
  have f28_S_DEFAULTCAPACITY_EMPTY_ELEMENTDATA := Sta.wr W28 f26_S_DEFAULTCAPACITY_EMPTY_ELEMENTDATA
  exact k_retV C P28 d5_11 (by decide) (by decide) ⟨rfl, f28_a⟩
theorem pn_1 : plainName "com/example/circular_authority/circularauthority/model/LabelList" = true := by first | (simp [plainName, overriddenIn]; done) | decide +kernel
theorem ef_rmLI (m : MethodId) (x0 : Addr) (x1 : Int32) : entryFrame m #[(.ref x0), (.int x1)] 2 = mkF m 0 #[.val (.ref x0), .val (.int x1)] [] := by first | (simp [entryFrame, mkF, argsToLocals, Value.category]; done) | rfl
set_option maxRecDepth 65536 in
set_option maxHeartbeats 40000000 in
theorem rmLI (l : Launch) (Z : State) (a0 : Array Value) (hw : ∀ d ∈ tables_1, d.before a0 Z = true) (h0 : Heap) (n0 : Nat) (Z0 : n0 ≤ h0.size) (a : Addr) (x : Int32) (N : Nat) (hN : ((k_ushr (x - (1 : Int32)) (15 : Int32)) + (1 : Int32)).toInt = (N : Int)) (hN8 : N ≤ 8) (ge_a : n0 ≤ a) (ed : Addr) (SD : Sta Z h0 "java/util/ArrayList" "DEFAULTCAPACITY_EMPTY_ELEMENTDATA" "[Ljava/lang/Object;" (.ref ed)) (F : KOb Z h0 a "com/example/circular_authority/circularauthority/model/LabelList" layL [.null, .null, .int 0, .int 0]) :
    KCt false l (⟨"com/example/circular_authority/circularauthority/model/LabelList", "<init>", "(I)V"⟩ : MethodName) prog_44_method_1_code 2 none ({ frames := 4, cells := 2, slots := 11, locals := 60 } : Room) Z n0 h0 #[(.ref a), (.int x)] [a] (fun v h => v = none ∧ ∃ (al ch : Addr) (kC : ClassId), n0 ≤ al ∧ h0.size ≤ al ∧ n0 ≤ ch ∧ h0.size ≤ ch ∧ KOb Z h a "com/example/circular_authority/circularauthority/model/LabelList" layL [.ref al, .ref ch, .int 0, .int 0] ∧ KOb Z h al "java/util/ArrayList" layA [.int 0, .ref ed, .int 0] ∧ KVA Z h ch kC (.array .long) N (fun _ => .null) ∧ OvrA Z kC .long "[J") := by
  refine k_enter (tbl := tables_1) (a0 := a0) (Ls := #[.val (.ref a), .val (.int x)]) (plainFor_of_name pn_1) hw Z0 (fun m => ef_rmLI m a x) ?_
  intro p e s m below meth c T C P
  have sz_a : a ∈ [a] ∨ h0.size ≤ a := Or.inl (by simp)
  refine k_aloadN (pc' := 1) C P d1_0 rfl rfl rfl ?_
  refine k_callN (pc' := 4) (cells' := 0) (slots' := 0) (W := 0) C P rfl (C.w 7 rfl) (C.w 8 rfl) (C.w 11 rfl) (C.w 10 rfl) (by decide) (rmABl l Z a0 hw _ n0 P.size a ge_a F) a [] [] rfl (lenOf pd_4 rfl) rfl (Nat.le_of_eq rfl) d1_1 rfl (by decide) (by decide) rfl rfl (by decide) (by decide) (allS sz_a all0) rfl ?_
  intro T29 h29 v29 P29 K29 Q29
  obtain ⟨rfl, F29⟩ := Q29
  have f29_S_DEFAULTCAPACITY_EMPTY_ELEMENTDATA := k_staKeep SD K29 (k_nsS F.ns k_ns0)
  show KGo p e below _ T29 m 4 #[.val (.ref a), .val (.int x)] []
  refine k_aloadN (pc' := 5) C P29 d1_4 rfl rfl rfl ?_
  refine k_newo (pc' := 8) (cells' := 1) (slots' := 3) C P29 (C.w 23 rfl) (C.w 24 rfl) (C.w 25 rfl) d1_5 rfl rfl (by decide) (by decide) rfl ?_
  intro T30 h30 b30 P30 hs30 ge_b30 sz_b30 E30 A30 D30
  have ne_a_b30 : a ≠ b30 := Nat.ne_of_lt (hs30 ▸ F29.lt)
  have f30_S_DEFAULTCAPACITY_EMPTY_ELEMENTDATA := Sta.ext E30 f29_S_DEFAULTCAPACITY_EMPTY_ELEMENTDATA
  have f30_a := F29.ext E30
  have f30_b30 : KOb Z h30 b30 "java/util/ArrayList" layA [(.int (0 : Int32)), .null, (.int (0 : Int32))] := KOb.new A30 D30 (lokA C.hw) (by decide +kernel)
  refine k_dup (pc' := 9) C P30 d1_8 rfl rfl ?_
  refine k_callN (pc' := 12) (cells' := 1) (slots' := 3) (W := 2) C P30 rfl (C.w 26 rfl) (C.w 27 rfl) (C.w 28 rfl) (C.w 25 rfl) (by decide) (rmAI l Z a0 hw _ n0 P30.size b30 ge_b30 ed f30_S_DEFAULTCAPACITY_EMPTY_ELEMENTDATA f30_b30) b30 [] [(.ref b30), (.ref a)] rfl (lenOf pd_4 rfl) rfl (Nat.le_of_eq rfl) d1_9 rfl (by decide) (by decide) rfl rfl (by decide) (by decide) (allS (Or.inr sz_b30) all0) rfl ?_
  intro T31 h31 v31 P31 K31 Q31
  obtain ⟨rfl, F31⟩ := Q31
  have f31_S_DEFAULTCAPACITY_EMPTY_ELEMENTDATA := k_staKeep f30_S_DEFAULTCAPACITY_EMPTY_ELEMENTDATA K31 (k_nsS f30_b30.ns k_ns0)
  have f31_a := f30_a.keep K31 (ninS ne_a_b30 nin0)
  show KGo p e below _ T31 m 12 #[.val (.ref a), .val (.int x)] [(.ref b30), (.ref a)]
  refine k_putf (pc' := 15) (ty := (.object "java/util/List")) (v' := (.ref b30)) C P31 (C.w 36 rfl) Via.refl f31_a 0 rfl (Or.inr ⟨(C.w 37 rfl), rfl, rfl⟩) (C.w 1 rfl) (by decide) rfl rfl d1_12 ge_a sz_a rfl ?_
  intro T32 h32 P32 W32
  have f32_a : KOb Z h32 a "com/example/circular_authority/circularauthority/model/LabelList" layL [(.ref b30), .null, (.int (0 : Int32)), (.int (0 : Int32))] := f31_a.put (lokL C.hw) 0 rfl W32 rfl
  have f32_S_DEFAULTCAPACITY_EMPTY_ELEMENTDATA := Sta.wr W32 f31_S_DEFAULTCAPACITY_EMPTY_ELEMENTDATA
  have f32_b30 := F31.other W32 (Ne.symm ne_a_b30)
  refine k_aloadN (pc' := 16) C P32 d1_15 rfl rfl rfl ?_
  refine k_iloadN (pc' := 17) C P32 d1_16 rfl rfl ?_
  refine k_iconst (z := (1 : Int32)) (pc' := 18) C P32 d1_17 rfl rfl ?_
  refine k_isub (pc' := 19) C P32 d1_18 rfl ?_
  refine k_bipush (z := (15 : Int32)) (pc' := 21) C P32 d1_19 rfl rfl ?_
  refine k_iushr (pc' := 22) C P32 d1_21 rfl ?_
  refine k_iconst (z := (1 : Int32)) (pc' := 23) C P32 d1_22 rfl rfl ?_
  refine k_iadd (pc' := 24) C P32 d1_23 rfl ?_
  refine k_newra (pc' := 27) (cells' := 2) (slots' := 11) (N := N) (cap := 8) (ad := "[[J") C P32 (by decide) (by decide) (C.w 38 rfl) (C.w 39 rfl) d1_24 hN hN8 (by decide) rfl rfl (by decide) (by decide) rfl ?_
  intro T33 h33 b33 k33 P33 hs33 ge_b33 sz_b33 E33 V33 A33 O33
  have ne_a_b33 : a ≠ b33 := Nat.ne_of_lt (hs33 ▸ f32_a.lt)
  have ne_b30_b33 : b30 ≠ b33 := Nat.ne_of_lt (hs33 ▸ f32_b30.lt)
  have f33_S_DEFAULTCAPACITY_EMPTY_ELEMENTDATA := Sta.ext E33 f32_S_DEFAULTCAPACITY_EMPTY_ELEMENTDATA
  have f33_a := f32_a.ext E33
  have f33_b30 := f32_b30.ext E33
  refine k_putf (pc' := 30) (ty := (.array (.array .long))) (v' := (.ref b33)) C P33 (C.w 40 rfl) Via.refl f33_a 1 rfl (Or.inr ⟨(C.w 41 rfl), rfl, rfl⟩) (C.w 1 rfl) (by decide) rfl rfl d1_27 ge_a sz_a rfl ?_
  intro T34 h34 P34 W34
  have f34_a : KOb Z h34 a "com/example/circular_authority/circularauthority/model/LabelList" layL [(.ref b30), (.ref b33), (.int (0 : Int32)), (.int (0 : Int32))] := f33_a.put (lokL C.hw) 1 rfl W34 rfl
  have f34_S_DEFAULTCAPACITY_EMPTY_ELEMENTDATA := Sta.wr W34 f33_S_DEFAULTCAPACITY_EMPTY_ELEMENTDATA
  have f34_b30 := f33_b30.other W34 (Ne.symm ne_a_b30)
  have f34_b33 := V33.other W34 (Ne.symm ne_a_b33)
  exact k_retV C P34 d1_30 (by decide) (by decide) ⟨rfl, b30, b33, _, ge_b30, sz_b30, ge_b33, sz_b33, f34_a, f34_b30, f34_b33, O33⟩
theorem pn_6 : plainName "com/example/circular_authority/circularauthority/model/LabelListGetPackedPinLaw" = true := by first | (simp [plainName, overriddenIn]; done) | decide +kernel
theorem ef_rmPk (m : MethodId) (x0 : Int64) (x1 : Int32) : entryFrame m #[(.long x0), (.int x1)] 3 = mkF m 0 #[.val (.long x0), .second, .val (.int x1)] [] := by first | (simp [entryFrame, mkF, argsToLocals, Value.category]; done) | rfl
set_option maxRecDepth 65536 in
set_option maxHeartbeats 40000000 in
theorem rmPk (l : Launch) (Z : State) (a0 : Array Value) (hw : ∀ d ∈ tables_1, d.before a0 Z = true) (h0 : Heap) (n0 : Nat) (Z0 : n0 ≤ h0.size) (x : Int64) (n : Int32) :
    KCt false l (⟨"com/example/circular_authority/circularauthority/model/LabelListGetPackedPinLaw", "pk", "(JI)J"⟩ : MethodName) method_2_code 3 (some .long) ({ frames := 0, cells := 0, slots := 0, locals := 0 } : Room) Z n0 h0 #[(.long x), (.int n)] [] (fun v h => v = some (.long ((n.toInt64 <<< ((56 : Int32) &&& 63).toInt64) ||| (x &&& (((1 : Int64) <<< (((8 : Int32) * n) &&& 63).toInt64) - (1 : Int64))))) ∧ h0 = h) := by
  refine k_enter (tbl := tables_1) (a0 := a0) (Ls := #[.val (.long x), .second, .val (.int n)]) (plainFor_of_name pn_6) hw Z0 (fun m => ef_rmPk m x n) ?_
  intro p e s m below meth c T C P
  refine k_iloadN (pc' := 1) C P d6_0 rfl rfl ?_
  refine k_i2l (pc' := 2) C P d6_1 rfl ?_
  refine k_bipush (z := (56 : Int32)) (pc' := 4) C P d6_2 rfl rfl ?_
  refine k_lshl (pc' := 5) C P d6_4 rfl ?_
  refine k_lloadN (pc' := 6) C P d6_5 rfl rfl ?_
  refine k_lconst (z := (1 : Int64)) (pc' := 7) C P d6_6 rfl rfl ?_
  refine k_bipush (z := (8 : Int32)) (pc' := 9) C P d6_7 rfl rfl ?_
  refine k_iloadN (pc' := 10) C P d6_9 rfl rfl ?_
  refine k_imul (pc' := 11) C P d6_10 rfl ?_
  refine k_lshl (pc' := 12) C P d6_11 rfl ?_
  refine k_lconst (z := (1 : Int64)) (pc' := 13) C P d6_12 rfl rfl ?_
  refine k_lsub (pc' := 14) C P d6_13 rfl ?_
  refine k_land (pc' := 15) C P d6_14 rfl ?_
  refine k_lor (pc' := 16) C P d6_15 rfl ?_
  exact k_retJ C P d6_16 (by decide) (by decide) ⟨rfl, rfl⟩
theorem pn_12 : plainName "com/example/circular_authority/circularauthority/model/LabelList" = true := by first | (simp [plainName, overriddenIn]; done) | decide +kernel
theorem ef_rmE0 (m : MethodId) (x0 : Addr) (x1 : Int64) : entryFrame m #[(.ref x0), (.long x1)] 4 = mkF m 0 #[.val (.ref x0), .val (.long x1), .second, .unset] [] := by first | (simp [entryFrame, mkF, argsToLocals, Value.category]; done) | rfl
set_option maxRecDepth 65536 in
set_option maxHeartbeats 40000000 in
theorem rmE0 (l : Launch) (Z : State) (a0 : Array Value) (hw : ∀ d ∈ tables_1, d.before a0 Z = true) (h0 : Heap) (n0 : Nat) (Z0 : n0 ≤ h0.size) (a al ch : Addr) (kC : ClassId) (N : Nat) (hN : 0 < N) (OC : OvrA Z kC .long "[J") (ge_a : n0 ≤ a) (F : KOb Z h0 a "com/example/circular_authority/circularauthority/model/LabelList" layL [.ref al, .ref ch, .int 0, .int 0]) (ge_ch : n0 ≤ ch) (VC : KVA Z h0 ch kC (.array .long) N (fun _ => .null)) (x : Int64) :
    KCt false l (⟨"com/example/circular_authority/circularauthority/model/LabelList", "addEntry", "(J)V"⟩ : MethodName) prog_44_method_6_code 4 none ({ frames := 0, cells := 1, slots := 32768, locals := 0 } : Room) Z n0 h0 #[(.ref a), (.long x)] [a, ch] (fun v h => v = none ∧ ∃ (w1 : Addr) (kw : ClassId), n0 ≤ w1 ∧ h0.size ≤ w1 ∧ KOb Z h a "com/example/circular_authority/circularauthority/model/LabelList" layL [.ref al, .ref ch, .int 1, .int 0] ∧ KVA Z h ch kC (.array .long) N (fun j => if j = 0 then Value.ref w1 else Value.null) ∧ KVA Z h w1 kw .long 32768 (fun j => if j = 0 then .long x else .long 0)) := by
  refine k_enter (tbl := tables_1) (a0 := a0) (Ls := #[.val (.ref a), .val (.long x), .second, .unset]) (plainFor_of_name pn_12) hw Z0 (fun m => ef_rmE0 m a x) ?_
  intro p e s m below meth c T C P
  have sz_a : a ∈ [a, ch] ∨ h0.size ≤ a := Or.inl (by simp)
  have sz_ch : ch ∈ [a, ch] ∨ h0.size ≤ ch := Or.inl (by simp)
  refine k_aloadN (pc' := 1) C P d12_0 rfl rfl rfl ?_
  refine k_getf (pc' := 4) C P (C.w 80 rfl) Via.refl F 2 rfl rfl d12_1 rfl ?_
  intro T35 P35
  refine k_bipush (z := (15 : Int32)) (pc' := 6) C P35 d12_4 rfl rfl ?_
  refine k_iushr (pc' := 7) C P35 d12_6 rfl ?_
  refine k_istoreN (l' := #[.val (.ref a), .val (.long x), .second, .val (.int (k_ushr (0 : Int32) (15 : Int32)))]) (pc' := 8) C P35 d12_7 rfl rfl ?_
  refine k_aloadN (pc' := 9) C P35 d12_8 rfl rfl rfl ?_
  refine k_getf (pc' := 12) C P35 (C.w 40 rfl) Via.refl F 1 rfl rfl d12_9 rfl ?_
  intro T36 P36
  refine k_iloadN (pc' := 13) C P36 d12_12 rfl rfl ?_
  refine k_aaload (J := 0) (v := .null) (pc' := 14) C P36 VC rfl d12_13 (by decide) hN rfl rfl ?_
  refine k_nonnullN (pc' := 17) C P36 d12_14 rfl ?_
  refine k_aloadN (pc' := 18) C P36 d12_17 rfl rfl rfl ?_
  refine k_getf (pc' := 21) C P36 (C.w 40 rfl) Via.refl F 1 rfl rfl d12_18 rfl ?_
  intro T37 P37
  refine k_iloadN (pc' := 22) C P37 d12_21 rfl rfl ?_
  refine k_ldcI (pc' := 24) C P37 (C.w 82 rfl) d12_22 rfl ?_
  refine k_newpE (ad := "[J") (pc' := 26) (cells' := 1) (slots' := 32768) (N := 32768) (cap := 32768) C P37 (C.w 83 rfl) (by decide) d12_24 rfl (by decide) (by decide) rfl rfl (by decide) (by decide) rfl ?_
  intro T38 h38 b38 k38 P38 hs38 ge_b38 sz_b38 E38 V38 A38
  have ne_a_b38 : a ≠ b38 := Nat.ne_of_lt (hs38 ▸ F.lt)
  have ne_ch_b38 : ch ≠ b38 := Nat.ne_of_lt (hs38 ▸ VC.lt)
  have f38_a := F.ext E38
  have f38_ch := VC.ext E38
  refine k_aastore (J := 0) (g' := (fun j => if j = 0 then Value.ref b38 else Value.null)) (pc' := 27) C P38 f38_ch rfl (f38_ch.stoA OC (Ins.self A38)) d12_26 (by decide) hN (fun i _ => rfl) ge_ch sz_ch rfl ?_
  intro T39 h39 P39 W39 V39
  have f39_a := f38_a.other W39 (Ne.symm (f38_ch.ne_ob f38_a.exa (C.w 1 rfl)))
  have f39_E_b38 := Exa.wr W39 A38
  have f39_b38 := V38.other W39 (Ne.symm ne_ch_b38)
  refine k_aloadN (pc' := 28) C P39 d12_27 rfl rfl rfl ?_
  refine k_getf (pc' := 31) C P39 (C.w 40 rfl) Via.refl f39_a 1 rfl rfl d12_28 rfl ?_
  intro T40 P40
  refine k_iloadN (pc' := 32) C P40 d12_31 rfl rfl ?_
  refine k_aaload (J := 0) (v := (.ref b38)) (pc' := 33) C P40 V39 rfl d12_32 (by decide) hN rfl rfl ?_
  refine k_aloadN (pc' := 34) C P40 d12_33 rfl rfl rfl ?_
  refine k_getf (pc' := 37) C P40 (C.w 80 rfl) Via.refl f39_a 2 rfl rfl d12_34 rfl ?_
  intro T41 P41
  refine k_sipush (z := (32767 : Int32)) (pc' := 40) C P41 d12_37 rfl rfl ?_
  refine k_iand (pc' := 41) C P41 d12_40 rfl ?_
  refine k_lloadN (pc' := 42) C P41 d12_41 rfl rfl ?_
  refine k_lastore (J := 0) (g' := (fun j => if j = 0 then Value.long x else Value.long 0)) (pc' := 43) C P41 f39_b38 d12_42 (by decide) (by decide) (fun i _ => rfl) ge_b38 (Or.inr sz_b38) rfl ?_
  intro T42 h42 P42 W42 V42
  have f42_a := f39_a.other W42 ne_a_b38
  have f42_ch := V39.other W42 ne_ch_b38
  have f42_E_b38 := Exa.wr W42 f39_E_b38
  refine k_aloadN (pc' := 44) C P42 d12_43 rfl rfl rfl ?_
  refine k_dup (pc' := 45) C P42 d12_44 rfl rfl ?_
  refine k_getf (pc' := 48) C P42 (C.w 80 rfl) Via.refl f42_a 2 rfl rfl d12_45 rfl ?_
  intro T43 P43
  refine k_iconst (z := (1 : Int32)) (pc' := 49) C P43 d12_48 rfl rfl ?_
  refine k_iadd (pc' := 50) C P43 d12_49 rfl ?_
  rw [show ((0 : Int32) + (1 : Int32)) = (1 : Int32) from rfl]
  refine k_putf (pc' := 53) (ty := .int) (v' := (.int (1 : Int32))) C P43 (C.w 80 rfl) Via.refl f42_a 2 rfl (Or.inl (C.w 81 rfl)) (C.w 1 rfl) (by decide) rfl rfl d12_50 ge_a sz_a rfl ?_
  intro T44 h44 P44 W44
  have f44_a : KOb Z h44 a "com/example/circular_authority/circularauthority/model/LabelList" layL [(.ref al), (.ref ch), (.int (1 : Int32)), (.int (0 : Int32))] := f42_a.put (lokL C.hw) 2 rfl W44 rfl
  have f44_ch := f42_ch.other W44 (f42_ch.ne_ob f42_a.exa (C.w 1 rfl))
  have f44_E_b38 := Exa.wr W44 f42_E_b38
  have f44_b38 := V42.other W44 (Ne.symm ne_a_b38)
  exact k_retV C P44 d12_53 (by decide) (by decide) ⟨rfl, b38, _, ge_b38, sz_b38, f44_a, f44_ch, f44_b38⟩
theorem ef_rmE1 (m : MethodId) (x0 : Addr) (x1 : Int64) : entryFrame m #[(.ref x0), (.long x1)] 4 = mkF m 0 #[.val (.ref x0), .val (.long x1), .second, .unset] [] := by first | (simp [entryFrame, mkF, argsToLocals, Value.category]; done) | rfl
set_option maxRecDepth 65536 in
set_option maxHeartbeats 40000000 in
theorem rmE1 (l : Launch) (Z : State) (a0 : Array Value) (hw : ∀ d ∈ tables_1, d.before a0 Z = true) (h0 : Heap) (n0 : Nat) (Z0 : n0 ≤ h0.size) (a al ch : Addr) (kC : ClassId) (N : Nat) (hN : 0 < N) (OC : OvrA Z kC .long "[J") (ge_a : n0 ≤ a) (F : KOb Z h0 a "com/example/circular_authority/circularauthority/model/LabelList" layL [.ref al, .ref ch, .int 1, .int 0]) (w1 : Addr) (kw : ClassId) (f : Nat → Value) (ge_w1 : n0 ≤ w1) (VC : KVA Z h0 ch kC (.array .long) N (fun j => if j = 0 then Value.ref w1 else Value.null)) (VW : KVA Z h0 w1 kw .long 32768 f) (x : Int64) :
    KCt false l (⟨"com/example/circular_authority/circularauthority/model/LabelList", "addEntry", "(J)V"⟩ : MethodName) prog_44_method_6_code 4 none ({ frames := 0, cells := 0, slots := 0, locals := 0 } : Room) Z n0 h0 #[(.ref a), (.long x)] [a, w1] (fun v h => v = none ∧ KOb Z h a "com/example/circular_authority/circularauthority/model/LabelList" layL [.ref al, .ref ch, .int 2, .int 0] ∧ KVA Z h w1 kw .long 32768 (fun j => if j = 1 then .long x else f j)) := by
  refine k_enter (tbl := tables_1) (a0 := a0) (Ls := #[.val (.ref a), .val (.long x), .second, .unset]) (plainFor_of_name pn_12) hw Z0 (fun m => ef_rmE1 m a x) ?_
  intro p e s m below meth c T C P
  have sz_a : a ∈ [a, w1] ∨ h0.size ≤ a := Or.inl (by simp)
  have sz_w1 : w1 ∈ [a, w1] ∨ h0.size ≤ w1 := Or.inl (by simp)
  refine k_aloadN (pc' := 1) C P d12_0 rfl rfl rfl ?_
  refine k_getf (pc' := 4) C P (C.w 80 rfl) Via.refl F 2 rfl rfl d12_1 rfl ?_
  intro T45 P45
  refine k_bipush (z := (15 : Int32)) (pc' := 6) C P45 d12_4 rfl rfl ?_
  refine k_iushr (pc' := 7) C P45 d12_6 rfl ?_
  refine k_istoreN (l' := #[.val (.ref a), .val (.long x), .second, .val (.int (k_ushr (1 : Int32) (15 : Int32)))]) (pc' := 8) C P45 d12_7 rfl rfl ?_
  refine k_aloadN (pc' := 9) C P45 d12_8 rfl rfl rfl ?_
  refine k_getf (pc' := 12) C P45 (C.w 40 rfl) Via.refl F 1 rfl rfl d12_9 rfl ?_
  intro T46 P46
  refine k_iloadN (pc' := 13) C P46 d12_12 rfl rfl ?_
  refine k_aaload (J := 0) (v := (.ref w1)) (pc' := 14) C P46 VC rfl d12_13 (by decide) hN rfl rfl ?_
  refine k_nonnullY (pc' := 27) C P46 d12_14 (by decide) (by decide) ?_
  refine k_aloadN (pc' := 28) C P46 d12_27 rfl rfl rfl ?_
  refine k_getf (pc' := 31) C P46 (C.w 40 rfl) Via.refl F 1 rfl rfl d12_28 rfl ?_
  intro T47 P47
  refine k_iloadN (pc' := 32) C P47 d12_31 rfl rfl ?_
  refine k_aaload (J := 0) (v := (.ref w1)) (pc' := 33) C P47 VC rfl d12_32 (by decide) hN rfl rfl ?_
  refine k_aloadN (pc' := 34) C P47 d12_33 rfl rfl rfl ?_
  refine k_getf (pc' := 37) C P47 (C.w 80 rfl) Via.refl F 2 rfl rfl d12_34 rfl ?_
  intro T48 P48
  refine k_sipush (z := (32767 : Int32)) (pc' := 40) C P48 d12_37 rfl rfl ?_
  refine k_iand (pc' := 41) C P48 d12_40 rfl ?_
  refine k_lloadN (pc' := 42) C P48 d12_41 rfl rfl ?_
  refine k_lastore (J := 1) (g' := (fun j => if j = 1 then Value.long x else f j)) (pc' := 43) C P48 VW d12_42 (by decide) (by decide) (fun i _ => rfl) ge_w1 sz_w1 rfl ?_
  intro T49 h49 P49 W49 V49
  have f49_a := F.other W49 (Ne.symm (VW.ne_ob F.exa (C.w 1 rfl)))
  have f49_ch := VC.other W49 (KVA.neT VC VW nofun)
  refine k_aloadN (pc' := 44) C P49 d12_43 rfl rfl rfl ?_
  refine k_dup (pc' := 45) C P49 d12_44 rfl rfl ?_
  refine k_getf (pc' := 48) C P49 (C.w 80 rfl) Via.refl f49_a 2 rfl rfl d12_45 rfl ?_
  intro T50 P50
  refine k_iconst (z := (1 : Int32)) (pc' := 49) C P50 d12_48 rfl rfl ?_
  refine k_iadd (pc' := 50) C P50 d12_49 rfl ?_
  rw [show ((1 : Int32) + (1 : Int32)) = (2 : Int32) from rfl]
  refine k_putf (pc' := 53) (ty := .int) (v' := (.int (2 : Int32))) C P50 (C.w 80 rfl) Via.refl f49_a 2 rfl (Or.inl (C.w 81 rfl)) (C.w 1 rfl) (by decide) rfl rfl d12_50 ge_a sz_a rfl ?_
  intro T51 h51 P51 W51
  have f51_a : KOb Z h51 a "com/example/circular_authority/circularauthority/model/LabelList" layL [(.ref al), (.ref ch), (.int (2 : Int32)), (.int (0 : Int32))] := f49_a.put (lokL C.hw) 2 rfl W51 rfl
  have f51_ch := f49_ch.other W51 (f49_ch.ne_ob f49_a.exa (C.w 1 rfl))
  have f51_w1 := V49.other W51 (V49.ne_ob f49_a.exa (C.w 1 rfl))
  exact k_retV C P51 d12_53 (by decide) (by decide) ⟨rfl, f51_a, f51_w1⟩
theorem ef_rmE2 (m : MethodId) (x0 : Addr) (x1 : Int64) : entryFrame m #[(.ref x0), (.long x1)] 4 = mkF m 0 #[.val (.ref x0), .val (.long x1), .second, .unset] [] := by first | (simp [entryFrame, mkF, argsToLocals, Value.category]; done) | rfl
set_option maxRecDepth 65536 in
set_option maxHeartbeats 40000000 in
theorem rmE2 (l : Launch) (Z : State) (a0 : Array Value) (hw : ∀ d ∈ tables_1, d.before a0 Z = true) (h0 : Heap) (n0 : Nat) (Z0 : n0 ≤ h0.size) (a al ch : Addr) (kC : ClassId) (N : Nat) (hN : 0 < N) (OC : OvrA Z kC .long "[J") (ge_a : n0 ≤ a) (F : KOb Z h0 a "com/example/circular_authority/circularauthority/model/LabelList" layL [.ref al, .ref ch, .int 2, .int 0]) (w1 : Addr) (kw : ClassId) (f : Nat → Value) (ge_w1 : n0 ≤ w1) (VC : KVA Z h0 ch kC (.array .long) N (fun j => if j = 0 then Value.ref w1 else Value.null)) (VW : KVA Z h0 w1 kw .long 32768 f) (x : Int64) :
    KCt false l (⟨"com/example/circular_authority/circularauthority/model/LabelList", "addEntry", "(J)V"⟩ : MethodName) prog_44_method_6_code 4 none ({ frames := 0, cells := 0, slots := 0, locals := 0 } : Room) Z n0 h0 #[(.ref a), (.long x)] [a, w1] (fun v h => v = none ∧ KOb Z h a "com/example/circular_authority/circularauthority/model/LabelList" layL [.ref al, .ref ch, .int 3, .int 0] ∧ KVA Z h w1 kw .long 32768 (fun j => if j = 2 then .long x else f j)) := by
  refine k_enter (tbl := tables_1) (a0 := a0) (Ls := #[.val (.ref a), .val (.long x), .second, .unset]) (plainFor_of_name pn_12) hw Z0 (fun m => ef_rmE2 m a x) ?_
  intro p e s m below meth c T C P
  have sz_a : a ∈ [a, w1] ∨ h0.size ≤ a := Or.inl (by simp)
  have sz_w1 : w1 ∈ [a, w1] ∨ h0.size ≤ w1 := Or.inl (by simp)
  refine k_aloadN (pc' := 1) C P d12_0 rfl rfl rfl ?_
  refine k_getf (pc' := 4) C P (C.w 80 rfl) Via.refl F 2 rfl rfl d12_1 rfl ?_
  intro T52 P52
  refine k_bipush (z := (15 : Int32)) (pc' := 6) C P52 d12_4 rfl rfl ?_
  refine k_iushr (pc' := 7) C P52 d12_6 rfl ?_
  refine k_istoreN (l' := #[.val (.ref a), .val (.long x), .second, .val (.int (k_ushr (2 : Int32) (15 : Int32)))]) (pc' := 8) C P52 d12_7 rfl rfl ?_
  refine k_aloadN (pc' := 9) C P52 d12_8 rfl rfl rfl ?_
  refine k_getf (pc' := 12) C P52 (C.w 40 rfl) Via.refl F 1 rfl rfl d12_9 rfl ?_
  intro T53 P53
  refine k_iloadN (pc' := 13) C P53 d12_12 rfl rfl ?_
  refine k_aaload (J := 0) (v := (.ref w1)) (pc' := 14) C P53 VC rfl d12_13 (by decide) hN rfl rfl ?_
  refine k_nonnullY (pc' := 27) C P53 d12_14 (by decide) (by decide) ?_
  refine k_aloadN (pc' := 28) C P53 d12_27 rfl rfl rfl ?_
  refine k_getf (pc' := 31) C P53 (C.w 40 rfl) Via.refl F 1 rfl rfl d12_28 rfl ?_
  intro T54 P54
  refine k_iloadN (pc' := 32) C P54 d12_31 rfl rfl ?_
  refine k_aaload (J := 0) (v := (.ref w1)) (pc' := 33) C P54 VC rfl d12_32 (by decide) hN rfl rfl ?_
  refine k_aloadN (pc' := 34) C P54 d12_33 rfl rfl rfl ?_
  refine k_getf (pc' := 37) C P54 (C.w 80 rfl) Via.refl F 2 rfl rfl d12_34 rfl ?_
  intro T55 P55
  refine k_sipush (z := (32767 : Int32)) (pc' := 40) C P55 d12_37 rfl rfl ?_
  refine k_iand (pc' := 41) C P55 d12_40 rfl ?_
  refine k_lloadN (pc' := 42) C P55 d12_41 rfl rfl ?_
  refine k_lastore (J := 2) (g' := (fun j => if j = 2 then Value.long x else f j)) (pc' := 43) C P55 VW d12_42 (by decide) (by decide) (fun i _ => rfl) ge_w1 sz_w1 rfl ?_
  intro T56 h56 P56 W56 V56
  have f56_a := F.other W56 (Ne.symm (VW.ne_ob F.exa (C.w 1 rfl)))
  have f56_ch := VC.other W56 (KVA.neT VC VW nofun)
  refine k_aloadN (pc' := 44) C P56 d12_43 rfl rfl rfl ?_
  refine k_dup (pc' := 45) C P56 d12_44 rfl rfl ?_
  refine k_getf (pc' := 48) C P56 (C.w 80 rfl) Via.refl f56_a 2 rfl rfl d12_45 rfl ?_
  intro T57 P57
  refine k_iconst (z := (1 : Int32)) (pc' := 49) C P57 d12_48 rfl rfl ?_
  refine k_iadd (pc' := 50) C P57 d12_49 rfl ?_
  rw [show ((2 : Int32) + (1 : Int32)) = (3 : Int32) from rfl]
  refine k_putf (pc' := 53) (ty := .int) (v' := (.int (3 : Int32))) C P57 (C.w 80 rfl) Via.refl f56_a 2 rfl (Or.inl (C.w 81 rfl)) (C.w 1 rfl) (by decide) rfl rfl d12_50 ge_a sz_a rfl ?_
  intro T58 h58 P58 W58
  have f58_a : KOb Z h58 a "com/example/circular_authority/circularauthority/model/LabelList" layL [(.ref al), (.ref ch), (.int (3 : Int32)), (.int (0 : Int32))] := f56_a.put (lokL C.hw) 2 rfl W58 rfl
  have f58_ch := f56_ch.other W58 (f56_ch.ne_ob f56_a.exa (C.w 1 rfl))
  have f58_w1 := V56.other W58 (V56.ne_ob f56_a.exa (C.w 1 rfl))
  exact k_retV C P58 d12_53 (by decide) (by decide) ⟨rfl, f58_a, f58_w1⟩
theorem pn_11 : plainName "com/example/circular_authority/circularauthority/model/LabelList" = true := by first | (simp [plainName, overriddenIn]; done) | decide +kernel
theorem ef_rmP0 (m : MethodId) (x0 : Addr) (x1 : Int64) : entryFrame m #[(.ref x0), (.long x1)] 3 = mkF m 0 #[.val (.ref x0), .val (.long x1), .second] [] := by first | (simp [entryFrame, mkF, argsToLocals, Value.category]; done) | rfl
set_option maxRecDepth 65536 in
set_option maxHeartbeats 40000000 in
theorem rmP0 (l : Launch) (Z : State) (a0 : Array Value) (hw : ∀ d ∈ tables_1, d.before a0 Z = true) (h0 : Heap) (n0 : Nat) (Z0 : n0 ≤ h0.size) (a al ch : Addr) (kC : ClassId) (N : Nat) (hN : 0 < N) (OC : OvrA Z kC .long "[J") (ge_a : n0 ≤ a) (F : KOb Z h0 a "com/example/circular_authority/circularauthority/model/LabelList" layL [.ref al, .ref ch, .int 0, .int 0]) (ge_ch : n0 ≤ ch) (VC : KVA Z h0 ch kC (.array .long) N (fun _ => .null)) (x : Int64) :
    KCt false l (⟨"com/example/circular_authority/circularauthority/model/LabelList", "addPacked", "(J)V"⟩ : MethodName) prog_44_method_4_code 3 none ({ frames := 1, cells := 1, slots := 32768, locals := 16 } : Room) Z n0 h0 #[(.ref a), (.long x)] [a, ch] (fun v h => v = none ∧ ∃ (w1 : Addr) (kw : ClassId), n0 ≤ w1 ∧ h0.size ≤ w1 ∧ KOb Z h a "com/example/circular_authority/circularauthority/model/LabelList" layL [.ref al, .ref ch, .int 1, .int 0] ∧ KVA Z h ch kC (.array .long) N (fun j => if j = 0 then Value.ref w1 else Value.null) ∧ KVA Z h w1 kw .long 32768 (fun j => if j = 0 then .long x else .long 0)) := by
  refine k_enter (tbl := tables_1) (a0 := a0) (Ls := #[.val (.ref a), .val (.long x), .second]) (plainFor_of_name pn_11) hw Z0 (fun m => ef_rmP0 m a x) ?_
  intro p e s m below meth c T C P
  have sz_a : a ∈ [a, ch] ∨ h0.size ≤ a := Or.inl (by simp)
  have sz_ch : ch ∈ [a, ch] ∨ h0.size ≤ ch := Or.inl (by simp)
  refine k_aloadN (pc' := 1) C P d11_0 rfl rfl rfl ?_
  refine k_lloadN (pc' := 2) C P d11_1 rfl rfl ?_
  refine k_callP (pc' := 5) (cells' := 1) (slots' := 32768) (W := 0) C P (C.w 76 rfl) (C.w 77 rfl) (k_selP (C.w 1 rfl) (C.w 78 rfl) (C.w 77 rfl) (by decide)) (C.w 78 rfl) (C.w 79 rfl) (C.w 2 rfl) (by decide) (rmE0 l Z a0 hw _ n0 P.size a al ch kC N hN OC ge_a F ge_ch VC x) F.exa [(.long x)] [] rfl (lenOf pd_5 rfl) rfl (Nat.le_of_eq rfl) d11_2 rfl (by decide) (by decide) rfl rfl (by decide) (by decide) (allS sz_a (allS sz_ch all0)) rfl ?_
  intro T59 h59 v59 P59 K59 Q59
  obtain ⟨rfl, w1, kw, gw59, zw59, F59, VC59, VW59⟩ := Q59
  show KGo p e below _ T59 m 5 #[.val (.ref a), .val (.long x), .second] []
  exact k_retV C P59 d11_5 (by decide) (by decide) ⟨rfl, w1, kw, gw59, Nat.le_trans P.kept.1 zw59, F59, VC59, VW59⟩
theorem ef_rmP1 (m : MethodId) (x0 : Addr) (x1 : Int64) : entryFrame m #[(.ref x0), (.long x1)] 3 = mkF m 0 #[.val (.ref x0), .val (.long x1), .second] [] := by first | (simp [entryFrame, mkF, argsToLocals, Value.category]; done) | rfl
set_option maxRecDepth 65536 in
set_option maxHeartbeats 40000000 in
theorem rmP1 (l : Launch) (Z : State) (a0 : Array Value) (hw : ∀ d ∈ tables_1, d.before a0 Z = true) (h0 : Heap) (n0 : Nat) (Z0 : n0 ≤ h0.size) (a al ch : Addr) (kC : ClassId) (N : Nat) (hN : 0 < N) (OC : OvrA Z kC .long "[J") (ge_a : n0 ≤ a) (F : KOb Z h0 a "com/example/circular_authority/circularauthority/model/LabelList" layL [.ref al, .ref ch, .int 1, .int 0]) (w1 : Addr) (kw : ClassId) (f : Nat → Value) (ge_w1 : n0 ≤ w1) (VC : KVA Z h0 ch kC (.array .long) N (fun j => if j = 0 then Value.ref w1 else Value.null)) (VW : KVA Z h0 w1 kw .long 32768 f) (x : Int64) :
    KCt false l (⟨"com/example/circular_authority/circularauthority/model/LabelList", "addPacked", "(J)V"⟩ : MethodName) prog_44_method_4_code 3 none ({ frames := 1, cells := 0, slots := 0, locals := 16 } : Room) Z n0 h0 #[(.ref a), (.long x)] [a, w1] (fun v h => v = none ∧ KOb Z h a "com/example/circular_authority/circularauthority/model/LabelList" layL [.ref al, .ref ch, .int 2, .int 0] ∧ KVA Z h w1 kw .long 32768 (fun j => if j = 1 then .long x else f j)) := by
  refine k_enter (tbl := tables_1) (a0 := a0) (Ls := #[.val (.ref a), .val (.long x), .second]) (plainFor_of_name pn_11) hw Z0 (fun m => ef_rmP1 m a x) ?_
  intro p e s m below meth c T C P
  have sz_a : a ∈ [a, w1] ∨ h0.size ≤ a := Or.inl (by simp)
  have sz_w1 : w1 ∈ [a, w1] ∨ h0.size ≤ w1 := Or.inl (by simp)
  refine k_aloadN (pc' := 1) C P d11_0 rfl rfl rfl ?_
  refine k_lloadN (pc' := 2) C P d11_1 rfl rfl ?_
  refine k_callP (pc' := 5) (cells' := 0) (slots' := 0) (W := 0) C P (C.w 76 rfl) (C.w 77 rfl) (k_selP (C.w 1 rfl) (C.w 78 rfl) (C.w 77 rfl) (by decide)) (C.w 78 rfl) (C.w 79 rfl) (C.w 2 rfl) (by decide) (rmE1 l Z a0 hw _ n0 P.size a al ch kC N hN OC ge_a F w1 kw f ge_w1 VC VW x) F.exa [(.long x)] [] rfl (lenOf pd_5 rfl) rfl (Nat.le_of_eq rfl) d11_2 rfl (by decide) (by decide) rfl rfl (by decide) (by decide) (allS sz_a (allS sz_w1 all0)) rfl ?_
  intro T60 h60 v60 P60 K60 Q60
  obtain ⟨rfl, F60, VW60⟩ := Q60
  have f60_ch := VC.keep K60 (ninS (VC.ne_ob F.exa (C.w 1 rfl)) (ninS (KVA.neT VC VW nofun) nin0))
  show KGo p e below _ T60 m 5 #[.val (.ref a), .val (.long x), .second] []
  exact k_retV C P60 d11_5 (by decide) (by decide) ⟨rfl, F60, VW60⟩
theorem ef_rmP2 (m : MethodId) (x0 : Addr) (x1 : Int64) : entryFrame m #[(.ref x0), (.long x1)] 3 = mkF m 0 #[.val (.ref x0), .val (.long x1), .second] [] := by first | (simp [entryFrame, mkF, argsToLocals, Value.category]; done) | rfl
set_option maxRecDepth 65536 in
set_option maxHeartbeats 40000000 in
theorem rmP2 (l : Launch) (Z : State) (a0 : Array Value) (hw : ∀ d ∈ tables_1, d.before a0 Z = true) (h0 : Heap) (n0 : Nat) (Z0 : n0 ≤ h0.size) (a al ch : Addr) (kC : ClassId) (N : Nat) (hN : 0 < N) (OC : OvrA Z kC .long "[J") (ge_a : n0 ≤ a) (F : KOb Z h0 a "com/example/circular_authority/circularauthority/model/LabelList" layL [.ref al, .ref ch, .int 2, .int 0]) (w1 : Addr) (kw : ClassId) (f : Nat → Value) (ge_w1 : n0 ≤ w1) (VC : KVA Z h0 ch kC (.array .long) N (fun j => if j = 0 then Value.ref w1 else Value.null)) (VW : KVA Z h0 w1 kw .long 32768 f) (x : Int64) :
    KCt false l (⟨"com/example/circular_authority/circularauthority/model/LabelList", "addPacked", "(J)V"⟩ : MethodName) prog_44_method_4_code 3 none ({ frames := 1, cells := 0, slots := 0, locals := 16 } : Room) Z n0 h0 #[(.ref a), (.long x)] [a, w1] (fun v h => v = none ∧ KOb Z h a "com/example/circular_authority/circularauthority/model/LabelList" layL [.ref al, .ref ch, .int 3, .int 0] ∧ KVA Z h w1 kw .long 32768 (fun j => if j = 2 then .long x else f j)) := by
  refine k_enter (tbl := tables_1) (a0 := a0) (Ls := #[.val (.ref a), .val (.long x), .second]) (plainFor_of_name pn_11) hw Z0 (fun m => ef_rmP2 m a x) ?_
  intro p e s m below meth c T C P
  have sz_a : a ∈ [a, w1] ∨ h0.size ≤ a := Or.inl (by simp)
  have sz_w1 : w1 ∈ [a, w1] ∨ h0.size ≤ w1 := Or.inl (by simp)
  refine k_aloadN (pc' := 1) C P d11_0 rfl rfl rfl ?_
  refine k_lloadN (pc' := 2) C P d11_1 rfl rfl ?_
  refine k_callP (pc' := 5) (cells' := 0) (slots' := 0) (W := 0) C P (C.w 76 rfl) (C.w 77 rfl) (k_selP (C.w 1 rfl) (C.w 78 rfl) (C.w 77 rfl) (by decide)) (C.w 78 rfl) (C.w 79 rfl) (C.w 2 rfl) (by decide) (rmE2 l Z a0 hw _ n0 P.size a al ch kC N hN OC ge_a F w1 kw f ge_w1 VC VW x) F.exa [(.long x)] [] rfl (lenOf pd_5 rfl) rfl (Nat.le_of_eq rfl) d11_2 rfl (by decide) (by decide) rfl rfl (by decide) (by decide) (allS sz_a (allS sz_w1 all0)) rfl ?_
  intro T61 h61 v61 P61 K61 Q61
  obtain ⟨rfl, F61, VW61⟩ := Q61
  have f61_ch := VC.keep K61 (ninS (VC.ne_ob F.exa (C.w 1 rfl)) (ninS (KVA.neT VC VW nofun) nin0))
  show KGo p e below _ T61 m 5 #[.val (.ref a), .val (.long x), .second] []
  exact k_retV C P61 d11_5 (by decide) (by decide) ⟨rfl, F61, VW61⟩
theorem ef_rmMax (m : MethodId) (x0 : Int32) (x1 : Int32) : entryFrame m #[(.int x0), (.int x1)] 2 = mkF m 0 #[.val (.int x0), .val (.int x1)] [] := by first | (simp [entryFrame, mkF, argsToLocals, Value.category]; done) | rfl
set_option maxRecDepth 65536 in
set_option maxHeartbeats 40000000 in
theorem rmMax (l : Launch) (Z : State) (a0 : Array Value) (hw : ∀ d ∈ tables_1, d.before a0 Z = true) (h0 : Heap) (n0 : Nat) (Z0 : n0 ≤ h0.size) (x y r : Int32) (h1 : x < y → y = r) (h2 : ¬ x < y → x = r) :
    KCt false l (⟨"java/lang/Math", "max", "(II)I"⟩ : MethodName) jdk_29_method_65_code 2 (some .int) ({ frames := 0, cells := 0, slots := 0, locals := 0 } : Room) Z n0 h0 #[(.int x), (.int y)] [] (fun v h => v = some (.int r) ∧ h0 = h) := by
  refine k_enter (tbl := tables_1) (a0 := a0) (Ls := #[.val (.int x), .val (.int y)]) (Jvm.Free.JP.mathPlain rfl (by decide +kernel)) hw Z0 (fun m => ef_rmMax m x y) ?_
  intro p e s m below meth c T C P
  refine k_iloadN (pc' := 1) C P d20_0 rfl rfl ?_
  refine k_iloadN (pc' := 2) C P d20_1 rfl rfl ?_
  refine k_icB (pcY := 9) (pcN := 5) C P d20_2 (by decide) (by decide) rfl ?_ ?_
  · intro (hc2 : x < y)
    refine k_iloadN (pc' := 10) C P d20_9 rfl rfl ?_
    exact k_retI C P d20_10 (by decide) (by decide) ⟨by rw [h1 hc2], rfl⟩
  · intro (hc2 : ¬ x < y)
    refine k_iloadN (pc' := 6) C P d20_5 rfl rfl ?_
    refine k_goto (pc' := 10) C P d20_6 (by decide) (by decide) ?_
    exact k_retI C P d20_10 (by decide) (by decide) ⟨by rw [h2 hc2], rfl⟩
theorem pn_14 : plainName "java/util/ArrayList" = true := by first | (simp [plainName, overriddenIn]; done) | decide +kernel
theorem ef_rmSz (m : MethodId) (x0 : Addr) : entryFrame m #[(.ref x0)] 1 = mkF m 0 #[.val (.ref x0)] [] := by first | (simp [entryFrame, mkF, argsToLocals, Value.category]; done) | rfl
set_option maxRecDepth 65536 in
set_option maxHeartbeats 40000000 in
theorem rmSz (l : Launch) (Z : State) (a0 : Array Value) (hw : ∀ d ∈ tables_1, d.before a0 Z = true) (h0 : Heap) (n0 : Nat) (Z0 : n0 ≤ h0.size) (al d : Addr) (md n : Int32) (F : KOb Z h0 al "java/util/ArrayList" layA [.int md, .ref d, .int n]) :
    KCt false l (⟨"java/util/ArrayList", "size", "()I"⟩ : MethodName) jdk_38_method_8_code 1 (some .int) ({ frames := 0, cells := 0, slots := 0, locals := 0 } : Room) Z n0 h0 #[(.ref al)] [] (fun v h => v = some (.int n) ∧ h0 = h) := by
  refine k_enter (tbl := tables_1) (a0 := a0) (Ls := #[.val (.ref al)]) (plainFor_of_name pn_14) hw Z0 (fun m => ef_rmSz m al) ?_
  intro p e s m below meth c T C P
  refine k_aloadN (pc' := 1) C P d14_0 rfl rfl rfl ?_
  refine k_getf (pc' := 4) C P (C.w 100 rfl) Via.refl F 2 rfl rfl d14_1 rfl ?_
  intro T62 P62
  exact k_retI C P62 d14_4 (by decide) (by decide) ⟨rfl, rfl⟩
theorem pn_15 : plainName "java/lang/String" = true := by first | (simp [plainName, overriddenIn]; done) | decide +kernel
theorem ef_rmTS (m : MethodId) (x0 : Addr) : entryFrame m #[(.ref x0)] 1 = mkF m 0 #[.val (.ref x0)] [] := by first | (simp [entryFrame, mkF, argsToLocals, Value.category]; done) | rfl
set_option maxRecDepth 65536 in
set_option maxHeartbeats 40000000 in
theorem rmTS (l : Launch) (Z : State) (a0 : Array Value) (hw : ∀ d ∈ tables_1, d.before a0 Z = true) (h0 : Heap) (n0 : Nat) (Z0 : n0 ≤ h0.size) (a : Addr) :
    KCt false l (⟨"java/lang/String", "toString", "()Ljava/lang/String;"⟩ : MethodName) jdk_42_method_126_code 1 (some (.object "java/lang/String")) ({ frames := 0, cells := 0, slots := 0, locals := 0 } : Room) Z n0 h0 #[(.ref a)] [] (fun v h => v = some (.ref a) ∧ h0 = h) := by
  refine k_enter (tbl := tables_1) (a0 := a0) (Ls := #[.val (.ref a)]) (plainFor_of_name pn_15) hw Z0 (fun m => ef_rmTS m a) ?_
  intro p e s m below meth c T C P
  refine k_aloadN (pc' := 1) C P d15_0 rfl rfl rfl ?_
  exact k_retA C P d15_1 rfl rfl (by decide) (by decide) ⟨rfl, rfl⟩
theorem pn_19 : plainName "java/util/ArrayList" = true := by first | (simp [plainName, overriddenIn]; done) | decide +kernel
theorem ef_rmGI (m : MethodId) (x0 : Addr) (x1 : Int32) : entryFrame m #[(.ref x0), (.int x1)] 4 = mkF m 0 #[.val (.ref x0), .val (.int x1), .unset, .unset] [] := by first | (simp [entryFrame, mkF, argsToLocals, Value.category]; done) | rfl
set_option maxRecDepth 65536 in
set_option maxHeartbeats 40000000 in
theorem rmGI (l : Launch) (Z : State) (a0 : Array Value) (hw : ∀ d ∈ tables_1, d.before a0 Z = true) (h0 : Heap) (n0 : Nat) (Z0 : n0 ≤ h0.size) (al : Addr) (md : Int32) (ed : Addr) (SD : Sta Z h0 "java/util/ArrayList" "DEFAULTCAPACITY_EMPTY_ELEMENTDATA" "[Ljava/lang/Object;" (.ref ed)) (ge_al : n0 ≤ al) (F : KOb Z h0 al "java/util/ArrayList" layA [.int md, .ref ed, .int 0]) (kE : ClassId) (fE : Nat → Value) (VE : KVA Z h0 ed kE (.object "java/lang/Object") 0 fE) :
    KCt false l (⟨"java/util/ArrayList", "grow", "(I)[Ljava/lang/Object;"⟩ : MethodName) jdk_38_method_6_code 4 (some (.array (.object "java/lang/Object"))) ({ frames := 1, cells := 1, slots := 10, locals := 16 } : Room) Z n0 h0 #[(.ref al), (.int (1 : Int32))] [al] (fun v h => ∃ (d : Addr) (kd : ClassId), v = some (.ref d) ∧ n0 ≤ d ∧ h0.size ≤ d ∧ KOb Z h al "java/util/ArrayList" layA [.int md, .ref d, .int 0] ∧ KVA Z h d kd (.object "java/lang/Object") 10 (fun _ => .null) ∧ Ovr Z kd "java/lang/Object") := by
  refine k_enter (tbl := tables_1) (a0 := a0) (Ls := #[.val (.ref al), .val (.int (1 : Int32)), .unset, .unset]) (plainFor_of_name pn_19) hw Z0 (fun m => ef_rmGI m al (1 : Int32)) ?_
  intro p e s m below meth c T C P
  have sz_al : al ∈ [al] ∨ h0.size ≤ al := Or.inl (by simp)
  refine k_aloadN (pc' := 1) C P d19_0 rfl rfl rfl ?_
  refine k_getf (pc' := 4) C P (C.w 34 rfl) Via.refl F 1 rfl rfl d19_1 rfl ?_
  intro T63 P63
  refine k_arrlen (z := (0 : Int32)) (pc' := 5) C P63 VE d19_4 rfl rfl ?_
  refine k_istoreN (l' := #[.val (.ref al), .val (.int (1 : Int32)), .val (.int (0 : Int32)), .unset]) (pc' := 6) C P63 d19_5 rfl rfl ?_
  refine k_iloadN (pc' := 7) C P63 d19_6 rfl rfl ?_
  refine k_ifN (pc' := 10) C P63 d19_7 (show ¬ (0 : Int32) < 0 by decide) rfl ?_
  refine k_aloadN (pc' := 11) C P63 d19_10 rfl rfl rfl ?_
  refine k_getf (pc' := 14) C P63 (C.w 34 rfl) Via.refl F 1 rfl rfl d19_11 rfl ?_
  intro T64 P64
  refine k_gets (pc' := 17) C P64 (C.w 33 rfl) Via.refl SD d19_14 rfl ?_
  intro T65 P65
  refine k_acB (pcY := 45) (pcN := 20) C P65 d19_17 rfl rfl (by decide) (by decide) rfl ?_ ?_
  · intro hc17
    refine k_aloadN (pc' := 46) C P65 d19_45 rfl rfl rfl ?_
    refine k_bipush (z := (10 : Int32)) (pc' := 48) C P65 d19_46 rfl rfl ?_
    refine k_iloadN (pc' := 49) C P65 d19_48 rfl rfl ?_
    refine k_callT (pc' := 52) (cells' := 0) (slots' := 0) (W := 1) C P65 (C.w 136 rfl) (C.w 137 rfl) (C.w 139 rfl) (C.w 138 rfl) (by decide) (rmMax l Z a0 hw _ n0 P65.size 10 1 10 (fun q => absurd q (by decide)) (fun _ => rfl)) [(.int (10 : Int32)), (.int (1 : Int32))] [(.ref al)] rfl (lenOf pd_6 rfl) rfl (Nat.le_of_eq rfl) d19_49 rfl (by decide) (by decide) rfl rfl (by decide) (by decide) all0 rfl ?_
    intro T66 h66 v66 P66 K66 Q66
    obtain ⟨e66, g66⟩ := Q66
    subst g66
    subst e66
    show KGo p e below _ T66 m 52 #[.val (.ref al), .val (.int (1 : Int32)), .val (.int (0 : Int32)), .unset] [(.int (10 : Int32)), (.ref al)]
    refine k_newr (pc' := 55) (cells' := 1) (slots' := 10) (N := 10) (cap := 10) C P66 (C.w 140 rfl) (C.w 141 rfl) d19_52 rfl (by decide) (by decide) rfl rfl (by decide) (by decide) rfl ?_
    intro T67 h67 b67 k67 P67 hs67 ge_b67 sz_b67 E67 V67 O67
    have ne_al_b67 : al ≠ b67 := Nat.ne_of_lt (hs67 ▸ F.lt)
    have ne_ed_b67 : ed ≠ b67 := Nat.ne_of_lt (hs67 ▸ VE.lt)
    have f67_al := F.ext E67
    have f67_S_DEFAULTCAPACITY_EMPTY_ELEMENTDATA := Sta.ext E67 SD
    have f67_ed := VE.ext E67
    refine k_dupX1 (pc' := 56) C P67 d19_55 rfl rfl rfl ?_
    refine k_putf (pc' := 59) (ty := (.array (.object "java/lang/Object"))) (v' := (.ref b67)) C P67 (C.w 34 rfl) Via.refl f67_al 1 rfl (Or.inl (C.w 35 rfl)) (C.w 24 rfl) (by decide) rfl rfl d19_56 ge_al sz_al rfl ?_
    intro T68 h68 P68 W68
    have f68_al : KOb Z h68 al "java/util/ArrayList" layA [(.int md), (.ref b67), (.int (0 : Int32))] := f67_al.put (lokA C.hw) 1 rfl W68 rfl
    have f68_S_DEFAULTCAPACITY_EMPTY_ELEMENTDATA := Sta.wr W68 f67_S_DEFAULTCAPACITY_EMPTY_ELEMENTDATA
    have f68_ed := f67_ed.other W68 (f67_ed.ne_ob f67_al.exa (C.w 24 rfl))
    have f68_b67 := V67.other W68 (Ne.symm ne_al_b67)
    exact k_retA C P68 d19_59 rfl rfl (by decide) (by decide) ⟨b67, _, rfl, ge_b67, sz_b67, f68_al, f68_b67, O67⟩
  · intro hc17
    exact absurd rfl (own_nacmp hc17)
theorem pn_18 : plainName "java/util/ArrayList" = true := by first | (simp [plainName, overriddenIn]; done) | decide +kernel
theorem ef_rmG0 (m : MethodId) (x0 : Addr) : entryFrame m #[(.ref x0)] 1 = mkF m 0 #[.val (.ref x0)] [] := by first | (simp [entryFrame, mkF, argsToLocals, Value.category]; done) | rfl
set_option maxRecDepth 65536 in
set_option maxHeartbeats 40000000 in
theorem rmG0 (l : Launch) (Z : State) (a0 : Array Value) (hw : ∀ d ∈ tables_1, d.before a0 Z = true) (h0 : Heap) (n0 : Nat) (Z0 : n0 ≤ h0.size) (al : Addr) (md : Int32) (ed : Addr) (SD : Sta Z h0 "java/util/ArrayList" "DEFAULTCAPACITY_EMPTY_ELEMENTDATA" "[Ljava/lang/Object;" (.ref ed)) (ge_al : n0 ≤ al) (F : KOb Z h0 al "java/util/ArrayList" layA [.int md, .ref ed, .int 0]) (kE : ClassId) (fE : Nat → Value) (VE : KVA Z h0 ed kE (.object "java/lang/Object") 0 fE) :
    KCt false l (⟨"java/util/ArrayList", "grow", "()[Ljava/lang/Object;"⟩ : MethodName) jdk_38_method_7_code 1 (some (.array (.object "java/lang/Object"))) ({ frames := 2, cells := 1, slots := 10, locals := 32 } : Room) Z n0 h0 #[(.ref al)] [al] (fun v h => ∃ (d : Addr) (kd : ClassId), v = some (.ref d) ∧ n0 ≤ d ∧ h0.size ≤ d ∧ KOb Z h al "java/util/ArrayList" layA [.int md, .ref d, .int 0] ∧ KVA Z h d kd (.object "java/lang/Object") 10 (fun _ => .null) ∧ Ovr Z kd "java/lang/Object") := by
  refine k_enter (tbl := tables_1) (a0 := a0) (Ls := #[.val (.ref al)]) (plainFor_of_name pn_18) hw Z0 (fun m => ef_rmG0 m al) ?_
  intro p e s m below meth c T C P
  have sz_al : al ∈ [al] ∨ h0.size ≤ al := Or.inl (by simp)
  refine k_aloadN (pc' := 1) C P d18_0 rfl rfl rfl ?_
  refine k_aloadN (pc' := 2) C P d18_1 rfl rfl rfl ?_
  refine k_getf (pc' := 5) C P (C.w 100 rfl) Via.refl F 2 rfl rfl d18_2 rfl ?_
  intro T69 P69
  refine k_iconst (z := (1 : Int32)) (pc' := 6) C P69 d18_5 rfl rfl ?_
  refine k_iadd (pc' := 7) C P69 d18_6 rfl ?_
  rw [show ((0 : Int32) + (1 : Int32)) = 1 from rfl]
  refine k_callP (pc' := 10) (cells' := 1) (slots' := 10) (W := 0) C P69 (C.w 131 rfl) (C.w 132 rfl) (C.w 134 rfl) (C.w 133 rfl) (C.w 135 rfl) (C.w 25 rfl) (by decide) (rmGI l Z a0 hw _ n0 P69.size al md ed SD ge_al F kE fE VE) F.exa [(.int (1 : Int32))] [] rfl (lenOf pd_7 rfl) rfl (Nat.le_of_eq rfl) d18_7 rfl (by decide) (by decide) rfl rfl (by decide) (by decide) (allS sz_al all0) rfl ?_
  intro T70 h70 v70 P70 K70 Q70
  obtain ⟨d, kd, rfl, gd70, zd70, F70, V70, O70⟩ := Q70
  have f70_S_DEFAULTCAPACITY_EMPTY_ELEMENTDATA := k_staKeep SD K70 (k_nsS F.ns k_ns0)
  have f70_ed := VE.keep K70 (ninS (VE.ne_ob F.exa (C.w 24 rfl)) nin0)
  show KGo p e below _ T70 m 10 #[.val (.ref al)] [(.ref d)]
  exact k_retA C P70 d18_10 rfl rfl (by decide) (by decide) ⟨d, _, rfl, gd70, Nat.le_trans P69.kept.1 zd70, F70, V70, O70⟩
theorem pn_17 : plainName "java/util/ArrayList" = true := by first | (simp [plainName, overriddenIn]; done) | decide +kernel
theorem ef_rmA3_0 (m : MethodId) (x0 : Addr) (x1 : Addr) (x2 : Addr) (x3 : Int32) : entryFrame m #[(.ref x0), (.ref x1), (.ref x2), (.int x3)] 4 = mkF m 0 #[.val (.ref x0), .val (.ref x1), .val (.ref x2), .val (.int x3)] [] := by first | (simp [entryFrame, mkF, argsToLocals, Value.category]; done) | rfl
set_option maxRecDepth 65536 in
set_option maxHeartbeats 40000000 in
theorem rmA3_0 (l : Launch) (Z : State) (a0 : Array Value) (hw : ∀ d ∈ tables_1, d.before a0 Z = true) (h0 : Heap) (n0 : Nat) (Z0 : n0 ≤ h0.size) (al : Addr) (md : Int32) (ed : Addr) (SD : Sta Z h0 "java/util/ArrayList" "DEFAULTCAPACITY_EMPTY_ELEMENTDATA" "[Ljava/lang/Object;" (.ref ed)) (ge_al : n0 ≤ al) (F : KOb Z h0 al "java/util/ArrayList" layA [.int md, .ref ed, .int 0]) (kE : ClassId) (fE : Nat → Value) (VE : KVA Z h0 ed kE (.object "java/lang/Object") 0 fE) (sx : Addr) (ES : Exa Z h0 sx "java/lang/String") :
    KCt false l (⟨"java/util/ArrayList", "add", "(Ljava/lang/Object;[Ljava/lang/Object;I)V"⟩ : MethodName) jdk_38_method_24_code 4 none ({ frames := 3, cells := 1, slots := 10, locals := 45 } : Room) Z n0 h0 #[(.ref al), (.ref sx), (.ref ed), (.int (0 : Int32))] [al] (fun v h => v = none ∧ ∃ (d : Addr) (kd : ClassId) (f' : Nat → Value), n0 ≤ d ∧ h0.size ≤ d ∧ KOb Z h al "java/util/ArrayList" layA [.int md, .ref d, .int 1] ∧ KVA Z h d kd (.object "java/lang/Object") 10 f' ∧ Ovr Z kd "java/lang/Object") := by
  refine k_enter (tbl := tables_1) (a0 := a0) (Ls := #[.val (.ref al), .val (.ref sx), .val (.ref ed), .val (.int (0 : Int32))]) (plainFor_of_name pn_17) hw Z0 (fun m => ef_rmA3_0 m al sx ed (0 : Int32)) ?_
  intro p e s m below meth c T C P
  have sz_al : al ∈ [al] ∨ h0.size ≤ al := Or.inl (by simp)
  refine k_iloadN (pc' := 1) C P d17_0 rfl rfl ?_
  refine k_aloadN (pc' := 2) C P d17_1 rfl rfl rfl ?_
  refine k_arrlen (z := (0 : Int32)) (pc' := 3) C P VE d17_2 rfl rfl ?_
  refine k_icN (pc' := 6) C P d17_3 (rfl : (0 : Int32) = 0) rfl ?_
  refine k_aloadN (pc' := 7) C P d17_6 rfl rfl rfl ?_
  refine k_callP (pc' := 10) (cells' := 1) (slots' := 10) (W := 0) C P (C.w 126 rfl) (C.w 127 rfl) (C.w 129 rfl) (C.w 128 rfl) (C.w 130 rfl) (C.w 25 rfl) (by decide) (rmG0 l Z a0 hw _ n0 P.size al md ed SD ge_al F kE fE VE) F.exa [] [] rfl (lenOf pd_8 rfl) rfl (Nat.le_of_eq rfl) d17_7 rfl (by decide) (by decide) rfl rfl (by decide) (by decide) (allS sz_al all0) rfl ?_
  intro T71 h71 v71 P71 K71 Q71
  obtain ⟨d, kd, rfl, gd71, zd71, F71, V71, O71⟩ := Q71
  have f71_S_DEFAULTCAPACITY_EMPTY_ELEMENTDATA := k_staKeep SD K71 (k_nsS F.ns k_ns0)
  have f71_ed := VE.keep K71 (ninS (VE.ne_ob F.exa (C.w 24 rfl)) nin0)
  have f71_E_sx := Exa.keep ES K71
  show KGo p e below _ T71 m 10 #[.val (.ref al), .val (.ref sx), .val (.ref ed), .val (.int (0 : Int32))] [(.ref d)]
  refine k_astoreN (l' := #[.val (.ref al), .val (.ref sx), .val (.ref d), .val (.int (0 : Int32))]) (pc' := 11) C P71 d17_10 rfl rfl rfl ?_
  refine k_aloadN (pc' := 12) C P71 d17_11 rfl rfl rfl ?_
  refine k_iloadN (pc' := 13) C P71 d17_12 rfl rfl ?_
  refine k_aloadN (pc' := 14) C P71 d17_13 rfl rfl rfl ?_
  refine k_aastore (J := 0) (g' := (fun i => if i = 0 then Value.ref sx else Value.null)) (pc' := 15) C P71 V71 rfl (V71.sto (K1 := "") O71 (Ins.of_exa f71_E_sx (C.w 142 rfl))) d17_14 rfl (by decide) (fun i _ => rfl) gd71 (Or.inr (Nat.le_trans P.kept.1 zd71)) rfl ?_
  intro T72 h72 P72 W72 V72
  have f72_S_DEFAULTCAPACITY_EMPTY_ELEMENTDATA := Sta.wr W72 f71_S_DEFAULTCAPACITY_EMPTY_ELEMENTDATA
  have f72_E_sx := Exa.wr W72 f71_E_sx
  have f72_al := F71.other W72 (Ne.symm (V71.ne_ob F71.exa (C.w 24 rfl)))
  refine k_aloadN (pc' := 16) C P72 d17_15 rfl rfl rfl ?_
  refine k_iloadN (pc' := 17) C P72 d17_16 rfl rfl ?_
  refine k_iconst (z := (1 : Int32)) (pc' := 18) C P72 d17_17 rfl rfl ?_
  refine k_iadd (pc' := 19) C P72 d17_18 rfl ?_
  rw [show ((0 : Int32) + (1 : Int32)) = (1 : Int32) from rfl]
  refine k_putf (pc' := 22) (ty := .int) (v' := (.int (1 : Int32))) C P72 (C.w 100 rfl) Via.refl f72_al 2 rfl (Or.inl (C.w 101 rfl)) (C.w 24 rfl) (by decide) rfl rfl d17_19 ge_al sz_al rfl ?_
  intro T73 h73 P73 W73
  have f73_al : KOb Z h73 al "java/util/ArrayList" layA [(.int md), (.ref d), (.int (1 : Int32))] := f72_al.put (lokA C.hw) 2 rfl W73 rfl
  have f73_S_DEFAULTCAPACITY_EMPTY_ELEMENTDATA := Sta.wr W73 f72_S_DEFAULTCAPACITY_EMPTY_ELEMENTDATA
  have f73_E_sx := Exa.wr W73 f72_E_sx
  have f73_d := V72.other W73 (V72.ne_ob f72_al.exa (C.w 24 rfl))
  exact k_retV C P73 d17_22 (by decide) (by decide) ⟨rfl, d, _, _, gd71, Nat.le_trans P.kept.1 zd71, f73_al, f73_d, O71⟩
theorem pn_16 : plainName "java/util/ArrayList" = true := by first | (simp [plainName, overriddenIn]; done) | decide +kernel
theorem ef_rmA1_0 (m : MethodId) (x0 : Addr) (x1 : Addr) : entryFrame m #[(.ref x0), (.ref x1)] 2 = mkF m 0 #[.val (.ref x0), .val (.ref x1)] [] := by first | (simp [entryFrame, mkF, argsToLocals, Value.category]; done) | rfl
set_option maxRecDepth 65536 in
set_option maxHeartbeats 40000000 in
theorem rmA1_0 (l : Launch) (Z : State) (a0 : Array Value) (hw : ∀ d ∈ tables_1, d.before a0 Z = true) (h0 : Heap) (n0 : Nat) (Z0 : n0 ≤ h0.size) (al : Addr) (md : Int32) (ed : Addr) (SD : Sta Z h0 "java/util/ArrayList" "DEFAULTCAPACITY_EMPTY_ELEMENTDATA" "[Ljava/lang/Object;" (.ref ed)) (ge_al : n0 ≤ al) (F : KOb Z h0 al "java/util/ArrayList" layA [.int md, .ref ed, .int 0]) (kE : ClassId) (fE : Nat → Value) (VE : KVA Z h0 ed kE (.object "java/lang/Object") 0 fE) (sx : Addr) (ES : Exa Z h0 sx "java/lang/String") :
    KCt false l (⟨"java/util/ArrayList", "add", "(Ljava/lang/Object;)Z"⟩ : MethodName) jdk_38_method_25_code 2 (some .boolean) ({ frames := 4, cells := 1, slots := 10, locals := 61 } : Room) Z n0 h0 #[(.ref al), (.ref sx)] [al] (fun v h => v = some (.int 1) ∧ ∃ (d : Addr) (kd : ClassId) (f' : Nat → Value), n0 ≤ d ∧ h0.size ≤ d ∧ KOb Z h al "java/util/ArrayList" layA [.int (md + 1), .ref d, .int 1] ∧ KVA Z h d kd (.object "java/lang/Object") 10 f' ∧ Ovr Z kd "java/lang/Object") := by
  refine k_enter (tbl := tables_1) (a0 := a0) (Ls := #[.val (.ref al), .val (.ref sx)]) (plainFor_of_name pn_16) hw Z0 (fun m => ef_rmA1_0 m al sx) ?_
  intro p e s m below meth c T C P
  have sz_al : al ∈ [al] ∨ h0.size ≤ al := Or.inl (by simp)
  refine k_aloadN (pc' := 1) C P d16_0 rfl rfl rfl ?_
  refine k_dup (pc' := 2) C P d16_1 rfl rfl ?_
  refine k_getf (pc' := 5) C P (C.w 119 rfl) (Via.of (C.w 120 rfl)) F 0 rfl rfl d16_2 rfl ?_
  intro T74 P74
  refine k_iconst (z := (1 : Int32)) (pc' := 6) C P74 d16_5 rfl rfl ?_
  refine k_iadd (pc' := 7) C P74 d16_6 rfl ?_
  refine k_putf (pc' := 10) (ty := .int) (v' := (.int (md + (1 : Int32)))) C P74 (C.w 119 rfl) (Via.of (C.w 120 rfl)) F 0 rfl (Or.inl (C.w 32 rfl)) (C.w 24 rfl) (by decide) rfl rfl d16_7 ge_al sz_al rfl ?_
  intro T75 h75 P75 W75
  have f75_al : KOb Z h75 al "java/util/ArrayList" layA [(.int (md + (1 : Int32))), (.ref ed), (.int (0 : Int32))] := F.put (lokA C.hw) 0 rfl W75 rfl
  have f75_S_DEFAULTCAPACITY_EMPTY_ELEMENTDATA := Sta.wr W75 SD
  have f75_ed := VE.other W75 (VE.ne_ob F.exa (C.w 24 rfl))
  have f75_E_sx := Exa.wr W75 ES
  refine k_aloadN (pc' := 11) C P75 d16_10 rfl rfl rfl ?_
  refine k_aloadN (pc' := 12) C P75 d16_11 rfl rfl rfl ?_
  refine k_aloadN (pc' := 13) C P75 d16_12 rfl rfl rfl ?_
  refine k_getf (pc' := 16) C P75 (C.w 34 rfl) Via.refl f75_al 1 rfl rfl d16_13 rfl ?_
  intro T76 P76
  refine k_aloadN (pc' := 17) C P76 d16_16 rfl rfl rfl ?_
  refine k_getf (pc' := 20) C P76 (C.w 100 rfl) Via.refl f75_al 2 rfl rfl d16_17 rfl ?_
  intro T77 P77
  refine k_callP (pc' := 23) (cells' := 1) (slots' := 10) (W := 0) C P77 (C.w 121 rfl) (C.w 122 rfl) (C.w 124 rfl) (C.w 123 rfl) (C.w 125 rfl) (C.w 25 rfl) (by decide) (rmA3_0 l Z a0 hw _ n0 P77.size al (md + (1 : Int32)) ed f75_S_DEFAULTCAPACITY_EMPTY_ELEMENTDATA ge_al f75_al kE fE f75_ed sx f75_E_sx) f75_al.exa [(.ref sx), (.ref ed), (.int (0 : Int32))] [] rfl (lenOf pd_9 rfl) rfl (Nat.le_of_eq rfl) d16_20 rfl (by decide) (by decide) rfl rfl (by decide) (by decide) (allS sz_al all0) rfl ?_
  intro T78 h78 v78 P78 K78 Q78
  obtain ⟨rfl, d, kd, f', gd78, zd78, F78, V78, O78⟩ := Q78
  have f78_S_DEFAULTCAPACITY_EMPTY_ELEMENTDATA := k_staKeep f75_S_DEFAULTCAPACITY_EMPTY_ELEMENTDATA K78 (k_nsS f75_al.ns k_ns0)
  have f78_ed := f75_ed.keep K78 (ninS (f75_ed.ne_ob f75_al.exa (C.w 24 rfl)) nin0)
  have f78_E_sx := Exa.keep f75_E_sx K78
  show KGo p e below _ T78 m 23 #[.val (.ref al), .val (.ref sx)] []
  refine k_iconst (z := (1 : Int32)) (pc' := 24) C P78 d16_23 rfl rfl ?_
  exact k_retZ (z' := (1 : Int32)) C P78 (by simp) d16_24 rfl (by decide) (by decide) ⟨rfl, d, _, _, gd78, Nat.le_trans P77.kept.1 zd78, F78, V78, O78⟩
theorem ef_rmA3_1 (m : MethodId) (x0 : Addr) (x1 : Addr) (x2 : Addr) (x3 : Int32) : entryFrame m #[(.ref x0), (.ref x1), (.ref x2), (.int x3)] 4 = mkF m 0 #[.val (.ref x0), .val (.ref x1), .val (.ref x2), .val (.int x3)] [] := by first | (simp [entryFrame, mkF, argsToLocals, Value.category]; done) | rfl
set_option maxRecDepth 65536 in
set_option maxHeartbeats 40000000 in
theorem rmA3_1 (l : Launch) (Z : State) (a0 : Array Value) (hw : ∀ d ∈ tables_1, d.before a0 Z = true) (h0 : Heap) (n0 : Nat) (Z0 : n0 ≤ h0.size) (al d : Addr) (md : Int32) (kd : ClassId) (f : Nat → Value) (ge_al : n0 ≤ al) (ge_d : n0 ≤ d) (F : KOb Z h0 al "java/util/ArrayList" layA [.int md, .ref d, .int 1]) (V : KVA Z h0 d kd (.object "java/lang/Object") 10 f) (O : Ovr Z kd "java/lang/Object") (sx : Addr) (ES : Exa Z h0 sx "java/lang/String") :
    KCt false l (⟨"java/util/ArrayList", "add", "(Ljava/lang/Object;[Ljava/lang/Object;I)V"⟩ : MethodName) jdk_38_method_24_code 4 none ({ frames := 0, cells := 0, slots := 0, locals := 0 } : Room) Z n0 h0 #[(.ref al), (.ref sx), (.ref d), (.int (1 : Int32))] [al, d] (fun v h => v = none ∧ ∃ (f' : Nat → Value), KOb Z h al "java/util/ArrayList" layA [.int md, .ref d, .int 2] ∧ KVA Z h d kd (.object "java/lang/Object") 10 f') := by
  refine k_enter (tbl := tables_1) (a0 := a0) (Ls := #[.val (.ref al), .val (.ref sx), .val (.ref d), .val (.int (1 : Int32))]) (plainFor_of_name pn_17) hw Z0 (fun m => ef_rmA3_1 m al sx d (1 : Int32)) ?_
  intro p e s m below meth c T C P
  have sz_al : al ∈ [al, d] ∨ h0.size ≤ al := Or.inl (by simp)
  have sz_d : d ∈ [al, d] ∨ h0.size ≤ d := Or.inl (by simp)
  refine k_iloadN (pc' := 1) C P d17_0 rfl rfl ?_
  refine k_aloadN (pc' := 2) C P d17_1 rfl rfl rfl ?_
  refine k_arrlen (z := (10 : Int32)) (pc' := 3) C P V d17_2 rfl rfl ?_
  refine k_icY (pc' := 11) C P d17_3 (show ¬ (1 : Int32) = (10 : Int32) by decide) (by decide) (by decide) ?_
  refine k_aloadN (pc' := 12) C P d17_11 rfl rfl rfl ?_
  refine k_iloadN (pc' := 13) C P d17_12 rfl rfl ?_
  refine k_aloadN (pc' := 14) C P d17_13 rfl rfl rfl ?_
  refine k_aastore (J := 1) (g' := (fun i => if i = 1 then Value.ref sx else f i)) (pc' := 15) C P V rfl (V.sto (K1 := "") O (Ins.of_exa ES (C.w 142 rfl))) d17_14 rfl (by decide) (fun i _ => rfl) ge_d sz_d rfl ?_
  intro T79 h79 P79 W79 V79
  have f79_al := F.other W79 (Ne.symm (V.ne_ob F.exa (C.w 24 rfl)))
  have f79_E_sx := Exa.wr W79 ES
  refine k_aloadN (pc' := 16) C P79 d17_15 rfl rfl rfl ?_
  refine k_iloadN (pc' := 17) C P79 d17_16 rfl rfl ?_
  refine k_iconst (z := (1 : Int32)) (pc' := 18) C P79 d17_17 rfl rfl ?_
  refine k_iadd (pc' := 19) C P79 d17_18 rfl ?_
  rw [show ((1 : Int32) + (1 : Int32)) = (2 : Int32) from rfl]
  refine k_putf (pc' := 22) (ty := .int) (v' := (.int (2 : Int32))) C P79 (C.w 100 rfl) Via.refl f79_al 2 rfl (Or.inl (C.w 101 rfl)) (C.w 24 rfl) (by decide) rfl rfl d17_19 ge_al sz_al rfl ?_
  intro T80 h80 P80 W80
  have f80_al : KOb Z h80 al "java/util/ArrayList" layA [(.int md), (.ref d), (.int (2 : Int32))] := f79_al.put (lokA C.hw) 2 rfl W80 rfl
  have f80_d := V79.other W80 (V79.ne_ob f79_al.exa (C.w 24 rfl))
  have f80_E_sx := Exa.wr W80 f79_E_sx
  exact k_retV C P80 d17_22 (by decide) (by decide) ⟨rfl, _, f80_al, f80_d⟩
theorem ef_rmA1_1 (m : MethodId) (x0 : Addr) (x1 : Addr) : entryFrame m #[(.ref x0), (.ref x1)] 2 = mkF m 0 #[.val (.ref x0), .val (.ref x1)] [] := by first | (simp [entryFrame, mkF, argsToLocals, Value.category]; done) | rfl
set_option maxRecDepth 65536 in
set_option maxHeartbeats 40000000 in
theorem rmA1_1 (l : Launch) (Z : State) (a0 : Array Value) (hw : ∀ d ∈ tables_1, d.before a0 Z = true) (h0 : Heap) (n0 : Nat) (Z0 : n0 ≤ h0.size) (al d : Addr) (md : Int32) (kd : ClassId) (f : Nat → Value) (ge_al : n0 ≤ al) (ge_d : n0 ≤ d) (F : KOb Z h0 al "java/util/ArrayList" layA [.int md, .ref d, .int 1]) (V : KVA Z h0 d kd (.object "java/lang/Object") 10 f) (O : Ovr Z kd "java/lang/Object") (sx : Addr) (ES : Exa Z h0 sx "java/lang/String") :
    KCt false l (⟨"java/util/ArrayList", "add", "(Ljava/lang/Object;)Z"⟩ : MethodName) jdk_38_method_25_code 2 (some .boolean) ({ frames := 1, cells := 0, slots := 0, locals := 16 } : Room) Z n0 h0 #[(.ref al), (.ref sx)] [al, d] (fun v h => v = some (.int 1) ∧ ∃ (f' : Nat → Value), KOb Z h al "java/util/ArrayList" layA [.int (md + 1), .ref d, .int 2] ∧ KVA Z h d kd (.object "java/lang/Object") 10 f') := by
  refine k_enter (tbl := tables_1) (a0 := a0) (Ls := #[.val (.ref al), .val (.ref sx)]) (plainFor_of_name pn_16) hw Z0 (fun m => ef_rmA1_1 m al sx) ?_
  intro p e s m below meth c T C P
  have sz_al : al ∈ [al, d] ∨ h0.size ≤ al := Or.inl (by simp)
  have sz_d : d ∈ [al, d] ∨ h0.size ≤ d := Or.inl (by simp)
  refine k_aloadN (pc' := 1) C P d16_0 rfl rfl rfl ?_
  refine k_dup (pc' := 2) C P d16_1 rfl rfl ?_
  refine k_getf (pc' := 5) C P (C.w 119 rfl) (Via.of (C.w 120 rfl)) F 0 rfl rfl d16_2 rfl ?_
  intro T81 P81
  refine k_iconst (z := (1 : Int32)) (pc' := 6) C P81 d16_5 rfl rfl ?_
  refine k_iadd (pc' := 7) C P81 d16_6 rfl ?_
  refine k_putf (pc' := 10) (ty := .int) (v' := (.int (md + (1 : Int32)))) C P81 (C.w 119 rfl) (Via.of (C.w 120 rfl)) F 0 rfl (Or.inl (C.w 32 rfl)) (C.w 24 rfl) (by decide) rfl rfl d16_7 ge_al sz_al rfl ?_
  intro T82 h82 P82 W82
  have f82_al : KOb Z h82 al "java/util/ArrayList" layA [(.int (md + (1 : Int32))), (.ref d), (.int (1 : Int32))] := F.put (lokA C.hw) 0 rfl W82 rfl
  have f82_d := V.other W82 (V.ne_ob F.exa (C.w 24 rfl))
  have f82_E_sx := Exa.wr W82 ES
  refine k_aloadN (pc' := 11) C P82 d16_10 rfl rfl rfl ?_
  refine k_aloadN (pc' := 12) C P82 d16_11 rfl rfl rfl ?_
  refine k_aloadN (pc' := 13) C P82 d16_12 rfl rfl rfl ?_
  refine k_getf (pc' := 16) C P82 (C.w 34 rfl) Via.refl f82_al 1 rfl rfl d16_13 rfl ?_
  intro T83 P83
  refine k_aloadN (pc' := 17) C P83 d16_16 rfl rfl rfl ?_
  refine k_getf (pc' := 20) C P83 (C.w 100 rfl) Via.refl f82_al 2 rfl rfl d16_17 rfl ?_
  intro T84 P84
  refine k_callP (pc' := 23) (cells' := 0) (slots' := 0) (W := 0) C P84 (C.w 121 rfl) (C.w 122 rfl) (C.w 124 rfl) (C.w 123 rfl) (C.w 125 rfl) (C.w 25 rfl) (by decide) (rmA3_1 l Z a0 hw _ n0 P84.size al d (md + (1 : Int32)) kd _ ge_al ge_d f82_al f82_d O sx f82_E_sx) f82_al.exa [(.ref sx), (.ref d), (.int (1 : Int32))] [] rfl (lenOf pd_9 rfl) rfl (Nat.le_of_eq rfl) d16_20 rfl (by decide) (by decide) rfl rfl (by decide) (by decide) (allS sz_al (allS sz_d all0)) rfl ?_
  intro T85 h85 v85 P85 K85 Q85
  obtain ⟨rfl, f', F85, V85⟩ := Q85
  have f85_E_sx := Exa.keep f82_E_sx K85
  show KGo p e below _ T85 m 23 #[.val (.ref al), .val (.ref sx)] []
  refine k_iconst (z := (1 : Int32)) (pc' := 24) C P85 d16_23 rfl rfl ?_
  exact k_retZ (z' := (1 : Int32)) C P85 (by simp) d16_24 rfl (by decide) (by decide) ⟨rfl, _, F85, V85⟩
theorem ef_rmA3_2 (m : MethodId) (x0 : Addr) (x1 : Addr) (x2 : Addr) (x3 : Int32) : entryFrame m #[(.ref x0), (.ref x1), (.ref x2), (.int x3)] 4 = mkF m 0 #[.val (.ref x0), .val (.ref x1), .val (.ref x2), .val (.int x3)] [] := by first | (simp [entryFrame, mkF, argsToLocals, Value.category]; done) | rfl
set_option maxRecDepth 65536 in
set_option maxHeartbeats 40000000 in
theorem rmA3_2 (l : Launch) (Z : State) (a0 : Array Value) (hw : ∀ d ∈ tables_1, d.before a0 Z = true) (h0 : Heap) (n0 : Nat) (Z0 : n0 ≤ h0.size) (al d : Addr) (md : Int32) (kd : ClassId) (f : Nat → Value) (ge_al : n0 ≤ al) (ge_d : n0 ≤ d) (F : KOb Z h0 al "java/util/ArrayList" layA [.int md, .ref d, .int 2]) (V : KVA Z h0 d kd (.object "java/lang/Object") 10 f) (O : Ovr Z kd "java/lang/Object") (sx : Addr) (ES : Exa Z h0 sx "java/lang/String") :
    KCt false l (⟨"java/util/ArrayList", "add", "(Ljava/lang/Object;[Ljava/lang/Object;I)V"⟩ : MethodName) jdk_38_method_24_code 4 none ({ frames := 0, cells := 0, slots := 0, locals := 0 } : Room) Z n0 h0 #[(.ref al), (.ref sx), (.ref d), (.int (2 : Int32))] [al, d] (fun v h => v = none ∧ ∃ (f' : Nat → Value), KOb Z h al "java/util/ArrayList" layA [.int md, .ref d, .int 3] ∧ KVA Z h d kd (.object "java/lang/Object") 10 f') := by
  refine k_enter (tbl := tables_1) (a0 := a0) (Ls := #[.val (.ref al), .val (.ref sx), .val (.ref d), .val (.int (2 : Int32))]) (plainFor_of_name pn_17) hw Z0 (fun m => ef_rmA3_2 m al sx d (2 : Int32)) ?_
  intro p e s m below meth c T C P
  have sz_al : al ∈ [al, d] ∨ h0.size ≤ al := Or.inl (by simp)
  have sz_d : d ∈ [al, d] ∨ h0.size ≤ d := Or.inl (by simp)
  refine k_iloadN (pc' := 1) C P d17_0 rfl rfl ?_
  refine k_aloadN (pc' := 2) C P d17_1 rfl rfl rfl ?_
  refine k_arrlen (z := (10 : Int32)) (pc' := 3) C P V d17_2 rfl rfl ?_
  refine k_icY (pc' := 11) C P d17_3 (show ¬ (2 : Int32) = (10 : Int32) by decide) (by decide) (by decide) ?_
  refine k_aloadN (pc' := 12) C P d17_11 rfl rfl rfl ?_
  refine k_iloadN (pc' := 13) C P d17_12 rfl rfl ?_
  refine k_aloadN (pc' := 14) C P d17_13 rfl rfl rfl ?_
  refine k_aastore (J := 2) (g' := (fun i => if i = 2 then Value.ref sx else f i)) (pc' := 15) C P V rfl (V.sto (K1 := "") O (Ins.of_exa ES (C.w 142 rfl))) d17_14 rfl (by decide) (fun i _ => rfl) ge_d sz_d rfl ?_
  intro T86 h86 P86 W86 V86
  have f86_al := F.other W86 (Ne.symm (V.ne_ob F.exa (C.w 24 rfl)))
  have f86_E_sx := Exa.wr W86 ES
  refine k_aloadN (pc' := 16) C P86 d17_15 rfl rfl rfl ?_
  refine k_iloadN (pc' := 17) C P86 d17_16 rfl rfl ?_
  refine k_iconst (z := (1 : Int32)) (pc' := 18) C P86 d17_17 rfl rfl ?_
  refine k_iadd (pc' := 19) C P86 d17_18 rfl ?_
  rw [show ((2 : Int32) + (1 : Int32)) = (3 : Int32) from rfl]
  refine k_putf (pc' := 22) (ty := .int) (v' := (.int (3 : Int32))) C P86 (C.w 100 rfl) Via.refl f86_al 2 rfl (Or.inl (C.w 101 rfl)) (C.w 24 rfl) (by decide) rfl rfl d17_19 ge_al sz_al rfl ?_
  intro T87 h87 P87 W87
  have f87_al : KOb Z h87 al "java/util/ArrayList" layA [(.int md), (.ref d), (.int (3 : Int32))] := f86_al.put (lokA C.hw) 2 rfl W87 rfl
  have f87_d := V86.other W87 (V86.ne_ob f86_al.exa (C.w 24 rfl))
  have f87_E_sx := Exa.wr W87 f86_E_sx
  exact k_retV C P87 d17_22 (by decide) (by decide) ⟨rfl, _, f87_al, f87_d⟩
theorem ef_rmA1_2 (m : MethodId) (x0 : Addr) (x1 : Addr) : entryFrame m #[(.ref x0), (.ref x1)] 2 = mkF m 0 #[.val (.ref x0), .val (.ref x1)] [] := by first | (simp [entryFrame, mkF, argsToLocals, Value.category]; done) | rfl
set_option maxRecDepth 65536 in
set_option maxHeartbeats 40000000 in
theorem rmA1_2 (l : Launch) (Z : State) (a0 : Array Value) (hw : ∀ d ∈ tables_1, d.before a0 Z = true) (h0 : Heap) (n0 : Nat) (Z0 : n0 ≤ h0.size) (al d : Addr) (md : Int32) (kd : ClassId) (f : Nat → Value) (ge_al : n0 ≤ al) (ge_d : n0 ≤ d) (F : KOb Z h0 al "java/util/ArrayList" layA [.int md, .ref d, .int 2]) (V : KVA Z h0 d kd (.object "java/lang/Object") 10 f) (O : Ovr Z kd "java/lang/Object") (sx : Addr) (ES : Exa Z h0 sx "java/lang/String") :
    KCt false l (⟨"java/util/ArrayList", "add", "(Ljava/lang/Object;)Z"⟩ : MethodName) jdk_38_method_25_code 2 (some .boolean) ({ frames := 1, cells := 0, slots := 0, locals := 16 } : Room) Z n0 h0 #[(.ref al), (.ref sx)] [al, d] (fun v h => v = some (.int 1) ∧ ∃ (f' : Nat → Value), KOb Z h al "java/util/ArrayList" layA [.int (md + 1), .ref d, .int 3] ∧ KVA Z h d kd (.object "java/lang/Object") 10 f') := by
  refine k_enter (tbl := tables_1) (a0 := a0) (Ls := #[.val (.ref al), .val (.ref sx)]) (plainFor_of_name pn_16) hw Z0 (fun m => ef_rmA1_2 m al sx) ?_
  intro p e s m below meth c T C P
  have sz_al : al ∈ [al, d] ∨ h0.size ≤ al := Or.inl (by simp)
  have sz_d : d ∈ [al, d] ∨ h0.size ≤ d := Or.inl (by simp)
  refine k_aloadN (pc' := 1) C P d16_0 rfl rfl rfl ?_
  refine k_dup (pc' := 2) C P d16_1 rfl rfl ?_
  refine k_getf (pc' := 5) C P (C.w 119 rfl) (Via.of (C.w 120 rfl)) F 0 rfl rfl d16_2 rfl ?_
  intro T88 P88
  refine k_iconst (z := (1 : Int32)) (pc' := 6) C P88 d16_5 rfl rfl ?_
  refine k_iadd (pc' := 7) C P88 d16_6 rfl ?_
  refine k_putf (pc' := 10) (ty := .int) (v' := (.int (md + (1 : Int32)))) C P88 (C.w 119 rfl) (Via.of (C.w 120 rfl)) F 0 rfl (Or.inl (C.w 32 rfl)) (C.w 24 rfl) (by decide) rfl rfl d16_7 ge_al sz_al rfl ?_
  intro T89 h89 P89 W89
  have f89_al : KOb Z h89 al "java/util/ArrayList" layA [(.int (md + (1 : Int32))), (.ref d), (.int (2 : Int32))] := F.put (lokA C.hw) 0 rfl W89 rfl
  have f89_d := V.other W89 (V.ne_ob F.exa (C.w 24 rfl))
  have f89_E_sx := Exa.wr W89 ES
  refine k_aloadN (pc' := 11) C P89 d16_10 rfl rfl rfl ?_
  refine k_aloadN (pc' := 12) C P89 d16_11 rfl rfl rfl ?_
  refine k_aloadN (pc' := 13) C P89 d16_12 rfl rfl rfl ?_
  refine k_getf (pc' := 16) C P89 (C.w 34 rfl) Via.refl f89_al 1 rfl rfl d16_13 rfl ?_
  intro T90 P90
  refine k_aloadN (pc' := 17) C P90 d16_16 rfl rfl rfl ?_
  refine k_getf (pc' := 20) C P90 (C.w 100 rfl) Via.refl f89_al 2 rfl rfl d16_17 rfl ?_
  intro T91 P91
  refine k_callP (pc' := 23) (cells' := 0) (slots' := 0) (W := 0) C P91 (C.w 121 rfl) (C.w 122 rfl) (C.w 124 rfl) (C.w 123 rfl) (C.w 125 rfl) (C.w 25 rfl) (by decide) (rmA3_2 l Z a0 hw _ n0 P91.size al d (md + (1 : Int32)) kd _ ge_al ge_d f89_al f89_d O sx f89_E_sx) f89_al.exa [(.ref sx), (.ref d), (.int (2 : Int32))] [] rfl (lenOf pd_9 rfl) rfl (Nat.le_of_eq rfl) d16_20 rfl (by decide) (by decide) rfl rfl (by decide) (by decide) (allS sz_al (allS sz_d all0)) rfl ?_
  intro T92 h92 v92 P92 K92 Q92
  obtain ⟨rfl, f', F92, V92⟩ := Q92
  have f92_E_sx := Exa.keep f89_E_sx K92
  show KGo p e below _ T92 m 23 #[.val (.ref al), .val (.ref sx)] []
  refine k_iconst (z := (1 : Int32)) (pc' := 24) C P92 d16_23 rfl rfl ?_
  exact k_retZ (z' := (1 : Int32)) C P92 (by simp) d16_24 rfl (by decide) (by decide) ⟨rfl, _, F92, V92⟩
theorem pn_13 : plainName "com/example/circular_authority/circularauthority/model/LabelList" = true := by first | (simp [plainName, overriddenIn]; done) | decide +kernel
theorem ef_rmO00 (m : MethodId) (x0 : Addr) (x1 : Addr) : entryFrame m #[(.ref x0), (.ref x1)] 2 = mkF m 0 #[.val (.ref x0), .val (.ref x1)] [] := by first | (simp [entryFrame, mkF, argsToLocals, Value.category]; done) | rfl
set_option maxRecDepth 65536 in
set_option maxHeartbeats 40000000 in
theorem rmO00 (l : Launch) (Z : State) (a0 : Array Value) (hw : ∀ d ∈ tables_1, d.before a0 Z = true) (h0 : Heap) (n0 : Nat) (Z0 : n0 ≤ h0.size) (a al ch : Addr) (kC : ClassId) (N : Nat) (hN : 0 < N) (OC : OvrA Z kC .long "[J") (ge_a : n0 ≤ a) (F : KOb Z h0 a "com/example/circular_authority/circularauthority/model/LabelList" layL [.ref al, .ref ch, .int 0, .int 0]) (ge_ch : n0 ≤ ch) (VC : KVA Z h0 ch kC (.array .long) N (fun _ => .null)) (md : Int32) (ge_al : n0 ≤ al) (sx : Addr) (ES : Exa Z h0 sx "java/lang/String") (ed : Addr) (SD : Sta Z h0 "java/util/ArrayList" "DEFAULTCAPACITY_EMPTY_ELEMENTDATA" "[Ljava/lang/Object;" (.ref ed)) (kE : ClassId) (fE : Nat → Value) (VE : KVA Z h0 ed kE (.object "java/lang/Object") 0 fE) (FA : KOb Z h0 al "java/util/ArrayList" layA [.int md, .ref ed, .int 0]) :
    KCt false l (⟨"com/example/circular_authority/circularauthority/model/LabelList", "addOther", "(Ljava/lang/CharSequence;)V"⟩ : MethodName) prog_44_method_5_code 2 none ({ frames := 5, cells := 2, slots := 32778, locals := 80 } : Room) Z n0 h0 #[(.ref a), (.ref sx)] [a, ch, al] (fun v h => v = none ∧ (∃ (w1 : Addr) (kw : ClassId), n0 ≤ w1 ∧ h0.size ≤ w1 ∧ KOb Z h a "com/example/circular_authority/circularauthority/model/LabelList" layL [.ref al, .ref ch, .int 1, .int 0] ∧ KVA Z h ch kC (.array .long) N (fun j => if j = 0 then Value.ref w1 else Value.null) ∧ KVA Z h w1 kw .long 32768 (fun j => if j = 0 then .long ((-1 : Int64) - ((0 : Int32).toInt64)) else .long 0)) ∧ (∃ (d : Addr) (kd : ClassId) (f' : Nat → Value), n0 ≤ d ∧ h0.size ≤ d ∧ KOb Z h al "java/util/ArrayList" layA [.int (md + 1), .ref d, .int 1] ∧ KVA Z h d kd (.object "java/lang/Object") 10 f' ∧ Ovr Z kd "java/lang/Object")) := by
  refine k_enter (tbl := tables_1) (a0 := a0) (Ls := #[.val (.ref a), .val (.ref sx)]) (plainFor_of_name pn_13) hw Z0 (fun m => ef_rmO00 m a sx) ?_
  intro p e s m below meth c T C P
  have sz_a : a ∈ [a, ch, al] ∨ h0.size ≤ a := Or.inl (by simp)
  have sz_ch : ch ∈ [a, ch, al] ∨ h0.size ≤ ch := Or.inl (by simp)
  have sz_al : al ∈ [a, ch, al] ∨ h0.size ≤ al := Or.inl (by simp)
  refine k_aloadN (pc' := 1) C P d13_0 rfl rfl rfl ?_
  refine k_ldc2L (pc' := 4) C P (C.w 90 rfl) d13_1 rfl ?_
  refine k_aloadN (pc' := 5) C P d13_4 rfl rfl rfl ?_
  refine k_getf (pc' := 8) C P (C.w 36 rfl) Via.refl F 0 rfl rfl d13_5 rfl ?_
  intro T93 P93
  refine k_callI (pc' := 13) (cells' := 0) (slots' := 0) (W := 3) C P93 (C.w 91 rfl) (C.w 92 rfl) (C.w 93 rfl) (C.w 94 rfl) (C.w 95 rfl) (C.w 96 rfl) (C.w 97 rfl) (C.w 98 rfl) (C.w 99 rfl) (C.w 25 rfl) (by decide) (rmSz l Z a0 hw _ n0 P93.size al ed md (0 : Int32) FA) FA.exa [] [(.long (-1 : Int64)), (.ref a)] rfl (lenOf pd_10 rfl) rfl (Nat.le_of_eq rfl) d13_8 rfl (by decide) (by decide) rfl rfl (by decide) (by decide) all0 rfl ?_
  intro T94 h94 v94 P94 K94 Q94
  obtain ⟨e94, g94⟩ := Q94
  subst g94
  subst e94
  show KGo p e below _ T94 m 13 #[.val (.ref a), .val (.ref sx)] [(.int (0 : Int32)), (.long (-1 : Int64)), (.ref a)]
  refine k_i2l (pc' := 14) C P94 d13_13 rfl ?_
  refine k_lsub (pc' := 15) C P94 d13_14 rfl ?_
  refine k_callP (pc' := 18) (cells' := 1) (slots' := 32768) (W := 0) C P94 (C.w 76 rfl) (C.w 77 rfl) (k_selP (C.w 1 rfl) (C.w 78 rfl) (C.w 77 rfl) (by decide)) (C.w 78 rfl) (C.w 79 rfl) (C.w 2 rfl) (by decide) (rmE0 l Z a0 hw _ n0 P94.size a al ch kC N hN OC ge_a F ge_ch VC ((-1 : Int64) - ((0 : Int32).toInt64))) F.exa [(.long ((-1 : Int64) - ((0 : Int32).toInt64)))] [] rfl (lenOf pd_5 rfl) rfl (Nat.le_of_eq rfl) d13_15 rfl (by decide) (by decide) rfl rfl (by decide) (by decide) (allS sz_a (allS sz_ch all0)) rfl ?_
  intro T95 h95 v95 P95 K95 Q95
  obtain ⟨rfl, w1, kw, gw95, zw95, F95, VC95, VW95⟩ := Q95
  have f95_al := FA.keep K95 (ninS (Exa.ne FA.exa F.exa (by decide)) (ninS (Ne.symm (VC.ne_ob FA.exa (C.w 24 rfl))) nin0))
  have f95_S_DEFAULTCAPACITY_EMPTY_ELEMENTDATA := k_staKeep SD K95 (k_nsS F.ns (k_nsS VC.ns k_ns0))
  have f95_ed := VE.keep K95 (ninS (VE.ne_ob F.exa (C.w 1 rfl)) (ninS (KVA.neT VE VC nofun) nin0))
  have f95_E_sx := Exa.keep ES K95
  show KGo p e below _ T95 m 18 #[.val (.ref a), .val (.ref sx)] []
  refine k_aloadN (pc' := 19) C P95 d13_18 rfl rfl rfl ?_
  refine k_getf (pc' := 22) C P95 (C.w 36 rfl) Via.refl F95 0 rfl rfl d13_19 rfl ?_
  intro T96 P96
  refine k_aloadN (pc' := 23) C P96 d13_22 rfl rfl rfl ?_
  refine k_callI (pc' := 28) (cells' := 1) (slots' := 32768) (W := 1) C P96 (C.w 102 rfl) (C.w 103 rfl) (C.w 104 rfl) (C.w 105 rfl) (C.w 106 rfl) (C.w 107 rfl) (C.w 108 rfl) (C.w 109 rfl) (C.w 110 rfl) (C.w 49 rfl) (by decide) (rmTS l Z a0 hw _ n0 P96.size sx) f95_E_sx [] [(.ref al)] rfl (lenOf pd_11 rfl) rfl (Nat.le_of_eq rfl) d13_23 rfl (by decide) (by decide) rfl rfl (by decide) (by decide) all0 rfl ?_
  intro T97 h97 v97 P97 K97 Q97
  obtain ⟨e97, g97⟩ := Q97
  subst g97
  subst e97
  show KGo p e below _ T97 m 28 #[.val (.ref a), .val (.ref sx)] [(.ref sx), (.ref al)]
  refine k_callI (pc' := 33) (cells' := 2) (slots' := 32778) (W := 0) C P97 (C.w 111 rfl) (C.w 112 rfl) (C.w 113 rfl) (C.w 114 rfl) (C.w 115 rfl) (C.w 116 rfl) (C.w 117 rfl) (C.w 98 rfl) (C.w 118 rfl) (C.w 25 rfl) (by decide) (rmA1_0 l Z a0 hw _ n0 P97.size al md ed f95_S_DEFAULTCAPACITY_EMPTY_ELEMENTDATA ge_al f95_al kE fE f95_ed sx f95_E_sx) f95_al.exa [(.ref sx)] [] rfl (lenOf pd_12 rfl) rfl (Nat.le_of_eq rfl) d13_28 rfl (by decide) (by decide) rfl rfl (by decide) (by decide) (allS sz_al all0) rfl ?_
  intro T98 h98 v98 P98 K98 Q98
  obtain ⟨rfl, d, kd, f', gd98, zd98, F98, V98, O98⟩ := Q98
  have f98_S_DEFAULTCAPACITY_EMPTY_ELEMENTDATA := k_staKeep f95_S_DEFAULTCAPACITY_EMPTY_ELEMENTDATA K98 (k_nsS f95_al.ns k_ns0)
  have f98_ed := f95_ed.keep K98 (ninS (f95_ed.ne_ob f95_al.exa (C.w 24 rfl)) nin0)
  have f98_E_sx := Exa.keep f95_E_sx K98
  have f98_a := F95.keep K98 (ninS (Exa.ne F95.exa f95_al.exa (by decide)) nin0)
  have f98_ch := VC95.keep K98 (ninS (VC95.ne_ob f95_al.exa (C.w 24 rfl)) nin0)
  have f98_w1 := VW95.keep K98 (ninS (VW95.ne_ob f95_al.exa (C.w 24 rfl)) nin0)
  show KGo p e below _ T98 m 33 #[.val (.ref a), .val (.ref sx)] [(.int (1 : Int32))]
  refine k_pop (pc' := 34) C P98 d13_33 rfl rfl ?_
  exact k_retV C P98 d13_34 (by decide) (by decide) ⟨rfl, ⟨w1, kw, gw95, Nat.le_trans P94.kept.1 zw95, f98_a, f98_ch, f98_w1⟩, ⟨d, _, _, gd98, Nat.le_trans P97.kept.1 zd98, F98, V98, O98⟩⟩
theorem ef_rmO10 (m : MethodId) (x0 : Addr) (x1 : Addr) : entryFrame m #[(.ref x0), (.ref x1)] 2 = mkF m 0 #[.val (.ref x0), .val (.ref x1)] [] := by first | (simp [entryFrame, mkF, argsToLocals, Value.category]; done) | rfl
set_option maxRecDepth 65536 in
set_option maxHeartbeats 40000000 in
theorem rmO10 (l : Launch) (Z : State) (a0 : Array Value) (hw : ∀ d ∈ tables_1, d.before a0 Z = true) (h0 : Heap) (n0 : Nat) (Z0 : n0 ≤ h0.size) (a al ch : Addr) (kC : ClassId) (N : Nat) (hN : 0 < N) (OC : OvrA Z kC .long "[J") (ge_a : n0 ≤ a) (F : KOb Z h0 a "com/example/circular_authority/circularauthority/model/LabelList" layL [.ref al, .ref ch, .int 1, .int 0]) (w1 : Addr) (kw : ClassId) (f : Nat → Value) (ge_w1 : n0 ≤ w1) (VC : KVA Z h0 ch kC (.array .long) N (fun j => if j = 0 then Value.ref w1 else Value.null)) (VW : KVA Z h0 w1 kw .long 32768 f) (md : Int32) (ge_al : n0 ≤ al) (sx : Addr) (ES : Exa Z h0 sx "java/lang/String") (ed : Addr) (SD : Sta Z h0 "java/util/ArrayList" "DEFAULTCAPACITY_EMPTY_ELEMENTDATA" "[Ljava/lang/Object;" (.ref ed)) (kE : ClassId) (fE : Nat → Value) (VE : KVA Z h0 ed kE (.object "java/lang/Object") 0 fE) (FA : KOb Z h0 al "java/util/ArrayList" layA [.int md, .ref ed, .int 0]) :
    KCt false l (⟨"com/example/circular_authority/circularauthority/model/LabelList", "addOther", "(Ljava/lang/CharSequence;)V"⟩ : MethodName) prog_44_method_5_code 2 none ({ frames := 5, cells := 1, slots := 10, locals := 80 } : Room) Z n0 h0 #[(.ref a), (.ref sx)] [a, w1, al] (fun v h => v = none ∧ (KOb Z h a "com/example/circular_authority/circularauthority/model/LabelList" layL [.ref al, .ref ch, .int 2, .int 0] ∧ KVA Z h w1 kw .long 32768 (fun j => if j = 1 then .long ((-1 : Int64) - ((0 : Int32).toInt64)) else f j)) ∧ (∃ (d : Addr) (kd : ClassId) (f' : Nat → Value), n0 ≤ d ∧ h0.size ≤ d ∧ KOb Z h al "java/util/ArrayList" layA [.int (md + 1), .ref d, .int 1] ∧ KVA Z h d kd (.object "java/lang/Object") 10 f' ∧ Ovr Z kd "java/lang/Object")) := by
  refine k_enter (tbl := tables_1) (a0 := a0) (Ls := #[.val (.ref a), .val (.ref sx)]) (plainFor_of_name pn_13) hw Z0 (fun m => ef_rmO10 m a sx) ?_
  intro p e s m below meth c T C P
  have sz_a : a ∈ [a, w1, al] ∨ h0.size ≤ a := Or.inl (by simp)
  have sz_w1 : w1 ∈ [a, w1, al] ∨ h0.size ≤ w1 := Or.inl (by simp)
  have sz_al : al ∈ [a, w1, al] ∨ h0.size ≤ al := Or.inl (by simp)
  refine k_aloadN (pc' := 1) C P d13_0 rfl rfl rfl ?_
  refine k_ldc2L (pc' := 4) C P (C.w 90 rfl) d13_1 rfl ?_
  refine k_aloadN (pc' := 5) C P d13_4 rfl rfl rfl ?_
  refine k_getf (pc' := 8) C P (C.w 36 rfl) Via.refl F 0 rfl rfl d13_5 rfl ?_
  intro T99 P99
  refine k_callI (pc' := 13) (cells' := 0) (slots' := 0) (W := 3) C P99 (C.w 91 rfl) (C.w 92 rfl) (C.w 93 rfl) (C.w 94 rfl) (C.w 95 rfl) (C.w 96 rfl) (C.w 97 rfl) (C.w 98 rfl) (C.w 99 rfl) (C.w 25 rfl) (by decide) (rmSz l Z a0 hw _ n0 P99.size al ed md (0 : Int32) FA) FA.exa [] [(.long (-1 : Int64)), (.ref a)] rfl (lenOf pd_10 rfl) rfl (Nat.le_of_eq rfl) d13_8 rfl (by decide) (by decide) rfl rfl (by decide) (by decide) all0 rfl ?_
  intro T100 h100 v100 P100 K100 Q100
  obtain ⟨e100, g100⟩ := Q100
  subst g100
  subst e100
  show KGo p e below _ T100 m 13 #[.val (.ref a), .val (.ref sx)] [(.int (0 : Int32)), (.long (-1 : Int64)), (.ref a)]
  refine k_i2l (pc' := 14) C P100 d13_13 rfl ?_
  refine k_lsub (pc' := 15) C P100 d13_14 rfl ?_
  refine k_callP (pc' := 18) (cells' := 0) (slots' := 0) (W := 0) C P100 (C.w 76 rfl) (C.w 77 rfl) (k_selP (C.w 1 rfl) (C.w 78 rfl) (C.w 77 rfl) (by decide)) (C.w 78 rfl) (C.w 79 rfl) (C.w 2 rfl) (by decide) (rmE1 l Z a0 hw _ n0 P100.size a al ch kC N hN OC ge_a F w1 kw f ge_w1 VC VW ((-1 : Int64) - ((0 : Int32).toInt64))) F.exa [(.long ((-1 : Int64) - ((0 : Int32).toInt64)))] [] rfl (lenOf pd_5 rfl) rfl (Nat.le_of_eq rfl) d13_15 rfl (by decide) (by decide) rfl rfl (by decide) (by decide) (allS sz_a (allS sz_w1 all0)) rfl ?_
  intro T101 h101 v101 P101 K101 Q101
  obtain ⟨rfl, F101, VW101⟩ := Q101
  have f101_ch := VC.keep K101 (ninS (VC.ne_ob F.exa (C.w 1 rfl)) (ninS (KVA.neT VC VW nofun) nin0))
  have f101_al := FA.keep K101 (ninS (Exa.ne FA.exa F.exa (by decide)) (ninS (Ne.symm (VW.ne_ob FA.exa (C.w 24 rfl))) nin0))
  have f101_S_DEFAULTCAPACITY_EMPTY_ELEMENTDATA := k_staKeep SD K101 (k_nsS F.ns (k_nsS VW.ns k_ns0))
  have f101_ed := VE.keep K101 (ninS (VE.ne_ob F.exa (C.w 1 rfl)) (ninS (KVA.neT VE VW nofun) nin0))
  have f101_E_sx := Exa.keep ES K101
  show KGo p e below _ T101 m 18 #[.val (.ref a), .val (.ref sx)] []
  refine k_aloadN (pc' := 19) C P101 d13_18 rfl rfl rfl ?_
  refine k_getf (pc' := 22) C P101 (C.w 36 rfl) Via.refl F101 0 rfl rfl d13_19 rfl ?_
  intro T102 P102
  refine k_aloadN (pc' := 23) C P102 d13_22 rfl rfl rfl ?_
  refine k_callI (pc' := 28) (cells' := 0) (slots' := 0) (W := 1) C P102 (C.w 102 rfl) (C.w 103 rfl) (C.w 104 rfl) (C.w 105 rfl) (C.w 106 rfl) (C.w 107 rfl) (C.w 108 rfl) (C.w 109 rfl) (C.w 110 rfl) (C.w 49 rfl) (by decide) (rmTS l Z a0 hw _ n0 P102.size sx) f101_E_sx [] [(.ref al)] rfl (lenOf pd_11 rfl) rfl (Nat.le_of_eq rfl) d13_23 rfl (by decide) (by decide) rfl rfl (by decide) (by decide) all0 rfl ?_
  intro T103 h103 v103 P103 K103 Q103
  obtain ⟨e103, g103⟩ := Q103
  subst g103
  subst e103
  show KGo p e below _ T103 m 28 #[.val (.ref a), .val (.ref sx)] [(.ref sx), (.ref al)]
  refine k_callI (pc' := 33) (cells' := 1) (slots' := 10) (W := 0) C P103 (C.w 111 rfl) (C.w 112 rfl) (C.w 113 rfl) (C.w 114 rfl) (C.w 115 rfl) (C.w 116 rfl) (C.w 117 rfl) (C.w 98 rfl) (C.w 118 rfl) (C.w 25 rfl) (by decide) (rmA1_0 l Z a0 hw _ n0 P103.size al md ed f101_S_DEFAULTCAPACITY_EMPTY_ELEMENTDATA ge_al f101_al kE fE f101_ed sx f101_E_sx) f101_al.exa [(.ref sx)] [] rfl (lenOf pd_12 rfl) rfl (Nat.le_of_eq rfl) d13_28 rfl (by decide) (by decide) rfl rfl (by decide) (by decide) (allS sz_al all0) rfl ?_
  intro T104 h104 v104 P104 K104 Q104
  obtain ⟨rfl, d, kd, f', gd104, zd104, F104, V104, O104⟩ := Q104
  have f104_ch := f101_ch.keep K104 (ninS (f101_ch.ne_ob f101_al.exa (C.w 24 rfl)) nin0)
  have f104_S_DEFAULTCAPACITY_EMPTY_ELEMENTDATA := k_staKeep f101_S_DEFAULTCAPACITY_EMPTY_ELEMENTDATA K104 (k_nsS f101_al.ns k_ns0)
  have f104_ed := f101_ed.keep K104 (ninS (f101_ed.ne_ob f101_al.exa (C.w 24 rfl)) nin0)
  have f104_E_sx := Exa.keep f101_E_sx K104
  have f104_a := F101.keep K104 (ninS (Exa.ne F101.exa f101_al.exa (by decide)) nin0)
  have f104_w1 := VW101.keep K104 (ninS (VW101.ne_ob f101_al.exa (C.w 24 rfl)) nin0)
  show KGo p e below _ T104 m 33 #[.val (.ref a), .val (.ref sx)] [(.int (1 : Int32))]
  refine k_pop (pc' := 34) C P104 d13_33 rfl rfl ?_
  exact k_retV C P104 d13_34 (by decide) (by decide) ⟨rfl, ⟨f104_a, f104_w1⟩, ⟨d, _, _, gd104, Nat.le_trans P103.kept.1 zd104, F104, V104, O104⟩⟩
theorem ef_rmO11 (m : MethodId) (x0 : Addr) (x1 : Addr) : entryFrame m #[(.ref x0), (.ref x1)] 2 = mkF m 0 #[.val (.ref x0), .val (.ref x1)] [] := by first | (simp [entryFrame, mkF, argsToLocals, Value.category]; done) | rfl
set_option maxRecDepth 65536 in
set_option maxHeartbeats 40000000 in
theorem rmO11 (l : Launch) (Z : State) (a0 : Array Value) (hw : ∀ d ∈ tables_1, d.before a0 Z = true) (h0 : Heap) (n0 : Nat) (Z0 : n0 ≤ h0.size) (a al ch : Addr) (kC : ClassId) (N : Nat) (hN : 0 < N) (OC : OvrA Z kC .long "[J") (ge_a : n0 ≤ a) (F : KOb Z h0 a "com/example/circular_authority/circularauthority/model/LabelList" layL [.ref al, .ref ch, .int 1, .int 0]) (w1 : Addr) (kw : ClassId) (f : Nat → Value) (ge_w1 : n0 ≤ w1) (VC : KVA Z h0 ch kC (.array .long) N (fun j => if j = 0 then Value.ref w1 else Value.null)) (VW : KVA Z h0 w1 kw .long 32768 f) (md : Int32) (ge_al : n0 ≤ al) (sx : Addr) (ES : Exa Z h0 sx "java/lang/String") (d : Addr) (kd : ClassId) (fd : Nat → Value) (ge_d : n0 ≤ d) (VD : KVA Z h0 d kd (.object "java/lang/Object") 10 fd) (OD : Ovr Z kd "java/lang/Object") (FA : KOb Z h0 al "java/util/ArrayList" layA [.int md, .ref d, .int 1]) :
    KCt false l (⟨"com/example/circular_authority/circularauthority/model/LabelList", "addOther", "(Ljava/lang/CharSequence;)V"⟩ : MethodName) prog_44_method_5_code 2 none ({ frames := 5, cells := 0, slots := 0, locals := 80 } : Room) Z n0 h0 #[(.ref a), (.ref sx)] [a, w1, al, d] (fun v h => v = none ∧ (KOb Z h a "com/example/circular_authority/circularauthority/model/LabelList" layL [.ref al, .ref ch, .int 2, .int 0] ∧ KVA Z h w1 kw .long 32768 (fun j => if j = 1 then .long ((-1 : Int64) - ((1 : Int32).toInt64)) else f j)) ∧ (∃ (f' : Nat → Value), KOb Z h al "java/util/ArrayList" layA [.int (md + 1), .ref d, .int 2] ∧ KVA Z h d kd (.object "java/lang/Object") 10 f')) := by
  refine k_enter (tbl := tables_1) (a0 := a0) (Ls := #[.val (.ref a), .val (.ref sx)]) (plainFor_of_name pn_13) hw Z0 (fun m => ef_rmO11 m a sx) ?_
  intro p e s m below meth c T C P
  have sz_a : a ∈ [a, w1, al, d] ∨ h0.size ≤ a := Or.inl (by simp)
  have sz_w1 : w1 ∈ [a, w1, al, d] ∨ h0.size ≤ w1 := Or.inl (by simp)
  have sz_al : al ∈ [a, w1, al, d] ∨ h0.size ≤ al := Or.inl (by simp)
  have sz_d : d ∈ [a, w1, al, d] ∨ h0.size ≤ d := Or.inl (by simp)
  refine k_aloadN (pc' := 1) C P d13_0 rfl rfl rfl ?_
  refine k_ldc2L (pc' := 4) C P (C.w 90 rfl) d13_1 rfl ?_
  refine k_aloadN (pc' := 5) C P d13_4 rfl rfl rfl ?_
  refine k_getf (pc' := 8) C P (C.w 36 rfl) Via.refl F 0 rfl rfl d13_5 rfl ?_
  intro T105 P105
  refine k_callI (pc' := 13) (cells' := 0) (slots' := 0) (W := 3) C P105 (C.w 91 rfl) (C.w 92 rfl) (C.w 93 rfl) (C.w 94 rfl) (C.w 95 rfl) (C.w 96 rfl) (C.w 97 rfl) (C.w 98 rfl) (C.w 99 rfl) (C.w 25 rfl) (by decide) (rmSz l Z a0 hw _ n0 P105.size al d md (1 : Int32) FA) FA.exa [] [(.long (-1 : Int64)), (.ref a)] rfl (lenOf pd_10 rfl) rfl (Nat.le_of_eq rfl) d13_8 rfl (by decide) (by decide) rfl rfl (by decide) (by decide) all0 rfl ?_
  intro T106 h106 v106 P106 K106 Q106
  obtain ⟨e106, g106⟩ := Q106
  subst g106
  subst e106
  show KGo p e below _ T106 m 13 #[.val (.ref a), .val (.ref sx)] [(.int (1 : Int32)), (.long (-1 : Int64)), (.ref a)]
  refine k_i2l (pc' := 14) C P106 d13_13 rfl ?_
  refine k_lsub (pc' := 15) C P106 d13_14 rfl ?_
  refine k_callP (pc' := 18) (cells' := 0) (slots' := 0) (W := 0) C P106 (C.w 76 rfl) (C.w 77 rfl) (k_selP (C.w 1 rfl) (C.w 78 rfl) (C.w 77 rfl) (by decide)) (C.w 78 rfl) (C.w 79 rfl) (C.w 2 rfl) (by decide) (rmE1 l Z a0 hw _ n0 P106.size a al ch kC N hN OC ge_a F w1 kw f ge_w1 VC VW ((-1 : Int64) - ((1 : Int32).toInt64))) F.exa [(.long ((-1 : Int64) - ((1 : Int32).toInt64)))] [] rfl (lenOf pd_5 rfl) rfl (Nat.le_of_eq rfl) d13_15 rfl (by decide) (by decide) rfl rfl (by decide) (by decide) (allS sz_a (allS sz_w1 all0)) rfl ?_
  intro T107 h107 v107 P107 K107 Q107
  obtain ⟨rfl, F107, VW107⟩ := Q107
  have f107_ch := VC.keep K107 (ninS (VC.ne_ob F.exa (C.w 1 rfl)) (ninS (KVA.neT VC VW nofun) nin0))
  have f107_al := FA.keep K107 (ninS (Exa.ne FA.exa F.exa (by decide)) (ninS (Ne.symm (VW.ne_ob FA.exa (C.w 24 rfl))) nin0))
  have f107_d := VD.keep K107 (ninS (VD.ne_ob F.exa (C.w 1 rfl)) (ninS (KVA.neT VD VW nofun) nin0))
  have f107_E_sx := Exa.keep ES K107
  show KGo p e below _ T107 m 18 #[.val (.ref a), .val (.ref sx)] []
  refine k_aloadN (pc' := 19) C P107 d13_18 rfl rfl rfl ?_
  refine k_getf (pc' := 22) C P107 (C.w 36 rfl) Via.refl F107 0 rfl rfl d13_19 rfl ?_
  intro T108 P108
  refine k_aloadN (pc' := 23) C P108 d13_22 rfl rfl rfl ?_
  refine k_callI (pc' := 28) (cells' := 0) (slots' := 0) (W := 1) C P108 (C.w 102 rfl) (C.w 103 rfl) (C.w 104 rfl) (C.w 105 rfl) (C.w 106 rfl) (C.w 107 rfl) (C.w 108 rfl) (C.w 109 rfl) (C.w 110 rfl) (C.w 49 rfl) (by decide) (rmTS l Z a0 hw _ n0 P108.size sx) f107_E_sx [] [(.ref al)] rfl (lenOf pd_11 rfl) rfl (Nat.le_of_eq rfl) d13_23 rfl (by decide) (by decide) rfl rfl (by decide) (by decide) all0 rfl ?_
  intro T109 h109 v109 P109 K109 Q109
  obtain ⟨e109, g109⟩ := Q109
  subst g109
  subst e109
  show KGo p e below _ T109 m 28 #[.val (.ref a), .val (.ref sx)] [(.ref sx), (.ref al)]
  refine k_callI (pc' := 33) (cells' := 0) (slots' := 0) (W := 0) C P109 (C.w 111 rfl) (C.w 112 rfl) (C.w 113 rfl) (C.w 114 rfl) (C.w 115 rfl) (C.w 116 rfl) (C.w 117 rfl) (C.w 98 rfl) (C.w 118 rfl) (C.w 25 rfl) (by decide) (rmA1_1 l Z a0 hw _ n0 P109.size al d md kd _ ge_al ge_d f107_al f107_d OD sx f107_E_sx) f107_al.exa [(.ref sx)] [] rfl (lenOf pd_12 rfl) rfl (Nat.le_of_eq rfl) d13_28 rfl (by decide) (by decide) rfl rfl (by decide) (by decide) (allS sz_al (allS sz_d all0)) rfl ?_
  intro T110 h110 v110 P110 K110 Q110
  obtain ⟨rfl, f', F110, V110⟩ := Q110
  have f110_ch := f107_ch.keep K110 (ninS (f107_ch.ne_ob f107_al.exa (C.w 24 rfl)) (ninS (KVA.neT f107_ch f107_d nofun) nin0))
  have f110_E_sx := Exa.keep f107_E_sx K110
  have f110_a := F107.keep K110 (ninS (Exa.ne F107.exa f107_al.exa (by decide)) (ninS (Ne.symm (f107_d.ne_ob F107.exa (C.w 1 rfl))) nin0))
  have f110_w1 := VW107.keep K110 (ninS (VW107.ne_ob f107_al.exa (C.w 24 rfl)) (ninS (KVA.neT VW107 f107_d nofun) nin0))
  show KGo p e below _ T110 m 33 #[.val (.ref a), .val (.ref sx)] [(.int (1 : Int32))]
  refine k_pop (pc' := 34) C P110 d13_33 rfl rfl ?_
  exact k_retV C P110 d13_34 (by decide) (by decide) ⟨rfl, ⟨f110_a, f110_w1⟩, ⟨_, F110, V110⟩⟩
theorem ef_rmO20 (m : MethodId) (x0 : Addr) (x1 : Addr) : entryFrame m #[(.ref x0), (.ref x1)] 2 = mkF m 0 #[.val (.ref x0), .val (.ref x1)] [] := by first | (simp [entryFrame, mkF, argsToLocals, Value.category]; done) | rfl
set_option maxRecDepth 65536 in
set_option maxHeartbeats 40000000 in
theorem rmO20 (l : Launch) (Z : State) (a0 : Array Value) (hw : ∀ d ∈ tables_1, d.before a0 Z = true) (h0 : Heap) (n0 : Nat) (Z0 : n0 ≤ h0.size) (a al ch : Addr) (kC : ClassId) (N : Nat) (hN : 0 < N) (OC : OvrA Z kC .long "[J") (ge_a : n0 ≤ a) (F : KOb Z h0 a "com/example/circular_authority/circularauthority/model/LabelList" layL [.ref al, .ref ch, .int 2, .int 0]) (w1 : Addr) (kw : ClassId) (f : Nat → Value) (ge_w1 : n0 ≤ w1) (VC : KVA Z h0 ch kC (.array .long) N (fun j => if j = 0 then Value.ref w1 else Value.null)) (VW : KVA Z h0 w1 kw .long 32768 f) (md : Int32) (ge_al : n0 ≤ al) (sx : Addr) (ES : Exa Z h0 sx "java/lang/String") (ed : Addr) (SD : Sta Z h0 "java/util/ArrayList" "DEFAULTCAPACITY_EMPTY_ELEMENTDATA" "[Ljava/lang/Object;" (.ref ed)) (kE : ClassId) (fE : Nat → Value) (VE : KVA Z h0 ed kE (.object "java/lang/Object") 0 fE) (FA : KOb Z h0 al "java/util/ArrayList" layA [.int md, .ref ed, .int 0]) :
    KCt false l (⟨"com/example/circular_authority/circularauthority/model/LabelList", "addOther", "(Ljava/lang/CharSequence;)V"⟩ : MethodName) prog_44_method_5_code 2 none ({ frames := 5, cells := 1, slots := 10, locals := 80 } : Room) Z n0 h0 #[(.ref a), (.ref sx)] [a, w1, al] (fun v h => v = none ∧ (KOb Z h a "com/example/circular_authority/circularauthority/model/LabelList" layL [.ref al, .ref ch, .int 3, .int 0] ∧ KVA Z h w1 kw .long 32768 (fun j => if j = 2 then .long ((-1 : Int64) - ((0 : Int32).toInt64)) else f j)) ∧ (∃ (d : Addr) (kd : ClassId) (f' : Nat → Value), n0 ≤ d ∧ h0.size ≤ d ∧ KOb Z h al "java/util/ArrayList" layA [.int (md + 1), .ref d, .int 1] ∧ KVA Z h d kd (.object "java/lang/Object") 10 f' ∧ Ovr Z kd "java/lang/Object")) := by
  refine k_enter (tbl := tables_1) (a0 := a0) (Ls := #[.val (.ref a), .val (.ref sx)]) (plainFor_of_name pn_13) hw Z0 (fun m => ef_rmO20 m a sx) ?_
  intro p e s m below meth c T C P
  have sz_a : a ∈ [a, w1, al] ∨ h0.size ≤ a := Or.inl (by simp)
  have sz_w1 : w1 ∈ [a, w1, al] ∨ h0.size ≤ w1 := Or.inl (by simp)
  have sz_al : al ∈ [a, w1, al] ∨ h0.size ≤ al := Or.inl (by simp)
  refine k_aloadN (pc' := 1) C P d13_0 rfl rfl rfl ?_
  refine k_ldc2L (pc' := 4) C P (C.w 90 rfl) d13_1 rfl ?_
  refine k_aloadN (pc' := 5) C P d13_4 rfl rfl rfl ?_
  refine k_getf (pc' := 8) C P (C.w 36 rfl) Via.refl F 0 rfl rfl d13_5 rfl ?_
  intro T111 P111
  refine k_callI (pc' := 13) (cells' := 0) (slots' := 0) (W := 3) C P111 (C.w 91 rfl) (C.w 92 rfl) (C.w 93 rfl) (C.w 94 rfl) (C.w 95 rfl) (C.w 96 rfl) (C.w 97 rfl) (C.w 98 rfl) (C.w 99 rfl) (C.w 25 rfl) (by decide) (rmSz l Z a0 hw _ n0 P111.size al ed md (0 : Int32) FA) FA.exa [] [(.long (-1 : Int64)), (.ref a)] rfl (lenOf pd_10 rfl) rfl (Nat.le_of_eq rfl) d13_8 rfl (by decide) (by decide) rfl rfl (by decide) (by decide) all0 rfl ?_
  intro T112 h112 v112 P112 K112 Q112
  obtain ⟨e112, g112⟩ := Q112
  subst g112
  subst e112
  show KGo p e below _ T112 m 13 #[.val (.ref a), .val (.ref sx)] [(.int (0 : Int32)), (.long (-1 : Int64)), (.ref a)]
  refine k_i2l (pc' := 14) C P112 d13_13 rfl ?_
  refine k_lsub (pc' := 15) C P112 d13_14 rfl ?_
  refine k_callP (pc' := 18) (cells' := 0) (slots' := 0) (W := 0) C P112 (C.w 76 rfl) (C.w 77 rfl) (k_selP (C.w 1 rfl) (C.w 78 rfl) (C.w 77 rfl) (by decide)) (C.w 78 rfl) (C.w 79 rfl) (C.w 2 rfl) (by decide) (rmE2 l Z a0 hw _ n0 P112.size a al ch kC N hN OC ge_a F w1 kw f ge_w1 VC VW ((-1 : Int64) - ((0 : Int32).toInt64))) F.exa [(.long ((-1 : Int64) - ((0 : Int32).toInt64)))] [] rfl (lenOf pd_5 rfl) rfl (Nat.le_of_eq rfl) d13_15 rfl (by decide) (by decide) rfl rfl (by decide) (by decide) (allS sz_a (allS sz_w1 all0)) rfl ?_
  intro T113 h113 v113 P113 K113 Q113
  obtain ⟨rfl, F113, VW113⟩ := Q113
  have f113_ch := VC.keep K113 (ninS (VC.ne_ob F.exa (C.w 1 rfl)) (ninS (KVA.neT VC VW nofun) nin0))
  have f113_al := FA.keep K113 (ninS (Exa.ne FA.exa F.exa (by decide)) (ninS (Ne.symm (VW.ne_ob FA.exa (C.w 24 rfl))) nin0))
  have f113_S_DEFAULTCAPACITY_EMPTY_ELEMENTDATA := k_staKeep SD K113 (k_nsS F.ns (k_nsS VW.ns k_ns0))
  have f113_ed := VE.keep K113 (ninS (VE.ne_ob F.exa (C.w 1 rfl)) (ninS (KVA.neT VE VW nofun) nin0))
  have f113_E_sx := Exa.keep ES K113
  show KGo p e below _ T113 m 18 #[.val (.ref a), .val (.ref sx)] []
  refine k_aloadN (pc' := 19) C P113 d13_18 rfl rfl rfl ?_
  refine k_getf (pc' := 22) C P113 (C.w 36 rfl) Via.refl F113 0 rfl rfl d13_19 rfl ?_
  intro T114 P114
  refine k_aloadN (pc' := 23) C P114 d13_22 rfl rfl rfl ?_
  refine k_callI (pc' := 28) (cells' := 0) (slots' := 0) (W := 1) C P114 (C.w 102 rfl) (C.w 103 rfl) (C.w 104 rfl) (C.w 105 rfl) (C.w 106 rfl) (C.w 107 rfl) (C.w 108 rfl) (C.w 109 rfl) (C.w 110 rfl) (C.w 49 rfl) (by decide) (rmTS l Z a0 hw _ n0 P114.size sx) f113_E_sx [] [(.ref al)] rfl (lenOf pd_11 rfl) rfl (Nat.le_of_eq rfl) d13_23 rfl (by decide) (by decide) rfl rfl (by decide) (by decide) all0 rfl ?_
  intro T115 h115 v115 P115 K115 Q115
  obtain ⟨e115, g115⟩ := Q115
  subst g115
  subst e115
  show KGo p e below _ T115 m 28 #[.val (.ref a), .val (.ref sx)] [(.ref sx), (.ref al)]
  refine k_callI (pc' := 33) (cells' := 1) (slots' := 10) (W := 0) C P115 (C.w 111 rfl) (C.w 112 rfl) (C.w 113 rfl) (C.w 114 rfl) (C.w 115 rfl) (C.w 116 rfl) (C.w 117 rfl) (C.w 98 rfl) (C.w 118 rfl) (C.w 25 rfl) (by decide) (rmA1_0 l Z a0 hw _ n0 P115.size al md ed f113_S_DEFAULTCAPACITY_EMPTY_ELEMENTDATA ge_al f113_al kE fE f113_ed sx f113_E_sx) f113_al.exa [(.ref sx)] [] rfl (lenOf pd_12 rfl) rfl (Nat.le_of_eq rfl) d13_28 rfl (by decide) (by decide) rfl rfl (by decide) (by decide) (allS sz_al all0) rfl ?_
  intro T116 h116 v116 P116 K116 Q116
  obtain ⟨rfl, d, kd, f', gd116, zd116, F116, V116, O116⟩ := Q116
  have f116_ch := f113_ch.keep K116 (ninS (f113_ch.ne_ob f113_al.exa (C.w 24 rfl)) nin0)
  have f116_S_DEFAULTCAPACITY_EMPTY_ELEMENTDATA := k_staKeep f113_S_DEFAULTCAPACITY_EMPTY_ELEMENTDATA K116 (k_nsS f113_al.ns k_ns0)
  have f116_ed := f113_ed.keep K116 (ninS (f113_ed.ne_ob f113_al.exa (C.w 24 rfl)) nin0)
  have f116_E_sx := Exa.keep f113_E_sx K116
  have f116_a := F113.keep K116 (ninS (Exa.ne F113.exa f113_al.exa (by decide)) nin0)
  have f116_w1 := VW113.keep K116 (ninS (VW113.ne_ob f113_al.exa (C.w 24 rfl)) nin0)
  show KGo p e below _ T116 m 33 #[.val (.ref a), .val (.ref sx)] [(.int (1 : Int32))]
  refine k_pop (pc' := 34) C P116 d13_33 rfl rfl ?_
  exact k_retV C P116 d13_34 (by decide) (by decide) ⟨rfl, ⟨f116_a, f116_w1⟩, ⟨d, _, _, gd116, Nat.le_trans P115.kept.1 zd116, F116, V116, O116⟩⟩
theorem ef_rmO21 (m : MethodId) (x0 : Addr) (x1 : Addr) : entryFrame m #[(.ref x0), (.ref x1)] 2 = mkF m 0 #[.val (.ref x0), .val (.ref x1)] [] := by first | (simp [entryFrame, mkF, argsToLocals, Value.category]; done) | rfl
set_option maxRecDepth 65536 in
set_option maxHeartbeats 40000000 in
theorem rmO21 (l : Launch) (Z : State) (a0 : Array Value) (hw : ∀ d ∈ tables_1, d.before a0 Z = true) (h0 : Heap) (n0 : Nat) (Z0 : n0 ≤ h0.size) (a al ch : Addr) (kC : ClassId) (N : Nat) (hN : 0 < N) (OC : OvrA Z kC .long "[J") (ge_a : n0 ≤ a) (F : KOb Z h0 a "com/example/circular_authority/circularauthority/model/LabelList" layL [.ref al, .ref ch, .int 2, .int 0]) (w1 : Addr) (kw : ClassId) (f : Nat → Value) (ge_w1 : n0 ≤ w1) (VC : KVA Z h0 ch kC (.array .long) N (fun j => if j = 0 then Value.ref w1 else Value.null)) (VW : KVA Z h0 w1 kw .long 32768 f) (md : Int32) (ge_al : n0 ≤ al) (sx : Addr) (ES : Exa Z h0 sx "java/lang/String") (d : Addr) (kd : ClassId) (fd : Nat → Value) (ge_d : n0 ≤ d) (VD : KVA Z h0 d kd (.object "java/lang/Object") 10 fd) (OD : Ovr Z kd "java/lang/Object") (FA : KOb Z h0 al "java/util/ArrayList" layA [.int md, .ref d, .int 1]) :
    KCt false l (⟨"com/example/circular_authority/circularauthority/model/LabelList", "addOther", "(Ljava/lang/CharSequence;)V"⟩ : MethodName) prog_44_method_5_code 2 none ({ frames := 5, cells := 0, slots := 0, locals := 80 } : Room) Z n0 h0 #[(.ref a), (.ref sx)] [a, w1, al, d] (fun v h => v = none ∧ (KOb Z h a "com/example/circular_authority/circularauthority/model/LabelList" layL [.ref al, .ref ch, .int 3, .int 0] ∧ KVA Z h w1 kw .long 32768 (fun j => if j = 2 then .long ((-1 : Int64) - ((1 : Int32).toInt64)) else f j)) ∧ (∃ (f' : Nat → Value), KOb Z h al "java/util/ArrayList" layA [.int (md + 1), .ref d, .int 2] ∧ KVA Z h d kd (.object "java/lang/Object") 10 f')) := by
  refine k_enter (tbl := tables_1) (a0 := a0) (Ls := #[.val (.ref a), .val (.ref sx)]) (plainFor_of_name pn_13) hw Z0 (fun m => ef_rmO21 m a sx) ?_
  intro p e s m below meth c T C P
  have sz_a : a ∈ [a, w1, al, d] ∨ h0.size ≤ a := Or.inl (by simp)
  have sz_w1 : w1 ∈ [a, w1, al, d] ∨ h0.size ≤ w1 := Or.inl (by simp)
  have sz_al : al ∈ [a, w1, al, d] ∨ h0.size ≤ al := Or.inl (by simp)
  have sz_d : d ∈ [a, w1, al, d] ∨ h0.size ≤ d := Or.inl (by simp)
  refine k_aloadN (pc' := 1) C P d13_0 rfl rfl rfl ?_
  refine k_ldc2L (pc' := 4) C P (C.w 90 rfl) d13_1 rfl ?_
  refine k_aloadN (pc' := 5) C P d13_4 rfl rfl rfl ?_
  refine k_getf (pc' := 8) C P (C.w 36 rfl) Via.refl F 0 rfl rfl d13_5 rfl ?_
  intro T117 P117
  refine k_callI (pc' := 13) (cells' := 0) (slots' := 0) (W := 3) C P117 (C.w 91 rfl) (C.w 92 rfl) (C.w 93 rfl) (C.w 94 rfl) (C.w 95 rfl) (C.w 96 rfl) (C.w 97 rfl) (C.w 98 rfl) (C.w 99 rfl) (C.w 25 rfl) (by decide) (rmSz l Z a0 hw _ n0 P117.size al d md (1 : Int32) FA) FA.exa [] [(.long (-1 : Int64)), (.ref a)] rfl (lenOf pd_10 rfl) rfl (Nat.le_of_eq rfl) d13_8 rfl (by decide) (by decide) rfl rfl (by decide) (by decide) all0 rfl ?_
  intro T118 h118 v118 P118 K118 Q118
  obtain ⟨e118, g118⟩ := Q118
  subst g118
  subst e118
  show KGo p e below _ T118 m 13 #[.val (.ref a), .val (.ref sx)] [(.int (1 : Int32)), (.long (-1 : Int64)), (.ref a)]
  refine k_i2l (pc' := 14) C P118 d13_13 rfl ?_
  refine k_lsub (pc' := 15) C P118 d13_14 rfl ?_
  refine k_callP (pc' := 18) (cells' := 0) (slots' := 0) (W := 0) C P118 (C.w 76 rfl) (C.w 77 rfl) (k_selP (C.w 1 rfl) (C.w 78 rfl) (C.w 77 rfl) (by decide)) (C.w 78 rfl) (C.w 79 rfl) (C.w 2 rfl) (by decide) (rmE2 l Z a0 hw _ n0 P118.size a al ch kC N hN OC ge_a F w1 kw f ge_w1 VC VW ((-1 : Int64) - ((1 : Int32).toInt64))) F.exa [(.long ((-1 : Int64) - ((1 : Int32).toInt64)))] [] rfl (lenOf pd_5 rfl) rfl (Nat.le_of_eq rfl) d13_15 rfl (by decide) (by decide) rfl rfl (by decide) (by decide) (allS sz_a (allS sz_w1 all0)) rfl ?_
  intro T119 h119 v119 P119 K119 Q119
  obtain ⟨rfl, F119, VW119⟩ := Q119
  have f119_ch := VC.keep K119 (ninS (VC.ne_ob F.exa (C.w 1 rfl)) (ninS (KVA.neT VC VW nofun) nin0))
  have f119_al := FA.keep K119 (ninS (Exa.ne FA.exa F.exa (by decide)) (ninS (Ne.symm (VW.ne_ob FA.exa (C.w 24 rfl))) nin0))
  have f119_d := VD.keep K119 (ninS (VD.ne_ob F.exa (C.w 1 rfl)) (ninS (KVA.neT VD VW nofun) nin0))
  have f119_E_sx := Exa.keep ES K119
  show KGo p e below _ T119 m 18 #[.val (.ref a), .val (.ref sx)] []
  refine k_aloadN (pc' := 19) C P119 d13_18 rfl rfl rfl ?_
  refine k_getf (pc' := 22) C P119 (C.w 36 rfl) Via.refl F119 0 rfl rfl d13_19 rfl ?_
  intro T120 P120
  refine k_aloadN (pc' := 23) C P120 d13_22 rfl rfl rfl ?_
  refine k_callI (pc' := 28) (cells' := 0) (slots' := 0) (W := 1) C P120 (C.w 102 rfl) (C.w 103 rfl) (C.w 104 rfl) (C.w 105 rfl) (C.w 106 rfl) (C.w 107 rfl) (C.w 108 rfl) (C.w 109 rfl) (C.w 110 rfl) (C.w 49 rfl) (by decide) (rmTS l Z a0 hw _ n0 P120.size sx) f119_E_sx [] [(.ref al)] rfl (lenOf pd_11 rfl) rfl (Nat.le_of_eq rfl) d13_23 rfl (by decide) (by decide) rfl rfl (by decide) (by decide) all0 rfl ?_
  intro T121 h121 v121 P121 K121 Q121
  obtain ⟨e121, g121⟩ := Q121
  subst g121
  subst e121
  show KGo p e below _ T121 m 28 #[.val (.ref a), .val (.ref sx)] [(.ref sx), (.ref al)]
  refine k_callI (pc' := 33) (cells' := 0) (slots' := 0) (W := 0) C P121 (C.w 111 rfl) (C.w 112 rfl) (C.w 113 rfl) (C.w 114 rfl) (C.w 115 rfl) (C.w 116 rfl) (C.w 117 rfl) (C.w 98 rfl) (C.w 118 rfl) (C.w 25 rfl) (by decide) (rmA1_1 l Z a0 hw _ n0 P121.size al d md kd _ ge_al ge_d f119_al f119_d OD sx f119_E_sx) f119_al.exa [(.ref sx)] [] rfl (lenOf pd_12 rfl) rfl (Nat.le_of_eq rfl) d13_28 rfl (by decide) (by decide) rfl rfl (by decide) (by decide) (allS sz_al (allS sz_d all0)) rfl ?_
  intro T122 h122 v122 P122 K122 Q122
  obtain ⟨rfl, f', F122, V122⟩ := Q122
  have f122_ch := f119_ch.keep K122 (ninS (f119_ch.ne_ob f119_al.exa (C.w 24 rfl)) (ninS (KVA.neT f119_ch f119_d nofun) nin0))
  have f122_E_sx := Exa.keep f119_E_sx K122
  have f122_a := F119.keep K122 (ninS (Exa.ne F119.exa f119_al.exa (by decide)) (ninS (Ne.symm (f119_d.ne_ob F119.exa (C.w 1 rfl))) nin0))
  have f122_w1 := VW119.keep K122 (ninS (VW119.ne_ob f119_al.exa (C.w 24 rfl)) (ninS (KVA.neT VW119 f119_d nofun) nin0))
  show KGo p e below _ T122 m 33 #[.val (.ref a), .val (.ref sx)] [(.int (1 : Int32))]
  refine k_pop (pc' := 34) C P122 d13_33 rfl rfl ?_
  exact k_retV C P122 d13_34 (by decide) (by decide) ⟨rfl, ⟨f122_a, f122_w1⟩, ⟨_, F122, V122⟩⟩
theorem ef_rmO22 (m : MethodId) (x0 : Addr) (x1 : Addr) : entryFrame m #[(.ref x0), (.ref x1)] 2 = mkF m 0 #[.val (.ref x0), .val (.ref x1)] [] := by first | (simp [entryFrame, mkF, argsToLocals, Value.category]; done) | rfl
set_option maxRecDepth 65536 in
set_option maxHeartbeats 40000000 in
theorem rmO22 (l : Launch) (Z : State) (a0 : Array Value) (hw : ∀ d ∈ tables_1, d.before a0 Z = true) (h0 : Heap) (n0 : Nat) (Z0 : n0 ≤ h0.size) (a al ch : Addr) (kC : ClassId) (N : Nat) (hN : 0 < N) (OC : OvrA Z kC .long "[J") (ge_a : n0 ≤ a) (F : KOb Z h0 a "com/example/circular_authority/circularauthority/model/LabelList" layL [.ref al, .ref ch, .int 2, .int 0]) (w1 : Addr) (kw : ClassId) (f : Nat → Value) (ge_w1 : n0 ≤ w1) (VC : KVA Z h0 ch kC (.array .long) N (fun j => if j = 0 then Value.ref w1 else Value.null)) (VW : KVA Z h0 w1 kw .long 32768 f) (md : Int32) (ge_al : n0 ≤ al) (sx : Addr) (ES : Exa Z h0 sx "java/lang/String") (d : Addr) (kd : ClassId) (fd : Nat → Value) (ge_d : n0 ≤ d) (VD : KVA Z h0 d kd (.object "java/lang/Object") 10 fd) (OD : Ovr Z kd "java/lang/Object") (FA : KOb Z h0 al "java/util/ArrayList" layA [.int md, .ref d, .int 2]) :
    KCt false l (⟨"com/example/circular_authority/circularauthority/model/LabelList", "addOther", "(Ljava/lang/CharSequence;)V"⟩ : MethodName) prog_44_method_5_code 2 none ({ frames := 5, cells := 0, slots := 0, locals := 80 } : Room) Z n0 h0 #[(.ref a), (.ref sx)] [a, w1, al, d] (fun v h => v = none ∧ (KOb Z h a "com/example/circular_authority/circularauthority/model/LabelList" layL [.ref al, .ref ch, .int 3, .int 0] ∧ KVA Z h w1 kw .long 32768 (fun j => if j = 2 then .long ((-1 : Int64) - ((2 : Int32).toInt64)) else f j)) ∧ (∃ (f' : Nat → Value), KOb Z h al "java/util/ArrayList" layA [.int (md + 1), .ref d, .int 3] ∧ KVA Z h d kd (.object "java/lang/Object") 10 f')) := by
  refine k_enter (tbl := tables_1) (a0 := a0) (Ls := #[.val (.ref a), .val (.ref sx)]) (plainFor_of_name pn_13) hw Z0 (fun m => ef_rmO22 m a sx) ?_
  intro p e s m below meth c T C P
  have sz_a : a ∈ [a, w1, al, d] ∨ h0.size ≤ a := Or.inl (by simp)
  have sz_w1 : w1 ∈ [a, w1, al, d] ∨ h0.size ≤ w1 := Or.inl (by simp)
  have sz_al : al ∈ [a, w1, al, d] ∨ h0.size ≤ al := Or.inl (by simp)
  have sz_d : d ∈ [a, w1, al, d] ∨ h0.size ≤ d := Or.inl (by simp)
  refine k_aloadN (pc' := 1) C P d13_0 rfl rfl rfl ?_
  refine k_ldc2L (pc' := 4) C P (C.w 90 rfl) d13_1 rfl ?_
  refine k_aloadN (pc' := 5) C P d13_4 rfl rfl rfl ?_
  refine k_getf (pc' := 8) C P (C.w 36 rfl) Via.refl F 0 rfl rfl d13_5 rfl ?_
  intro T123 P123
  refine k_callI (pc' := 13) (cells' := 0) (slots' := 0) (W := 3) C P123 (C.w 91 rfl) (C.w 92 rfl) (C.w 93 rfl) (C.w 94 rfl) (C.w 95 rfl) (C.w 96 rfl) (C.w 97 rfl) (C.w 98 rfl) (C.w 99 rfl) (C.w 25 rfl) (by decide) (rmSz l Z a0 hw _ n0 P123.size al d md (2 : Int32) FA) FA.exa [] [(.long (-1 : Int64)), (.ref a)] rfl (lenOf pd_10 rfl) rfl (Nat.le_of_eq rfl) d13_8 rfl (by decide) (by decide) rfl rfl (by decide) (by decide) all0 rfl ?_
  intro T124 h124 v124 P124 K124 Q124
  obtain ⟨e124, g124⟩ := Q124
  subst g124
  subst e124
  show KGo p e below _ T124 m 13 #[.val (.ref a), .val (.ref sx)] [(.int (2 : Int32)), (.long (-1 : Int64)), (.ref a)]
  refine k_i2l (pc' := 14) C P124 d13_13 rfl ?_
  refine k_lsub (pc' := 15) C P124 d13_14 rfl ?_
  refine k_callP (pc' := 18) (cells' := 0) (slots' := 0) (W := 0) C P124 (C.w 76 rfl) (C.w 77 rfl) (k_selP (C.w 1 rfl) (C.w 78 rfl) (C.w 77 rfl) (by decide)) (C.w 78 rfl) (C.w 79 rfl) (C.w 2 rfl) (by decide) (rmE2 l Z a0 hw _ n0 P124.size a al ch kC N hN OC ge_a F w1 kw f ge_w1 VC VW ((-1 : Int64) - ((2 : Int32).toInt64))) F.exa [(.long ((-1 : Int64) - ((2 : Int32).toInt64)))] [] rfl (lenOf pd_5 rfl) rfl (Nat.le_of_eq rfl) d13_15 rfl (by decide) (by decide) rfl rfl (by decide) (by decide) (allS sz_a (allS sz_w1 all0)) rfl ?_
  intro T125 h125 v125 P125 K125 Q125
  obtain ⟨rfl, F125, VW125⟩ := Q125
  have f125_ch := VC.keep K125 (ninS (VC.ne_ob F.exa (C.w 1 rfl)) (ninS (KVA.neT VC VW nofun) nin0))
  have f125_al := FA.keep K125 (ninS (Exa.ne FA.exa F.exa (by decide)) (ninS (Ne.symm (VW.ne_ob FA.exa (C.w 24 rfl))) nin0))
  have f125_d := VD.keep K125 (ninS (VD.ne_ob F.exa (C.w 1 rfl)) (ninS (KVA.neT VD VW nofun) nin0))
  have f125_E_sx := Exa.keep ES K125
  show KGo p e below _ T125 m 18 #[.val (.ref a), .val (.ref sx)] []
  refine k_aloadN (pc' := 19) C P125 d13_18 rfl rfl rfl ?_
  refine k_getf (pc' := 22) C P125 (C.w 36 rfl) Via.refl F125 0 rfl rfl d13_19 rfl ?_
  intro T126 P126
  refine k_aloadN (pc' := 23) C P126 d13_22 rfl rfl rfl ?_
  refine k_callI (pc' := 28) (cells' := 0) (slots' := 0) (W := 1) C P126 (C.w 102 rfl) (C.w 103 rfl) (C.w 104 rfl) (C.w 105 rfl) (C.w 106 rfl) (C.w 107 rfl) (C.w 108 rfl) (C.w 109 rfl) (C.w 110 rfl) (C.w 49 rfl) (by decide) (rmTS l Z a0 hw _ n0 P126.size sx) f125_E_sx [] [(.ref al)] rfl (lenOf pd_11 rfl) rfl (Nat.le_of_eq rfl) d13_23 rfl (by decide) (by decide) rfl rfl (by decide) (by decide) all0 rfl ?_
  intro T127 h127 v127 P127 K127 Q127
  obtain ⟨e127, g127⟩ := Q127
  subst g127
  subst e127
  show KGo p e below _ T127 m 28 #[.val (.ref a), .val (.ref sx)] [(.ref sx), (.ref al)]
  refine k_callI (pc' := 33) (cells' := 0) (slots' := 0) (W := 0) C P127 (C.w 111 rfl) (C.w 112 rfl) (C.w 113 rfl) (C.w 114 rfl) (C.w 115 rfl) (C.w 116 rfl) (C.w 117 rfl) (C.w 98 rfl) (C.w 118 rfl) (C.w 25 rfl) (by decide) (rmA1_2 l Z a0 hw _ n0 P127.size al d md kd _ ge_al ge_d f125_al f125_d OD sx f125_E_sx) f125_al.exa [(.ref sx)] [] rfl (lenOf pd_12 rfl) rfl (Nat.le_of_eq rfl) d13_28 rfl (by decide) (by decide) rfl rfl (by decide) (by decide) (allS sz_al (allS sz_d all0)) rfl ?_
  intro T128 h128 v128 P128 K128 Q128
  obtain ⟨rfl, f', F128, V128⟩ := Q128
  have f128_ch := f125_ch.keep K128 (ninS (f125_ch.ne_ob f125_al.exa (C.w 24 rfl)) (ninS (KVA.neT f125_ch f125_d nofun) nin0))
  have f128_E_sx := Exa.keep f125_E_sx K128
  have f128_a := F125.keep K128 (ninS (Exa.ne F125.exa f125_al.exa (by decide)) (ninS (Ne.symm (f125_d.ne_ob F125.exa (C.w 1 rfl))) nin0))
  have f128_w1 := VW125.keep K128 (ninS (VW125.ne_ob f125_al.exa (C.w 24 rfl)) (ninS (KVA.neT VW125 f125_d nofun) nin0))
  show KGo p e below _ T128 m 33 #[.val (.ref a), .val (.ref sx)] [(.int (1 : Int32))]
  refine k_pop (pc' := 34) C P128 d13_33 rfl rfl ?_
  exact k_retV C P128 d13_34 (by decide) (by decide) ⟨rfl, ⟨f128_a, f128_w1⟩, ⟨_, F128, V128⟩⟩
theorem pn_21 : plainName "com/example/circular_authority/circularauthority/model/LabelList" = true := by first | (simp [plainName, overriddenIn]; done) | decide +kernel
theorem ef_rmGet0 (m : MethodId) (x0 : Addr) (x1 : Int32) : entryFrame m #[(.ref x0), (.int x1)] 4 = mkF m 0 #[.val (.ref x0), .val (.int x1), .unset, .unset] [] := by first | (simp [entryFrame, mkF, argsToLocals, Value.category]; done) | rfl
set_option maxRecDepth 65536 in
set_option maxHeartbeats 40000000 in
theorem rmGet0 (l : Launch) (Z : State) (a0 : Array Value) (hw : ∀ d ∈ tables_1, d.before a0 Z = true) (h0 : Heap) (n0 : Nat) (Z0 : n0 ≤ h0.size) (a al ch w1 : Addr) (kC kw : ClassId) (N : Nat) (hN : 0 < N) (F : KOb Z h0 a "com/example/circular_authority/circularauthority/model/LabelList" layL [.ref al, .ref ch, .int 3, .int 0]) (VC : KVA Z h0 ch kC (.array .long) N (fun j => if j = 0 then Value.ref w1 else Value.null)) (f : Nat → Value) (VW : KVA Z h0 w1 kw .long 32768 f) (y r : Int64) (hy : f 0 = .long y) (h1 : k_cmpL y 0 < 0 → -1 = r) (h2 : ¬ k_cmpL y 0 < 0 → y = r) :
    KCt false l (⟨"com/example/circular_authority/circularauthority/model/LabelList", "getPacked", "(I)J"⟩ : MethodName) prog_44_method_7_code 4 (some .long) ({ frames := 0, cells := 0, slots := 0, locals := 0 } : Room) Z n0 h0 #[(.ref a), (.int (0 : Int32))] [] (fun v h => v = some (.long r) ∧ h0 = h) := by
  refine k_enter (tbl := tables_1) (a0 := a0) (Ls := #[.val (.ref a), .val (.int (0 : Int32)), .unset, .unset]) (plainFor_of_name pn_21) hw Z0 (fun m => ef_rmGet0 m a (0 : Int32)) ?_
  intro p e s m below meth c T C P
  refine k_aloadN (pc' := 1) C P d21_0 rfl rfl rfl ?_
  refine k_getf (pc' := 4) C P (C.w 40 rfl) Via.refl F 1 rfl rfl d21_1 rfl ?_
  intro T129 P129
  refine k_iloadN (pc' := 5) C P129 d21_4 rfl rfl ?_
  refine k_bipush (z := (15 : Int32)) (pc' := 7) C P129 d21_5 rfl rfl ?_
  refine k_iushr (pc' := 8) C P129 d21_7 rfl ?_
  refine k_aaload (J := 0) (v := (.ref w1)) (pc' := 9) C P129 VC rfl d21_8 (by decide) hN rfl rfl ?_
  refine k_iloadN (pc' := 10) C P129 d21_9 rfl rfl ?_
  refine k_sipush (z := (32767 : Int32)) (pc' := 13) C P129 d21_10 rfl rfl ?_
  refine k_iand (pc' := 14) C P129 d21_13 rfl ?_
  refine k_laload (J := 0) (v := (.long y)) (pc' := 15) C P129 VW d21_14 (by decide) (by decide) hy rfl ?_
  refine k_lstoreN (l' := #[.val (.ref a), .val (.int (0 : Int32)), .val (.long y), .second]) (pc' := 16) C P129 d21_15 rfl rfl ?_
  refine k_lloadN (pc' := 17) C P129 d21_16 rfl rfl ?_
  refine k_lconst (z := (0 : Int64)) (pc' := 18) C P129 d21_17 rfl rfl ?_
  refine k_lcmp (pc' := 19) C P129 d21_18 rfl ?_
  refine k_ifB (pcY := 26) (pcN := 22) C P129 d21_19 (by decide) (by decide) rfl ?_ ?_
  · intro (hc19 : (k_cmpL y (0 : Int64)) < (0 : Int32))
    refine k_ldc2L (pc' := 29) C P129 (C.w 90 rfl) d21_26 rfl ?_
    exact k_retJ C P129 d21_29 (by decide) (by decide) ⟨by rw [← h1 hc19], rfl⟩
  · intro (hc19 : ¬ (k_cmpL y (0 : Int64)) < (0 : Int32))
    refine k_lloadN (pc' := 23) C P129 d21_22 rfl rfl ?_
    refine k_goto (pc' := 29) C P129 d21_23 (by decide) (by decide) ?_
    exact k_retJ C P129 d21_29 (by decide) (by decide) ⟨by rw [h2 hc19], rfl⟩
theorem ef_rmGet1 (m : MethodId) (x0 : Addr) (x1 : Int32) : entryFrame m #[(.ref x0), (.int x1)] 4 = mkF m 0 #[.val (.ref x0), .val (.int x1), .unset, .unset] [] := by first | (simp [entryFrame, mkF, argsToLocals, Value.category]; done) | rfl
set_option maxRecDepth 65536 in
set_option maxHeartbeats 40000000 in
theorem rmGet1 (l : Launch) (Z : State) (a0 : Array Value) (hw : ∀ d ∈ tables_1, d.before a0 Z = true) (h0 : Heap) (n0 : Nat) (Z0 : n0 ≤ h0.size) (a al ch w1 : Addr) (kC kw : ClassId) (N : Nat) (hN : 0 < N) (F : KOb Z h0 a "com/example/circular_authority/circularauthority/model/LabelList" layL [.ref al, .ref ch, .int 3, .int 0]) (VC : KVA Z h0 ch kC (.array .long) N (fun j => if j = 0 then Value.ref w1 else Value.null)) (f : Nat → Value) (VW : KVA Z h0 w1 kw .long 32768 f) (y r : Int64) (hy : f 1 = .long y) (h1 : k_cmpL y 0 < 0 → -1 = r) (h2 : ¬ k_cmpL y 0 < 0 → y = r) :
    KCt false l (⟨"com/example/circular_authority/circularauthority/model/LabelList", "getPacked", "(I)J"⟩ : MethodName) prog_44_method_7_code 4 (some .long) ({ frames := 0, cells := 0, slots := 0, locals := 0 } : Room) Z n0 h0 #[(.ref a), (.int (1 : Int32))] [] (fun v h => v = some (.long r) ∧ h0 = h) := by
  refine k_enter (tbl := tables_1) (a0 := a0) (Ls := #[.val (.ref a), .val (.int (1 : Int32)), .unset, .unset]) (plainFor_of_name pn_21) hw Z0 (fun m => ef_rmGet1 m a (1 : Int32)) ?_
  intro p e s m below meth c T C P
  refine k_aloadN (pc' := 1) C P d21_0 rfl rfl rfl ?_
  refine k_getf (pc' := 4) C P (C.w 40 rfl) Via.refl F 1 rfl rfl d21_1 rfl ?_
  intro T130 P130
  refine k_iloadN (pc' := 5) C P130 d21_4 rfl rfl ?_
  refine k_bipush (z := (15 : Int32)) (pc' := 7) C P130 d21_5 rfl rfl ?_
  refine k_iushr (pc' := 8) C P130 d21_7 rfl ?_
  refine k_aaload (J := 0) (v := (.ref w1)) (pc' := 9) C P130 VC rfl d21_8 (by decide) hN rfl rfl ?_
  refine k_iloadN (pc' := 10) C P130 d21_9 rfl rfl ?_
  refine k_sipush (z := (32767 : Int32)) (pc' := 13) C P130 d21_10 rfl rfl ?_
  refine k_iand (pc' := 14) C P130 d21_13 rfl ?_
  refine k_laload (J := 1) (v := (.long y)) (pc' := 15) C P130 VW d21_14 (by decide) (by decide) hy rfl ?_
  refine k_lstoreN (l' := #[.val (.ref a), .val (.int (1 : Int32)), .val (.long y), .second]) (pc' := 16) C P130 d21_15 rfl rfl ?_
  refine k_lloadN (pc' := 17) C P130 d21_16 rfl rfl ?_
  refine k_lconst (z := (0 : Int64)) (pc' := 18) C P130 d21_17 rfl rfl ?_
  refine k_lcmp (pc' := 19) C P130 d21_18 rfl ?_
  refine k_ifB (pcY := 26) (pcN := 22) C P130 d21_19 (by decide) (by decide) rfl ?_ ?_
  · intro (hc19 : (k_cmpL y (0 : Int64)) < (0 : Int32))
    refine k_ldc2L (pc' := 29) C P130 (C.w 90 rfl) d21_26 rfl ?_
    exact k_retJ C P130 d21_29 (by decide) (by decide) ⟨by rw [← h1 hc19], rfl⟩
  · intro (hc19 : ¬ (k_cmpL y (0 : Int64)) < (0 : Int32))
    refine k_lloadN (pc' := 23) C P130 d21_22 rfl rfl ?_
    refine k_goto (pc' := 29) C P130 d21_23 (by decide) (by decide) ?_
    exact k_retJ C P130 d21_29 (by decide) (by decide) ⟨by rw [h2 hc19], rfl⟩
theorem ef_rmGet2 (m : MethodId) (x0 : Addr) (x1 : Int32) : entryFrame m #[(.ref x0), (.int x1)] 4 = mkF m 0 #[.val (.ref x0), .val (.int x1), .unset, .unset] [] := by first | (simp [entryFrame, mkF, argsToLocals, Value.category]; done) | rfl
set_option maxRecDepth 65536 in
set_option maxHeartbeats 40000000 in
theorem rmGet2 (l : Launch) (Z : State) (a0 : Array Value) (hw : ∀ d ∈ tables_1, d.before a0 Z = true) (h0 : Heap) (n0 : Nat) (Z0 : n0 ≤ h0.size) (a al ch w1 : Addr) (kC kw : ClassId) (N : Nat) (hN : 0 < N) (F : KOb Z h0 a "com/example/circular_authority/circularauthority/model/LabelList" layL [.ref al, .ref ch, .int 3, .int 0]) (VC : KVA Z h0 ch kC (.array .long) N (fun j => if j = 0 then Value.ref w1 else Value.null)) (f : Nat → Value) (VW : KVA Z h0 w1 kw .long 32768 f) (y r : Int64) (hy : f 2 = .long y) (h1 : k_cmpL y 0 < 0 → -1 = r) (h2 : ¬ k_cmpL y 0 < 0 → y = r) :
    KCt false l (⟨"com/example/circular_authority/circularauthority/model/LabelList", "getPacked", "(I)J"⟩ : MethodName) prog_44_method_7_code 4 (some .long) ({ frames := 0, cells := 0, slots := 0, locals := 0 } : Room) Z n0 h0 #[(.ref a), (.int (2 : Int32))] [] (fun v h => v = some (.long r) ∧ h0 = h) := by
  refine k_enter (tbl := tables_1) (a0 := a0) (Ls := #[.val (.ref a), .val (.int (2 : Int32)), .unset, .unset]) (plainFor_of_name pn_21) hw Z0 (fun m => ef_rmGet2 m a (2 : Int32)) ?_
  intro p e s m below meth c T C P
  refine k_aloadN (pc' := 1) C P d21_0 rfl rfl rfl ?_
  refine k_getf (pc' := 4) C P (C.w 40 rfl) Via.refl F 1 rfl rfl d21_1 rfl ?_
  intro T131 P131
  refine k_iloadN (pc' := 5) C P131 d21_4 rfl rfl ?_
  refine k_bipush (z := (15 : Int32)) (pc' := 7) C P131 d21_5 rfl rfl ?_
  refine k_iushr (pc' := 8) C P131 d21_7 rfl ?_
  refine k_aaload (J := 0) (v := (.ref w1)) (pc' := 9) C P131 VC rfl d21_8 (by decide) hN rfl rfl ?_
  refine k_iloadN (pc' := 10) C P131 d21_9 rfl rfl ?_
  refine k_sipush (z := (32767 : Int32)) (pc' := 13) C P131 d21_10 rfl rfl ?_
  refine k_iand (pc' := 14) C P131 d21_13 rfl ?_
  refine k_laload (J := 2) (v := (.long y)) (pc' := 15) C P131 VW d21_14 (by decide) (by decide) hy rfl ?_
  refine k_lstoreN (l' := #[.val (.ref a), .val (.int (2 : Int32)), .val (.long y), .second]) (pc' := 16) C P131 d21_15 rfl rfl ?_
  refine k_lloadN (pc' := 17) C P131 d21_16 rfl rfl ?_
  refine k_lconst (z := (0 : Int64)) (pc' := 18) C P131 d21_17 rfl rfl ?_
  refine k_lcmp (pc' := 19) C P131 d21_18 rfl ?_
  refine k_ifB (pcY := 26) (pcN := 22) C P131 d21_19 (by decide) (by decide) rfl ?_ ?_
  · intro (hc19 : (k_cmpL y (0 : Int64)) < (0 : Int32))
    refine k_ldc2L (pc' := 29) C P131 (C.w 90 rfl) d21_26 rfl ?_
    exact k_retJ C P131 d21_29 (by decide) (by decide) ⟨by rw [← h1 hc19], rfl⟩
  · intro (hc19 : ¬ (k_cmpL y (0 : Int64)) < (0 : Int32))
    refine k_lloadN (pc' := 23) C P131 d21_22 rfl rfl ?_
    refine k_goto (pc' := 29) C P131 d21_23 (by decide) (by decide) ?_
    exact k_retJ C P131 d21_29 (by decide) (by decide) ⟨by rw [h2 hc19], rfl⟩
theorem pn_0 : plainName "com/example/circular_authority/circularauthority/model/LabelListGetPackedPinLaw" = true := by first | (simp [plainName, overriddenIn]; done) | decide +kernel
theorem ef_rm0 (m : MethodId) (x0 : Int64) (x1 : Int64) (x2 : Int64) (x3 : Int32) (x4 : Int32) : entryFrame m #[(.long x0), (.long x1), (.long x2), (.int x3), (.int x4)] maxLocals = mkF m 0 #[.val (.long x0), .second, .val (.long x1), .second, .val (.long x2), .second, .val (.int x3), .val (.int x4), .unset, .unset, .unset, .unset, .unset, .unset, .unset, .unset, .unset, .unset, .unset, .unset, .unset, .unset, .unset, .unset, .unset] [] := by first | (simp [entryFrame, mkF, argsToLocals, Value.category, maxLocals]; done) | rfl
set_option maxRecDepth 65536 in
set_option maxHeartbeats 40000000 in
theorem rm0 (l : Launch) (Z : State) (a0 : Array Value) (hw : ∀ d ∈ tables_1, d.before a0 Z = true) (h0 : Heap) (n0 : Nat) (Z0 : n0 ≤ h0.size) (p0 p1 p2 : Int64) (p3 p4 : Int32) (cs : Int32) (hcs : ¬ cs = 0) (SC : Sta Z h0 "java/lang/String" "COMPACT_STRINGS" "Z" (.int cs)) (SA : Sta Z h0 "java/lang/StringUTF16" "$assertionsDisabled" "Z" (.int 1)) (SH : Sta Z h0 "java/lang/StringUTF16" "HI_BYTE_SHIFT" "I" (.int 0)) (SL : Sta Z h0 "java/lang/StringUTF16" "LO_BYTE_SHIFT" "I" (.int 8)) (ed : Addr) (SD : Sta Z h0 "java/util/ArrayList" "DEFAULTCAPACITY_EMPTY_ELEMENTDATA" "[Ljava/lang/Object;" (.ref ed)) (kE : ClassId) (fE : Nat → Value) (VE : KVA Z h0 ed kE (.object "java/lang/Object") 0 fE) :
    KCt false l x code maxLocals ret room_1 Z n0 h0 #[(.long p0), (.long p1), (.long p2), (.int p3), (.int p4)] [] (fun v h => v = some (.int 1)) := by
  refine k_enter (tbl := tables_1) (a0 := a0) (Ls := #[.val (.long p0), .second, .val (.long p1), .second, .val (.long p2), .second, .val (.int p3), .val (.int p4), .unset, .unset, .unset, .unset, .unset, .unset, .unset, .unset, .unset, .unset, .unset, .unset, .unset, .unset, .unset, .unset, .unset]) (plainFor_of_name pn_0) hw Z0 (fun m => ef_rm0 m p0 p1 p2 p3 p4) ?_
  intro p e s m below meth c T C P
  refine k_newo (pc' := 3) (cells' := 1) (slots' := 4) C P (C.w 0 rfl) (C.w 1 rfl) (C.w 2 rfl) at_0 rfl rfl (by decide) (by decide) rfl ?_
  intro T132 h132 b132 P132 hs132 ge_b132 sz_b132 E132 A132 D132
  have f132_b132 : KOb Z h132 b132 "com/example/circular_authority/circularauthority/model/LabelList" layL [.null, .null, (.int (0 : Int32)), (.int (0 : Int32))] := KOb.new A132 D132 (lokL C.hw) (by decide +kernel)
  refine k_dup (pc' := 4) C P132 at_3 rfl rfl ?_
  refine k_iload (pc' := 6) C P132 at_4 rfl rfl ?_
  refine k_ldcI (pc' := 8) C P132 (C.w 3 rfl) at_6 rfl ?_
  refine k_iand (pc' := 9) C P132 at_8 rfl ?_
  refine k_iconst (z := (1 : Int32)) (pc' := 10) C P132 at_9 rfl rfl ?_
  refine k_iadd (pc' := 11) C P132 at_10 rfl ?_
  obtain ⟨N, hN, hN1, hN8⟩ := own_cap p4
  refine k_callN (pc' := 14) (cells' := 3) (slots' := 15) (W := 1) C P132 rfl (C.w 4 rfl) (C.w 5 rfl) (C.w 6 rfl) (C.w 2 rfl) (by decide) (rmLI l Z a0 hw _ n0 P132.size b132 ((p4 &&& (262143 : Int32)) + (1 : Int32)) N hN hN8 ge_b132 ed (SD.ext (k_ext_of_keep P132.kept)) f132_b132) b132 [(.int ((p4 &&& (262143 : Int32)) + (1 : Int32)))] [(.ref b132)] rfl (lenOf pd_13 rfl) rfl (Nat.le_of_eq rfl) at_11 rfl (by decide) (by decide) rfl rfl (by decide) (by decide) (allS (Or.inr sz_b132) all0) rfl ?_
  intro T133 h133 v133 P133 K133 Q133
  obtain ⟨rfl, al, ch, kC, gal133, zal133, gch133, zch133, F133, FA133, VC133, OC⟩ := Q133
  show KGo p e below _ T133 m 14 #[.val (.long p0), .second, .val (.long p1), .second, .val (.long p2), .second, .val (.int p3), .val (.int p4), .unset, .unset, .unset, .unset, .unset, .unset, .unset, .unset, .unset, .unset, .unset, .unset, .unset, .unset, .unset, .unset, .unset] [(.ref b132)]
  refine k_astore (l' := #[.val (.long p0), .second, .val (.long p1), .second, .val (.long p2), .second, .val (.int p3), .val (.int p4), .val (.ref b132), .unset, .unset, .unset, .unset, .unset, .unset, .unset, .unset, .unset, .unset, .unset, .unset, .unset, .unset, .unset, .unset]) (pc' := 16) C P133 at_14 rfl rfl rfl ?_
  refine k_iload (pc' := 18) C P133 at_16 rfl rfl ?_
  refine k_iconst (z := (1 : Int32)) (pc' := 19) C P133 at_18 rfl rfl ?_
  refine k_iand (pc' := 20) C P133 at_19 rfl ?_
  refine k_ternIf (Pp := (p3 &&& (1 : Int32)) = (0 : Int32)) (vY := (0 : Int32)) (vN := (1 : Int32)) (p1 := 23) (p2 := 24) (p3 := 27) (p4 := 28) C P133 at_20 at_23 at_24 at_27 rfl rfl (by decide) (by decide) rfl rfl rfl rfl (fun q => q) (fun q => q) ?_
  obtain ⟨m9, e_m9⟩ : ∃ z, z = (if (p3 &&& (1 : Int32)) = (0 : Int32) then (0 : Int32) else (1 : Int32)) := ⟨_, rfl⟩
  rw [← e_m9]
  have h_m9 : m9 = 0 ∨ m9 = 1 := by rw [e_m9]; exact own_01 _
  clear e_m9
  refine k_istore (l' := #[.val (.long p0), .second, .val (.long p1), .second, .val (.long p2), .second, .val (.int p3), .val (.int p4), .val (.ref b132), .val (.int m9), .unset, .unset, .unset, .unset, .unset, .unset, .unset, .unset, .unset, .unset, .unset, .unset, .unset, .unset, .unset]) (pc' := 30) C P133 at_28 rfl rfl ?_
  refine k_iload (pc' := 32) C P133 at_30 rfl rfl ?_
  refine k_iconst (z := (2 : Int32)) (pc' := 33) C P133 at_32 rfl rfl ?_
  refine k_iand (pc' := 34) C P133 at_33 rfl ?_
  refine k_ternIf (Pp := (p3 &&& (2 : Int32)) = (0 : Int32)) (vY := (0 : Int32)) (vN := (1 : Int32)) (p1 := 37) (p2 := 38) (p3 := 41) (p4 := 42) C P133 at_34 at_37 at_38 at_41 rfl rfl (by decide) (by decide) rfl rfl rfl rfl (fun q => q) (fun q => q) ?_
  obtain ⟨m10, e_m10⟩ : ∃ z, z = (if (p3 &&& (2 : Int32)) = (0 : Int32) then (0 : Int32) else (1 : Int32)) := ⟨_, rfl⟩
  rw [← e_m10]
  have h_m10 : m10 = 0 ∨ m10 = 1 := by rw [e_m10]; exact own_01 _
  clear e_m10
  refine k_istore (l' := #[.val (.long p0), .second, .val (.long p1), .second, .val (.long p2), .second, .val (.int p3), .val (.int p4), .val (.ref b132), .val (.int m9), .val (.int m10), .unset, .unset, .unset, .unset, .unset, .unset, .unset, .unset, .unset, .unset, .unset, .unset, .unset, .unset]) (pc' := 44) C P133 at_42 rfl rfl ?_
  refine k_iload (pc' := 46) C P133 at_44 rfl rfl ?_
  refine k_iconst (z := (4 : Int32)) (pc' := 47) C P133 at_46 rfl rfl ?_
  refine k_iand (pc' := 48) C P133 at_47 rfl ?_
  refine k_ternIf (Pp := (p3 &&& (4 : Int32)) = (0 : Int32)) (vY := (0 : Int32)) (vN := (1 : Int32)) (p1 := 51) (p2 := 52) (p3 := 55) (p4 := 56) C P133 at_48 at_51 at_52 at_55 rfl rfl (by decide) (by decide) rfl rfl rfl rfl (fun q => q) (fun q => q) ?_
  obtain ⟨m11, e_m11⟩ : ∃ z, z = (if (p3 &&& (4 : Int32)) = (0 : Int32) then (0 : Int32) else (1 : Int32)) := ⟨_, rfl⟩
  rw [← e_m11]
  have h_m11 : m11 = 0 ∨ m11 = 1 := by rw [e_m11]; exact own_01 _
  clear e_m11
  refine k_istore (l' := #[.val (.long p0), .second, .val (.long p1), .second, .val (.long p2), .second, .val (.int p3), .val (.int p4), .val (.ref b132), .val (.int m9), .val (.int m10), .val (.int m11), .unset, .unset, .unset, .unset, .unset, .unset, .unset, .unset, .unset, .unset, .unset, .unset, .unset]) (pc' := 58) C P133 at_56 rfl rfl ?_
  refine k_lloadN (pc' := 59) C P133 at_58 rfl rfl ?_
  refine k_iload (pc' := 61) C P133 at_59 rfl rfl ?_
  refine k_iconst (z := (3 : Int32)) (pc' := 62) C P133 at_61 rfl rfl ?_
  refine k_iushr (pc' := 63) C P133 at_62 rfl ?_
  refine k_bipush (z := (7 : Int32)) (pc' := 65) C P133 at_63 rfl rfl ?_
  refine k_iand (pc' := 66) C P133 at_65 rfl ?_
  refine k_callT (pc' := 69) (cells' := 3) (slots' := 15) (W := 0) C P133 (C.w 42 rfl) (C.w 43 rfl) (C.w 45 rfl) (C.w 44 rfl) (by decide) (rmPk l Z a0 hw _ n0 P133.size p0 ((k_ushr p3 (3 : Int32)) &&& (7 : Int32))) [(.long p0), (.int ((k_ushr p3 (3 : Int32)) &&& (7 : Int32)))] [] rfl (lenOf pd_14 rfl) rfl (Nat.le_of_eq rfl) at_66 rfl (by decide) (by decide) rfl rfl (by decide) (by decide) all0 rfl ?_
  intro T134 h134 v134 P134 K134 Q134
  obtain ⟨e134, g134⟩ := Q134
  subst g134
  subst e134
  show KGo p e below _ T134 m 69 #[.val (.long p0), .second, .val (.long p1), .second, .val (.long p2), .second, .val (.int p3), .val (.int p4), .val (.ref b132), .val (.int m9), .val (.int m10), .val (.int m11), .unset, .unset, .unset, .unset, .unset, .unset, .unset, .unset, .unset, .unset, .unset, .unset, .unset] [(.long ((((k_ushr p3 (3 : Int32)) &&& (7 : Int32)).toInt64 <<< ((56 : Int32) &&& 63).toInt64) ||| (p0 &&& (((1 : Int64) <<< (((8 : Int32) * ((k_ushr p3 (3 : Int32)) &&& (7 : Int32))) &&& 63).toInt64) - (1 : Int64)))))]
  obtain ⟨q0, e_q0⟩ : ∃ z, z = ((((k_ushr p3 (3 : Int32)) &&& (7 : Int32)).toInt64 <<< ((56 : Int32) &&& 63).toInt64) ||| (p0 &&& (((1 : Int64) <<< (((8 : Int32) * ((k_ushr p3 (3 : Int32)) &&& (7 : Int32))) &&& 63).toInt64) - (1 : Int64)))) := ⟨_, rfl⟩
  rw [← e_q0]
  have n_q0 : ¬ k_cmpL q0 0 < 0 := by rw [e_q0]; exact own_pk _ _
  clear e_q0
  refine k_lstore (l' := #[.val (.long p0), .second, .val (.long p1), .second, .val (.long p2), .second, .val (.int p3), .val (.int p4), .val (.ref b132), .val (.int m9), .val (.int m10), .val (.int m11), .val (.long q0), .second, .unset, .unset, .unset, .unset, .unset, .unset, .unset, .unset, .unset, .unset, .unset]) (pc' := 71) C P134 at_69 rfl rfl ?_
  refine k_lloadN (pc' := 72) C P134 at_71 rfl rfl ?_
  refine k_iload (pc' := 74) C P134 at_72 rfl rfl ?_
  refine k_bipush (z := (6 : Int32)) (pc' := 76) C P134 at_74 rfl rfl ?_
  refine k_iushr (pc' := 77) C P134 at_76 rfl ?_
  refine k_bipush (z := (7 : Int32)) (pc' := 79) C P134 at_77 rfl rfl ?_
  refine k_iand (pc' := 80) C P134 at_79 rfl ?_
  refine k_callT (pc' := 83) (cells' := 3) (slots' := 15) (W := 0) C P134 (C.w 42 rfl) (C.w 43 rfl) (C.w 45 rfl) (C.w 44 rfl) (by decide) (rmPk l Z a0 hw _ n0 P134.size p1 ((k_ushr p3 (6 : Int32)) &&& (7 : Int32))) [(.long p1), (.int ((k_ushr p3 (6 : Int32)) &&& (7 : Int32)))] [] rfl (lenOf pd_14 rfl) rfl (Nat.le_of_eq rfl) at_80 rfl (by decide) (by decide) rfl rfl (by decide) (by decide) all0 rfl ?_
  intro T135 h135 v135 P135 K135 Q135
  obtain ⟨e135, g135⟩ := Q135
  subst g135
  subst e135
  show KGo p e below _ T135 m 83 #[.val (.long p0), .second, .val (.long p1), .second, .val (.long p2), .second, .val (.int p3), .val (.int p4), .val (.ref b132), .val (.int m9), .val (.int m10), .val (.int m11), .val (.long q0), .second, .unset, .unset, .unset, .unset, .unset, .unset, .unset, .unset, .unset, .unset, .unset] [(.long ((((k_ushr p3 (6 : Int32)) &&& (7 : Int32)).toInt64 <<< ((56 : Int32) &&& 63).toInt64) ||| (p1 &&& (((1 : Int64) <<< (((8 : Int32) * ((k_ushr p3 (6 : Int32)) &&& (7 : Int32))) &&& 63).toInt64) - (1 : Int64)))))]
  obtain ⟨q1, e_q1⟩ : ∃ z, z = ((((k_ushr p3 (6 : Int32)) &&& (7 : Int32)).toInt64 <<< ((56 : Int32) &&& 63).toInt64) ||| (p1 &&& (((1 : Int64) <<< (((8 : Int32) * ((k_ushr p3 (6 : Int32)) &&& (7 : Int32))) &&& 63).toInt64) - (1 : Int64)))) := ⟨_, rfl⟩
  rw [← e_q1]
  have n_q1 : ¬ k_cmpL q1 0 < 0 := by rw [e_q1]; exact own_pk _ _
  clear e_q1
  refine k_lstore (l' := #[.val (.long p0), .second, .val (.long p1), .second, .val (.long p2), .second, .val (.int p3), .val (.int p4), .val (.ref b132), .val (.int m9), .val (.int m10), .val (.int m11), .val (.long q0), .second, .val (.long q1), .second, .unset, .unset, .unset, .unset, .unset, .unset, .unset, .unset, .unset]) (pc' := 85) C P135 at_83 rfl rfl ?_
  refine k_lload (pc' := 87) C P135 at_85 rfl rfl ?_
  refine k_iload (pc' := 89) C P135 at_87 rfl rfl ?_
  refine k_bipush (z := (9 : Int32)) (pc' := 91) C P135 at_89 rfl rfl ?_
  refine k_iushr (pc' := 92) C P135 at_91 rfl ?_
  refine k_bipush (z := (7 : Int32)) (pc' := 94) C P135 at_92 rfl rfl ?_
  refine k_iand (pc' := 95) C P135 at_94 rfl ?_
  refine k_callT (pc' := 98) (cells' := 3) (slots' := 15) (W := 0) C P135 (C.w 42 rfl) (C.w 43 rfl) (C.w 45 rfl) (C.w 44 rfl) (by decide) (rmPk l Z a0 hw _ n0 P135.size p2 ((k_ushr p3 (9 : Int32)) &&& (7 : Int32))) [(.long p2), (.int ((k_ushr p3 (9 : Int32)) &&& (7 : Int32)))] [] rfl (lenOf pd_14 rfl) rfl (Nat.le_of_eq rfl) at_95 rfl (by decide) (by decide) rfl rfl (by decide) (by decide) all0 rfl ?_
  intro T136 h136 v136 P136 K136 Q136
  obtain ⟨e136, g136⟩ := Q136
  subst g136
  subst e136
  show KGo p e below _ T136 m 98 #[.val (.long p0), .second, .val (.long p1), .second, .val (.long p2), .second, .val (.int p3), .val (.int p4), .val (.ref b132), .val (.int m9), .val (.int m10), .val (.int m11), .val (.long q0), .second, .val (.long q1), .second, .unset, .unset, .unset, .unset, .unset, .unset, .unset, .unset, .unset] [(.long ((((k_ushr p3 (9 : Int32)) &&& (7 : Int32)).toInt64 <<< ((56 : Int32) &&& 63).toInt64) ||| (p2 &&& (((1 : Int64) <<< (((8 : Int32) * ((k_ushr p3 (9 : Int32)) &&& (7 : Int32))) &&& 63).toInt64) - (1 : Int64)))))]
  obtain ⟨q2, e_q2⟩ : ∃ z, z = ((((k_ushr p3 (9 : Int32)) &&& (7 : Int32)).toInt64 <<< ((56 : Int32) &&& 63).toInt64) ||| (p2 &&& (((1 : Int64) <<< (((8 : Int32) * ((k_ushr p3 (9 : Int32)) &&& (7 : Int32))) &&& 63).toInt64) - (1 : Int64)))) := ⟨_, rfl⟩
  rw [← e_q2]
  have n_q2 : ¬ k_cmpL q2 0 < 0 := by rw [e_q2]; exact own_pk _ _
  clear e_q2
  refine k_lstore (l' := #[.val (.long p0), .second, .val (.long p1), .second, .val (.long p2), .second, .val (.int p3), .val (.int p4), .val (.ref b132), .val (.int m9), .val (.int m10), .val (.int m11), .val (.long q0), .second, .val (.long q1), .second, .val (.long q2), .second, .unset, .unset, .unset, .unset, .unset, .unset, .unset]) (pc' := 100) C P136 at_98 rfl rfl ?_
  refine k_iload (pc' := 102) C P136 at_100 rfl rfl ?_
  refine k_bipush (z := (16 : Int32)) (pc' := 104) C P136 at_102 rfl rfl ?_
  refine k_iushr (pc' := 105) C P136 at_104 rfl ?_
  refine k_ldcI (pc' := 107) C P136 (C.w 46 rfl) at_105 rfl ?_
  refine k_iand (pc' := 108) C P136 at_107 rfl ?_
  refine k_i2c (pc' := 109) C P136 at_108 rfl ?_
  refine k_callT (pc' := 112) (cells' := 5) (slots' := 21) (W := 0) C P136 (C.w 47 rfl) (C.w 48 rfl) (C.w 50 rfl) (C.w 49 rfl) (by decide) (rmVO l Z a0 hw _ n0 P136.size (((k_ushr p3 (16 : Int32)) &&& (65535 : Int32)).toUInt32.toUInt16.toUInt32.toInt32) cs hcs (SC.ext (k_ext_of_keep P136.kept)) (SA.ext (k_ext_of_keep P136.kept)) (SH.ext (k_ext_of_keep P136.kept)) (SL.ext (k_ext_of_keep P136.kept))) [(.int (((k_ushr p3 (16 : Int32)) &&& (65535 : Int32)).toUInt32.toUInt16.toUInt32.toInt32))] [] rfl (lenOf pd_15 rfl) rfl (Nat.le_of_eq rfl) at_109 rfl (by decide) (by decide) rfl rfl (by decide) (by decide) all0 rfl ?_
  intro T137 h137 v137 P137 K137 Q137
  obtain ⟨sx, rfl, gx137, zx137, E137x⟩ := Q137
  have f137_b132 := F133.keep K137 nin0
  have f137_al := FA133.keep K137 nin0
  have f137_ch := VC133.keep K137 nin0
  show KGo p e below _ T137 m 112 #[.val (.long p0), .second, .val (.long p1), .second, .val (.long p2), .second, .val (.int p3), .val (.int p4), .val (.ref b132), .val (.int m9), .val (.int m10), .val (.int m11), .val (.long q0), .second, .val (.long q1), .second, .val (.long q2), .second, .unset, .unset, .unset, .unset, .unset, .unset, .unset] [(.ref sx)]
  refine k_astore (l' := #[.val (.long p0), .second, .val (.long p1), .second, .val (.long p2), .second, .val (.int p3), .val (.int p4), .val (.ref b132), .val (.int m9), .val (.int m10), .val (.int m11), .val (.long q0), .second, .val (.long q1), .second, .val (.long q2), .second, .val (.ref sx), .unset, .unset, .unset, .unset, .unset, .unset]) (pc' := 114) C P137 at_112 rfl rfl rfl ?_
  rcases h_m9 with rfl | rfl
  · skip
    refine k_iload (pc' := 116) C P137 at_114 rfl rfl ?_
    refine k_ifY (pc' := 129) C P137 at_116 k_01 (by decide) (by decide) ?_
    refine k_aload (pc' := 131) C P137 at_129 rfl rfl rfl ?_
    refine k_lload (pc' := 133) C P137 at_131 rfl rfl ?_
    refine k_callV (pc' := 136) (cells' := 6) (slots' := 32789) (W := 0) C P137 (C.w 71 rfl) (C.w 72 rfl) (fun _ q => notFace_of_selects (args := #[]) (mvT q (C.w 74 rfl))) (C.w 74 rfl) (C.w 73 rfl) (C.w 75 rfl) (C.w 2 rfl) (by decide) (rmP0 l Z a0 hw _ n0 P137.size b132 al ch kC N hN1 OC ge_b132 f137_b132 gch133 f137_ch q0) f137_b132.exa [(.long q0)] [] rfl (lenOf pd_5 rfl) rfl (Nat.le_of_eq rfl) at_133 rfl (by decide) (by decide) rfl rfl (by decide) (by decide) (allS (Or.inr sz_b132) (allS (Or.inr (Nat.le_trans P132.kept.1 zch133)) all0)) rfl ?_
    intro T138 h138 v138 P138 K138 Q138
    obtain ⟨rfl, w1, kw, gw138, zw138, F138, VC138, VW138⟩ := Q138
    have f138_al := f137_al.keep K138 (ninS (Exa.ne f137_al.exa f137_b132.exa (by decide)) (ninS (Ne.symm (f137_ch.ne_ob f137_al.exa (C.w 24 rfl))) nin0))
    have f138_E_sx := Exa.keep E137x K138
    show KGo p e below _ T138 m 136 #[.val (.long p0), .second, .val (.long p1), .second, .val (.long p2), .second, .val (.int p3), .val (.int p4), .val (.ref b132), .val (.int (0 : Int32)), .val (.int m10), .val (.int m11), .val (.long q0), .second, .val (.long q1), .second, .val (.long q2), .second, .val (.ref sx), .unset, .unset, .unset, .unset, .unset, .unset] []
    rcases h_m10 with rfl | rfl
    · skip
      refine k_iload (pc' := 138) C P138 at_136 rfl rfl ?_
      refine k_ifY (pc' := 151) C P138 at_138 k_01 (by decide) (by decide) ?_
      refine k_aload (pc' := 153) C P138 at_151 rfl rfl rfl ?_
      refine k_lload (pc' := 155) C P138 at_153 rfl rfl ?_
      refine k_callV (pc' := 158) (cells' := 6) (slots' := 32789) (W := 0) C P138 (C.w 71 rfl) (C.w 72 rfl) (fun _ q => notFace_of_selects (args := #[]) (mvT q (C.w 74 rfl))) (C.w 74 rfl) (C.w 73 rfl) (C.w 75 rfl) (C.w 2 rfl) (by decide) (rmP1 l Z a0 hw _ n0 P138.size b132 al ch kC N hN1 OC ge_b132 F138 w1 kw (fun j => if j = 0 then Value.long q0 else Value.long 0) gw138 VC138 VW138 q1) F138.exa [(.long q1)] [] rfl (lenOf pd_5 rfl) rfl (Nat.le_of_eq rfl) at_155 rfl (by decide) (by decide) rfl rfl (by decide) (by decide) (allS (Or.inr sz_b132) (allS (Or.inr (Nat.le_trans P137.kept.1 zw138)) all0)) rfl ?_
      intro T139 h139 v139 P139 K139 Q139
      obtain ⟨rfl, F139, VW139⟩ := Q139
      have f139_al := f138_al.keep K139 (ninS (Exa.ne f138_al.exa F138.exa (by decide)) (ninS (Ne.symm (VW138.ne_ob f138_al.exa (C.w 24 rfl))) nin0))
      have f139_E_sx := Exa.keep f138_E_sx K139
      have f139_ch := VC138.keep K139 (ninS (VC138.ne_ob F138.exa (C.w 1 rfl)) (ninS (KVA.neT VC138 VW138 nofun) nin0))
      show KGo p e below _ T139 m 158 #[.val (.long p0), .second, .val (.long p1), .second, .val (.long p2), .second, .val (.int p3), .val (.int p4), .val (.ref b132), .val (.int (0 : Int32)), .val (.int (0 : Int32)), .val (.int m11), .val (.long q0), .second, .val (.long q1), .second, .val (.long q2), .second, .val (.ref sx), .unset, .unset, .unset, .unset, .unset, .unset] []
      rcases h_m11 with rfl | rfl
      · skip
        refine k_iload (pc' := 160) C P139 at_158 rfl rfl ?_
        refine k_ifY (pc' := 173) C P139 at_160 k_01 (by decide) (by decide) ?_
        refine k_aload (pc' := 175) C P139 at_173 rfl rfl rfl ?_
        refine k_lload (pc' := 177) C P139 at_175 rfl rfl ?_
        refine k_callV (pc' := 180) (cells' := 6) (slots' := 32789) (W := 0) C P139 (C.w 71 rfl) (C.w 72 rfl) (fun _ q => notFace_of_selects (args := #[]) (mvT q (C.w 74 rfl))) (C.w 74 rfl) (C.w 73 rfl) (C.w 75 rfl) (C.w 2 rfl) (by decide) (rmP2 l Z a0 hw _ n0 P139.size b132 al ch kC N hN1 OC ge_b132 F139 w1 kw (fun j => if j = 1 then Value.long q1 else (fun j => if j = 0 then Value.long q0 else Value.long 0) j) gw138 f139_ch VW139 q2) F139.exa [(.long q2)] [] rfl (lenOf pd_5 rfl) rfl (Nat.le_of_eq rfl) at_177 rfl (by decide) (by decide) rfl rfl (by decide) (by decide) (allS (Or.inr sz_b132) (allS (Or.inr (Nat.le_trans P137.kept.1 zw138)) all0)) rfl ?_
        intro T140 h140 v140 P140 K140 Q140
        obtain ⟨rfl, F140, VW140⟩ := Q140
        have f140_al := f139_al.keep K140 (ninS (Exa.ne f139_al.exa F139.exa (by decide)) (ninS (Ne.symm (VW139.ne_ob f139_al.exa (C.w 24 rfl))) nin0))
        have f140_E_sx := Exa.keep f139_E_sx K140
        have f140_ch := f139_ch.keep K140 (ninS (f139_ch.ne_ob F139.exa (C.w 1 rfl)) (ninS (KVA.neT f139_ch VW139 nofun) nin0))
        show KGo p e below _ T140 m 180 #[.val (.long p0), .second, .val (.long p1), .second, .val (.long p2), .second, .val (.int p3), .val (.int p4), .val (.ref b132), .val (.int (0 : Int32)), .val (.int (0 : Int32)), .val (.int (0 : Int32)), .val (.long q0), .second, .val (.long q1), .second, .val (.long q2), .second, .val (.ref sx), .unset, .unset, .unset, .unset, .unset, .unset] []
        refine k_iload (pc' := 182) C P140 at_180 rfl rfl ?_
        refine k_ifY (pc' := 191) C P140 at_182 k_01 (by decide) (by decide) ?_
        refine k_lload (pc' := 193) C P140 at_191 rfl rfl ?_
        refine k_lstore (l' := #[.val (.long p0), .second, .val (.long p1), .second, .val (.long p2), .second, .val (.int p3), .val (.int p4), .val (.ref b132), .val (.int (0 : Int32)), .val (.int (0 : Int32)), .val (.int (0 : Int32)), .val (.long q0), .second, .val (.long q1), .second, .val (.long q2), .second, .val (.ref sx), .val (.long q0), .second, .unset, .unset, .unset, .unset]) (pc' := 195) C P140 at_193 rfl rfl ?_
        refine k_iload (pc' := 197) C P140 at_195 rfl rfl ?_
        refine k_ifY (pc' := 206) C P140 at_197 k_01 (by decide) (by decide) ?_
        refine k_lload (pc' := 208) C P140 at_206 rfl rfl ?_
        refine k_lstore (l' := #[.val (.long p0), .second, .val (.long p1), .second, .val (.long p2), .second, .val (.int p3), .val (.int p4), .val (.ref b132), .val (.int (0 : Int32)), .val (.int (0 : Int32)), .val (.int (0 : Int32)), .val (.long q0), .second, .val (.long q1), .second, .val (.long q2), .second, .val (.ref sx), .val (.long q0), .second, .val (.long q1), .second, .unset, .unset]) (pc' := 210) C P140 at_208 rfl rfl ?_
        refine k_iload (pc' := 212) C P140 at_210 rfl rfl ?_
        refine k_ifY (pc' := 221) C P140 at_212 k_01 (by decide) (by decide) ?_
        refine k_lload (pc' := 223) C P140 at_221 rfl rfl ?_
        refine k_lstore (l' := #[.val (.long p0), .second, .val (.long p1), .second, .val (.long p2), .second, .val (.int p3), .val (.int p4), .val (.ref b132), .val (.int (0 : Int32)), .val (.int (0 : Int32)), .val (.int (0 : Int32)), .val (.long q0), .second, .val (.long q1), .second, .val (.long q2), .second, .val (.ref sx), .val (.long q0), .second, .val (.long q1), .second, .val (.long q2), .second]) (pc' := 225) C P140 at_223 rfl rfl ?_
        refine k_aload (pc' := 227) C P140 at_225 rfl rfl rfl ?_
        refine k_iconst (z := (0 : Int32)) (pc' := 228) C P140 at_227 rfl rfl ?_
        refine k_callV (pc' := 231) (cells' := 6) (slots' := 32789) (W := 0) C P140 (C.w 144 rfl) (C.w 145 rfl) (fun _ q => notFace_of_selects (args := #[]) (mvT q (C.w 147 rfl))) (C.w 147 rfl) (C.w 146 rfl) (C.w 148 rfl) (C.w 2 rfl) (by decide) (rmGet0 l Z a0 hw _ n0 P140.size b132 al ch w1 kC kw N hN1 F140 f140_ch (fun j => if j = 2 then Value.long q2 else (fun j => if j = 1 then Value.long q1 else (fun j => if j = 0 then Value.long q0 else Value.long 0) j) j) VW140 q0 q0 rfl (fun q => absurd q n_q0) (fun _ => rfl)) F140.exa [(.int (0 : Int32))] [] rfl (lenOf pd_16 rfl) rfl (Nat.le_of_eq rfl) at_228 rfl (by decide) (by decide) rfl rfl (by decide) (by decide) all0 rfl ?_
        intro T141 h141 v141 P141 K141 Q141
        obtain ⟨e141, g141⟩ := Q141
        subst g141
        subst e141
        show KGo p e below _ T141 m 231 #[.val (.long p0), .second, .val (.long p1), .second, .val (.long p2), .second, .val (.int p3), .val (.int p4), .val (.ref b132), .val (.int (0 : Int32)), .val (.int (0 : Int32)), .val (.int (0 : Int32)), .val (.long q0), .second, .val (.long q1), .second, .val (.long q2), .second, .val (.ref sx), .val (.long q0), .second, .val (.long q1), .second, .val (.long q2), .second] [(.long q0)]
        refine k_lload (pc' := 233) C P141 at_231 rfl rfl ?_
        refine k_lcmp (pc' := 234) C P141 at_233 rfl ?_
        refine k_ifN (pc' := 237) C P141 at_234 (own_lcs _) rfl ?_
        refine k_aload (pc' := 239) C P141 at_237 rfl rfl rfl ?_
        refine k_iconst (z := (1 : Int32)) (pc' := 240) C P141 at_239 rfl rfl ?_
        refine k_callV (pc' := 243) (cells' := 6) (slots' := 32789) (W := 0) C P141 (C.w 144 rfl) (C.w 145 rfl) (fun _ q => notFace_of_selects (args := #[]) (mvT q (C.w 147 rfl))) (C.w 147 rfl) (C.w 146 rfl) (C.w 148 rfl) (C.w 2 rfl) (by decide) (rmGet1 l Z a0 hw _ n0 P141.size b132 al ch w1 kC kw N hN1 F140 f140_ch (fun j => if j = 2 then Value.long q2 else (fun j => if j = 1 then Value.long q1 else (fun j => if j = 0 then Value.long q0 else Value.long 0) j) j) VW140 q1 q1 rfl (fun q => absurd q n_q1) (fun _ => rfl)) F140.exa [(.int (1 : Int32))] [] rfl (lenOf pd_16 rfl) rfl (Nat.le_of_eq rfl) at_240 rfl (by decide) (by decide) rfl rfl (by decide) (by decide) all0 rfl ?_
        intro T142 h142 v142 P142 K142 Q142
        obtain ⟨e142, g142⟩ := Q142
        subst g142
        subst e142
        show KGo p e below _ T142 m 243 #[.val (.long p0), .second, .val (.long p1), .second, .val (.long p2), .second, .val (.int p3), .val (.int p4), .val (.ref b132), .val (.int (0 : Int32)), .val (.int (0 : Int32)), .val (.int (0 : Int32)), .val (.long q0), .second, .val (.long q1), .second, .val (.long q2), .second, .val (.ref sx), .val (.long q0), .second, .val (.long q1), .second, .val (.long q2), .second] [(.long q1)]
        refine k_lload (pc' := 245) C P142 at_243 rfl rfl ?_
        refine k_lcmp (pc' := 246) C P142 at_245 rfl ?_
        refine k_ifN (pc' := 249) C P142 at_246 (own_lcs _) rfl ?_
        refine k_aload (pc' := 251) C P142 at_249 rfl rfl rfl ?_
        refine k_iconst (z := (2 : Int32)) (pc' := 252) C P142 at_251 rfl rfl ?_
        refine k_callV (pc' := 255) (cells' := 6) (slots' := 32789) (W := 0) C P142 (C.w 144 rfl) (C.w 145 rfl) (fun _ q => notFace_of_selects (args := #[]) (mvT q (C.w 147 rfl))) (C.w 147 rfl) (C.w 146 rfl) (C.w 148 rfl) (C.w 2 rfl) (by decide) (rmGet2 l Z a0 hw _ n0 P142.size b132 al ch w1 kC kw N hN1 F140 f140_ch (fun j => if j = 2 then Value.long q2 else (fun j => if j = 1 then Value.long q1 else (fun j => if j = 0 then Value.long q0 else Value.long 0) j) j) VW140 q2 q2 rfl (fun q => absurd q n_q2) (fun _ => rfl)) F140.exa [(.int (2 : Int32))] [] rfl (lenOf pd_16 rfl) rfl (Nat.le_of_eq rfl) at_252 rfl (by decide) (by decide) rfl rfl (by decide) (by decide) all0 rfl ?_
        intro T143 h143 v143 P143 K143 Q143
        obtain ⟨e143, g143⟩ := Q143
        subst g143
        subst e143
        show KGo p e below _ T143 m 255 #[.val (.long p0), .second, .val (.long p1), .second, .val (.long p2), .second, .val (.int p3), .val (.int p4), .val (.ref b132), .val (.int (0 : Int32)), .val (.int (0 : Int32)), .val (.int (0 : Int32)), .val (.long q0), .second, .val (.long q1), .second, .val (.long q2), .second, .val (.ref sx), .val (.long q0), .second, .val (.long q1), .second, .val (.long q2), .second] [(.long q2)]
        refine k_lload (pc' := 257) C P143 at_255 rfl rfl ?_
        refine k_lcmp (pc' := 258) C P143 at_257 rfl ?_
        refine k_ifN (pc' := 261) C P143 at_258 (own_lcs _) rfl ?_
        refine k_iconst (z := (1 : Int32)) (pc' := 262) C P143 at_261 rfl rfl ?_
        refine k_goto (pc' := 266) C P143 at_262 (by decide) (by decide) ?_
        exact k_retZ (z' := (1 : Int32)) C P143 (by simp) at_266 rfl (by decide) (by decide) rfl
      · skip
        refine k_iload (pc' := 160) C P139 at_158 rfl rfl ?_
        refine k_ifN (pc' := 163) C P139 at_160 k_10 rfl ?_
        refine k_aload (pc' := 165) C P139 at_163 rfl rfl rfl ?_
        refine k_aload (pc' := 167) C P139 at_165 rfl rfl rfl ?_
        refine k_callV (pc' := 170) (cells' := 7) (slots' := 32799) (W := 0) C P139 (C.w 85 rfl) (C.w 86 rfl) (fun _ q => notFace_of_selects (args := #[]) (mvT q (C.w 88 rfl))) (C.w 88 rfl) (C.w 87 rfl) (C.w 89 rfl) (C.w 2 rfl) (by decide) (rmO20 l Z a0 hw _ n0 P139.size b132 al ch kC N hN1 OC ge_b132 F139 w1 kw (fun j => if j = 1 then Value.long q1 else (fun j => if j = 0 then Value.long q0 else Value.long 0) j) gw138 f139_ch VW139 0 gal133 sx f139_E_sx ed (SD.ext (k_ext_of_keep P139.kept)) kE fE (VE.ext (k_ext_of_keep P139.kept)) f139_al) F139.exa [(.ref sx)] [] rfl (lenOf pd_17 rfl) rfl (Nat.le_of_eq rfl) at_167 rfl (by decide) (by decide) rfl rfl (by decide) (by decide) (allS (Or.inr sz_b132) (allS (Or.inr (Nat.le_trans P137.kept.1 zw138)) (allS (Or.inr (Nat.le_trans P132.kept.1 zal133)) all0))) rfl ?_
        intro T144 h144 v144 P144 K144 Q144
        obtain ⟨rfl, ⟨F144, VW144⟩, ⟨d, kd, fd144, gd144, zd144, FA144, VD144, OD⟩⟩ := Q144
        have f144_E_sx := Exa.keep f139_E_sx K144
        have f144_ch := f139_ch.keep K144 (ninS (f139_ch.ne_ob F139.exa (C.w 1 rfl)) (ninS (KVA.neT f139_ch VW139 nofun) (ninS (f139_ch.ne_ob f139_al.exa (C.w 24 rfl)) nin0)))
        show KGo p e below _ T144 m 170 #[.val (.long p0), .second, .val (.long p1), .second, .val (.long p2), .second, .val (.int p3), .val (.int p4), .val (.ref b132), .val (.int (0 : Int32)), .val (.int (0 : Int32)), .val (.int (1 : Int32)), .val (.long q0), .second, .val (.long q1), .second, .val (.long q2), .second, .val (.ref sx), .unset, .unset, .unset, .unset, .unset, .unset] []
        refine k_goto (pc' := 180) C P144 at_170 (by decide) (by decide) ?_
        refine k_iload (pc' := 182) C P144 at_180 rfl rfl ?_
        refine k_ifY (pc' := 191) C P144 at_182 k_01 (by decide) (by decide) ?_
        refine k_lload (pc' := 193) C P144 at_191 rfl rfl ?_
        refine k_lstore (l' := #[.val (.long p0), .second, .val (.long p1), .second, .val (.long p2), .second, .val (.int p3), .val (.int p4), .val (.ref b132), .val (.int (0 : Int32)), .val (.int (0 : Int32)), .val (.int (1 : Int32)), .val (.long q0), .second, .val (.long q1), .second, .val (.long q2), .second, .val (.ref sx), .val (.long q0), .second, .unset, .unset, .unset, .unset]) (pc' := 195) C P144 at_193 rfl rfl ?_
        refine k_iload (pc' := 197) C P144 at_195 rfl rfl ?_
        refine k_ifY (pc' := 206) C P144 at_197 k_01 (by decide) (by decide) ?_
        refine k_lload (pc' := 208) C P144 at_206 rfl rfl ?_
        refine k_lstore (l' := #[.val (.long p0), .second, .val (.long p1), .second, .val (.long p2), .second, .val (.int p3), .val (.int p4), .val (.ref b132), .val (.int (0 : Int32)), .val (.int (0 : Int32)), .val (.int (1 : Int32)), .val (.long q0), .second, .val (.long q1), .second, .val (.long q2), .second, .val (.ref sx), .val (.long q0), .second, .val (.long q1), .second, .unset, .unset]) (pc' := 210) C P144 at_208 rfl rfl ?_
        refine k_iload (pc' := 212) C P144 at_210 rfl rfl ?_
        refine k_ifN (pc' := 215) C P144 at_212 k_10 rfl ?_
        refine k_ldc2L (pc' := 218) C P144 (C.w 143 rfl) at_215 rfl ?_
        refine k_goto (pc' := 223) C P144 at_218 (by decide) (by decide) ?_
        refine k_lstore (l' := #[.val (.long p0), .second, .val (.long p1), .second, .val (.long p2), .second, .val (.int p3), .val (.int p4), .val (.ref b132), .val (.int (0 : Int32)), .val (.int (0 : Int32)), .val (.int (1 : Int32)), .val (.long q0), .second, .val (.long q1), .second, .val (.long q2), .second, .val (.ref sx), .val (.long q0), .second, .val (.long q1), .second, .val (.long (-1 : Int64)), .second]) (pc' := 225) C P144 at_223 rfl rfl ?_
        refine k_aload (pc' := 227) C P144 at_225 rfl rfl rfl ?_
        refine k_iconst (z := (0 : Int32)) (pc' := 228) C P144 at_227 rfl rfl ?_
        refine k_callV (pc' := 231) (cells' := 7) (slots' := 32799) (W := 0) C P144 (C.w 144 rfl) (C.w 145 rfl) (fun _ q => notFace_of_selects (args := #[]) (mvT q (C.w 147 rfl))) (C.w 147 rfl) (C.w 146 rfl) (C.w 148 rfl) (C.w 2 rfl) (by decide) (rmGet0 l Z a0 hw _ n0 P144.size b132 al ch w1 kC kw N hN1 F144 f144_ch (fun j => if j = 2 then Value.long ((-1 : Int64) - ((0 : Int32).toInt64)) else (fun j => if j = 1 then Value.long q1 else (fun j => if j = 0 then Value.long q0 else Value.long 0) j) j) VW144 q0 q0 rfl (fun q => absurd q n_q0) (fun _ => rfl)) F144.exa [(.int (0 : Int32))] [] rfl (lenOf pd_16 rfl) rfl (Nat.le_of_eq rfl) at_228 rfl (by decide) (by decide) rfl rfl (by decide) (by decide) all0 rfl ?_
        intro T145 h145 v145 P145 K145 Q145
        obtain ⟨e145, g145⟩ := Q145
        subst g145
        subst e145
        show KGo p e below _ T145 m 231 #[.val (.long p0), .second, .val (.long p1), .second, .val (.long p2), .second, .val (.int p3), .val (.int p4), .val (.ref b132), .val (.int (0 : Int32)), .val (.int (0 : Int32)), .val (.int (1 : Int32)), .val (.long q0), .second, .val (.long q1), .second, .val (.long q2), .second, .val (.ref sx), .val (.long q0), .second, .val (.long q1), .second, .val (.long (-1 : Int64)), .second] [(.long q0)]
        refine k_lload (pc' := 233) C P145 at_231 rfl rfl ?_
        refine k_lcmp (pc' := 234) C P145 at_233 rfl ?_
        refine k_ifN (pc' := 237) C P145 at_234 (own_lcs _) rfl ?_
        refine k_aload (pc' := 239) C P145 at_237 rfl rfl rfl ?_
        refine k_iconst (z := (1 : Int32)) (pc' := 240) C P145 at_239 rfl rfl ?_
        refine k_callV (pc' := 243) (cells' := 7) (slots' := 32799) (W := 0) C P145 (C.w 144 rfl) (C.w 145 rfl) (fun _ q => notFace_of_selects (args := #[]) (mvT q (C.w 147 rfl))) (C.w 147 rfl) (C.w 146 rfl) (C.w 148 rfl) (C.w 2 rfl) (by decide) (rmGet1 l Z a0 hw _ n0 P145.size b132 al ch w1 kC kw N hN1 F144 f144_ch (fun j => if j = 2 then Value.long ((-1 : Int64) - ((0 : Int32).toInt64)) else (fun j => if j = 1 then Value.long q1 else (fun j => if j = 0 then Value.long q0 else Value.long 0) j) j) VW144 q1 q1 rfl (fun q => absurd q n_q1) (fun _ => rfl)) F144.exa [(.int (1 : Int32))] [] rfl (lenOf pd_16 rfl) rfl (Nat.le_of_eq rfl) at_240 rfl (by decide) (by decide) rfl rfl (by decide) (by decide) all0 rfl ?_
        intro T146 h146 v146 P146 K146 Q146
        obtain ⟨e146, g146⟩ := Q146
        subst g146
        subst e146
        show KGo p e below _ T146 m 243 #[.val (.long p0), .second, .val (.long p1), .second, .val (.long p2), .second, .val (.int p3), .val (.int p4), .val (.ref b132), .val (.int (0 : Int32)), .val (.int (0 : Int32)), .val (.int (1 : Int32)), .val (.long q0), .second, .val (.long q1), .second, .val (.long q2), .second, .val (.ref sx), .val (.long q0), .second, .val (.long q1), .second, .val (.long (-1 : Int64)), .second] [(.long q1)]
        refine k_lload (pc' := 245) C P146 at_243 rfl rfl ?_
        refine k_lcmp (pc' := 246) C P146 at_245 rfl ?_
        refine k_ifN (pc' := 249) C P146 at_246 (own_lcs _) rfl ?_
        refine k_aload (pc' := 251) C P146 at_249 rfl rfl rfl ?_
        refine k_iconst (z := (2 : Int32)) (pc' := 252) C P146 at_251 rfl rfl ?_
        refine k_callV (pc' := 255) (cells' := 7) (slots' := 32799) (W := 0) C P146 (C.w 144 rfl) (C.w 145 rfl) (fun _ q => notFace_of_selects (args := #[]) (mvT q (C.w 147 rfl))) (C.w 147 rfl) (C.w 146 rfl) (C.w 148 rfl) (C.w 2 rfl) (by decide) (rmGet2 l Z a0 hw _ n0 P146.size b132 al ch w1 kC kw N hN1 F144 f144_ch (fun j => if j = 2 then Value.long ((-1 : Int64) - ((0 : Int32).toInt64)) else (fun j => if j = 1 then Value.long q1 else (fun j => if j = 0 then Value.long q0 else Value.long 0) j) j) VW144 ((-1 : Int64) - ((0 : Int32).toInt64)) (-1 : Int64) rfl (fun _ => rfl) (fun q => absurd (by decide) q)) F144.exa [(.int (2 : Int32))] [] rfl (lenOf pd_16 rfl) rfl (Nat.le_of_eq rfl) at_252 rfl (by decide) (by decide) rfl rfl (by decide) (by decide) all0 rfl ?_
        intro T147 h147 v147 P147 K147 Q147
        obtain ⟨e147, g147⟩ := Q147
        subst g147
        subst e147
        show KGo p e below _ T147 m 255 #[.val (.long p0), .second, .val (.long p1), .second, .val (.long p2), .second, .val (.int p3), .val (.int p4), .val (.ref b132), .val (.int (0 : Int32)), .val (.int (0 : Int32)), .val (.int (1 : Int32)), .val (.long q0), .second, .val (.long q1), .second, .val (.long q2), .second, .val (.ref sx), .val (.long q0), .second, .val (.long q1), .second, .val (.long (-1 : Int64)), .second] [(.long (-1 : Int64))]
        refine k_lload (pc' := 257) C P147 at_255 rfl rfl ?_
        refine k_lcmp (pc' := 258) C P147 at_257 rfl ?_
        refine k_ifN (pc' := 261) C P147 at_258 (own_lcs _) rfl ?_
        refine k_iconst (z := (1 : Int32)) (pc' := 262) C P147 at_261 rfl rfl ?_
        refine k_goto (pc' := 266) C P147 at_262 (by decide) (by decide) ?_
        exact k_retZ (z' := (1 : Int32)) C P147 (by simp) at_266 rfl (by decide) (by decide) rfl
    · skip
      refine k_iload (pc' := 138) C P138 at_136 rfl rfl ?_
      refine k_ifN (pc' := 141) C P138 at_138 k_10 rfl ?_
      refine k_aload (pc' := 143) C P138 at_141 rfl rfl rfl ?_
      refine k_aload (pc' := 145) C P138 at_143 rfl rfl rfl ?_
      refine k_callV (pc' := 148) (cells' := 7) (slots' := 32799) (W := 0) C P138 (C.w 85 rfl) (C.w 86 rfl) (fun _ q => notFace_of_selects (args := #[]) (mvT q (C.w 88 rfl))) (C.w 88 rfl) (C.w 87 rfl) (C.w 89 rfl) (C.w 2 rfl) (by decide) (rmO10 l Z a0 hw _ n0 P138.size b132 al ch kC N hN1 OC ge_b132 F138 w1 kw (fun j => if j = 0 then Value.long q0 else Value.long 0) gw138 VC138 VW138 0 gal133 sx f138_E_sx ed (SD.ext (k_ext_of_keep P138.kept)) kE fE (VE.ext (k_ext_of_keep P138.kept)) f138_al) F138.exa [(.ref sx)] [] rfl (lenOf pd_17 rfl) rfl (Nat.le_of_eq rfl) at_145 rfl (by decide) (by decide) rfl rfl (by decide) (by decide) (allS (Or.inr sz_b132) (allS (Or.inr (Nat.le_trans P137.kept.1 zw138)) (allS (Or.inr (Nat.le_trans P132.kept.1 zal133)) all0))) rfl ?_
      intro T148 h148 v148 P148 K148 Q148
      obtain ⟨rfl, ⟨F148, VW148⟩, ⟨d, kd, fd148, gd148, zd148, FA148, VD148, OD⟩⟩ := Q148
      have f148_E_sx := Exa.keep f138_E_sx K148
      have f148_ch := VC138.keep K148 (ninS (VC138.ne_ob F138.exa (C.w 1 rfl)) (ninS (KVA.neT VC138 VW138 nofun) (ninS (VC138.ne_ob f138_al.exa (C.w 24 rfl)) nin0)))
      show KGo p e below _ T148 m 148 #[.val (.long p0), .second, .val (.long p1), .second, .val (.long p2), .second, .val (.int p3), .val (.int p4), .val (.ref b132), .val (.int (0 : Int32)), .val (.int (1 : Int32)), .val (.int m11), .val (.long q0), .second, .val (.long q1), .second, .val (.long q2), .second, .val (.ref sx), .unset, .unset, .unset, .unset, .unset, .unset] []
      refine k_goto (pc' := 158) C P148 at_148 (by decide) (by decide) ?_
      rcases h_m11 with rfl | rfl
      · skip
        refine k_iload (pc' := 160) C P148 at_158 rfl rfl ?_
        refine k_ifY (pc' := 173) C P148 at_160 k_01 (by decide) (by decide) ?_
        refine k_aload (pc' := 175) C P148 at_173 rfl rfl rfl ?_
        refine k_lload (pc' := 177) C P148 at_175 rfl rfl ?_
        refine k_callV (pc' := 180) (cells' := 7) (slots' := 32799) (W := 0) C P148 (C.w 71 rfl) (C.w 72 rfl) (fun _ q => notFace_of_selects (args := #[]) (mvT q (C.w 74 rfl))) (C.w 74 rfl) (C.w 73 rfl) (C.w 75 rfl) (C.w 2 rfl) (by decide) (rmP2 l Z a0 hw _ n0 P148.size b132 al ch kC N hN1 OC ge_b132 F148 w1 kw (fun j => if j = 1 then Value.long ((-1 : Int64) - ((0 : Int32).toInt64)) else (fun j => if j = 0 then Value.long q0 else Value.long 0) j) gw138 f148_ch VW148 q2) F148.exa [(.long q2)] [] rfl (lenOf pd_5 rfl) rfl (Nat.le_of_eq rfl) at_177 rfl (by decide) (by decide) rfl rfl (by decide) (by decide) (allS (Or.inr sz_b132) (allS (Or.inr (Nat.le_trans P137.kept.1 zw138)) all0)) rfl ?_
        intro T149 h149 v149 P149 K149 Q149
        obtain ⟨rfl, F149, VW149⟩ := Q149
        have f149_E_sx := Exa.keep f148_E_sx K149
        have f149_ch := f148_ch.keep K149 (ninS (f148_ch.ne_ob F148.exa (C.w 1 rfl)) (ninS (KVA.neT f148_ch VW148 nofun) nin0))
        have f149_al := FA148.keep K149 (ninS (Exa.ne FA148.exa F148.exa (by decide)) (ninS (Ne.symm (VW148.ne_ob FA148.exa (C.w 24 rfl))) nin0))
        have f149_d := VD148.keep K149 (ninS (VD148.ne_ob F148.exa (C.w 1 rfl)) (ninS (KVA.neT VD148 VW148 nofun) nin0))
        show KGo p e below _ T149 m 180 #[.val (.long p0), .second, .val (.long p1), .second, .val (.long p2), .second, .val (.int p3), .val (.int p4), .val (.ref b132), .val (.int (0 : Int32)), .val (.int (1 : Int32)), .val (.int (0 : Int32)), .val (.long q0), .second, .val (.long q1), .second, .val (.long q2), .second, .val (.ref sx), .unset, .unset, .unset, .unset, .unset, .unset] []
        refine k_iload (pc' := 182) C P149 at_180 rfl rfl ?_
        refine k_ifY (pc' := 191) C P149 at_182 k_01 (by decide) (by decide) ?_
        refine k_lload (pc' := 193) C P149 at_191 rfl rfl ?_
        refine k_lstore (l' := #[.val (.long p0), .second, .val (.long p1), .second, .val (.long p2), .second, .val (.int p3), .val (.int p4), .val (.ref b132), .val (.int (0 : Int32)), .val (.int (1 : Int32)), .val (.int (0 : Int32)), .val (.long q0), .second, .val (.long q1), .second, .val (.long q2), .second, .val (.ref sx), .val (.long q0), .second, .unset, .unset, .unset, .unset]) (pc' := 195) C P149 at_193 rfl rfl ?_
        refine k_iload (pc' := 197) C P149 at_195 rfl rfl ?_
        refine k_ifN (pc' := 200) C P149 at_197 k_10 rfl ?_
        refine k_ldc2L (pc' := 203) C P149 (C.w 143 rfl) at_200 rfl ?_
        refine k_goto (pc' := 208) C P149 at_203 (by decide) (by decide) ?_
        refine k_lstore (l' := #[.val (.long p0), .second, .val (.long p1), .second, .val (.long p2), .second, .val (.int p3), .val (.int p4), .val (.ref b132), .val (.int (0 : Int32)), .val (.int (1 : Int32)), .val (.int (0 : Int32)), .val (.long q0), .second, .val (.long q1), .second, .val (.long q2), .second, .val (.ref sx), .val (.long q0), .second, .val (.long (-1 : Int64)), .second, .unset, .unset]) (pc' := 210) C P149 at_208 rfl rfl ?_
        refine k_iload (pc' := 212) C P149 at_210 rfl rfl ?_
        refine k_ifY (pc' := 221) C P149 at_212 k_01 (by decide) (by decide) ?_
        refine k_lload (pc' := 223) C P149 at_221 rfl rfl ?_
        refine k_lstore (l' := #[.val (.long p0), .second, .val (.long p1), .second, .val (.long p2), .second, .val (.int p3), .val (.int p4), .val (.ref b132), .val (.int (0 : Int32)), .val (.int (1 : Int32)), .val (.int (0 : Int32)), .val (.long q0), .second, .val (.long q1), .second, .val (.long q2), .second, .val (.ref sx), .val (.long q0), .second, .val (.long (-1 : Int64)), .second, .val (.long q2), .second]) (pc' := 225) C P149 at_223 rfl rfl ?_
        refine k_aload (pc' := 227) C P149 at_225 rfl rfl rfl ?_
        refine k_iconst (z := (0 : Int32)) (pc' := 228) C P149 at_227 rfl rfl ?_
        refine k_callV (pc' := 231) (cells' := 7) (slots' := 32799) (W := 0) C P149 (C.w 144 rfl) (C.w 145 rfl) (fun _ q => notFace_of_selects (args := #[]) (mvT q (C.w 147 rfl))) (C.w 147 rfl) (C.w 146 rfl) (C.w 148 rfl) (C.w 2 rfl) (by decide) (rmGet0 l Z a0 hw _ n0 P149.size b132 al ch w1 kC kw N hN1 F149 f149_ch (fun j => if j = 2 then Value.long q2 else (fun j => if j = 1 then Value.long ((-1 : Int64) - ((0 : Int32).toInt64)) else (fun j => if j = 0 then Value.long q0 else Value.long 0) j) j) VW149 q0 q0 rfl (fun q => absurd q n_q0) (fun _ => rfl)) F149.exa [(.int (0 : Int32))] [] rfl (lenOf pd_16 rfl) rfl (Nat.le_of_eq rfl) at_228 rfl (by decide) (by decide) rfl rfl (by decide) (by decide) all0 rfl ?_
        intro T150 h150 v150 P150 K150 Q150
        obtain ⟨e150, g150⟩ := Q150
        subst g150
        subst e150
        show KGo p e below _ T150 m 231 #[.val (.long p0), .second, .val (.long p1), .second, .val (.long p2), .second, .val (.int p3), .val (.int p4), .val (.ref b132), .val (.int (0 : Int32)), .val (.int (1 : Int32)), .val (.int (0 : Int32)), .val (.long q0), .second, .val (.long q1), .second, .val (.long q2), .second, .val (.ref sx), .val (.long q0), .second, .val (.long (-1 : Int64)), .second, .val (.long q2), .second] [(.long q0)]
        refine k_lload (pc' := 233) C P150 at_231 rfl rfl ?_
        refine k_lcmp (pc' := 234) C P150 at_233 rfl ?_
        refine k_ifN (pc' := 237) C P150 at_234 (own_lcs _) rfl ?_
        refine k_aload (pc' := 239) C P150 at_237 rfl rfl rfl ?_
        refine k_iconst (z := (1 : Int32)) (pc' := 240) C P150 at_239 rfl rfl ?_
        refine k_callV (pc' := 243) (cells' := 7) (slots' := 32799) (W := 0) C P150 (C.w 144 rfl) (C.w 145 rfl) (fun _ q => notFace_of_selects (args := #[]) (mvT q (C.w 147 rfl))) (C.w 147 rfl) (C.w 146 rfl) (C.w 148 rfl) (C.w 2 rfl) (by decide) (rmGet1 l Z a0 hw _ n0 P150.size b132 al ch w1 kC kw N hN1 F149 f149_ch (fun j => if j = 2 then Value.long q2 else (fun j => if j = 1 then Value.long ((-1 : Int64) - ((0 : Int32).toInt64)) else (fun j => if j = 0 then Value.long q0 else Value.long 0) j) j) VW149 ((-1 : Int64) - ((0 : Int32).toInt64)) (-1 : Int64) rfl (fun _ => rfl) (fun q => absurd (by decide) q)) F149.exa [(.int (1 : Int32))] [] rfl (lenOf pd_16 rfl) rfl (Nat.le_of_eq rfl) at_240 rfl (by decide) (by decide) rfl rfl (by decide) (by decide) all0 rfl ?_
        intro T151 h151 v151 P151 K151 Q151
        obtain ⟨e151, g151⟩ := Q151
        subst g151
        subst e151
        show KGo p e below _ T151 m 243 #[.val (.long p0), .second, .val (.long p1), .second, .val (.long p2), .second, .val (.int p3), .val (.int p4), .val (.ref b132), .val (.int (0 : Int32)), .val (.int (1 : Int32)), .val (.int (0 : Int32)), .val (.long q0), .second, .val (.long q1), .second, .val (.long q2), .second, .val (.ref sx), .val (.long q0), .second, .val (.long (-1 : Int64)), .second, .val (.long q2), .second] [(.long (-1 : Int64))]
        refine k_lload (pc' := 245) C P151 at_243 rfl rfl ?_
        refine k_lcmp (pc' := 246) C P151 at_245 rfl ?_
        refine k_ifN (pc' := 249) C P151 at_246 (own_lcs _) rfl ?_
        refine k_aload (pc' := 251) C P151 at_249 rfl rfl rfl ?_
        refine k_iconst (z := (2 : Int32)) (pc' := 252) C P151 at_251 rfl rfl ?_
        refine k_callV (pc' := 255) (cells' := 7) (slots' := 32799) (W := 0) C P151 (C.w 144 rfl) (C.w 145 rfl) (fun _ q => notFace_of_selects (args := #[]) (mvT q (C.w 147 rfl))) (C.w 147 rfl) (C.w 146 rfl) (C.w 148 rfl) (C.w 2 rfl) (by decide) (rmGet2 l Z a0 hw _ n0 P151.size b132 al ch w1 kC kw N hN1 F149 f149_ch (fun j => if j = 2 then Value.long q2 else (fun j => if j = 1 then Value.long ((-1 : Int64) - ((0 : Int32).toInt64)) else (fun j => if j = 0 then Value.long q0 else Value.long 0) j) j) VW149 q2 q2 rfl (fun q => absurd q n_q2) (fun _ => rfl)) F149.exa [(.int (2 : Int32))] [] rfl (lenOf pd_16 rfl) rfl (Nat.le_of_eq rfl) at_252 rfl (by decide) (by decide) rfl rfl (by decide) (by decide) all0 rfl ?_
        intro T152 h152 v152 P152 K152 Q152
        obtain ⟨e152, g152⟩ := Q152
        subst g152
        subst e152
        show KGo p e below _ T152 m 255 #[.val (.long p0), .second, .val (.long p1), .second, .val (.long p2), .second, .val (.int p3), .val (.int p4), .val (.ref b132), .val (.int (0 : Int32)), .val (.int (1 : Int32)), .val (.int (0 : Int32)), .val (.long q0), .second, .val (.long q1), .second, .val (.long q2), .second, .val (.ref sx), .val (.long q0), .second, .val (.long (-1 : Int64)), .second, .val (.long q2), .second] [(.long q2)]
        refine k_lload (pc' := 257) C P152 at_255 rfl rfl ?_
        refine k_lcmp (pc' := 258) C P152 at_257 rfl ?_
        refine k_ifN (pc' := 261) C P152 at_258 (own_lcs _) rfl ?_
        refine k_iconst (z := (1 : Int32)) (pc' := 262) C P152 at_261 rfl rfl ?_
        refine k_goto (pc' := 266) C P152 at_262 (by decide) (by decide) ?_
        exact k_retZ (z' := (1 : Int32)) C P152 (by simp) at_266 rfl (by decide) (by decide) rfl
      · skip
        refine k_iload (pc' := 160) C P148 at_158 rfl rfl ?_
        refine k_ifN (pc' := 163) C P148 at_160 k_10 rfl ?_
        refine k_aload (pc' := 165) C P148 at_163 rfl rfl rfl ?_
        refine k_aload (pc' := 167) C P148 at_165 rfl rfl rfl ?_
        refine k_callV (pc' := 170) (cells' := 7) (slots' := 32799) (W := 0) C P148 (C.w 85 rfl) (C.w 86 rfl) (fun _ q => notFace_of_selects (args := #[]) (mvT q (C.w 88 rfl))) (C.w 88 rfl) (C.w 87 rfl) (C.w 89 rfl) (C.w 2 rfl) (by decide) (rmO21 l Z a0 hw _ n0 P148.size b132 al ch kC N hN1 OC ge_b132 F148 w1 kw (fun j => if j = 1 then Value.long ((-1 : Int64) - ((0 : Int32).toInt64)) else (fun j => if j = 0 then Value.long q0 else Value.long 0) j) gw138 f148_ch VW148 (0 + 1) gal133 sx f148_E_sx d kd fd148 gd148 VD148 OD FA148) F148.exa [(.ref sx)] [] rfl (lenOf pd_17 rfl) rfl (Nat.le_of_eq rfl) at_167 rfl (by decide) (by decide) rfl rfl (by decide) (by decide) (allS (Or.inr sz_b132) (allS (Or.inr (Nat.le_trans P137.kept.1 zw138)) (allS (Or.inr (Nat.le_trans P132.kept.1 zal133)) (allS (Or.inr (Nat.le_trans P138.kept.1 zd148)) all0)))) rfl ?_
        intro T153 h153 v153 P153 K153 Q153
        obtain ⟨rfl, ⟨F153, VW153⟩, ⟨fd153, FA153, VD153⟩⟩ := Q153
        have f153_E_sx := Exa.keep f148_E_sx K153
        have f153_ch := f148_ch.keep K153 (ninS (f148_ch.ne_ob F148.exa (C.w 1 rfl)) (ninS (KVA.neT f148_ch VW148 nofun) (ninS (f148_ch.ne_ob FA148.exa (C.w 24 rfl)) (ninS (KVA.neT f148_ch VD148 nofun) nin0))))
        show KGo p e below _ T153 m 170 #[.val (.long p0), .second, .val (.long p1), .second, .val (.long p2), .second, .val (.int p3), .val (.int p4), .val (.ref b132), .val (.int (0 : Int32)), .val (.int (1 : Int32)), .val (.int (1 : Int32)), .val (.long q0), .second, .val (.long q1), .second, .val (.long q2), .second, .val (.ref sx), .unset, .unset, .unset, .unset, .unset, .unset] []
        refine k_goto (pc' := 180) C P153 at_170 (by decide) (by decide) ?_
        refine k_iload (pc' := 182) C P153 at_180 rfl rfl ?_
        refine k_ifY (pc' := 191) C P153 at_182 k_01 (by decide) (by decide) ?_
        refine k_lload (pc' := 193) C P153 at_191 rfl rfl ?_
        refine k_lstore (l' := #[.val (.long p0), .second, .val (.long p1), .second, .val (.long p2), .second, .val (.int p3), .val (.int p4), .val (.ref b132), .val (.int (0 : Int32)), .val (.int (1 : Int32)), .val (.int (1 : Int32)), .val (.long q0), .second, .val (.long q1), .second, .val (.long q2), .second, .val (.ref sx), .val (.long q0), .second, .unset, .unset, .unset, .unset]) (pc' := 195) C P153 at_193 rfl rfl ?_
        refine k_iload (pc' := 197) C P153 at_195 rfl rfl ?_
        refine k_ifN (pc' := 200) C P153 at_197 k_10 rfl ?_
        refine k_ldc2L (pc' := 203) C P153 (C.w 143 rfl) at_200 rfl ?_
        refine k_goto (pc' := 208) C P153 at_203 (by decide) (by decide) ?_
        refine k_lstore (l' := #[.val (.long p0), .second, .val (.long p1), .second, .val (.long p2), .second, .val (.int p3), .val (.int p4), .val (.ref b132), .val (.int (0 : Int32)), .val (.int (1 : Int32)), .val (.int (1 : Int32)), .val (.long q0), .second, .val (.long q1), .second, .val (.long q2), .second, .val (.ref sx), .val (.long q0), .second, .val (.long (-1 : Int64)), .second, .unset, .unset]) (pc' := 210) C P153 at_208 rfl rfl ?_
        refine k_iload (pc' := 212) C P153 at_210 rfl rfl ?_
        refine k_ifN (pc' := 215) C P153 at_212 k_10 rfl ?_
        refine k_ldc2L (pc' := 218) C P153 (C.w 143 rfl) at_215 rfl ?_
        refine k_goto (pc' := 223) C P153 at_218 (by decide) (by decide) ?_
        refine k_lstore (l' := #[.val (.long p0), .second, .val (.long p1), .second, .val (.long p2), .second, .val (.int p3), .val (.int p4), .val (.ref b132), .val (.int (0 : Int32)), .val (.int (1 : Int32)), .val (.int (1 : Int32)), .val (.long q0), .second, .val (.long q1), .second, .val (.long q2), .second, .val (.ref sx), .val (.long q0), .second, .val (.long (-1 : Int64)), .second, .val (.long (-1 : Int64)), .second]) (pc' := 225) C P153 at_223 rfl rfl ?_
        refine k_aload (pc' := 227) C P153 at_225 rfl rfl rfl ?_
        refine k_iconst (z := (0 : Int32)) (pc' := 228) C P153 at_227 rfl rfl ?_
        refine k_callV (pc' := 231) (cells' := 7) (slots' := 32799) (W := 0) C P153 (C.w 144 rfl) (C.w 145 rfl) (fun _ q => notFace_of_selects (args := #[]) (mvT q (C.w 147 rfl))) (C.w 147 rfl) (C.w 146 rfl) (C.w 148 rfl) (C.w 2 rfl) (by decide) (rmGet0 l Z a0 hw _ n0 P153.size b132 al ch w1 kC kw N hN1 F153 f153_ch (fun j => if j = 2 then Value.long ((-1 : Int64) - ((1 : Int32).toInt64)) else (fun j => if j = 1 then Value.long ((-1 : Int64) - ((0 : Int32).toInt64)) else (fun j => if j = 0 then Value.long q0 else Value.long 0) j) j) VW153 q0 q0 rfl (fun q => absurd q n_q0) (fun _ => rfl)) F153.exa [(.int (0 : Int32))] [] rfl (lenOf pd_16 rfl) rfl (Nat.le_of_eq rfl) at_228 rfl (by decide) (by decide) rfl rfl (by decide) (by decide) all0 rfl ?_
        intro T154 h154 v154 P154 K154 Q154
        obtain ⟨e154, g154⟩ := Q154
        subst g154
        subst e154
        show KGo p e below _ T154 m 231 #[.val (.long p0), .second, .val (.long p1), .second, .val (.long p2), .second, .val (.int p3), .val (.int p4), .val (.ref b132), .val (.int (0 : Int32)), .val (.int (1 : Int32)), .val (.int (1 : Int32)), .val (.long q0), .second, .val (.long q1), .second, .val (.long q2), .second, .val (.ref sx), .val (.long q0), .second, .val (.long (-1 : Int64)), .second, .val (.long (-1 : Int64)), .second] [(.long q0)]
        refine k_lload (pc' := 233) C P154 at_231 rfl rfl ?_
        refine k_lcmp (pc' := 234) C P154 at_233 rfl ?_
        refine k_ifN (pc' := 237) C P154 at_234 (own_lcs _) rfl ?_
        refine k_aload (pc' := 239) C P154 at_237 rfl rfl rfl ?_
        refine k_iconst (z := (1 : Int32)) (pc' := 240) C P154 at_239 rfl rfl ?_
        refine k_callV (pc' := 243) (cells' := 7) (slots' := 32799) (W := 0) C P154 (C.w 144 rfl) (C.w 145 rfl) (fun _ q => notFace_of_selects (args := #[]) (mvT q (C.w 147 rfl))) (C.w 147 rfl) (C.w 146 rfl) (C.w 148 rfl) (C.w 2 rfl) (by decide) (rmGet1 l Z a0 hw _ n0 P154.size b132 al ch w1 kC kw N hN1 F153 f153_ch (fun j => if j = 2 then Value.long ((-1 : Int64) - ((1 : Int32).toInt64)) else (fun j => if j = 1 then Value.long ((-1 : Int64) - ((0 : Int32).toInt64)) else (fun j => if j = 0 then Value.long q0 else Value.long 0) j) j) VW153 ((-1 : Int64) - ((0 : Int32).toInt64)) (-1 : Int64) rfl (fun _ => rfl) (fun q => absurd (by decide) q)) F153.exa [(.int (1 : Int32))] [] rfl (lenOf pd_16 rfl) rfl (Nat.le_of_eq rfl) at_240 rfl (by decide) (by decide) rfl rfl (by decide) (by decide) all0 rfl ?_
        intro T155 h155 v155 P155 K155 Q155
        obtain ⟨e155, g155⟩ := Q155
        subst g155
        subst e155
        show KGo p e below _ T155 m 243 #[.val (.long p0), .second, .val (.long p1), .second, .val (.long p2), .second, .val (.int p3), .val (.int p4), .val (.ref b132), .val (.int (0 : Int32)), .val (.int (1 : Int32)), .val (.int (1 : Int32)), .val (.long q0), .second, .val (.long q1), .second, .val (.long q2), .second, .val (.ref sx), .val (.long q0), .second, .val (.long (-1 : Int64)), .second, .val (.long (-1 : Int64)), .second] [(.long (-1 : Int64))]
        refine k_lload (pc' := 245) C P155 at_243 rfl rfl ?_
        refine k_lcmp (pc' := 246) C P155 at_245 rfl ?_
        refine k_ifN (pc' := 249) C P155 at_246 (own_lcs _) rfl ?_
        refine k_aload (pc' := 251) C P155 at_249 rfl rfl rfl ?_
        refine k_iconst (z := (2 : Int32)) (pc' := 252) C P155 at_251 rfl rfl ?_
        refine k_callV (pc' := 255) (cells' := 7) (slots' := 32799) (W := 0) C P155 (C.w 144 rfl) (C.w 145 rfl) (fun _ q => notFace_of_selects (args := #[]) (mvT q (C.w 147 rfl))) (C.w 147 rfl) (C.w 146 rfl) (C.w 148 rfl) (C.w 2 rfl) (by decide) (rmGet2 l Z a0 hw _ n0 P155.size b132 al ch w1 kC kw N hN1 F153 f153_ch (fun j => if j = 2 then Value.long ((-1 : Int64) - ((1 : Int32).toInt64)) else (fun j => if j = 1 then Value.long ((-1 : Int64) - ((0 : Int32).toInt64)) else (fun j => if j = 0 then Value.long q0 else Value.long 0) j) j) VW153 ((-1 : Int64) - ((1 : Int32).toInt64)) (-1 : Int64) rfl (fun _ => rfl) (fun q => absurd (by decide) q)) F153.exa [(.int (2 : Int32))] [] rfl (lenOf pd_16 rfl) rfl (Nat.le_of_eq rfl) at_252 rfl (by decide) (by decide) rfl rfl (by decide) (by decide) all0 rfl ?_
        intro T156 h156 v156 P156 K156 Q156
        obtain ⟨e156, g156⟩ := Q156
        subst g156
        subst e156
        show KGo p e below _ T156 m 255 #[.val (.long p0), .second, .val (.long p1), .second, .val (.long p2), .second, .val (.int p3), .val (.int p4), .val (.ref b132), .val (.int (0 : Int32)), .val (.int (1 : Int32)), .val (.int (1 : Int32)), .val (.long q0), .second, .val (.long q1), .second, .val (.long q2), .second, .val (.ref sx), .val (.long q0), .second, .val (.long (-1 : Int64)), .second, .val (.long (-1 : Int64)), .second] [(.long (-1 : Int64))]
        refine k_lload (pc' := 257) C P156 at_255 rfl rfl ?_
        refine k_lcmp (pc' := 258) C P156 at_257 rfl ?_
        refine k_ifN (pc' := 261) C P156 at_258 (own_lcs _) rfl ?_
        refine k_iconst (z := (1 : Int32)) (pc' := 262) C P156 at_261 rfl rfl ?_
        refine k_goto (pc' := 266) C P156 at_262 (by decide) (by decide) ?_
        exact k_retZ (z' := (1 : Int32)) C P156 (by simp) at_266 rfl (by decide) (by decide) rfl
  · skip
    refine k_iload (pc' := 116) C P137 at_114 rfl rfl ?_
    refine k_ifN (pc' := 119) C P137 at_116 k_10 rfl ?_
    refine k_aload (pc' := 121) C P137 at_119 rfl rfl rfl ?_
    refine k_aload (pc' := 123) C P137 at_121 rfl rfl rfl ?_
    refine k_callV (pc' := 126) (cells' := 7) (slots' := 32799) (W := 0) C P137 (C.w 85 rfl) (C.w 86 rfl) (fun _ q => notFace_of_selects (args := #[]) (mvT q (C.w 88 rfl))) (C.w 88 rfl) (C.w 87 rfl) (C.w 89 rfl) (C.w 2 rfl) (by decide) (rmO00 l Z a0 hw _ n0 P137.size b132 al ch kC N hN1 OC ge_b132 f137_b132 gch133 f137_ch 0 gal133 sx E137x ed (SD.ext (k_ext_of_keep P137.kept)) kE fE (VE.ext (k_ext_of_keep P137.kept)) f137_al) f137_b132.exa [(.ref sx)] [] rfl (lenOf pd_17 rfl) rfl (Nat.le_of_eq rfl) at_123 rfl (by decide) (by decide) rfl rfl (by decide) (by decide) (allS (Or.inr sz_b132) (allS (Or.inr (Nat.le_trans P132.kept.1 zch133)) (allS (Or.inr (Nat.le_trans P132.kept.1 zal133)) all0))) rfl ?_
    intro T157 h157 v157 P157 K157 Q157
    obtain ⟨rfl, ⟨w1, kw, gw157, zw157, F157, VC157, VW157⟩, ⟨d, kd, fd157, gd157, zd157, FA157, VD157, OD⟩⟩ := Q157
    have f157_E_sx := Exa.keep E137x K157
    show KGo p e below _ T157 m 126 #[.val (.long p0), .second, .val (.long p1), .second, .val (.long p2), .second, .val (.int p3), .val (.int p4), .val (.ref b132), .val (.int (1 : Int32)), .val (.int m10), .val (.int m11), .val (.long q0), .second, .val (.long q1), .second, .val (.long q2), .second, .val (.ref sx), .unset, .unset, .unset, .unset, .unset, .unset] []
    refine k_goto (pc' := 136) C P157 at_126 (by decide) (by decide) ?_
    rcases h_m10 with rfl | rfl
    · skip
      refine k_iload (pc' := 138) C P157 at_136 rfl rfl ?_
      refine k_ifY (pc' := 151) C P157 at_138 k_01 (by decide) (by decide) ?_
      refine k_aload (pc' := 153) C P157 at_151 rfl rfl rfl ?_
      refine k_lload (pc' := 155) C P157 at_153 rfl rfl ?_
      refine k_callV (pc' := 158) (cells' := 7) (slots' := 32799) (W := 0) C P157 (C.w 71 rfl) (C.w 72 rfl) (fun _ q => notFace_of_selects (args := #[]) (mvT q (C.w 74 rfl))) (C.w 74 rfl) (C.w 73 rfl) (C.w 75 rfl) (C.w 2 rfl) (by decide) (rmP1 l Z a0 hw _ n0 P157.size b132 al ch kC N hN1 OC ge_b132 F157 w1 kw (fun j => if j = 0 then Value.long ((-1 : Int64) - ((0 : Int32).toInt64)) else Value.long 0) gw157 VC157 VW157 q1) F157.exa [(.long q1)] [] rfl (lenOf pd_5 rfl) rfl (Nat.le_of_eq rfl) at_155 rfl (by decide) (by decide) rfl rfl (by decide) (by decide) (allS (Or.inr sz_b132) (allS (Or.inr (Nat.le_trans P137.kept.1 zw157)) all0)) rfl ?_
      intro T158 h158 v158 P158 K158 Q158
      obtain ⟨rfl, F158, VW158⟩ := Q158
      have f158_E_sx := Exa.keep f157_E_sx K158
      have f158_ch := VC157.keep K158 (ninS (VC157.ne_ob F157.exa (C.w 1 rfl)) (ninS (KVA.neT VC157 VW157 nofun) nin0))
      have f158_al := FA157.keep K158 (ninS (Exa.ne FA157.exa F157.exa (by decide)) (ninS (Ne.symm (VW157.ne_ob FA157.exa (C.w 24 rfl))) nin0))
      have f158_d := VD157.keep K158 (ninS (VD157.ne_ob F157.exa (C.w 1 rfl)) (ninS (KVA.neT VD157 VW157 nofun) nin0))
      show KGo p e below _ T158 m 158 #[.val (.long p0), .second, .val (.long p1), .second, .val (.long p2), .second, .val (.int p3), .val (.int p4), .val (.ref b132), .val (.int (1 : Int32)), .val (.int (0 : Int32)), .val (.int m11), .val (.long q0), .second, .val (.long q1), .second, .val (.long q2), .second, .val (.ref sx), .unset, .unset, .unset, .unset, .unset, .unset] []
      rcases h_m11 with rfl | rfl
      · skip
        refine k_iload (pc' := 160) C P158 at_158 rfl rfl ?_
        refine k_ifY (pc' := 173) C P158 at_160 k_01 (by decide) (by decide) ?_
        refine k_aload (pc' := 175) C P158 at_173 rfl rfl rfl ?_
        refine k_lload (pc' := 177) C P158 at_175 rfl rfl ?_
        refine k_callV (pc' := 180) (cells' := 7) (slots' := 32799) (W := 0) C P158 (C.w 71 rfl) (C.w 72 rfl) (fun _ q => notFace_of_selects (args := #[]) (mvT q (C.w 74 rfl))) (C.w 74 rfl) (C.w 73 rfl) (C.w 75 rfl) (C.w 2 rfl) (by decide) (rmP2 l Z a0 hw _ n0 P158.size b132 al ch kC N hN1 OC ge_b132 F158 w1 kw (fun j => if j = 1 then Value.long q1 else (fun j => if j = 0 then Value.long ((-1 : Int64) - ((0 : Int32).toInt64)) else Value.long 0) j) gw157 f158_ch VW158 q2) F158.exa [(.long q2)] [] rfl (lenOf pd_5 rfl) rfl (Nat.le_of_eq rfl) at_177 rfl (by decide) (by decide) rfl rfl (by decide) (by decide) (allS (Or.inr sz_b132) (allS (Or.inr (Nat.le_trans P137.kept.1 zw157)) all0)) rfl ?_
        intro T159 h159 v159 P159 K159 Q159
        obtain ⟨rfl, F159, VW159⟩ := Q159
        have f159_E_sx := Exa.keep f158_E_sx K159
        have f159_ch := f158_ch.keep K159 (ninS (f158_ch.ne_ob F158.exa (C.w 1 rfl)) (ninS (KVA.neT f158_ch VW158 nofun) nin0))
        have f159_al := f158_al.keep K159 (ninS (Exa.ne f158_al.exa F158.exa (by decide)) (ninS (Ne.symm (VW158.ne_ob f158_al.exa (C.w 24 rfl))) nin0))
        have f159_d := f158_d.keep K159 (ninS (f158_d.ne_ob F158.exa (C.w 1 rfl)) (ninS (KVA.neT f158_d VW158 nofun) nin0))
        show KGo p e below _ T159 m 180 #[.val (.long p0), .second, .val (.long p1), .second, .val (.long p2), .second, .val (.int p3), .val (.int p4), .val (.ref b132), .val (.int (1 : Int32)), .val (.int (0 : Int32)), .val (.int (0 : Int32)), .val (.long q0), .second, .val (.long q1), .second, .val (.long q2), .second, .val (.ref sx), .unset, .unset, .unset, .unset, .unset, .unset] []
        refine k_iload (pc' := 182) C P159 at_180 rfl rfl ?_
        refine k_ifN (pc' := 185) C P159 at_182 k_10 rfl ?_
        refine k_ldc2L (pc' := 188) C P159 (C.w 143 rfl) at_185 rfl ?_
        refine k_goto (pc' := 193) C P159 at_188 (by decide) (by decide) ?_
        refine k_lstore (l' := #[.val (.long p0), .second, .val (.long p1), .second, .val (.long p2), .second, .val (.int p3), .val (.int p4), .val (.ref b132), .val (.int (1 : Int32)), .val (.int (0 : Int32)), .val (.int (0 : Int32)), .val (.long q0), .second, .val (.long q1), .second, .val (.long q2), .second, .val (.ref sx), .val (.long (-1 : Int64)), .second, .unset, .unset, .unset, .unset]) (pc' := 195) C P159 at_193 rfl rfl ?_
        refine k_iload (pc' := 197) C P159 at_195 rfl rfl ?_
        refine k_ifY (pc' := 206) C P159 at_197 k_01 (by decide) (by decide) ?_
        refine k_lload (pc' := 208) C P159 at_206 rfl rfl ?_
        refine k_lstore (l' := #[.val (.long p0), .second, .val (.long p1), .second, .val (.long p2), .second, .val (.int p3), .val (.int p4), .val (.ref b132), .val (.int (1 : Int32)), .val (.int (0 : Int32)), .val (.int (0 : Int32)), .val (.long q0), .second, .val (.long q1), .second, .val (.long q2), .second, .val (.ref sx), .val (.long (-1 : Int64)), .second, .val (.long q1), .second, .unset, .unset]) (pc' := 210) C P159 at_208 rfl rfl ?_
        refine k_iload (pc' := 212) C P159 at_210 rfl rfl ?_
        refine k_ifY (pc' := 221) C P159 at_212 k_01 (by decide) (by decide) ?_
        refine k_lload (pc' := 223) C P159 at_221 rfl rfl ?_
        refine k_lstore (l' := #[.val (.long p0), .second, .val (.long p1), .second, .val (.long p2), .second, .val (.int p3), .val (.int p4), .val (.ref b132), .val (.int (1 : Int32)), .val (.int (0 : Int32)), .val (.int (0 : Int32)), .val (.long q0), .second, .val (.long q1), .second, .val (.long q2), .second, .val (.ref sx), .val (.long (-1 : Int64)), .second, .val (.long q1), .second, .val (.long q2), .second]) (pc' := 225) C P159 at_223 rfl rfl ?_
        refine k_aload (pc' := 227) C P159 at_225 rfl rfl rfl ?_
        refine k_iconst (z := (0 : Int32)) (pc' := 228) C P159 at_227 rfl rfl ?_
        refine k_callV (pc' := 231) (cells' := 7) (slots' := 32799) (W := 0) C P159 (C.w 144 rfl) (C.w 145 rfl) (fun _ q => notFace_of_selects (args := #[]) (mvT q (C.w 147 rfl))) (C.w 147 rfl) (C.w 146 rfl) (C.w 148 rfl) (C.w 2 rfl) (by decide) (rmGet0 l Z a0 hw _ n0 P159.size b132 al ch w1 kC kw N hN1 F159 f159_ch (fun j => if j = 2 then Value.long q2 else (fun j => if j = 1 then Value.long q1 else (fun j => if j = 0 then Value.long ((-1 : Int64) - ((0 : Int32).toInt64)) else Value.long 0) j) j) VW159 ((-1 : Int64) - ((0 : Int32).toInt64)) (-1 : Int64) rfl (fun _ => rfl) (fun q => absurd (by decide) q)) F159.exa [(.int (0 : Int32))] [] rfl (lenOf pd_16 rfl) rfl (Nat.le_of_eq rfl) at_228 rfl (by decide) (by decide) rfl rfl (by decide) (by decide) all0 rfl ?_
        intro T160 h160 v160 P160 K160 Q160
        obtain ⟨e160, g160⟩ := Q160
        subst g160
        subst e160
        show KGo p e below _ T160 m 231 #[.val (.long p0), .second, .val (.long p1), .second, .val (.long p2), .second, .val (.int p3), .val (.int p4), .val (.ref b132), .val (.int (1 : Int32)), .val (.int (0 : Int32)), .val (.int (0 : Int32)), .val (.long q0), .second, .val (.long q1), .second, .val (.long q2), .second, .val (.ref sx), .val (.long (-1 : Int64)), .second, .val (.long q1), .second, .val (.long q2), .second] [(.long (-1 : Int64))]
        refine k_lload (pc' := 233) C P160 at_231 rfl rfl ?_
        refine k_lcmp (pc' := 234) C P160 at_233 rfl ?_
        refine k_ifN (pc' := 237) C P160 at_234 (own_lcs _) rfl ?_
        refine k_aload (pc' := 239) C P160 at_237 rfl rfl rfl ?_
        refine k_iconst (z := (1 : Int32)) (pc' := 240) C P160 at_239 rfl rfl ?_
        refine k_callV (pc' := 243) (cells' := 7) (slots' := 32799) (W := 0) C P160 (C.w 144 rfl) (C.w 145 rfl) (fun _ q => notFace_of_selects (args := #[]) (mvT q (C.w 147 rfl))) (C.w 147 rfl) (C.w 146 rfl) (C.w 148 rfl) (C.w 2 rfl) (by decide) (rmGet1 l Z a0 hw _ n0 P160.size b132 al ch w1 kC kw N hN1 F159 f159_ch (fun j => if j = 2 then Value.long q2 else (fun j => if j = 1 then Value.long q1 else (fun j => if j = 0 then Value.long ((-1 : Int64) - ((0 : Int32).toInt64)) else Value.long 0) j) j) VW159 q1 q1 rfl (fun q => absurd q n_q1) (fun _ => rfl)) F159.exa [(.int (1 : Int32))] [] rfl (lenOf pd_16 rfl) rfl (Nat.le_of_eq rfl) at_240 rfl (by decide) (by decide) rfl rfl (by decide) (by decide) all0 rfl ?_
        intro T161 h161 v161 P161 K161 Q161
        obtain ⟨e161, g161⟩ := Q161
        subst g161
        subst e161
        show KGo p e below _ T161 m 243 #[.val (.long p0), .second, .val (.long p1), .second, .val (.long p2), .second, .val (.int p3), .val (.int p4), .val (.ref b132), .val (.int (1 : Int32)), .val (.int (0 : Int32)), .val (.int (0 : Int32)), .val (.long q0), .second, .val (.long q1), .second, .val (.long q2), .second, .val (.ref sx), .val (.long (-1 : Int64)), .second, .val (.long q1), .second, .val (.long q2), .second] [(.long q1)]
        refine k_lload (pc' := 245) C P161 at_243 rfl rfl ?_
        refine k_lcmp (pc' := 246) C P161 at_245 rfl ?_
        refine k_ifN (pc' := 249) C P161 at_246 (own_lcs _) rfl ?_
        refine k_aload (pc' := 251) C P161 at_249 rfl rfl rfl ?_
        refine k_iconst (z := (2 : Int32)) (pc' := 252) C P161 at_251 rfl rfl ?_
        refine k_callV (pc' := 255) (cells' := 7) (slots' := 32799) (W := 0) C P161 (C.w 144 rfl) (C.w 145 rfl) (fun _ q => notFace_of_selects (args := #[]) (mvT q (C.w 147 rfl))) (C.w 147 rfl) (C.w 146 rfl) (C.w 148 rfl) (C.w 2 rfl) (by decide) (rmGet2 l Z a0 hw _ n0 P161.size b132 al ch w1 kC kw N hN1 F159 f159_ch (fun j => if j = 2 then Value.long q2 else (fun j => if j = 1 then Value.long q1 else (fun j => if j = 0 then Value.long ((-1 : Int64) - ((0 : Int32).toInt64)) else Value.long 0) j) j) VW159 q2 q2 rfl (fun q => absurd q n_q2) (fun _ => rfl)) F159.exa [(.int (2 : Int32))] [] rfl (lenOf pd_16 rfl) rfl (Nat.le_of_eq rfl) at_252 rfl (by decide) (by decide) rfl rfl (by decide) (by decide) all0 rfl ?_
        intro T162 h162 v162 P162 K162 Q162
        obtain ⟨e162, g162⟩ := Q162
        subst g162
        subst e162
        show KGo p e below _ T162 m 255 #[.val (.long p0), .second, .val (.long p1), .second, .val (.long p2), .second, .val (.int p3), .val (.int p4), .val (.ref b132), .val (.int (1 : Int32)), .val (.int (0 : Int32)), .val (.int (0 : Int32)), .val (.long q0), .second, .val (.long q1), .second, .val (.long q2), .second, .val (.ref sx), .val (.long (-1 : Int64)), .second, .val (.long q1), .second, .val (.long q2), .second] [(.long q2)]
        refine k_lload (pc' := 257) C P162 at_255 rfl rfl ?_
        refine k_lcmp (pc' := 258) C P162 at_257 rfl ?_
        refine k_ifN (pc' := 261) C P162 at_258 (own_lcs _) rfl ?_
        refine k_iconst (z := (1 : Int32)) (pc' := 262) C P162 at_261 rfl rfl ?_
        refine k_goto (pc' := 266) C P162 at_262 (by decide) (by decide) ?_
        exact k_retZ (z' := (1 : Int32)) C P162 (by simp) at_266 rfl (by decide) (by decide) rfl
      · skip
        refine k_iload (pc' := 160) C P158 at_158 rfl rfl ?_
        refine k_ifN (pc' := 163) C P158 at_160 k_10 rfl ?_
        refine k_aload (pc' := 165) C P158 at_163 rfl rfl rfl ?_
        refine k_aload (pc' := 167) C P158 at_165 rfl rfl rfl ?_
        refine k_callV (pc' := 170) (cells' := 7) (slots' := 32799) (W := 0) C P158 (C.w 85 rfl) (C.w 86 rfl) (fun _ q => notFace_of_selects (args := #[]) (mvT q (C.w 88 rfl))) (C.w 88 rfl) (C.w 87 rfl) (C.w 89 rfl) (C.w 2 rfl) (by decide) (rmO21 l Z a0 hw _ n0 P158.size b132 al ch kC N hN1 OC ge_b132 F158 w1 kw (fun j => if j = 1 then Value.long q1 else (fun j => if j = 0 then Value.long ((-1 : Int64) - ((0 : Int32).toInt64)) else Value.long 0) j) gw157 f158_ch VW158 (0 + 1) gal133 sx f158_E_sx d kd fd157 gd157 f158_d OD f158_al) F158.exa [(.ref sx)] [] rfl (lenOf pd_17 rfl) rfl (Nat.le_of_eq rfl) at_167 rfl (by decide) (by decide) rfl rfl (by decide) (by decide) (allS (Or.inr sz_b132) (allS (Or.inr (Nat.le_trans P137.kept.1 zw157)) (allS (Or.inr (Nat.le_trans P132.kept.1 zal133)) (allS (Or.inr (Nat.le_trans P137.kept.1 zd157)) all0)))) rfl ?_
        intro T163 h163 v163 P163 K163 Q163
        obtain ⟨rfl, ⟨F163, VW163⟩, ⟨fd163, FA163, VD163⟩⟩ := Q163
        have f163_E_sx := Exa.keep f158_E_sx K163
        have f163_ch := f158_ch.keep K163 (ninS (f158_ch.ne_ob F158.exa (C.w 1 rfl)) (ninS (KVA.neT f158_ch VW158 nofun) (ninS (f158_ch.ne_ob f158_al.exa (C.w 24 rfl)) (ninS (KVA.neT f158_ch f158_d nofun) nin0))))
        show KGo p e below _ T163 m 170 #[.val (.long p0), .second, .val (.long p1), .second, .val (.long p2), .second, .val (.int p3), .val (.int p4), .val (.ref b132), .val (.int (1 : Int32)), .val (.int (0 : Int32)), .val (.int (1 : Int32)), .val (.long q0), .second, .val (.long q1), .second, .val (.long q2), .second, .val (.ref sx), .unset, .unset, .unset, .unset, .unset, .unset] []
        refine k_goto (pc' := 180) C P163 at_170 (by decide) (by decide) ?_
        refine k_iload (pc' := 182) C P163 at_180 rfl rfl ?_
        refine k_ifN (pc' := 185) C P163 at_182 k_10 rfl ?_
        refine k_ldc2L (pc' := 188) C P163 (C.w 143 rfl) at_185 rfl ?_
        refine k_goto (pc' := 193) C P163 at_188 (by decide) (by decide) ?_
        refine k_lstore (l' := #[.val (.long p0), .second, .val (.long p1), .second, .val (.long p2), .second, .val (.int p3), .val (.int p4), .val (.ref b132), .val (.int (1 : Int32)), .val (.int (0 : Int32)), .val (.int (1 : Int32)), .val (.long q0), .second, .val (.long q1), .second, .val (.long q2), .second, .val (.ref sx), .val (.long (-1 : Int64)), .second, .unset, .unset, .unset, .unset]) (pc' := 195) C P163 at_193 rfl rfl ?_
        refine k_iload (pc' := 197) C P163 at_195 rfl rfl ?_
        refine k_ifY (pc' := 206) C P163 at_197 k_01 (by decide) (by decide) ?_
        refine k_lload (pc' := 208) C P163 at_206 rfl rfl ?_
        refine k_lstore (l' := #[.val (.long p0), .second, .val (.long p1), .second, .val (.long p2), .second, .val (.int p3), .val (.int p4), .val (.ref b132), .val (.int (1 : Int32)), .val (.int (0 : Int32)), .val (.int (1 : Int32)), .val (.long q0), .second, .val (.long q1), .second, .val (.long q2), .second, .val (.ref sx), .val (.long (-1 : Int64)), .second, .val (.long q1), .second, .unset, .unset]) (pc' := 210) C P163 at_208 rfl rfl ?_
        refine k_iload (pc' := 212) C P163 at_210 rfl rfl ?_
        refine k_ifN (pc' := 215) C P163 at_212 k_10 rfl ?_
        refine k_ldc2L (pc' := 218) C P163 (C.w 143 rfl) at_215 rfl ?_
        refine k_goto (pc' := 223) C P163 at_218 (by decide) (by decide) ?_
        refine k_lstore (l' := #[.val (.long p0), .second, .val (.long p1), .second, .val (.long p2), .second, .val (.int p3), .val (.int p4), .val (.ref b132), .val (.int (1 : Int32)), .val (.int (0 : Int32)), .val (.int (1 : Int32)), .val (.long q0), .second, .val (.long q1), .second, .val (.long q2), .second, .val (.ref sx), .val (.long (-1 : Int64)), .second, .val (.long q1), .second, .val (.long (-1 : Int64)), .second]) (pc' := 225) C P163 at_223 rfl rfl ?_
        refine k_aload (pc' := 227) C P163 at_225 rfl rfl rfl ?_
        refine k_iconst (z := (0 : Int32)) (pc' := 228) C P163 at_227 rfl rfl ?_
        refine k_callV (pc' := 231) (cells' := 7) (slots' := 32799) (W := 0) C P163 (C.w 144 rfl) (C.w 145 rfl) (fun _ q => notFace_of_selects (args := #[]) (mvT q (C.w 147 rfl))) (C.w 147 rfl) (C.w 146 rfl) (C.w 148 rfl) (C.w 2 rfl) (by decide) (rmGet0 l Z a0 hw _ n0 P163.size b132 al ch w1 kC kw N hN1 F163 f163_ch (fun j => if j = 2 then Value.long ((-1 : Int64) - ((1 : Int32).toInt64)) else (fun j => if j = 1 then Value.long q1 else (fun j => if j = 0 then Value.long ((-1 : Int64) - ((0 : Int32).toInt64)) else Value.long 0) j) j) VW163 ((-1 : Int64) - ((0 : Int32).toInt64)) (-1 : Int64) rfl (fun _ => rfl) (fun q => absurd (by decide) q)) F163.exa [(.int (0 : Int32))] [] rfl (lenOf pd_16 rfl) rfl (Nat.le_of_eq rfl) at_228 rfl (by decide) (by decide) rfl rfl (by decide) (by decide) all0 rfl ?_
        intro T164 h164 v164 P164 K164 Q164
        obtain ⟨e164, g164⟩ := Q164
        subst g164
        subst e164
        show KGo p e below _ T164 m 231 #[.val (.long p0), .second, .val (.long p1), .second, .val (.long p2), .second, .val (.int p3), .val (.int p4), .val (.ref b132), .val (.int (1 : Int32)), .val (.int (0 : Int32)), .val (.int (1 : Int32)), .val (.long q0), .second, .val (.long q1), .second, .val (.long q2), .second, .val (.ref sx), .val (.long (-1 : Int64)), .second, .val (.long q1), .second, .val (.long (-1 : Int64)), .second] [(.long (-1 : Int64))]
        refine k_lload (pc' := 233) C P164 at_231 rfl rfl ?_
        refine k_lcmp (pc' := 234) C P164 at_233 rfl ?_
        refine k_ifN (pc' := 237) C P164 at_234 (own_lcs _) rfl ?_
        refine k_aload (pc' := 239) C P164 at_237 rfl rfl rfl ?_
        refine k_iconst (z := (1 : Int32)) (pc' := 240) C P164 at_239 rfl rfl ?_
        refine k_callV (pc' := 243) (cells' := 7) (slots' := 32799) (W := 0) C P164 (C.w 144 rfl) (C.w 145 rfl) (fun _ q => notFace_of_selects (args := #[]) (mvT q (C.w 147 rfl))) (C.w 147 rfl) (C.w 146 rfl) (C.w 148 rfl) (C.w 2 rfl) (by decide) (rmGet1 l Z a0 hw _ n0 P164.size b132 al ch w1 kC kw N hN1 F163 f163_ch (fun j => if j = 2 then Value.long ((-1 : Int64) - ((1 : Int32).toInt64)) else (fun j => if j = 1 then Value.long q1 else (fun j => if j = 0 then Value.long ((-1 : Int64) - ((0 : Int32).toInt64)) else Value.long 0) j) j) VW163 q1 q1 rfl (fun q => absurd q n_q1) (fun _ => rfl)) F163.exa [(.int (1 : Int32))] [] rfl (lenOf pd_16 rfl) rfl (Nat.le_of_eq rfl) at_240 rfl (by decide) (by decide) rfl rfl (by decide) (by decide) all0 rfl ?_
        intro T165 h165 v165 P165 K165 Q165
        obtain ⟨e165, g165⟩ := Q165
        subst g165
        subst e165
        show KGo p e below _ T165 m 243 #[.val (.long p0), .second, .val (.long p1), .second, .val (.long p2), .second, .val (.int p3), .val (.int p4), .val (.ref b132), .val (.int (1 : Int32)), .val (.int (0 : Int32)), .val (.int (1 : Int32)), .val (.long q0), .second, .val (.long q1), .second, .val (.long q2), .second, .val (.ref sx), .val (.long (-1 : Int64)), .second, .val (.long q1), .second, .val (.long (-1 : Int64)), .second] [(.long q1)]
        refine k_lload (pc' := 245) C P165 at_243 rfl rfl ?_
        refine k_lcmp (pc' := 246) C P165 at_245 rfl ?_
        refine k_ifN (pc' := 249) C P165 at_246 (own_lcs _) rfl ?_
        refine k_aload (pc' := 251) C P165 at_249 rfl rfl rfl ?_
        refine k_iconst (z := (2 : Int32)) (pc' := 252) C P165 at_251 rfl rfl ?_
        refine k_callV (pc' := 255) (cells' := 7) (slots' := 32799) (W := 0) C P165 (C.w 144 rfl) (C.w 145 rfl) (fun _ q => notFace_of_selects (args := #[]) (mvT q (C.w 147 rfl))) (C.w 147 rfl) (C.w 146 rfl) (C.w 148 rfl) (C.w 2 rfl) (by decide) (rmGet2 l Z a0 hw _ n0 P165.size b132 al ch w1 kC kw N hN1 F163 f163_ch (fun j => if j = 2 then Value.long ((-1 : Int64) - ((1 : Int32).toInt64)) else (fun j => if j = 1 then Value.long q1 else (fun j => if j = 0 then Value.long ((-1 : Int64) - ((0 : Int32).toInt64)) else Value.long 0) j) j) VW163 ((-1 : Int64) - ((1 : Int32).toInt64)) (-1 : Int64) rfl (fun _ => rfl) (fun q => absurd (by decide) q)) F163.exa [(.int (2 : Int32))] [] rfl (lenOf pd_16 rfl) rfl (Nat.le_of_eq rfl) at_252 rfl (by decide) (by decide) rfl rfl (by decide) (by decide) all0 rfl ?_
        intro T166 h166 v166 P166 K166 Q166
        obtain ⟨e166, g166⟩ := Q166
        subst g166
        subst e166
        show KGo p e below _ T166 m 255 #[.val (.long p0), .second, .val (.long p1), .second, .val (.long p2), .second, .val (.int p3), .val (.int p4), .val (.ref b132), .val (.int (1 : Int32)), .val (.int (0 : Int32)), .val (.int (1 : Int32)), .val (.long q0), .second, .val (.long q1), .second, .val (.long q2), .second, .val (.ref sx), .val (.long (-1 : Int64)), .second, .val (.long q1), .second, .val (.long (-1 : Int64)), .second] [(.long (-1 : Int64))]
        refine k_lload (pc' := 257) C P166 at_255 rfl rfl ?_
        refine k_lcmp (pc' := 258) C P166 at_257 rfl ?_
        refine k_ifN (pc' := 261) C P166 at_258 (own_lcs _) rfl ?_
        refine k_iconst (z := (1 : Int32)) (pc' := 262) C P166 at_261 rfl rfl ?_
        refine k_goto (pc' := 266) C P166 at_262 (by decide) (by decide) ?_
        exact k_retZ (z' := (1 : Int32)) C P166 (by simp) at_266 rfl (by decide) (by decide) rfl
    · skip
      refine k_iload (pc' := 138) C P157 at_136 rfl rfl ?_
      refine k_ifN (pc' := 141) C P157 at_138 k_10 rfl ?_
      refine k_aload (pc' := 143) C P157 at_141 rfl rfl rfl ?_
      refine k_aload (pc' := 145) C P157 at_143 rfl rfl rfl ?_
      refine k_callV (pc' := 148) (cells' := 7) (slots' := 32799) (W := 0) C P157 (C.w 85 rfl) (C.w 86 rfl) (fun _ q => notFace_of_selects (args := #[]) (mvT q (C.w 88 rfl))) (C.w 88 rfl) (C.w 87 rfl) (C.w 89 rfl) (C.w 2 rfl) (by decide) (rmO11 l Z a0 hw _ n0 P157.size b132 al ch kC N hN1 OC ge_b132 F157 w1 kw (fun j => if j = 0 then Value.long ((-1 : Int64) - ((0 : Int32).toInt64)) else Value.long 0) gw157 VC157 VW157 (0 + 1) gal133 sx f157_E_sx d kd fd157 gd157 VD157 OD FA157) F157.exa [(.ref sx)] [] rfl (lenOf pd_17 rfl) rfl (Nat.le_of_eq rfl) at_145 rfl (by decide) (by decide) rfl rfl (by decide) (by decide) (allS (Or.inr sz_b132) (allS (Or.inr (Nat.le_trans P137.kept.1 zw157)) (allS (Or.inr (Nat.le_trans P132.kept.1 zal133)) (allS (Or.inr (Nat.le_trans P137.kept.1 zd157)) all0)))) rfl ?_
      intro T167 h167 v167 P167 K167 Q167
      obtain ⟨rfl, ⟨F167, VW167⟩, ⟨fd167, FA167, VD167⟩⟩ := Q167
      have f167_E_sx := Exa.keep f157_E_sx K167
      have f167_ch := VC157.keep K167 (ninS (VC157.ne_ob F157.exa (C.w 1 rfl)) (ninS (KVA.neT VC157 VW157 nofun) (ninS (VC157.ne_ob FA157.exa (C.w 24 rfl)) (ninS (KVA.neT VC157 VD157 nofun) nin0))))
      show KGo p e below _ T167 m 148 #[.val (.long p0), .second, .val (.long p1), .second, .val (.long p2), .second, .val (.int p3), .val (.int p4), .val (.ref b132), .val (.int (1 : Int32)), .val (.int (1 : Int32)), .val (.int m11), .val (.long q0), .second, .val (.long q1), .second, .val (.long q2), .second, .val (.ref sx), .unset, .unset, .unset, .unset, .unset, .unset] []
      refine k_goto (pc' := 158) C P167 at_148 (by decide) (by decide) ?_
      rcases h_m11 with rfl | rfl
      · skip
        refine k_iload (pc' := 160) C P167 at_158 rfl rfl ?_
        refine k_ifY (pc' := 173) C P167 at_160 k_01 (by decide) (by decide) ?_
        refine k_aload (pc' := 175) C P167 at_173 rfl rfl rfl ?_
        refine k_lload (pc' := 177) C P167 at_175 rfl rfl ?_
        refine k_callV (pc' := 180) (cells' := 7) (slots' := 32799) (W := 0) C P167 (C.w 71 rfl) (C.w 72 rfl) (fun _ q => notFace_of_selects (args := #[]) (mvT q (C.w 74 rfl))) (C.w 74 rfl) (C.w 73 rfl) (C.w 75 rfl) (C.w 2 rfl) (by decide) (rmP2 l Z a0 hw _ n0 P167.size b132 al ch kC N hN1 OC ge_b132 F167 w1 kw (fun j => if j = 1 then Value.long ((-1 : Int64) - ((1 : Int32).toInt64)) else (fun j => if j = 0 then Value.long ((-1 : Int64) - ((0 : Int32).toInt64)) else Value.long 0) j) gw157 f167_ch VW167 q2) F167.exa [(.long q2)] [] rfl (lenOf pd_5 rfl) rfl (Nat.le_of_eq rfl) at_177 rfl (by decide) (by decide) rfl rfl (by decide) (by decide) (allS (Or.inr sz_b132) (allS (Or.inr (Nat.le_trans P137.kept.1 zw157)) all0)) rfl ?_
        intro T168 h168 v168 P168 K168 Q168
        obtain ⟨rfl, F168, VW168⟩ := Q168
        have f168_E_sx := Exa.keep f167_E_sx K168
        have f168_ch := f167_ch.keep K168 (ninS (f167_ch.ne_ob F167.exa (C.w 1 rfl)) (ninS (KVA.neT f167_ch VW167 nofun) nin0))
        have f168_al := FA167.keep K168 (ninS (Exa.ne FA167.exa F167.exa (by decide)) (ninS (Ne.symm (VW167.ne_ob FA167.exa (C.w 24 rfl))) nin0))
        have f168_d := VD167.keep K168 (ninS (VD167.ne_ob F167.exa (C.w 1 rfl)) (ninS (KVA.neT VD167 VW167 nofun) nin0))
        show KGo p e below _ T168 m 180 #[.val (.long p0), .second, .val (.long p1), .second, .val (.long p2), .second, .val (.int p3), .val (.int p4), .val (.ref b132), .val (.int (1 : Int32)), .val (.int (1 : Int32)), .val (.int (0 : Int32)), .val (.long q0), .second, .val (.long q1), .second, .val (.long q2), .second, .val (.ref sx), .unset, .unset, .unset, .unset, .unset, .unset] []
        refine k_iload (pc' := 182) C P168 at_180 rfl rfl ?_
        refine k_ifN (pc' := 185) C P168 at_182 k_10 rfl ?_
        refine k_ldc2L (pc' := 188) C P168 (C.w 143 rfl) at_185 rfl ?_
        refine k_goto (pc' := 193) C P168 at_188 (by decide) (by decide) ?_
        refine k_lstore (l' := #[.val (.long p0), .second, .val (.long p1), .second, .val (.long p2), .second, .val (.int p3), .val (.int p4), .val (.ref b132), .val (.int (1 : Int32)), .val (.int (1 : Int32)), .val (.int (0 : Int32)), .val (.long q0), .second, .val (.long q1), .second, .val (.long q2), .second, .val (.ref sx), .val (.long (-1 : Int64)), .second, .unset, .unset, .unset, .unset]) (pc' := 195) C P168 at_193 rfl rfl ?_
        refine k_iload (pc' := 197) C P168 at_195 rfl rfl ?_
        refine k_ifN (pc' := 200) C P168 at_197 k_10 rfl ?_
        refine k_ldc2L (pc' := 203) C P168 (C.w 143 rfl) at_200 rfl ?_
        refine k_goto (pc' := 208) C P168 at_203 (by decide) (by decide) ?_
        refine k_lstore (l' := #[.val (.long p0), .second, .val (.long p1), .second, .val (.long p2), .second, .val (.int p3), .val (.int p4), .val (.ref b132), .val (.int (1 : Int32)), .val (.int (1 : Int32)), .val (.int (0 : Int32)), .val (.long q0), .second, .val (.long q1), .second, .val (.long q2), .second, .val (.ref sx), .val (.long (-1 : Int64)), .second, .val (.long (-1 : Int64)), .second, .unset, .unset]) (pc' := 210) C P168 at_208 rfl rfl ?_
        refine k_iload (pc' := 212) C P168 at_210 rfl rfl ?_
        refine k_ifY (pc' := 221) C P168 at_212 k_01 (by decide) (by decide) ?_
        refine k_lload (pc' := 223) C P168 at_221 rfl rfl ?_
        refine k_lstore (l' := #[.val (.long p0), .second, .val (.long p1), .second, .val (.long p2), .second, .val (.int p3), .val (.int p4), .val (.ref b132), .val (.int (1 : Int32)), .val (.int (1 : Int32)), .val (.int (0 : Int32)), .val (.long q0), .second, .val (.long q1), .second, .val (.long q2), .second, .val (.ref sx), .val (.long (-1 : Int64)), .second, .val (.long (-1 : Int64)), .second, .val (.long q2), .second]) (pc' := 225) C P168 at_223 rfl rfl ?_
        refine k_aload (pc' := 227) C P168 at_225 rfl rfl rfl ?_
        refine k_iconst (z := (0 : Int32)) (pc' := 228) C P168 at_227 rfl rfl ?_
        refine k_callV (pc' := 231) (cells' := 7) (slots' := 32799) (W := 0) C P168 (C.w 144 rfl) (C.w 145 rfl) (fun _ q => notFace_of_selects (args := #[]) (mvT q (C.w 147 rfl))) (C.w 147 rfl) (C.w 146 rfl) (C.w 148 rfl) (C.w 2 rfl) (by decide) (rmGet0 l Z a0 hw _ n0 P168.size b132 al ch w1 kC kw N hN1 F168 f168_ch (fun j => if j = 2 then Value.long q2 else (fun j => if j = 1 then Value.long ((-1 : Int64) - ((1 : Int32).toInt64)) else (fun j => if j = 0 then Value.long ((-1 : Int64) - ((0 : Int32).toInt64)) else Value.long 0) j) j) VW168 ((-1 : Int64) - ((0 : Int32).toInt64)) (-1 : Int64) rfl (fun _ => rfl) (fun q => absurd (by decide) q)) F168.exa [(.int (0 : Int32))] [] rfl (lenOf pd_16 rfl) rfl (Nat.le_of_eq rfl) at_228 rfl (by decide) (by decide) rfl rfl (by decide) (by decide) all0 rfl ?_
        intro T169 h169 v169 P169 K169 Q169
        obtain ⟨e169, g169⟩ := Q169
        subst g169
        subst e169
        show KGo p e below _ T169 m 231 #[.val (.long p0), .second, .val (.long p1), .second, .val (.long p2), .second, .val (.int p3), .val (.int p4), .val (.ref b132), .val (.int (1 : Int32)), .val (.int (1 : Int32)), .val (.int (0 : Int32)), .val (.long q0), .second, .val (.long q1), .second, .val (.long q2), .second, .val (.ref sx), .val (.long (-1 : Int64)), .second, .val (.long (-1 : Int64)), .second, .val (.long q2), .second] [(.long (-1 : Int64))]
        refine k_lload (pc' := 233) C P169 at_231 rfl rfl ?_
        refine k_lcmp (pc' := 234) C P169 at_233 rfl ?_
        refine k_ifN (pc' := 237) C P169 at_234 (own_lcs _) rfl ?_
        refine k_aload (pc' := 239) C P169 at_237 rfl rfl rfl ?_
        refine k_iconst (z := (1 : Int32)) (pc' := 240) C P169 at_239 rfl rfl ?_
        refine k_callV (pc' := 243) (cells' := 7) (slots' := 32799) (W := 0) C P169 (C.w 144 rfl) (C.w 145 rfl) (fun _ q => notFace_of_selects (args := #[]) (mvT q (C.w 147 rfl))) (C.w 147 rfl) (C.w 146 rfl) (C.w 148 rfl) (C.w 2 rfl) (by decide) (rmGet1 l Z a0 hw _ n0 P169.size b132 al ch w1 kC kw N hN1 F168 f168_ch (fun j => if j = 2 then Value.long q2 else (fun j => if j = 1 then Value.long ((-1 : Int64) - ((1 : Int32).toInt64)) else (fun j => if j = 0 then Value.long ((-1 : Int64) - ((0 : Int32).toInt64)) else Value.long 0) j) j) VW168 ((-1 : Int64) - ((1 : Int32).toInt64)) (-1 : Int64) rfl (fun _ => rfl) (fun q => absurd (by decide) q)) F168.exa [(.int (1 : Int32))] [] rfl (lenOf pd_16 rfl) rfl (Nat.le_of_eq rfl) at_240 rfl (by decide) (by decide) rfl rfl (by decide) (by decide) all0 rfl ?_
        intro T170 h170 v170 P170 K170 Q170
        obtain ⟨e170, g170⟩ := Q170
        subst g170
        subst e170
        show KGo p e below _ T170 m 243 #[.val (.long p0), .second, .val (.long p1), .second, .val (.long p2), .second, .val (.int p3), .val (.int p4), .val (.ref b132), .val (.int (1 : Int32)), .val (.int (1 : Int32)), .val (.int (0 : Int32)), .val (.long q0), .second, .val (.long q1), .second, .val (.long q2), .second, .val (.ref sx), .val (.long (-1 : Int64)), .second, .val (.long (-1 : Int64)), .second, .val (.long q2), .second] [(.long (-1 : Int64))]
        refine k_lload (pc' := 245) C P170 at_243 rfl rfl ?_
        refine k_lcmp (pc' := 246) C P170 at_245 rfl ?_
        refine k_ifN (pc' := 249) C P170 at_246 (own_lcs _) rfl ?_
        refine k_aload (pc' := 251) C P170 at_249 rfl rfl rfl ?_
        refine k_iconst (z := (2 : Int32)) (pc' := 252) C P170 at_251 rfl rfl ?_
        refine k_callV (pc' := 255) (cells' := 7) (slots' := 32799) (W := 0) C P170 (C.w 144 rfl) (C.w 145 rfl) (fun _ q => notFace_of_selects (args := #[]) (mvT q (C.w 147 rfl))) (C.w 147 rfl) (C.w 146 rfl) (C.w 148 rfl) (C.w 2 rfl) (by decide) (rmGet2 l Z a0 hw _ n0 P170.size b132 al ch w1 kC kw N hN1 F168 f168_ch (fun j => if j = 2 then Value.long q2 else (fun j => if j = 1 then Value.long ((-1 : Int64) - ((1 : Int32).toInt64)) else (fun j => if j = 0 then Value.long ((-1 : Int64) - ((0 : Int32).toInt64)) else Value.long 0) j) j) VW168 q2 q2 rfl (fun q => absurd q n_q2) (fun _ => rfl)) F168.exa [(.int (2 : Int32))] [] rfl (lenOf pd_16 rfl) rfl (Nat.le_of_eq rfl) at_252 rfl (by decide) (by decide) rfl rfl (by decide) (by decide) all0 rfl ?_
        intro T171 h171 v171 P171 K171 Q171
        obtain ⟨e171, g171⟩ := Q171
        subst g171
        subst e171
        show KGo p e below _ T171 m 255 #[.val (.long p0), .second, .val (.long p1), .second, .val (.long p2), .second, .val (.int p3), .val (.int p4), .val (.ref b132), .val (.int (1 : Int32)), .val (.int (1 : Int32)), .val (.int (0 : Int32)), .val (.long q0), .second, .val (.long q1), .second, .val (.long q2), .second, .val (.ref sx), .val (.long (-1 : Int64)), .second, .val (.long (-1 : Int64)), .second, .val (.long q2), .second] [(.long q2)]
        refine k_lload (pc' := 257) C P171 at_255 rfl rfl ?_
        refine k_lcmp (pc' := 258) C P171 at_257 rfl ?_
        refine k_ifN (pc' := 261) C P171 at_258 (own_lcs _) rfl ?_
        refine k_iconst (z := (1 : Int32)) (pc' := 262) C P171 at_261 rfl rfl ?_
        refine k_goto (pc' := 266) C P171 at_262 (by decide) (by decide) ?_
        exact k_retZ (z' := (1 : Int32)) C P171 (by simp) at_266 rfl (by decide) (by decide) rfl
      · skip
        refine k_iload (pc' := 160) C P167 at_158 rfl rfl ?_
        refine k_ifN (pc' := 163) C P167 at_160 k_10 rfl ?_
        refine k_aload (pc' := 165) C P167 at_163 rfl rfl rfl ?_
        refine k_aload (pc' := 167) C P167 at_165 rfl rfl rfl ?_
        refine k_callV (pc' := 170) (cells' := 7) (slots' := 32799) (W := 0) C P167 (C.w 85 rfl) (C.w 86 rfl) (fun _ q => notFace_of_selects (args := #[]) (mvT q (C.w 88 rfl))) (C.w 88 rfl) (C.w 87 rfl) (C.w 89 rfl) (C.w 2 rfl) (by decide) (rmO22 l Z a0 hw _ n0 P167.size b132 al ch kC N hN1 OC ge_b132 F167 w1 kw (fun j => if j = 1 then Value.long ((-1 : Int64) - ((1 : Int32).toInt64)) else (fun j => if j = 0 then Value.long ((-1 : Int64) - ((0 : Int32).toInt64)) else Value.long 0) j) gw157 f167_ch VW167 ((0 + 1) + 1) gal133 sx f167_E_sx d kd fd167 gd157 VD167 OD FA167) F167.exa [(.ref sx)] [] rfl (lenOf pd_17 rfl) rfl (Nat.le_of_eq rfl) at_167 rfl (by decide) (by decide) rfl rfl (by decide) (by decide) (allS (Or.inr sz_b132) (allS (Or.inr (Nat.le_trans P137.kept.1 zw157)) (allS (Or.inr (Nat.le_trans P132.kept.1 zal133)) (allS (Or.inr (Nat.le_trans P137.kept.1 zd157)) all0)))) rfl ?_
        intro T172 h172 v172 P172 K172 Q172
        obtain ⟨rfl, ⟨F172, VW172⟩, ⟨fd172, FA172, VD172⟩⟩ := Q172
        have f172_E_sx := Exa.keep f167_E_sx K172
        have f172_ch := f167_ch.keep K172 (ninS (f167_ch.ne_ob F167.exa (C.w 1 rfl)) (ninS (KVA.neT f167_ch VW167 nofun) (ninS (f167_ch.ne_ob FA167.exa (C.w 24 rfl)) (ninS (KVA.neT f167_ch VD167 nofun) nin0))))
        show KGo p e below _ T172 m 170 #[.val (.long p0), .second, .val (.long p1), .second, .val (.long p2), .second, .val (.int p3), .val (.int p4), .val (.ref b132), .val (.int (1 : Int32)), .val (.int (1 : Int32)), .val (.int (1 : Int32)), .val (.long q0), .second, .val (.long q1), .second, .val (.long q2), .second, .val (.ref sx), .unset, .unset, .unset, .unset, .unset, .unset] []
        refine k_goto (pc' := 180) C P172 at_170 (by decide) (by decide) ?_
        refine k_iload (pc' := 182) C P172 at_180 rfl rfl ?_
        refine k_ifN (pc' := 185) C P172 at_182 k_10 rfl ?_
        refine k_ldc2L (pc' := 188) C P172 (C.w 143 rfl) at_185 rfl ?_
        refine k_goto (pc' := 193) C P172 at_188 (by decide) (by decide) ?_
        refine k_lstore (l' := #[.val (.long p0), .second, .val (.long p1), .second, .val (.long p2), .second, .val (.int p3), .val (.int p4), .val (.ref b132), .val (.int (1 : Int32)), .val (.int (1 : Int32)), .val (.int (1 : Int32)), .val (.long q0), .second, .val (.long q1), .second, .val (.long q2), .second, .val (.ref sx), .val (.long (-1 : Int64)), .second, .unset, .unset, .unset, .unset]) (pc' := 195) C P172 at_193 rfl rfl ?_
        refine k_iload (pc' := 197) C P172 at_195 rfl rfl ?_
        refine k_ifN (pc' := 200) C P172 at_197 k_10 rfl ?_
        refine k_ldc2L (pc' := 203) C P172 (C.w 143 rfl) at_200 rfl ?_
        refine k_goto (pc' := 208) C P172 at_203 (by decide) (by decide) ?_
        refine k_lstore (l' := #[.val (.long p0), .second, .val (.long p1), .second, .val (.long p2), .second, .val (.int p3), .val (.int p4), .val (.ref b132), .val (.int (1 : Int32)), .val (.int (1 : Int32)), .val (.int (1 : Int32)), .val (.long q0), .second, .val (.long q1), .second, .val (.long q2), .second, .val (.ref sx), .val (.long (-1 : Int64)), .second, .val (.long (-1 : Int64)), .second, .unset, .unset]) (pc' := 210) C P172 at_208 rfl rfl ?_
        refine k_iload (pc' := 212) C P172 at_210 rfl rfl ?_
        refine k_ifN (pc' := 215) C P172 at_212 k_10 rfl ?_
        refine k_ldc2L (pc' := 218) C P172 (C.w 143 rfl) at_215 rfl ?_
        refine k_goto (pc' := 223) C P172 at_218 (by decide) (by decide) ?_
        refine k_lstore (l' := #[.val (.long p0), .second, .val (.long p1), .second, .val (.long p2), .second, .val (.int p3), .val (.int p4), .val (.ref b132), .val (.int (1 : Int32)), .val (.int (1 : Int32)), .val (.int (1 : Int32)), .val (.long q0), .second, .val (.long q1), .second, .val (.long q2), .second, .val (.ref sx), .val (.long (-1 : Int64)), .second, .val (.long (-1 : Int64)), .second, .val (.long (-1 : Int64)), .second]) (pc' := 225) C P172 at_223 rfl rfl ?_
        refine k_aload (pc' := 227) C P172 at_225 rfl rfl rfl ?_
        refine k_iconst (z := (0 : Int32)) (pc' := 228) C P172 at_227 rfl rfl ?_
        refine k_callV (pc' := 231) (cells' := 7) (slots' := 32799) (W := 0) C P172 (C.w 144 rfl) (C.w 145 rfl) (fun _ q => notFace_of_selects (args := #[]) (mvT q (C.w 147 rfl))) (C.w 147 rfl) (C.w 146 rfl) (C.w 148 rfl) (C.w 2 rfl) (by decide) (rmGet0 l Z a0 hw _ n0 P172.size b132 al ch w1 kC kw N hN1 F172 f172_ch (fun j => if j = 2 then Value.long ((-1 : Int64) - ((2 : Int32).toInt64)) else (fun j => if j = 1 then Value.long ((-1 : Int64) - ((1 : Int32).toInt64)) else (fun j => if j = 0 then Value.long ((-1 : Int64) - ((0 : Int32).toInt64)) else Value.long 0) j) j) VW172 ((-1 : Int64) - ((0 : Int32).toInt64)) (-1 : Int64) rfl (fun _ => rfl) (fun q => absurd (by decide) q)) F172.exa [(.int (0 : Int32))] [] rfl (lenOf pd_16 rfl) rfl (Nat.le_of_eq rfl) at_228 rfl (by decide) (by decide) rfl rfl (by decide) (by decide) all0 rfl ?_
        intro T173 h173 v173 P173 K173 Q173
        obtain ⟨e173, g173⟩ := Q173
        subst g173
        subst e173
        show KGo p e below _ T173 m 231 #[.val (.long p0), .second, .val (.long p1), .second, .val (.long p2), .second, .val (.int p3), .val (.int p4), .val (.ref b132), .val (.int (1 : Int32)), .val (.int (1 : Int32)), .val (.int (1 : Int32)), .val (.long q0), .second, .val (.long q1), .second, .val (.long q2), .second, .val (.ref sx), .val (.long (-1 : Int64)), .second, .val (.long (-1 : Int64)), .second, .val (.long (-1 : Int64)), .second] [(.long (-1 : Int64))]
        refine k_lload (pc' := 233) C P173 at_231 rfl rfl ?_
        refine k_lcmp (pc' := 234) C P173 at_233 rfl ?_
        refine k_ifN (pc' := 237) C P173 at_234 (own_lcs _) rfl ?_
        refine k_aload (pc' := 239) C P173 at_237 rfl rfl rfl ?_
        refine k_iconst (z := (1 : Int32)) (pc' := 240) C P173 at_239 rfl rfl ?_
        refine k_callV (pc' := 243) (cells' := 7) (slots' := 32799) (W := 0) C P173 (C.w 144 rfl) (C.w 145 rfl) (fun _ q => notFace_of_selects (args := #[]) (mvT q (C.w 147 rfl))) (C.w 147 rfl) (C.w 146 rfl) (C.w 148 rfl) (C.w 2 rfl) (by decide) (rmGet1 l Z a0 hw _ n0 P173.size b132 al ch w1 kC kw N hN1 F172 f172_ch (fun j => if j = 2 then Value.long ((-1 : Int64) - ((2 : Int32).toInt64)) else (fun j => if j = 1 then Value.long ((-1 : Int64) - ((1 : Int32).toInt64)) else (fun j => if j = 0 then Value.long ((-1 : Int64) - ((0 : Int32).toInt64)) else Value.long 0) j) j) VW172 ((-1 : Int64) - ((1 : Int32).toInt64)) (-1 : Int64) rfl (fun _ => rfl) (fun q => absurd (by decide) q)) F172.exa [(.int (1 : Int32))] [] rfl (lenOf pd_16 rfl) rfl (Nat.le_of_eq rfl) at_240 rfl (by decide) (by decide) rfl rfl (by decide) (by decide) all0 rfl ?_
        intro T174 h174 v174 P174 K174 Q174
        obtain ⟨e174, g174⟩ := Q174
        subst g174
        subst e174
        show KGo p e below _ T174 m 243 #[.val (.long p0), .second, .val (.long p1), .second, .val (.long p2), .second, .val (.int p3), .val (.int p4), .val (.ref b132), .val (.int (1 : Int32)), .val (.int (1 : Int32)), .val (.int (1 : Int32)), .val (.long q0), .second, .val (.long q1), .second, .val (.long q2), .second, .val (.ref sx), .val (.long (-1 : Int64)), .second, .val (.long (-1 : Int64)), .second, .val (.long (-1 : Int64)), .second] [(.long (-1 : Int64))]
        refine k_lload (pc' := 245) C P174 at_243 rfl rfl ?_
        refine k_lcmp (pc' := 246) C P174 at_245 rfl ?_
        refine k_ifN (pc' := 249) C P174 at_246 (own_lcs _) rfl ?_
        refine k_aload (pc' := 251) C P174 at_249 rfl rfl rfl ?_
        refine k_iconst (z := (2 : Int32)) (pc' := 252) C P174 at_251 rfl rfl ?_
        refine k_callV (pc' := 255) (cells' := 7) (slots' := 32799) (W := 0) C P174 (C.w 144 rfl) (C.w 145 rfl) (fun _ q => notFace_of_selects (args := #[]) (mvT q (C.w 147 rfl))) (C.w 147 rfl) (C.w 146 rfl) (C.w 148 rfl) (C.w 2 rfl) (by decide) (rmGet2 l Z a0 hw _ n0 P174.size b132 al ch w1 kC kw N hN1 F172 f172_ch (fun j => if j = 2 then Value.long ((-1 : Int64) - ((2 : Int32).toInt64)) else (fun j => if j = 1 then Value.long ((-1 : Int64) - ((1 : Int32).toInt64)) else (fun j => if j = 0 then Value.long ((-1 : Int64) - ((0 : Int32).toInt64)) else Value.long 0) j) j) VW172 ((-1 : Int64) - ((2 : Int32).toInt64)) (-1 : Int64) rfl (fun _ => rfl) (fun q => absurd (by decide) q)) F172.exa [(.int (2 : Int32))] [] rfl (lenOf pd_16 rfl) rfl (Nat.le_of_eq rfl) at_252 rfl (by decide) (by decide) rfl rfl (by decide) (by decide) all0 rfl ?_
        intro T175 h175 v175 P175 K175 Q175
        obtain ⟨e175, g175⟩ := Q175
        subst g175
        subst e175
        show KGo p e below _ T175 m 255 #[.val (.long p0), .second, .val (.long p1), .second, .val (.long p2), .second, .val (.int p3), .val (.int p4), .val (.ref b132), .val (.int (1 : Int32)), .val (.int (1 : Int32)), .val (.int (1 : Int32)), .val (.long q0), .second, .val (.long q1), .second, .val (.long q2), .second, .val (.ref sx), .val (.long (-1 : Int64)), .second, .val (.long (-1 : Int64)), .second, .val (.long (-1 : Int64)), .second] [(.long (-1 : Int64))]
        refine k_lload (pc' := 257) C P175 at_255 rfl rfl ?_
        refine k_lcmp (pc' := 258) C P175 at_257 rfl ?_
        refine k_ifN (pc' := 261) C P175 at_258 (own_lcs _) rfl ?_
        refine k_iconst (z := (1 : Int32)) (pc' := 262) C P175 at_261 rfl rfl ?_
        refine k_goto (pc' := 266) C P175 at_262 (by decide) (by decide) ?_
        exact k_retZ (z' := (1 : Int32)) C P175 (by simp) at_266 rfl (by decide) (by decide) rfl
set_option maxRecDepth 65536 in
set_option maxHeartbeats 40000000 in
theorem comes_1 {Post : Tables → Env → Array Value → State → Outcome → State → Prop} (hpost : ∀ tb e args s v u, (limb_1_1.after args s (.returned v) u = true ∧ limb_1_2.after args s (.returned v) u = true ∧ True) → FrameEnd s (.returned v) u (Jvm.fieldLocs frame_1_writes args s ++ Jvm.arrayLocs frame_1_arrays args s ++ Jvm.staticLocs frame_1_statics s) 24 65664 → Post tb e args s (.returned v) u) :
    ArmFor flags0 classFile x code maxLocals ret World_1 tables_1 room_1 Calls_1 rest_1 Pre_1 Post := by
  intro l hfl _ _ p e ha hc hk s m args below hf hA hF happ hP
  obtain ⟨hcalls, hrest, hpre⟩ := hP
  obtain ⟨-, -, -, hnamed, -, -, -, hat⟩ := (Spec.applies_iff hf).mp happ
  obtain ⟨hg, hn⟩ := and_e (Cond.before_iff.mp (show (Jvm.Cond.and given_1 narrow_1).before args s = true from hpre))
  obtain ⟨g0, g1⟩ := and_e hg
  obtain ⟨a0, g2⟩ := and_e g1
  obtain ⟨a1, g3⟩ := and_e g2
  obtain ⟨a2, g4⟩ := and_e g3
  obtain ⟨a3, g5⟩ := and_e g4
  have a4 := g5
  obtain ⟨w0, w1, w2, w3, w4, rfl⟩ : ∃ w0 w1 w2 w3 w4 : Value, args = #[w0, w1, w2, w3, w4] := by
    have hs : args.size = 5 := by simpa [Cond.value, given_1] using g0
    obtain ⟨L⟩ := args
    match L, hs with
    | [w0, w1, w2, w3, w4], _ => exact ⟨w0, w1, w2, w3, w4, rfl⟩
  have hw := fun d (hd : d ∈ tables_1) => atoms_spec (ws := Jvm.Cond.code x code maxLocals ret :: tables_1) hat d (List.mem_cons_of_mem _ hd)
  have hfit : Fit s := fun {y c} hc i hi => by
    obtain ⟨ha, rfl⟩ := Array.getElem?_eq_some_iff.mp hc
    have q := List.all_eq_true.mp ((Array.all_eq_true_iff_forall_mem.mp hF) _ (Array.getElem_mem ha)) i (List.mem_range.mpr hi)
    simpa [Array.getElem?_eq_getElem hi] using q
  obtain ⟨hsets, hown0⟩ := atoms_of _ (rest_1_c_eq ▸ (show rest_1_c.before _ s = true from hrest))
  have hr0 := Cond.before_iff.mp hown0
  obtain ⟨i0, ei0⟩ := isL_v a0
  obtain rfl : w0 = (.long i0) := Option.some.inj ei0
  obtain ⟨i1, ei1⟩ := isL_v a1
  obtain rfl : w1 = (.long i1) := Option.some.inj ei1
  obtain ⟨i2, ei2⟩ := isL_v a2
  obtain rfl : w2 = (.long i2) := Option.some.inj ei2
  obtain ⟨i3, ei3⟩ := is_v a3
  obtain rfl : w3 = (.int i3) := Option.some.inj ei3
  obtain ⟨i4, ei4⟩ := is_v a4
  obtain rfl : w4 = (.int i4) := Option.some.inj ei4
  obtain ⟨cs, hcs, SC⟩ := own_cs (show ∀ d ∈ jdkStatics_1, d.before _ s = true from hsets)
  obtain ⟨ed, kE, fE, SD, VE⟩ := own_ed hw (show ∀ d ∈ jdkStatics_1, d.before _ s = true from hsets)
  have SA := own_si ((show ∀ d ∈ jdkStatics_1, d.before _ s = true from hsets) _ (List.mem_of_getElem? (i := 20) rfl)) ((show ∀ d ∈ jdkStatics_1, d.before _ s = true from hsets) _ (List.mem_of_getElem? (i := 21) rfl))
  have SH := own_si ((show ∀ d ∈ jdkStatics_1, d.before _ s = true from hsets) _ (List.mem_of_getElem? (i := 23) rfl)) ((show ∀ d ∈ jdkStatics_1, d.before _ s = true from hsets) _ (List.mem_of_getElem? (i := 24) rfl))
  have SL := own_si ((show ∀ d ∈ jdkStatics_1, d.before _ s = true from hsets) _ (List.mem_of_getElem? (i := 26) rfl)) ((show ∀ d ∈ jdkStatics_1, d.before _ s = true from hsets) _ (List.mem_of_getElem? (i := 27) rfl))
  obtain ⟨n, o, h1, h2, h3, _, L, rfl, ⟨N, _, rfl⟩, hq0⟩ := (rm0 l s _ hw s.heap s.heap.size (Nat.le_refl _) i0 i1 i2 i3 i4 cs hcs SC SA SH SL ed SD kE fE VE) tables_1 p e ha hc hk s m _ below hf ((Spec.applies_iff_loose hf).mp happ).1 ⟨rfl, State.Warmed39.refl s, rfl⟩ trivial
  have hq : FrameEnd _ _ _ _ _ _ := hq0
  refine ⟨n, _, h1, h2, h3, hpost _ _ _ _ _ _ ⟨Cond.after_iff.mpr rfl, Cond.after_iff.mpr (eq_i res_at (Term.int_eval (1)) rfl), trivial⟩ ⟨hq.1, hq.2.1, (hq.2.2.sift fun y hy => Or.inr (N y hy)).mono (by decide) (by decide)⟩⟩
theorem main_1_1 : Claimed_1_1 := comes_1 fun _ _ _ _ _ _ h hF => ⟨h.1, hF⟩
theorem main_1_2 : Claimed_1_2 := comes_1 fun _ _ _ _ _ _ h hF => ⟨h.2.1, hF⟩
end Jvm.Pilot.@@N@@
namespace Jvm.Pilot.@@N@@
open Jvm Jvm.ClassFile Sem Op Lib Jvm.Free Jvm.Stand Jvm.Pilot.@@N@@.Jvm.D
/-! MADE BY PROGRAM (witnessworld.py) out of the Statement's table words and the real class files: 31 classes; the members and pool entries that the words name. The judged class is class 1, her method 2. -/
namespace start1
open Jvm.ClassFile
def u (s : String) : CpInfo := .utf8 (stringToUtf16 s)
/-- a pool by its gaps: so many unusable entries, then the entry; so many at the end -/
def gap : Nat → List CpInfo → List CpInfo
  | 0, r => r
  | n + 1, r => .unusable :: gap n r
def poolList (es : List (Nat × CpInfo)) (last : Nat) : List CpInfo := es.foldr (fun e r => gap e.1 (e.2 :: r)) (gap last [])
def pool (es : List (Nat × CpInfo)) (last : Nat) : Array CpInfo := ⟨poolList es last⟩
def fileOf (pool : Array CpInfo) (this : Nat) (attrs : Array Attribute := #[]) (ms : Array MethodInfo := #[]) (fl : Nat := 33) (sup : Nat := 0) (ifs : Array Nat := #[]) (fds : Array FieldInfo := #[]) : ClassFile where
  minorVersion := 0
  majorVersion := 65
  constantPool := pool
  accessFlags := fl
  thisClass := this
  superClass := sup
  interfaces := ifs
  fields := fds
  methods := ms
  attributes := attrs
def plain (name : String) (sup : Option ClassId) : Class where
  name := name
  kind := .ordinary
  loader := none
  accessFlags := 33
  super := sup
  interfaces := #[]
  cf := none
  fields := #[]
  methods := #[]
  instanceTypes := #[]
  staticTypes := #[]
  resolved := #[]
  callSites := []
  init := .initialized
  statics := none
  mirror := none

def pool0 : Array CpInfo := pool [(5, u "<init>"), (0, u "()V"), (1, .class_ 10), (1, u "java/lang/Object")] 113

def k0c0 : Code := { maxStack := 0, maxLocals := 1, code := object_method_1_code, exceptionTable := #[], attributes := #[] }
def k0m0 : Method := { name := "<init>", desc := "()V", sig := { parameters := [], returnType := none }, accessFlags := 1, code := some k0c0 }
/-- java/lang/Object -/
def k0 : Class := { plain "java/lang/Object" none with
  accessFlags := 33
  interfaces := #[]
  cf := some (fileOf pool0 8 #[] #[{ accessFlags := 1, nameIndex := 5, descriptorIndex := 6, attributes := #[] }] 33 0 #[] #[])
  fields := #[]
  methods := #[k0m0]
  instanceTypes := #[]
  staticTypes := #[]
  resolved := Array.replicate 124 none
  statics := none }

def pool1 : Array CpInfo := pool [(2, .class_ 4), (1, u "java/lang/Object"), (0, u "<init>"), (0, u "()V"), (0, .class_ 8), (0, u "com/example/circular_authority/circularauthority/model/LabelList"), (0, .integer 262143), (0, .methodref 7 11), (0, .nameAndType 5 12), (0, u "(I)V"), (0, .methodref 14 15), (0, .class_ 16), (0, .nameAndType 17 18), (0, u "com/example/circular_authority/circularauthority/model/LabelListGetPackedPinLaw"), (0, u "pk"), (0, u "(JI)J"), (0, .integer 65535), (0, .methodref 21 22), (0, .class_ 23), (0, .nameAndType 24 25), (0, u "java/lang/String"), (0, u "valueOf"), (0, u "(C)Ljava/lang/String;"), (0, .methodref 7 27), (0, .nameAndType 28 29), (0, u "addOther"), (0, u "(Ljava/lang/CharSequence;)V"), (0, .methodref 7 31), (0, .nameAndType 32 33), (0, u "addPacked"), (0, u "(J)V"), (0, .long 18446744073709551615), (1, .methodref 7 37), (0, .nameAndType 38 39), (0, u "getPacked"), (0, u "(I)J"), (2, u "law"), (0, u "(JJJII)Z")] 3

def k1m0 : Method := { name := "<init>", desc := "()V", sig := { parameters := [], returnType := none }, accessFlags := 1, code := none }
def k1c1 : Code := { maxStack := 8, maxLocals := 3, code := method_2_code, exceptionTable := #[], attributes := #[] }
def k1m1 : Method := { name := "pk", desc := "(JI)J", sig := { parameters := [.long, .int], returnType := some .long }, accessFlags := 10, code := some k1c1 }
def k1c2 : Code := { maxStack := 4, maxLocals := 25, code := code, exceptionTable := #[], attributes := #[] }
def k1m2 : Method := { name := "law", desc := "(JJJII)Z", sig := { parameters := [.long, .long, .long, .int, .int], returnType := some .boolean }, accessFlags := 9, code := some k1c2 }
/-- com/example/circular_authority/circularauthority/model/LabelListGetPackedPinLaw -/
def k1 : Class := { plain "com/example/circular_authority/circularauthority/model/LabelListGetPackedPinLaw" (some 0) with
  accessFlags := 49
  interfaces := #[]
  cf := some (fileOf pool1 14 #[] #[{ accessFlags := 1, nameIndex := 5, descriptorIndex := 6, attributes := #[] }, { accessFlags := 10, nameIndex := 17, descriptorIndex := 18, attributes := #[] }, { accessFlags := 9, nameIndex := 42, descriptorIndex := 43, attributes := #[] }] 49 2 #[] #[])
  fields := #[]
  methods := #[k1m0, k1m1, k1m2]
  instanceTypes := #[]
  staticTypes := #[]
  resolved := Array.replicate 47 none
  statics := none }

def pool2 : Array CpInfo := pool [(8, .class_ 10), (1, u "java/lang/Iterable"), (24, .class_ 36), (0, u "java/lang/Object")] 25

/-- java/lang/Iterable -/
def k2 : Class := { plain "java/lang/Iterable" (some 0) with
  accessFlags := 1537
  interfaces := #[]
  cf := some (fileOf pool2 8 #[] #[] 1537 35 #[] #[])
  fields := #[]
  methods := #[]
  instanceTypes := #[]
  staticTypes := #[]
  resolved := Array.replicate 62 none
  statics := none }

def pool3 : Array CpInfo := pool [(10, .class_ 12), (1, u "java/util/Collection"), (47, .class_ 61), (0, u "java/lang/Object"), (0, .class_ 63), (0, u "java/lang/Iterable")] 51

/-- java/util/Collection -/
def k3 : Class := { plain "java/util/Collection" (some 0) with
  accessFlags := 1537
  interfaces := #[2]
  cf := some (fileOf pool3 10 #[] #[] 1537 60 #[62] #[])
  fields := #[]
  methods := #[]
  instanceTypes := #[]
  staticTypes := #[]
  resolved := Array.replicate 115 none
  statics := none }

def pool4 : Array CpInfo := pool [(1, .methodref 2 3), (0, .class_ 4), (0, .nameAndType 5 6), (0, u "java/lang/Object"), (0, u "<init>"), (0, u "()V"), (1, .class_ 10), (1, u "java/util/AbstractCollection"), (66, .class_ 78), (0, u "java/util/Collection")] 81

def k4c0 : Code := { maxStack := 1, maxLocals := 1, code := jdk_22_method_1_code, exceptionTable := #[], attributes := #[] }
def k4m0 : Method := { name := "<init>", desc := "()V", sig := { parameters := [], returnType := none }, accessFlags := 4, code := some k4c0 }
/-- java/util/AbstractCollection -/
def k4 : Class := { plain "java/util/AbstractCollection" (some 0) with
  accessFlags := 1057
  interfaces := #[3]
  cf := some (fileOf pool4 8 #[] #[{ accessFlags := 4, nameIndex := 5, descriptorIndex := 6, attributes := #[] }] 1057 2 #[77] #[])
  fields := #[]
  methods := #[k4m0]
  instanceTypes := #[]
  staticTypes := #[]
  resolved := Array.replicate 160 none
  statics := none }

def pool5 : Array CpInfo := pool [(8, .class_ 10), (1, u "java/util/SequencedCollection"), (15, .class_ 27), (0, u "java/lang/Object"), (0, .class_ 29), (0, u "java/util/Collection")] 27

/-- java/util/SequencedCollection -/
def k5 : Class := { plain "java/util/SequencedCollection" (some 0) with
  accessFlags := 1537
  interfaces := #[3]
  cf := some (fileOf pool5 8 #[] #[] 1537 26 #[28] #[])
  fields := #[]
  methods := #[]
  instanceTypes := #[]
  staticTypes := #[]
  resolved := Array.replicate 57 none
  statics := none }

def pool6 : Array CpInfo := pool [(8, .class_ 10), (1, u "java/util/List"), (49, u "add"), (3, u "(Ljava/lang/Object;)Z"), (14, u "size"), (0, u "()I"), (22, .class_ 104), (0, u "java/lang/Object"), (15, .class_ 121), (0, u "java/util/SequencedCollection")] 129

def k6m0 : Method := { name := "size", desc := "()I", sig := { parameters := [], returnType := some .int }, accessFlags := 1025, code := none }
def k6m1 : Method := { name := "add", desc := "(Ljava/lang/Object;)Z", sig := { parameters := [(.object "java/lang/Object")], returnType := some .boolean }, accessFlags := 1025, code := none }
/-- java/util/List -/
def k6 : Class := { plain "java/util/List" (some 0) with
  accessFlags := 1537
  interfaces := #[5]
  cf := some (fileOf pool6 8 #[] #[{ accessFlags := 1025, nameIndex := 79, descriptorIndex := 80, attributes := #[] }, { accessFlags := 1025, nameIndex := 60, descriptorIndex := 64, attributes := #[] }] 1537 103 #[120] #[])
  fields := #[]
  methods := #[k6m0, k6m1]
  instanceTypes := #[]
  staticTypes := #[]
  resolved := Array.replicate 251 none
  statics := none }

def pool7 : Array CpInfo := pool [(1, .methodref 2 3), (0, .class_ 4), (0, .nameAndType 5 6), (0, u "java/util/AbstractCollection"), (0, u "<init>"), (0, u "()V"), (0, .fieldref 8 9), (0, .class_ 10), (0, .nameAndType 11 12), (0, u "java/util/AbstractList"), (0, u "modCount"), (0, u "I"), (64, .class_ 78), (0, u "java/util/AbstractList$Itr"), (3, .class_ 83), (0, u "java/util/AbstractList$ListItr"), (9, .class_ 94), (0, u "java/util/AbstractList$RandomAccessSubList"), (3, .class_ 99), (0, u "java/util/AbstractList$SubList"), (33, .class_ 134), (0, u "java/util/List"), (73, .class_ 209), (0, u "java/util/AbstractList$SubList$1"), (0, .class_ 211), (0, u "java/util/AbstractList$RandomAccessSpliterator")] 6

def k7c0 : Code := { maxStack := 2, maxLocals := 1, code := jdk_39_method_1_code, exceptionTable := #[], attributes := #[] }
def k7m0 : Method := { name := "<init>", desc := "()V", sig := { parameters := [], returnType := none }, accessFlags := 4, code := some k7c0 }
/-- java/util/AbstractList -/
def k7 : Class := { plain "java/util/AbstractList" (some 4) with
  accessFlags := 1057
  interfaces := #[6]
  cf := some (fileOf pool7 8 #[.nestMembers #[93, 98, 208, 210, 82, 77]] #[{ accessFlags := 4, nameIndex := 5, descriptorIndex := 6, attributes := #[] }] 1057 2 #[133] #[{ accessFlags := 132, nameIndex := 11, descriptorIndex := 12, attributes := #[] }])
  fields := #[{ name := "modCount", type := .int, accessFlags := 132, slot := 0, constantValue := 0 }]
  methods := #[k7m0]
  instanceTypes := #[.int]
  staticTypes := #[]
  resolved := Array.replicate 218 none
  statics := none }

def pool8 : Array CpInfo := pool [(1, .class_ 2), (0, u "java/util/RandomAccess"), (0, .class_ 4), (0, u "java/lang/Object")] 2

/-- java/util/RandomAccess -/
def k8 : Class := { plain "java/util/RandomAccess" (some 0) with
  accessFlags := 1537
  interfaces := #[]
  cf := some (fileOf pool8 1 #[] #[] 1537 3 #[] #[])
  fields := #[]
  methods := #[]
  instanceTypes := #[]
  staticTypes := #[]
  resolved := Array.replicate 7 none
  statics := none }

def pool9 : Array CpInfo := pool [(1, .class_ 2), (0, u "com/example/circular_authority/circularauthority/model/LabelList"), (0, .methodref 4 5), (0, .class_ 6), (0, .nameAndType 7 8), (0, u "java/util/AbstractList"), (0, u "<init>"), (0, u "()V"), (0, .class_ 10), (0, u "java/util/ArrayList"), (0, .methodref 9 5), (0, .fieldref 1 13), (0, .nameAndType 14 15), (0, u "others"), (0, u "Ljava/util/List;"), (0, .class_ 17), (0, u "[J"), (0, .fieldref 1 19), (0, .nameAndType 20 21), (0, u "chunks"), (0, u "[[J"), (1, .class_ 25), (1, u "java/lang/CharSequence"), (1, u "()I"), (0, .long 18446744073709551615), (12, .methodref 1 42), (0, .nameAndType 43 44), (0, u "addEntry"), (0, u "(J)V"), (0, .interfaceMethodref 46 47), (0, .class_ 48), (0, .nameAndType 49 27), (0, u "java/util/List"), (0, u "size"), (0, .interfaceMethodref 23 51), (0, .nameAndType 52 53), (0, u "toString"), (0, u "()Ljava/lang/String;"), (0, .interfaceMethodref 46 55), (0, .nameAndType 56 57), (0, u "add"), (0, u "(Ljava/lang/Object;)Z"), (0, .fieldref 1 59), (0, .nameAndType 49 60), (0, u "I"), (0, .integer 32768), (12, u "getPacked"), (0, u "(I)J"), (10, .class_ 87), (0, u "java/util/RandomAccess"), (0, u "PACKED_LENGTH"), (2, u "NOT_PACKED"), (0, u "J"), (0, u "CHUNK_BITS"), (1, u "CHUNK_MASK"), (3, u "(I)V"), (7, u "addPacked"), (0, u "addOther"), (0, u "(Ljava/lang/CharSequence;)V")] 4

def k9c0 : Code := { maxStack := 3, maxLocals := 2, code := prog_44_method_1_code, exceptionTable := #[], attributes := #[] }
def k9m0 : Method := { name := "<init>", desc := "(I)V", sig := { parameters := [.int], returnType := none }, accessFlags := 0, code := some k9c0 }
def k9c1 : Code := { maxStack := 3, maxLocals := 3, code := prog_44_method_4_code, exceptionTable := #[], attributes := #[] }
def k9m1 : Method := { name := "addPacked", desc := "(J)V", sig := { parameters := [.long], returnType := none }, accessFlags := 0, code := some k9c1 }
def k9c2 : Code := { maxStack := 5, maxLocals := 2, code := prog_44_method_5_code, exceptionTable := #[], attributes := #[] }
def k9m2 : Method := { name := "addOther", desc := "(Ljava/lang/CharSequence;)V", sig := { parameters := [(.object "java/lang/CharSequence")], returnType := none }, accessFlags := 0, code := some k9c2 }
def k9c3 : Code := { maxStack := 4, maxLocals := 4, code := prog_44_method_6_code, exceptionTable := #[], attributes := #[] }
def k9m3 : Method := { name := "addEntry", desc := "(J)V", sig := { parameters := [.long], returnType := none }, accessFlags := 2, code := some k9c3 }
def k9c4 : Code := { maxStack := 4, maxLocals := 4, code := prog_44_method_7_code, exceptionTable := #[], attributes := #[] }
def k9m4 : Method := { name := "getPacked", desc := "(I)J", sig := { parameters := [.int], returnType := some .long }, accessFlags := 0, code := some k9c4 }
/-- com/example/circular_authority/circularauthority/model/LabelList -/
def k9 : Class := { plain "com/example/circular_authority/circularauthority/model/LabelList" (some 7) with
  accessFlags := 48
  interfaces := #[8]
  cf := some (fileOf pool9 1 #[] #[{ accessFlags := 0, nameIndex := 7, descriptorIndex := 99, attributes := #[] }, { accessFlags := 0, nameIndex := 107, descriptorIndex := 44, attributes := #[] }, { accessFlags := 0, nameIndex := 108, descriptorIndex := 109, attributes := #[] }, { accessFlags := 2, nameIndex := 43, descriptorIndex := 44, attributes := #[] }, { accessFlags := 0, nameIndex := 74, descriptorIndex := 75, attributes := #[] }] 48 4 #[86] #[{ accessFlags := 24, nameIndex := 88, descriptorIndex := 60, attributes := #[] }, { accessFlags := 24, nameIndex := 91, descriptorIndex := 92, attributes := #[] }, { accessFlags := 26, nameIndex := 93, descriptorIndex := 60, attributes := #[] }, { accessFlags := 26, nameIndex := 95, descriptorIndex := 60, attributes := #[] }, { accessFlags := 18, nameIndex := 20, descriptorIndex := 21, attributes := #[] }, { accessFlags := 2, nameIndex := 49, descriptorIndex := 60, attributes := #[] }, { accessFlags := 18, nameIndex := 14, descriptorIndex := 15, attributes := #[] }])
  fields := #[{ name := "PACKED_LENGTH", type := .int, accessFlags := 24, slot := 0, constantValue := 0 }, { name := "NOT_PACKED", type := .long, accessFlags := 24, slot := 1, constantValue := 0 }, { name := "CHUNK_BITS", type := .int, accessFlags := 26, slot := 2, constantValue := 0 }, { name := "CHUNK_MASK", type := .int, accessFlags := 26, slot := 3, constantValue := 0 }, { name := "chunks", type := (.array (.array .long)), accessFlags := 18, slot := 1, constantValue := 0 }, { name := "size", type := .int, accessFlags := 2, slot := 2, constantValue := 0 }, { name := "others", type := (.object "java/util/List"), accessFlags := 18, slot := 3, constantValue := 0 }]
  methods := #[k9m0, k9m1, k9m2, k9m3, k9m4]
  instanceTypes := #[.int, (.array (.array .long)), .int, (.object "java/util/List")]
  staticTypes := #[.int, .long, .int, .int]
  resolved := Array.replicate 114 none
  statics := none }

def pool10 : Array CpInfo := pool [(1, .class_ 2), (0, u "java/lang/Cloneable"), (0, .class_ 4), (0, u "java/lang/Object")] 2

/-- java/lang/Cloneable -/
def k10 : Class := { plain "java/lang/Cloneable" (some 0) with
  accessFlags := 1537
  interfaces := #[]
  cf := some (fileOf pool10 1 #[] #[] 1537 3 #[] #[])
  fields := #[]
  methods := #[]
  instanceTypes := #[]
  staticTypes := #[]
  resolved := Array.replicate 7 none
  statics := none }

def pool11 : Array CpInfo := pool [(1, .class_ 2), (0, u "java/io/Serializable"), (0, .class_ 4), (0, u "java/lang/Object")] 2

/-- java/io/Serializable -/
def k11 : Class := { plain "java/io/Serializable" (some 0) with
  accessFlags := 1537
  interfaces := #[]
  cf := some (fileOf pool11 1 #[] #[] 1537 3 #[] #[])
  fields := #[]
  methods := #[]
  instanceTypes := #[]
  staticTypes := #[]
  resolved := Array.replicate 7 none
  statics := none }

def pool12 : Array CpInfo := pool [(1, .methodref 2 3), (0, .class_ 4), (0, .nameAndType 5 6), (0, u "java/util/AbstractList"), (0, u "<init>"), (0, u "()V"), (0, .class_ 8), (0, u "java/lang/Object"), (0, .fieldref 10 11), (0, .class_ 12), (0, .nameAndType 13 14), (0, u "java/util/ArrayList"), (0, u "elementData"), (0, u "[Ljava/lang/Object;"), (2, u "EMPTY_ELEMENTDATA"), (21, .fieldref 10 40), (0, .nameAndType 41 14), (0, u "DEFAULTCAPACITY_EMPTY_ELEMENTDATA"), (5, u "()[Ljava/lang/Object;"), (0, .fieldref 10 49), (0, .nameAndType 50 51), (0, u "size"), (0, u "I"), (11, .fieldref 10 64), (0, .nameAndType 65 51), (0, u "modCount"), (3, .methodref 10 70), (0, .nameAndType 71 72), (0, u "grow"), (0, u "(I)[Ljava/lang/Object;"), (6, .methodref 80 81), (0, .class_ 82), (0, .nameAndType 83 84), (0, u "java/lang/Math"), (0, u "max"), (0, u "(II)I"), (11, u "(Ljava/lang/Object;)Z"), (32, .methodref 10 130), (0, .nameAndType 71 47), (0, .methodref 10 132), (0, .nameAndType 133 134), (0, u "add"), (0, u "(Ljava/lang/Object;[Ljava/lang/Object;I)V"), (13, .class_ 149), (0, u "java/util/List"), (36, u "()I"), (75, .class_ 263), (0, u "java/util/ArrayList$ListItr"), (3, .class_ 268), (0, u "java/util/ArrayList$Itr"), (7, .class_ 277), (0, u "java/util/ArrayList$SubList"), (12, .class_ 291), (0, u "java/util/ArrayList$ArrayListSpliterator"), (37, .class_ 330), (0, u "java/util/RandomAccess"), (0, .class_ 332), (0, u "java/lang/Cloneable"), (0, .class_ 334), (0, u "java/io/Serializable"), (0, u "serialVersionUID"), (0, u "J"), (3, u "DEFAULT_CAPACITY"), (159, .class_ 501), (0, u "java/util/ArrayList$SubList$2"), (0, .class_ 503), (0, u "java/util/ArrayList$SubList$1")] 5

def k12c0 : Code := { maxStack := 2, maxLocals := 1, code := jdk_38_method_2_code, exceptionTable := #[], attributes := #[] }
def k12m0 : Method := { name := "<init>", desc := "()V", sig := { parameters := [], returnType := none }, accessFlags := 1, code := some k12c0 }
def k12c1 : Code := { maxStack := 4, maxLocals := 4, code := jdk_38_method_6_code, exceptionTable := #[], attributes := #[] }
def k12m1 : Method := { name := "grow", desc := "(I)[Ljava/lang/Object;", sig := { parameters := [.int], returnType := some (.array (.object "java/lang/Object")) }, accessFlags := 2, code := some k12c1 }
def k12c2 : Code := { maxStack := 3, maxLocals := 1, code := jdk_38_method_7_code, exceptionTable := #[], attributes := #[] }
def k12m2 : Method := { name := "grow", desc := "()[Ljava/lang/Object;", sig := { parameters := [], returnType := some (.array (.object "java/lang/Object")) }, accessFlags := 2, code := some k12c2 }
def k12c3 : Code := { maxStack := 1, maxLocals := 1, code := jdk_38_method_8_code, exceptionTable := #[], attributes := #[] }
def k12m3 : Method := { name := "size", desc := "()I", sig := { parameters := [], returnType := some .int }, accessFlags := 1, code := some k12c3 }
def k12c4 : Code := { maxStack := 3, maxLocals := 4, code := jdk_38_method_24_code, exceptionTable := #[], attributes := #[] }
def k12m4 : Method := { name := "add", desc := "(Ljava/lang/Object;[Ljava/lang/Object;I)V", sig := { parameters := [(.object "java/lang/Object"), (.array (.object "java/lang/Object")), .int], returnType := none }, accessFlags := 2, code := some k12c4 }
def k12c5 : Code := { maxStack := 4, maxLocals := 2, code := jdk_38_method_25_code, exceptionTable := #[], attributes := #[] }
def k12m5 : Method := { name := "add", desc := "(Ljava/lang/Object;)Z", sig := { parameters := [(.object "java/lang/Object")], returnType := some .boolean }, accessFlags := 1, code := some k12c5 }
/-- java/util/ArrayList -/
def k12 : Class := { plain "java/util/ArrayList" (some 7) with
  accessFlags := 33
  interfaces := #[6, 8, 10, 11]
  cf := some (fileOf pool12 10 #[.nestMembers #[290, 276, 500, 502, 262, 267]] #[{ accessFlags := 1, nameIndex := 5, descriptorIndex := 6, attributes := #[] }, { accessFlags := 2, nameIndex := 71, descriptorIndex := 72, attributes := #[] }, { accessFlags := 2, nameIndex := 71, descriptorIndex := 47, attributes := #[] }, { accessFlags := 1, nameIndex := 50, descriptorIndex := 186, attributes := #[] }, { accessFlags := 2, nameIndex := 133, descriptorIndex := 134, attributes := #[] }, { accessFlags := 1, nameIndex := 133, descriptorIndex := 96, attributes := #[] }] 33 2 #[148, 329, 331, 333] #[{ accessFlags := 26, nameIndex := 335, descriptorIndex := 336, attributes := #[] }, { accessFlags := 26, nameIndex := 340, descriptorIndex := 51, attributes := #[] }, { accessFlags := 26, nameIndex := 17, descriptorIndex := 14, attributes := #[] }, { accessFlags := 26, nameIndex := 41, descriptorIndex := 14, attributes := #[] }, { accessFlags := 128, nameIndex := 13, descriptorIndex := 14, attributes := #[] }, { accessFlags := 2, nameIndex := 50, descriptorIndex := 51, attributes := #[] }])
  fields := #[{ name := "serialVersionUID", type := .long, accessFlags := 26, slot := 0, constantValue := 0 }, { name := "DEFAULT_CAPACITY", type := .int, accessFlags := 26, slot := 1, constantValue := 0 }, { name := "EMPTY_ELEMENTDATA", type := (.array (.object "java/lang/Object")), accessFlags := 26, slot := 2, constantValue := 0 }, { name := "DEFAULTCAPACITY_EMPTY_ELEMENTDATA", type := (.array (.object "java/lang/Object")), accessFlags := 26, slot := 3, constantValue := 0 }, { name := "elementData", type := (.array (.object "java/lang/Object")), accessFlags := 128, slot := 1, constantValue := 0 }, { name := "size", type := .int, accessFlags := 2, slot := 2, constantValue := 0 }]
  methods := #[k12m0, k12m1, k12m2, k12m3, k12m4, k12m5]
  instanceTypes := #[.int, (.array (.object "java/lang/Object")), .int]
  staticTypes := #[.long, .int, (.array (.object "java/lang/Object")), (.array (.object "java/lang/Object"))]
  resolved := Array.replicate 509 none
  statics := some 0 }

def pool13 : Array CpInfo := pool [(1, .class_ 2), (0, u "java/lang/Comparable"), (0, .class_ 4), (0, u "java/lang/Object")] 7

/-- java/lang/Comparable -/
def k13 : Class := { plain "java/lang/Comparable" (some 0) with
  accessFlags := 1537
  interfaces := #[]
  cf := some (fileOf pool13 1 #[] #[] 1537 3 #[] #[])
  fields := #[]
  methods := #[]
  instanceTypes := #[]
  staticTypes := #[]
  resolved := Array.replicate 12 none
  statics := none }

def pool14 : Array CpInfo := pool [(2, .class_ 4), (1, u "java/lang/CharSequence"), (42, .class_ 48), (0, u "java/lang/CharSequence$1CodePointIterator"), (10, .class_ 60), (0, u "java/lang/CharSequence$1CharIterator"), (5, .class_ 67), (0, u "java/lang/Object"), (10, u "toString"), (0, u "()Ljava/lang/String;")] 51

def k14m0 : Method := { name := "toString", desc := "()Ljava/lang/String;", sig := { parameters := [], returnType := some (.object "java/lang/String") }, accessFlags := 1025, code := none }
/-- java/lang/CharSequence -/
def k14 : Class := { plain "java/lang/CharSequence" (some 0) with
  accessFlags := 1537
  interfaces := #[]
  cf := some (fileOf pool14 2 #[.nestMembers #[47, 59]] #[{ accessFlags := 1025, nameIndex := 78, descriptorIndex := 79, attributes := #[] }] 1537 66 #[] #[])
  fields := #[]
  methods := #[k14m0]
  instanceTypes := #[]
  staticTypes := #[]
  resolved := Array.replicate 131 none
  statics := none }

def pool15 : Array CpInfo := pool [(1, .class_ 2), (0, u "java/lang/constant/Constable"), (0, .class_ 4), (0, u "java/lang/Object")] 6

/-- java/lang/constant/Constable -/
def k15 : Class := { plain "java/lang/constant/Constable" (some 0) with
  accessFlags := 1537
  interfaces := #[]
  cf := some (fileOf pool15 1 #[] #[] 1537 3 #[] #[])
  fields := #[]
  methods := #[]
  instanceTypes := #[]
  staticTypes := #[]
  resolved := Array.replicate 11 none
  statics := none }

def pool16 : Array CpInfo := pool [(1, .class_ 2), (0, u "java/lang/constant/ConstantDesc"), (0, .class_ 4), (0, u "java/lang/Object")] 32

/-- java/lang/constant/ConstantDesc -/
def k16 : Class := { plain "java/lang/constant/ConstantDesc" (some 0) with
  accessFlags := 1537
  interfaces := #[]
  cf := some (fileOf pool16 1 #[] #[] 1537 3 #[] #[])
  fields := #[]
  methods := #[]
  instanceTypes := #[]
  staticTypes := #[]
  resolved := Array.replicate 37 none
  statics := none }

def pool17 : Array CpInfo := pool [(1, .methodref 2 3), (0, .class_ 4), (0, .nameAndType 5 6), (0, u "java/lang/Object"), (0, u "<init>"), (0, u "()V"), (2, .fieldref 10 11), (0, .class_ 12), (0, .nameAndType 13 14), (0, u "java/lang/String"), (0, u "value"), (0, u "[B"), (0, .fieldref 10 16), (0, .nameAndType 17 18), (0, u "coder"), (0, u "B"), (2, u "hash"), (0, u "I"), (2, u "hashIsZero"), (0, u "Z"), (11, .fieldref 10 39), (0, .nameAndType 40 26), (0, u "COMPACT_STRINGS"), (1, .class_ 44), (1, u "java/lang/StringUTF16"), (8, u "toBytes"), (53, .class_ 109), (1, u "java/lang/StringLatin1"), (99, .methodref 10 210), (0, .nameAndType 5 211), (0, u "([BB)V"), (157, u "(C)Z"), (93, u "toString"), (0, u "()Ljava/lang/String;"), (110, .class_ 576), (0, u "java/lang/CharSequence"), (22, u "CASE_INSENSITIVE_ORDER"), (0, u "Ljava/util/Comparator;"), (181, u "valueOf"), (0, u "(C)Ljava/lang/String;"), (231, .methodref 107 1016), (0, .nameAndType 1017 369), (0, u "canEncode"), (0, .methodref 107 1019), (0, .nameAndType 53 1020), (0, u "(C)[B"), (0, .methodref 42 1019), (79, u "serialPersistentFields"), (0, u "[Ljava/io/ObjectStreamField;"), (0, .class_ 1104), (0, u "java/lang/String$CaseInsensitiveComparator"), (1, .class_ 1107), (0, u "java/io/Serializable"), (0, .class_ 1109), (0, u "java/lang/Comparable"), (0, .class_ 1111), (0, u "java/lang/constant/Constable"), (0, .class_ 1113), (0, u "java/lang/constant/ConstantDesc"), (2, u "serialVersionUID"), (0, u "J"), (3, u "REPL"), (0, u "C"), (2, u "LATIN1"), (1, u "UTF16")] 323

def k17m0 : Method := { name := "<init>", desc := "()V", sig := { parameters := [], returnType := none }, accessFlags := 1, code := none }
def k17c1 : Code := { maxStack := 1, maxLocals := 1, code := jdk_42_method_126_code, exceptionTable := #[], attributes := #[] }
def k17m1 : Method := { name := "toString", desc := "()Ljava/lang/String;", sig := { parameters := [], returnType := some (.object "java/lang/String") }, accessFlags := 1, code := some k17c1 }
def k17c2 : Code := { maxStack := 4, maxLocals := 1, code := jdk_42_method_139_code, exceptionTable := #[], attributes := #[] }
def k17m2 : Method := { name := "valueOf", desc := "(C)Ljava/lang/String;", sig := { parameters := [.char], returnType := some (.object "java/lang/String") }, accessFlags := 9, code := some k17c2 }
def k17c3 : Code := { maxStack := 2, maxLocals := 3, code := jdk_42_method_151_code, exceptionTable := #[], attributes := #[] }
def k17m3 : Method := { name := "<init>", desc := "([BB)V", sig := { parameters := [(.array .byte), .byte], returnType := none }, accessFlags := 0, code := some k17c3 }
/-- java/lang/String -/
def k17 : Class := { plain "java/lang/String" (some 0) with
  accessFlags := 49
  interfaces := #[11, 13, 14, 15, 16]
  cf := some (fileOf pool17 10 #[.nestMembers #[1103]] #[{ accessFlags := 1, nameIndex := 5, descriptorIndex := 6, attributes := #[] }, { accessFlags := 1, nameIndex := 463, descriptorIndex := 464, attributes := #[] }, { accessFlags := 9, nameIndex := 782, descriptorIndex := 783, attributes := #[] }, { accessFlags := 0, nameIndex := 5, descriptorIndex := 211, attributes := #[] }] 49 2 #[1106, 1108, 575, 1110, 1112] #[{ accessFlags := 18, nameIndex := 13, descriptorIndex := 14, attributes := #[] }, { accessFlags := 18, nameIndex := 17, descriptorIndex := 18, attributes := #[] }, { accessFlags := 2, nameIndex := 21, descriptorIndex := 22, attributes := #[] }, { accessFlags := 2, nameIndex := 25, descriptorIndex := 26, attributes := #[] }, { accessFlags := 26, nameIndex := 1116, descriptorIndex := 1117, attributes := #[] }, { accessFlags := 24, nameIndex := 40, descriptorIndex := 26, attributes := #[] }, { accessFlags := 26, nameIndex := 1101, descriptorIndex := 1102, attributes := #[] }, { accessFlags := 26, nameIndex := 1121, descriptorIndex := 1122, attributes := #[] }, { accessFlags := 25, nameIndex := 599, descriptorIndex := 600, attributes := #[] }, { accessFlags := 24, nameIndex := 1125, descriptorIndex := 18, attributes := #[] }, { accessFlags := 24, nameIndex := 1127, descriptorIndex := 18, attributes := #[] }])
  fields := #[{ name := "value", type := (.array .byte), accessFlags := 18, slot := 0, constantValue := 0 }, { name := "coder", type := .byte, accessFlags := 18, slot := 1, constantValue := 0 }, { name := "hash", type := .int, accessFlags := 2, slot := 2, constantValue := 0 }, { name := "hashIsZero", type := .boolean, accessFlags := 2, slot := 3, constantValue := 0 }, { name := "serialVersionUID", type := .long, accessFlags := 26, slot := 0, constantValue := 0 }, { name := "COMPACT_STRINGS", type := .boolean, accessFlags := 24, slot := 1, constantValue := 0 }, { name := "serialPersistentFields", type := (.array (.object "java/io/ObjectStreamField")), accessFlags := 26, slot := 2, constantValue := 0 }, { name := "REPL", type := .char, accessFlags := 26, slot := 3, constantValue := 0 }, { name := "CASE_INSENSITIVE_ORDER", type := (.object "java/util/Comparator"), accessFlags := 25, slot := 4, constantValue := 0 }, { name := "LATIN1", type := .byte, accessFlags := 24, slot := 5, constantValue := 0 }, { name := "UTF16", type := .byte, accessFlags := 24, slot := 6, constantValue := 0 }]
  methods := #[k17m0, k17m1, k17m2, k17m3]
  instanceTypes := #[(.array .byte), .byte, .int, .boolean]
  staticTypes := #[.long, .boolean, (.array (.object "java/io/ObjectStreamField")), .char, (.object "java/util/Comparator"), .byte, .byte]
  resolved := Array.replicate 1451 none
  statics := some 1 }

def pool18 : Array CpInfo := pool [(4, .class_ 6), (1, u "java/lang/Object"), (0, u "<init>"), (0, u "()V"), (5, .class_ 16), (1, u "java/lang/StringLatin1"), (73, u "canEncode"), (14, u "(C)Z"), (15, u "$assertionsDisabled"), (0, u "Z"), (98, .class_ 223), (1, u "java/lang/StringLatin1$LinesSpliterator"), (156, u "toBytes"), (1, u "(C)[B"), (7, .class_ 391), (0, u "java/lang/StringLatin1$CharsSpliterator")] 3

def k18m0 : Method := { name := "<init>", desc := "()V", sig := { parameters := [], returnType := none }, accessFlags := 0, code := none }
def k18c1 : Code := { maxStack := 2, maxLocals := 1, code := jdk_43_method_3_code, exceptionTable := #[], attributes := #[] }
def k18m1 : Method := { name := "canEncode", desc := "(C)Z", sig := { parameters := [.char], returnType := some .boolean }, accessFlags := 9, code := some k18c1 }
def k18c2 : Code := { maxStack := 4, maxLocals := 1, code := jdk_43_method_46_code, exceptionTable := #[], attributes := #[] }
def k18m2 : Method := { name := "toBytes", desc := "(C)[B", sig := { parameters := [.char], returnType := some (.array .byte) }, accessFlags := 9, code := some k18c2 }
/-- java/lang/StringLatin1 -/
def k18 : Class := { plain "java/lang/StringLatin1" (some 0) with
  accessFlags := 48
  interfaces := #[]
  cf := some (fileOf pool18 14 #[.nestMembers #[390, 221]] #[{ accessFlags := 0, nameIndex := 7, descriptorIndex := 8, attributes := #[] }, { accessFlags := 9, nameIndex := 90, descriptorIndex := 105, attributes := #[] }, { accessFlags := 9, nameIndex := 380, descriptorIndex := 382, attributes := #[] }] 48 4 #[] #[{ accessFlags := 4120, nameIndex := 121, descriptorIndex := 122, attributes := #[] }])
  fields := #[{ name := "$assertionsDisabled", type := .boolean, accessFlags := 4120, slot := 0, constantValue := 0 }]
  methods := #[k18m0, k18m1, k18m2]
  instanceTypes := #[]
  staticTypes := #[.boolean]
  resolved := Array.replicate 395 none
  statics := none }

def pool19 : Array CpInfo := pool [(1, .class_ 2), (0, u "java/lang/Math"), (1, .class_ 6), (1, u "java/lang/Object"), (0, u "<init>"), (0, u "()V"), (89, .class_ 100), (1, u "java/lang/Math$RandomNumberGeneratorHolder"), (71, u "negativeZeroFloatBits"), (0, u "J"), (2, u "negativeZeroDoubleBits"), (21, u "max"), (46, u "$assertionsDisabled"), (0, u "Z"), (88, u "(II)I"), (2, u "twoToTheDoubleScaleDown"), (0, u "D"), (4, u "twoToTheDoubleScaleUp"), (9, u "E"), (3, u "PI"), (2, u "TAU"), (2, u "DEGREES_TO_RADIANS"), (0, u "RADIANS_TO_DEGREES")] 94

def k19m0 : Method := { name := "<init>", desc := "()V", sig := { parameters := [], returnType := none }, accessFlags := 2, code := none }
def k19c1 : Code := { maxStack := 2, maxLocals := 2, code := jdk_29_method_65_code, exceptionTable := #[], attributes := #[] }
def k19m1 : Method := { name := "max", desc := "(II)I", sig := { parameters := [.int, .int], returnType := some .int }, accessFlags := 9, code := some k19c1 }
/-- java/lang/Math -/
def k19 : Class := { plain "java/lang/Math" (some 0) with
  accessFlags := 49
  interfaces := #[]
  cf := some (fileOf pool19 1 #[.nestMembers #[98]] #[{ accessFlags := 2, nameIndex := 7, descriptorIndex := 8, attributes := #[] }, { accessFlags := 9, nameIndex := 198, descriptorIndex := 335, attributes := #[] }] 49 4 #[] #[{ accessFlags := 25, nameIndex := 354, descriptorIndex := 339, attributes := #[] }, { accessFlags := 25, nameIndex := 358, descriptorIndex := 339, attributes := #[] }, { accessFlags := 25, nameIndex := 361, descriptorIndex := 339, attributes := #[] }, { accessFlags := 26, nameIndex := 364, descriptorIndex := 339, attributes := #[] }, { accessFlags := 26, nameIndex := 365, descriptorIndex := 339, attributes := #[] }, { accessFlags := 26, nameIndex := 172, descriptorIndex := 173, attributes := #[] }, { accessFlags := 26, nameIndex := 176, descriptorIndex := 173, attributes := #[] }, { accessFlags := 8, nameIndex := 344, descriptorIndex := 339, attributes := #[] }, { accessFlags := 8, nameIndex := 338, descriptorIndex := 339, attributes := #[] }, { accessFlags := 4120, nameIndex := 245, descriptorIndex := 246, attributes := #[] }])
  fields := #[{ name := "E", type := .double, accessFlags := 25, slot := 0, constantValue := 0 }, { name := "PI", type := .double, accessFlags := 25, slot := 1, constantValue := 0 }, { name := "TAU", type := .double, accessFlags := 25, slot := 2, constantValue := 0 }, { name := "DEGREES_TO_RADIANS", type := .double, accessFlags := 26, slot := 3, constantValue := 0 }, { name := "RADIANS_TO_DEGREES", type := .double, accessFlags := 26, slot := 4, constantValue := 0 }, { name := "negativeZeroFloatBits", type := .long, accessFlags := 26, slot := 5, constantValue := 0 }, { name := "negativeZeroDoubleBits", type := .long, accessFlags := 26, slot := 6, constantValue := 0 }, { name := "twoToTheDoubleScaleUp", type := .double, accessFlags := 8, slot := 7, constantValue := 0 }, { name := "twoToTheDoubleScaleDown", type := .double, accessFlags := 8, slot := 8, constantValue := 0 }, { name := "$assertionsDisabled", type := .boolean, accessFlags := 4120, slot := 9, constantValue := 0 }]
  methods := #[k19m0, k19m1]
  instanceTypes := #[]
  staticTypes := #[.double, .double, .double, .double, .double, .long, .long, .double, .double, .boolean]
  resolved := Array.replicate 460 none
  statics := none }

def pool20 : Array CpInfo := pool [(6, .class_ 8), (1, u "java/lang/Object"), (0, u "<init>"), (0, u "()V"), (1, .class_ 14), (1, u "java/lang/StringUTF16"), (29, .fieldref 12 45), (0, .nameAndType 46 47), (0, u "$assertionsDisabled"), (0, u "Z"), (11, .fieldref 12 60), (0, .nameAndType 61 62), (0, u "HI_BYTE_SHIFT"), (0, u "I"), (0, .fieldref 12 64), (0, .nameAndType 65 62), (0, u "LO_BYTE_SHIFT"), (45, .methodref 12 112), (0, .nameAndType 113 114), (0, u "putChar"), (0, u "([BII)V"), (6, u "toBytes"), (247, .class_ 371), (1, u "java/lang/StringUTF16$LinesSpliterator"), (58, u "MAX_LENGTH"), (44, u "(C)[B"), (151, .class_ 628), (0, u "java/lang/StringUTF16$CodePointsSpliterator"), (0, .class_ 630), (0, u "java/lang/StringUTF16$CharsSpliterator")] 4

def k20m0 : Method := { name := "<init>", desc := "()V", sig := { parameters := [], returnType := none }, accessFlags := 0, code := none }
def k20c1 : Code := { maxStack := 4, maxLocals := 3, code := jdk_52_method_4_code, exceptionTable := #[], attributes := #[] }
def k20m1 : Method := { name := "putChar", desc := "([BII)V", sig := { parameters := [(.array .byte), .int, .int], returnType := none }, accessFlags := 8, code := some k20c1 }
def k20c2 : Code := { maxStack := 3, maxLocals := 2, code := jdk_52_method_24_code, exceptionTable := #[], attributes := #[] }
def k20m2 : Method := { name := "toBytes", desc := "(C)[B", sig := { parameters := [.char], returnType := some (.array .byte) }, accessFlags := 9, code := some k20c2 }
/-- java/lang/StringUTF16 -/
def k20 : Class := { plain "java/lang/StringUTF16" (some 0) with
  accessFlags := 48
  interfaces := #[]
  cf := some (fileOf pool20 12 #[.nestMembers #[627, 629, 369]] #[{ accessFlags := 0, nameIndex := 9, descriptorIndex := 10, attributes := #[] }, { accessFlags := 8, nameIndex := 113, descriptorIndex := 114, attributes := #[] }, { accessFlags := 9, nameIndex := 121, descriptorIndex := 475, attributes := #[] }] 48 6 #[] #[{ accessFlags := 26, nameIndex := 61, descriptorIndex := 62, attributes := #[] }, { accessFlags := 26, nameIndex := 65, descriptorIndex := 62, attributes := #[] }, { accessFlags := 24, nameIndex := 430, descriptorIndex := 62, attributes := #[] }, { accessFlags := 4120, nameIndex := 46, descriptorIndex := 47, attributes := #[] }])
  fields := #[{ name := "HI_BYTE_SHIFT", type := .int, accessFlags := 26, slot := 0, constantValue := 0 }, { name := "LO_BYTE_SHIFT", type := .int, accessFlags := 26, slot := 1, constantValue := 0 }, { name := "MAX_LENGTH", type := .int, accessFlags := 24, slot := 2, constantValue := 0 }, { name := "$assertionsDisabled", type := .boolean, accessFlags := 4120, slot := 3, constantValue := 0 }]
  methods := #[k20m0, k20m1, k20m2]
  instanceTypes := #[]
  staticTypes := #[.int, .int, .int, .boolean]
  resolved := Array.replicate 635 none
  statics := some 2 }

def pool21 : Array CpInfo := pool [(2, .class_ 4), (1, u "java/lang/Object"), (0, u "<init>"), (0, u "()V"), (17, .class_ 26), (1, u "jdk/internal/util/Preconditions"), (28, .class_ 56), (0, u "jdk/internal/util/Preconditions$4"), (57, .class_ 115), (0, u "jdk/internal/util/Preconditions$1"), (7, u "SIOOBE_FORMATTER"), (0, u "Ljava/util/function/BiFunction;"), (0, .class_ 126), (0, u "jdk/internal/util/Preconditions$2"), (3, u "AIOOBE_FORMATTER"), (0, .class_ 132), (0, u "jdk/internal/util/Preconditions$3"), (3, u "IOOBE_FORMATTER")] 57

def k21m0 : Method := { name := "<init>", desc := "()V", sig := { parameters := [], returnType := none }, accessFlags := 1, code := none }
/-- jdk/internal/util/Preconditions -/
def k21 : Class := { plain "jdk/internal/util/Preconditions" (some 0) with
  accessFlags := 33
  interfaces := #[]
  cf := some (fileOf pool21 24 #[.nestMembers #[55, 131, 125, 114]] #[{ accessFlags := 1, nameIndex := 5, descriptorIndex := 6, attributes := #[] }] 33 2 #[] #[{ accessFlags := 25, nameIndex := 123, descriptorIndex := 124, attributes := #[] }, { accessFlags := 25, nameIndex := 130, descriptorIndex := 124, attributes := #[] }, { accessFlags := 25, nameIndex := 136, descriptorIndex := 124, attributes := #[] }])
  fields := #[{ name := "SIOOBE_FORMATTER", type := (.object "java/util/function/BiFunction"), accessFlags := 25, slot := 0, constantValue := 0 }, { name := "AIOOBE_FORMATTER", type := (.object "java/util/function/BiFunction"), accessFlags := 25, slot := 1, constantValue := 0 }, { name := "IOOBE_FORMATTER", type := (.object "java/util/function/BiFunction"), accessFlags := 25, slot := 2, constantValue := 0 }]
  methods := #[k21m0]
  instanceTypes := #[]
  staticTypes := #[(.object "java/util/function/BiFunction"), (.object "java/util/function/BiFunction"), (.object "java/util/function/BiFunction")]
  resolved := Array.replicate 194 none
  statics := some 3 }

def pool22 : Array CpInfo := pool [(9, u "<init>"), (6, .class_ 18), (1, u "java/lang/Object"), (0, u "()V"), (1, .class_ 23), (1, u "jdk/internal/util/ArraysSupport"), (0, u "LOG2_ARRAY_LONG_INDEX_SCALE"), (0, u "I"), (2, u "U"), (0, u "Ljdk/internal/misc/Unsafe;"), (8, u "BIG_ENDIAN"), (0, u "Z"), (8, u "LOG2_BYTE_BIT_SIZE"), (4, u "LOG2_ARRAY_INT_INDEX_SCALE"), (54, u "JLA"), (0, u "Ljdk/internal/access/JavaLangAccess;"), (11, u "LOG2_ARRAY_BOOLEAN_INDEX_SCALE"), (9, u "LOG2_ARRAY_BYTE_INDEX_SCALE"), (5, u "LOG2_ARRAY_CHAR_INDEX_SCALE"), (5, u "LOG2_ARRAY_SHORT_INDEX_SCALE"), (18, u "LOG2_ARRAY_FLOAT_INDEX_SCALE"), (24, u "LOG2_ARRAY_DOUBLE_INDEX_SCALE"), (89, u "T_BOOLEAN"), (2, u "T_CHAR"), (1, u "T_FLOAT"), (1, u "T_DOUBLE"), (1, u "T_BYTE"), (1, u "T_SHORT"), (1, u "T_INT"), (1, u "T_LONG"), (1, u "SOFT_MAX_ARRAY_LENGTH")] 83

def k22m0 : Method := { name := "<init>", desc := "()V", sig := { parameters := [], returnType := none }, accessFlags := 2, code := none }
/-- jdk/internal/util/ArraysSupport -/
def k22 : Class := { plain "jdk/internal/util/ArraysSupport" (some 0) with
  accessFlags := 33
  interfaces := #[]
  cf := some (fileOf pool22 21 #[] #[{ accessFlags := 2, nameIndex := 9, descriptorIndex := 19, attributes := #[] }] 33 16 #[] #[{ accessFlags := 24, nameIndex := 28, descriptorIndex := 29, attributes := #[] }, { accessFlags := 26, nameIndex := 38, descriptorIndex := 39, attributes := #[] }, { accessFlags := 25, nameIndex := 121, descriptorIndex := 25, attributes := #[] }, { accessFlags := 25, nameIndex := 131, descriptorIndex := 25, attributes := #[] }, { accessFlags := 25, nameIndex := 137, descriptorIndex := 25, attributes := #[] }, { accessFlags := 25, nameIndex := 143, descriptorIndex := 25, attributes := #[] }, { accessFlags := 25, nameIndex := 53, descriptorIndex := 25, attributes := #[] }, { accessFlags := 25, nameIndex := 24, descriptorIndex := 25, attributes := #[] }, { accessFlags := 25, nameIndex := 162, descriptorIndex := 25, attributes := #[] }, { accessFlags := 25, nameIndex := 187, descriptorIndex := 25, attributes := #[] }, { accessFlags := 26, nameIndex := 48, descriptorIndex := 25, attributes := #[] }, { accessFlags := 25, nameIndex := 277, descriptorIndex := 25, attributes := #[] }, { accessFlags := 25, nameIndex := 280, descriptorIndex := 25, attributes := #[] }, { accessFlags := 25, nameIndex := 282, descriptorIndex := 25, attributes := #[] }, { accessFlags := 25, nameIndex := 284, descriptorIndex := 25, attributes := #[] }, { accessFlags := 25, nameIndex := 286, descriptorIndex := 25, attributes := #[] }, { accessFlags := 25, nameIndex := 288, descriptorIndex := 25, attributes := #[] }, { accessFlags := 25, nameIndex := 290, descriptorIndex := 25, attributes := #[] }, { accessFlags := 25, nameIndex := 292, descriptorIndex := 25, attributes := #[] }, { accessFlags := 26, nameIndex := 108, descriptorIndex := 109, attributes := #[] }, { accessFlags := 25, nameIndex := 294, descriptorIndex := 25, attributes := #[] }])
  fields := #[{ name := "U", type := (.object "jdk/internal/misc/Unsafe"), accessFlags := 24, slot := 0, constantValue := 0 }, { name := "BIG_ENDIAN", type := .boolean, accessFlags := 26, slot := 1, constantValue := 0 }, { name := "LOG2_ARRAY_BOOLEAN_INDEX_SCALE", type := .int, accessFlags := 25, slot := 2, constantValue := 0 }, { name := "LOG2_ARRAY_BYTE_INDEX_SCALE", type := .int, accessFlags := 25, slot := 3, constantValue := 0 }, { name := "LOG2_ARRAY_CHAR_INDEX_SCALE", type := .int, accessFlags := 25, slot := 4, constantValue := 0 }, { name := "LOG2_ARRAY_SHORT_INDEX_SCALE", type := .int, accessFlags := 25, slot := 5, constantValue := 0 }, { name := "LOG2_ARRAY_INT_INDEX_SCALE", type := .int, accessFlags := 25, slot := 6, constantValue := 0 }, { name := "LOG2_ARRAY_LONG_INDEX_SCALE", type := .int, accessFlags := 25, slot := 7, constantValue := 0 }, { name := "LOG2_ARRAY_FLOAT_INDEX_SCALE", type := .int, accessFlags := 25, slot := 8, constantValue := 0 }, { name := "LOG2_ARRAY_DOUBLE_INDEX_SCALE", type := .int, accessFlags := 25, slot := 9, constantValue := 0 }, { name := "LOG2_BYTE_BIT_SIZE", type := .int, accessFlags := 26, slot := 10, constantValue := 0 }, { name := "T_BOOLEAN", type := .int, accessFlags := 25, slot := 11, constantValue := 0 }, { name := "T_CHAR", type := .int, accessFlags := 25, slot := 12, constantValue := 0 }, { name := "T_FLOAT", type := .int, accessFlags := 25, slot := 13, constantValue := 0 }, { name := "T_DOUBLE", type := .int, accessFlags := 25, slot := 14, constantValue := 0 }, { name := "T_BYTE", type := .int, accessFlags := 25, slot := 15, constantValue := 0 }, { name := "T_SHORT", type := .int, accessFlags := 25, slot := 16, constantValue := 0 }, { name := "T_INT", type := .int, accessFlags := 25, slot := 17, constantValue := 0 }, { name := "T_LONG", type := .int, accessFlags := 25, slot := 18, constantValue := 0 }, { name := "JLA", type := (.object "jdk/internal/access/JavaLangAccess"), accessFlags := 26, slot := 19, constantValue := 0 }, { name := "SOFT_MAX_ARRAY_LENGTH", type := .int, accessFlags := 25, slot := 20, constantValue := 0 }]
  methods := #[k22m0]
  instanceTypes := #[]
  staticTypes := #[(.object "jdk/internal/misc/Unsafe"), .boolean, .int, .int, .int, .int, .int, .int, .int, .int, .int, .int, .int, .int, .int, .int, .int, .int, .int, (.object "jdk/internal/access/JavaLangAccess"), .int]
  resolved := Array.replicate 378 none
  statics := none }

/-- the primitive byte -/
def k23 : Class := { plain "byte" none with kind := .primitive 'B', accessFlags := 0x411 }
/-- [B -/
def k24 : Class := { plain "[B" (some 0) with kind := .array 23 .byte, interfaces := #[10, 11], accessFlags := 1041 }

/-- the primitive int -/
def k25 : Class := { plain "int" none with kind := .primitive 'I', accessFlags := 0x411 }
/-- [I -/
def k26 : Class := { plain "[I" (some 0) with kind := .array 25 .int, interfaces := #[10, 11], accessFlags := 1041 }

/-- the primitive long -/
def k27 : Class := { plain "long" none with kind := .primitive 'J', accessFlags := 0x411 }
/-- [J -/
def k28 : Class := { plain "[J" (some 0) with kind := .array 27 .long, interfaces := #[10, 11], accessFlags := 1041 }

/-- [Ljava/lang/Object; -/
def k29 : Class := { plain "[Ljava/lang/Object;" (some 0) with kind := .array 0 (.object "java/lang/Object"), interfaces := #[10, 11], accessFlags := 1041 }

/-- [[J -/
def k30 : Class := { plain "[[J" (some 0) with kind := .array 28 (.array .long), interfaces := #[10, 11], accessFlags := 1041 }

def heap : Heap := #[{ cls := 12, slots := #[.long 0, .int 0, .ref 4, .ref 5], vm := .statics 12 },
  { cls := 17, slots := #[.long 0, .int 1, .null, .int 0, .null, .int 0, .int 0], vm := .statics 17 },
  { cls := 20, slots := #[.int 0, .int 8, .int 0, .int 1], vm := .statics 20 },
  { cls := 21, slots := #[.null, .null, .null], vm := .statics 21 },
  { cls := 29, slots := #[], vm := .none },
  { cls := 29, slots := #[], vm := .none }]
def classes : Array Class := #[k0, k1, k2, k3, k4, k5, k6, k7, k8, k9, k10, k11, k12, k13, k14, k15, k16, k17, k18, k19, k20, k21, k22, k23, k24, k25, k26, k27, k28, k29, k30]
def interned : List (Array UInt16 × Addr) := []
def slotsUsed : Nat := 18
def theMethod : MethodId := ⟨1, 2⟩
def args0 : Array Value := #[.long 5, .long 3, .long 7, .int 2, .int 11]
def aboutOver (below : List Frame) : State where
  vm := { classes := classes, interned := interned.toArray }
  heap := heap
  slotsUsed := slotsUsed
  threads := #[{ frames := .invoking theMethod args0 :: below }]
def below0 : List Frame := [.native { method := ⟨0, 0⟩, args := #[] }]
def about1 : State := aboutOver below0
def p0 : Program := .bare "" "" ""
def e0 : Env := launch0.env 0 0 0
theorem w_frames : about1.frames = Frame.invoking theMethod args0 :: below0 := rfl
set_option maxRecDepth 65536 in
theorem w_args : argsFit about1.vm theMethod args0 = true := by decide +kernel
set_option maxRecDepth 65536 in
theorem w_heap : heapFits about1 = true := by decide +kernel
set_option maxRecDepth 65536 in
theorem w_runnable : about1.curStatus? = some .runnable := by decide +kernel
set_option maxRecDepth 65536 in
theorem w_alone : about1.alone = true := by decide +kernel
set_option maxRecDepth 65536 in
theorem w_named : about1.methodNamed? x = some theMethod := by decide +kernel
set_option maxRecDepth 65536 in
theorem w_hears : about1.hears theMethod below0 = true := by decide +kernel
set_option maxRecDepth 65536 in
theorem w_ripe : about1.ripe theMethod args0 below0 = true := by decide +kernel
theorem w_running : about1.status = .running := rfl
set_option maxRecDepth 65536 in
theorem w_room : about1.hasRoom e0.platform room_1 = true :=
  launch0.hasRoom_least _ room_1 (by decide +kernel) (by decide +kernel) (by decide +kernel) (by decide +kernel) (by decide +kernel) (by decide +kernel)
theorem allAtoms_all (ts : List Jvm.Cond) (a : Array Jvm.Value) (st : Jvm.State) : (allAtoms ts).before a st = ts.all (fun c => c.before a st) := by
  induction ts with
  | nil => rfl
  | cons c t ih =>
    show (Jvm.Cond.and c (allAtoms t)).before a st = _
    rw [Jvm.Cond.before_and, ih, List.all_cons]
def words1 : List Jvm.Cond := Jvm.Cond.code x code maxLocals ret :: tables_1
/-- a 'code' word, met by the world's own term for the bytes: nothing is compared byte by byte -/
theorem code_word {y : MethodName} {bytes : ByteArray} {mx : Nat} {rt : Option FieldType} {a : Array Value} {s : State} {m : MethodId} {meth : Method} {c : Code} (h1 : s.methodNamed? y = some m) (h2 : s.vm.method? m = some meth) (h3 : meth.code = some c) (h4 : c.code = bytes)
    (h5 : (c.maxLocals == mx && c.exceptionTable.isEmpty && decide (c.maxStack ≤ mostOperands) && decide (meth.sig.returnType = rt) && !meth.locks && decide (parseMethodDescriptor y.desc = some meth.sig)) = true) : (Jvm.Cond.code y bytes mx rt).before a s = true := by
  simp only [Bool.and_eq_true, beq_iff_eq, Bool.not_eq_true', decide_eq_true_eq] at h5
  obtain ⟨⟨⟨⟨⟨g1, g2⟩, g3⟩, g4⟩, g5⟩, g6⟩ := h5
  simp [Cond.before, Cond.holds, Cond.value, h1, h2, h3, h4, g1, g2, g3, g4, g5, g6]
def isCode : Jvm.Cond → Bool
  | .code _ _ _ _ => true
  | _ => false
theorem all_split {L : List Jvm.Cond} {P : Jvm.Cond → Bool} (h1 : L.all (fun c => isCode c || P c) = true) (h2 : ∀ c ∈ L.filter isCode, P c = true) : L.all P = true := by
  refine List.all_eq_true.mpr fun c hc => ?_
  have h := List.all_eq_true.mp h1 c hc
  rcases Bool.eq_false_or_eq_true (isCode c) with hi | hi
  · exact h2 c (List.mem_filter.mpr ⟨hc, hi⟩)
  · simpa [hi] using h
set_option maxRecDepth 65536 in
theorem w_c0 : (Jvm.Cond.code x code maxLocals ret).before args0 about1 = true := code_word (m := ⟨1, 2⟩) (meth := k1m2) (c := k1c2) (by decide +kernel) rfl rfl rfl (by decide +kernel)
set_option maxRecDepth 65536 in
theorem w_c1 : (Jvm.Cond.code ({ cls := "com/example/circular_authority/circularauthority/model/LabelList", name := "<init>", desc := "(I)V" } : Jvm.MethodName) prog_44_method_1_code (2 : Nat) (Option.none : Option Jvm.ClassFile.FieldType)).before args0 about1 = true := code_word (m := ⟨9, 0⟩) (meth := k9m0) (c := k9c0) (by decide +kernel) rfl rfl rfl (by decide +kernel)
set_option maxRecDepth 65536 in
theorem w_c2 : (Jvm.Cond.code ({ cls := "java/util/AbstractList", name := "<init>", desc := "()V" } : Jvm.MethodName) jdk_39_method_1_code (1 : Nat) (Option.none : Option Jvm.ClassFile.FieldType)).before args0 about1 = true := code_word (m := ⟨7, 0⟩) (meth := k7m0) (c := k7c0) (by decide +kernel) rfl rfl rfl (by decide +kernel)
set_option maxRecDepth 65536 in
theorem w_c3 : (Jvm.Cond.code ({ cls := "java/util/AbstractCollection", name := "<init>", desc := "()V" } : Jvm.MethodName) jdk_22_method_1_code (1 : Nat) (Option.none : Option Jvm.ClassFile.FieldType)).before args0 about1 = true := code_word (m := ⟨4, 0⟩) (meth := k4m0) (c := k4c0) (by decide +kernel) rfl rfl rfl (by decide +kernel)
set_option maxRecDepth 65536 in
theorem w_c4 : (Jvm.Cond.code ({ cls := "java/lang/Object", name := "<init>", desc := "()V" } : Jvm.MethodName) object_method_1_code (1 : Nat) (Option.none : Option Jvm.ClassFile.FieldType)).before args0 about1 = true := code_word (m := ⟨0, 0⟩) (meth := k0m0) (c := k0c0) (by decide +kernel) rfl rfl rfl (by decide +kernel)
set_option maxRecDepth 65536 in
theorem w_c5 : (Jvm.Cond.code ({ cls := "java/util/ArrayList", name := "<init>", desc := "()V" } : Jvm.MethodName) jdk_38_method_2_code (1 : Nat) (Option.none : Option Jvm.ClassFile.FieldType)).before args0 about1 = true := code_word (m := ⟨12, 0⟩) (meth := k12m0) (c := k12c0) (by decide +kernel) rfl rfl rfl (by decide +kernel)
set_option maxRecDepth 65536 in
theorem w_c6 : (Jvm.Cond.code ({ cls := "com/example/circular_authority/circularauthority/model/LabelListGetPackedPinLaw", name := "pk", desc := "(JI)J" } : Jvm.MethodName) method_2_code (3 : Nat) (Option.some Jvm.ClassFile.FieldType.long)).before args0 about1 = true := code_word (m := ⟨1, 1⟩) (meth := k1m1) (c := k1c1) (by decide +kernel) rfl rfl rfl (by decide +kernel)
set_option maxRecDepth 65536 in
theorem w_c7 : (Jvm.Cond.code ({ cls := "java/lang/String", name := "valueOf", desc := "(C)Ljava/lang/String;" } : Jvm.MethodName) jdk_42_method_139_code (1 : Nat) (Option.some (Jvm.ClassFile.FieldType.object "java/lang/String"))).before args0 about1 = true := code_word (m := ⟨17, 2⟩) (meth := k17m2) (c := k17c2) (by decide +kernel) rfl rfl rfl (by decide +kernel)
set_option maxRecDepth 65536 in
theorem w_c8 : (Jvm.Cond.code ({ cls := "java/lang/StringLatin1", name := "canEncode", desc := "(C)Z" } : Jvm.MethodName) jdk_43_method_3_code (1 : Nat) (Option.some Jvm.ClassFile.FieldType.boolean)).before args0 about1 = true := code_word (m := ⟨18, 1⟩) (meth := k18m1) (c := k18c1) (by decide +kernel) rfl rfl rfl (by decide +kernel)
set_option maxRecDepth 65536 in
theorem w_c9 : (Jvm.Cond.code ({ cls := "java/lang/StringLatin1", name := "toBytes", desc := "(C)[B" } : Jvm.MethodName) jdk_43_method_46_code (1 : Nat) (Option.some (Jvm.ClassFile.FieldType.array Jvm.ClassFile.FieldType.byte))).before args0 about1 = true := code_word (m := ⟨18, 2⟩) (meth := k18m2) (c := k18c2) (by decide +kernel) rfl rfl rfl (by decide +kernel)
set_option maxRecDepth 65536 in
theorem w_c10 : (Jvm.Cond.code ({ cls := "java/lang/String", name := "<init>", desc := "([BB)V" } : Jvm.MethodName) jdk_42_method_151_code (3 : Nat) (Option.none : Option Jvm.ClassFile.FieldType)).before args0 about1 = true := code_word (m := ⟨17, 3⟩) (meth := k17m3) (c := k17c3) (by decide +kernel) rfl rfl rfl (by decide +kernel)
set_option maxRecDepth 65536 in
theorem w_c11 : (Jvm.Cond.code ({ cls := "com/example/circular_authority/circularauthority/model/LabelList", name := "addPacked", desc := "(J)V" } : Jvm.MethodName) prog_44_method_4_code (3 : Nat) (Option.none : Option Jvm.ClassFile.FieldType)).before args0 about1 = true := code_word (m := ⟨9, 1⟩) (meth := k9m1) (c := k9c1) (by decide +kernel) rfl rfl rfl (by decide +kernel)
set_option maxRecDepth 65536 in
theorem w_c12 : (Jvm.Cond.code ({ cls := "com/example/circular_authority/circularauthority/model/LabelList", name := "addEntry", desc := "(J)V" } : Jvm.MethodName) prog_44_method_6_code (4 : Nat) (Option.none : Option Jvm.ClassFile.FieldType)).before args0 about1 = true := code_word (m := ⟨9, 3⟩) (meth := k9m3) (c := k9c3) (by decide +kernel) rfl rfl rfl (by decide +kernel)
set_option maxRecDepth 65536 in
theorem w_c13 : (Jvm.Cond.code ({ cls := "com/example/circular_authority/circularauthority/model/LabelList", name := "addOther", desc := "(Ljava/lang/CharSequence;)V" } : Jvm.MethodName) prog_44_method_5_code (2 : Nat) (Option.none : Option Jvm.ClassFile.FieldType)).before args0 about1 = true := code_word (m := ⟨9, 2⟩) (meth := k9m2) (c := k9c2) (by decide +kernel) rfl rfl rfl (by decide +kernel)
set_option maxRecDepth 65536 in
theorem w_c14 : (Jvm.Cond.code ({ cls := "java/util/ArrayList", name := "size", desc := "()I" } : Jvm.MethodName) jdk_38_method_8_code (1 : Nat) (Option.some Jvm.ClassFile.FieldType.int)).before args0 about1 = true := code_word (m := ⟨12, 3⟩) (meth := k12m3) (c := k12c3) (by decide +kernel) rfl rfl rfl (by decide +kernel)
set_option maxRecDepth 65536 in
theorem w_c15 : (Jvm.Cond.code ({ cls := "java/lang/String", name := "toString", desc := "()Ljava/lang/String;" } : Jvm.MethodName) jdk_42_method_126_code (1 : Nat) (Option.some (Jvm.ClassFile.FieldType.object "java/lang/String"))).before args0 about1 = true := code_word (m := ⟨17, 1⟩) (meth := k17m1) (c := k17c1) (by decide +kernel) rfl rfl rfl (by decide +kernel)
set_option maxRecDepth 65536 in
theorem w_c16 : (Jvm.Cond.code ({ cls := "java/util/ArrayList", name := "add", desc := "(Ljava/lang/Object;)Z" } : Jvm.MethodName) jdk_38_method_25_code (2 : Nat) (Option.some Jvm.ClassFile.FieldType.boolean)).before args0 about1 = true := code_word (m := ⟨12, 5⟩) (meth := k12m5) (c := k12c5) (by decide +kernel) rfl rfl rfl (by decide +kernel)
set_option maxRecDepth 65536 in
theorem w_c17 : (Jvm.Cond.code ({ cls := "java/util/ArrayList", name := "add", desc := "(Ljava/lang/Object;[Ljava/lang/Object;I)V" } : Jvm.MethodName) jdk_38_method_24_code (4 : Nat) (Option.none : Option Jvm.ClassFile.FieldType)).before args0 about1 = true := code_word (m := ⟨12, 4⟩) (meth := k12m4) (c := k12c4) (by decide +kernel) rfl rfl rfl (by decide +kernel)
set_option maxRecDepth 65536 in
theorem w_c18 : (Jvm.Cond.code ({ cls := "java/util/ArrayList", name := "grow", desc := "()[Ljava/lang/Object;" } : Jvm.MethodName) jdk_38_method_7_code (1 : Nat) (Option.some (Jvm.ClassFile.FieldType.array (Jvm.ClassFile.FieldType.object "java/lang/Object")))).before args0 about1 = true := code_word (m := ⟨12, 2⟩) (meth := k12m2) (c := k12c2) (by decide +kernel) rfl rfl rfl (by decide +kernel)
set_option maxRecDepth 65536 in
theorem w_c19 : (Jvm.Cond.code ({ cls := "java/util/ArrayList", name := "grow", desc := "(I)[Ljava/lang/Object;" } : Jvm.MethodName) jdk_38_method_6_code (4 : Nat) (Option.some (Jvm.ClassFile.FieldType.array (Jvm.ClassFile.FieldType.object "java/lang/Object")))).before args0 about1 = true := code_word (m := ⟨12, 1⟩) (meth := k12m1) (c := k12c1) (by decide +kernel) rfl rfl rfl (by decide +kernel)
set_option maxRecDepth 65536 in
theorem w_c20 : (Jvm.Cond.code ({ cls := "java/lang/Math", name := "max", desc := "(II)I" } : Jvm.MethodName) jdk_29_method_65_code (2 : Nat) (Option.some Jvm.ClassFile.FieldType.int)).before args0 about1 = true := code_word (m := ⟨19, 1⟩) (meth := k19m1) (c := k19c1) (by decide +kernel) rfl rfl rfl (by decide +kernel)
set_option maxRecDepth 65536 in
theorem w_c21 : (Jvm.Cond.code ({ cls := "com/example/circular_authority/circularauthority/model/LabelList", name := "getPacked", desc := "(I)J" } : Jvm.MethodName) prog_44_method_7_code (4 : Nat) (Option.some Jvm.ClassFile.FieldType.long)).before args0 about1 = true := code_word (m := ⟨9, 4⟩) (meth := k9m4) (c := k9c4) (by decide +kernel) rfl rfl rfl (by decide +kernel)
set_option maxRecDepth 65536 in
theorem w_c22 : (Jvm.Cond.code ({ cls := "java/lang/StringUTF16", name := "toBytes", desc := "(C)[B" } : Jvm.MethodName) jdk_52_method_24_code (2 : Nat) (Option.some (Jvm.ClassFile.FieldType.array Jvm.ClassFile.FieldType.byte))).before args0 about1 = true := code_word (m := ⟨20, 2⟩) (meth := k20m2) (c := k20c2) (by decide +kernel) rfl rfl rfl (by decide +kernel)
set_option maxRecDepth 65536 in
theorem w_c23 : (Jvm.Cond.code ({ cls := "java/lang/StringUTF16", name := "putChar", desc := "([BII)V" } : Jvm.MethodName) jdk_52_method_4_code (3 : Nat) (Option.none : Option Jvm.ClassFile.FieldType)).before args0 about1 = true := code_word (m := ⟨20, 1⟩) (meth := k20m1) (c := k20c1) (by decide +kernel) rfl rfl rfl (by decide +kernel)
def codes1 : List Jvm.Cond := [Jvm.Cond.code x code maxLocals ret, Jvm.Cond.code ({ cls := "com/example/circular_authority/circularauthority/model/LabelList", name := "<init>", desc := "(I)V" } : Jvm.MethodName) prog_44_method_1_code (2 : Nat) (Option.none : Option Jvm.ClassFile.FieldType), Jvm.Cond.code ({ cls := "java/util/AbstractList", name := "<init>", desc := "()V" } : Jvm.MethodName) jdk_39_method_1_code (1 : Nat) (Option.none : Option Jvm.ClassFile.FieldType), Jvm.Cond.code ({ cls := "java/util/AbstractCollection", name := "<init>", desc := "()V" } : Jvm.MethodName) jdk_22_method_1_code (1 : Nat) (Option.none : Option Jvm.ClassFile.FieldType), Jvm.Cond.code ({ cls := "java/lang/Object", name := "<init>", desc := "()V" } : Jvm.MethodName) object_method_1_code (1 : Nat) (Option.none : Option Jvm.ClassFile.FieldType), Jvm.Cond.code ({ cls := "java/util/ArrayList", name := "<init>", desc := "()V" } : Jvm.MethodName) jdk_38_method_2_code (1 : Nat) (Option.none : Option Jvm.ClassFile.FieldType), Jvm.Cond.code ({ cls := "com/example/circular_authority/circularauthority/model/LabelListGetPackedPinLaw", name := "pk", desc := "(JI)J" } : Jvm.MethodName) method_2_code (3 : Nat) (Option.some Jvm.ClassFile.FieldType.long), Jvm.Cond.code ({ cls := "java/lang/String", name := "valueOf", desc := "(C)Ljava/lang/String;" } : Jvm.MethodName) jdk_42_method_139_code (1 : Nat) (Option.some (Jvm.ClassFile.FieldType.object "java/lang/String")), Jvm.Cond.code ({ cls := "java/lang/StringLatin1", name := "canEncode", desc := "(C)Z" } : Jvm.MethodName) jdk_43_method_3_code (1 : Nat) (Option.some Jvm.ClassFile.FieldType.boolean), Jvm.Cond.code ({ cls := "java/lang/StringLatin1", name := "toBytes", desc := "(C)[B" } : Jvm.MethodName) jdk_43_method_46_code (1 : Nat) (Option.some (Jvm.ClassFile.FieldType.array Jvm.ClassFile.FieldType.byte)), Jvm.Cond.code ({ cls := "java/lang/String", name := "<init>", desc := "([BB)V" } : Jvm.MethodName) jdk_42_method_151_code (3 : Nat) (Option.none : Option Jvm.ClassFile.FieldType), Jvm.Cond.code ({ cls := "com/example/circular_authority/circularauthority/model/LabelList", name := "addPacked", desc := "(J)V" } : Jvm.MethodName) prog_44_method_4_code (3 : Nat) (Option.none : Option Jvm.ClassFile.FieldType), Jvm.Cond.code ({ cls := "com/example/circular_authority/circularauthority/model/LabelList", name := "addEntry", desc := "(J)V" } : Jvm.MethodName) prog_44_method_6_code (4 : Nat) (Option.none : Option Jvm.ClassFile.FieldType), Jvm.Cond.code ({ cls := "com/example/circular_authority/circularauthority/model/LabelList", name := "addOther", desc := "(Ljava/lang/CharSequence;)V" } : Jvm.MethodName) prog_44_method_5_code (2 : Nat) (Option.none : Option Jvm.ClassFile.FieldType), Jvm.Cond.code ({ cls := "java/util/ArrayList", name := "size", desc := "()I" } : Jvm.MethodName) jdk_38_method_8_code (1 : Nat) (Option.some Jvm.ClassFile.FieldType.int), Jvm.Cond.code ({ cls := "java/lang/String", name := "toString", desc := "()Ljava/lang/String;" } : Jvm.MethodName) jdk_42_method_126_code (1 : Nat) (Option.some (Jvm.ClassFile.FieldType.object "java/lang/String")), Jvm.Cond.code ({ cls := "java/util/ArrayList", name := "add", desc := "(Ljava/lang/Object;)Z" } : Jvm.MethodName) jdk_38_method_25_code (2 : Nat) (Option.some Jvm.ClassFile.FieldType.boolean), Jvm.Cond.code ({ cls := "java/util/ArrayList", name := "add", desc := "(Ljava/lang/Object;[Ljava/lang/Object;I)V" } : Jvm.MethodName) jdk_38_method_24_code (4 : Nat) (Option.none : Option Jvm.ClassFile.FieldType), Jvm.Cond.code ({ cls := "java/util/ArrayList", name := "grow", desc := "()[Ljava/lang/Object;" } : Jvm.MethodName) jdk_38_method_7_code (1 : Nat) (Option.some (Jvm.ClassFile.FieldType.array (Jvm.ClassFile.FieldType.object "java/lang/Object"))), Jvm.Cond.code ({ cls := "java/util/ArrayList", name := "grow", desc := "(I)[Ljava/lang/Object;" } : Jvm.MethodName) jdk_38_method_6_code (4 : Nat) (Option.some (Jvm.ClassFile.FieldType.array (Jvm.ClassFile.FieldType.object "java/lang/Object"))), Jvm.Cond.code ({ cls := "java/lang/Math", name := "max", desc := "(II)I" } : Jvm.MethodName) jdk_29_method_65_code (2 : Nat) (Option.some Jvm.ClassFile.FieldType.int), Jvm.Cond.code ({ cls := "com/example/circular_authority/circularauthority/model/LabelList", name := "getPacked", desc := "(I)J" } : Jvm.MethodName) prog_44_method_7_code (4 : Nat) (Option.some Jvm.ClassFile.FieldType.long), Jvm.Cond.code ({ cls := "java/lang/StringUTF16", name := "toBytes", desc := "(C)[B" } : Jvm.MethodName) jdk_52_method_24_code (2 : Nat) (Option.some (Jvm.ClassFile.FieldType.array Jvm.ClassFile.FieldType.byte)), Jvm.Cond.code ({ cls := "java/lang/StringUTF16", name := "putChar", desc := "([BII)V" } : Jvm.MethodName) jdk_52_method_4_code (3 : Nat) (Option.none : Option Jvm.ClassFile.FieldType)]
set_option maxRecDepth 65536 in
theorem codes_eq : words1.filter isCode = codes1 := rfl
theorem w_codes : ∀ c ∈ words1.filter isCode, c.before args0 about1 = true := by
  rw [codes_eq]
  intro c hc
  simp only [codes1, List.mem_cons, List.not_mem_nil, or_false] at hc
  rcases hc with rfl | rfl | rfl | rfl | rfl | rfl | rfl | rfl | rfl | rfl | rfl | rfl | rfl | rfl | rfl | rfl | rfl | rfl | rfl | rfl | rfl | rfl | rfl | rfl
  · exact w_c0
  · exact w_c1
  · exact w_c2
  · exact w_c3
  · exact w_c4
  · exact w_c5
  · exact w_c6
  · exact w_c7
  · exact w_c8
  · exact w_c9
  · exact w_c10
  · exact w_c11
  · exact w_c12
  · exact w_c13
  · exact w_c14
  · exact w_c15
  · exact w_c16
  · exact w_c17
  · exact w_c18
  · exact w_c19
  · exact w_c20
  · exact w_c21
  · exact w_c22
  · exact w_c23
set_option maxRecDepth 65536 in
theorem w_t1 : (words1.take 24).all (fun c => isCode c || c.before args0 about1) = true := by decide +kernel
set_option maxRecDepth 65536 in
theorem w_t2 : ((words1.drop 24).take 24).all (fun c => isCode c || c.before args0 about1) = true := by decide +kernel
set_option maxRecDepth 65536 in
theorem w_t3 : (((words1.drop 24).drop 24).take 24).all (fun c => isCode c || c.before args0 about1) = true := by decide +kernel
set_option maxRecDepth 65536 in
theorem w_t4 : ((((words1.drop 24).drop 24).drop 24).take 24).all (fun c => isCode c || c.before args0 about1) = true := by decide +kernel
set_option maxRecDepth 65536 in
theorem w_t5 : (((((words1.drop 24).drop 24).drop 24).drop 24).take 24).all (fun c => isCode c || c.before args0 about1) = true := by decide +kernel
set_option maxRecDepth 65536 in
theorem w_t6 : ((((((words1.drop 24).drop 24).drop 24).drop 24).drop 24).take 24).all (fun c => isCode c || c.before args0 about1) = true := by decide +kernel
set_option maxRecDepth 65536 in
theorem w_t7 : ((((((words1.drop 24).drop 24).drop 24).drop 24).drop 24).drop 24).all (fun c => isCode c || c.before args0 about1) = true := by decide +kernel
theorem w_tables : (allAtoms (Jvm.Cond.code x code maxLocals ret :: tables_1)).before args0 about1 = true := by
  rw [allAtoms_all]
  show words1.all (fun c => c.before args0 about1) = true
  refine all_split ?_ w_codes
  rw [← List.take_append_drop 24 words1, List.all_append, w_t1, ← List.take_append_drop 24 (words1.drop 24), List.all_append, w_t2, ← List.take_append_drop 24 ((words1.drop 24).drop 24), List.all_append, w_t3, ← List.take_append_drop 24 (((words1.drop 24).drop 24).drop 24), List.all_append, w_t4, ← List.take_append_drop 24 ((((words1.drop 24).drop 24).drop 24).drop 24), List.all_append, w_t5, ← List.take_append_drop 24 (((((words1.drop 24).drop 24).drop 24).drop 24).drop 24), List.all_append, w_t6, w_t7]
  rfl
set_option maxRecDepth 65536 in
theorem w_rest : rest_1_c.before args0 about1 = true := by decide +kernel
set_option maxRecDepth 65536 in
theorem w_case : (Jvm.Cond.and given_1 narrow_1).before args0 about1 = true := by decide +kernel
theorem w_applies : (headSpec (Jvm.Cond.code x code maxLocals ret :: tables_1) room_1).applies x e0.platform about1 = true :=
  (Spec.applies_iff w_frames).mpr ⟨w_running, w_runnable, w_alone, w_named, w_hears, w_ripe, w_room, w_tables⟩
theorem atStart : AtStart classFile x code maxLocals ret World_1 tables_1 room_1 Calls_1 rest_1 Pre_1 launch0 p0 e0 about1 theMethod args0 below0 :=
  ⟨lists_1, trivial, launch0.admits_env _ _ _, launch0.least_env, fairChoices_fair.cas, fairChoices_fair.clock, w_frames, w_args, w_heap, w_applies, trivial, w_rest, w_case⟩
end start1
theorem witness_1 : WitnessClaimed_1 := ⟨start1.p0, start1.e0, start1.about1, start1.theMethod, start1.args0, start1.below0, start1.atStart⟩
end Jvm.Pilot.@@N@@
