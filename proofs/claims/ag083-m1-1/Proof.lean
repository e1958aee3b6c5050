import JvmDerived
import JvmDerived.Pilot.@@N@@Statement
import JvmDerived.Pilot.@@N@@Code
set_option linter.unusedVariables false
set_option linter.unusedSimpArgs false
namespace Jvm.OwnKit
open Sem ClassFile Op Lib Jvm.Stand Jvm.Free Jvm.LawKit Jvm.RoadKit
def k_ushr (x y : Int32) : Int32 := (x.toUInt32 >>> (y &&& 31).toUInt32).toInt32
def k_ushrL (x : Int64) (y : Int32) : Int64 := (x.toUInt64 >>> (y &&& 63).toInt64.toUInt64).toInt64
def k_cmpL (x y : Int64) : Int32 := if x > y then 1 else if x = y then 0 else -1
/-- the state over whose tables the walk stands: the start itself, or (wd: a String constant may have been interned meanwhile) the start with tables grown since -/
def KBase (wd : Bool) (s s' : State) (n : Nat) : Prop := match wd with
  | true => ∃ (vm : Vm) (k : Nat), s' = s.setVm vm ∧ s.Since vm k ∧ k ≤ n
  | false => s' = s
/-- where a run stands: the state T with the heap h; what was written lies at n0 or above; of h0 all is kept but ws -/
def KPos (wd : Bool) (p : Program) (l : Launch) (e : Env) (R : Room) (s : State) (m : MethodId) (args : Array Value) (below : List Frame) (meth : Method) (c : Code) (Z : State) (own : String) (n0 : Nat) (h0 : Heap) (ws : List Addr) (T : State) (h : Heap) (cells slots : Nat) : Prop :=
  ∃ s' locs, Stand p l e R s' m args below meth c T locs cells slots ∧ KBase wd s s' h.size ∧ Z.Warmed39 s'.vm ∧ s'.vm.findClass own = some m.cls ∧ T.heap = h ∧ n0 ≤ h.size ∧ Fr n0 locs ∧ Keep h0 h ws
/-- what stands still in a body's walk -/
def KCx (tbl : List Jvm.Cond) (nm : String) (cod : ByteArray) (ml : Nat) (ret : Option FieldType) (p : Program) (meth : Method) (c : Code) (Z : State) (a0 : Array Value) : Prop :=
  p.tables.exec = Jvm.exec ∧ (∀ d ∈ tbl, d.before a0 Z = true) ∧ c.code = cod ∧ c.maxLocals = ml ∧ meth.sig.returnType = ret ∧ meth.name = nm ∧ meth.locks = false
/-- from this frame the run comes to an end that K speaks of -/
def KGo (p : Program) (e : Env) (below : List Frame) (K : State → Outcome → Prop) (T : State) (m : MethodId) (pc : Nat) (Ls : Array Slot) (st : List Value) : Prop :=
  ∃ s₂ o, Steps p.tables e below (T.setTop (mkF m pc Ls st)) s₂ ∧ s₂.status = .running ∧ Ended s₂ below o ∧ K s₂ o
/-- the frame of an end -/
def KEnde (wd : Bool) (s : State) (o : Outcome) (s₂ : State) (L : List Loc) (kc ks : Nat) : Prop := match wd with
  | true => ReturnedEndW s o s₂ L kc ks
  | false => FrameEnd s o s₂ L kc ks
/-- the end of a body that returns -/
def KEnd (wd : Bool) (s : State) (n0 : Nat) (h0 : Heap) (ws : List Addr) (Q : Option Value → Heap → Prop) (kc ks : Nat) (s₂ : State) (o : Outcome) : Prop :=
  ∃ v L, o = .returned v ∧ (Fr n0 L ∧ Keep h0 s₂.heap ws ∧ Q v s₂.heap) ∧ KEnde wd s o s₂ L kc ks
/-- a body's contract -/
def KCt (wd : Bool) (l : Launch) (y : MethodName) (cod : ByteArray) (ml : Nat) (ret : Option FieldType) (rm : Room) (Z : State) (n0 : Nat) (h0 : Heap) (as : Array Value) (ws : List Addr) (Q : Option Value → Heap → Prop) : Prop :=
  ∀ wsc : List Jvm.Cond, MetFree l y (head1 (Jvm.Cond.code y cod ml ret :: wsc) rm) (fun a U => a = as ∧ Z.Warmed39 U.vm ∧ U.heap = h0) (fun _ _ _ _ _ => True)
    (fun _ U o U' => ∃ v L, o = .returned v ∧ (Fr n0 L ∧ Keep h0 U'.heap ws ∧ Q v U'.heap) ∧ KEnde wd U o U' L rm.cells rm.slots)
section Kit
variable {wd : Bool} {p : Program} {l : Launch} {e : Env} {R : Room} {s : State} {m : MethodId} {args : Array Value} {below : List Frame} {meth : Method} {c : Code} {T : State} {cells slots : Nat} {Z : State} {a0 : Array Value} {h h' h0 : Heap} {n0 : Nat} {ws : List Addr} {K : State → Outcome → Prop}
  {tbl : List Jvm.Cond} {own nm : String} {cod : ByteArray} {ml : Nat} {ret : Option FieldType} {pc : Nat} {Ls : Array Slot} {st : List Value} {a b : Addr}
theorem KCx.exec (C : KCx tbl nm cod ml ret p meth c Z a0) : p.tables.exec = Jvm.exec := C.1
theorem KCx.hw (C : KCx tbl nm cod ml ret p meth c Z a0) : ∀ d ∈ tbl, d.before a0 Z = true := C.2.1
theorem KCx.cdE (C : KCx tbl nm cod ml ret p meth c Z a0) : c.code = cod := C.2.2.1
theorem KCx.mlE (C : KCx tbl nm cod ml ret p meth c Z a0) : c.maxLocals = ml := C.2.2.2.1
theorem KCx.rtE (C : KCx tbl nm cod ml ret p meth c Z a0) : meth.sig.returnType = ret := C.2.2.2.2.1
theorem KCx.nmE (C : KCx tbl nm cod ml ret p meth c Z a0) : meth.name = nm := C.2.2.2.2.2.1
theorem KCx.lk (C : KCx tbl nm cod ml ret p meth c Z a0) : meth.locks = false := C.2.2.2.2.2.2
theorem KCx.w (C : KCx tbl nm cod ml ret p meth c Z a0) (i : Nat) {d : Jvm.Cond} (q : tbl[i]? = some d) : d.before a0 Z = true := C.hw d (List.mem_of_getElem? q)
theorem KBase.mono {s' : State} {n n' : Nat} (B : KBase wd s s' n) (h : n ≤ n') : KBase wd s s' n' := by
  cases wd
  · exact B
  · obtain ⟨vm, k, h1, h2, h3⟩ := B; exact ⟨vm, k, h1, h2, Nat.le_trans h3 h⟩
theorem KPos.here (P : KPos wd p l e R s m args below meth c Z own n0 h0 ws T h cells slots) : At T m c below := by obtain ⟨_, _, X, -⟩ := P; exact X.here
theorem KPos.more (P : KPos wd p l e R s m args below meth c Z own n0 h0 ws T h cells slots) {cells' slots' : Nat} (hc : cells ≤ cells') (hs : slots ≤ slots') : KPos wd p l e R s m args below meth c Z own n0 h0 ws T h cells' slots' := by
  obtain ⟨s', L, X, r⟩ := P; exact ⟨s', L, X.more hc hs, r⟩
theorem KPos.size (P : KPos wd p l e R s m args below meth c Z own n0 h0 ws T h cells slots) : n0 ≤ h.size := by obtain ⟨_, _, _, _, _, _, _, r, -⟩ := P; exact r
theorem KPos.kept (P : KPos wd p l e R s m args below meth c Z own n0 h0 ws T h cells slots) : Keep h0 h ws := by obtain ⟨_, _, _, _, _, _, _, _, _, r⟩ := P; exact r
theorem KGo.step {T' : State} {pc' : Nat} {Ls' : Array Slot} {st' : List Value} (k : KGo p e below K T' m pc' Ls' st') (q : ∀ t, Steps p.tables e below (T'.setTop (mkF m pc' Ls' st')) t → Steps p.tables e below (T.setTop (mkF m pc Ls st)) t) : KGo p e below K T m pc Ls st := by
  obtain ⟨x, y, u, r⟩ := k; exact ⟨x, y, q _ u, r⟩
theorem KGo.cast {Ls' : Array Slot} {st' : List Value} (k : KGo p e below K T m pc Ls' st') (q : Ls' = Ls) (r : st' = st) : KGo p e below K T m pc Ls st := by subst q r; exact k
/-- a body is entered -/
theorem k_enter {y : MethodName} {rm : Room} {as : Array Value} {Q : Option Value → Heap → Prop} (hp : plainFor y = true) (hw : ∀ d ∈ tbl, d.before a0 Z = true) (hn : n0 ≤ h0.size) (hef : ∀ m, entryFrame m as ml = mkF m 0 Ls [])
    (body : ∀ p e s m below meth c T, KCx tbl y.name cod ml ret p meth c Z a0 → KPos wd p l e rm s m as below meth c Z y.cls n0 h0 ws T h0 0 0 → KGo p e below (KEnd wd s n0 h0 ws Q rm.cells rm.slots) T m 0 Ls []) : KCt wd l y cod ml ret rm Z n0 h0 as ws Q := by
  intro wsc
  refine MetFree.of_bodySF hp hisR ?_
  intro p e s m args below meth c s₁ Bd hml0 hP hK
  obtain ⟨rfl, hZ, hh⟩ := hP
  have B : KBase wd s s h0.size := by
    cases wd
    · rfl
    · exact ⟨s.vm, 0, rfl, State.WarmedH.since (State.WarmedH.refl s) 0, Nat.zero_le _⟩
  have g := body p e s m below meth c s₁ ⟨Bd.exec, hw, Bd.bytes, hml0, Bd.returns, (name_of_methodNamed Bd.named Bd.method).1, Bd.notSynchronized⟩ ⟨s, [], Stand.of_body Bd, B, hZ, findClass_of_methodNamed Bd.named, by rw [← hh, Bd.state]; rfl, hn, Fr.nil _, Keep.refl _ _⟩
  obtain ⟨s₂, o, g1, g2, g3, v, L, g4, g5, g6⟩ := g
  exact ⟨s₂, o, castTop (hef m) g1, g2, g3, v, L, g4, g5, g6⟩
theorem KCt.plain {y : MethodName} {rm : Room} {as : Array Value} {Q : Option Value → Heap → Prop} (k : KCt false l y cod ml ret rm Z n0 h0 as ws Q) : MetFree l y (head1 [Jvm.Cond.code y cod ml ret] rm) (fun a U => a = as ∧ Z.Warmed39 U.vm ∧ U.heap = h0) (fun _ _ _ _ _ => True)
    (fun _ U o U' => ∃ v L, o = .returned v ∧ (Fr n0 L ∧ Keep h0 U'.heap ws ∧ Q v U'.heap) ∧ FrameEnd U o U' L rm.cells rm.slots) := k []
/-- a contract said more weakly -/
theorem KCt.imp {y : MethodName} {rm : Room} {as : Array Value} {Q Q' : Option Value → Heap → Prop} (k : KCt wd l y cod ml ret rm Z n0 h0 as ws Q) (q : ∀ v h, Q v h → Q' v h) : KCt wd l y cod ml ret rm Z n0 h0 as ws Q' := by
  intro wsc p e h1 h2 h3 s m args below h4 h5 h6 h7
  obtain ⟨n, o, g1, g2, g3, v, L, g4, ⟨g5, g6, g7⟩, g8⟩ := k wsc p e h1 h2 h3 s m args below h4 h5 h6 h7
  exact ⟨n, o, g1, g2, g3, v, L, g4, ⟨g5, g6, q _ _ g7⟩, g8⟩
/-! ### returns -/
theorem k_retVal {Q : Option Value → Heap → Prop} {kc ks : Nat} {v : Option Value} (C : KCx tbl nm cod ml ret p meth c Z a0) (P : KPos wd p l e R s m args below meth c Z own n0 h0 ws T h cells slots) (hv : ret = none → v = none) (hc : cells ≤ kc) (hs : slots ≤ ks) (hQ : Q v h)
    (q : ∀ fs, (∀ (f : JFrame) (acts : List Action), f.method = m → f.locked = none → f.entered = [] → (doReturn e (T.setTop f) acts v).1 = T.setFrames fs) → Steps p.tables e below (T.setTop (mkF m pc Ls st)) (T.setFrames fs)) : KGo p e below (KEnd wd s n0 h0 ws Q kc ks) T m pc Ls st := by
  obtain ⟨s', L, X, B, hZ, hown, eT, hn, hF, hk⟩ := P
  have hl : meth.locks = false := C.lk
  have X2 := X.more hc hs
  cases wd
  · cases B
    obtain ⟨fs, hr, hrun, hended, hW, hsame⟩ := X2.leave (v := v) (fun q => hv (C.rtE.symm.trans q)) hl
    exact ⟨_, _, q fs hr, hrun, hended, v, L, rfl, ⟨hF, by show Keep h0 T.heap ws; rw [eT]; exact hk, by show Q v T.heap; rw [eT]; exact hQ⟩, ⟨_, rfl⟩, hW, hsame⟩
  · obtain ⟨vm, k, rfl, hS, hk0⟩ := B
    obtain ⟨fs, hr, hrun, hended, hW⟩ := X2.leaveW hS (by rw [eT]; exact hk0) (v := v) (fun q => hv (C.rtE.symm.trans q)) hl
    exact ⟨_, _, q fs hr, hrun, hended, v, L, rfl, ⟨hF, by show Keep h0 T.heap ws; rw [eT]; exact hk, by show Q v T.heap; rw [eT]; exact hQ⟩, hW⟩
theorem k_retV {Q : Option Value → Heap → Prop} {kc ks : Nat} (C : KCx tbl nm cod ml none p meth c Z a0) (P : KPos wd p l e R s m args below meth c Z own n0 h0 ws T h cells slots) (hd : decode cod pc = .ok (.return_, 1)) (hc : cells ≤ kc) (hs : slots ≤ ks) (hQ : Q none h) : KGo p e below (KEnd wd s n0 h0 ws Q kc ks) T m pc Ls [] :=
  k_retVal C P (fun _ => rfl) hc hs hQ fun fs hr => by obtain ⟨s', L, X, -⟩ := P; exact X.returnOut C.1 C.rtE (hb C.cdE hd) hr
theorem k_retI {Q : Option Value → Heap → Prop} {kc ks : Nat} {z : Int32} (C : KCx tbl nm cod ml (some .int) p meth c Z a0) (P : KPos wd p l e R s m args below meth c Z own n0 h0 ws T h cells slots) (hd : decode cod pc = .ok (.ireturn, 1)) (hc : cells ≤ kc) (hs : slots ≤ ks) (hQ : Q (some (.int z)) h) : KGo p e below (KEnd wd s n0 h0 ws Q kc ks) T m pc Ls (.int z :: st) :=
  k_retVal C P (fun q => nomatch q) hc hs hQ fun fs hr => by
    obtain ⟨s', L, X, -⟩ := P
    exact retOut X C.1 C.rtE (rfl : narrow .int (.int z) = .int z) (Or.inl ⟨rfl, Or.inl rfl, _, rfl⟩) (hb C.cdE hd) hr
theorem k_retZ {Q : Option Value → Heap → Prop} {kc ks : Nat} {z z' : Int32} {t : FieldType} (C : KCx tbl nm cod ml (some t) p meth c Z a0) (P : KPos wd p l e R s m args below meth c Z own n0 h0 ws T h cells slots) (ht : t = .boolean ∨ t = .byte ∨ t = .char ∨ t = .short) (hd : decode cod pc = .ok (.ireturn, 1)) (hz : nar t z = z') (hc : cells ≤ kc) (hs : slots ≤ ks) (hQ : Q (some (.int z')) h) : KGo p e below (KEnd wd s n0 h0 ws Q kc ks) T m pc Ls (.int z :: st) :=
  k_retVal C P (fun q => nomatch q) hc hs hQ fun fs hr => by
    subst hz
    obtain ⟨s', L, X, -⟩ := P
    exact retN X C.1 C.rtE ht (hb C.cdE hd) hr
theorem k_retJ {Q : Option Value → Heap → Prop} {kc ks : Nat} {z : Int64} (C : KCx tbl nm cod ml (some .long) p meth c Z a0) (P : KPos wd p l e R s m args below meth c Z own n0 h0 ws T h cells slots) (hd : decode cod pc = .ok (.lreturn, 1)) (hc : cells ≤ kc) (hs : slots ≤ ks) (hQ : Q (some (.long z)) h) : KGo p e below (KEnd wd s n0 h0 ws Q kc ks) T m pc Ls (.long z :: st) :=
  k_retVal C P (fun q => nomatch q) hc hs hQ fun fs hr => by
    obtain ⟨s', L, X, -⟩ := P
    exact retOut X C.1 C.rtE (rfl : narrow .long (.long z) = .long z) (Or.inr (Or.inl ⟨rfl, rfl, _, rfl⟩)) (hb C.cdE hd) hr
theorem k_retD {Q : Option Value → Heap → Prop} {kc ks : Nat} {z : UInt64} (C : KCx tbl nm cod ml (some .double) p meth c Z a0) (P : KPos wd p l e R s m args below meth c Z own n0 h0 ws T h cells slots) (hd : decode cod pc = .ok (.dreturn, 1)) (hc : cells ≤ kc) (hs : slots ≤ ks) (hQ : Q (some (.double z)) h) : KGo p e below (KEnd wd s n0 h0 ws Q kc ks) T m pc Ls (.double z :: st) :=
  k_retVal C P (fun q => nomatch q) hc hs hQ fun fs hr => by
    obtain ⟨s', L, X, -⟩ := P
    exact retOut X C.1 C.rtE (rfl : narrow .double (.double z) = .double z) (Or.inr (Or.inr (Or.inl ⟨rfl, rfl, _, rfl⟩))) (hb C.cdE hd) hr
theorem k_narrow_ref {t : FieldType} {v : Value} (hv : v.isRef = true) : narrow t v = v := by rcases ref_cases hv with rfl | ⟨x, rfl⟩ <;> cases t <;> rfl
theorem k_retA {Q : Option Value → Heap → Prop} {kc ks : Nat} {v : Value} {t : FieldType} (C : KCx tbl nm cod ml (some t) p meth c Z a0) (P : KPos wd p l e R s m args below meth c Z own n0 h0 ws T h cells slots) (hd : decode cod pc = .ok (.areturn, 1)) (ht : t.isReference = true) (hv : v.isRef = true) (hc : cells ≤ kc) (hs : slots ≤ ks) (hQ : Q (some v) h) : KGo p e below (KEnd wd s n0 h0 ws Q kc ks) T m pc Ls (v :: st) :=
  k_retVal C P (fun q => nomatch q) hc hs hQ fun fs hr => by
    obtain ⟨s', L, X, -⟩ := P
    exact retOut X C.1 C.rtE (k_narrow_ref hv) (Or.inr (Or.inr (Or.inr (Or.inr ⟨rfl, ht, hv⟩)))) (hb C.cdE hd) hr
theorem k_10 : ¬ (1 : Int32) = 0 := by decide
theorem k_01 : (0 : Int32) = 0 := rfl
/-! ### branches -/
def CondP (cd : ClassFile.Cond) (x y : Int32) : Prop := match cd with | .eq => x = y | .ne => ¬ x = y | .lt => x < y | .ge => ¬ x < y | .gt => y < x | .le => ¬ y < x
def CondN (cd : ClassFile.Cond) (x y : Int32) : Prop := match cd with | .eq => ¬ x = y | .ne => x = y | .lt => ¬ x < y | .ge => x < y | .gt => ¬ y < x | .le => y < x
theorem k_condP {cd : ClassFile.Cond} {x y : Int32} (h : CondP cd x y) : if_icmp.holds cd x y = true := by
  cases cd <;> first | exact (teq h).1 | exact (feq h).2 | exact (tlt h).1 | exact (flt h).2.1 | exact (tlt h).2.2.1 | exact (flt h).2.2.2
theorem k_condN {cd : ClassFile.Cond} {x y : Int32} (h : CondN cd x y) : if_icmp.holds cd x y = false := by
  cases cd <;> first | exact (feq h).1 | exact (teq h).2 | exact (flt h).1 | exact (tlt h).2.1 | exact (flt h).2.2.1 | exact (tlt h).2.2.2
theorem k_condT {cd : ClassFile.Cond} (x y : Int32) : CondP cd x y ∨ CondN cd x y := by
  cases cd <;> simp only [CondP, CondN] <;> first | exact Classical.em _ | exact (Classical.em _).symm
theorem k_ifY {cd : ClassFile.Cond} {x : Int32} {o : Int} (C : KCx tbl nm cod ml ret p meth c Z a0) (P : KPos wd p l e R s m args below meth c Z own n0 h0 ws T h cells slots) (hd : decode cod pc = .ok (.ifCond cd o, 3)) (hc : CondP cd x 0) (ho : 0 ≤ (pc : Int) + o) {pc' : Nat} (hp : ((pc : Int) + o).toNat = pc') (k : KGo p e below K T m pc' Ls st) : KGo p e below K T m pc Ls (.int x :: st) :=
  k.step fun t q => XS.ifYes P.here C.1 rfl rfl (hb C.cdE hd) rfl ((if0 _ _).trans (k_condP hc)) ho hp q
theorem k_ifN {cd : ClassFile.Cond} {x : Int32} {o : Int} (C : KCx tbl nm cod ml ret p meth c Z a0) (P : KPos wd p l e R s m args below meth c Z own n0 h0 ws T h cells slots) (hd : decode cod pc = .ok (.ifCond cd o, 3)) (hc : CondN cd x 0) {pc' : Nat} (hp : pc + 3 = pc') (k : KGo p e below K T m pc' Ls st) : KGo p e below K T m pc Ls (.int x :: st) := by
  subst hp; exact k.step fun t q => XS.ifNo P.here C.1 rfl (hb C.cdE hd) rfl ((if0 _ _).trans (k_condN hc)) q
theorem k_ifB {cd : ClassFile.Cond} {x : Int32} {o : Int} (C : KCx tbl nm cod ml ret p meth c Z a0) (P : KPos wd p l e R s m args below meth c Z own n0 h0 ws T h cells slots) (hd : decode cod pc = .ok (.ifCond cd o, 3)) (ho : 0 ≤ (pc : Int) + o) {pcY pcN : Nat} (hp : ((pc : Int) + o).toNat = pcY) (hp' : pc + 3 = pcN) (kY : CondP cd x 0 → KGo p e below K T m pcY Ls st) (kN : CondN cd x 0 → KGo p e below K T m pcN Ls st) : KGo p e below K T m pc Ls (.int x :: st) :=
  (k_condT x 0).elim (fun q => k_ifY C P hd q ho hp (kY q)) (fun q => k_ifN C P hd q hp' (kN q))
theorem k_icY {cd : ClassFile.Cond} {x y : Int32} {o : Int} (C : KCx tbl nm cod ml ret p meth c Z a0) (P : KPos wd p l e R s m args below meth c Z own n0 h0 ws T h cells slots) (hd : decode cod pc = .ok (.if_icmp cd o, 3)) (hc : CondP cd x y) (ho : 0 ≤ (pc : Int) + o) {pc' : Nat} (hp : ((pc : Int) + o).toNat = pc') (k : KGo p e below K T m pc' Ls st) : KGo p e below K T m pc Ls (.int y :: .int x :: st) :=
  k.step fun t q => XS.icmpYes P.here C.1 rfl rfl (hb C.cdE hd) rfl (k_condP hc) ho hp q
theorem k_icN {cd : ClassFile.Cond} {x y : Int32} {o : Int} (C : KCx tbl nm cod ml ret p meth c Z a0) (P : KPos wd p l e R s m args below meth c Z own n0 h0 ws T h cells slots) (hd : decode cod pc = .ok (.if_icmp cd o, 3)) (hc : CondN cd x y) {pc' : Nat} (hp : pc + 3 = pc') (k : KGo p e below K T m pc' Ls st) : KGo p e below K T m pc Ls (.int y :: .int x :: st) := by
  subst hp; exact k.step fun t q => XS.icmpNo P.here C.1 rfl (hb C.cdE hd) rfl (k_condN hc) q
theorem k_icB {cd : ClassFile.Cond} {x y : Int32} {o : Int} (C : KCx tbl nm cod ml ret p meth c Z a0) (P : KPos wd p l e R s m args below meth c Z own n0 h0 ws T h cells slots) (hd : decode cod pc = .ok (.if_icmp cd o, 3)) (ho : 0 ≤ (pc : Int) + o) {pcY pcN : Nat} (hp : ((pc : Int) + o).toNat = pcY) (hp' : pc + 3 = pcN) (kY : CondP cd x y → KGo p e below K T m pcY Ls st) (kN : CondN cd x y → KGo p e below K T m pcN Ls st) : KGo p e below K T m pc Ls (.int y :: .int x :: st) :=
  (k_condT x y).elim (fun q => k_icY C P hd q ho hp (kY q)) (fun q => k_icN C P hd q hp' (kN q))
theorem k_goto {o : Int} (C : KCx tbl nm cod ml ret p meth c Z a0) (P : KPos wd p l e R s m args below meth c Z own n0 h0 ws T h cells slots) (hd : decode cod pc = .ok (.goto o, 3)) (ho : 0 ≤ (pc : Int) + o) {pc' : Nat} (hp : ((pc : Int) + o).toNat = pc') (k : KGo p e below K T m pc' Ls st) : KGo p e below K T m pc Ls st :=
  k.step fun t q => XS.goto P.here C.1 rfl rfl (hb C.cdE hd) ho hp q
theorem k_nullY {o : Int} (C : KCx tbl nm cod ml ret p meth c Z a0) (P : KPos wd p l e R s m args below meth c Z own n0 h0 ws T h cells slots) (hd : decode cod pc = .ok (.ifnull o, 3)) (ho : 0 ≤ (pc : Int) + o) {pc' : Nat} (hp : ((pc : Int) + o).toNat = pc') (k : KGo p e below K T m pc' Ls st) : KGo p e below K T m pc Ls (.null :: st) :=
  k.step fun t q => XS.ifnullYes P.here C.1 rfl rfl (hb C.cdE hd) rfl ho hp q
theorem k_nullN {o : Int} (C : KCx tbl nm cod ml ret p meth c Z a0) (P : KPos wd p l e R s m args below meth c Z own n0 h0 ws T h cells slots) (hd : decode cod pc = .ok (.ifnull o, 3)) {pc' : Nat} (hp : pc + 3 = pc') (k : KGo p e below K T m pc' Ls st) : KGo p e below K T m pc Ls (.ref a :: st) := by
  subst hp; exact k.step fun t q => XS.ifnullNo P.here C.1 rfl (hb C.cdE hd) rfl q
theorem k_nonnullY {o : Int} (C : KCx tbl nm cod ml ret p meth c Z a0) (P : KPos wd p l e R s m args below meth c Z own n0 h0 ws T h cells slots) (hd : decode cod pc = .ok (.ifnonnull o, 3)) (ho : 0 ≤ (pc : Int) + o) {pc' : Nat} (hp : ((pc : Int) + o).toNat = pc') (k : KGo p e below K T m pc' Ls st) : KGo p e below K T m pc Ls (.ref a :: st) :=
  k.step fun t q => XS.ifnonnullYes P.here C.1 rfl rfl (hb C.cdE hd) rfl ho hp q
theorem k_nonnullN {o : Int} (C : KCx tbl nm cod ml ret p meth c Z a0) (P : KPos wd p l e R s m args below meth c Z own n0 h0 ws T h cells slots) (hd : decode cod pc = .ok (.ifnonnull o, 3)) {pc' : Nat} (hp : pc + 3 = pc') (k : KGo p e below K T m pc' Ls st) : KGo p e below K T m pc Ls (.null :: st) := by
  subst hp; exact k.step fun t q => XS.ifnonnullNo P.here C.1 rfl (hb C.cdE hd) rfl q
theorem k_acB {cd : ClassFile.ACond} {x y : Value} {o : Int} (C : KCx tbl nm cod ml ret p meth c Z a0) (P : KPos wd p l e R s m args below meth c Z own n0 h0 ws T h cells slots) (hd : decode cod pc = .ok (.if_acmp cd o, 3)) (hx : x.isRef = true) (hy : y.isRef = true) (ho : 0 ≤ (pc : Int) + o) {pcY pcN : Nat} (hp : ((pc : Int) + o).toNat = pcY) (hp' : pc + 3 = pcN)
    (kY : XT.acmp cd x y = true → KGo p e below K T m pcY Ls st) (kN : XT.acmp cd x y = false → KGo p e below K T m pcN Ls st) : KGo p e below K T m pc Ls (y :: x :: st) := by
  cases q : XT.acmp cd x y
  · subst hp'; exact (kN q).step fun t r => XT.acmpNo P.here C.1 rfl (hb C.cdE hd) rfl hx hy q r
  · exact (kY q).step fun t r => XT.acmpYes P.here C.1 rfl rfl (hb C.cdE hd) rfl hx hy q ho hp r
/-- a condition laid on the stack as 1 or 0: if.., iconst, k_goto, iconst -/
theorem k_ternIf {cd : ClassFile.Cond} {x : Int32} {o : Int} {i j : Int} {vN vY : Int32} {Pp : Prop} [Decidable Pp] (C : KCx tbl nm cod ml ret p meth c Z a0) (P : KPos wd p l e R s m args below meth c Z own n0 h0 ws T h cells slots)
    (hd : decode cod pc = .ok (.ifCond cd o, 3)) {p1 p2 p3 p4 : Nat} (d1 : decode cod p1 = .ok (.iconst i, 1)) (d2 : decode cod p2 = .ok (.goto 4, 3)) (d3 : decode cod p3 = .ok (.iconst j, 1)) (q1 : pc + 3 = p1) (q2 : p1 + 1 = p2) (q3 : ((pc : Int) + o).toNat = p3) (q0 : 0 ≤ (pc : Int) + o) (q4 : p3 + 1 = p4) (q5 : p2 + 4 = p4)
    (hi : Int32.ofInt i = vN) (hj : Int32.ofInt j = vY) (hY : CondP cd x 0 → Pp) (hN : CondN cd x 0 → ¬ Pp) (k : KGo p e below K T m p4 Ls (.int (if Pp then vY else vN) :: st)) : KGo p e below K T m pc Ls (.int x :: st) := by
  refine k_ifB C P hd q0 q3 q1 (fun q => ?_) (fun q => ?_)
  · rw [if_pos (hY q)] at k
    subst q4 hj; exact k.step fun t r => XS.iconst P.here C.1 rfl (hb C.cdE d3) r
  · rw [if_neg (hN q)] at k
    subst hi q2
    have k2 : KGo p e below K T m (p1 + 1) Ls (.int (Int32.ofInt i) :: st) := k_goto C P d2 (by omega) (by omega) k
    exact k2.step fun t r => XS.iconst P.here C.1 rfl (hb C.cdE d1) r
theorem k_ternIc {cd : ClassFile.Cond} {x y : Int32} {o : Int} {i j : Int} {vN vY : Int32} {Pp : Prop} [Decidable Pp] (C : KCx tbl nm cod ml ret p meth c Z a0) (P : KPos wd p l e R s m args below meth c Z own n0 h0 ws T h cells slots)
    (hd : decode cod pc = .ok (.if_icmp cd o, 3)) {p1 p2 p3 p4 : Nat} (d1 : decode cod p1 = .ok (.iconst i, 1)) (d2 : decode cod p2 = .ok (.goto 4, 3)) (d3 : decode cod p3 = .ok (.iconst j, 1)) (q1 : pc + 3 = p1) (q2 : p1 + 1 = p2) (q3 : ((pc : Int) + o).toNat = p3) (q0 : 0 ≤ (pc : Int) + o) (q4 : p3 + 1 = p4) (q5 : p2 + 4 = p4)
    (hi : Int32.ofInt i = vN) (hj : Int32.ofInt j = vY) (hY : CondP cd x y → Pp) (hN : CondN cd x y → ¬ Pp) (k : KGo p e below K T m p4 Ls (.int (if Pp then vY else vN) :: st)) : KGo p e below K T m pc Ls (.int y :: .int x :: st) := by
  refine k_icB C P hd q0 q3 q1 (fun q => ?_) (fun q => ?_)
  · rw [if_pos (hY q)] at k
    subst q4 hj; exact k.step fun t r => XS.iconst P.here C.1 rfl (hb C.cdE d3) r
  · rw [if_neg (hN q)] at k
    subst hi q2
    have k2 : KGo p e below K T m (p1 + 1) Ls (.int (Int32.ofInt i) :: st) := k_goto C P d2 (by omega) (by omega) k
    exact k2.step fun t r => XS.iconst P.here C.1 rfl (hb C.cdE d1) r
theorem k_iload (C : KCx tbl nm cod ml ret p meth c Z a0) (P : KPos wd p l e R s m args below meth c Z own n0 h0 ws T h cells slots) {k : Nat} {v : Int32} (hd : decode cod pc = .ok (.iload k, 2)) (hl : Ls[k]? = some (.val (.int v))) {pc' : Nat} (hp : pc + 2 = pc') (k' : KGo p e below K T m pc' Ls (.int v :: st)) : KGo p e below K T m pc Ls (st) := by
  subst hp; exact k'.step fun t q => XS.iload P.here C.1 rfl (hb C.cdE hd) hl q
theorem k_iloadN (C : KCx tbl nm cod ml ret p meth c Z a0) (P : KPos wd p l e R s m args below meth c Z own n0 h0 ws T h cells slots) {k : Fin 4} {v : Int32} (hd : decode cod pc = .ok (.iload_n k, 1)) (hl : Ls[k.val]? = some (.val (.int v))) {pc' : Nat} (hp : pc + 1 = pc') (k' : KGo p e below K T m pc' Ls (.int v :: st)) : KGo p e below K T m pc Ls (st) := by
  subst hp; exact k'.step fun t q => XS.iloadN P.here C.1 rfl (hb C.cdE hd) hl q
theorem k_istore (C : KCx tbl nm cod ml ret p meth c Z a0) (P : KPos wd p l e R s m args below meth c Z own n0 h0 ws T h cells slots) {k : Nat} {x : Int32} {l' : Array Slot} (hd : decode cod pc = .ok (.istore k, 2)) (hl : storeLocals Ls k (.int x) = some l') {pc' : Nat} (hp : pc + 2 = pc') (k' : KGo p e below K T m pc' l' (st)) : KGo p e below K T m pc Ls (.int x :: st) := by
  subst hp; exact k'.step fun t q => XS.istore P.here C.1 rfl (hb C.cdE hd) rfl hl q
theorem k_istoreN (C : KCx tbl nm cod ml ret p meth c Z a0) (P : KPos wd p l e R s m args below meth c Z own n0 h0 ws T h cells slots) {k : Fin 4} {x : Int32} {l' : Array Slot} (hd : decode cod pc = .ok (.istore_n k, 1)) (hl : storeLocals Ls k.val (.int x) = some l') {pc' : Nat} (hp : pc + 1 = pc') (k' : KGo p e below K T m pc' l' (st)) : KGo p e below K T m pc Ls (.int x :: st) := by
  subst hp; exact k'.step fun t q => XS.istoreN P.here C.1 rfl (hb C.cdE hd) rfl hl q
theorem k_lload (C : KCx tbl nm cod ml ret p meth c Z a0) (P : KPos wd p l e R s m args below meth c Z own n0 h0 ws T h cells slots) {k : Nat} {v : Int64} (hd : decode cod pc = .ok (.lload k, 2)) (hl : Ls[k]? = some (.val (.long v))) {pc' : Nat} (hp : pc + 2 = pc') (k' : KGo p e below K T m pc' Ls (.long v :: st)) : KGo p e below K T m pc Ls (st) := by
  subst hp; exact k'.step fun t q => XS.lload P.here C.1 rfl (hb C.cdE hd) hl q
theorem k_lloadN (C : KCx tbl nm cod ml ret p meth c Z a0) (P : KPos wd p l e R s m args below meth c Z own n0 h0 ws T h cells slots) {k : Fin 4} {v : Int64} (hd : decode cod pc = .ok (.lload_n k, 1)) (hl : Ls[k.val]? = some (.val (.long v))) {pc' : Nat} (hp : pc + 1 = pc') (k' : KGo p e below K T m pc' Ls (.long v :: st)) : KGo p e below K T m pc Ls (st) := by
  subst hp; exact k'.step fun t q => XS.lloadN P.here C.1 rfl (hb C.cdE hd) hl q
theorem k_lstore (C : KCx tbl nm cod ml ret p meth c Z a0) (P : KPos wd p l e R s m args below meth c Z own n0 h0 ws T h cells slots) {k : Nat} {x : Int64} {l' : Array Slot} (hd : decode cod pc = .ok (.lstore k, 2)) (hl : storeLocals Ls k (.long x) = some l') {pc' : Nat} (hp : pc + 2 = pc') (k' : KGo p e below K T m pc' l' (st)) : KGo p e below K T m pc Ls (.long x :: st) := by
  subst hp; exact k'.step fun t q => XS.lstore P.here C.1 rfl (hb C.cdE hd) rfl hl q
theorem k_lstoreN (C : KCx tbl nm cod ml ret p meth c Z a0) (P : KPos wd p l e R s m args below meth c Z own n0 h0 ws T h cells slots) {k : Fin 4} {x : Int64} {l' : Array Slot} (hd : decode cod pc = .ok (.lstore_n k, 1)) (hl : storeLocals Ls k.val (.long x) = some l') {pc' : Nat} (hp : pc + 1 = pc') (k' : KGo p e below K T m pc' l' (st)) : KGo p e below K T m pc Ls (.long x :: st) := by
  subst hp; exact k'.step fun t q => XS.lstoreN P.here C.1 rfl (hb C.cdE hd) rfl hl q
theorem k_aload (C : KCx tbl nm cod ml ret p meth c Z a0) (P : KPos wd p l e R s m args below meth c Z own n0 h0 ws T h cells slots) {k : Nat} {v : Value} (hd : decode cod pc = .ok (.aload k, 2)) (hl : Ls[k]? = some (.val v)) (hv : v.isRef = true) {pc' : Nat} (hp : pc + 2 = pc') (k' : KGo p e below K T m pc' Ls (v :: st)) : KGo p e below K T m pc Ls (st) := by
  subst hp; exact k'.step fun t q => XS.aload P.here C.1 rfl (hb C.cdE hd) hl hv q
theorem k_aloadN (C : KCx tbl nm cod ml ret p meth c Z a0) (P : KPos wd p l e R s m args below meth c Z own n0 h0 ws T h cells slots) {k : Fin 4} {v : Value} (hd : decode cod pc = .ok (.aload_n k, 1)) (hl : Ls[k.val]? = some (.val v)) (hv : v.isRef = true) {pc' : Nat} (hp : pc + 1 = pc') (k' : KGo p e below K T m pc' Ls (v :: st)) : KGo p e below K T m pc Ls (st) := by
  subst hp; exact k'.step fun t q => XS.aloadN P.here C.1 rfl (hb C.cdE hd) hl hv q
theorem k_astore (C : KCx tbl nm cod ml ret p meth c Z a0) (P : KPos wd p l e R s m args below meth c Z own n0 h0 ws T h cells slots) {k : Nat} {x : Value} {l' : Array Slot} (hd : decode cod pc = .ok (.astore k, 2)) (hv : x.isRef = true) (hl : storeLocals Ls k x = some l') {pc' : Nat} (hp : pc + 2 = pc') (k' : KGo p e below K T m pc' l' (st)) : KGo p e below K T m pc Ls (x :: st) := by
  subst hp; exact k'.step fun t q => XS.astore P.here C.1 rfl (hb C.cdE hd) rfl hv hl q
theorem k_astoreN (C : KCx tbl nm cod ml ret p meth c Z a0) (P : KPos wd p l e R s m args below meth c Z own n0 h0 ws T h cells slots) {k : Fin 4} {x : Value} {l' : Array Slot} (hd : decode cod pc = .ok (.astore_n k, 1)) (hv : x.isRef = true) (hl : storeLocals Ls k.val x = some l') {pc' : Nat} (hp : pc + 1 = pc') (k' : KGo p e below K T m pc' l' (st)) : KGo p e below K T m pc Ls (x :: st) := by
  subst hp; exact k'.step fun t q => XS.astoreN P.here C.1 rfl (hb C.cdE hd) rfl hv hl q
theorem k_iconst (C : KCx tbl nm cod ml ret p meth c Z a0) (P : KPos wd p l e R s m args below meth c Z own n0 h0 ws T h cells slots) {i : Int} {z : Int32} (hd : decode cod pc = .ok (.iconst i, 1)) (hz : Int32.ofInt i = z) {pc' : Nat} (hp : pc + 1 = pc') (k' : KGo p e below K T m pc' Ls (.int z :: st)) : KGo p e below K T m pc Ls (st) := by
  subst hp; exact k'.step fun t q => XS.iconst P.here C.1 rfl (hb C.cdE hd) (hz ▸ q)
theorem k_bipush (C : KCx tbl nm cod ml ret p meth c Z a0) (P : KPos wd p l e R s m args below meth c Z own n0 h0 ws T h cells slots) {i : Int} {z : Int32} (hd : decode cod pc = .ok (.bipush i, 2)) (hz : (Int8.ofInt i).toInt32 = z) {pc' : Nat} (hp : pc + 2 = pc') (k' : KGo p e below K T m pc' Ls (.int z :: st)) : KGo p e below K T m pc Ls (st) := by
  subst hp; exact k'.step fun t q => XS.bipush P.here C.1 rfl (hb C.cdE hd) (hz ▸ q)
theorem k_sipush (C : KCx tbl nm cod ml ret p meth c Z a0) (P : KPos wd p l e R s m args below meth c Z own n0 h0 ws T h cells slots) {i : Int} {z : Int32} (hd : decode cod pc = .ok (.sipush i, 3)) (hz : (Int16.ofInt i).toInt32 = z) {pc' : Nat} (hp : pc + 3 = pc') (k' : KGo p e below K T m pc' Ls (.int z :: st)) : KGo p e below K T m pc Ls (st) := by
  subst hp; exact k'.step fun t q => XS.sipush P.here C.1 rfl (hb C.cdE hd) (hz ▸ q)
theorem k_lconst (C : KCx tbl nm cod ml ret p meth c Z a0) (P : KPos wd p l e R s m args below meth c Z own n0 h0 ws T h cells slots) {i : Fin 2} {z : Int64} (hd : decode cod pc = .ok (.lconst i, 1)) (hz : Int64.ofNat i = z) {pc' : Nat} (hp : pc + 1 = pc') (k' : KGo p e below K T m pc' Ls (.long z :: st)) : KGo p e below K T m pc Ls (st) := by
  subst hp; exact k'.step fun t q => XS.lconst P.here C.1 rfl (hb C.cdE hd) (hz ▸ q)
theorem k_aconstNull (C : KCx tbl nm cod ml ret p meth c Z a0) (P : KPos wd p l e R s m args below meth c Z own n0 h0 ws T h cells slots)  (hd : decode cod pc = .ok (.aconst_null, 1))  {pc' : Nat} (hp : pc + 1 = pc') (k' : KGo p e below K T m pc' Ls (.null :: st)) : KGo p e below K T m pc Ls (st) := by
  subst hp; exact k'.step fun t q => XS.aconstNull P.here C.1 rfl (hb C.cdE hd) q
theorem k_iadd (C : KCx tbl nm cod ml ret p meth c Z a0) (P : KPos wd p l e R s m args below meth c Z own n0 h0 ws T h cells slots) {x y : Int32} (hd : decode cod pc = .ok (.iadd, 1))  {pc' : Nat} (hp : pc + 1 = pc') (k' : KGo p e below K T m pc' Ls (.int (x + y) :: st)) : KGo p e below K T m pc Ls (.int y :: .int x :: st) := by
  subst hp; exact k'.step fun t q => XS.iadd P.here C.1 rfl (hb C.cdE hd) rfl q
theorem k_isub (C : KCx tbl nm cod ml ret p meth c Z a0) (P : KPos wd p l e R s m args below meth c Z own n0 h0 ws T h cells slots) {x y : Int32} (hd : decode cod pc = .ok (.isub, 1))  {pc' : Nat} (hp : pc + 1 = pc') (k' : KGo p e below K T m pc' Ls (.int (x - y) :: st)) : KGo p e below K T m pc Ls (.int y :: .int x :: st) := by
  subst hp; exact k'.step fun t q => XS.isub P.here C.1 rfl (hb C.cdE hd) rfl q
theorem k_imul (C : KCx tbl nm cod ml ret p meth c Z a0) (P : KPos wd p l e R s m args below meth c Z own n0 h0 ws T h cells slots) {x y : Int32} (hd : decode cod pc = .ok (.imul, 1))  {pc' : Nat} (hp : pc + 1 = pc') (k' : KGo p e below K T m pc' Ls (.int (x * y) :: st)) : KGo p e below K T m pc Ls (.int y :: .int x :: st) := by
  subst hp; exact k'.step fun t q => XS.imul P.here C.1 rfl (hb C.cdE hd) rfl q
theorem k_iand (C : KCx tbl nm cod ml ret p meth c Z a0) (P : KPos wd p l e R s m args below meth c Z own n0 h0 ws T h cells slots) {x y : Int32} (hd : decode cod pc = .ok (.iand, 1))  {pc' : Nat} (hp : pc + 1 = pc') (k' : KGo p e below K T m pc' Ls (.int (x &&& y) :: st)) : KGo p e below K T m pc Ls (.int y :: .int x :: st) := by
  subst hp; exact k'.step fun t q => XS.iand P.here C.1 rfl (hb C.cdE hd) rfl q
theorem k_ior (C : KCx tbl nm cod ml ret p meth c Z a0) (P : KPos wd p l e R s m args below meth c Z own n0 h0 ws T h cells slots) {x y : Int32} (hd : decode cod pc = .ok (.ior, 1))  {pc' : Nat} (hp : pc + 1 = pc') (k' : KGo p e below K T m pc' Ls (.int (x ||| y) :: st)) : KGo p e below K T m pc Ls (.int y :: .int x :: st) := by
  subst hp; exact k'.step fun t q => XS.ior P.here C.1 rfl (hb C.cdE hd) rfl q
theorem k_ixor (C : KCx tbl nm cod ml ret p meth c Z a0) (P : KPos wd p l e R s m args below meth c Z own n0 h0 ws T h cells slots) {x y : Int32} (hd : decode cod pc = .ok (.ixor, 1))  {pc' : Nat} (hp : pc + 1 = pc') (k' : KGo p e below K T m pc' Ls (.int (x ^^^ y) :: st)) : KGo p e below K T m pc Ls (.int y :: .int x :: st) := by
  subst hp; exact k'.step fun t q => XS.ixor P.here C.1 rfl (hb C.cdE hd) rfl q
theorem k_ishl (C : KCx tbl nm cod ml ret p meth c Z a0) (P : KPos wd p l e R s m args below meth c Z own n0 h0 ws T h cells slots) {x y : Int32} (hd : decode cod pc = .ok (.ishl, 1))  {pc' : Nat} (hp : pc + 1 = pc') (k' : KGo p e below K T m pc' Ls (.int (x <<< (y &&& 31)) :: st)) : KGo p e below K T m pc Ls (.int y :: .int x :: st) := by
  subst hp; exact k'.step fun t q => XS.ishl P.here C.1 rfl (hb C.cdE hd) rfl q
theorem k_ishr (C : KCx tbl nm cod ml ret p meth c Z a0) (P : KPos wd p l e R s m args below meth c Z own n0 h0 ws T h cells slots) {x y : Int32} (hd : decode cod pc = .ok (.ishr, 1))  {pc' : Nat} (hp : pc + 1 = pc') (k' : KGo p e below K T m pc' Ls (.int (x >>> (y &&& 31)) :: st)) : KGo p e below K T m pc Ls (.int y :: .int x :: st) := by
  subst hp; exact k'.step fun t q => XS.ishr P.here C.1 rfl (hb C.cdE hd) rfl q
theorem k_iushr (C : KCx tbl nm cod ml ret p meth c Z a0) (P : KPos wd p l e R s m args below meth c Z own n0 h0 ws T h cells slots) {x y : Int32} (hd : decode cod pc = .ok (.iushr, 1))  {pc' : Nat} (hp : pc + 1 = pc') (k' : KGo p e below K T m pc' Ls (.int (k_ushr x y) :: st)) : KGo p e below K T m pc Ls (.int y :: .int x :: st) := by
  subst hp; exact k'.step fun t q => XS.iushr P.here C.1 rfl (hb C.cdE hd) rfl q
theorem k_ladd (C : KCx tbl nm cod ml ret p meth c Z a0) (P : KPos wd p l e R s m args below meth c Z own n0 h0 ws T h cells slots) {x y : Int64} (hd : decode cod pc = .ok (.ladd, 1))  {pc' : Nat} (hp : pc + 1 = pc') (k' : KGo p e below K T m pc' Ls (.long (x + y) :: st)) : KGo p e below K T m pc Ls (.long y :: .long x :: st) := by
  subst hp; exact k'.step fun t q => XS.ladd P.here C.1 rfl (hb C.cdE hd) rfl q
theorem k_lsub (C : KCx tbl nm cod ml ret p meth c Z a0) (P : KPos wd p l e R s m args below meth c Z own n0 h0 ws T h cells slots) {x y : Int64} (hd : decode cod pc = .ok (.lsub, 1))  {pc' : Nat} (hp : pc + 1 = pc') (k' : KGo p e below K T m pc' Ls (.long (x - y) :: st)) : KGo p e below K T m pc Ls (.long y :: .long x :: st) := by
  subst hp; exact k'.step fun t q => XS.lsub P.here C.1 rfl (hb C.cdE hd) rfl q
theorem k_lmul (C : KCx tbl nm cod ml ret p meth c Z a0) (P : KPos wd p l e R s m args below meth c Z own n0 h0 ws T h cells slots) {x y : Int64} (hd : decode cod pc = .ok (.lmul, 1))  {pc' : Nat} (hp : pc + 1 = pc') (k' : KGo p e below K T m pc' Ls (.long (x * y) :: st)) : KGo p e below K T m pc Ls (.long y :: .long x :: st) := by
  subst hp; exact k'.step fun t q => XS.lmul P.here C.1 rfl (hb C.cdE hd) rfl q
theorem k_land (C : KCx tbl nm cod ml ret p meth c Z a0) (P : KPos wd p l e R s m args below meth c Z own n0 h0 ws T h cells slots) {x y : Int64} (hd : decode cod pc = .ok (.land, 1))  {pc' : Nat} (hp : pc + 1 = pc') (k' : KGo p e below K T m pc' Ls (.long (x &&& y) :: st)) : KGo p e below K T m pc Ls (.long y :: .long x :: st) := by
  subst hp; exact k'.step fun t q => XS.land P.here C.1 rfl (hb C.cdE hd) rfl q
theorem k_lor (C : KCx tbl nm cod ml ret p meth c Z a0) (P : KPos wd p l e R s m args below meth c Z own n0 h0 ws T h cells slots) {x y : Int64} (hd : decode cod pc = .ok (.lor, 1))  {pc' : Nat} (hp : pc + 1 = pc') (k' : KGo p e below K T m pc' Ls (.long (x ||| y) :: st)) : KGo p e below K T m pc Ls (.long y :: .long x :: st) := by
  subst hp; exact k'.step fun t q => XS.lor P.here C.1 rfl (hb C.cdE hd) rfl q
theorem k_lxor (C : KCx tbl nm cod ml ret p meth c Z a0) (P : KPos wd p l e R s m args below meth c Z own n0 h0 ws T h cells slots) {x y : Int64} (hd : decode cod pc = .ok (.lxor, 1))  {pc' : Nat} (hp : pc + 1 = pc') (k' : KGo p e below K T m pc' Ls (.long (x ^^^ y) :: st)) : KGo p e below K T m pc Ls (.long y :: .long x :: st) := by
  subst hp; exact k'.step fun t q => XS.lxor P.here C.1 rfl (hb C.cdE hd) rfl q
theorem k_lshl (C : KCx tbl nm cod ml ret p meth c Z a0) (P : KPos wd p l e R s m args below meth c Z own n0 h0 ws T h cells slots) {x : Int64} {y : Int32} (hd : decode cod pc = .ok (.lshl, 1))  {pc' : Nat} (hp : pc + 1 = pc') (k' : KGo p e below K T m pc' Ls (.long (x <<< (y &&& 63).toInt64) :: st)) : KGo p e below K T m pc Ls (.int y :: .long x :: st) := by
  subst hp; exact k'.step fun t q => XS.lshl P.here C.1 rfl (hb C.cdE hd) rfl q
theorem k_lshr (C : KCx tbl nm cod ml ret p meth c Z a0) (P : KPos wd p l e R s m args below meth c Z own n0 h0 ws T h cells slots) {x : Int64} {y : Int32} (hd : decode cod pc = .ok (.lshr, 1))  {pc' : Nat} (hp : pc + 1 = pc') (k' : KGo p e below K T m pc' Ls (.long (x >>> (y &&& 63).toInt64) :: st)) : KGo p e below K T m pc Ls (.int y :: .long x :: st) := by
  subst hp; exact k'.step fun t q => XS.lshr P.here C.1 rfl (hb C.cdE hd) rfl q
theorem k_lushr (C : KCx tbl nm cod ml ret p meth c Z a0) (P : KPos wd p l e R s m args below meth c Z own n0 h0 ws T h cells slots) {x : Int64} {y : Int32} (hd : decode cod pc = .ok (.lushr, 1))  {pc' : Nat} (hp : pc + 1 = pc') (k' : KGo p e below K T m pc' Ls (.long (k_ushrL x y) :: st)) : KGo p e below K T m pc Ls (.int y :: .long x :: st) := by
  subst hp; exact k'.step fun t q => XS.lushr P.here C.1 rfl (hb C.cdE hd) rfl q
theorem k_lcmp (C : KCx tbl nm cod ml ret p meth c Z a0) (P : KPos wd p l e R s m args below meth c Z own n0 h0 ws T h cells slots) {x y : Int64} (hd : decode cod pc = .ok (.lcmp, 1))  {pc' : Nat} (hp : pc + 1 = pc') (k' : KGo p e below K T m pc' Ls (.int (k_cmpL x y) :: st)) : KGo p e below K T m pc Ls (.long y :: .long x :: st) := by
  subst hp; exact k'.step fun t q => XS.lcmp P.here C.1 rfl (hb C.cdE hd) rfl q
theorem k_i2l (C : KCx tbl nm cod ml ret p meth c Z a0) (P : KPos wd p l e R s m args below meth c Z own n0 h0 ws T h cells slots) {x : Int32} (hd : decode cod pc = .ok (.i2l, 1))  {pc' : Nat} (hp : pc + 1 = pc') (k' : KGo p e below K T m pc' Ls (.long (x.toInt64) :: st)) : KGo p e below K T m pc Ls (.int x :: st) := by
  subst hp; exact k'.step fun t q => XS.i2l P.here C.1 rfl (hb C.cdE hd) rfl q
theorem k_l2i (C : KCx tbl nm cod ml ret p meth c Z a0) (P : KPos wd p l e R s m args below meth c Z own n0 h0 ws T h cells slots) {x : Int64} (hd : decode cod pc = .ok (.l2i, 1))  {pc' : Nat} (hp : pc + 1 = pc') (k' : KGo p e below K T m pc' Ls (.int (x.toInt32) :: st)) : KGo p e below K T m pc Ls (.long x :: st) := by
  subst hp; exact k'.step fun t q => XS.l2i P.here C.1 rfl (hb C.cdE hd) rfl q
theorem k_i2b (C : KCx tbl nm cod ml ret p meth c Z a0) (P : KPos wd p l e R s m args below meth c Z own n0 h0 ws T h cells slots) {x : Int32} (hd : decode cod pc = .ok (.i2b, 1))  {pc' : Nat} (hp : pc + 1 = pc') (k' : KGo p e below K T m pc' Ls (.int (x.toInt8.toInt32) :: st)) : KGo p e below K T m pc Ls (.int x :: st) := by
  subst hp; exact k'.step fun t q => XS.i2b P.here C.1 rfl (hb C.cdE hd) rfl q
theorem k_i2c (C : KCx tbl nm cod ml ret p meth c Z a0) (P : KPos wd p l e R s m args below meth c Z own n0 h0 ws T h cells slots) {x : Int32} (hd : decode cod pc = .ok (.i2c, 1))  {pc' : Nat} (hp : pc + 1 = pc') (k' : KGo p e below K T m pc' Ls (.int (x.toUInt32.toUInt16.toUInt32.toInt32) :: st)) : KGo p e below K T m pc Ls (.int x :: st) := by
  subst hp; exact k'.step fun t q => XS.i2c P.here C.1 rfl (hb C.cdE hd) rfl q
theorem k_i2s (C : KCx tbl nm cod ml ret p meth c Z a0) (P : KPos wd p l e R s m args below meth c Z own n0 h0 ws T h cells slots) {x : Int32} (hd : decode cod pc = .ok (.i2s, 1))  {pc' : Nat} (hp : pc + 1 = pc') (k' : KGo p e below K T m pc' Ls (.int (x.toInt16.toInt32) :: st)) : KGo p e below K T m pc Ls (.int x :: st) := by
  subst hp; exact k'.step fun t q => XS.i2s P.here C.1 rfl (hb C.cdE hd) rfl q
theorem k_ineg (C : KCx tbl nm cod ml ret p meth c Z a0) (P : KPos wd p l e R s m args below meth c Z own n0 h0 ws T h cells slots) {x : Int32} (hd : decode cod pc = .ok (.ineg, 1))  {pc' : Nat} (hp : pc + 1 = pc') (k' : KGo p e below K T m pc' Ls (.int (-x) :: st)) : KGo p e below K T m pc Ls (.int x :: st) := by
  subst hp; exact k'.step fun t q => XS.ineg P.here C.1 rfl (hb C.cdE hd) rfl q
theorem k_lneg (C : KCx tbl nm cod ml ret p meth c Z a0) (P : KPos wd p l e R s m args below meth c Z own n0 h0 ws T h cells slots) {x : Int64} (hd : decode cod pc = .ok (.lneg, 1))  {pc' : Nat} (hp : pc + 1 = pc') (k' : KGo p e below K T m pc' Ls (.long (-x) :: st)) : KGo p e below K T m pc Ls (.long x :: st) := by
  subst hp; exact k'.step fun t q => XS.lneg P.here C.1 rfl (hb C.cdE hd) rfl q
theorem k_irem (C : KCx tbl nm cod ml ret p meth c Z a0) (P : KPos wd p l e R s m args below meth c Z own n0 h0 ws T h cells slots) {x y : Int32} (hd : decode cod pc = .ok (.irem, 1)) (hy : y ≠ 0) {pc' : Nat} (hp : pc + 1 = pc') (k' : KGo p e below K T m pc' Ls (.int (x % y) :: st)) : KGo p e below K T m pc Ls (.int y :: .int x :: st) := by
  subst hp; exact k'.step fun t q => XS.irem P.here C.1 rfl (hb C.cdE hd) rfl hy (by rw [irem_eq_mod]; exact q)
theorem k_idiv (C : KCx tbl nm cod ml ret p meth c Z a0) (P : KPos wd p l e R s m args below meth c Z own n0 h0 ws T h cells slots) {x y : Int32} (hd : decode cod pc = .ok (.idiv, 1)) (hy : y ≠ 0) {pc' : Nat} (hp : pc + 1 = pc') (k' : KGo p e below K T m pc' Ls (.int (x / y) :: st)) : KGo p e below K T m pc Ls (.int y :: .int x :: st) := by
  subst hp; exact k'.step fun t q => XS.idiv P.here C.1 rfl (hb C.cdE hd) rfl hy q
theorem k_iinc (C : KCx tbl nm cod ml ret p meth c Z a0) (P : KPos wd p l e R s m args below meth c Z own n0 h0 ws T h cells slots) {k : Nat} {cst : Int} {x z : Int32} {l' : Array Slot} (hd : decode cod pc = .ok (.iinc k cst, 3)) (hl : Ls[k]? = some (.val (.int x))) (hz : x + Int32.ofInt cst = z) (hl' : storeLocals Ls k (.int z) = some l') {pc' : Nat} (hp : pc + 3 = pc') (k' : KGo p e below K T m pc' l' (st)) : KGo p e below K T m pc Ls (st) := by
  subst hp; exact k'.step fun t q => XS.iinc P.here C.1 rfl (hb C.cdE hd) hl (hz ▸ hl') q
theorem k_dup (C : KCx tbl nm cod ml ret p meth c Z a0) (P : KPos wd p l e R s m args below meth c Z own n0 h0 ws T h cells slots) {x : Value} (hd : decode cod pc = .ok (.dup, 1)) (hc : x.category = 1) {pc' : Nat} (hp : pc + 1 = pc') (k' : KGo p e below K T m pc' Ls (x :: x :: st)) : KGo p e below K T m pc Ls (x :: st) := by
  subst hp; exact k'.step fun t q => XS.dup P.here C.1 rfl (hb C.cdE hd) rfl hc q
theorem k_pop (C : KCx tbl nm cod ml ret p meth c Z a0) (P : KPos wd p l e R s m args below meth c Z own n0 h0 ws T h cells slots) {x : Value} (hd : decode cod pc = .ok (.pop, 1)) (hc : x.category = 1) {pc' : Nat} (hp : pc + 1 = pc') (k' : KGo p e below K T m pc' Ls (st)) : KGo p e below K T m pc Ls (x :: st) := by
  subst hp; exact k'.step fun t q => XS.pop P.here C.1 rfl (hb C.cdE hd) rfl hc q
theorem k_dupX1 (C : KCx tbl nm cod ml ret p meth c Z a0) (P : KPos wd p l e R s m args below meth c Z own n0 h0 ws T h cells slots) {x y : Value} (hd : decode cod pc = .ok (.dup_x1, 1)) (hc : x.category = 1) (hc' : y.category = 1) {pc' : Nat} (hp : pc + 1 = pc') (k' : KGo p e below K T m pc' Ls (x :: y :: x :: st)) : KGo p e below K T m pc Ls (x :: y :: st) := by
  subst hp; exact k'.step fun t q => XS.dupX1 P.here C.1 rfl (hb C.cdE hd) rfl hc hc' q
theorem k_dup2 (C : KCx tbl nm cod ml ret p meth c Z a0) (P : KPos wd p l e R s m args below meth c Z own n0 h0 ws T h cells slots) {x y : Value} (hd : decode cod pc = .ok (.dup2, 1)) (hc : x.category = 1) (hc' : y.category = 1) {pc' : Nat} (hp : pc + 1 = pc') (k' : KGo p e below K T m pc' Ls (x :: y :: x :: y :: st)) : KGo p e below K T m pc Ls (x :: y :: st) := by
  subst hp; exact k'.step fun t q => XT.dup2 P.here C.1 rfl (hb C.cdE hd) rfl hc hc' q
theorem k_dload (C : KCx tbl nm cod ml ret p meth c Z a0) (P : KPos wd p l e R s m args below meth c Z own n0 h0 ws T h cells slots) {k : Nat} {v : UInt64} (hd : decode cod pc = .ok (.dload k, 2)) (hl : Ls[k]? = some (.val (.double v))) {pc' : Nat} (hp : pc + 2 = pc') (k' : KGo p e below K T m pc' Ls (.double v :: st)) : KGo p e below K T m pc Ls (st) := by
  subst hp; exact k'.step fun t q => XS.dload P.here C.1 rfl (hb C.cdE hd) hl q
theorem k_dloadN (C : KCx tbl nm cod ml ret p meth c Z a0) (P : KPos wd p l e R s m args below meth c Z own n0 h0 ws T h cells slots) {k : Fin 4} {v : UInt64} (hd : decode cod pc = .ok (.dload_n k, 1)) (hl : Ls[k.val]? = some (.val (.double v))) {pc' : Nat} (hp : pc + 1 = pc') (k' : KGo p e below K T m pc' Ls (.double v :: st)) : KGo p e below K T m pc Ls (st) := by
  subst hp; exact k'.step fun t q => XS.dloadN P.here C.1 rfl (hb C.cdE hd) hl q
theorem k_dstore (C : KCx tbl nm cod ml ret p meth c Z a0) (P : KPos wd p l e R s m args below meth c Z own n0 h0 ws T h cells slots) {k : Nat} {x : UInt64} {l' : Array Slot} (hd : decode cod pc = .ok (.dstore k, 2)) (hl : storeLocals Ls k (.double x) = some l') {pc' : Nat} (hp : pc + 2 = pc') (k' : KGo p e below K T m pc' l' (st)) : KGo p e below K T m pc Ls (.double x :: st) := by
  subst hp; exact k'.step fun t q => XS.dstore P.here C.1 rfl (hb C.cdE hd) rfl hl q
theorem k_dstoreN (C : KCx tbl nm cod ml ret p meth c Z a0) (P : KPos wd p l e R s m args below meth c Z own n0 h0 ws T h cells slots) {k : Fin 4} {x : UInt64} {l' : Array Slot} (hd : decode cod pc = .ok (.dstore_n k, 1)) (hl : storeLocals Ls k.val (.double x) = some l') {pc' : Nat} (hp : pc + 1 = pc') (k' : KGo p e below K T m pc' l' (st)) : KGo p e below K T m pc Ls (.double x :: st) := by
  subst hp; exact k'.step fun t q => XS.dstoreN P.here C.1 rfl (hb C.cdE hd) rfl hl q
theorem k_dconst0 (C : KCx tbl nm cod ml ret p meth c Z a0) (P : KPos wd p l e R s m args below meth c Z own n0 h0 ws T h cells slots) {z : UInt64} (hd : decode cod pc = .ok (.dconst 0, 1)) (hz : FP.dconst0 = z) {pc' : Nat} (hp : pc + 1 = pc') (k' : KGo p e below K T m pc' Ls (.double z :: st)) : KGo p e below K T m pc Ls (st) := by
  subst hp; exact k'.step fun t q => XS.dconst0 P.here C.1 rfl (hb C.cdE hd) hz q
theorem k_dconst1 (C : KCx tbl nm cod ml ret p meth c Z a0) (P : KPos wd p l e R s m args below meth c Z own n0 h0 ws T h cells slots) {z : UInt64} (hd : decode cod pc = .ok (.dconst 1, 1)) (hz : FP.dconst1 = z) {pc' : Nat} (hp : pc + 1 = pc') (k' : KGo p e below K T m pc' Ls (.double z :: st)) : KGo p e below K T m pc Ls (st) := by
  subst hp; exact k'.step fun t q => XS.dconst1 P.here C.1 rfl (hb C.cdE hd) hz q
theorem k_i2d (C : KCx tbl nm cod ml ret p meth c Z a0) (P : KPos wd p l e R s m args below meth c Z own n0 h0 ws T h cells slots) {x : Int32} (hd : decode cod pc = .ok (.i2d, 1))  {pc' : Nat} (hp : pc + 1 = pc') (k' : KGo p e below K T m pc' Ls (.double (FP.i2d x) :: st)) : KGo p e below K T m pc Ls (.int x :: st) := by
  subst hp; exact k'.step fun t q => XS.i2dS P.here C.1 rfl (hb C.cdE hd) rfl rfl q
theorem k_l2d (C : KCx tbl nm cod ml ret p meth c Z a0) (P : KPos wd p l e R s m args below meth c Z own n0 h0 ws T h cells slots) {x : Int64} (hd : decode cod pc = .ok (.l2d, 1))  {pc' : Nat} (hp : pc + 1 = pc') (k' : KGo p e below K T m pc' Ls (.double (FP.l2d x) :: st)) : KGo p e below K T m pc Ls (.long x :: st) := by
  subst hp; exact k'.step fun t q => XS.l2dS P.here C.1 rfl (hb C.cdE hd) rfl rfl q
theorem k_dneg (C : KCx tbl nm cod ml ret p meth c Z a0) (P : KPos wd p l e R s m args below meth c Z own n0 h0 ws T h cells slots) {x : UInt64} (hd : decode cod pc = .ok (.dneg, 1))  {pc' : Nat} (hp : pc + 1 = pc') (k' : KGo p e below K T m pc' Ls (.double (FP.dneg x) :: st)) : KGo p e below K T m pc Ls (.double x :: st) := by
  subst hp; exact k'.step fun t q => XS.dnegS P.here C.1 rfl (hb C.cdE hd) rfl rfl q
theorem k_dcmp (C : KCx tbl nm cod ml ret p meth c Z a0) (P : KPos wd p l e R s m args below meth c Z own n0 h0 ws T h cells slots) {o : CmpOp} {x y : UInt64} {z : Int32} (hd : decode cod pc = .ok (.dcmp o, 1)) (hz : cmpValue (FP.dcmp x y) o = z) {pc' : Nat} (hp : pc + 1 = pc') (k' : KGo p e below K T m pc' Ls (.int z :: st)) : KGo p e below K T m pc Ls (.double y :: .double x :: st) := by
  subst hp; exact k'.step fun t q => XS.dcmpS P.here C.1 rfl (hb C.cdE hd) rfl hz q
theorem k_dadd (C : KCx tbl nm cod ml ret p meth c Z a0) (P : KPos wd p l e R s m args below meth c Z own n0 h0 ws T h cells slots) {x y z : UInt64} (hd : decode cod pc = .ok (.dadd, 1)) (hn : Jvm.Free.Fl.NoNaN64 (FP.dadd x y)) (hz : FP.dadd x y = z) {pc' : Nat} (hp : pc + 1 = pc') (k' : KGo p e below K T m pc' Ls (.double z :: st)) : KGo p e below K T m pc Ls (.double y :: .double x :: st) := by
  subst hp; exact k'.step fun t q => XS.daddS P.here C.1 rfl (hb C.cdE hd) rfl hn hz q
theorem k_dsub (C : KCx tbl nm cod ml ret p meth c Z a0) (P : KPos wd p l e R s m args below meth c Z own n0 h0 ws T h cells slots) {x y z : UInt64} (hd : decode cod pc = .ok (.dsub, 1)) (hn : Jvm.Free.Fl.NoNaN64 (FP.dsub x y)) (hz : FP.dsub x y = z) {pc' : Nat} (hp : pc + 1 = pc') (k' : KGo p e below K T m pc' Ls (.double z :: st)) : KGo p e below K T m pc Ls (.double y :: .double x :: st) := by
  subst hp; exact k'.step fun t q => XS.dsubS P.here C.1 rfl (hb C.cdE hd) rfl hn hz q
theorem k_dmul (C : KCx tbl nm cod ml ret p meth c Z a0) (P : KPos wd p l e R s m args below meth c Z own n0 h0 ws T h cells slots) {x y z : UInt64} (hd : decode cod pc = .ok (.dmul, 1)) (hn : Jvm.Free.Fl.NoNaN64 (FP.dmul x y)) (hz : FP.dmul x y = z) {pc' : Nat} (hp : pc + 1 = pc') (k' : KGo p e below K T m pc' Ls (.double z :: st)) : KGo p e below K T m pc Ls (.double y :: .double x :: st) := by
  subst hp; exact k'.step fun t q => XS.dmulS P.here C.1 rfl (hb C.cdE hd) rfl hn hz q
theorem k_ddiv (C : KCx tbl nm cod ml ret p meth c Z a0) (P : KPos wd p l e R s m args below meth c Z own n0 h0 ws T h cells slots) {x y z : UInt64} (hd : decode cod pc = .ok (.ddiv, 1)) (hn : Jvm.Free.Fl.NoNaN64 (FP.ddiv x y)) (hz : FP.ddiv x y = z) {pc' : Nat} (hp : pc + 1 = pc') (k' : KGo p e below K T m pc' Ls (.double z :: st)) : KGo p e below K T m pc Ls (.double y :: .double x :: st) := by
  subst hp; exact k'.step fun t q => XS.ddivS P.here C.1 rfl (hb C.cdE hd) rfl hn hz q
/-! ### objects and arrays -/
def KOb (Z : State) (h : Heap) (a : Addr) (Cn : String) (lay : List (String × String × String)) (vs : List Value) : Prop :=
  Exa Z h a Cn ∧ lay.length = vs.length ∧ ∀ (i : Nat) (O n d : String) (v : Value), lay[i]? = some (O, n, d) → vs[i]? = some v → Fld Z h a O n d v
def KLay (Z : State) (a0 : Array Value) (Cn : String) (lay : List (String × String × String)) : Prop :=
  (∀ x ∈ lay, Laid Z a0 Cn x.1 x.2.1 x.2.2 ∧ (parseFieldDescriptor x.2.2).isSome = true) ∧ (lay.map (·.2.1)).Nodup
def KVA (Z : State) (h : Heap) (a : Addr) (k : ClassId) (ty : FieldType) (N : Nat) (f : Nat → Value) : Prop :=
  ∃ cl : Cell, Arr Z h a cl ty ∧ cl.cls = k ∧ cl.slots.size = N ∧ N < 2 ^ 31 ∧ ∀ j, j < N → cl.slots[j]? = some (f j)
section Facts
variable {Cn O n d : String} {lay : List (String × String × String)} {vs : List Value} {v : Value} {sl : Nat} {k : ClassId} {ty : FieldType} {N : Nat} {f : Nat → Value} {ws' : List Addr}
theorem KOb.exa (F : KOb Z h a Cn lay vs) : Exa Z h a Cn := F.1
theorem KOb.lt (F : KOb Z h a Cn lay vs) : a < h.size := F.1.lt
theorem KOb.fld (F : KOb Z h a Cn lay vs) (i : Nat) (q : lay[i]? = some (O, n, d)) (r : vs[i]? = some v) : Fld Z h a O n d v := F.2.2 i O n d v q r
theorem KOb.ext (F : KOb Z h a Cn lay vs) (E : Ext h h') : KOb Z h' a Cn lay vs := ⟨F.1.ext E, F.2.1, fun i O n d v q r => (F.2.2 i O n d v q r).ext E⟩
theorem KOb.keep (F : KOb Z h a Cn lay vs) (E : Keep h h' ws') (q : a ∉ ws') : KOb Z h' a Cn lay vs := ⟨F.1.keep E, F.2.1, fun i O n d v u r => (F.2.2 i O n d v u r).keep E q⟩
theorem KOb.other (F : KOb Z h a Cn lay vs) (W : Wr h h' b sl v) (q : a ≠ b) : KOb Z h' a Cn lay vs := ⟨F.1.wr W, F.2.1, fun i O n d v u r => (F.2.2 i O n d v u r).other W (Or.inl q)⟩
theorem KOb.put (F : KOb Z h a Cn lay vs) (L : KLay Z a0 Cn lay) (i : Nat) (q : lay[i]? = some (O, n, d)) (W : Wr h h' a (Jvm.RoadKit.slotOf Z O n d) v) {vs' : List Value} (hv : vs.set i v = vs') : KOb Z h' a Cn lay vs' := by
  subst hv
  refine ⟨F.1.wr W, by rw [List.length_set]; exact F.2.1, fun j O' n' d' v' u r => ?_⟩
  by_cases e : i = j
  · subst e
    cases q.symm.trans u
    have hi : i < vs.length := by rw [← F.2.1]; exact (List.getElem?_eq_some_iff.mp q).1
    rw [List.getElem?_set_self hi] at r
    cases r
    exact (F.2.2 i O n d _ q (List.getElem?_eq_getElem hi)).same W
  · rw [List.getElem?_set_ne e] at r
    obtain ⟨l1, t1⟩ := L.1 _ (List.mem_of_getElem? u)
    obtain ⟨l2, t2⟩ := L.1 _ (List.mem_of_getElem? q)
    obtain ⟨t, ht⟩ := Option.isSome_iff_exists.mp t1
    obtain ⟨t', ht'⟩ := Option.isSome_iff_exists.mp t2
    refine (F.2.2 j O' n' d' v' u r).other W (Or.inr (slot_ne l1 l2 (fun en => ?_) ht ht'))
    have m1 : (lay.map (·.2.1))[j]? = some n' := by rw [List.getElem?_map, u]; rfl
    have m2 : (lay.map (·.2.1))[i]? = some n' := by rw [List.getElem?_map, q]; exact congrArg some en.symm
    exact e (((List.getElem?_inj (List.getElem?_eq_some_iff.mp m2).1 L.2).mp (m2.trans m1.symm)))
theorem KOb.new (E : Exa Z h a Cn) (D : ∀ {O nm d : String} {ty : FieldType}, Laid Z a0 Cn O nm d → parseFieldDescriptor d = some ty → Fld Z h a O nm d (defaultValue ty)) (L : KLay Z a0 Cn lay) (hv : (lay.map fun x => (parseFieldDescriptor x.2.2).map defaultValue) = vs.map some) : KOb Z h a Cn lay vs := by
  have hl : lay.length = vs.length := by have := congrArg List.length hv; simpa using this
  refine ⟨E, hl, fun i O n d v q r => ?_⟩
  obtain ⟨l1, t1⟩ := L.1 _ (List.mem_of_getElem? q)
  obtain ⟨t, ht⟩ := Option.isSome_iff_exists.mp t1
  have e1 : (lay.map fun x => (parseFieldDescriptor x.2.2).map defaultValue)[i]? = some (some (defaultValue t)) := by rw [List.getElem?_map, q]; show some ((parseFieldDescriptor d).map defaultValue) = _; rw [show parseFieldDescriptor d = some t from ht]; rfl
  rw [hv, List.getElem?_map, r] at e1
  cases e1
  exact D l1 ht
theorem KOb.one (E : Exa Z h a Cn) (F : Fld Z h a O n d v) : KOb Z h a Cn [(O, n, d)] [v] := ⟨E, rfl, fun i O' n' d' v' q r => by
  match i, q, r with
  | 0, q, r => cases q; cases r; exact F⟩
theorem KOb.two {O2 n2 d2 : String} {v2 : Value} (E : Exa Z h a Cn) (F : Fld Z h a O n d v) (F2 : Fld Z h a O2 n2 d2 v2) : KOb Z h a Cn [(O, n, d), (O2, n2, d2)] [v, v2] := ⟨E, rfl, fun i O' n' d' v' q r => by
  match i, q, r with
  | 0, q, r => cases q; cases r; exact F
  | 1, q, r => cases q; cases r; exact F2⟩
theorem KVA.lt (F : KVA Z h a k ty N f) : a < h.size := by obtain ⟨c, A, -⟩ := F; exact A.lt
theorem KVA.ext (F : KVA Z h a k ty N f) (E : Ext h h') : KVA Z h' a k ty N f := by obtain ⟨c, A, r⟩ := F; exact ⟨c, A.ext E, r⟩
theorem KVA.keep (F : KVA Z h a k ty N f) (E : Keep h h' ws') (q : a ∉ ws') : KVA Z h' a k ty N f := by obtain ⟨c, A, r⟩ := F; exact ⟨c, ⟨E.2.1 a c A.1 q, A.2⟩, r⟩
theorem KVA.other (F : KVA Z h a k ty N f) (W : Wr h h' b sl v) (q : a ≠ b) : KVA Z h' a k ty N f := by obtain ⟨c, A, r⟩ := F; exact ⟨c, A.other W q, r⟩
theorem KVA.congr (F : KVA Z h a k ty N f) {g : Nat → Value} (q : ∀ j, j < N → f j = g j) : KVA Z h a k ty N g := by obtain ⟨c, A, r1, r2, r3, r4⟩ := F; exact ⟨c, A, r1, r2, r3, fun j hj => by rw [← q j hj]; exact r4 j hj⟩
theorem KVA.set (F : KVA Z h a k ty N f) (W : Wr h h' a sl v) {g : Nat → Value} (q : ∀ j, j < N → (if j = sl then v else f j) = g j) : KVA Z h' a k ty N g := by
  obtain ⟨c, A, r1, r2, r3, r4⟩ := F
  refine ⟨c.setSlot sl v, A.same W, r1, by rw [sz_set]; exact r2, r3, fun j hj => ?_⟩
  rw [← q j hj]
  by_cases e : j = sl
  · subst e; rw [if_pos rfl]; simp [Cell.setSlot, r2, hj]
  · rw [if_neg e]; show (c.slots.setIfInBounds sl v)[j]? = _; rw [Array.getElem?_setIfInBounds_ne (Ne.symm e)]; exact r4 j hj
theorem KVA.new {z : Int32} (A : Arr Z h a (newA k ty z) ty) (q : z.toInt = (N : Int)) : KVA Z h a k ty N (fun _ => defaultValue ty) := by
  have e : z.toNatClampNeg = N := by simp only [Int32.toNatClampNeg]; omega
  have := Int32.toInt_lt z
  exact ⟨_, A, rfl, (sz_new _ _ _).trans e, by omega, fun j hj => by simp [newA, e, hj]⟩
theorem KVA.ne_ob {kk : Nat} (F : KVA Z h a k ty N f) (G : Exa Z h b Cn) (wi : (Cond.instantiable Cn kk).before a0 Z = true) : a ≠ b := by obtain ⟨c, A, -⟩ := F; exact (ne_arr G wi A).symm
theorem KVA.start {cl : Cell} (A : Arr Z h a cl ty) (hs : cl.slots.size = N) (hN : N < 2 ^ 31) (H : ∀ j, j < N → cl.slots[j]? = some (f j)) : KVA Z h a cl.cls ty N f := ⟨cl, A, rfl, hs, hN, H⟩
theorem k_cat_ref {v : Value} (hv : v.isRef = true) : v.category = 1 := by rcases ref_cases hv with rfl | ⟨_, rfl⟩ <;> rfl
theorem k_fits_ref {v : Value} (ht : ty.isReference = true) (hv : v.isRef = true) : fits ty v = true := by rcases ref_cases hv with rfl | ⟨_, rfl⟩ <;> cases ty <;> first | rfl | (cases ht; done)
theorem k_ext_of_keep (E : Keep h h' []) : Ext h h' := ⟨E.1, fun x c q => E.2.1 x c q nin0⟩
theorem k_idx {j : Int32} {J : Nat} (hj : j.toInt = (J : Int)) {S : Nat} (hJ : J < S) : ¬ (j < 0 ∨ S ≤ j.toNatClampNeg) ∧ j.toNatClampNeg = J := by
  have e : j.toNatClampNeg = J := by simp only [Int32.toNatClampNeg]; omega
  refine ⟨?_, e⟩
  rw [e, Int32.lt_iff_toInt_lt]
  have : (0 : Int32).toInt = 0 := rfl
  omega
end Facts
/-! ### steps on the heap -/
theorem k_getf {R0 O n d Cn : String} {index : Nat} {lay : List (String × String × String)} {vs : List Value} {v : Value} (C : KCx tbl nm cod ml ret p meth c Z a0) (P : KPos wd p l e R s m args below meth c Z own n0 h0 ws T h cells slots) (w : (Jvm.Cond.fieldLink own index R0 n d).before a0 Z = true) (via : Via Z R0 O n d) (F : KOb Z h a Cn lay vs) (i : Nat) (q : lay[i]? = some (O, n, d)) (r : vs[i]? = some v)
    (hd : decode cod pc = .ok (.getfield index, 3)) {pc' : Nat} (hp : pc + 3 = pc') (k' : ∀ T', KPos wd p l e R s m args below meth c Z own n0 h0 ws T' h cells slots → KGo p e below K T' m pc' Ls (v :: st)) : KGo p e below K T m pc Ls (.ref a :: st) := by
  subst hp
  obtain ⟨s', L, X, B, hZ, hown, eT, r1⟩ := P
  obtain ⟨T', X', e', stp⟩ := getF X C.1 hZ hown (host := "") (Or.inl w) via eT (F.fld i q r) (g := mkF m pc Ls (.ref a :: st)) rfl rfl (hb C.cdE hd)
  exact (k' T' ⟨s', L, X', B, hZ, hown, e', r1⟩).step stp
theorem k_putf {R0 O n d Cn : String} {index kk : Nat} {lay : List (String × String × String)} {vs : List Value} {v v' : Value} {ty : FieldType} (C : KCx tbl nm cod ml ret p meth c Z a0) (P : KPos wd p l e R s m args below meth c Z own n0 h0 ws T h cells slots) (w : (Jvm.Cond.fieldLink own index R0 n d).before a0 Z = true) (via : Via Z R0 O n d) (F : KOb Z h a Cn lay vs) (i : Nat) (q : lay[i]? = some (O, n, d))
    (L : (Jvm.Cond.lays Cn O n d).before a0 Z = true ∨ ((Jvm.Cond.laysFinal Cn O n d).before a0 Z = true ∧ own = O ∧ nm = "<init>")) (wi : (Jvm.Cond.instantiable Cn kk).before a0 Z = true) (hty : parseFieldDescriptor d = some ty) (hn : narrow ty v = v') (hf : fits ty v' = true)
    (hd : decode cod pc = .ok (.putfield index, 3)) (ha : n0 ≤ a) (hk : a ∈ ws ∨ h0.size ≤ a) {pc' : Nat} (hp : pc + 3 = pc') (k' : ∀ T' h', KPos wd p l e R s m args below meth c Z own n0 h0 ws T' h' cells slots → Wr h h' a (Jvm.RoadKit.slotOf Z O n d) v' → KGo p e below K T' m pc' Ls st) : KGo p e below K T m pc Ls (v :: .ref a :: st) := by
  subst hp
  obtain ⟨s', Lo, X, B, hZ, hown, eT, r1, r2, r3⟩ := P
  have hi : i < vs.length := by rw [← F.2.1]; exact (List.getElem?_eq_some_iff.mp q).1
  obtain ⟨T', h', X', e', W, stp⟩ := putFN X C.1 hZ hown w via eT (F.fld i q (List.getElem?_eq_getElem hi)) F.1 (L.imp id fun z => ⟨z.1, z.2.1, C.nmE.trans z.2.2⟩) wi hty hn hf (g := mkF m pc Ls (v :: .ref a :: st)) rfl rfl (hb C.cdE hd)
  exact (k' T' h' ⟨s', _, X', B.mono (Nat.le_of_eq W.size.symm), hZ, hown, e', W.size ▸ r1, Fr.snoc X' r2 ha, r3.wr W hk⟩ W).step stp
theorem k_gets {R0 O n d : String} {index : Nat} {v : Value} (C : KCx tbl nm cod ml ret p meth c Z a0) (P : KPos wd p l e R s m args below meth c Z own n0 h0 ws T h cells slots) (w : (Jvm.Cond.fieldLink own index R0 n d).before a0 Z = true) (via : Via Z R0 O n d) (F : Sta Z h O n d v) (hd : decode cod pc = .ok (.getstatic index, 3)) {pc' : Nat} (hp : pc + 3 = pc')
    (k' : ∀ T', KPos wd p l e R s m args below meth c Z own n0 h0 ws T' h cells slots → KGo p e below K T' m pc' Ls (v :: st)) : KGo p e below K T m pc Ls st := by
  subst hp
  obtain ⟨s', L, X, B, hZ, hown, eT, r1⟩ := P
  obtain ⟨T', X', e', stp⟩ := getS2 X C.1 hZ hown (host := "") (Or.inl w) via eT F (g := mkF m pc Ls st) rfl (hb C.cdE hd)
  exact (k' T' ⟨s', L, X', B, hZ, hown, e', r1⟩).step stp
theorem k_newo {Cn : String} {index n : Nat} (C : KCx tbl nm cod ml ret p meth c Z a0) (P : KPos wd p l e R s m args below meth c Z own n0 h0 ws T h cells slots) (w : (Jvm.Cond.classLink own index Cn).before a0 Z = true) (wi : (Jvm.Cond.instantiable Cn n).before a0 Z = true) (wz : (Jvm.Cond.initialized Cn).before a0 Z = true) (hd : decode cod pc = .ok (.new index, 3))
    {cells' slots' : Nat} (hc : cells + 1 = cells') (hs : slots + n = slots') (hc' : cells' ≤ R.cells) (hs' : slots' ≤ R.slots) {pc' : Nat} (hp : pc + 3 = pc')
    (k' : ∀ T' h' a, KPos wd p l e R s m args below meth c Z own n0 h0 ws T' h' cells' slots' → h.size = a → n0 ≤ a → h0.size ≤ a → Ext h h' → Exa Z h' a Cn → (∀ {O nm d : String} {ty : FieldType}, Laid Z a0 Cn O nm d → parseFieldDescriptor d = some ty → Fld Z h' a O nm d (defaultValue ty)) → KGo p e below K T' m pc' Ls (.ref a :: st)) : KGo p e below K T m pc Ls st := by
  subst hp hc hs
  obtain ⟨s', Lo, X, B, hZ, hown, eT, r1, r2, r3⟩ := P
  obtain ⟨T', h', X', e', E, A, D, -, stp⟩ := newO X C.1 hZ hown w wi wz eT (g := mkF m pc Ls st) rfl (hb C.cdE hd) hc' hs'
  exact (k' T' h' _ ⟨s', _, X', B.mono E.1, hZ, hown, e', Nat.le_trans r1 E.1, r2, r3.ext E⟩ rfl r1 r3.1 E A D).step stp
theorem k_newp {aty : ArrayType} {z : Int32} {N cap : Nat} (C : KCx tbl nm cod ml ret p meth c Z a0) (P : KPos wd p l e R s m args below meth c Z own n0 h0 ws T h cells slots) (w : (Jvm.Cond.arrayClass (newarray.typeOf aty)).before a0 Z = true) (hd : decode cod pc = .ok (.newarray aty, 2)) (hN : z.toInt = (N : Int)) (hcap : N ≤ cap) (hb8 : cap * 8 ≤ 536870912)
    {cells' slots' : Nat} (hc : cells + 1 = cells') (hs : slots + cap = slots') (hc' : cells' ≤ R.cells) (hs' : slots' ≤ R.slots) {pc' : Nat} (hp : pc + 2 = pc')
    (k' : ∀ T' h' a k, KPos wd p l e R s m args below meth c Z own n0 h0 ws T' h' cells' slots' → h.size = a → n0 ≤ a → h0.size ≤ a → Ext h h' → KVA Z h' a k (newarray.typeOf aty) N (fun _ => defaultValue (newarray.typeOf aty)) → KGo p e below K T' m pc' Ls (.ref a :: st)) : KGo p e below K T m pc Ls (.int z :: st) := by
  subst hp hc hs
  obtain ⟨s', Lo, X, B, hZ, hown, eT, r1, r2, r3⟩ := P
  have e0 : ¬ z < 0 := by rw [Int32.lt_iff_toInt_lt]; have : (0 : Int32).toInt = 0 := rfl; omega
  have e1 : z.toNatClampNeg ≤ cap := by simp only [Int32.toNatClampNeg]; omega
  obtain ⟨T', h', kA, X', e', E, A, stp⟩ := newP X C.1 hZ w eT (g := mkF m pc Ls (.int z :: st)) rfl (hb C.cdE hd) rfl e0 e1 hb8 hc' hs'
  exact (k' T' h' _ kA ⟨s', _, X', B.mono E.1, hZ, hown, e', Nat.le_trans r1 E.1, r2, r3.ext E⟩ rfl r1 r3.1 E (KVA.new A hN)).step stp
theorem k_newr {Cn : String} {index : Nat} {z : Int32} {N cap : Nat} (C : KCx tbl nm cod ml ret p meth c Z a0) (P : KPos wd p l e R s m args below meth c Z own n0 h0 ws T h cells slots) (w : (Jvm.Cond.classLink own index Cn).before a0 Z = true) (w2 : (Jvm.Cond.arrayOver (.object Cn)).before a0 Z = true) (hd : decode cod pc = .ok (.anewarray index, 3)) (hN : z.toInt = (N : Int)) (hcap : N ≤ cap) (hb8 : cap * 8 ≤ 536870912)
    {cells' slots' : Nat} (hc : cells + 1 = cells') (hs : slots + cap = slots') (hc' : cells' ≤ R.cells) (hs' : slots' ≤ R.slots) {pc' : Nat} (hp : pc + 3 = pc')
    (k' : ∀ T' h' a k, KPos wd p l e R s m args below meth c Z own n0 h0 ws T' h' cells' slots' → h.size = a → n0 ≤ a → h0.size ≤ a → Ext h h' → KVA Z h' a k (.object Cn) N (fun _ => .null) → Ovr Z k Cn → KGo p e below K T' m pc' Ls (.ref a :: st)) : KGo p e below K T m pc Ls (.int z :: st) := by
  subst hp hc hs
  obtain ⟨s', Lo, X, B, hZ, hown, eT, r1, r2, r3⟩ := P
  have e0 : ¬ z < 0 := by rw [Int32.lt_iff_toInt_lt]; have : (0 : Int32).toInt = 0 := rfl; omega
  have e1 : z.toNatClampNeg ≤ cap := by simp only [Int32.toNatClampNeg]; omega
  obtain ⟨T', h', kA, X', e', E, A, O, stp⟩ := newR X C.1 hZ hown w w2 eT (g := mkF m pc Ls (.int z :: st)) rfl (hb C.cdE hd) rfl e0 e1 hb8 hc' hs'
  exact (k' T' h' _ kA ⟨s', _, X', B.mono E.1, hZ, hown, e', Nat.le_trans r1 E.1, r2, r3.ext E⟩ rfl r1 r3.1 E (KVA.new A hN) O).step stp
theorem k_newra {Cn ad : String} {ty : FieldType} {index : Nat} {z : Int32} {N cap : Nat} (C : KCx tbl nm cod ml ret p meth c Z a0) (P : KPos wd p l e R s m args below meth c Z own n0 h0 ws T h cells slots) (hC : (FieldType.array ty).toString = Cn) (had : "[" ++ Cn = ad) (w : (Jvm.Cond.classLink own index Cn).before a0 Z = true) (w2 : (Jvm.Cond.arrayOver (.array ty)).before a0 Z = true) (hd : decode cod pc = .ok (.anewarray index, 3)) (hN : z.toInt = (N : Int)) (hcap : N ≤ cap) (hb8 : cap * 8 ≤ 536870912)
    {cells' slots' : Nat} (hc : cells + 1 = cells') (hs : slots + cap = slots') (hc' : cells' ≤ R.cells) (hs' : slots' ≤ R.slots) {pc' : Nat} (hp : pc + 3 = pc')
    (k' : ∀ T' h' a k, KPos wd p l e R s m args below meth c Z own n0 h0 ws T' h' cells' slots' → h.size = a → n0 ≤ a → h0.size ≤ a → Ext h h' → KVA Z h' a k (.array ty) N (fun _ => .null) → Exa Z h' a ad → OvrA Z k ty Cn → KGo p e below K T' m pc' Ls (.ref a :: st)) : KGo p e below K T m pc Ls (.int z :: st) := by
  subst hp hc hs
  obtain ⟨s', Lo, X, B, hZ, hown, eT, r1, r2, r3⟩ := P
  have e0 : ¬ z < 0 := by rw [Int32.lt_iff_toInt_lt]; have : (0 : Int32).toInt = 0 := rfl; omega
  have e1 : z.toNatClampNeg ≤ cap := by simp only [Int32.toNatClampNeg]; omega
  obtain ⟨T', h', kA, X', e', E, A, Ex, O, stp⟩ := newRA X C.1 hZ hown hC w w2 eT (g := mkF m pc Ls (.int z :: st)) rfl (hb C.cdE hd) rfl e0 e1 hb8 hc' hs' had
  exact (k' T' h' _ kA ⟨s', _, X', B.mono E.1, hZ, hown, e', Nat.le_trans r1 E.1, r2, r3.ext E⟩ rfl r1 r3.1 E (KVA.new A hN) Ex O).step stp
theorem k_arrlen {k : ClassId} {ty : FieldType} {N : Nat} {f : Nat → Value} {z : Int32} (C : KCx tbl nm cod ml ret p meth c Z a0) (P : KPos wd p l e R s m args below meth c Z own n0 h0 ws T h cells slots) (V : KVA Z h a k ty N f) (hd : decode cod pc = .ok (.arraylength, 1)) (hz : z.toInt = (N : Int)) {pc' : Nat} (hp : pc + 1 = pc') (k' : KGo p e below K T m pc' Ls (.int z :: st)) : KGo p e below K T m pc Ls (.ref a :: st) := by
  subst hp
  obtain ⟨s', L, X, B, hZ, hown, eT, r1⟩ := P
  obtain ⟨cl, A, -, S, hN, -⟩ := V
  have e : cl.slots.size.toInt32 = z := by rw [S]; exact Int32.toInt_inj.mp (by rw [len_toInt hN, hz])
  subst e
  exact k'.step fun t q => X.arraylength C.1 (by rw [eT]; exact A.1) (State.isArrayOf_alike hZ.alike A.2.1) (g := mkF m pc Ls (.ref a :: st)) rfl rfl (hb C.cdE hd) t q
theorem k_iaload {k : ClassId} {N J : Nat} {f : Nat → Value} {j : Int32} {v : Value} (C : KCx tbl nm cod ml ret p meth c Z a0) (P : KPos wd p l e R s m args below meth c Z own n0 h0 ws T h cells slots) (V : KVA Z h a k .int N f) (hd : decode cod pc = .ok (.iaload, 1)) (hj : j.toInt = (J : Int)) (hJ : J < N) (hv : f J = v) {pc' : Nat} (hp : pc + 1 = pc') (k' : KGo p e below K T m pc' Ls (v :: st)) : KGo p e below K T m pc Ls (.int j :: .ref a :: st) := by
  subst hp hv
  obtain ⟨s', L, X, B, hZ, hown, eT, r1⟩ := P
  obtain ⟨cl, A, -, S, hN, H⟩ := V
  obtain ⟨q1, q2⟩ := k_idx hj (S.symm ▸ hJ)
  exact k'.step fun t q => X.iaload C.1 (by rw [eT]; exact A.1) (State.isArrayOf_alike hZ.alike A.2.1) A.2.2 q1 (by rw [q2]; exact H J hJ) (g := mkF m pc Ls (.int j :: .ref a :: st)) rfl rfl (hb C.cdE hd) t q
theorem k_laload {k : ClassId} {N J : Nat} {f : Nat → Value} {j : Int32} {v : Value} (C : KCx tbl nm cod ml ret p meth c Z a0) (P : KPos wd p l e R s m args below meth c Z own n0 h0 ws T h cells slots) (V : KVA Z h a k .long N f) (hd : decode cod pc = .ok (.laload, 1)) (hj : j.toInt = (J : Int)) (hJ : J < N) (hv : f J = v) {pc' : Nat} (hp : pc + 1 = pc') (k' : KGo p e below K T m pc' Ls (v :: st)) : KGo p e below K T m pc Ls (.int j :: .ref a :: st) := by
  subst hp hv
  obtain ⟨s', L, X, B, hZ, hown, eT, r1⟩ := P
  obtain ⟨cl, A, -, S, hN, H⟩ := V
  obtain ⟨q1, q2⟩ := k_idx hj (S.symm ▸ hJ)
  exact k'.step fun t q => X.laload C.1 (by rw [eT]; exact A.1) (State.isArrayOf_alike hZ.alike A.2.1) A.2.2 q1 (by rw [q2]; exact H J hJ) (g := mkF m pc Ls (.int j :: .ref a :: st)) rfl rfl (hb C.cdE hd) t q
theorem k_caload {k : ClassId} {N J : Nat} {f : Nat → Value} {j : Int32} {v : Value} (C : KCx tbl nm cod ml ret p meth c Z a0) (P : KPos wd p l e R s m args below meth c Z own n0 h0 ws T h cells slots) (V : KVA Z h a k .char N f) (hd : decode cod pc = .ok (.caload, 1)) (hj : j.toInt = (J : Int)) (hJ : J < N) (hv : f J = v) {pc' : Nat} (hp : pc + 1 = pc') (k' : KGo p e below K T m pc' Ls (v :: st)) : KGo p e below K T m pc Ls (.int j :: .ref a :: st) := by
  subst hp hv
  obtain ⟨s', L, X, B, hZ, hown, eT, r1⟩ := P
  obtain ⟨cl, A, -, S, hN, H⟩ := V
  obtain ⟨q1, q2⟩ := k_idx hj (S.symm ▸ hJ)
  exact k'.step fun t q => X.caload C.1 (by rw [eT]; exact A.1) (State.isArrayOf_alike hZ.alike A.2.1) A.2.2 q1 (by rw [q2]; exact H J hJ) (g := mkF m pc Ls (.int j :: .ref a :: st)) rfl rfl (hb C.cdE hd) t q
theorem k_baload {k : ClassId} {N J : Nat} {f : Nat → Value} {j : Int32} {v : Value} (C : KCx tbl nm cod ml ret p meth c Z a0) (P : KPos wd p l e R s m args below meth c Z own n0 h0 ws T h cells slots) (V : KVA Z h a k .byte N f) (hd : decode cod pc = .ok (.baload, 1)) (hj : j.toInt = (J : Int)) (hJ : J < N) (hv : f J = v) {pc' : Nat} (hp : pc + 1 = pc') (k' : KGo p e below K T m pc' Ls (v :: st)) : KGo p e below K T m pc Ls (.int j :: .ref a :: st) := by
  subst hp hv
  obtain ⟨s', L, X, B, hZ, hown, eT, r1⟩ := P
  obtain ⟨cl, A, -, S, hN, H⟩ := V
  obtain ⟨q1, q2⟩ := k_idx hj (S.symm ▸ hJ)
  exact k'.step fun t q => X.baloadBytes C.1 (by rw [eT]; exact A.1) (State.isArrayOf_alike hZ.alike A.2.1) A.2.2 q1 (by rw [q2]; exact H J hJ) (g := mkF m pc Ls (.int j :: .ref a :: st)) rfl rfl (hb C.cdE hd) t q
theorem k_daload {k : ClassId} {N J : Nat} {f : Nat → Value} {j : Int32} {v : Value} (C : KCx tbl nm cod ml ret p meth c Z a0) (P : KPos wd p l e R s m args below meth c Z own n0 h0 ws T h cells slots) (V : KVA Z h a k .double N f) (hd : decode cod pc = .ok (.daload, 1)) (hj : j.toInt = (J : Int)) (hJ : J < N) (hv : f J = v) {pc' : Nat} (hp : pc + 1 = pc') (k' : KGo p e below K T m pc' Ls (v :: st)) : KGo p e below K T m pc Ls (.int j :: .ref a :: st) := by
  subst hp hv
  obtain ⟨s', L, X, B, hZ, hown, eT, r1⟩ := P
  obtain ⟨cl, A, -, S, hN, H⟩ := V
  obtain ⟨q1, q2⟩ := k_idx hj (S.symm ▸ hJ)
  exact k'.step fun t q => X.daload C.1 (by rw [eT]; exact A.1) (State.isArrayOf_alike hZ.alike A.2.1) A.2.2 q1 (by rw [q2]; exact H J hJ) (g := mkF m pc Ls (.int j :: .ref a :: st)) rfl rfl (hb C.cdE hd) t q
theorem k_aaload {k : ClassId} {ty : FieldType} {N J : Nat} {f : Nat → Value} {j : Int32} {v : Value} (C : KCx tbl nm cod ml ret p meth c Z a0) (P : KPos wd p l e R s m args below meth c Z own n0 h0 ws T h cells slots) (V : KVA Z h a k ty N f) (hty : ty.isReference = true) (hd : decode cod pc = .ok (.aaload, 1)) (hj : j.toInt = (J : Int)) (hJ : J < N) (hv : f J = v) {pc' : Nat} (hp : pc + 1 = pc') (k' : KGo p e below K T m pc' Ls (v :: st)) : KGo p e below K T m pc Ls (.int j :: .ref a :: st) := by
  subst hp hv
  obtain ⟨s', L, X, B, hZ, hown, eT, r1⟩ := P
  obtain ⟨cl, A, -, S, hN, H⟩ := V
  obtain ⟨q1, q2⟩ := k_idx hj (S.symm ▸ hJ)
  exact k'.step fun t q => X.aaload C.1 (by rw [eT]; exact A.1) (State.isArrayOf_alike hZ.alike A.2.1) hty A.2.2 q1 (by rw [q2]; exact H J hJ) (g := mkF m pc Ls (.int j :: .ref a :: st)) rfl rfl (hb C.cdE hd) t q
theorem k_iastore {k : ClassId} {N J : Nat} {f g' : Nat → Value} {j : Int32} {x : Int32} (C : KCx tbl nm cod ml ret p meth c Z a0) (P : KPos wd p l e R s m args below meth c Z own n0 h0 ws T h cells slots) (V : KVA Z h a k .int N f) (hd : decode cod pc = .ok (.iastore, 1)) (hj : j.toInt = (J : Int)) (hJ : J < N) (hg' : ∀ i, i < N → (if i = J then (.int x : Value) else f i) = g' i) (ha : n0 ≤ a) (hk : a ∈ ws ∨ h0.size ≤ a) {pc' : Nat} (hp : pc + 1 = pc') (k' : ∀ T' h', KPos wd p l e R s m args below meth c Z own n0 h0 ws T' h' cells slots → Wr h h' a J (.int x) → KVA Z h' a k .int N g' → KGo p e below K T' m pc' Ls st) : KGo p e below K T m pc Ls (.int x :: .int j :: .ref a :: st) := by
  subst hp
  obtain ⟨s', Lo, X, B, hZ, hown, eT, r1, r2, r3⟩ := P
  have V0 := V
  obtain ⟨cl, A, -, S, hN, H⟩ := V
  obtain ⟨q1, q2⟩ := k_idx hj (S.symm ▸ hJ)
  obtain ⟨T', h', X', e', W, stp⟩ := stI X C.1 hZ eT A q1 (g := mkF m pc Ls (.int x :: .int j :: .ref a :: st)) rfl rfl (hb C.cdE hd)
  have W' := W
  rw [q2] at W'
  exact (k' T' h' ⟨s', _, X', B.mono (Nat.le_of_eq W.size.symm), hZ, hown, e', W.size ▸ r1, Fr.snoc X' r2 ha, r3.wr W hk⟩ W' (V0.set W' hg')).step stp
theorem k_lastore {k : ClassId} {N J : Nat} {f g' : Nat → Value} {j : Int32} {x : Int64} (C : KCx tbl nm cod ml ret p meth c Z a0) (P : KPos wd p l e R s m args below meth c Z own n0 h0 ws T h cells slots) (V : KVA Z h a k .long N f) (hd : decode cod pc = .ok (.lastore, 1)) (hj : j.toInt = (J : Int)) (hJ : J < N) (hg' : ∀ i, i < N → (if i = J then (.long x : Value) else f i) = g' i) (ha : n0 ≤ a) (hk : a ∈ ws ∨ h0.size ≤ a) {pc' : Nat} (hp : pc + 1 = pc') (k' : ∀ T' h', KPos wd p l e R s m args below meth c Z own n0 h0 ws T' h' cells slots → Wr h h' a J (.long x) → KVA Z h' a k .long N g' → KGo p e below K T' m pc' Ls st) : KGo p e below K T m pc Ls (.long x :: .int j :: .ref a :: st) := by
  subst hp
  obtain ⟨s', Lo, X, B, hZ, hown, eT, r1, r2, r3⟩ := P
  have V0 := V
  obtain ⟨cl, A, -, S, hN, H⟩ := V
  obtain ⟨q1, q2⟩ := k_idx hj (S.symm ▸ hJ)
  obtain ⟨T', h', X', e', W, stp⟩ := stJ X C.1 hZ eT A q1 (g := mkF m pc Ls (.long x :: .int j :: .ref a :: st)) rfl rfl (hb C.cdE hd)
  have W' := W
  rw [q2] at W'
  exact (k' T' h' ⟨s', _, X', B.mono (Nat.le_of_eq W.size.symm), hZ, hown, e', W.size ▸ r1, Fr.snoc X' r2 ha, r3.wr W hk⟩ W' (V0.set W' hg')).step stp
theorem k_castore {k : ClassId} {N J : Nat} {f g' : Nat → Value} {j : Int32} {x : Int32} (C : KCx tbl nm cod ml ret p meth c Z a0) (P : KPos wd p l e R s m args below meth c Z own n0 h0 ws T h cells slots) (V : KVA Z h a k .char N f) (hd : decode cod pc = .ok (.castore, 1)) (hj : j.toInt = (J : Int)) (hJ : J < N) (hg' : ∀ i, i < N → (if i = J then (.int (nar .char x) : Value) else f i) = g' i) (ha : n0 ≤ a) (hk : a ∈ ws ∨ h0.size ≤ a) {pc' : Nat} (hp : pc + 1 = pc') (k' : ∀ T' h', KPos wd p l e R s m args below meth c Z own n0 h0 ws T' h' cells slots → Wr h h' a J (.int (nar .char x)) → KVA Z h' a k .char N g' → KGo p e below K T' m pc' Ls st) : KGo p e below K T m pc Ls (.int x :: .int j :: .ref a :: st) := by
  subst hp
  obtain ⟨s', Lo, X, B, hZ, hown, eT, r1, r2, r3⟩ := P
  have V0 := V
  obtain ⟨cl, A, -, S, hN, H⟩ := V
  obtain ⟨q1, q2⟩ := k_idx hj (S.symm ▸ hJ)
  obtain ⟨T', h', X', e', W, stp⟩ := stC X C.1 hZ eT A q1 (g := mkF m pc Ls (.int x :: .int j :: .ref a :: st)) rfl rfl (hb C.cdE hd)
  have W' := W
  rw [q2] at W'
  exact (k' T' h' ⟨s', _, X', B.mono (Nat.le_of_eq W.size.symm), hZ, hown, e', W.size ▸ r1, Fr.snoc X' r2 ha, r3.wr W hk⟩ W' (V0.set W' hg')).step stp
theorem k_bastore {k : ClassId} {N J : Nat} {f g' : Nat → Value} {j : Int32} {x : Int32} (C : KCx tbl nm cod ml ret p meth c Z a0) (P : KPos wd p l e R s m args below meth c Z own n0 h0 ws T h cells slots) (V : KVA Z h a k .byte N f) (hd : decode cod pc = .ok (.bastore, 1)) (hj : j.toInt = (J : Int)) (hJ : J < N) (hg' : ∀ i, i < N → (if i = J then (.int (nar .byte x) : Value) else f i) = g' i) (ha : n0 ≤ a) (hk : a ∈ ws ∨ h0.size ≤ a) {pc' : Nat} (hp : pc + 1 = pc') (k' : ∀ T' h', KPos wd p l e R s m args below meth c Z own n0 h0 ws T' h' cells slots → Wr h h' a J (.int (nar .byte x)) → KVA Z h' a k .byte N g' → KGo p e below K T' m pc' Ls st) : KGo p e below K T m pc Ls (.int x :: .int j :: .ref a :: st) := by
  subst hp
  obtain ⟨s', Lo, X, B, hZ, hown, eT, r1, r2, r3⟩ := P
  have V0 := V
  obtain ⟨cl, A, -, S, hN, H⟩ := V
  obtain ⟨q1, q2⟩ := k_idx hj (S.symm ▸ hJ)
  obtain ⟨T', h', X', e', W, stp⟩ := stB X C.1 hZ eT A q1 (g := mkF m pc Ls (.int x :: .int j :: .ref a :: st)) rfl rfl (hb C.cdE hd)
  have W' := W
  rw [q2] at W'
  exact (k' T' h' ⟨s', _, X', B.mono (Nat.le_of_eq W.size.symm), hZ, hown, e', W.size ▸ r1, Fr.snoc X' r2 ha, r3.wr W hk⟩ W' (V0.set W' hg')).step stp
theorem k_dastore {k : ClassId} {N J : Nat} {f g' : Nat → Value} {j : Int32} {x : UInt64} (C : KCx tbl nm cod ml ret p meth c Z a0) (P : KPos wd p l e R s m args below meth c Z own n0 h0 ws T h cells slots) (V : KVA Z h a k .double N f) (hd : decode cod pc = .ok (.dastore, 1)) (hj : j.toInt = (J : Int)) (hJ : J < N) (hg' : ∀ i, i < N → (if i = J then (.double x : Value) else f i) = g' i) (ha : n0 ≤ a) (hk : a ∈ ws ∨ h0.size ≤ a) {pc' : Nat} (hp : pc + 1 = pc') (k' : ∀ T' h', KPos wd p l e R s m args below meth c Z own n0 h0 ws T' h' cells slots → Wr h h' a J (.double x) → KVA Z h' a k .double N g' → KGo p e below K T' m pc' Ls st) : KGo p e below K T m pc Ls (.double x :: .int j :: .ref a :: st) := by
  subst hp
  obtain ⟨s', Lo, X, B, hZ, hown, eT, r1, r2, r3⟩ := P
  have V0 := V
  obtain ⟨cl, A, -, S, hN, H⟩ := V
  obtain ⟨q1, q2⟩ := k_idx hj (S.symm ▸ hJ)
  obtain ⟨T', h', X', e', W, stp⟩ := stD X C.1 hZ eT A q1 (g := mkF m pc Ls (.double x :: .int j :: .ref a :: st)) rfl rfl (hb C.cdE hd)
  have W' := W
  rw [q2] at W'
  exact (k' T' h' ⟨s', _, X', B.mono (Nat.le_of_eq W.size.symm), hZ, hown, e', W.size ▸ r1, Fr.snoc X' r2 ha, r3.wr W hk⟩ W' (V0.set W' hg')).step stp
theorem k_aastore {k : ClassId} {ty : FieldType} {N J : Nat} {f g' : Nat → Value} {j : Int32} {x : Value} (C : KCx tbl nm cod ml ret p meth c Z a0) (P : KPos wd p l e R s m args below meth c Z own n0 h0 ws T h cells slots) (V : KVA Z h a k ty N f) (hty : ty.isReference = true) (S0 : Sto Z h a x) (hd : decode cod pc = .ok (.aastore, 1)) (hj : j.toInt = (J : Int)) (hJ : J < N) (hg' : ∀ i, i < N → (if i = J then x else f i) = g' i) (ha : n0 ≤ a) (hk : a ∈ ws ∨ h0.size ≤ a) {pc' : Nat} (hp : pc + 1 = pc') (k' : ∀ T' h', KPos wd p l e R s m args below meth c Z own n0 h0 ws T' h' cells slots → Wr h h' a J x → KVA Z h' a k ty N g' → KGo p e below K T' m pc' Ls st) : KGo p e below K T m pc Ls (x :: .int j :: .ref a :: st) := by
  subst hp
  obtain ⟨s', Lo, X, B, hZ, hown, eT, r1, r2, r3⟩ := P
  have V0 := V
  obtain ⟨cl, A, -, S, hN, H⟩ := V
  obtain ⟨q1, q2⟩ := k_idx hj (S.symm ▸ hJ)
  obtain ⟨T', h', X', e', W, stp⟩ := stR X C.1 hZ eT A q1 hty S0 (g := mkF m pc Ls (x :: .int j :: .ref a :: st)) rfl rfl (hb C.cdE hd)
  have W' := W
  rw [q2] at W'
  exact (k' T' h' ⟨s', _, X', B.mono (Nat.le_of_eq W.size.symm), hZ, hown, e', W.size ▸ r1, Fr.snoc X' r2 ha, r3.wr W hk⟩ W' (V0.set W' hg')).step stp
theorem KVA.sto {k : ClassId} {N : Nat} {f : Nat → Value} {Cn K1 : String} {ty : FieldType} (V : KVA Z h a k ty N f) (O : Ovr Z k Cn) (I : Ins Z h b Cn true) : Sto Z h a (.ref b) := by
  obtain ⟨cl, A, q, -⟩ := V; exact Sto.ofV A q O I
theorem KVA.stoA {k : ClassId} {N : Nat} {f : Nat → Value} {Cn : String} {ty t0 : FieldType} (V : KVA Z h a k t0 N f) (O : OvrA Z k ty Cn) (I : Ins Z h b Cn true) : Sto Z h a (.ref b) := by
  obtain ⟨cl, A, q, -⟩ := V; exact Sto.ofVA A q O I
theorem k_ldcI {index : Nat} {z : Int32} (C : KCx tbl nm cod ml ret p meth c Z a0) (P : KPos wd p l e R s m args below meth c Z own n0 h0 ws T h cells slots) (w : (Jvm.Cond.constant own index z).before a0 Z = true) (hd : decode cod pc = .ok (.ldc index, 2)) {pc' : Nat} (hp : pc + 2 = pc') (k' : KGo p e below K T m pc' Ls (.int z :: st)) : KGo p e below K T m pc Ls st := by
  subst hp
  obtain ⟨s', L, X, B, hZ, hown, eT, r1⟩ := P
  exact k'.step fun t q => X.ldcInt C.1 hown (mvT hZ w) (g := mkF m pc Ls st) rfl (hb C.cdE hd) t q
theorem k_ldc2L {index : Nat} {z : Int64} (C : KCx tbl nm cod ml ret p meth c Z a0) (P : KPos wd p l e R s m args below meth c Z own n0 h0 ws T h cells slots) (w : (Jvm.Cond.constantLong own index z).before a0 Z = true) (hd : decode cod pc = .ok (.ldc2_w index, 3)) {pc' : Nat} (hp : pc + 3 = pc') (k' : KGo p e below K T m pc' Ls (.long z :: st)) : KGo p e below K T m pc Ls st := by
  subst hp
  obtain ⟨s', L, X, B, hZ, hown, eT, r1⟩ := P
  exact k'.step fun t q => X.ldc2Long C.1 hown (mvT hZ w) (g := mkF m pc Ls st) rfl (hb C.cdE hd) t q
theorem k_ldc2D {index : Nat} {z : UInt64} (C : KCx tbl nm cod ml ret p meth c Z a0) (P : KPos wd p l e R s m args below meth c Z own n0 h0 ws T h cells slots) (w : (Jvm.Cond.constantDouble own index z).before a0 Z = true) (hd : decode cod pc = .ok (.ldc2_w index, 3)) {pc' : Nat} (hp : pc + 3 = pc') (k' : KGo p e below K T m pc' Ls (.double z :: st)) : KGo p e below K T m pc Ls st := by
  subst hp
  obtain ⟨s', L, X, B, hZ, hown, eT, r1⟩ := P
  exact k'.step fun t q => X.ldc2DoubleC C.1 hown (mvT hZ w) (g := mkF m pc Ls st) rfl (hb C.cdE hd) t q
theorem k_castO {Kn : String} {index : Nat} (C : KCx tbl nm cod ml ret p meth c Z a0) (P : KPos wd p l e R s m args below meth c Z own n0 h0 ws T h cells slots) (w : (Jvm.Cond.classLink own index Kn).before a0 Z = true) (F : Ins Z h a Kn true) (hd : decode cod pc = .ok (.checkcast index, 3)) {pc' : Nat} (hp : pc + 3 = pc') (k' : ∀ T', KPos wd p l e R s m args below meth c Z own n0 h0 ws T' h cells slots → KGo p e below K T' m pc' Ls (.ref a :: st)) : KGo p e below K T m pc Ls (.ref a :: st) := by
  subst hp
  obtain ⟨s', L, X, B, hZ, hown, eT, r1⟩ := P
  obtain ⟨T', X', e', stp⟩ := castY X C.1 hZ hown w eT F (g := mkF m pc Ls (.ref a :: st)) rfl rfl (hb C.cdE hd)
  exact (k' T' ⟨s', L, X', B, hZ, hown, e', r1⟩).step stp
/-! ### calls -/
theorem k_initObj {index W : Nat} (C : KCx tbl nm cod ml ret p meth c Z a0) (P : KPos wd p l e R s m args below meth c Z own n0 h0 ws T h cells slots) (w1 : (Jvm.Cond.methodLink own index Lib.objectInit).before a0 Z = true) (w2 : (Jvm.Cond.instanceMethod Lib.objectInit).before a0 Z = true) (w3 : (Jvm.Cond.code Lib.objectInit ⟨#[0xb1]⟩ 1 none).before a0 Z = true)
    (hd : decode cod pc = .ok (.invokespecial index, 3)) (hsz : Ls.size = ml) (hf : 1 ≤ R.frames) (hW : (st.map fun v => v.category).sum ≤ W) (hl : W + 12 ≤ R.locals) {pc' : Nat} (hp : pc + 3 = pc') (k' : ∀ T', KPos wd p l e R s m args below meth c Z own n0 h0 ws T' h cells slots → KGo p e below K T' m pc' Ls st) : KGo p e below K T m pc Ls (.ref a :: st) := by
  subst hp
  obtain ⟨s', L, X, B, hZ, hown, eT, r1⟩ := P
  obtain ⟨T', X', e', stp⟩ := initO X C.1 hZ hown w1 w2 w3 eT (g := mkF m pc Ls (.ref a :: st)) rfl (hsz.trans C.mlE.symm) rfl (hb C.cdE hd) hf (by show 2 * 0 + _ ≤ _; rw [Nat.mul_zero, Nat.zero_add]; exact hW) hl
  exact (k' T' ⟨s', L, X', B, hZ, hown, e', r1⟩).step stp
theorem k_callN {y : MethodName} {index W maxL : Nat} {bytes : ByteArray} {rm : Room} {as : Array Value} {ws' : List Addr} {Q : Option Value → Heap → Prop} (C : KCx tbl nm cod ml ret p meth c Z a0) (P : KPos wd p l e R s m args below meth c Z own n0 h0 ws T h cells slots)
    (hy1 : y.name = "<init>") (w1 : (Jvm.Cond.methodLink own index y).before a0 Z = true) (w2 : (Jvm.Cond.instanceMethod y).before a0 Z = true) (w3 : (Jvm.Cond.code y bytes maxL none).before a0 Z = true) (w4 : (Jvm.Cond.initialized y.cls).before a0 Z = true) (hy : y.cls ≠ "java/lang/invoke/MethodHandle" ∧ y.cls ≠ "java/lang/invoke/VarHandle")
    (hM : KCt false l y bytes maxL none rm Z n0 h as ws' Q) (a : Addr) (argsL rest : List Value) (has : as = (.ref a :: argsL).toArray) (hlen : ∀ sig, parseMethodDescriptor y.desc = some sig → argsL.length = sig.parameters.length) (hst : st = argsL.reverse ++ .ref a :: rest) (hW : (rest.map fun v => v.category).sum ≤ W)
    (hd : decode cod pc = .ok (.invokespecial index, 3)) (hsz : Ls.size = ml) (hf : rm.frames + 1 ≤ R.frames) (hl : W + (maxL + 11) + rm.locals ≤ R.locals) {cells' slots' : Nat} (hc : cells + rm.cells = cells') (hs : slots + rm.slots = slots') (hc' : cells' ≤ R.cells) (hs' : slots' ≤ R.slots) (hws : ∀ x ∈ ws', x ∈ ws ∨ h0.size ≤ x) {pc' : Nat} (hp : pc + 3 = pc')
    (k' : ∀ T' h' v, KPos wd p l e R s m args below meth c Z own n0 h0 ws T' h' cells' slots' → Keep h h' ws' → Q v h' → KGo p e below K T' m pc' Ls (v.toList ++ rest)) : KGo p e below K T m pc Ls st := by
  subst hp hc hs has
  obtain ⟨s', L, X, B, hZ, hown, eT, r1, r2, r3⟩ := P
  obtain ⟨v, _, ⟨T', L', k1, n1⟩, -, X', ⟨Lc, ⟨q1, q2, q3⟩, l1, y1, z1⟩, stp⟩ := X.specialBack C.1 (y := y) hy1 hown (mvT hZ w1) (mvT hZ w2) (mvT hZ w3) hy (backOf (W := W) (Q := fun v h' L => Fr n0 L ∧ Keep h h' ws' ∧ Q v h') hM.plain hZ w3 w4 hf hl) (g := mkF m pc Ls st) rfl (hsz.trans C.mlE.symm) (Steps.refl _) (a := a) (argsL := argsL) (rest := rest) hlen hst (by show 2 * 0 + _ ≤ _; rw [Nat.mul_zero, Nat.zero_add]; exact hW) (hb C.cdE hd) (fun _ _ => ⟨rfl, eT, hc', hs'⟩)
  dsimp only [Pt.U, Pt.locs, Pt.cells, Pt.slots] at X' l1 y1 z1 stp q2 q3
  subst l1 y1 z1
  exact (k' T' T'.heap v ⟨s', _, X', B.mono q2.1, hZ, hown, rfl, Nat.le_trans r1 q2.1, Fr.app r2 q1, r3.trans q2 hws⟩ q2 q3).step fun t q => stp.trans q
theorem k_callV {y z : MethodName} {Cn : String} {index W maxL : Nat} {bytes : ByteArray} {rt : Option FieldType} {rm : Room} {as : Array Value} {ws' : List Addr} {Q : Option Value → Heap → Prop} (C : KCx tbl nm cod ml ret p meth c Z a0) (P : KPos wd p l e R s m args below meth c Z own n0 h0 ws T h cells slots)
    (w1 : (Jvm.Cond.methodLink own index y).before a0 Z = true) (wdc : (Jvm.Cond.declares y).before a0 Z = true) (nf : ∀ s' : State, Z.Warmed39 s'.vm → NotFace s' y) (wsel : (Jvm.Cond.selects Cn y z).before a0 Z = true) (w2 : (Jvm.Cond.instanceMethod z).before a0 Z = true) (w3 : (Jvm.Cond.code z bytes maxL rt).before a0 Z = true) (w4 : (Jvm.Cond.initialized z.cls).before a0 Z = true) (hy : y.cls ≠ "java/lang/invoke/MethodHandle" ∧ y.cls ≠ "java/lang/invoke/VarHandle")
    (hM : KCt false l z bytes maxL rt rm Z n0 h as ws' Q) (E : Exa Z h a Cn) (argsL rest : List Value) (has : as = (.ref a :: argsL).toArray) (hlen : ∀ sig, parseMethodDescriptor y.desc = some sig → argsL.length = sig.parameters.length) (hst : st = argsL.reverse ++ .ref a :: rest) (hW : (rest.map fun v => v.category).sum ≤ W)
    (hd : decode cod pc = .ok (.invokevirtual index, 3)) (hsz : Ls.size = ml) (hf : rm.frames + 1 ≤ R.frames) (hl : W + (maxL + 11) + rm.locals ≤ R.locals) {cells' slots' : Nat} (hc : cells + rm.cells = cells') (hs : slots + rm.slots = slots') (hc' : cells' ≤ R.cells) (hs' : slots' ≤ R.slots) (hws : ∀ x ∈ ws', x ∈ ws ∨ h0.size ≤ x) {pc' : Nat} (hp : pc + 3 = pc')
    (k' : ∀ T' h' v, KPos wd p l e R s m args below meth c Z own n0 h0 ws T' h' cells' slots' → Keep h h' ws' → Q v h' → KGo p e below K T' m pc' Ls (v.toList ++ rest)) : KGo p e below K T m pc Ls st := by
  subst hp hc hs has
  obtain ⟨s', L, X, B, hZ, hown, eT, r1, r2, r3⟩ := P
  obtain ⟨cq, kq, qa, qb, qc⟩ := isOf hZ eT E
  obtain ⟨v, _, ⟨T', L', k1, n1⟩, -, X', ⟨Lc, ⟨q1, q2, q3⟩, l1, y1, z1⟩, stp⟩ := X.virtualBack C.1 (y := y) (z := z) hown (mvT hZ w1) (mvT hZ wdc) (nf s' hZ) (mvT hZ wsel) (mvT hZ w2) hy (backOf (W := W) (Q := fun v h' L => Fr n0 L ∧ Keep h h' ws' ∧ Q v h') hM.plain hZ w3 w4 hf hl) qa qc (g := mkF m pc Ls st) rfl (hsz.trans C.mlE.symm) (Steps.refl _) (argsL := argsL) (rest := rest) hlen hst (by show 2 * 0 + _ ≤ _; rw [Nat.mul_zero, Nat.zero_add]; exact hW) (hb C.cdE hd) (fun _ _ => ⟨rfl, eT, hc', hs'⟩)
  dsimp only [Pt.U, Pt.locs, Pt.cells, Pt.slots] at X' l1 y1 z1 stp q2 q3
  subst l1 y1 z1
  exact (k' T' T'.heap v ⟨s', _, X', B.mono q2.1, hZ, hown, rfl, Nat.le_trans r1 q2.1, Fr.app r2 q1, r3.trans q2 hws⟩ q2 q3).step fun t q => stp.trans q
theorem k_callI {xi y : MethodName} {Cn : String} {index count W maxL : Nat} {bytes : ByteArray} {rt : Option FieldType} {rm : Room} {as : Array Value} {ws' : List Addr} {Q : Option Value → Heap → Prop} (C : KCx tbl nm cod ml ret p meth c Z a0) (P : KPos wd p l e R s m args below meth c Z own n0 h0 ws T h cells slots)
    (w1 : (Jvm.Cond.methodLink own index xi).before a0 Z = true) (wdc : (Jvm.Cond.declares xi).before a0 Z = true) (wf : (Jvm.Cond.interfaceMethod xi.cls xi.cls xi.name xi.desc).before a0 Z = true) (wsel : (Jvm.Cond.selects Cn xi y).before a0 Z = true) (w2 : (Jvm.Cond.instanceMethod y).before a0 Z = true) (wp : (Jvm.Cond.publicMethod y).before a0 Z = true) (wu : (Jvm.Cond.unhidden Cn xi.name xi.desc).before a0 Z = true) (wc : (Jvm.Cond.castable Cn xi.cls).before a0 Z = true)
    (w3 : (Jvm.Cond.code y bytes maxL rt).before a0 Z = true) (w4 : (Jvm.Cond.initialized y.cls).before a0 Z = true) (hy : xi.cls ≠ "java/lang/invoke/MethodHandle" ∧ xi.cls ≠ "java/lang/invoke/VarHandle")
    (hM : KCt false l y bytes maxL rt rm Z n0 h as ws' Q) (E : Exa Z h a Cn) (argsL rest : List Value) (has : as = (.ref a :: argsL).toArray) (hlen : ∀ sig, parseMethodDescriptor xi.desc = some sig → argsL.length = sig.parameters.length) (hst : st = argsL.reverse ++ .ref a :: rest) (hW : (rest.map fun v => v.category).sum ≤ W)
    (hd : decode cod pc = .ok (.invokeinterface index count, 5)) (hsz : Ls.size = ml) (hf : rm.frames + 1 ≤ R.frames) (hl : W + (maxL + 11) + rm.locals ≤ R.locals) {cells' slots' : Nat} (hc : cells + rm.cells = cells') (hs : slots + rm.slots = slots') (hc' : cells' ≤ R.cells) (hs' : slots' ≤ R.slots) (hws : ∀ x ∈ ws', x ∈ ws ∨ h0.size ≤ x) {pc' : Nat} (hp : pc + 5 = pc')
    (k' : ∀ T' h' v, KPos wd p l e R s m args below meth c Z own n0 h0 ws T' h' cells' slots' → Keep h h' ws' → Q v h' → KGo p e below K T' m pc' Ls (v.toList ++ rest)) : KGo p e below K T m pc Ls st := by
  subst hp hc hs has
  obtain ⟨s', L, X, B, hZ, hown, eT, r1, r2, r3⟩ := P
  obtain ⟨cq, kq, qa, qb, qc⟩ := isOf hZ eT E
  obtain ⟨v, _, ⟨T', L', k1, n1⟩, -, X', ⟨Lc, ⟨q1, q2, q3⟩, l1, y1, z1⟩, stp⟩ := X.interfaceBack C.1 (xi := xi) (y := y) hown (mvT hZ w1) (mvT hZ wdc) (mvT hZ wf (by simp [Cond.onTables, Cond.keepsFace, Cond.faceAtom, hy.1, hy.2])) (mvT hZ wsel) (mvT hZ w2) (mvT hZ wp) (mvT hZ wu) (mvT hZ wc) hy (backOf (W := W) (Q := fun v h' L => Fr n0 L ∧ Keep h h' ws' ∧ Q v h') hM.plain hZ w3 w4 hf hl) qa qb qc (g := mkF m pc Ls st) rfl (hsz.trans C.mlE.symm) (Steps.refl _) (argsL := argsL) (rest := rest) hlen hst (by show 2 * 0 + _ ≤ _; rw [Nat.mul_zero, Nat.zero_add]; exact hW) (hb C.cdE hd) (fun _ _ => ⟨rfl, eT, hc', hs'⟩)
  dsimp only [Pt.U, Pt.locs, Pt.cells, Pt.slots] at X' l1 y1 z1 stp q2 q3
  subst l1 y1 z1
  exact (k' T' T'.heap v ⟨s', _, X', B.mono q2.1, hZ, hown, rfl, Nat.le_trans r1 q2.1, Fr.app r2 q1, r3.trans q2 hws⟩ q2 q3).step fun t q => stp.trans q
theorem k_callP {y : MethodName} {Cn : String} {index W maxL : Nat} {bytes : ByteArray} {rt : Option FieldType} {rm : Room} {as : Array Value} {ws' : List Addr} {Q : Option Value → Heap → Prop} (C : KCx tbl nm cod ml ret p meth c Z a0) (P : KPos wd p l e R s m args below meth c Z own n0 h0 ws T h cells slots)
    (w1 : (Jvm.Cond.methodLink own index y).before a0 Z = true) (w2 : (Jvm.Cond.instanceMethod y).before a0 Z = true) (wsel : (Jvm.Cond.selects y.cls y y).before a0 Z = true) (wp : (Jvm.Cond.privateMethod y).before a0 Z = true) (w3 : (Jvm.Cond.code y bytes maxL rt).before a0 Z = true) (w4 : (Jvm.Cond.initialized y.cls).before a0 Z = true) (hy : y.cls ≠ "java/lang/invoke/MethodHandle" ∧ y.cls ≠ "java/lang/invoke/VarHandle")
    (hM : KCt false l y bytes maxL rt rm Z n0 h as ws' Q) (E : Exa Z h a Cn) (argsL rest : List Value) (has : as = (.ref a :: argsL).toArray) (hlen : ∀ sig, parseMethodDescriptor y.desc = some sig → argsL.length = sig.parameters.length) (hst : st = argsL.reverse ++ .ref a :: rest) (hW : (rest.map fun v => v.category).sum ≤ W)
    (hd : decode cod pc = .ok (.invokevirtual index, 3)) (hsz : Ls.size = ml) (hf : rm.frames + 1 ≤ R.frames) (hl : W + (maxL + 11) + rm.locals ≤ R.locals) {cells' slots' : Nat} (hc : cells + rm.cells = cells') (hs : slots + rm.slots = slots') (hc' : cells' ≤ R.cells) (hs' : slots' ≤ R.slots) (hws : ∀ x ∈ ws', x ∈ ws ∨ h0.size ≤ x) {pc' : Nat} (hp : pc + 3 = pc')
    (k' : ∀ T' h' v, KPos wd p l e R s m args below meth c Z own n0 h0 ws T' h' cells' slots' → Keep h h' ws' → Q v h' → KGo p e below K T' m pc' Ls (v.toList ++ rest)) : KGo p e below K T m pc Ls st := by
  subst hp hc hs has
  obtain ⟨s', L, X, B, hZ, hown, eT, r1, r2, r3⟩ := P
  obtain ⟨cq, qa, qb⟩ := E.cell
  obtain ⟨v, _, ⟨T', L', k1, n1⟩, -, X', ⟨Lc, ⟨q1, q2, q3⟩, l1, y1, z1⟩, stp⟩ := X.privateBack C.1 (y := y) hown (mvT hZ w1) (mvT hZ w2) (mvT hZ wsel) (Cond.privateMethod_at (mvP hZ wp (args := #[]))) (mvT hZ w3) hy (backOf (W := W) (Q := fun v h' L => Fr n0 L ∧ Keep h h' ws' ∧ Q v h') hM.plain hZ w3 w4 hf hl) (g := mkF m pc Ls st) rfl (hsz.trans C.mlE.symm) (Steps.refl _) (a := a) (by rw [eT]; exact qa) qb (argsL := argsL) (rest := rest) hlen hst (by show 2 * 0 + _ ≤ _; rw [Nat.mul_zero, Nat.zero_add]; exact hW) (hb C.cdE hd) (fun _ _ => ⟨rfl, eT, hc', hs'⟩)
  dsimp only [Pt.U, Pt.locs, Pt.cells, Pt.slots] at X' l1 y1 z1 stp q2 q3
  subst l1 y1 z1
  exact (k' T' T'.heap v ⟨s', _, X', B.mono q2.1, hZ, hown, rfl, Nat.le_trans r1 q2.1, Fr.app r2 q1, r3.trans q2 hws⟩ q2 q3).step fun t q => stp.trans q
theorem k_callT {y : MethodName} {index W maxL : Nat} {bytes : ByteArray} {rt : Option FieldType} {rm : Room} {as : Array Value} {ws' : List Addr} {Q : Option Value → Heap → Prop} (C : KCx tbl nm cod ml ret p meth c Z a0) (P : KPos wd p l e R s m args below meth c Z own n0 h0 ws T h cells slots)
    (w1 : (Jvm.Cond.methodLink own index y).before a0 Z = true) (w2 : (Jvm.Cond.static y).before a0 Z = true) (w3 : (Jvm.Cond.code y bytes maxL rt).before a0 Z = true) (w4 : (Jvm.Cond.initialized y.cls).before a0 Z = true) (hy : y.cls ≠ "java/lang/invoke/MethodHandle" ∧ y.cls ≠ "java/lang/invoke/VarHandle")
    (hM : KCt false l y bytes maxL rt rm Z n0 h as ws' Q) (argsL rest : List Value) (has : as = argsL.toArray) (hlen : ∀ sig, parseMethodDescriptor y.desc = some sig → argsL.length = sig.parameters.length) (hst : st = argsL.reverse ++ rest) (hW : (rest.map fun v => v.category).sum ≤ W)
    (hd : decode cod pc = .ok (.invokestatic index, 3)) (hsz : Ls.size = ml) (hf : rm.frames + 1 ≤ R.frames) (hl : W + (maxL + 11) + rm.locals ≤ R.locals) {cells' slots' : Nat} (hc : cells + rm.cells = cells') (hs : slots + rm.slots = slots') (hc' : cells' ≤ R.cells) (hs' : slots' ≤ R.slots) (hws : ∀ x ∈ ws', x ∈ ws ∨ h0.size ≤ x) {pc' : Nat} (hp : pc + 3 = pc')
    (k' : ∀ T' h' v, KPos wd p l e R s m args below meth c Z own n0 h0 ws T' h' cells' slots' → Keep h h' ws' → Q v h' → KGo p e below K T' m pc' Ls (v.toList ++ rest)) : KGo p e below K T m pc Ls st := by
  subst hp hc hs has
  obtain ⟨s', L, X, B, hZ, hown, eT, r1, r2, r3⟩ := P
  obtain ⟨v, _, ⟨T', L', k1, n1⟩, -, X', ⟨Lc, ⟨q1, q2, q3⟩, l1, y1, z1⟩, stp⟩ := Jvm.LawKit.callS X C.1 (y := y) hown (mvT hZ w1) (mvT hZ w2) (mvT hZ w4) (mvT hZ w3) hy (backOf (W := W) (Q := fun v h' L => Fr n0 L ∧ Keep h h' ws' ∧ Q v h') hM.plain hZ w3 w4 hf hl) (g := mkF m pc Ls st) rfl (hsz.trans C.mlE.symm) (argsL := argsL) (rest := rest) hlen hst (by show 2 * 0 + _ ≤ _; rw [Nat.mul_zero, Nat.zero_add]; exact hW) (hb C.cdE hd) (fun _ _ => ⟨rfl, eT, hc', hs'⟩)
  dsimp only [Pt.U, Pt.locs, Pt.cells, Pt.slots] at X' l1 y1 z1 stp q2 q3
  subst l1 y1 z1
  exact (k' T' T'.heap v ⟨s', _, X', B.mono q2.1, hZ, hown, rfl, Nat.le_trans r1 q2.1, Fr.app r2 q1, r3.trans q2 hws⟩ q2 q3).step stp
theorem k_ldcS {index : Nat} {text : String} {n : Nat} (C : KCx tbl nm cod ml ret p meth c Z a0) (P : KPos true p l e R s m args below meth c Z own n0 h0 ws T h cells slots) (w : (Jvm.Cond.stringLink own index text).before a0 Z = true) (wS : ∀ a ∈ Bundle.stringAtoms, a.before a0 Z = true) (hd : decode cod pc = .ok (.ldc index, 2)) (hn : 4 * text.toList.length ≤ n) (hbig : n ≤ 536870912)
    {cells' slots' : Nat} (hc : cells + 2 = cells') (hs : slots + (n + 4) = slots') (hc' : cells' ≤ R.cells) (hs' : slots' ≤ R.slots) {pc' : Nat} (hp : pc + 2 = pc')
    (k' : ∀ T' h' a, KPos true p l e R s m args below meth c Z own n0 h0 ws T' h' cells' slots' → Ext h h' → KGo p e below K T' m pc' Ls (.ref a :: st)) : KGo p e below K T m pc Ls st := by
  subst hp hc hs
  obtain ⟨s', Lo, X, ⟨vm, k0, rfl, hS, hk0⟩, hZ, hown, eT, r1, r2, r3⟩ := P
  obtain ⟨a, T', h', k1, X', e', E, hS', hk1, hZ', hown', stp⟩ := ldcS X C.1 hZ hown w wS eT hS hk0 (g := mkF m pc Ls st) rfl (hb C.cdE hd) hn hbig hc' hs'
  exact (k' T' h' a ⟨s.setVm T'.vm, Lo, X', ⟨T'.vm, k1, rfl, hS', hk1⟩, hZ', hown', e', Nat.le_trans r1 E.1, r2, r3.ext E⟩ E).step stp
theorem k_newpE {aty : ArrayType} {ad : String} {z : Int32} {N cap : Nat} (C : KCx tbl nm cod ml ret p meth c Z a0) (P : KPos wd p l e R s m args below meth c Z own n0 h0 ws T h cells slots) (w : (Jvm.Cond.arrayClass (newarray.typeOf aty)).before a0 Z = true) (had : "[" ++ (newarray.typeOf aty).toString = ad) (hd : decode cod pc = .ok (.newarray aty, 2)) (hN : z.toInt = (N : Int)) (hcap : N ≤ cap) (hb8 : cap * 8 ≤ 536870912)
    {cells' slots' : Nat} (hc : cells + 1 = cells') (hs : slots + cap = slots') (hc' : cells' ≤ R.cells) (hs' : slots' ≤ R.slots) {pc' : Nat} (hp : pc + 2 = pc')
    (k' : ∀ T' h' a k, KPos wd p l e R s m args below meth c Z own n0 h0 ws T' h' cells' slots' → h.size = a → n0 ≤ a → h0.size ≤ a → Ext h h' → KVA Z h' a k (newarray.typeOf aty) N (fun _ => defaultValue (newarray.typeOf aty)) → Exa Z h' a ad → KGo p e below K T' m pc' Ls (.ref a :: st)) : KGo p e below K T m pc Ls (.int z :: st) := by
  subst hp hc hs
  obtain ⟨s', Lo, X, B, hZ, hown, eT, r1, r2, r3⟩ := P
  have e0 : ¬ z < 0 := by rw [Int32.lt_iff_toInt_lt]; have : (0 : Int32).toInt = 0 := rfl; omega
  have e1 : z.toNatClampNeg ≤ cap := by simp only [Int32.toNatClampNeg]; omega
  obtain ⟨T', h', kA, X', e', E, A, Ex, stp⟩ := newPE X C.1 hZ w eT (g := mkF m pc Ls (.int z :: st)) rfl (hb C.cdE hd) rfl e0 e1 hb8 hc' hs' had
  exact (k' T' h' _ kA ⟨s', _, X', B.mono E.1, hZ, hown, e', Nat.le_trans r1 E.1, r2, r3.ext E⟩ rfl r1 r3.1 E (KVA.new A hN) Ex).step stp
/-- an array's clone: its own, like it -/
theorem k_clone {ad : String} {index W N cap : Nat} {k : ClassId} {ty : FieldType} {f : Nat → Value} (C : KCx tbl nm cod ml ret p meth c Z a0) (P : KPos wd p l e R s m args below meth c Z own n0 h0 ws T h cells slots)
    (w1 : (Cond.methodLink own index ⟨ad, "clone", "()Ljava/lang/Object;"⟩).before a0 Z = true) (w2 : (Cond.sameMethod ad "java/lang/Object" "clone" "()Ljava/lang/Object;").before a0 Z = true) (w3 : (Cond.native ⟨"java/lang/Object", "clone", "()Ljava/lang/Object;"⟩).before a0 Z = true)
    (w4 : (Cond.instanceMethod ⟨"java/lang/Object", "clone", "()Ljava/lang/Object;"⟩).before a0 Z = true) (w5 : (Cond.selects ad ⟨ad, "clone", "()Ljava/lang/Object;"⟩ ⟨"java/lang/Object", "clone", "()Ljava/lang/Object;"⟩).before a0 Z = true) (w6 : (Cond.castable ad "java/lang/Cloneable").before a0 Z = true)
    (V : KVA Z h a k ty N f) (G : ∀ i, i < N → fits ty (f i) = true) (Ex : Exa Z h a ad) (hd : decode cod pc = .ok (.invokevirtual index, 3)) (hsz : Ls.size = ml) (hW : (st.map fun v => v.category).sum ≤ W) (hf : 1 ≤ R.frames) (hl : W + 14 ≤ R.locals) (hcap : N ≤ cap)
    {cells' slots' : Nat} (hc : cells + 1 = cells') (hs : slots + cap = slots') (hc' : cells' ≤ R.cells) (hs' : slots' ≤ R.slots) {pc' : Nat} (hp : pc + 3 = pc')
    (k' : ∀ T' h' b, KPos wd p l e R s m args below meth c Z own n0 h0 ws T' h' cells' slots' → h.size = b → n0 ≤ b → h0.size ≤ b → Ext h h' → KVA Z h' b k ty N f → Exa Z h' b ad → KGo p e below K T' m pc' Ls (.ref b :: st)) : KGo p e below K T m pc Ls (.ref a :: st) := by
  subst hp hc hs
  obtain ⟨s', Lo, X, B, hZ, hown, eT, r1, r2, r3⟩ := P
  obtain ⟨cl, A, q1, q2, q3, q4⟩ := V
  have FC : FitC Z cl := fitC_of A fun i hi v hv => by rw [q4 i (q2 ▸ hi)] at hv; cases hv; exact G i (q2 ▸ hi)
  obtain ⟨T', h', X', e', E, A', E', stp⟩ := cloneA X C.1 hZ hown w1 w2 w3 w4 w5 w6 eT A Ex FC (g := mkF m pc Ls (.ref a :: st)) rfl (hsz.trans C.mlE.symm) rfl (hb C.cdE hd) hf (by show 2 * 0 + _ ≤ _; rw [Nat.mul_zero, Nat.zero_add]; exact hW) hl (by rw [q2]; exact hcap) hc' hs'
  exact (k' T' h' _ ⟨s', _, X', B.mono E.1, hZ, hown, e', Nat.le_trans r1 E.1, r2, r3.ext E⟩ rfl r1 r3.1 E ⟨_, A', q1, q2, q3, q4⟩ E').step stp
theorem KVA.arv {k : ClassId} {ty : FieldType} {N : Nat} {f : Nat → Value} {z : Int32} (V : KVA Z h a k ty N f) (hz : z.toInt = (N : Int)) (G : ∀ i, i < N → fits ty (f i) = true) (dv : Value) : Arv Z h a k ty z ((List.range N).map f) dv := by
  obtain ⟨cl, A, q1, q2, q3, q4⟩ := V
  have e : z.toNatClampNeg = N := by simp only [Int32.toNatClampNeg]; omega
  have gd : ∀ i, i < N → ((List.range N).map f).getD i dv = f i := fun i hi => by simp [List.getD_eq_getElem?_getD, hi]
  refine ⟨cl, A, q1, by rw [q2, e], by rw [Int32.lt_iff_toInt_lt]; have : (0 : Int32).toInt = 0 := rfl; omega, fun i hi => ?_, fun i hi => ?_⟩
  · rw [gd i (q2 ▸ hi)]; exact q4 i (q2 ▸ hi)
  · rw [gd i (q2 ▸ hi)]; exact G i (q2 ▸ hi)
theorem KVA.of_arv {k : ClassId} {ty : FieldType} {N : Nat} {f : Nat → Value} {z : Int32} {vs : List Value} {dv : Value} (V : Arv Z h a k ty z vs dv) (hz : z.toInt = (N : Int)) (q : ∀ i, i < N → vs.getD i dv = f i) : KVA Z h a k ty N f := by
  obtain ⟨cl, A, q1, q2, q3, q4, -⟩ := V
  have e : z.toNatClampNeg = N := by simp only [Int32.toNatClampNeg]; omega
  have := Int32.toInt_lt z
  exact ⟨cl, A, q1, by rw [q2, e], by omega, fun i hi => by rw [← q i hi]; exact q4 i (by rw [q2, e]; exact hi)⟩
/-- System.arraycopy between arrays of one primitive kind -/
theorem k_acopy {index W N N' S D n : Nat} {k k1 : ClassId} {ty : FieldType} {f f' g' : Nat → Value} {sp dp nn : Int32} (C : KCx tbl nm cod ml ret p meth c Z a0) (P : KPos wd p l e R s m args below meth c Z own n0 h0 ws T h cells slots)
    (w1 : (Cond.methodLink own index Jvm.Stand.acN).before a0 Z = true) (w2 : (Cond.native Jvm.Stand.acN).before a0 Z = true) (w3 : (Cond.static Jvm.Stand.acN).before a0 Z = true) (w4 : (Cond.initialized "java/lang/System").before a0 Z = true)
    (A : KVA Z h a k ty N f) (B : KVA Z h b k1 ty N' f') (hty : refKind ty = false) (GA : ∀ i, i < N → fits ty (f i) = true) (GB : ∀ i, i < N' → fits ty (f' i) = true) (hS : sp.toInt = (S : Int)) (hD : dp.toInt = (D : Int)) (hn : nn.toInt = (n : Int)) (h4 : S + n ≤ N) (h5 : D + n ≤ N')
    (hg : ∀ i, i < N' → (if D ≤ i ∧ i < D + n then f (S + (i - D)) else f' i) = g' i) (hd : decode cod pc = .ok (.invokestatic index, 3)) (hsz : Ls.size = ml) (hW : (st.map fun v => v.category).sum ≤ W) (hf : 1 ≤ R.frames) (hlo : W + (nativeFrameWords "java/lang/System" "arraycopy" 5 + 11) ≤ R.locals) (hge : n0 ≤ b) (hwb : b ∈ ws ∨ h0.size ≤ b) {pc' : Nat} (hp : pc + 3 = pc')
    (k' : ∀ T' h', KPos wd p l e R s m args below meth c Z own n0 h0 ws T' h' cells slots → Keep h h' [b] → KVA Z h' b k1 ty N' g' → KGo p e below K T' m pc' Ls st) : KGo p e below K T m pc Ls (.int nn :: .int dp :: .ref b :: .int sp :: .ref a :: st) := by
  subst hp
  obtain ⟨s', Lo, X, Bs, hZ, hown, eT, r1, r2, r3⟩ := P
  have nat : ∀ {x : Int32} {M : Nat}, x.toInt = (M : Int) → ¬ x < 0 ∧ x.toNatClampNeg = M := fun {x M} q => ⟨by rw [Int32.lt_iff_toInt_lt]; have : (0 : Int32).toInt = 0 := rfl; omega, by simp only [Int32.toNatClampNeg]; omega⟩
  have zN : ∀ {M : Nat}, M < 2 ^ 31 → (Int32.ofNat M).toInt = (M : Int) := fun {M} q => by rw [Int32.toInt_ofNat_of_lt q]
  have bN : N < 2 ^ 31 := by obtain ⟨_, _, _, _, q, _⟩ := A; exact q
  have bN' : N' < 2 ^ 31 := by obtain ⟨_, _, _, _, q, _⟩ := B; exact q
  have e1 := nat hS; have e2 := nat hD; have e3 := nat hn; have e4 := nat (zN bN); have e5 := nat (zN bN')
  obtain ⟨T', h', L', X', e', F', Kp, V', stp⟩ := cpA X C.1 hZ hown w1 w2 w3 w4 eT (A.arv (zN bN) GA .null) (B.arv (zN bN') GB .null) (Or.inl ⟨rfl, hty⟩) e1.1 e2.1 e3.1 (by rw [e1.2, e3.2, e4.2]; exact h4) (by rw [e2.2, e3.2, e5.2]; exact h5) rfl (by rw [e2.2, e3.2]; simpa using h5) r2 hge (g := mkF m pc Ls (.int nn :: .int dp :: .ref b :: .int sp :: .ref a :: st)) rfl (hsz.trans C.mlE.symm) rfl (hb C.cdE hd) hf (by show 2 * 0 + _ ≤ _; rw [Nat.mul_zero, Nat.zero_add]; exact hW) hlo
  refine (k' T' h' ⟨s', _, X', Bs.mono Kp.1, hZ, hown, e', Nat.le_trans r1 Kp.1, F', r3.trans Kp (by intro x hx; rw [List.mem_singleton] at hx; subst hx; exact hwb)⟩ Kp (KVA.of_arv V' (zN bN') fun i hi => ?_)).step stp
  rw [← hg i hi, e1.2, e2.2, e3.2]
  by_cases q : D ≤ i ∧ i < D + n
  · rw [if_pos q, List.getD_eq_getElem?_getD, List.append_assoc, List.getElem?_append_right (by simp; omega), List.getElem?_append_left (by simp; omega)]
    simp only [List.length_take, List.length_map, List.length_range, Nat.min_eq_left (show D ≤ N' by omega)]
    rw [List.getElem?_map, List.getElem?_range (by omega)]
    simp only [Option.map_some, Option.getD_some, List.getD_eq_getElem?_getD]
    rw [List.getElem?_map, List.getElem?_range (by omega)]; rfl
  · rw [if_neg q, List.getD_eq_getElem?_getD, List.append_assoc]
    by_cases u : i < D
    · rw [List.getElem?_append_left (by simp; omega), List.getElem?_take_of_lt u, List.getElem?_map, List.getElem?_range hi]; rfl
    · rw [List.getElem?_append_right (by simp; omega), List.getElem?_append_right (by simp; omega)]
      simp only [List.length_take, List.length_map, List.length_range, Nat.min_eq_left (show D ≤ N' by omega), List.getElem?_drop]
      rw [show D + n + (i - D - n) = i by omega, List.getElem?_map, List.getElem?_range hi]; rfl
theorem k_selP {y : MethodName} {kk : Nat} (wi : (Jvm.Cond.instantiable y.cls kk).before a0 Z = true) (wp : (Jvm.Cond.privateMethod y).before a0 Z = true) (w2 : (Jvm.Cond.instanceMethod y).before a0 Z = true) (hy : y.cls ≠ "java/lang/invoke/MethodHandle" ∧ y.cls ≠ "java/lang/invoke/VarHandle") : (Jvm.Cond.selects y.cls y y).before a0 Z = true := by
  obtain ⟨c, k, h1, h2, -, h3, -⟩ := Cond.instantiable_spec wi
  exact selects_self_of_private h1 h2 (by simp at h3; exact h3.1) (Cond.privateMethod_at wp) w2 hy
theorem KCt.wide {y : MethodName} {rm : Room} {as : Array Value} {Q : Option Value → Heap → Prop} {ws' : List Addr} (k : KCt wd l y cod ml ret rm Z n0 h0 as ws Q) (hs : ∀ x ∈ ws, x ∈ ws') : KCt wd l y cod ml ret rm Z n0 h0 as ws' Q := by
  intro wsc p e h1 h2 h3 s m args below h4 h5 h6 h7
  obtain ⟨n, o, g1, g2, g3, v, L, g4, ⟨g5, g6, g7⟩, g8⟩ := k wsc p e h1 h2 h3 s m args below h4 h5 h6 h7
  exact ⟨n, o, g1, g2, g3, v, L, g4, ⟨g5, ⟨g6.1, fun x c q r => g6.2.1 x c q fun u => r (hs x u), g6.2.2⟩, g7⟩, g8⟩
theorem KVA.neT {k k1 : ClassId} {ty ty1 : FieldType} {N N1 : Nat} {f f1 : Nat → Value} (F : KVA Z h a k ty N f) (G : KVA Z h b k1 ty1 N1 f1) (hne : ty ≠ ty1) : a ≠ b := fun e => by
  subst e
  obtain ⟨c, A, -⟩ := F; obtain ⟨c1, A1, -⟩ := G
  cases A.1.symm.trans A1.1
  obtain ⟨-, k, hk, comp, hkind⟩ := A.2.1
  obtain ⟨-, k', hk', comp', hkind'⟩ := A1.2.1
  cases hk.symm.trans hk'
  rw [hkind] at hkind'; cases hkind'; exact hne rfl
/-- the ways from here to one place, made one (the heap unturned) -/
theorem k_join {pc' : Nat} {Ls' : Array Slot} {st' : List Value} (P : KPos wd p l e R s m args below meth c Z own n0 h0 ws T h cells slots)
    (f : (∀ T', KPos wd p l e R s m args below meth c Z own n0 h0 ws T' h cells slots → KGo p e below K T' m pc' Ls' st') → KGo p e below K T m pc Ls st)
    (k' : ∀ T', KPos wd p l e R s m args below meth c Z own n0 h0 ws T' h cells slots → KGo p e below K T' m pc' Ls' st') : KGo p e below K T m pc Ls st := f k'
theorem k_exaNs {Cn : String} (E : Exa Z h a Cn) : ∀ cell : Cell, h[a]? = some cell → cell.vm.isStatics = false := fun cell q => by
  obtain ⟨c', h1, h2⟩ := E.cell
  cases q.symm.trans h1
  cases e : cell.vm <;> first | rfl | exact absurd e (h2 _)
theorem KOb.ns {Cn : String} {lay : List (String × String × String)} {vs : List Value} (F : KOb Z h a Cn lay vs) : ∀ cell : Cell, h[a]? = some cell → cell.vm.isStatics = false := k_exaNs F.exa
theorem KVA.ns {k : ClassId} {ty : FieldType} {N : Nat} {f : Nat → Value} (F : KVA Z h a k ty N f) : ∀ cell : Cell, h[a]? = some cell → cell.vm.isStatics = false := fun cell q => by
  obtain ⟨c', A, -⟩ := F
  cases q.symm.trans A.1
  have h2 := A.2.1.1
  cases e : cell.vm <;> first | rfl | exact absurd e (h2 _)
theorem k_ns0 : ∀ x ∈ ([] : List Addr), ∀ cell : Cell, h[x]? = some cell → cell.vm.isStatics = false := fun _ q => nomatch q
theorem k_nsS {l' : List Addr} (q : ∀ cell : Cell, h[a]? = some cell → cell.vm.isStatics = false) (r : ∀ x ∈ l', ∀ cell : Cell, h[x]? = some cell → cell.vm.isStatics = false) : ∀ x ∈ a :: l', ∀ cell : Cell, h[x]? = some cell → cell.vm.isStatics = false := fun x hx => by
  rcases List.mem_cons.mp hx with rfl | u
  · exact q
  · exact r x u
theorem k_staKeep {Cn n d : String} {v : Value} {ws' : List Addr} (F : Sta Z h Cn n d v) (K' : Keep h h' ws') (q : ∀ x ∈ ws', ∀ cell : Cell, h[x]? = some cell → cell.vm.isStatics = false) : Sta Z h' Cn n d v := by
  obtain ⟨cf, i, k, f, st, cell, h1, h2, h3, h4, h5, h6, h7⟩ := F
  exact ⟨cf, i, k, f, st, cell, h1, h2, h3, h4, K'.2.1 st cell h5 (fun u => by have := q st u cell h5; rw [this] at h6; cases h6), h6, h7⟩
end Kit
end Jvm.OwnKit
namespace Jvm.OwnNum
theorem toInt {x : Int32} {n : Nat} (h : x.toBitVec.toNat = n) (hn : n < 2147483648) : x.toInt = (n : Int) := by
  show x.toBitVec.toInt = _
  rw [BitVec.toInt_eq_toNat_cond, if_pos (by omega), h]
theorem toNat {x : Int32} {n : Nat} (h : x.toInt = (n : Int)) : x.toBitVec.toNat = n := by
  have := x.toBitVec.isLt
  change x.toBitVec.toInt = _ at h
  rw [BitVec.toInt_eq_toNat_cond] at h
  split at h <;> omega
theorem small {x : Int32} {n : Nat} (h : x.toInt = (n : Int)) : n < 2147483648 := by have := Int32.toInt_lt x; omega
/-- x & m, m not negative -/
theorem mask (x m : Int32) {M : Nat} (hm : m.toInt = (M : Int)) : ∃ N : Nat, (x &&& m).toInt = (N : Int) ∧ N ≤ M := by
  have h1 := toNat hm
  have h2 : (x &&& m).toBitVec.toNat ≤ M := by rw [Int32.toBitVec_and, BitVec.toNat_and, h1]; exact Nat.and_le_right
  have h3 := small hm
  exact ⟨_, toInt rfl (by omega), h2⟩
theorem add {x y : Int32} {X Y : Nat} (hx : x.toInt = (X : Int)) (hy : y.toInt = (Y : Int)) (h : X + Y < 2147483648) : (x + y).toInt = ((X + Y : Nat) : Int) := by
  refine toInt ?_ h
  rw [Int32.toBitVec_add, BitVec.toNat_add, toNat hx, toNat hy]; omega
theorem rem {x y : Int32} {X Y : Nat} (hx : x.toInt = (X : Int)) (hy : y.toInt = (Y : Int)) (h : 0 < Y) : (x % y).toInt = ((X % Y : Nat) : Int) := by
  rw [(Jvm.RoadKit.c_irem x y Y hy).1 (by omega), hx]; rfl
theorem ne0 {y : Int32} {Y : Nat} (hy : y.toInt = (Y : Int)) (h : 0 < Y) : y ≠ 0 := fun e => by subst e; have : (0 : Int32).toInt = 0 := rfl; omega
theorem eq_iff {x y : Int32} {X Y : Nat} (hx : x.toInt = (X : Int)) (hy : y.toInt = (Y : Int)) : x = y ↔ X = Y := by
  rw [← Int32.toInt_inj, hx, hy]; omega
theorem lt_iff {x y : Int32} {X Y : Nat} (hx : x.toInt = (X : Int)) (hy : y.toInt = (Y : Int)) : x < y ↔ X < Y := by
  rw [Int32.lt_iff_toInt_lt, hx, hy]; omega
end Jvm.OwnNum

namespace Jvm.Pilot.@@N@@
open Jvm Jvm.ClassFile Sem Op Lib Jvm.Free Jvm.Stand Jvm.LawKit Jvm.RoadKit Jvm.OwnKit Bundle Jvm.Pilot.@@N@@.Jvm.D
theorem d1_0 : decode method_3_code 0 = .ok (.iload_n 0, 1) := by decide +kernel
theorem d1_1 : decode method_3_code 1 = .ok (.ifCond .ne 5, 3) := by decide +kernel
theorem d1_4 : decode method_3_code 4 = .ok (.iload_n 1, 1) := by decide +kernel
theorem d1_5 : decode method_3_code 5 = .ok (.ireturn, 1) := by decide +kernel
theorem d1_6 : decode method_3_code 6 = .ok (.iload_n 0, 1) := by decide +kernel
theorem d1_7 : decode method_3_code 7 = .ok (.iconst 1, 1) := by decide +kernel
theorem d1_8 : decode method_3_code 8 = .ok (.if_icmp .ne 5, 3) := by decide +kernel
theorem d1_11 : decode method_3_code 11 = .ok (.iload_n 2, 1) := by decide +kernel
theorem d1_12 : decode method_3_code 12 = .ok (.ireturn, 1) := by decide +kernel
theorem d1_13 : decode method_3_code 13 = .ok (.iload_n 0, 1) := by decide +kernel
theorem d1_14 : decode method_3_code 14 = .ok (.iconst 2, 1) := by decide +kernel
theorem d1_15 : decode method_3_code 15 = .ok (.if_icmp .ne 8, 3) := by decide +kernel
theorem d1_18 : decode method_3_code 18 = .ok (.iload_n 1, 1) := by decide +kernel
theorem d1_19 : decode method_3_code 19 = .ok (.bipush 64, 2) := by decide +kernel
theorem d1_21 : decode method_3_code 21 = .ok (.iadd, 1) := by decide +kernel
theorem d1_22 : decode method_3_code 22 = .ok (.ireturn, 1) := by decide +kernel
theorem d1_23 : decode method_3_code 23 = .ok (.iload_n 3, 1) := by decide +kernel
theorem d1_24 : decode method_3_code 24 = .ok (.ireturn, 1) := by decide +kernel
theorem d2_0 : decode prog_118_method_1_code 0 = .ok (.aload_n 0, 1) := by decide +kernel
theorem d2_1 : decode prog_118_method_1_code 1 = .ok (.invokespecial 1, 3) := by decide +kernel
theorem d2_4 : decode prog_118_method_1_code 4 = .ok (.aload_n 0, 1) := by decide +kernel
theorem d2_5 : decode prog_118_method_1_code 5 = .ok (.iconst 1, 1) := by decide +kernel
theorem d2_6 : decode prog_118_method_1_code 6 = .ok (.anewarray 7, 3) := by decide +kernel
theorem d2_9 : decode prog_118_method_1_code 9 = .ok (.dup, 1) := by decide +kernel
theorem d2_10 : decode prog_118_method_1_code 10 = .ok (.iconst 0, 1) := by decide +kernel
theorem d2_11 : decode prog_118_method_1_code 11 = .ok (.iconst 1, 1) := by decide +kernel
theorem d2_12 : decode prog_118_method_1_code 12 = .ok (.newarray .long, 2) := by decide +kernel
theorem d2_14 : decode prog_118_method_1_code 14 = .ok (.aastore, 1) := by decide +kernel
theorem d2_15 : decode prog_118_method_1_code 15 = .ok (.putfield 9, 3) := by decide +kernel
theorem d2_18 : decode prog_118_method_1_code 18 = .ok (.return_, 1) := by decide +kernel
theorem d4_0 : decode prog_118_method_3_code 0 = .ok (.aload_n 0, 1) := by decide +kernel
theorem d4_1 : decode prog_118_method_3_code 1 = .ok (.iload_n 1, 1) := by decide +kernel
theorem d4_2 : decode prog_118_method_3_code 2 = .ok (.bipush 6, 2) := by decide +kernel
theorem d4_4 : decode prog_118_method_3_code 4 = .ok (.iushr, 1) := by decide +kernel
theorem d4_5 : decode prog_118_method_3_code 5 = .ok (.iconst 1, 1) := by decide +kernel
theorem d4_6 : decode prog_118_method_3_code 6 = .ok (.iadd, 1) := by decide +kernel
theorem d4_7 : decode prog_118_method_3_code 7 = .ok (.invokevirtual 15, 3) := by decide +kernel
theorem d4_10 : decode prog_118_method_3_code 10 = .ok (.aload_n 0, 1) := by decide +kernel
theorem d4_11 : decode prog_118_method_3_code 11 = .ok (.iload_n 1, 1) := by decide +kernel
theorem d4_12 : decode prog_118_method_3_code 12 = .ok (.invokevirtual 19, 3) := by decide +kernel
theorem d4_15 : decode prog_118_method_3_code 15 = .ok (.ifCond .eq 4, 3) := by decide +kernel
theorem d4_18 : decode prog_118_method_3_code 18 = .ok (.return_, 1) := by decide +kernel
theorem d4_19 : decode prog_118_method_3_code 19 = .ok (.aload_n 0, 1) := by decide +kernel
theorem d4_20 : decode prog_118_method_3_code 20 = .ok (.dup, 1) := by decide +kernel
theorem d4_21 : decode prog_118_method_3_code 21 = .ok (.getfield 23, 3) := by decide +kernel
theorem d4_24 : decode prog_118_method_3_code 24 = .ok (.iconst 1, 1) := by decide +kernel
theorem d4_25 : decode prog_118_method_3_code 25 = .ok (.iadd, 1) := by decide +kernel
theorem d4_26 : decode prog_118_method_3_code 26 = .ok (.putfield 23, 3) := by decide +kernel
theorem d4_29 : decode prog_118_method_3_code 29 = .ok (.iload_n 1, 1) := by decide +kernel
theorem d4_30 : decode prog_118_method_3_code 30 = .ok (.istore_n 2, 1) := by decide +kernel
theorem d4_31 : decode prog_118_method_3_code 31 = .ok (.aload_n 0, 1) := by decide +kernel
theorem d4_32 : decode prog_118_method_3_code 32 = .ok (.getfield 9, 3) := by decide +kernel
theorem d4_35 : decode prog_118_method_3_code 35 = .ok (.astore_n 3, 1) := by decide +kernel
theorem d4_36 : decode prog_118_method_3_code 36 = .ok (.aload_n 3, 1) := by decide +kernel
theorem d4_37 : decode prog_118_method_3_code 37 = .ok (.arraylength, 1) := by decide +kernel
theorem d4_38 : decode prog_118_method_3_code 38 = .ok (.istore 4, 2) := by decide +kernel
theorem d4_40 : decode prog_118_method_3_code 40 = .ok (.iconst 0, 1) := by decide +kernel
theorem d4_41 : decode prog_118_method_3_code 41 = .ok (.istore 5, 2) := by decide +kernel
theorem d4_43 : decode prog_118_method_3_code 43 = .ok (.iload 5, 2) := by decide +kernel
theorem d4_45 : decode prog_118_method_3_code 45 = .ok (.iload 4, 2) := by decide +kernel
theorem d4_47 : decode prog_118_method_3_code 47 = .ok (.if_icmp .ge 48, 3) := by decide +kernel
theorem d4_50 : decode prog_118_method_3_code 50 = .ok (.aload_n 3, 1) := by decide +kernel
theorem d4_51 : decode prog_118_method_3_code 51 = .ok (.iload 5, 2) := by decide +kernel
theorem d4_53 : decode prog_118_method_3_code 53 = .ok (.aaload, 1) := by decide +kernel
theorem d4_54 : decode prog_118_method_3_code 54 = .ok (.astore 6, 2) := by decide +kernel
theorem d4_56 : decode prog_118_method_3_code 56 = .ok (.iload_n 2, 1) := by decide +kernel
theorem d4_57 : decode prog_118_method_3_code 57 = .ok (.bipush 6, 2) := by decide +kernel
theorem d4_59 : decode prog_118_method_3_code 59 = .ok (.iushr, 1) := by decide +kernel
theorem d4_60 : decode prog_118_method_3_code 60 = .ok (.istore 7, 2) := by decide +kernel
theorem d4_62 : decode prog_118_method_3_code 62 = .ok (.aload 6, 2) := by decide +kernel
theorem d4_64 : decode prog_118_method_3_code 64 = .ok (.iload 7, 2) := by decide +kernel
theorem d4_66 : decode prog_118_method_3_code 66 = .ok (.dup2, 1) := by decide +kernel
theorem d4_67 : decode prog_118_method_3_code 67 = .ok (.laload, 1) := by decide +kernel
theorem d4_68 : decode prog_118_method_3_code 68 = .ok (.lconst 1, 1) := by decide +kernel
theorem d4_69 : decode prog_118_method_3_code 69 = .ok (.iload_n 2, 1) := by decide +kernel
theorem d4_70 : decode prog_118_method_3_code 70 = .ok (.lshl, 1) := by decide +kernel
theorem d4_71 : decode prog_118_method_3_code 71 = .ok (.lor, 1) := by decide +kernel
theorem d4_72 : decode prog_118_method_3_code 72 = .ok (.lastore, 1) := by decide +kernel
theorem d4_73 : decode prog_118_method_3_code 73 = .ok (.aload 6, 2) := by decide +kernel
theorem d4_75 : decode prog_118_method_3_code 75 = .ok (.iload 7, 2) := by decide +kernel
theorem d4_77 : decode prog_118_method_3_code 77 = .ok (.laload, 1) := by decide +kernel
theorem d4_78 : decode prog_118_method_3_code 78 = .ok (.ldc2_w 27, 3) := by decide +kernel
theorem d4_81 : decode prog_118_method_3_code 81 = .ok (.lcmp, 1) := by decide +kernel
theorem d4_82 : decode prog_118_method_3_code 82 = .ok (.ifCond .eq 4, 3) := by decide +kernel
theorem d4_85 : decode prog_118_method_3_code 85 = .ok (.return_, 1) := by decide +kernel
theorem d5_0 : decode prog_118_method_10_code 0 = .ok (.iload_n 1, 1) := by decide +kernel
theorem d5_1 : decode prog_118_method_10_code 1 = .ok (.aload_n 0, 1) := by decide +kernel
theorem d5_2 : decode prog_118_method_10_code 2 = .ok (.getfield 9, 3) := by decide +kernel
theorem d5_5 : decode prog_118_method_10_code 5 = .ok (.iconst 0, 1) := by decide +kernel
theorem d5_6 : decode prog_118_method_10_code 6 = .ok (.aaload, 1) := by decide +kernel
theorem d5_7 : decode prog_118_method_10_code 7 = .ok (.arraylength, 1) := by decide +kernel
theorem d5_8 : decode prog_118_method_10_code 8 = .ok (.if_icmp .gt 4, 3) := by decide +kernel
theorem d5_11 : decode prog_118_method_10_code 11 = .ok (.return_, 1) := by decide +kernel
theorem d5_12 : decode prog_118_method_10_code 12 = .ok (.iload_n 1, 1) := by decide +kernel
theorem d5_13 : decode prog_118_method_10_code 13 = .ok (.iconst 2, 1) := by decide +kernel
theorem d5_14 : decode prog_118_method_10_code 14 = .ok (.aload_n 0, 1) := by decide +kernel
theorem d5_15 : decode prog_118_method_10_code 15 = .ok (.getfield 9, 3) := by decide +kernel
theorem d5_18 : decode prog_118_method_10_code 18 = .ok (.iconst 0, 1) := by decide +kernel
theorem d5_19 : decode prog_118_method_10_code 19 = .ok (.aaload, 1) := by decide +kernel
theorem d5_20 : decode prog_118_method_10_code 20 = .ok (.arraylength, 1) := by decide +kernel
theorem d5_21 : decode prog_118_method_10_code 21 = .ok (.imul, 1) := by decide +kernel
theorem d5_22 : decode prog_118_method_10_code 22 = .ok (.invokestatic 53, 3) := by decide +kernel
theorem d5_25 : decode prog_118_method_10_code 25 = .ok (.istore_n 2, 1) := by decide +kernel
theorem d5_26 : decode prog_118_method_10_code 26 = .ok (.iconst 1, 1) := by decide +kernel
theorem d5_27 : decode prog_118_method_10_code 27 = .ok (.istore_n 3, 1) := by decide +kernel
theorem d5_28 : decode prog_118_method_10_code 28 = .ok (.iload_n 2, 1) := by decide +kernel
theorem d5_29 : decode prog_118_method_10_code 29 = .ok (.istore 4, 2) := by decide +kernel
theorem d5_31 : decode prog_118_method_10_code 31 = .ok (.iload 4, 2) := by decide +kernel
theorem d5_33 : decode prog_118_method_10_code 33 = .ok (.iconst 1, 1) := by decide +kernel
theorem d5_34 : decode prog_118_method_10_code 34 = .ok (.if_icmp .le 21, 3) := by decide +kernel
theorem d5_37 : decode prog_118_method_10_code 37 = .ok (.iinc 3 1, 3) := by decide +kernel
theorem d5_40 : decode prog_118_method_10_code 40 = .ok (.iload 4, 2) := by decide +kernel
theorem d5_42 : decode prog_118_method_10_code 42 = .ok (.bipush 64, 2) := by decide +kernel
theorem d5_44 : decode prog_118_method_10_code 44 = .ok (.iadd, 1) := by decide +kernel
theorem d5_45 : decode prog_118_method_10_code 45 = .ok (.iconst 1, 1) := by decide +kernel
theorem d5_46 : decode prog_118_method_10_code 46 = .ok (.isub, 1) := by decide +kernel
theorem d5_47 : decode prog_118_method_10_code 47 = .ok (.bipush 6, 2) := by decide +kernel
theorem d5_49 : decode prog_118_method_10_code 49 = .ok (.iushr, 1) := by decide +kernel
theorem d5_50 : decode prog_118_method_10_code 50 = .ok (.istore 4, 2) := by decide +kernel
theorem d5_52 : decode prog_118_method_10_code 52 = .ok (.goto (-21), 3) := by decide +kernel
theorem d5_55 : decode prog_118_method_10_code 55 = .ok (.iload_n 3, 1) := by decide +kernel
theorem d5_56 : decode prog_118_method_10_code 56 = .ok (.anewarray 7, 3) := by decide +kernel
theorem d5_59 : decode prog_118_method_10_code 59 = .ok (.astore 4, 2) := by decide +kernel
theorem d5_61 : decode prog_118_method_10_code 61 = .ok (.iconst 0, 1) := by decide +kernel
theorem d5_62 : decode prog_118_method_10_code 62 = .ok (.istore 5, 2) := by decide +kernel
theorem d5_64 : decode prog_118_method_10_code 64 = .ok (.iload 5, 2) := by decide +kernel
theorem d5_66 : decode prog_118_method_10_code 66 = .ok (.iload_n 3, 1) := by decide +kernel
theorem d5_67 : decode prog_118_method_10_code 67 = .ok (.if_icmp .ge 51, 3) := by decide +kernel
theorem d5_70 : decode prog_118_method_10_code 70 = .ok (.aload 4, 2) := by decide +kernel
theorem d5_72 : decode prog_118_method_10_code 72 = .ok (.iload 5, 2) := by decide +kernel
theorem d5_74 : decode prog_118_method_10_code 74 = .ok (.iload 5, 2) := by decide +kernel
theorem d5_76 : decode prog_118_method_10_code 76 = .ok (.aload_n 0, 1) := by decide +kernel
theorem d5_77 : decode prog_118_method_10_code 77 = .ok (.getfield 9, 3) := by decide +kernel
theorem d5_80 : decode prog_118_method_10_code 80 = .ok (.arraylength, 1) := by decide +kernel
theorem d5_81 : decode prog_118_method_10_code 81 = .ok (.if_icmp .ge 13, 3) := by decide +kernel
theorem d5_84 : decode prog_118_method_10_code 84 = .ok (.aload_n 0, 1) := by decide +kernel
theorem d5_85 : decode prog_118_method_10_code 85 = .ok (.getfield 9, 3) := by decide +kernel
theorem d5_88 : decode prog_118_method_10_code 88 = .ok (.iload 5, 2) := by decide +kernel
theorem d5_90 : decode prog_118_method_10_code 90 = .ok (.aaload, 1) := by decide +kernel
theorem d5_91 : decode prog_118_method_10_code 91 = .ok (.goto 6, 3) := by decide +kernel
theorem d5_94 : decode prog_118_method_10_code 94 = .ok (.iconst 0, 1) := by decide +kernel
theorem d5_95 : decode prog_118_method_10_code 95 = .ok (.newarray .long, 2) := by decide +kernel
theorem d5_97 : decode prog_118_method_10_code 97 = .ok (.iload_n 2, 1) := by decide +kernel
theorem d5_98 : decode prog_118_method_10_code 98 = .ok (.invokestatic 59, 3) := by decide +kernel
theorem d5_101 : decode prog_118_method_10_code 101 = .ok (.aastore, 1) := by decide +kernel
theorem d5_102 : decode prog_118_method_10_code 102 = .ok (.iload_n 2, 1) := by decide +kernel
theorem d5_103 : decode prog_118_method_10_code 103 = .ok (.bipush 64, 2) := by decide +kernel
theorem d5_105 : decode prog_118_method_10_code 105 = .ok (.iadd, 1) := by decide +kernel
theorem d5_106 : decode prog_118_method_10_code 106 = .ok (.iconst 1, 1) := by decide +kernel
theorem d5_107 : decode prog_118_method_10_code 107 = .ok (.isub, 1) := by decide +kernel
theorem d5_108 : decode prog_118_method_10_code 108 = .ok (.bipush 6, 2) := by decide +kernel
theorem d5_110 : decode prog_118_method_10_code 110 = .ok (.iushr, 1) := by decide +kernel
theorem d5_111 : decode prog_118_method_10_code 111 = .ok (.istore_n 2, 1) := by decide +kernel
theorem d5_112 : decode prog_118_method_10_code 112 = .ok (.iinc 5 1, 3) := by decide +kernel
theorem d5_115 : decode prog_118_method_10_code 115 = .ok (.goto (-51), 3) := by decide +kernel
theorem d5_118 : decode prog_118_method_10_code 118 = .ok (.aload_n 0, 1) := by decide +kernel
theorem d5_119 : decode prog_118_method_10_code 119 = .ok (.aload 4, 2) := by decide +kernel
theorem d5_121 : decode prog_118_method_10_code 121 = .ok (.putfield 9, 3) := by decide +kernel
theorem d5_124 : decode prog_118_method_10_code 124 = .ok (.return_, 1) := by decide +kernel
theorem d6_0 : decode prog_118_method_2_code 0 = .ok (.aload_n 0, 1) := by decide +kernel
theorem d6_1 : decode prog_118_method_2_code 1 = .ok (.getfield 9, 3) := by decide +kernel
theorem d6_4 : decode prog_118_method_2_code 4 = .ok (.iconst 0, 1) := by decide +kernel
theorem d6_5 : decode prog_118_method_2_code 5 = .ok (.aaload, 1) := by decide +kernel
theorem d6_6 : decode prog_118_method_2_code 6 = .ok (.astore_n 2, 1) := by decide +kernel
theorem d6_7 : decode prog_118_method_2_code 7 = .ok (.iload_n 1, 1) := by decide +kernel
theorem d6_8 : decode prog_118_method_2_code 8 = .ok (.bipush 6, 2) := by decide +kernel
theorem d6_10 : decode prog_118_method_2_code 10 = .ok (.iushr, 1) := by decide +kernel
theorem d6_11 : decode prog_118_method_2_code 11 = .ok (.istore_n 3, 1) := by decide +kernel
theorem d6_12 : decode prog_118_method_2_code 12 = .ok (.iload_n 3, 1) := by decide +kernel
theorem d6_13 : decode prog_118_method_2_code 13 = .ok (.aload_n 2, 1) := by decide +kernel
theorem d6_14 : decode prog_118_method_2_code 14 = .ok (.arraylength, 1) := by decide +kernel
theorem d6_15 : decode prog_118_method_2_code 15 = .ok (.if_icmp .ge 19, 3) := by decide +kernel
theorem d6_18 : decode prog_118_method_2_code 18 = .ok (.aload_n 2, 1) := by decide +kernel
theorem d6_19 : decode prog_118_method_2_code 19 = .ok (.iload_n 3, 1) := by decide +kernel
theorem d6_20 : decode prog_118_method_2_code 20 = .ok (.laload, 1) := by decide +kernel
theorem d6_21 : decode prog_118_method_2_code 21 = .ok (.lconst 1, 1) := by decide +kernel
theorem d6_22 : decode prog_118_method_2_code 22 = .ok (.iload_n 1, 1) := by decide +kernel
theorem d6_23 : decode prog_118_method_2_code 23 = .ok (.lshl, 1) := by decide +kernel
theorem d6_24 : decode prog_118_method_2_code 24 = .ok (.land, 1) := by decide +kernel
theorem d6_25 : decode prog_118_method_2_code 25 = .ok (.lconst 0, 1) := by decide +kernel
theorem d6_26 : decode prog_118_method_2_code 26 = .ok (.lcmp, 1) := by decide +kernel
theorem d6_27 : decode prog_118_method_2_code 27 = .ok (.ifCond .eq 7, 3) := by decide +kernel
theorem d6_30 : decode prog_118_method_2_code 30 = .ok (.iconst 1, 1) := by decide +kernel
theorem d6_31 : decode prog_118_method_2_code 31 = .ok (.goto 4, 3) := by decide +kernel
theorem d6_34 : decode prog_118_method_2_code 34 = .ok (.iconst 0, 1) := by decide +kernel
theorem d6_35 : decode prog_118_method_2_code 35 = .ok (.ireturn, 1) := by decide +kernel
theorem d7_0 : decode prog_118_method_5_code 0 = .ok (.aload_n 0, 1) := by decide +kernel
theorem d7_1 : decode prog_118_method_5_code 1 = .ok (.getfield 23, 3) := by decide +kernel
theorem d7_4 : decode prog_118_method_5_code 4 = .ok (.ifCond .ne 7, 3) := by decide +kernel
theorem d7_7 : decode prog_118_method_5_code 7 = .ok (.iload_n 3, 1) := by decide +kernel
theorem d7_8 : decode prog_118_method_5_code 8 = .ok (.goto 4, 3) := by decide +kernel
theorem d7_11 : decode prog_118_method_5_code 11 = .ok (.iload_n 2, 1) := by decide +kernel
theorem d7_12 : decode prog_118_method_5_code 12 = .ok (.istore 4, 2) := by decide +kernel
theorem d7_14 : decode prog_118_method_5_code 14 = .ok (.aload_n 0, 1) := by decide +kernel
theorem d7_15 : decode prog_118_method_5_code 15 = .ok (.getfield 9, 3) := by decide +kernel
theorem d7_18 : decode prog_118_method_5_code 18 = .ok (.iconst 0, 1) := by decide +kernel
theorem d7_19 : decode prog_118_method_5_code 19 = .ok (.aaload, 1) := by decide +kernel
theorem d7_20 : decode prog_118_method_5_code 20 = .ok (.astore 5, 2) := by decide +kernel
theorem d7_22 : decode prog_118_method_5_code 22 = .ok (.iload 4, 2) := by decide +kernel
theorem d7_24 : decode prog_118_method_5_code 24 = .ok (.iload_n 3, 1) := by decide +kernel
theorem d7_25 : decode prog_118_method_5_code 25 = .ok (.if_icmp .ge 46, 3) := by decide +kernel
theorem d7_28 : decode prog_118_method_5_code 28 = .ok (.aload_n 1, 1) := by decide +kernel
theorem d7_29 : decode prog_118_method_5_code 29 = .ok (.iload 4, 2) := by decide +kernel
theorem d7_31 : decode prog_118_method_5_code 31 = .ok (.iaload, 1) := by decide +kernel
theorem d7_32 : decode prog_118_method_5_code 32 = .ok (.bipush 6, 2) := by decide +kernel
theorem d7_34 : decode prog_118_method_5_code 34 = .ok (.iushr, 1) := by decide +kernel
theorem d7_35 : decode prog_118_method_5_code 35 = .ok (.istore 6, 2) := by decide +kernel
theorem d7_37 : decode prog_118_method_5_code 37 = .ok (.iload 6, 2) := by decide +kernel
theorem d7_39 : decode prog_118_method_5_code 39 = .ok (.aload 5, 2) := by decide +kernel
theorem d7_41 : decode prog_118_method_5_code 41 = .ok (.arraylength, 1) := by decide +kernel
theorem d7_42 : decode prog_118_method_5_code 42 = .ok (.if_icmp .ge 23, 3) := by decide +kernel
theorem d7_45 : decode prog_118_method_5_code 45 = .ok (.aload 5, 2) := by decide +kernel
theorem d7_47 : decode prog_118_method_5_code 47 = .ok (.iload 6, 2) := by decide +kernel
theorem d7_49 : decode prog_118_method_5_code 49 = .ok (.laload, 1) := by decide +kernel
theorem d7_50 : decode prog_118_method_5_code 50 = .ok (.lconst 1, 1) := by decide +kernel
theorem d7_51 : decode prog_118_method_5_code 51 = .ok (.aload_n 1, 1) := by decide +kernel
theorem d7_52 : decode prog_118_method_5_code 52 = .ok (.iload 4, 2) := by decide +kernel
theorem d7_54 : decode prog_118_method_5_code 54 = .ok (.iaload, 1) := by decide +kernel
theorem d7_55 : decode prog_118_method_5_code 55 = .ok (.lshl, 1) := by decide +kernel
theorem d7_56 : decode prog_118_method_5_code 56 = .ok (.land, 1) := by decide +kernel
theorem d7_57 : decode prog_118_method_5_code 57 = .ok (.lconst 0, 1) := by decide +kernel
theorem d7_58 : decode prog_118_method_5_code 58 = .ok (.lcmp, 1) := by decide +kernel
theorem d7_59 : decode prog_118_method_5_code 59 = .ok (.ifCond .eq 6, 3) := by decide +kernel
theorem d7_62 : decode prog_118_method_5_code 62 = .ok (.goto 9, 3) := by decide +kernel
theorem d7_65 : decode prog_118_method_5_code 65 = .ok (.iinc 4 1, 3) := by decide +kernel
theorem d7_68 : decode prog_118_method_5_code 68 = .ok (.goto (-46), 3) := by decide +kernel
theorem d7_71 : decode prog_118_method_5_code 71 = .ok (.iload 4, 2) := by decide +kernel
theorem d7_73 : decode prog_118_method_5_code 73 = .ok (.ireturn, 1) := by decide +kernel
theorem d8_0 : decode jdk_29_method_65_code 0 = .ok (.iload_n 0, 1) := by decide +kernel
theorem d8_1 : decode jdk_29_method_65_code 1 = .ok (.iload_n 1, 1) := by decide +kernel
theorem d8_2 : decode jdk_29_method_65_code 2 = .ok (.if_icmp .lt 7, 3) := by decide +kernel
theorem d8_5 : decode jdk_29_method_65_code 5 = .ok (.iload_n 0, 1) := by decide +kernel
theorem d8_6 : decode jdk_29_method_65_code 6 = .ok (.goto 4, 3) := by decide +kernel
theorem d8_9 : decode jdk_29_method_65_code 9 = .ok (.iload_n 1, 1) := by decide +kernel
theorem d8_10 : decode jdk_29_method_65_code 10 = .ok (.ireturn, 1) := by decide +kernel
theorem d9_0 : decode jdk_65_method_124_code 0 = .ok (.iload_n 1, 1) := by decide +kernel
theorem d9_1 : decode jdk_65_method_124_code 1 = .ok (.aload_n 0, 1) := by decide +kernel
theorem d9_2 : decode jdk_65_method_124_code 2 = .ok (.arraylength, 1) := by decide +kernel
theorem d9_3 : decode jdk_65_method_124_code 3 = .ok (.if_icmp .ne 11, 3) := by decide +kernel
theorem d9_6 : decode jdk_65_method_124_code 6 = .ok (.aload_n 0, 1) := by decide +kernel
theorem d9_7 : decode jdk_65_method_124_code 7 = .ok (.invokevirtual 319, 3) := by decide +kernel
theorem d9_10 : decode jdk_65_method_124_code 10 = .ok (.checkcast 320, 3) := by decide +kernel
theorem d9_13 : decode jdk_65_method_124_code 13 = .ok (.areturn, 1) := by decide +kernel
theorem d9_14 : decode jdk_65_method_124_code 14 = .ok (.iload_n 1, 1) := by decide +kernel
theorem d9_15 : decode jdk_65_method_124_code 15 = .ok (.newarray .long, 2) := by decide +kernel
theorem d9_17 : decode jdk_65_method_124_code 17 = .ok (.astore_n 2, 1) := by decide +kernel
theorem d9_18 : decode jdk_65_method_124_code 18 = .ok (.aload_n 0, 1) := by decide +kernel
theorem d9_19 : decode jdk_65_method_124_code 19 = .ok (.iconst 0, 1) := by decide +kernel
theorem d9_20 : decode jdk_65_method_124_code 20 = .ok (.aload_n 2, 1) := by decide +kernel
theorem d9_21 : decode jdk_65_method_124_code 21 = .ok (.iconst 0, 1) := by decide +kernel
theorem d9_22 : decode jdk_65_method_124_code 22 = .ok (.aload_n 0, 1) := by decide +kernel
theorem d9_23 : decode jdk_65_method_124_code 23 = .ok (.arraylength, 1) := by decide +kernel
theorem d9_24 : decode jdk_65_method_124_code 24 = .ok (.iload_n 1, 1) := by decide +kernel
theorem d9_25 : decode jdk_65_method_124_code 25 = .ok (.invokestatic 304, 3) := by decide +kernel
theorem d9_28 : decode jdk_65_method_124_code 28 = .ok (.invokestatic 150, 3) := by decide +kernel
theorem d9_31 : decode jdk_65_method_124_code 31 = .ok (.aload_n 2, 1) := by decide +kernel
theorem d9_32 : decode jdk_65_method_124_code 32 = .ok (.areturn, 1) := by decide +kernel
theorem d10_0 : decode jdk_29_method_69_code 0 = .ok (.iload_n 0, 1) := by decide +kernel
theorem d10_1 : decode jdk_29_method_69_code 1 = .ok (.iload_n 1, 1) := by decide +kernel
theorem d10_2 : decode jdk_29_method_69_code 2 = .ok (.if_icmp .gt 7, 3) := by decide +kernel
theorem d10_5 : decode jdk_29_method_69_code 5 = .ok (.iload_n 0, 1) := by decide +kernel
theorem d10_6 : decode jdk_29_method_69_code 6 = .ok (.goto 4, 3) := by decide +kernel
theorem d10_9 : decode jdk_29_method_69_code 9 = .ok (.iload_n 1, 1) := by decide +kernel
theorem d10_10 : decode jdk_29_method_69_code 10 = .ok (.ireturn, 1) := by decide +kernel
theorem d11_0 : decode method_4_code 0 = .ok (.iload_n 1, 1) := by decide +kernel
theorem d11_1 : decode method_4_code 1 = .ok (.ifCond .eq 8, 3) := by decide +kernel
theorem d11_4 : decode method_4_code 4 = .ok (.iload_n 0, 1) := by decide +kernel
theorem d11_5 : decode method_4_code 5 = .ok (.iload_n 2, 1) := by decide +kernel
theorem d11_6 : decode method_4_code 6 = .ok (.if_icmp .eq 13, 3) := by decide +kernel
theorem d11_9 : decode method_4_code 9 = .ok (.iload_n 3, 1) := by decide +kernel
theorem d11_10 : decode method_4_code 10 = .ok (.ifCond .eq 13, 3) := by decide +kernel
theorem d11_13 : decode method_4_code 13 = .ok (.iload_n 0, 1) := by decide +kernel
theorem d11_14 : decode method_4_code 14 = .ok (.iload 4, 2) := by decide +kernel
theorem d11_16 : decode method_4_code 16 = .ok (.if_icmp .ne 7, 3) := by decide +kernel
theorem d11_19 : decode method_4_code 19 = .ok (.iconst 1, 1) := by decide +kernel
theorem d11_20 : decode method_4_code 20 = .ok (.goto 4, 3) := by decide +kernel
theorem d11_23 : decode method_4_code 23 = .ok (.iconst 0, 1) := by decide +kernel
theorem d11_24 : decode method_4_code 24 = .ok (.ireturn, 1) := by decide +kernel
theorem pd_0 : parseMethodDescriptor "(II)I" = some ⟨[.int, .int], some .int⟩ := by decide +kernel
theorem pd_1 : parseMethodDescriptor "([JI)[J" = some ⟨[(.array .long), .int], some (.array .long)⟩ := by decide +kernel
theorem pd_2 : parseMethodDescriptor "(I)V" = some ⟨[.int], none⟩ := by decide +kernel
theorem pd_3 : parseMethodDescriptor "(I)Z" = some ⟨[.int], some .boolean⟩ := by decide +kernel
theorem pd_4 : parseMethodDescriptor "(IIII)I" = some ⟨[.int, .int, .int, .int], some .int⟩ := by decide +kernel
theorem pd_5 : parseMethodDescriptor "()V" = some ⟨[], none⟩ := by decide +kernel
theorem pd_6 : parseMethodDescriptor "([III)I" = some ⟨[(.array .int), .int, .int], some .int⟩ := by decide +kernel
theorem pd_7 : parseMethodDescriptor "(IZIZI)Z" = some ⟨[.int, .boolean, .int, .boolean, .int], some .boolean⟩ := by decide +kernel
abbrev layO : List (String × String × String) := [("com/example/outrigger/outrigger/OrdinalSet", "levels", "[[J"), ("com/example/outrigger/outrigger/OrdinalSet", "size", "I")]
theorem lokO {Z : State} {a0 : Array Value} (hw : ∀ d ∈ tables_1, d.before a0 Z = true) : KLay Z a0 "com/example/outrigger/outrigger/OrdinalSet" layO := ⟨(List.forall_mem_cons.mpr ⟨⟨Or.inl (hw _ (List.mem_of_getElem? (i := 19) rfl)), by decide⟩, (List.forall_mem_cons.mpr ⟨⟨Or.inl (hw _ (List.mem_of_getElem? (i := 35) rfl)), by decide⟩, (by simp)⟩)⟩), by decide⟩

def own_OS (Z : State) (h : Heap) (a lv w0 : Addr) (L : Nat) (W : Nat → Int64) (sz : Int32) : Prop :=
  KOb Z h a "com/example/outrigger/outrigger/OrdinalSet" layO [.ref lv, .int sz] ∧ (∃ k0, KVA Z h w0 k0 .long L (fun j => .long (W j))) ∧ 1 ≤ L ∧ L ≤ 16 ∧ (∀ j, L ≤ j → W j = 0) ∧
  ((L = 1 ∧ ∃ kL, KVA Z h lv kL (.array .long) 1 (fun _ => .ref w0)) ∨
   (∃ (kL k1 : ClassId) (w1 : Addr) (f1 : Nat → Int64), KVA Z h lv kL (.array .long) 2 (fun j => if j = 0 then .ref w0 else .ref w1) ∧ KVA Z h w1 k1 .long 1 (fun j => .long (f1 j)) ∧ Exa Z h w1 "[J" ∧ w0 ≠ w1))
theorem own_cp (i N : Nat) (f : Nat → Int64) : (if 0 ≤ i ∧ i < 0 + N then (Value.long (f (0 + (i - 0)))) else Value.long 0) = Value.long (if i < N then f i else 0) := by
  by_cases q : i < N
  · rw [if_pos ⟨Nat.zero_le _, by omega⟩, if_pos q, Nat.zero_add, Nat.sub_zero]
  · rw [if_neg (fun r => q (by omega)), if_neg q]
theorem own_ushr6 {x : Int32} {X : Nat} (h : x.toBitVec.toNat = X) : (k_ushr x (6 : Int32)).toInt = ((X / 64 : Nat) : Int) := by
  refine OwnNum.toInt ?_ (by have := x.toBitVec.isLt; omega)
  show (x.toUInt32 >>> ((6 : Int32) &&& 31).toUInt32).toBitVec.toNat = _
  rw [UInt32.toBitVec_shiftRight]
  show (x.toBitVec >>> (6 % 32 : BitVec 32)).toNat = _
  rw [BitVec.ushiftRight_eq', BitVec.toNat_ushiftRight]
  show x.toBitVec.toNat >>> 6 = _
  rw [Nat.shiftRight_eq_div_pow, h]
theorem own_lv1 {z : Int32} {M : Nat} (h : z.toInt = (M : Int)) (h2 : 2 ≤ M) (h16 : M ≤ 16) : k_ushr ((z + (64 : Int32)) - (1 : Int32)) (6 : Int32) = 1 := by
  have ha := OwnNum.add h (show (64 : Int32).toInt = ((64 : Nat) : Int) from rfl) (by omega)
  have e : ((z + 64) - 1).toInt = ((M + 63 : Nat) : Int) := by
    have e1 : (1 : Int32).toInt = 1 := rfl
    rw [Int32.toInt_sub, ha, e1, Int.bmod_eq_of_le (by omega) (by omega)]; omega
  have q := own_ushr6 (OwnNum.toNat e)
  rw [show (M + 63) / 64 = 1 by omega] at q
  exact Int32.toInt_inj.mp q

theorem own_max {n zL : Int32} {Nn L : Nat} (hn : n.toInt = (Nn : Int)) (hL : zL.toInt = (L : Int)) (hL1 : 1 ≤ L) (hn8 : Nn ≤ 8) (hlt : L < Nn) : ∃ (M : Nat) (zM : Int32), zM.toInt = (M : Int) ∧ (n < (2 : Int32) * zL → (2 : Int32) * zL = zM) ∧ (¬ n < (2 : Int32) * zL → n = zM) ∧ L < M ∧ 2 ≤ M ∧ M ≤ 16 ∧ Nn ≤ M := by
  have h2 : ((2 : Int32) * zL).toInt = ((2 * L : Nat) : Int) := by
    have e2 : (2 : Int32).toInt = 2 := rfl
    rw [Int32.toInt_mul, hL, e2, Int.bmod_eq_of_le (by omega) (by omega)]; omega
  by_cases q : n < (2 : Int32) * zL
  · have r := (OwnNum.lt_iff hn h2).mp q
    exact ⟨2 * L, _, h2, fun _ => rfl, fun r => absurd q r, by omega, by omega, by omega, by omega⟩
  · exact ⟨Nn, n, hn, fun r => absurd r q, fun _ => rfl, by omega, by omega, by omega, by omega⟩
theorem own_len {Z : State} {h : Heap} {a : Addr} {k : ClassId} {ty : FieldType} {N : Nat} {f : Nat → Value} (V : KVA Z h a k ty N f) : ∃ z : Int32, z.toInt = (N : Int) := by
  obtain ⟨_, _, _, _, q, _⟩ := V
  exact ⟨Int32.ofNat N, by rw [Int32.toInt_ofNat_of_lt q]⟩
theorem own_open {Z : State} {h : Heap} {a lv w0 : Addr} {L : Nat} {W : Nat → Int64} {sz : Int32} (O : own_OS Z h a lv w0 L W sz) :
    ∃ (_ : KOb Z h a "com/example/outrigger/outrigger/OrdinalSet" layO [.ref lv, .int sz]) (k0 : ClassId) (_ : KVA Z h w0 k0 .long L (fun j => .long (W j))) (kL : ClassId) (nl : Nat) (g : Nat → Value) (_ : KVA Z h lv kL (.array .long) nl g) (_ : 0 < nl) (_ : g 0 = .ref w0) (zL : Int32), zL.toInt = (L : Int) := by
  obtain ⟨F, ⟨k0, V0⟩, hL1, hL16, hW, hs⟩ := O
  obtain ⟨z, hz⟩ := own_len V0
  rcases hs with ⟨e, kL, VL⟩ | ⟨kL, k1, w1, f1, VL, V1, E1, ne⟩
  · exact ⟨F, k0, V0, kL, 1, _, VL, by decide, rfl, z, hz⟩
  · exact ⟨F, k0, V0, kL, 2, _, VL, by decide, rfl, z, hz⟩
theorem own_out {Z : State} {h : Heap} {a lv w0 : Addr} {L J : Nat} {W : Nat → Int64} {sz x zL : Int32} {B : Int64} (O : own_OS Z h a lv w0 L W sz) (hJ : x.toInt = (J : Int)) (hz : zL.toInt = (L : Int)) (q : ¬ x < zL) : ¬ ¬ (W J &&& B) = 0 := by
  obtain ⟨-, -, -, -, hW, -⟩ := O
  rw [OwnNum.lt_iff hJ hz] at q
  rw [hW J (by omega)]; intro r; exact r (Int64.zero_and)
theorem own_lc0 {x y : Int64} : k_cmpL x y = 0 ↔ x = y := by
  unfold k_cmpL
  by_cases h : x > y
  · rw [if_pos h]; exact ⟨fun q => absurd q (by decide), fun q => by subst q; exact absurd h (Int64.lt_irrefl)⟩
  · rw [if_neg h]; by_cases e : x = y
    · rw [if_pos e]; simp [e]
    · rw [if_neg e]; exact ⟨fun q => absurd q (by decide), fun q => absurd q e⟩
theorem own_i0 {P : Prop} [Decidable P] (h : (if P then (1 : Int32) else 0) = 0) : ¬ P := fun p => by rw [if_pos p] at h; exact absurd h (by decide)
theorem own_i1 {P : Prop} [Decidable P] (h : ¬ (if P then (1 : Int32) else 0) = 0) : P := by
  by_cases p : P
  · exact p
  · rw [if_neg p] at h; exact absurd rfl h
theorem own_wj (i J : Nat) (W : Nat → Int64) (B : Int64) : (if i = J then Value.long (W J ||| B) else Value.long (W i)) = Value.long (if i = J then W i ||| B else W i) := by
  by_cases q : i = J
  · subst q; rw [if_pos rfl, if_pos rfl]
  · rw [if_neg q, if_neg q]
theorem own_m1 {W' : Nat → Int64} {J : Nat} (hm : ¬ W' J = -1) {P : Nat → Prop} (_ : ∀ j, P j) : ¬ k_cmpL (W' J) (-1) = 0 := fun q => hm (own_lc0.mp q)
theorem own_same {Z : State} {h : Heap} {a lv w0 : Addr} {L : Nat} {W W' : Nat → Int64} {sz sz' : Int32} (O : own_OS Z h a lv w0 L W sz) (e : sz = sz') (q : ∀ j, W j = W' j) : own_OS Z h a lv w0 L W' sz' := by
  subst e; rw [show W' = W from funext fun j => (q j).symm]; exact O
theorem own_put {Z : State} {a0 : Array Value} {h h' : Heap} {a lv w0 : Addr} {L sl kk : Nat} {v : Value} {W : Nat → Int64} {sz sz' : Int32} (O : own_OS Z h a lv w0 L W sz) (Wr0 : Wr h h' a sl v) (F' : KOb Z h' a "com/example/outrigger/outrigger/OrdinalSet" layO [.ref lv, .int sz']) (wi : (Jvm.Cond.instantiable "com/example/outrigger/outrigger/OrdinalSet" kk).before a0 Z = true) : own_OS Z h' a lv w0 L W sz' := by
  obtain ⟨F, ⟨k0, V0⟩, hL1, hL16, hW, hs⟩ := O
  refine ⟨F', ⟨k0, V0.other Wr0 (V0.ne_ob F.exa wi)⟩, hL1, hL16, hW, ?_⟩
  rcases hs with ⟨e, kL, VL⟩ | ⟨kL, k1, w1, f1, VL, V1, E1, ne⟩
  · exact Or.inl ⟨e, kL, VL.other Wr0 (VL.ne_ob F.exa wi)⟩
  · exact Or.inr ⟨kL, k1, w1, f1, VL.other Wr0 (VL.ne_ob F.exa wi), V1.other Wr0 (V1.ne_ob F.exa wi), Exa.wr Wr0 E1, ne⟩
theorem own_word {Z : State} {a0 : Array Value} {h h' : Heap} {a lv w0 : Addr} {L sl kk J : Nat} {v : Value} {W W' : Nat → Int64} {B : Int64} {sz : Int32} {k0 : ClassId} (O : own_OS Z h a lv w0 L W sz) (Wr0 : Wr h h' w0 sl v) (V' : KVA Z h' w0 k0 .long L (fun j => .long (W' j))) (hJ : J + 1 ≤ L) (q : ∀ j, (if j = J then W j ||| B else W j) = W' j) (wi : (Jvm.Cond.instantiable "com/example/outrigger/outrigger/OrdinalSet" kk).before a0 Z = true) : own_OS Z h' a lv w0 L W' sz := by
  obtain ⟨F, ⟨k0', V0⟩, hL1, hL16, hW, hs⟩ := O
  refine ⟨F.other Wr0 (Ne.symm (V0.ne_ob F.exa wi)), ⟨k0, V'⟩, hL1, hL16, fun j hj => by rw [← q j, if_neg (by omega)]; exact hW j hj, ?_⟩
  rcases hs with ⟨e, kL, VL⟩ | ⟨kL, k1, w1, f1, VL, V1, E1, ne⟩
  · exact Or.inl ⟨e, kL, VL.other Wr0 (KVA.neT VL V0 nofun)⟩
  · exact Or.inr ⟨kL, k1, w1, f1, VL.other Wr0 (KVA.neT VL V0 nofun), V1.other Wr0 (Ne.symm ne), Exa.wr Wr0 E1, ne⟩
def own_one (s : Slot) : Prop := s = .unset ∨ ∃ w : Value, s = .val w ∧ w.category = 1
theorem own_st6 {a b w0 : Addr} {zf zt i4 : Int32} {s6 : Slot} {x : Value} (h : own_one s6) (hx : x.category = 1) : storeLocals #[.val (.ref a), .val (.ref b), .val (.int zf), .val (.int zt), .val (.int i4), .val (.ref w0), s6] 6 x = some #[.val (.ref a), .val (.ref b), .val (.int zf), .val (.int zt), .val (.int i4), .val (.ref w0), .val x] :=
  XS.store1 (o := s6) rfl h hx
def own_fh (b : Nat → Bool) : Nat → Nat → Nat
  | 0, i => i
  | k + 1, i => if b i = true then i else own_fh b k (i + 1)
theorem own_fh0 {b : Nat → Bool} (h : ∀ i, i < 3 → b i = false) : ∀ {k i : Nat}, i + k ≤ 3 → own_fh b k i = i + k
  | 0, i, _ => rfl
  | k + 1, i, q => by rw [own_fh, if_neg (by rw [h i (by omega)]; decide), own_fh0 h (by omega)]; omega

theorem own_keep {Z : State} {h h' : Heap} {a lv w0 : Addr} {L : Nat} {W : Nat → Int64} {sz : Int32} (O : own_OS Z h a lv w0 L W sz) (K : Keep h h' []) : own_OS Z h' a lv w0 L W sz := by
  obtain ⟨F, ⟨k0, V0⟩, hL1, hL16, hW, hs⟩ := O
  refine ⟨F.keep K nin0, ⟨k0, V0.keep K nin0⟩, hL1, hL16, hW, ?_⟩
  rcases hs with ⟨e, kL, VL⟩ | ⟨kL, k1, w1, f1, VL, V1, E1, ne⟩
  · exact Or.inl ⟨e, kL, VL.keep K nin0⟩
  · exact Or.inr ⟨kL, k1, w1, f1, VL.keep K nin0, V1.keep K nin0, E1.keep K, ne⟩
theorem own_01 (P : Prop) [Decidable P] : (if P then (0 : Int32) else 1) = 0 ∨ (if P then (0 : Int32) else 1) = 1 := by by_cases p : P <;> simp [p]
theorem own_sum {zf : Int32} {Fr : Nat} (hF : zf.toInt = (Fr : Int)) (h3 : Fr ≤ 3) (p : Int32) : ∃ N : Nat, (zf + (p &&& (3 : Int32))).toInt = (N : Int) ∧ Fr ≤ N := by
  obtain ⟨M, h1, h2⟩ := OwnNum.mask p 3 (M := 3) rfl
  exact ⟨Fr + M, OwnNum.add hF h1 (by omega), by omega⟩
theorem own_cap {zs : Int32} {Sm Fr : Nat} (hS : zs.toInt = (Sm : Int)) (h : Fr ≤ Sm) (h3 : Fr ≤ 3) : ∃ N : Nat, (if (3 : Int32) < zs then (3 : Int32) else zs).toInt = (N : Int) ∧ N ≤ 3 ∧ Fr ≤ N := by
  have q := OwnNum.lt_iff (show (3 : Int32).toInt = ((3 : Nat) : Int) from rfl) hS
  by_cases c : (3 : Int32) < zs
  · rw [if_pos c]; exact ⟨3, rfl, by omega, by omega⟩
  · rw [if_neg c]; rw [q] at c; exact ⟨Sm, hS, by omega, by omega⟩
def own_B (n : Nat) : Int64 := (1 : Int64) <<< (Int32.ofNat n).toInt64
theorem own_bit {x : Int32} {X : Nat} (h : x.toBitVec.toNat = X) : ((1 : Int64) <<< (x &&& 63).toInt64) = own_B (X % 64) := by
  have e : x &&& 63 = Int32.ofNat (X % 64) := by
    refine Int32.toBitVec_inj.mp (BitVec.eq_of_toNat_eq ?_)
    rw [Int32.toBitVec_and, BitVec.toNat_and, h]
    show X &&& 63 = ((X % 64) % 2 ^ 32)
    rw [show (63 : Nat) = 2 ^ 6 - 1 from rfl, Nat.and_two_pow_sub_one_eq_mod]; omega
  rw [e, own_B]
theorem own_Band : ∀ i j : Fin 64, (own_B i.val &&& own_B j.val = 0) ↔ ¬ i.val = j.val := by decide +kernel
theorem own_Bm1 : ∀ i j : Fin 64, ¬ own_B i.val ||| own_B j.val = -1 := by decide +kernel
theorem own_Bm2 : ∀ i : Fin 64, ¬ own_B i.val ||| 0 = -1 := by decide +kernel
theorem own_Bm3 : ∀ i : Fin 64, ¬ 0 ||| own_B i.val = -1 := by decide +kernel
theorem own_and0 {x y : Int32} {X Y : Nat} (hx : x.toBitVec.toNat = X) (hy : y.toBitVec.toNat = Y) : (((1 : Int64) <<< (x &&& 63).toInt64) &&& ((1 : Int64) <<< (y &&& 63).toInt64) = 0) ↔ ¬ X % 64 = Y % 64 := by
  rw [own_bit hx, own_bit hy]; exact own_Band ⟨X % 64, Nat.mod_lt _ (by decide)⟩ ⟨Y % 64, Nat.mod_lt _ (by decide)⟩
theorem own_or0 (P Q R : Int64) : ((P ||| Q) &&& R = 0) ↔ (P &&& R = 0 ∧ Q &&& R = 0) := by
  have e : (P ||| Q) &&& R = (P &&& R) ||| (Q &&& R) := Int64.toBitVec_inj.mp (by simp only [Int64.toBitVec_and, Int64.toBitVec_or]; exact BitVec.and_or_distrib_right)
  rw [e, ← Int64.toBitVec_inj, ← Int64.toBitVec_inj (a := P &&& R), ← Int64.toBitVec_inj (a := Q &&& R)]
  rw [Int64.toBitVec_or]; exact BitVec.or_eq_zero_iff
def own_W (aA ha bB hb : Int32) (j : Nat) : Int64 := (if ¬ aA = 0 ∧ j = ha.toBitVec.toNat / 64 then ((1 : Int64) <<< (ha &&& 63).toInt64) else 0) ||| (if ¬ bB = 0 ∧ j = hb.toBitVec.toNat / 64 then ((1 : Int64) <<< (hb &&& 63).toInt64) else 0)
theorem own_W0 {ha hb : Int32} (j : Nat) : (0 : Int64) = own_W 0 ha 0 hb j := by rw [own_W, if_neg (fun q => q.1 rfl), if_neg (fun q => q.1 rfl)]; rfl
theorem own_eqx {x y : Int32} {X Y : Nat} (hx : x.toBitVec.toNat = X) (hy : y.toBitVec.toNat = Y) : x = y ↔ (X / 64 = Y / 64 ∧ X % 64 = Y % 64) := by
  rw [← Int32.toBitVec_inj, ← BitVec.toNat_inj, hx, hy]; omega
theorem own_term {a x aA : Int32} {A X : Nat} (hA : a.toBitVec.toNat = A) (hX : x.toBitVec.toNat = X) : ((if ¬ aA = 0 ∧ X / 64 = a.toBitVec.toNat / 64 then ((1 : Int64) <<< (a &&& 63).toInt64) else 0) &&& ((1 : Int64) <<< (x &&& 63).toInt64) = 0) ↔ ¬ (¬ aA = 0 ∧ x = a) := by
  rw [own_eqx hX hA, hA]
  by_cases c : ¬ aA = 0 ∧ X / 64 = A / 64
  · rw [if_pos c, own_and0 hA hX]
    exact ⟨fun q r => q r.2.2.symm, fun q r => q ⟨c.1, c.2, r.symm⟩⟩
  · rw [if_neg c]; exact ⟨fun _ r => c ⟨r.1, r.2.1⟩, fun _ => Int64.zero_and⟩
theorem own_mem {ha hb x aA bB : Int32} {A B X : Nat} (hA : ha.toBitVec.toNat = A) (hB : hb.toBitVec.toNat = B) (hX : x.toBitVec.toNat = X) : (¬ (own_W aA ha bB hb (X / 64) &&& ((1 : Int64) <<< (x &&& 63).toInt64)) = 0) ↔ ((¬ aA = (0 : Int32) ∧ x = ha) ∨ (¬ bB = (0 : Int32) ∧ x = hb)) := by
  rw [own_W, own_or0, own_term hA hX, own_term hB hX]
  constructor
  · intro q
    by_cases c : ¬ aA = (0 : Int32) ∧ x = ha
    · exact Or.inl c
    · by_cases d : ¬ bB = (0 : Int32) ∧ x = hb
      · exact Or.inr d
      · exact absurd ⟨c, d⟩ q
  · intro q r; exact q.elim r.1 r.2
theorem own_n1 (aA ha bB hb : Int32) (j : Nat) : ¬ own_W aA ha bB hb j = -1 := by
  rw [own_W, own_bit rfl, own_bit rfl]
  split <;> split
  · exact own_Bm1 ⟨_, Nat.mod_lt _ (by decide)⟩ ⟨_, Nat.mod_lt _ (by decide)⟩
  · exact own_Bm2 ⟨_, Nat.mod_lt _ (by decide)⟩
  · exact own_Bm3 ⟨_, Nat.mod_lt _ (by decide)⟩
  · decide
theorem own_nA {ha hb : Int32} {A : Nat} (hA : ha.toBitVec.toNat = A) : ¬ ¬ (own_W 0 ha 0 hb (A / 64) &&& ((1 : Int64) <<< (ha &&& 63).toInt64)) = 0 := fun q => by
  rw [own_mem hA rfl hA] at q; exact q.elim (fun r => r.1 rfl) (fun r => r.1 rfl)
theorem own_nB {ha hb : Int32} {B : Nat} (hB : hb.toBitVec.toNat = B) : ¬ ¬ (own_W 0 ha 0 hb (B / 64) &&& ((1 : Int64) <<< (hb &&& 63).toInt64)) = 0 := fun q => by
  rw [own_mem rfl hB hB] at q; exact q.elim (fun r => r.1 rfl) (fun r => r.1 rfl)
theorem own_aA {ha hb : Int32} {A : Nat} (hA : ha.toBitVec.toNat = A) (j : Nat) : (if j = A / 64 then own_W 0 ha 0 hb j ||| ((1 : Int64) <<< (ha &&& 63).toInt64) else own_W 0 ha 0 hb j) = own_W 1 ha 0 hb j := by
  rw [← own_W0, own_W, hA, if_neg (c := ¬ (0 : Int32) = 0 ∧ j = hb.toBitVec.toNat / 64) (fun q => q.1 rfl)]
  by_cases c : j = A / 64
  · rw [if_pos c, if_pos ⟨by decide, c⟩, Int64.or_comm]
  · rw [if_neg c, if_neg (fun q => c q.2)]; rfl
theorem own_aB0 {aA ha hb : Int32} {B : Nat} (hB : hb.toBitVec.toNat = B) (j : Nat) : (if j = B / 64 then own_W aA ha 0 hb j ||| ((1 : Int64) <<< (hb &&& 63).toInt64) else own_W aA ha 0 hb j) = own_W aA ha 1 hb j := by
  rw [own_W, own_W, hB, if_neg (c := ¬ (0 : Int32) = 0 ∧ j = B / 64) (fun q => q.1 rfl)]
  by_cases c : j = B / 64
  · rw [if_pos c, if_pos (c := ¬ (1 : Int32) = 0 ∧ j = B / 64) ⟨by decide, c⟩, Int64.or_zero]
  · rw [if_neg c, if_neg (c := ¬ (1 : Int32) = 0 ∧ j = B / 64) (fun q => c q.2)]
theorem own_aB {ha hb : Int32} {B : Nat} (hB : hb.toBitVec.toNat = B) (j : Nat) : (if j = B / 64 then own_W 0 ha 0 hb j ||| ((1 : Int64) <<< (hb &&& 63).toInt64) else own_W 0 ha 0 hb j) = own_W 0 ha 1 hb j := own_aB0 hB j
theorem own_cB {ha hb : Int32} {A B : Nat} (hA : ha.toBitVec.toNat = A) (hB : hb.toBitVec.toNat = B) (q : ¬ (own_W 1 ha 0 hb (B / 64) &&& ((1 : Int64) <<< (hb &&& 63).toInt64)) = 0) : (1 : Int32) = (if hb = ha then (1 : Int32) else 2) ∧ ∀ j, own_W 1 ha 0 hb j = own_W 1 ha 1 hb j := by
  rw [own_mem hA hB hB] at q
  have e : hb = ha := q.elim (fun r => r.2) (fun r => absurd rfl r.1)
  subst e
  refine ⟨(if_pos rfl).symm, fun j => ?_⟩
  rw [own_W, own_W]
  by_cases c : j = hb.toBitVec.toNat / 64
  · rw [if_pos (c := ¬ (1 : Int32) = 0 ∧ j = hb.toBitVec.toNat / 64) ⟨by decide, c⟩, if_neg (fun q => q.1 rfl), Int64.or_self, Int64.or_zero]
  · rw [if_neg (c := ¬ (1 : Int32) = 0 ∧ j = hb.toBitVec.toNat / 64) (fun q => c q.2), if_neg (fun q => q.1 rfl)]
theorem own_dB {ha hb : Int32} {A B : Nat} (hA : ha.toBitVec.toNat = A) (hB : hb.toBitVec.toNat = B) (q : ¬ ¬ (own_W 1 ha 0 hb (B / 64) &&& ((1 : Int64) <<< (hb &&& 63).toInt64)) = 0) : (1 : Int32) + 1 = (if hb = ha then (1 : Int32) else 2) ∧ ∀ j, (if j = B / 64 then own_W 1 ha 0 hb j ||| ((1 : Int64) <<< (hb &&& 63).toInt64) else own_W 1 ha 0 hb j) = own_W 1 ha 1 hb j := by
  rw [own_mem hA hB hB] at q
  exact ⟨by rw [if_neg (fun e => q (Or.inl ⟨by decide, e⟩))]; rfl, own_aB0 hB⟩
theorem own_tab : ∀ (F T : Fin 4) (b0 b1 b2 : Bool), F.val ≤ T.val → own_fh (fun i => if i = 0 then b0 else if i = 1 then b1 else b2) (T.val - F.val) F.val = (if (¬ 0 < F.val ∧ 0 < T.val ∧ b0 = true) then 0 else if (¬ 1 < F.val ∧ 1 < T.val ∧ b1 = true) then 1 else if (¬ 2 < F.val ∧ 2 < T.val ∧ b2 = true) then 2 else T.val) := by decide +kernel
theorem own_fh_congr {b b' : Nat → Bool} (h : ∀ i, i < 3 → b i = b' i) : ∀ {k i : Nat}, i + k ≤ 3 → own_fh b k i = own_fh b' k i
  | 0, i, _ => rfl
  | k + 1, i, q => by rw [own_fh, own_fh, h i (by omega), own_fh_congr h (by omega)]
theorem own_step {P Q : Prop} [Decidable P] [Decidable Q] (e : P ↔ Q) {k x y : Int32} {K Y : Nat} (hk : k.toInt = (K : Int)) (hy : y.toInt = (Y : Int)) (hx : x = if P then k else y) : x.toInt = ((if Q then K else Y : Nat) : Int) := by
  subst hx
  by_cases p : P
  · rw [if_pos p, if_pos (e.mp p)]; exact hk
  · rw [if_neg p, if_neg (fun q => p (e.mpr q))]; exact hy
theorem own_fin {zf zt g x2 x1 x0 : Int32} {Fr To : Nat} {X : Nat → Int32} {H : Int32 → Prop} [∀ x, Decidable (H x)] (hF : zf.toInt = (Fr : Int)) (hT : zt.toInt = (To : Int)) (hT3 : To ≤ 3) (hFT : Fr ≤ To) (hg : g.toInt = (own_fh (fun i => decide (H (X i))) (To - Fr) Fr : Int))
    (e2 : x2 = if (¬ (2 : Int32) < zf ∧ (2 : Int32) < zt ∧ H (X 2)) then (2 : Int32) else zt) (e1 : x1 = if (¬ (1 : Int32) < zf ∧ (1 : Int32) < zt ∧ H (X 1)) then (1 : Int32) else x2) (e0 : x0 = if (¬ (0 : Int32) < zf ∧ (0 : Int32) < zt ∧ H (X 0)) then (0 : Int32) else x1) : g = x0 := by
  have k : ∀ (n : Int32) (K : Nat), n.toInt = (K : Int) → ((¬ n < zf ∧ n < zt ∧ H (X K)) ↔ (¬ K < Fr ∧ K < To ∧ decide (H (X K)) = true)) := fun n K h => by rw [OwnNum.lt_iff h hF, OwnNum.lt_iff h hT, decide_eq_true_iff]
  have q2 := own_step (k 2 2 rfl) (show (2 : Int32).toInt = ((2 : Nat) : Int) from rfl) hT e2
  have q1 := own_step (k 1 1 rfl) (show (1 : Int32).toInt = ((1 : Nat) : Int) from rfl) q2 e1
  have q0 := own_step (k 0 0 rfl) (show (0 : Int32).toInt = ((0 : Nat) : Int) from rfl) q1 e0
  refine Int32.toInt_inj.mp ?_
  rw [hg, q0]
  congr 1
  rw [own_fh_congr (b' := fun i => if i = 0 then decide (H (X 0)) else if i = 1 then decide (H (X 1)) else decide (H (X 2))) (fun i hi => by match i, hi with | 0, _ => rfl | 1, _ => rfl | 2, _ => rfl) (by omega)]
  exact own_tab ⟨Fr, by omega⟩ ⟨To, by omega⟩ _ _ _ hFT
theorem pn_1 : plainName "com/example/outrigger/outrigger/OrdinalSetFirstHeldPinLaw" = true := by first | (simp [plainName, overriddenIn]; done) | decide +kernel
theorem ef_rmPick (m : MethodId) (x0 : Int32) (x1 : Int32) (x2 : Int32) (x3 : Int32) : entryFrame m #[(.int x0), (.int x1), (.int x2), (.int x3)] 4 = mkF m 0 #[.val (.int x0), .val (.int x1), .val (.int x2), .val (.int x3)] [] := by first | (simp [entryFrame, mkF, argsToLocals, Value.category]; done) | rfl
set_option maxRecDepth 65536 in
set_option maxHeartbeats 40000000 in
theorem rmPick (l : Launch) (Z : State) (a0 : Array Value) (hw : ∀ d ∈ tables_1, d.before a0 Z = true) (h0 : Heap) (n0 : Nat) (Z0 : n0 ≤ h0.size) (mm a b x : Int32) :
    KCt false l (⟨"com/example/outrigger/outrigger/OrdinalSetFirstHeldPinLaw", "pick", "(IIII)I"⟩ : MethodName) method_3_code 4 (some .int) ({ frames := 0, cells := 0, slots := 0, locals := 0 } : Room) Z n0 h0 #[(.int mm), (.int a), (.int b), (.int x)] [] (fun v h => ∃ r : Int32, v = some (.int r) ∧ h0 = h) := by
  refine k_enter (tbl := tables_1) (a0 := a0) (Ls := #[.val (.int mm), .val (.int a), .val (.int b), .val (.int x)]) (plainFor_of_name pn_1) hw Z0 (fun m => ef_rmPick m mm a b x) ?_
  intro p e s m below meth c T C P
  refine k_iloadN (pc' := 1) C P d1_0 rfl rfl ?_
  refine k_ifB (pcY := 6) (pcN := 4) C P d1_1 (by decide) (by decide) rfl ?_ ?_
  · intro (hc1 : ¬ mm = (0 : Int32))
    refine k_iloadN (pc' := 7) C P d1_6 rfl rfl ?_
    refine k_iconst (z := (1 : Int32)) (pc' := 8) C P d1_7 rfl rfl ?_
    refine k_icB (pcY := 13) (pcN := 11) C P d1_8 (by decide) (by decide) rfl ?_ ?_
    · intro (hc8 : ¬ mm = (1 : Int32))
      refine k_iloadN (pc' := 14) C P d1_13 rfl rfl ?_
      refine k_iconst (z := (2 : Int32)) (pc' := 15) C P d1_14 rfl rfl ?_
      refine k_icB (pcY := 23) (pcN := 18) C P d1_15 (by decide) (by decide) rfl ?_ ?_
      · intro (hc15 : ¬ mm = (2 : Int32))
        refine k_iloadN (pc' := 24) C P d1_23 rfl rfl ?_
        exact k_retI C P d1_24 (by decide) (by decide) ⟨_, rfl, rfl⟩
      · intro (hc15 : mm = (2 : Int32))
        refine k_iloadN (pc' := 19) C P d1_18 rfl rfl ?_
        refine k_bipush (z := (64 : Int32)) (pc' := 21) C P d1_19 rfl rfl ?_
        refine k_iadd (pc' := 22) C P d1_21 rfl ?_
        exact k_retI C P d1_22 (by decide) (by decide) ⟨_, rfl, rfl⟩
    · intro (hc8 : mm = (1 : Int32))
      refine k_iloadN (pc' := 12) C P d1_11 rfl rfl ?_
      exact k_retI C P d1_12 (by decide) (by decide) ⟨_, rfl, rfl⟩
  · intro (hc1 : mm = (0 : Int32))
    refine k_iloadN (pc' := 5) C P d1_4 rfl rfl ?_
    exact k_retI C P d1_5 (by decide) (by decide) ⟨_, rfl, rfl⟩
theorem pn_11 : plainName "com/example/outrigger/outrigger/OrdinalSetFirstHeldPinLaw" = true := by first | (simp [plainName, overriddenIn]; done) | decide +kernel
theorem ef_rmHeld (m : MethodId) (x0 : Int32) (x1 : Int32) (x2 : Int32) (x3 : Int32) (x4 : Int32) : entryFrame m #[(.int x0), (.int x1), (.int x2), (.int x3), (.int x4)] 5 = mkF m 0 #[.val (.int x0), .val (.int x1), .val (.int x2), .val (.int x3), .val (.int x4)] [] := by first | (simp [entryFrame, mkF, argsToLocals, Value.category]; done) | rfl
set_option maxRecDepth 65536 in
set_option maxHeartbeats 40000000 in
theorem rmHeld (l : Launch) (Z : State) (a0 : Array Value) (hw : ∀ d ∈ tables_1, d.before a0 Z = true) (h0 : Heap) (n0 : Nat) (Z0 : n0 ≤ h0.size) (x aA a bB b : Int32) :
    KCt false l (⟨"com/example/outrigger/outrigger/OrdinalSetFirstHeldPinLaw", "held", "(IZIZI)Z"⟩ : MethodName) method_4_code 5 (some .boolean) ({ frames := 0, cells := 0, slots := 0, locals := 0 } : Room) Z n0 h0 #[(.int x), (.int aA), (.int a), (.int bB), (.int b)] [] (fun v h => v = some (.int (if ((¬ aA = (0 : Int32) ∧ x = a) ∨ (¬ bB = (0 : Int32) ∧ x = b)) then 1 else 0)) ∧ h0 = h) := by
  refine k_enter (tbl := tables_1) (a0 := a0) (Ls := #[.val (.int x), .val (.int aA), .val (.int a), .val (.int bB), .val (.int b)]) (plainFor_of_name pn_11) hw Z0 (fun m => ef_rmHeld m x aA a bB b) ?_
  intro p e s m below meth c T C P
  refine k_iloadN (pc' := 1) C P d11_0 rfl rfl ?_
  refine k_ifB (pcY := 9) (pcN := 4) C P d11_1 (by decide) (by decide) rfl ?_ ?_
  · intro (hc1 : aA = (0 : Int32))
    refine k_iloadN (pc' := 10) C P d11_9 rfl rfl ?_
    refine k_ifB (pcY := 23) (pcN := 13) C P d11_10 (by decide) (by decide) rfl ?_ ?_
    · intro (hc10 : bB = (0 : Int32))
      refine k_iconst (z := (0 : Int32)) (pc' := 24) C P d11_23 rfl rfl ?_
      exact k_retZ (z' := (0 : Int32)) C P (by simp) d11_24 rfl (by decide) (by decide) ⟨by rw [if_neg (fun q => q.elim (fun q => q.1 hc1) (fun q => q.1 hc10))], rfl⟩
    · intro (hc10 : ¬ bB = (0 : Int32))
      refine k_iloadN (pc' := 14) C P d11_13 rfl rfl ?_
      refine k_iload (pc' := 16) C P d11_14 rfl rfl ?_
      refine k_icB (pcY := 23) (pcN := 19) C P d11_16 (by decide) (by decide) rfl ?_ ?_
      · intro (hc16 : ¬ x = b)
        refine k_iconst (z := (0 : Int32)) (pc' := 24) C P d11_23 rfl rfl ?_
        exact k_retZ (z' := (0 : Int32)) C P (by simp) d11_24 rfl (by decide) (by decide) ⟨by rw [if_neg (fun q => q.elim (fun q => q.1 hc1) (fun q => hc16 q.2))], rfl⟩
      · intro (hc16 : x = b)
        refine k_iconst (z := (1 : Int32)) (pc' := 20) C P d11_19 rfl rfl ?_
        refine k_goto (pc' := 24) C P d11_20 (by decide) (by decide) ?_
        exact k_retZ (z' := (1 : Int32)) C P (by simp) d11_24 rfl (by decide) (by decide) ⟨by rw [if_pos (Or.inr ⟨hc10, hc16⟩)], rfl⟩
  · intro (hc1 : ¬ aA = (0 : Int32))
    refine k_iloadN (pc' := 5) C P d11_4 rfl rfl ?_
    refine k_iloadN (pc' := 6) C P d11_5 rfl rfl ?_
    refine k_icB (pcY := 19) (pcN := 9) C P d11_6 (by decide) (by decide) rfl ?_ ?_
    · intro (hc6 : x = a)
      refine k_iconst (z := (1 : Int32)) (pc' := 20) C P d11_19 rfl rfl ?_
      refine k_goto (pc' := 24) C P d11_20 (by decide) (by decide) ?_
      exact k_retZ (z' := (1 : Int32)) C P (by simp) d11_24 rfl (by decide) (by decide) ⟨by rw [if_pos (Or.inl ⟨hc1, hc6⟩)], rfl⟩
    · intro (hc6 : ¬ x = a)
      refine k_iloadN (pc' := 10) C P d11_9 rfl rfl ?_
      refine k_ifB (pcY := 23) (pcN := 13) C P d11_10 (by decide) (by decide) rfl ?_ ?_
      · intro (hc10 : bB = (0 : Int32))
        refine k_iconst (z := (0 : Int32)) (pc' := 24) C P d11_23 rfl rfl ?_
        exact k_retZ (z' := (0 : Int32)) C P (by simp) d11_24 rfl (by decide) (by decide) ⟨by rw [if_neg (fun q => q.elim (fun q => hc6 q.2) (fun q => q.1 hc10))], rfl⟩
      · intro (hc10 : ¬ bB = (0 : Int32))
        refine k_iloadN (pc' := 14) C P d11_13 rfl rfl ?_
        refine k_iload (pc' := 16) C P d11_14 rfl rfl ?_
        refine k_icB (pcY := 23) (pcN := 19) C P d11_16 (by decide) (by decide) rfl ?_ ?_
        · intro (hc16 : ¬ x = b)
          refine k_iconst (z := (0 : Int32)) (pc' := 24) C P d11_23 rfl rfl ?_
          exact k_retZ (z' := (0 : Int32)) C P (by simp) d11_24 rfl (by decide) (by decide) ⟨by rw [if_neg (fun q => q.elim (fun q => hc6 q.2) (fun q => hc16 q.2))], rfl⟩
        · intro (hc16 : x = b)
          refine k_iconst (z := (1 : Int32)) (pc' := 20) C P d11_19 rfl rfl ?_
          refine k_goto (pc' := 24) C P d11_20 (by decide) (by decide) ?_
          exact k_retZ (z' := (1 : Int32)) C P (by simp) d11_24 rfl (by decide) (by decide) ⟨by rw [if_pos (Or.inr ⟨hc10, hc16⟩)], rfl⟩
theorem ef_rmMax (m : MethodId) (x0 : Int32) (x1 : Int32) : entryFrame m #[(.int x0), (.int x1)] 2 = mkF m 0 #[.val (.int x0), .val (.int x1)] [] := by first | (simp [entryFrame, mkF, argsToLocals, Value.category]; done) | rfl
set_option maxRecDepth 65536 in
set_option maxHeartbeats 40000000 in
theorem rmMax (l : Launch) (Z : State) (a0 : Array Value) (hw : ∀ d ∈ tables_1, d.before a0 Z = true) (h0 : Heap) (n0 : Nat) (Z0 : n0 ≤ h0.size) (x y r : Int32) (h1 : x < y → y = r) (h2 : ¬ x < y → x = r) :
    KCt false l (⟨"java/lang/Math", "max", "(II)I"⟩ : MethodName) jdk_29_method_65_code 2 (some .int) ({ frames := 0, cells := 0, slots := 0, locals := 0 } : Room) Z n0 h0 #[(.int x), (.int y)] [] (fun v h => v = some (.int r) ∧ h0 = h) := by
  refine k_enter (tbl := tables_1) (a0 := a0) (Ls := #[.val (.int x), .val (.int y)]) (Jvm.Free.JP.mathPlain rfl (by decide +kernel)) hw Z0 (fun m => ef_rmMax m x y) ?_
  intro p e s m below meth c T C P
  refine k_iloadN (pc' := 1) C P d8_0 rfl rfl ?_
  refine k_iloadN (pc' := 2) C P d8_1 rfl rfl ?_
  refine k_icB (pcY := 9) (pcN := 5) C P d8_2 (by decide) (by decide) rfl ?_ ?_
  · intro (hc2 : x < y)
    refine k_iloadN (pc' := 10) C P d8_9 rfl rfl ?_
    exact k_retI C P d8_10 (by decide) (by decide) ⟨by rw [h1 hc2], rfl⟩
  · intro (hc2 : ¬ x < y)
    refine k_iloadN (pc' := 6) C P d8_5 rfl rfl ?_
    refine k_goto (pc' := 10) C P d8_6 (by decide) (by decide) ?_
    exact k_retI C P d8_10 (by decide) (by decide) ⟨by rw [h2 hc2], rfl⟩
theorem ef_rmMin (m : MethodId) (x0 : Int32) (x1 : Int32) : entryFrame m #[(.int x0), (.int x1)] 2 = mkF m 0 #[.val (.int x0), .val (.int x1)] [] := by first | (simp [entryFrame, mkF, argsToLocals, Value.category]; done) | rfl
set_option maxRecDepth 65536 in
set_option maxHeartbeats 40000000 in
theorem rmMin (l : Launch) (Z : State) (a0 : Array Value) (hw : ∀ d ∈ tables_1, d.before a0 Z = true) (h0 : Heap) (n0 : Nat) (Z0 : n0 ≤ h0.size) (x y r : Int32) (h1 : y < x → y = r) (h2 : ¬ y < x → x = r) :
    KCt false l (⟨"java/lang/Math", "min", "(II)I"⟩ : MethodName) jdk_29_method_69_code 2 (some .int) ({ frames := 0, cells := 0, slots := 0, locals := 0 } : Room) Z n0 h0 #[(.int x), (.int y)] [] (fun v h => v = some (.int r) ∧ h0 = h) := by
  refine k_enter (tbl := tables_1) (a0 := a0) (Ls := #[.val (.int x), .val (.int y)]) (Jvm.Free.JP.mathPlain rfl (by decide +kernel)) hw Z0 (fun m => ef_rmMin m x y) ?_
  intro p e s m below meth c T C P
  refine k_iloadN (pc' := 1) C P d10_0 rfl rfl ?_
  refine k_iloadN (pc' := 2) C P d10_1 rfl rfl ?_
  refine k_icB (pcY := 9) (pcN := 5) C P d10_2 (by decide) (by decide) rfl ?_ ?_
  · intro (hc2 : y < x)
    refine k_iloadN (pc' := 10) C P d10_9 rfl rfl ?_
    exact k_retI C P d10_10 (by decide) (by decide) ⟨by rw [h1 hc2], rfl⟩
  · intro (hc2 : ¬ y < x)
    refine k_iloadN (pc' := 6) C P d10_5 rfl rfl ?_
    refine k_goto (pc' := 10) C P d10_6 (by decide) (by decide) ?_
    exact k_retI C P d10_10 (by decide) (by decide) ⟨by rw [h2 hc2], rfl⟩
theorem pn_9 : plainName "java/util/Arrays" = true := by first | (simp [plainName, overriddenIn]; done) | decide +kernel
theorem ef_rmCpA (m : MethodId) (x0 : Addr) (x1 : Int32) : entryFrame m #[(.ref x0), (.int x1)] 3 = mkF m 0 #[.val (.ref x0), .val (.int x1), .unset] [] := by first | (simp [entryFrame, mkF, argsToLocals, Value.category]; done) | rfl
set_option maxRecDepth 65536 in
set_option maxHeartbeats 40000000 in
theorem rmCpA (l : Launch) (Z : State) (a0 : Array Value) (hw : ∀ d ∈ tables_1, d.before a0 Z = true) (h0 : Heap) (n0 : Nat) (Z0 : n0 ≤ h0.size) (a : Addr) (k : ClassId) (N M : Nat) (f : Nat → Int64) (zN z : Int32) (hzN : zN.toInt = (N : Int)) (hz : z.toInt = (M : Int)) (hNM : N < M) (hM : M ≤ 16) (V : KVA Z h0 a k .long N (fun j => .long (f j))) :
    KCt false l (⟨"java/util/Arrays", "copyOf", "([JI)[J"⟩ : MethodName) jdk_65_method_124_code 3 (some (.array .long)) ({ frames := 2, cells := 1, slots := 16, locals := 40 } : Room) Z n0 h0 #[(.ref a), (.int z)] [] (fun v h => ∃ (b : Addr) (k' : ClassId), v = some (.ref b) ∧ n0 ≤ b ∧ h0.size ≤ b ∧ KVA Z h b k' .long M (fun j => .long (if j < N then f j else 0)) ∧ Exa Z h b "[J") := by
  refine k_enter (tbl := tables_1) (a0 := a0) (Ls := #[.val (.ref a), .val (.int z), .unset]) (plainFor_of_name pn_9) hw Z0 (fun m => ef_rmCpA m a z) ?_
  intro p e s m below meth c T C P
  refine k_iloadN (pc' := 1) C P d9_0 rfl rfl ?_
  refine k_aloadN (pc' := 2) C P d9_1 rfl rfl rfl ?_
  refine k_arrlen (z := zN) (pc' := 3) C P V d9_2 hzN rfl ?_
  refine k_icY (pc' := 14) C P d9_3 (fun q => by rw [OwnNum.eq_iff hz hzN] at q; omega) (by decide) (by decide) ?_
  refine k_iloadN (pc' := 15) C P d9_14 rfl rfl ?_
  refine k_newpE (ad := "[J") (pc' := 17) (cells' := 1) (slots' := 16) (N := M) (cap := 16) C P (C.w 16 rfl) (by decide) d9_15 hz hM (by decide) rfl rfl (by decide) (by decide) rfl ?_
  intro T1 h1 b1 k1 P1 hs1 ge_b1 sz_b1 E1 V1 A1
  have ne_a_b1 : a ≠ b1 := Nat.ne_of_lt (hs1 ▸ V.lt)
  have f1_a := V.ext E1
  refine k_astoreN (l' := #[.val (.ref a), .val (.int z), .val (.ref b1)]) (pc' := 18) C P1 d9_17 rfl rfl rfl ?_
  refine k_aloadN (pc' := 19) C P1 d9_18 rfl rfl rfl ?_
  refine k_iconst (z := (0 : Int32)) (pc' := 20) C P1 d9_19 rfl rfl ?_
  refine k_aloadN (pc' := 21) C P1 d9_20 rfl rfl rfl ?_
  refine k_iconst (z := (0 : Int32)) (pc' := 22) C P1 d9_21 rfl rfl ?_
  refine k_aloadN (pc' := 23) C P1 d9_22 rfl rfl rfl ?_
  refine k_arrlen (z := zN) (pc' := 24) C P1 f1_a d9_23 hzN rfl ?_
  refine k_iloadN (pc' := 25) C P1 d9_24 rfl rfl ?_
  refine k_callT (pc' := 28) (cells' := 1) (slots' := 16) (W := 4) C P1 (C.w 50 rfl) (C.w 51 rfl) (C.w 52 rfl) (C.w 44 rfl) (by decide) (rmMin l Z a0 hw _ n0 P1.size zN z zN (fun q => by rw [OwnNum.lt_iff hz hzN] at q; omega) (fun _ => rfl)) [(.int zN), (.int z)] [(.int (0 : Int32)), (.ref b1), (.int (0 : Int32)), (.ref a)] rfl (lenOf pd_0 rfl) rfl (Nat.le_of_eq rfl) d9_25 rfl (by decide) (by decide) rfl rfl (by decide) (by decide) all0 rfl ?_
  intro T2 h2 v2 P2 K2 Q2
  obtain ⟨e2, g2⟩ := Q2
  subst g2
  subst e2
  show KGo p e below _ T2 m 28 #[.val (.ref a), .val (.int z), .val (.ref b1)] [(.int zN), (.int (0 : Int32)), (.ref b1), (.int (0 : Int32)), (.ref a)]
  refine k_acopy (S := 0) (D := 0) (n := N) (g' := (fun j => Value.long (if j < N then f j else 0))) (pc' := 31) (W := 0) C P2 (C.w 53 rfl) (C.w 56 rfl) (C.w 54 rfl) (C.w 55 rfl) f1_a V1 rfl (fun _ _ => rfl) (fun _ _ => rfl) rfl rfl hzN (by omega) (by omega) (fun i _ => own_cp i N f) d9_28 rfl (Nat.le_of_eq rfl) (by decide) (by decide) ge_b1 (Or.inr sz_b1) rfl ?_
  intro T3 h3 P3 K3 V3
  have f3_a := f1_a.keep K3 (ninS ne_a_b1 nin0)
  have f3_E_b1 := Exa.keep A1 K3
  refine k_aloadN (pc' := 32) C P3 d9_31 rfl rfl rfl ?_
  exact k_retA C P3 d9_32 rfl rfl (by decide) (by decide) ⟨b1, _, rfl, ge_b1, sz_b1, V3, f3_E_b1⟩
theorem ef_rmCpB (m : MethodId) (x0 : Addr) (x1 : Int32) : entryFrame m #[(.ref x0), (.int x1)] 3 = mkF m 0 #[.val (.ref x0), .val (.int x1), .unset] [] := by first | (simp [entryFrame, mkF, argsToLocals, Value.category]; done) | rfl
set_option maxRecDepth 65536 in
set_option maxHeartbeats 40000000 in
theorem rmCpB (l : Launch) (Z : State) (a0 : Array Value) (hw : ∀ d ∈ tables_1, d.before a0 Z = true) (h0 : Heap) (n0 : Nat) (Z0 : n0 ≤ h0.size) (a : Addr) (k : ClassId) (N M : Nat) (f : Nat → Int64) (z : Int32) (hz : z.toInt = (M : Int)) (hNM : N = M) (hM : M ≤ 16) (V : KVA Z h0 a k .long N (fun j => .long (f j))) (EA : Exa Z h0 a "[J") :
    KCt false l (⟨"java/util/Arrays", "copyOf", "([JI)[J"⟩ : MethodName) jdk_65_method_124_code 3 (some (.array .long)) ({ frames := 2, cells := 1, slots := 16, locals := 40 } : Room) Z n0 h0 #[(.ref a), (.int z)] [] (fun v h => ∃ (b : Addr) (k' : ClassId), v = some (.ref b) ∧ n0 ≤ b ∧ h0.size ≤ b ∧ KVA Z h b k' .long M (fun j => .long (if j < N then f j else 0)) ∧ Exa Z h b "[J") := by
  subst hNM
  refine k_enter (tbl := tables_1) (a0 := a0) (Ls := #[.val (.ref a), .val (.int z), .unset]) (plainFor_of_name pn_9) hw Z0 (fun m => ef_rmCpB m a z) ?_
  intro p e s m below meth c T C P
  refine k_iloadN (pc' := 1) C P d9_0 rfl rfl ?_
  refine k_aloadN (pc' := 2) C P d9_1 rfl rfl rfl ?_
  refine k_arrlen (z := z) (pc' := 3) C P V d9_2 hz rfl ?_
  refine k_icN (pc' := 6) C P d9_3 (rfl : (_ : Int32) = _) rfl ?_
  refine k_aloadN (pc' := 7) C P d9_6 rfl rfl rfl ?_
  refine k_clone (ad := "[J") (pc' := 10) (cells' := 1) (slots' := 16) (W := 0) (cap := 16) C P (C.w 60 rfl) (C.w 61 rfl) (C.w 65 rfl) (C.w 63 rfl) (C.w 64 rfl) (C.w 66 rfl) V (fun _ _ => rfl) EA d9_7 rfl (Nat.le_of_eq rfl) (by decide) (by decide) hM rfl rfl (by decide) (by decide) rfl ?_
  intro T4 h4 b4 P4 hs4 ge_b4 sz_b4 E4 V4 A4
  have ne_a_b4 : a ≠ b4 := Nat.ne_of_lt (hs4 ▸ V.lt)
  have f4_a := V.ext E4
  have f4_E_a := Exa.ext E4 EA
  refine k_castO (pc' := 13) C P4 (C.w 67 rfl) (Ins.self A4) d9_10 rfl ?_
  intro T5 P5
  exact k_retA C P5 d9_13 rfl rfl (by decide) (by decide) ⟨b4, _, rfl, ge_b4, sz_b4, V4.congr (fun j hj => by show Value.long _ = _; rw [if_pos hj]), A4⟩
theorem pn_2 : plainName "com/example/outrigger/outrigger/OrdinalSet" = true := by first | (simp [plainName, overriddenIn]; done) | decide +kernel
theorem ef_rmI (m : MethodId) (x0 : Addr) : entryFrame m #[(.ref x0)] 1 = mkF m 0 #[.val (.ref x0)] [] := by first | (simp [entryFrame, mkF, argsToLocals, Value.category]; done) | rfl
set_option maxRecDepth 65536 in
set_option maxHeartbeats 40000000 in
theorem rmI (l : Launch) (Z : State) (a0 : Array Value) (hw : ∀ d ∈ tables_1, d.before a0 Z = true) (h0 : Heap) (n0 : Nat) (Z0 : n0 ≤ h0.size) (a : Addr) (ge_a : n0 ≤ a) (F : KOb Z h0 a "com/example/outrigger/outrigger/OrdinalSet" layO [.null, .int 0]) :
    KCt false l (⟨"com/example/outrigger/outrigger/OrdinalSet", "<init>", "()V"⟩ : MethodName) prog_118_method_1_code 1 none ({ frames := 1, cells := 2, slots := 2, locals := 15 } : Room) Z n0 h0 #[(.ref a)] [a] (fun v h => v = none ∧ ∃ lv w0 : Addr, n0 ≤ w0 ∧ h0.size ≤ w0 ∧ own_OS Z h a lv w0 1 (fun _ => 0) 0) := by
  refine k_enter (tbl := tables_1) (a0 := a0) (Ls := #[.val (.ref a)]) (plainFor_of_name pn_2) hw Z0 (fun m => ef_rmI m a) ?_
  intro p e s m below meth c T C P
  have sz_a : a ∈ [a] ∨ h0.size ≤ a := Or.inl (by simp)
  refine k_aloadN (pc' := 1) C P d2_0 rfl rfl rfl ?_
  refine k_initObj (pc' := 4) (W := 0) C P (C.w 11 rfl) (C.w 12 rfl) (C.w 13 rfl) d2_1 rfl (by decide) (by decide) (by decide) rfl ?_
  intro T6 P6
  refine k_aloadN (pc' := 5) C P6 d2_4 rfl rfl rfl ?_
  refine k_iconst (z := (1 : Int32)) (pc' := 6) C P6 d2_5 rfl rfl ?_
  refine k_newra (pc' := 9) (cells' := 1) (slots' := 1) (N := 1) (cap := 1) (ad := "[[J") C P6 (by decide) (by decide) (C.w 14 rfl) (C.w 15 rfl) d2_6 rfl (by decide) (by decide) rfl rfl (by decide) (by decide) rfl ?_
  intro T7 h7 b7 k7 P7 hs7 ge_b7 sz_b7 E7 V7 A7 O7
  have ne_a_b7 : a ≠ b7 := Nat.ne_of_lt (hs7 ▸ F.lt)
  have f7_a := F.ext E7
  refine k_dup (pc' := 10) C P7 d2_9 rfl rfl ?_
  refine k_iconst (z := (0 : Int32)) (pc' := 11) C P7 d2_10 rfl rfl ?_
  refine k_iconst (z := (1 : Int32)) (pc' := 12) C P7 d2_11 rfl rfl ?_
  refine k_newpE (ad := "[J") (pc' := 14) (cells' := 2) (slots' := 2) (N := 1) (cap := 1) C P7 (C.w 16 rfl) (by decide) d2_12 rfl (by decide) (by decide) rfl rfl (by decide) (by decide) rfl ?_
  intro T8 h8 b8 k8 P8 hs8 ge_b8 sz_b8 E8 V8 A8
  have ne_a_b8 : a ≠ b8 := Nat.ne_of_lt (hs8 ▸ f7_a.lt)
  have ne_b7_b8 : b7 ≠ b8 := Nat.ne_of_lt (hs8 ▸ V7.lt)
  have f8_a := f7_a.ext E8
  have f8_b7 := V7.ext E8
  refine k_aastore (J := 0) (g' := (fun _ => Value.ref b8)) (pc' := 15) C P8 f8_b7 rfl (f8_b7.stoA O7 (Ins.self A8)) d2_14 rfl (by decide) (fun i hi => if_pos (by omega)) ge_b7 (Or.inr sz_b7) rfl ?_
  intro T9 h9 P9 W9 V9
  have f9_a := f8_a.other W9 ne_a_b7
  have f9_E_b8 := Exa.wr W9 A8
  have f9_b8 := V8.other W9 (Ne.symm ne_b7_b8)
  refine k_putf (pc' := 18) (ty := (.array (.array .long))) (v' := (.ref b7)) C P9 (C.w 18 rfl) Via.refl f9_a 0 rfl (Or.inl (C.w 19 rfl)) (C.w 6 rfl) (by decide) rfl rfl d2_15 ge_a sz_a rfl ?_
  intro T10 h10 P10 W10
  have f10_a : KOb Z h10 a "com/example/outrigger/outrigger/OrdinalSet" layO [(.ref b7), (.int (0 : Int32))] := f9_a.put (lokO C.hw) 0 rfl W10 rfl
  have f10_b7 := V9.other W10 (Ne.symm ne_a_b7)
  have f10_E_b8 := Exa.wr W10 f9_E_b8
  have f10_b8 := f9_b8.other W10 (Ne.symm ne_a_b8)
  exact k_retV C P10 d2_18 (by decide) (by decide) ⟨rfl, b7, b8, ge_b8, sz_b8, f10_a, ⟨_, f10_b8⟩, by decide, by decide, fun _ _ => rfl, Or.inl ⟨rfl, _, f10_b7⟩⟩
theorem pn_5 : plainName "com/example/outrigger/outrigger/OrdinalSet" = true := by first | (simp [plainName, overriddenIn]; done) | decide +kernel
theorem ef_rmG0 (m : MethodId) (x0 : Addr) (x1 : Int32) : entryFrame m #[(.ref x0), (.int x1)] 6 = mkF m 0 #[.val (.ref x0), .val (.int x1), .unset, .unset, .unset, .unset] [] := by first | (simp [entryFrame, mkF, argsToLocals, Value.category]; done) | rfl
set_option maxRecDepth 65536 in
set_option maxHeartbeats 40000000 in
theorem rmG0 (l : Launch) (Z : State) (a0 : Array Value) (hw : ∀ d ∈ tables_1, d.before a0 Z = true) (h0 : Heap) (n0 : Nat) (Z0 : n0 ≤ h0.size) (a lv w0 : Addr) (kL k0 : ClassId) (L : Nat) (zL : Int32) (hzL : zL.toInt = (L : Int)) (W : Nat → Int64) (sz n : Int32) (Nn : Nat) (hn : n.toInt = (Nn : Int)) (ge_a : n0 ≤ a) (F : KOb Z h0 a "com/example/outrigger/outrigger/OrdinalSet" layO [.ref lv, .int sz]) (V0 : KVA Z h0 w0 k0 .long L (fun j => .long (W j))) (nl : Nat) (g : Nat → Value) (VL : KVA Z h0 lv kL (.array .long) nl g) (hnl : 0 < nl) (hg : g 0 = .ref w0) (hle : Nn ≤ L) :
    KCt false l (⟨"com/example/outrigger/outrigger/OrdinalSet", "grow", "(I)V"⟩ : MethodName) prog_118_method_10_code 6 none ({ frames := 3, cells := 4, slots := 40, locals := 70 } : Room) Z n0 h0 #[(.ref a), (.int n)] [] (fun v h => v = none ∧ h0 = h) := by
  refine k_enter (tbl := tables_1) (a0 := a0) (Ls := #[.val (.ref a), .val (.int n), .unset, .unset, .unset, .unset]) (plainFor_of_name pn_5) hw Z0 (fun m => ef_rmG0 m a n) ?_
  intro p e s m below meth c T C P
  refine k_iloadN (pc' := 1) C P d5_0 rfl rfl ?_
  refine k_aloadN (pc' := 2) C P d5_1 rfl rfl rfl ?_
  refine k_getf (pc' := 5) C P (C.w 18 rfl) Via.refl F 0 rfl rfl d5_2 rfl ?_
  intro T11 P11
  refine k_iconst (z := (0 : Int32)) (pc' := 6) C P11 d5_5 rfl rfl ?_
  refine k_aaload (J := 0) (v := (.ref w0)) (pc' := 7) C P11 VL rfl d5_6 rfl hnl hg rfl ?_
  refine k_arrlen (z := zL) (pc' := 8) C P11 V0 d5_7 hzL rfl ?_
  refine k_icN (pc' := 11) C P11 d5_8 (fun q => by rw [OwnNum.lt_iff hzL hn] at q; omega) rfl ?_
  exact k_retV C P11 d5_11 (by decide) (by decide) ⟨rfl, rfl⟩
theorem ef_rmG1 (m : MethodId) (x0 : Addr) (x1 : Int32) : entryFrame m #[(.ref x0), (.int x1)] 6 = mkF m 0 #[.val (.ref x0), .val (.int x1), .unset, .unset, .unset, .unset] [] := by first | (simp [entryFrame, mkF, argsToLocals, Value.category]; done) | rfl
set_option maxRecDepth 65536 in
set_option maxHeartbeats 40000000 in
theorem rmG1 (l : Launch) (Z : State) (a0 : Array Value) (hw : ∀ d ∈ tables_1, d.before a0 Z = true) (h0 : Heap) (n0 : Nat) (Z0 : n0 ≤ h0.size) (a lv w0 : Addr) (kL k0 : ClassId) (L : Nat) (zL : Int32) (hzL : zL.toInt = (L : Int)) (W : Nat → Int64) (sz n : Int32) (Nn : Nat) (hn : n.toInt = (Nn : Int)) (ge_a : n0 ≤ a) (F : KOb Z h0 a "com/example/outrigger/outrigger/OrdinalSet" layO [.ref lv, .int sz]) (V0 : KVA Z h0 w0 k0 .long L (fun j => .long (W j))) (M : Nat) (zM : Int32) (hzM : zM.toInt = (M : Int)) (hLM : L < M) (hM2 : 2 ≤ M) (hM : M ≤ 16) (hlt : L < Nn) (h1 : n < (2 : Int32) * zL → (2 : Int32) * zL = zM) (h2 : ¬ n < (2 : Int32) * zL → n = zM) (hW : ∀ j, L ≤ j → W j = 0) (VL : KVA Z h0 lv kL (.array .long) 1 (fun _ => .ref w0)) :
    KCt false l (⟨"com/example/outrigger/outrigger/OrdinalSet", "grow", "(I)V"⟩ : MethodName) prog_118_method_10_code 6 none ({ frames := 3, cells := 4, slots := 40, locals := 70 } : Room) Z n0 h0 #[(.ref a), (.int n)] [a] (fun v h => v = none ∧ ∃ (lv' w0' w1' : Addr) (kL' k0' k1' : ClassId) (f1 : Nat → Int64), n0 ≤ w0' ∧ h0.size ≤ w0' ∧ KOb Z h a "com/example/outrigger/outrigger/OrdinalSet" layO [.ref lv', .int sz] ∧ KVA Z h lv' kL' (.array .long) 2 (fun j => if j = 0 then .ref w0' else .ref w1') ∧ KVA Z h w0' k0' .long M (fun j => .long (W j)) ∧ KVA Z h w1' k1' .long 1 (fun j => .long (f1 j)) ∧ Exa Z h w1' "[J" ∧ w0' ≠ w1') := by
  refine k_enter (tbl := tables_1) (a0 := a0) (Ls := #[.val (.ref a), .val (.int n), .unset, .unset, .unset, .unset]) (plainFor_of_name pn_5) hw Z0 (fun m => ef_rmG1 m a n) ?_
  intro p e s m below meth c T C P
  have sz_a : a ∈ [a] ∨ h0.size ≤ a := Or.inl (by simp)
  refine k_iloadN (pc' := 1) C P d5_0 rfl rfl ?_
  refine k_aloadN (pc' := 2) C P d5_1 rfl rfl rfl ?_
  refine k_getf (pc' := 5) C P (C.w 18 rfl) Via.refl F 0 rfl rfl d5_2 rfl ?_
  intro T12 P12
  refine k_iconst (z := (0 : Int32)) (pc' := 6) C P12 d5_5 rfl rfl ?_
  refine k_aaload (J := 0) (v := (.ref w0)) (pc' := 7) C P12 VL rfl d5_6 rfl (by decide) rfl rfl ?_
  refine k_arrlen (z := zL) (pc' := 8) C P12 V0 d5_7 hzL rfl ?_
  refine k_icY (pc' := 12) C P12 d5_8 ((OwnNum.lt_iff hzL hn).mpr hlt) (by decide) (by decide) ?_
  refine k_iloadN (pc' := 13) C P12 d5_12 rfl rfl ?_
  refine k_iconst (z := (2 : Int32)) (pc' := 14) C P12 d5_13 rfl rfl ?_
  refine k_aloadN (pc' := 15) C P12 d5_14 rfl rfl rfl ?_
  refine k_getf (pc' := 18) C P12 (C.w 18 rfl) Via.refl F 0 rfl rfl d5_15 rfl ?_
  intro T13 P13
  refine k_iconst (z := (0 : Int32)) (pc' := 19) C P13 d5_18 rfl rfl ?_
  refine k_aaload (J := 0) (v := (.ref w0)) (pc' := 20) C P13 VL rfl d5_19 rfl (by decide) rfl rfl ?_
  refine k_arrlen (z := zL) (pc' := 21) C P13 V0 d5_20 hzL rfl ?_
  refine k_imul (pc' := 22) C P13 d5_21 rfl ?_
  refine k_callT (pc' := 25) (cells' := 0) (slots' := 0) (W := 0) C P13 (C.w 42 rfl) (C.w 43 rfl) (C.w 45 rfl) (C.w 44 rfl) (by decide) (rmMax l Z a0 hw _ n0 P13.size n ((2 : Int32) * zL) zM h1 h2) [(.int n), (.int ((2 : Int32) * zL))] [] rfl (lenOf pd_0 rfl) rfl (Nat.le_of_eq rfl) d5_22 rfl (by decide) (by decide) rfl rfl (by decide) (by decide) all0 rfl ?_
  intro T14 h14 v14 P14 K14 Q14
  obtain ⟨e14, g14⟩ := Q14
  subst g14
  subst e14
  show KGo p e below _ T14 m 25 #[.val (.ref a), .val (.int n), .unset, .unset, .unset, .unset] [(.int zM)]
  refine k_istoreN (l' := #[.val (.ref a), .val (.int n), .val (.int zM), .unset, .unset, .unset]) (pc' := 26) C P14 d5_25 rfl rfl ?_
  refine k_iconst (z := (1 : Int32)) (pc' := 27) C P14 d5_26 rfl rfl ?_
  refine k_istoreN (l' := #[.val (.ref a), .val (.int n), .val (.int zM), .val (.int (1 : Int32)), .unset, .unset]) (pc' := 28) C P14 d5_27 rfl rfl ?_
  refine k_iloadN (pc' := 29) C P14 d5_28 rfl rfl ?_
  refine k_istore (l' := #[.val (.ref a), .val (.int n), .val (.int zM), .val (.int (1 : Int32)), .val (.int zM), .unset]) (pc' := 31) C P14 d5_29 rfl rfl ?_
  refine k_iload (pc' := 33) C P14 d5_31 rfl rfl ?_
  refine k_iconst (z := (1 : Int32)) (pc' := 34) C P14 d5_33 rfl rfl ?_
  refine k_icN (pc' := 37) C P14 d5_34 ((OwnNum.lt_iff (show (1 : Int32).toInt = ((1 : Nat) : Int) from rfl) hzM).mpr (by omega)) rfl ?_
  refine k_iinc (z := (2 : Int32)) (l' := #[.val (.ref a), .val (.int n), .val (.int zM), .val (.int (2 : Int32)), .val (.int zM), .unset]) (pc' := 40) C P14 d5_37 rfl rfl rfl rfl ?_
  refine k_iload (pc' := 42) C P14 d5_40 rfl rfl ?_
  refine k_bipush (z := (64 : Int32)) (pc' := 44) C P14 d5_42 rfl rfl ?_
  refine k_iadd (pc' := 45) C P14 d5_44 rfl ?_
  refine k_iconst (z := (1 : Int32)) (pc' := 46) C P14 d5_45 rfl rfl ?_
  refine k_isub (pc' := 47) C P14 d5_46 rfl ?_
  refine k_bipush (z := (6 : Int32)) (pc' := 49) C P14 d5_47 rfl rfl ?_
  refine k_iushr (pc' := 50) C P14 d5_49 rfl ?_
  rw [own_lv1 hzM hM2 hM]
  refine k_istore (l' := #[.val (.ref a), .val (.int n), .val (.int zM), .val (.int (2 : Int32)), .val (.int (1 : Int32)), .unset]) (pc' := 52) C P14 d5_50 rfl rfl ?_
  refine k_goto (pc' := 31) C P14 d5_52 (by decide) (by decide) ?_
  refine k_iload (pc' := 33) C P14 d5_31 rfl rfl ?_
  refine k_iconst (z := (1 : Int32)) (pc' := 34) C P14 d5_33 rfl rfl ?_
  refine k_icY (pc' := 55) C P14 d5_34 (show ¬ (1 : Int32) < 1 by decide) (by decide) (by decide) ?_
  refine k_iloadN (pc' := 56) C P14 d5_55 rfl rfl ?_
  refine k_newra (pc' := 59) (cells' := 1) (slots' := 2) (N := 2) (cap := 2) (ad := "[[J") C P14 (by decide) (by decide) (C.w 14 rfl) (C.w 15 rfl) d5_56 rfl (by decide) (by decide) rfl rfl (by decide) (by decide) rfl ?_
  intro T15 h15 b15 k15 P15 hs15 ge_b15 sz_b15 E15 V15 A15 O15
  have ne_a_b15 : a ≠ b15 := Nat.ne_of_lt (hs15 ▸ F.lt)
  have ne_lv_b15 : lv ≠ b15 := Nat.ne_of_lt (hs15 ▸ VL.lt)
  have ne_w0_b15 : w0 ≠ b15 := Nat.ne_of_lt (hs15 ▸ V0.lt)
  have f15_a := F.ext E15
  have f15_lv := VL.ext E15
  have f15_w0 := V0.ext E15
  refine k_astore (l' := #[.val (.ref a), .val (.int n), .val (.int zM), .val (.int (2 : Int32)), .val (.ref b15), .unset]) (pc' := 61) C P15 d5_59 rfl rfl rfl ?_
  refine k_iconst (z := (0 : Int32)) (pc' := 62) C P15 d5_61 rfl rfl ?_
  refine k_istore (l' := #[.val (.ref a), .val (.int n), .val (.int zM), .val (.int (2 : Int32)), .val (.ref b15), .val (.int (0 : Int32))]) (pc' := 64) C P15 d5_62 rfl rfl ?_
  refine k_iload (pc' := 66) C P15 d5_64 rfl rfl ?_
  refine k_iloadN (pc' := 67) C P15 d5_66 rfl rfl ?_
  refine k_icN (pc' := 70) C P15 d5_67 (show (0 : Int32) < (2 : Int32) by decide) rfl ?_
  refine k_aload (pc' := 72) C P15 d5_70 rfl rfl rfl ?_
  refine k_iload (pc' := 74) C P15 d5_72 rfl rfl ?_
  refine k_iload (pc' := 76) C P15 d5_74 rfl rfl ?_
  refine k_aloadN (pc' := 77) C P15 d5_76 rfl rfl rfl ?_
  refine k_getf (pc' := 80) C P15 (C.w 18 rfl) Via.refl f15_a 0 rfl rfl d5_77 rfl ?_
  intro T16 P16
  refine k_arrlen (z := (1 : Int32)) (pc' := 81) C P16 f15_lv d5_80 rfl rfl ?_
  refine k_icN (pc' := 84) C P16 d5_81 (show (0 : Int32) < (1 : Int32) by decide) rfl ?_
  refine k_aloadN (pc' := 85) C P16 d5_84 rfl rfl rfl ?_
  refine k_getf (pc' := 88) C P16 (C.w 18 rfl) Via.refl f15_a 0 rfl rfl d5_85 rfl ?_
  intro T17 P17
  refine k_iload (pc' := 90) C P17 d5_88 rfl rfl ?_
  refine k_aaload (J := 0) (v := (.ref w0)) (pc' := 91) C P17 f15_lv rfl d5_90 rfl (by decide) rfl rfl ?_
  refine k_goto (pc' := 97) C P17 d5_91 (by decide) (by decide) ?_
  refine k_iloadN (pc' := 98) C P17 d5_97 rfl rfl ?_
  refine k_callT (pc' := 101) (cells' := 2) (slots' := 18) (W := 2) C P17 (C.w 46 rfl) (C.w 47 rfl) (C.w 49 rfl) (C.w 48 rfl) (by decide) (rmCpA l Z a0 hw _ n0 P17.size w0 k0 L M W zL zM hzL hzM hLM hM f15_w0) [(.ref w0), (.int zM)] [(.int (0 : Int32)), (.ref b15)] rfl (lenOf pd_1 rfl) rfl (Nat.le_of_eq rfl) d5_98 rfl (by decide) (by decide) rfl rfl (by decide) (by decide) all0 rfl ?_
  intro T18 h18 v18 P18 K18 Q18
  obtain ⟨c18, k18, rfl, gb18, zb18, V18, A18⟩ := Q18
  have f18_a := f15_a.keep K18 nin0
  have f18_lv := f15_lv.keep K18 nin0
  have f18_w0 := f15_w0.keep K18 nin0
  have f18_b15 := V15.keep K18 nin0
  show KGo p e below _ T18 m 101 #[.val (.ref a), .val (.int n), .val (.int zM), .val (.int (2 : Int32)), .val (.ref b15), .val (.int (0 : Int32))] [(.ref c18), (.int (0 : Int32)), (.ref b15)]
  refine k_aastore (J := 0) (g' := (fun j => if j = 0 then Value.ref c18 else Value.null)) (pc' := 102) C P18 f18_b15 rfl (f18_b15.stoA O15 (Ins.self A18)) d5_101 rfl (by decide) (fun i hi => by match i, hi with | 0, _ => rfl | 1, _ => rfl) ge_b15 (Or.inr sz_b15) rfl ?_
  intro T19 h19 P19 W19 V19
  have f19_a := f18_a.other W19 ne_a_b15
  have f19_lv := f18_lv.other W19 ne_lv_b15
  have f19_w0 := f18_w0.other W19 ne_w0_b15
  have f19_c18 := V18.other W19 (KVA.neT V18 f18_b15 nofun)
  have f19_E_c18 := Exa.wr W19 A18
  refine k_iloadN (pc' := 103) C P19 d5_102 rfl rfl ?_
  refine k_bipush (z := (64 : Int32)) (pc' := 105) C P19 d5_103 rfl rfl ?_
  refine k_iadd (pc' := 106) C P19 d5_105 rfl ?_
  refine k_iconst (z := (1 : Int32)) (pc' := 107) C P19 d5_106 rfl rfl ?_
  refine k_isub (pc' := 108) C P19 d5_107 rfl ?_
  refine k_bipush (z := (6 : Int32)) (pc' := 110) C P19 d5_108 rfl rfl ?_
  refine k_iushr (pc' := 111) C P19 d5_110 rfl ?_
  rw [own_lv1 hzM hM2 hM]
  refine k_istoreN (l' := #[.val (.ref a), .val (.int n), .val (.int (1 : Int32)), .val (.int (2 : Int32)), .val (.ref b15), .val (.int (0 : Int32))]) (pc' := 112) C P19 d5_111 rfl rfl ?_
  refine k_iinc (z := (1 : Int32)) (l' := #[.val (.ref a), .val (.int n), .val (.int (1 : Int32)), .val (.int (2 : Int32)), .val (.ref b15), .val (.int (1 : Int32))]) (pc' := 115) C P19 d5_112 rfl rfl rfl rfl ?_
  refine k_goto (pc' := 64) C P19 d5_115 (by decide) (by decide) ?_
  refine k_iload (pc' := 66) C P19 d5_64 rfl rfl ?_
  refine k_iloadN (pc' := 67) C P19 d5_66 rfl rfl ?_
  refine k_icN (pc' := 70) C P19 d5_67 (show (1 : Int32) < (2 : Int32) by decide) rfl ?_
  refine k_aload (pc' := 72) C P19 d5_70 rfl rfl rfl ?_
  refine k_iload (pc' := 74) C P19 d5_72 rfl rfl ?_
  refine k_iload (pc' := 76) C P19 d5_74 rfl rfl ?_
  refine k_aloadN (pc' := 77) C P19 d5_76 rfl rfl rfl ?_
  refine k_getf (pc' := 80) C P19 (C.w 18 rfl) Via.refl f19_a 0 rfl rfl d5_77 rfl ?_
  intro T20 P20
  refine k_arrlen (z := (1 : Int32)) (pc' := 81) C P20 f19_lv d5_80 rfl rfl ?_
  refine k_icY (pc' := 94) C P20 d5_81 (show ¬ (1 : Int32) < (1 : Int32) by decide) (by decide) (by decide) ?_
  refine k_iconst (z := (0 : Int32)) (pc' := 95) C P20 d5_94 rfl rfl ?_
  refine k_newp (pc' := 97) (cells' := 3) (slots' := 18) (N := 0) (cap := 0) C P20 (C.w 16 rfl) d5_95 rfl (by decide) (by decide) rfl rfl (by decide) (by decide) rfl ?_
  intro T21 h21 b21 k21 P21 hs21 ge_b21 sz_b21 E21 V21
  have ne_a_b21 : a ≠ b21 := Nat.ne_of_lt (hs21 ▸ f19_a.lt)
  have ne_lv_b21 : lv ≠ b21 := Nat.ne_of_lt (hs21 ▸ f19_lv.lt)
  have ne_w0_b21 : w0 ≠ b21 := Nat.ne_of_lt (hs21 ▸ f19_w0.lt)
  have ne_b15_b21 : b15 ≠ b21 := Nat.ne_of_lt (hs21 ▸ V19.lt)
  have ne_c18_b21 : c18 ≠ b21 := Nat.ne_of_lt (hs21 ▸ f19_c18.lt)
  have f21_a := f19_a.ext E21
  have f21_lv := f19_lv.ext E21
  have f21_w0 := f19_w0.ext E21
  have f21_b15 := V19.ext E21
  have f21_c18 := f19_c18.ext E21
  have f21_E_c18 := Exa.ext E21 f19_E_c18
  refine k_iloadN (pc' := 98) C P21 d5_97 rfl rfl ?_
  have c0lt := f21_c18.lt
  refine k_callT (pc' := 101) (cells' := 4) (slots' := 34) (W := 2) C P21 (C.w 46 rfl) (C.w 47 rfl) (C.w 49 rfl) (C.w 48 rfl) (by decide) (rmCpA l Z a0 hw _ n0 P21.size b21 k21 0 1 (fun _ => 0) 0 1 rfl rfl (by decide) (by decide) V21) [(.ref b21), (.int (1 : Int32))] [(.int (1 : Int32)), (.ref b15)] rfl (lenOf pd_1 rfl) rfl (Nat.le_of_eq rfl) d5_98 rfl (by decide) (by decide) rfl rfl (by decide) (by decide) all0 rfl ?_
  intro T22 h22 v22 P22 K22 Q22
  obtain ⟨c22, k22, rfl, gb22, zb22, V22, A22⟩ := Q22
  have f22_a := f21_a.keep K22 nin0
  have f22_lv := f21_lv.keep K22 nin0
  have f22_w0 := f21_w0.keep K22 nin0
  have f22_b15 := f21_b15.keep K22 nin0
  have f22_c18 := f21_c18.keep K22 nin0
  have f22_E_c18 := Exa.keep f21_E_c18 K22
  have f22_b21 := V21.keep K22 nin0
  show KGo p e below _ T22 m 101 #[.val (.ref a), .val (.int n), .val (.int (1 : Int32)), .val (.int (2 : Int32)), .val (.ref b15), .val (.int (1 : Int32))] [(.ref c22), (.int (1 : Int32)), (.ref b15)]
  refine k_aastore (J := 1) (g' := (fun j => if j = 0 then Value.ref c18 else Value.ref c22)) (pc' := 102) C P22 f22_b15 rfl (f22_b15.stoA O15 (Ins.self A22)) d5_101 rfl (by decide) (fun i hi => by match i, hi with | 0, _ => rfl | 1, _ => rfl) ge_b15 (Or.inr sz_b15) rfl ?_
  intro T23 h23 P23 W23 V23
  have f23_a := f22_a.other W23 ne_a_b15
  have f23_lv := f22_lv.other W23 ne_lv_b15
  have f23_w0 := f22_w0.other W23 ne_w0_b15
  have f23_c18 := f22_c18.other W23 (KVA.neT f22_c18 f22_b15 nofun)
  have f23_E_c18 := Exa.wr W23 f22_E_c18
  have f23_b21 := f22_b21.other W23 (Ne.symm ne_b15_b21)
  have f23_c22 := V22.other W23 (KVA.neT V22 f22_b15 nofun)
  have f23_E_c22 := Exa.wr W23 A22
  refine k_iloadN (pc' := 103) C P23 d5_102 rfl rfl ?_
  refine k_bipush (z := (64 : Int32)) (pc' := 105) C P23 d5_103 rfl rfl ?_
  refine k_iadd (pc' := 106) C P23 d5_105 rfl ?_
  refine k_iconst (z := (1 : Int32)) (pc' := 107) C P23 d5_106 rfl rfl ?_
  refine k_isub (pc' := 108) C P23 d5_107 rfl ?_
  refine k_bipush (z := (6 : Int32)) (pc' := 110) C P23 d5_108 rfl rfl ?_
  refine k_iushr (pc' := 111) C P23 d5_110 rfl ?_
  refine k_istoreN (l' := #[.val (.ref a), .val (.int n), .val (.int (k_ushr (((1 : Int32) + (64 : Int32)) - (1 : Int32)) (6 : Int32))), .val (.int (2 : Int32)), .val (.ref b15), .val (.int (1 : Int32))]) (pc' := 112) C P23 d5_111 rfl rfl ?_
  refine k_iinc (z := (2 : Int32)) (l' := #[.val (.ref a), .val (.int n), .val (.int (k_ushr (((1 : Int32) + (64 : Int32)) - (1 : Int32)) (6 : Int32))), .val (.int (2 : Int32)), .val (.ref b15), .val (.int (2 : Int32))]) (pc' := 115) C P23 d5_112 rfl rfl rfl rfl ?_
  refine k_goto (pc' := 64) C P23 d5_115 (by decide) (by decide) ?_
  refine k_iload (pc' := 66) C P23 d5_64 rfl rfl ?_
  refine k_iloadN (pc' := 67) C P23 d5_66 rfl rfl ?_
  refine k_icY (pc' := 118) C P23 d5_67 (show ¬ (2 : Int32) < 2 by decide) (by decide) (by decide) ?_
  refine k_aloadN (pc' := 119) C P23 d5_118 rfl rfl rfl ?_
  refine k_aload (pc' := 121) C P23 d5_119 rfl rfl rfl ?_
  refine k_putf (pc' := 124) (ty := (.array (.array .long))) (v' := (.ref b15)) C P23 (C.w 18 rfl) Via.refl f23_a 0 rfl (Or.inl (C.w 19 rfl)) (C.w 6 rfl) (by decide) rfl rfl d5_121 ge_a sz_a rfl ?_
  intro T24 h24 P24 W24
  have f24_a : KOb Z h24 a "com/example/outrigger/outrigger/OrdinalSet" layO [(.ref b15), (.int sz)] := f23_a.put (lokO C.hw) 0 rfl W24 rfl
  have f24_lv := f23_lv.other W24 (f23_lv.ne_ob f23_a.exa (C.w 6 rfl))
  have f24_w0 := f23_w0.other W24 (f23_w0.ne_ob f23_a.exa (C.w 6 rfl))
  have f24_b15 := V23.other W24 (Ne.symm ne_a_b15)
  have f24_c18 := f23_c18.other W24 (f23_c18.ne_ob f23_a.exa (C.w 6 rfl))
  have f24_E_c18 := Exa.wr W24 f23_E_c18
  have f24_b21 := f23_b21.other W24 (Ne.symm ne_a_b21)
  have f24_c22 := f23_c22.other W24 (f23_c22.ne_ob f23_a.exa (C.w 6 rfl))
  have f24_E_c22 := Exa.wr W24 f23_E_c22
  exact k_retV C P24 d5_124 (by decide) (by decide) ⟨rfl, b15, c18, c22, _, _, _, _, gb18, Nat.le_trans P17.kept.1 zb18, f24_a, f24_b15, f24_c18.congr (fun j hj => by show Value.long _ = _; by_cases q : j < L <;> simp [q]; exact (hW j (by omega)).symm), f24_c22, f24_E_c22, Nat.ne_of_lt (Nat.lt_of_lt_of_le c0lt zb22)⟩
theorem ef_rmG2 (m : MethodId) (x0 : Addr) (x1 : Int32) : entryFrame m #[(.ref x0), (.int x1)] 6 = mkF m 0 #[.val (.ref x0), .val (.int x1), .unset, .unset, .unset, .unset] [] := by first | (simp [entryFrame, mkF, argsToLocals, Value.category]; done) | rfl
set_option maxRecDepth 65536 in
set_option maxHeartbeats 40000000 in
theorem rmG2 (l : Launch) (Z : State) (a0 : Array Value) (hw : ∀ d ∈ tables_1, d.before a0 Z = true) (h0 : Heap) (n0 : Nat) (Z0 : n0 ≤ h0.size) (a lv w0 : Addr) (kL k0 : ClassId) (L : Nat) (zL : Int32) (hzL : zL.toInt = (L : Int)) (W : Nat → Int64) (sz n : Int32) (Nn : Nat) (hn : n.toInt = (Nn : Int)) (ge_a : n0 ≤ a) (F : KOb Z h0 a "com/example/outrigger/outrigger/OrdinalSet" layO [.ref lv, .int sz]) (V0 : KVA Z h0 w0 k0 .long L (fun j => .long (W j))) (M : Nat) (zM : Int32) (hzM : zM.toInt = (M : Int)) (hLM : L < M) (hM2 : 2 ≤ M) (hM : M ≤ 16) (hlt : L < Nn) (h1 : n < (2 : Int32) * zL → (2 : Int32) * zL = zM) (h2 : ¬ n < (2 : Int32) * zL → n = zM) (hW : ∀ j, L ≤ j → W j = 0) (w1 : Addr) (k1 : ClassId) (f0 : Nat → Int64) (VL : KVA Z h0 lv kL (.array .long) 2 (fun j => if j = 0 then .ref w0 else .ref w1)) (V1 : KVA Z h0 w1 k1 .long 1 (fun j => .long (f0 j))) (E1 : Exa Z h0 w1 "[J") :
    KCt false l (⟨"com/example/outrigger/outrigger/OrdinalSet", "grow", "(I)V"⟩ : MethodName) prog_118_method_10_code 6 none ({ frames := 3, cells := 4, slots := 40, locals := 70 } : Room) Z n0 h0 #[(.ref a), (.int n)] [a] (fun v h => v = none ∧ ∃ (lv' w0' w1' : Addr) (kL' k0' k1' : ClassId) (f1 : Nat → Int64), n0 ≤ w0' ∧ h0.size ≤ w0' ∧ KOb Z h a "com/example/outrigger/outrigger/OrdinalSet" layO [.ref lv', .int sz] ∧ KVA Z h lv' kL' (.array .long) 2 (fun j => if j = 0 then .ref w0' else .ref w1') ∧ KVA Z h w0' k0' .long M (fun j => .long (W j)) ∧ KVA Z h w1' k1' .long 1 (fun j => .long (f1 j)) ∧ Exa Z h w1' "[J" ∧ w0' ≠ w1') := by
  refine k_enter (tbl := tables_1) (a0 := a0) (Ls := #[.val (.ref a), .val (.int n), .unset, .unset, .unset, .unset]) (plainFor_of_name pn_5) hw Z0 (fun m => ef_rmG2 m a n) ?_
  intro p e s m below meth c T C P
  have sz_a : a ∈ [a] ∨ h0.size ≤ a := Or.inl (by simp)
  refine k_iloadN (pc' := 1) C P d5_0 rfl rfl ?_
  refine k_aloadN (pc' := 2) C P d5_1 rfl rfl rfl ?_
  refine k_getf (pc' := 5) C P (C.w 18 rfl) Via.refl F 0 rfl rfl d5_2 rfl ?_
  intro T25 P25
  refine k_iconst (z := (0 : Int32)) (pc' := 6) C P25 d5_5 rfl rfl ?_
  refine k_aaload (J := 0) (v := (.ref w0)) (pc' := 7) C P25 VL rfl d5_6 rfl (by decide) rfl rfl ?_
  refine k_arrlen (z := zL) (pc' := 8) C P25 V0 d5_7 hzL rfl ?_
  refine k_icY (pc' := 12) C P25 d5_8 ((OwnNum.lt_iff hzL hn).mpr hlt) (by decide) (by decide) ?_
  refine k_iloadN (pc' := 13) C P25 d5_12 rfl rfl ?_
  refine k_iconst (z := (2 : Int32)) (pc' := 14) C P25 d5_13 rfl rfl ?_
  refine k_aloadN (pc' := 15) C P25 d5_14 rfl rfl rfl ?_
  refine k_getf (pc' := 18) C P25 (C.w 18 rfl) Via.refl F 0 rfl rfl d5_15 rfl ?_
  intro T26 P26
  refine k_iconst (z := (0 : Int32)) (pc' := 19) C P26 d5_18 rfl rfl ?_
  refine k_aaload (J := 0) (v := (.ref w0)) (pc' := 20) C P26 VL rfl d5_19 rfl (by decide) rfl rfl ?_
  refine k_arrlen (z := zL) (pc' := 21) C P26 V0 d5_20 hzL rfl ?_
  refine k_imul (pc' := 22) C P26 d5_21 rfl ?_
  refine k_callT (pc' := 25) (cells' := 0) (slots' := 0) (W := 0) C P26 (C.w 42 rfl) (C.w 43 rfl) (C.w 45 rfl) (C.w 44 rfl) (by decide) (rmMax l Z a0 hw _ n0 P26.size n ((2 : Int32) * zL) zM h1 h2) [(.int n), (.int ((2 : Int32) * zL))] [] rfl (lenOf pd_0 rfl) rfl (Nat.le_of_eq rfl) d5_22 rfl (by decide) (by decide) rfl rfl (by decide) (by decide) all0 rfl ?_
  intro T27 h27 v27 P27 K27 Q27
  obtain ⟨e27, g27⟩ := Q27
  subst g27
  subst e27
  show KGo p e below _ T27 m 25 #[.val (.ref a), .val (.int n), .unset, .unset, .unset, .unset] [(.int zM)]
  refine k_istoreN (l' := #[.val (.ref a), .val (.int n), .val (.int zM), .unset, .unset, .unset]) (pc' := 26) C P27 d5_25 rfl rfl ?_
  refine k_iconst (z := (1 : Int32)) (pc' := 27) C P27 d5_26 rfl rfl ?_
  refine k_istoreN (l' := #[.val (.ref a), .val (.int n), .val (.int zM), .val (.int (1 : Int32)), .unset, .unset]) (pc' := 28) C P27 d5_27 rfl rfl ?_
  refine k_iloadN (pc' := 29) C P27 d5_28 rfl rfl ?_
  refine k_istore (l' := #[.val (.ref a), .val (.int n), .val (.int zM), .val (.int (1 : Int32)), .val (.int zM), .unset]) (pc' := 31) C P27 d5_29 rfl rfl ?_
  refine k_iload (pc' := 33) C P27 d5_31 rfl rfl ?_
  refine k_iconst (z := (1 : Int32)) (pc' := 34) C P27 d5_33 rfl rfl ?_
  refine k_icN (pc' := 37) C P27 d5_34 ((OwnNum.lt_iff (show (1 : Int32).toInt = ((1 : Nat) : Int) from rfl) hzM).mpr (by omega)) rfl ?_
  refine k_iinc (z := (2 : Int32)) (l' := #[.val (.ref a), .val (.int n), .val (.int zM), .val (.int (2 : Int32)), .val (.int zM), .unset]) (pc' := 40) C P27 d5_37 rfl rfl rfl rfl ?_
  refine k_iload (pc' := 42) C P27 d5_40 rfl rfl ?_
  refine k_bipush (z := (64 : Int32)) (pc' := 44) C P27 d5_42 rfl rfl ?_
  refine k_iadd (pc' := 45) C P27 d5_44 rfl ?_
  refine k_iconst (z := (1 : Int32)) (pc' := 46) C P27 d5_45 rfl rfl ?_
  refine k_isub (pc' := 47) C P27 d5_46 rfl ?_
  refine k_bipush (z := (6 : Int32)) (pc' := 49) C P27 d5_47 rfl rfl ?_
  refine k_iushr (pc' := 50) C P27 d5_49 rfl ?_
  rw [own_lv1 hzM hM2 hM]
  refine k_istore (l' := #[.val (.ref a), .val (.int n), .val (.int zM), .val (.int (2 : Int32)), .val (.int (1 : Int32)), .unset]) (pc' := 52) C P27 d5_50 rfl rfl ?_
  refine k_goto (pc' := 31) C P27 d5_52 (by decide) (by decide) ?_
  refine k_iload (pc' := 33) C P27 d5_31 rfl rfl ?_
  refine k_iconst (z := (1 : Int32)) (pc' := 34) C P27 d5_33 rfl rfl ?_
  refine k_icY (pc' := 55) C P27 d5_34 (show ¬ (1 : Int32) < 1 by decide) (by decide) (by decide) ?_
  refine k_iloadN (pc' := 56) C P27 d5_55 rfl rfl ?_
  refine k_newra (pc' := 59) (cells' := 1) (slots' := 2) (N := 2) (cap := 2) (ad := "[[J") C P27 (by decide) (by decide) (C.w 14 rfl) (C.w 15 rfl) d5_56 rfl (by decide) (by decide) rfl rfl (by decide) (by decide) rfl ?_
  intro T28 h28 b28 k28 P28 hs28 ge_b28 sz_b28 E28 V28 A28 O28
  have ne_a_b28 : a ≠ b28 := Nat.ne_of_lt (hs28 ▸ F.lt)
  have ne_lv_b28 : lv ≠ b28 := Nat.ne_of_lt (hs28 ▸ VL.lt)
  have ne_w0_b28 : w0 ≠ b28 := Nat.ne_of_lt (hs28 ▸ V0.lt)
  have ne_w1_b28 : w1 ≠ b28 := Nat.ne_of_lt (hs28 ▸ V1.lt)
  have f28_a := F.ext E28
  have f28_lv := VL.ext E28
  have f28_w0 := V0.ext E28
  have f28_w1 := V1.ext E28
  have f28_E_w1 := Exa.ext E28 E1
  refine k_astore (l' := #[.val (.ref a), .val (.int n), .val (.int zM), .val (.int (2 : Int32)), .val (.ref b28), .unset]) (pc' := 61) C P28 d5_59 rfl rfl rfl ?_
  refine k_iconst (z := (0 : Int32)) (pc' := 62) C P28 d5_61 rfl rfl ?_
  refine k_istore (l' := #[.val (.ref a), .val (.int n), .val (.int zM), .val (.int (2 : Int32)), .val (.ref b28), .val (.int (0 : Int32))]) (pc' := 64) C P28 d5_62 rfl rfl ?_
  refine k_iload (pc' := 66) C P28 d5_64 rfl rfl ?_
  refine k_iloadN (pc' := 67) C P28 d5_66 rfl rfl ?_
  refine k_icN (pc' := 70) C P28 d5_67 (show (0 : Int32) < (2 : Int32) by decide) rfl ?_
  refine k_aload (pc' := 72) C P28 d5_70 rfl rfl rfl ?_
  refine k_iload (pc' := 74) C P28 d5_72 rfl rfl ?_
  refine k_iload (pc' := 76) C P28 d5_74 rfl rfl ?_
  refine k_aloadN (pc' := 77) C P28 d5_76 rfl rfl rfl ?_
  refine k_getf (pc' := 80) C P28 (C.w 18 rfl) Via.refl f28_a 0 rfl rfl d5_77 rfl ?_
  intro T29 P29
  refine k_arrlen (z := (2 : Int32)) (pc' := 81) C P29 f28_lv d5_80 rfl rfl ?_
  refine k_icN (pc' := 84) C P29 d5_81 (show (0 : Int32) < (2 : Int32) by decide) rfl ?_
  refine k_aloadN (pc' := 85) C P29 d5_84 rfl rfl rfl ?_
  refine k_getf (pc' := 88) C P29 (C.w 18 rfl) Via.refl f28_a 0 rfl rfl d5_85 rfl ?_
  intro T30 P30
  refine k_iload (pc' := 90) C P30 d5_88 rfl rfl ?_
  refine k_aaload (J := 0) (v := (.ref w0)) (pc' := 91) C P30 f28_lv rfl d5_90 rfl (by decide) rfl rfl ?_
  refine k_goto (pc' := 97) C P30 d5_91 (by decide) (by decide) ?_
  refine k_iloadN (pc' := 98) C P30 d5_97 rfl rfl ?_
  refine k_callT (pc' := 101) (cells' := 2) (slots' := 18) (W := 2) C P30 (C.w 46 rfl) (C.w 47 rfl) (C.w 49 rfl) (C.w 48 rfl) (by decide) (rmCpA l Z a0 hw _ n0 P30.size w0 k0 L M W zL zM hzL hzM hLM hM f28_w0) [(.ref w0), (.int zM)] [(.int (0 : Int32)), (.ref b28)] rfl (lenOf pd_1 rfl) rfl (Nat.le_of_eq rfl) d5_98 rfl (by decide) (by decide) rfl rfl (by decide) (by decide) all0 rfl ?_
  intro T31 h31 v31 P31 K31 Q31
  obtain ⟨c31, k31, rfl, gb31, zb31, V31, A31⟩ := Q31
  have f31_a := f28_a.keep K31 nin0
  have f31_lv := f28_lv.keep K31 nin0
  have f31_w0 := f28_w0.keep K31 nin0
  have f31_w1 := f28_w1.keep K31 nin0
  have f31_E_w1 := Exa.keep f28_E_w1 K31
  have f31_b28 := V28.keep K31 nin0
  show KGo p e below _ T31 m 101 #[.val (.ref a), .val (.int n), .val (.int zM), .val (.int (2 : Int32)), .val (.ref b28), .val (.int (0 : Int32))] [(.ref c31), (.int (0 : Int32)), (.ref b28)]
  refine k_aastore (J := 0) (g' := (fun j => if j = 0 then Value.ref c31 else Value.null)) (pc' := 102) C P31 f31_b28 rfl (f31_b28.stoA O28 (Ins.self A31)) d5_101 rfl (by decide) (fun i hi => by match i, hi with | 0, _ => rfl | 1, _ => rfl) ge_b28 (Or.inr sz_b28) rfl ?_
  intro T32 h32 P32 W32 V32
  have f32_a := f31_a.other W32 ne_a_b28
  have f32_lv := f31_lv.other W32 ne_lv_b28
  have f32_w0 := f31_w0.other W32 ne_w0_b28
  have f32_w1 := f31_w1.other W32 ne_w1_b28
  have f32_E_w1 := Exa.wr W32 f31_E_w1
  have f32_c31 := V31.other W32 (KVA.neT V31 f31_b28 nofun)
  have f32_E_c31 := Exa.wr W32 A31
  refine k_iloadN (pc' := 103) C P32 d5_102 rfl rfl ?_
  refine k_bipush (z := (64 : Int32)) (pc' := 105) C P32 d5_103 rfl rfl ?_
  refine k_iadd (pc' := 106) C P32 d5_105 rfl ?_
  refine k_iconst (z := (1 : Int32)) (pc' := 107) C P32 d5_106 rfl rfl ?_
  refine k_isub (pc' := 108) C P32 d5_107 rfl ?_
  refine k_bipush (z := (6 : Int32)) (pc' := 110) C P32 d5_108 rfl rfl ?_
  refine k_iushr (pc' := 111) C P32 d5_110 rfl ?_
  rw [own_lv1 hzM hM2 hM]
  refine k_istoreN (l' := #[.val (.ref a), .val (.int n), .val (.int (1 : Int32)), .val (.int (2 : Int32)), .val (.ref b28), .val (.int (0 : Int32))]) (pc' := 112) C P32 d5_111 rfl rfl ?_
  refine k_iinc (z := (1 : Int32)) (l' := #[.val (.ref a), .val (.int n), .val (.int (1 : Int32)), .val (.int (2 : Int32)), .val (.ref b28), .val (.int (1 : Int32))]) (pc' := 115) C P32 d5_112 rfl rfl rfl rfl ?_
  refine k_goto (pc' := 64) C P32 d5_115 (by decide) (by decide) ?_
  refine k_iload (pc' := 66) C P32 d5_64 rfl rfl ?_
  refine k_iloadN (pc' := 67) C P32 d5_66 rfl rfl ?_
  refine k_icN (pc' := 70) C P32 d5_67 (show (1 : Int32) < (2 : Int32) by decide) rfl ?_
  refine k_aload (pc' := 72) C P32 d5_70 rfl rfl rfl ?_
  refine k_iload (pc' := 74) C P32 d5_72 rfl rfl ?_
  refine k_iload (pc' := 76) C P32 d5_74 rfl rfl ?_
  refine k_aloadN (pc' := 77) C P32 d5_76 rfl rfl rfl ?_
  refine k_getf (pc' := 80) C P32 (C.w 18 rfl) Via.refl f32_a 0 rfl rfl d5_77 rfl ?_
  intro T33 P33
  refine k_arrlen (z := (2 : Int32)) (pc' := 81) C P33 f32_lv d5_80 rfl rfl ?_
  refine k_icN (pc' := 84) C P33 d5_81 (show (1 : Int32) < (2 : Int32) by decide) rfl ?_
  refine k_aloadN (pc' := 85) C P33 d5_84 rfl rfl rfl ?_
  refine k_getf (pc' := 88) C P33 (C.w 18 rfl) Via.refl f32_a 0 rfl rfl d5_85 rfl ?_
  intro T34 P34
  refine k_iload (pc' := 90) C P34 d5_88 rfl rfl ?_
  refine k_aaload (J := 1) (v := (.ref w1)) (pc' := 91) C P34 f32_lv rfl d5_90 rfl (by decide) rfl rfl ?_
  refine k_goto (pc' := 97) C P34 d5_91 (by decide) (by decide) ?_
  refine k_iloadN (pc' := 98) C P34 d5_97 rfl rfl ?_
  have c0lt := f32_c31.lt
  refine k_callT (pc' := 101) (cells' := 3) (slots' := 34) (W := 2) C P34 (C.w 46 rfl) (C.w 47 rfl) (C.w 49 rfl) (C.w 48 rfl) (by decide) (rmCpB l Z a0 hw _ n0 P34.size w1 k1 1 1 f0 1 rfl rfl (by decide) f32_w1 f32_E_w1) [(.ref w1), (.int (1 : Int32))] [(.int (1 : Int32)), (.ref b28)] rfl (lenOf pd_1 rfl) rfl (Nat.le_of_eq rfl) d5_98 rfl (by decide) (by decide) rfl rfl (by decide) (by decide) all0 rfl ?_
  intro T35 h35 v35 P35 K35 Q35
  obtain ⟨c35, k35, rfl, gb35, zb35, V35, A35⟩ := Q35
  have f35_a := f32_a.keep K35 nin0
  have f35_lv := f32_lv.keep K35 nin0
  have f35_w0 := f32_w0.keep K35 nin0
  have f35_w1 := f32_w1.keep K35 nin0
  have f35_E_w1 := Exa.keep f32_E_w1 K35
  have f35_b28 := V32.keep K35 nin0
  have f35_c31 := f32_c31.keep K35 nin0
  have f35_E_c31 := Exa.keep f32_E_c31 K35
  show KGo p e below _ T35 m 101 #[.val (.ref a), .val (.int n), .val (.int (1 : Int32)), .val (.int (2 : Int32)), .val (.ref b28), .val (.int (1 : Int32))] [(.ref c35), (.int (1 : Int32)), (.ref b28)]
  refine k_aastore (J := 1) (g' := (fun j => if j = 0 then Value.ref c31 else Value.ref c35)) (pc' := 102) C P35 f35_b28 rfl (f35_b28.stoA O28 (Ins.self A35)) d5_101 rfl (by decide) (fun i hi => by match i, hi with | 0, _ => rfl | 1, _ => rfl) ge_b28 (Or.inr sz_b28) rfl ?_
  intro T36 h36 P36 W36 V36
  have f36_a := f35_a.other W36 ne_a_b28
  have f36_lv := f35_lv.other W36 ne_lv_b28
  have f36_w0 := f35_w0.other W36 ne_w0_b28
  have f36_w1 := f35_w1.other W36 ne_w1_b28
  have f36_E_w1 := Exa.wr W36 f35_E_w1
  have f36_c31 := f35_c31.other W36 (KVA.neT f35_c31 f35_b28 nofun)
  have f36_E_c31 := Exa.wr W36 f35_E_c31
  have f36_c35 := V35.other W36 (KVA.neT V35 f35_b28 nofun)
  have f36_E_c35 := Exa.wr W36 A35
  refine k_iloadN (pc' := 103) C P36 d5_102 rfl rfl ?_
  refine k_bipush (z := (64 : Int32)) (pc' := 105) C P36 d5_103 rfl rfl ?_
  refine k_iadd (pc' := 106) C P36 d5_105 rfl ?_
  refine k_iconst (z := (1 : Int32)) (pc' := 107) C P36 d5_106 rfl rfl ?_
  refine k_isub (pc' := 108) C P36 d5_107 rfl ?_
  refine k_bipush (z := (6 : Int32)) (pc' := 110) C P36 d5_108 rfl rfl ?_
  refine k_iushr (pc' := 111) C P36 d5_110 rfl ?_
  refine k_istoreN (l' := #[.val (.ref a), .val (.int n), .val (.int (k_ushr (((1 : Int32) + (64 : Int32)) - (1 : Int32)) (6 : Int32))), .val (.int (2 : Int32)), .val (.ref b28), .val (.int (1 : Int32))]) (pc' := 112) C P36 d5_111 rfl rfl ?_
  refine k_iinc (z := (2 : Int32)) (l' := #[.val (.ref a), .val (.int n), .val (.int (k_ushr (((1 : Int32) + (64 : Int32)) - (1 : Int32)) (6 : Int32))), .val (.int (2 : Int32)), .val (.ref b28), .val (.int (2 : Int32))]) (pc' := 115) C P36 d5_112 rfl rfl rfl rfl ?_
  refine k_goto (pc' := 64) C P36 d5_115 (by decide) (by decide) ?_
  refine k_iload (pc' := 66) C P36 d5_64 rfl rfl ?_
  refine k_iloadN (pc' := 67) C P36 d5_66 rfl rfl ?_
  refine k_icY (pc' := 118) C P36 d5_67 (show ¬ (2 : Int32) < 2 by decide) (by decide) (by decide) ?_
  refine k_aloadN (pc' := 119) C P36 d5_118 rfl rfl rfl ?_
  refine k_aload (pc' := 121) C P36 d5_119 rfl rfl rfl ?_
  refine k_putf (pc' := 124) (ty := (.array (.array .long))) (v' := (.ref b28)) C P36 (C.w 18 rfl) Via.refl f36_a 0 rfl (Or.inl (C.w 19 rfl)) (C.w 6 rfl) (by decide) rfl rfl d5_121 ge_a sz_a rfl ?_
  intro T37 h37 P37 W37
  have f37_a : KOb Z h37 a "com/example/outrigger/outrigger/OrdinalSet" layO [(.ref b28), (.int sz)] := f36_a.put (lokO C.hw) 0 rfl W37 rfl
  have f37_lv := f36_lv.other W37 (f36_lv.ne_ob f36_a.exa (C.w 6 rfl))
  have f37_w0 := f36_w0.other W37 (f36_w0.ne_ob f36_a.exa (C.w 6 rfl))
  have f37_w1 := f36_w1.other W37 (f36_w1.ne_ob f36_a.exa (C.w 6 rfl))
  have f37_E_w1 := Exa.wr W37 f36_E_w1
  have f37_b28 := V36.other W37 (Ne.symm ne_a_b28)
  have f37_c31 := f36_c31.other W37 (f36_c31.ne_ob f36_a.exa (C.w 6 rfl))
  have f37_E_c31 := Exa.wr W37 f36_E_c31
  have f37_c35 := f36_c35.other W37 (f36_c35.ne_ob f36_a.exa (C.w 6 rfl))
  have f37_E_c35 := Exa.wr W37 f36_E_c35
  exact k_retV C P37 d5_124 (by decide) (by decide) ⟨rfl, b28, c31, c35, _, _, _, _, gb31, Nat.le_trans P30.kept.1 zb31, f37_a, f37_b28, f37_c31.congr (fun j hj => by show Value.long _ = _; by_cases q : j < L <;> simp [q]; exact (hW j (by omega)).symm), f37_c35, f37_E_c35, Nat.ne_of_lt (Nat.lt_of_lt_of_le c0lt zb35)⟩
theorem own_grow (l : Launch) (Z : State) (a0 : Array Value) (hw : ∀ d ∈ tables_1, d.before a0 Z = true) (h0 : Heap) (n0 : Nat) (Z0 : n0 ≤ h0.size) (a lv w0 : Addr) (L : Nat) (W : Nat → Int64) (sz n : Int32) (Nn : Nat) (hn : n.toInt = (Nn : Int)) (hn8 : Nn ≤ 8) (ge_a : n0 ≤ a) (gw : n0 ≤ w0) (O : own_OS Z h0 a lv w0 L W sz) :
    KCt false l (⟨"com/example/outrigger/outrigger/OrdinalSet", "grow", "(I)V"⟩ : MethodName) prog_118_method_10_code 6 none ({ frames := 3, cells := 4, slots := 40, locals := 70 } : Room) Z n0 h0 #[(.ref a), (.int n)] [a] (fun v h => v = none ∧ ∃ (lv' w0' : Addr) (L' : Nat), n0 ≤ w0' ∧ (w0' = w0 ∨ h0.size ≤ w0') ∧ Nn ≤ L' ∧ own_OS Z h a lv' w0' L' W sz) := by
  obtain ⟨F, ⟨k0, V0⟩, hL1, hL16, hW, hs⟩ := O
  have O : own_OS Z h0 a lv w0 L W sz := ⟨F, ⟨k0, V0⟩, hL1, hL16, hW, hs⟩
  have hzL : (Int32.ofNat L).toInt = (L : Int) := by rw [Int32.toInt_ofNat_of_lt (by omega)]
  by_cases q : Nn ≤ L
  · rcases hs with ⟨e, kL, VL⟩ | ⟨kL, k1, w1, f1, VL, V1, E1, ne⟩
    · exact ((rmG0 l Z a0 hw h0 n0 Z0 a lv w0 kL k0 L _ hzL W sz n Nn hn ge_a F V0 1 _ VL (by decide) rfl q).wide (by simp)).imp (fun v h hq => ⟨hq.1, lv, w0, L, gw, Or.inl rfl, q, hq.2 ▸ O⟩)
    · exact ((rmG0 l Z a0 hw h0 n0 Z0 a lv w0 kL k0 L _ hzL W sz n Nn hn ge_a F V0 2 _ VL (by decide) rfl q).wide (by simp)).imp (fun v h hq => ⟨hq.1, lv, w0, L, gw, Or.inl rfl, q, hq.2 ▸ O⟩)
  · obtain ⟨M, zM, hzM, h1, h2, hLM, hM2, hM, hNM⟩ := own_max hn hzL hL1 hn8 (by omega : L < Nn)
    have fin : ∀ (v : Option Value) (h : Heap), (v = none ∧ ∃ (lv' w0' w1' : Addr) (kL' k0' k1' : ClassId) (f1 : Nat → Int64), n0 ≤ w0' ∧ h0.size ≤ w0' ∧ KOb Z h a "com/example/outrigger/outrigger/OrdinalSet" layO [.ref lv', .int sz] ∧ KVA Z h lv' kL' (.array .long) 2 (fun j => if j = 0 then .ref w0' else .ref w1') ∧ KVA Z h w0' k0' .long M (fun j => .long (W j)) ∧ KVA Z h w1' k1' .long 1 (fun j => .long (f1 j)) ∧ Exa Z h w1' "[J" ∧ w0' ≠ w1') → v = none ∧ ∃ (lv' w0' : Addr) (L' : Nat), n0 ≤ w0' ∧ (w0' = w0 ∨ h0.size ≤ w0') ∧ Nn ≤ L' ∧ own_OS Z h a lv' w0' L' W sz := fun v h hq => by
      obtain ⟨e, lv', w0', w1', kL', k0', k1', f1, g1, g2, F', VL', V0', V1', E1', ne'⟩ := hq
      exact ⟨e, lv', w0', M, g1, Or.inr g2, hNM, F', ⟨k0', V0'⟩, by omega, hM, fun j hj => hW j (by omega), Or.inr ⟨kL', k1', w1', f1, VL', V1', E1', ne'⟩⟩
    rcases hs with ⟨e, kL, VL⟩ | ⟨kL, k1, w1, f1, VL, V1, E1, ne⟩
    · exact (rmG1 l Z a0 hw h0 n0 Z0 a lv w0 kL k0 L _ hzL W sz n Nn hn ge_a F V0 M zM hzM hLM hM2 hM (by omega) h1 h2 hW VL).imp fin
    · exact (rmG2 l Z a0 hw h0 n0 Z0 a lv w0 kL k0 L _ hzL W sz n Nn hn ge_a F V0 M zM hzM hLM hM2 hM (by omega) h1 h2 hW w1 k1 f1 VL V1 E1).imp fin
theorem pn_6 : plainName "com/example/outrigger/outrigger/OrdinalSet" = true := by first | (simp [plainName, overriddenIn]; done) | decide +kernel
theorem ef_rmHas (m : MethodId) (x0 : Addr) (x1 : Int32) : entryFrame m #[(.ref x0), (.int x1)] 4 = mkF m 0 #[.val (.ref x0), .val (.int x1), .unset, .unset] [] := by first | (simp [entryFrame, mkF, argsToLocals, Value.category]; done) | rfl
set_option maxRecDepth 65536 in
set_option maxHeartbeats 40000000 in
theorem rmHas (l : Launch) (Z : State) (a0 : Array Value) (hw : ∀ d ∈ tables_1, d.before a0 Z = true) (h0 : Heap) (n0 : Nat) (Z0 : n0 ≤ h0.size) (a lv w0 : Addr) (L : Nat) (W : Nat → Int64) (sz : Int32) (O : own_OS Z h0 a lv w0 L W sz) (x : Int32) (J : Nat) (hJ : (k_ushr x (6 : Int32)).toInt = (J : Int)) :
    KCt false l (⟨"com/example/outrigger/outrigger/OrdinalSet", "contains", "(I)Z"⟩ : MethodName) prog_118_method_2_code 4 (some .boolean) ({ frames := 0, cells := 0, slots := 0, locals := 0 } : Room) Z n0 h0 #[(.ref a), (.int x)] [] (fun v h => v = some (.int (if ¬ (W J &&& ((1 : Int64) <<< (x &&& 63).toInt64)) = 0 then 1 else 0)) ∧ h0 = h) := by
  obtain ⟨F, k0, V0, kL, nl, g, VL, hnl, hg, zL, hzL⟩ := own_open O
  refine k_enter (tbl := tables_1) (a0 := a0) (Ls := #[.val (.ref a), .val (.int x), .unset, .unset]) (plainFor_of_name pn_6) hw Z0 (fun m => ef_rmHas m a x) ?_
  intro p e s m below meth c T C P
  refine k_aloadN (pc' := 1) C P d6_0 rfl rfl rfl ?_
  refine k_getf (pc' := 4) C P (C.w 18 rfl) Via.refl F 0 rfl rfl d6_1 rfl ?_
  intro T38 P38
  refine k_iconst (z := (0 : Int32)) (pc' := 5) C P38 d6_4 rfl rfl ?_
  refine k_aaload (J := 0) (v := (.ref w0)) (pc' := 6) C P38 VL rfl d6_5 rfl hnl hg rfl ?_
  refine k_astoreN (l' := #[.val (.ref a), .val (.int x), .val (.ref w0), .unset]) (pc' := 7) C P38 d6_6 rfl rfl rfl ?_
  refine k_iloadN (pc' := 8) C P38 d6_7 rfl rfl ?_
  refine k_bipush (z := (6 : Int32)) (pc' := 10) C P38 d6_8 rfl rfl ?_
  refine k_iushr (pc' := 11) C P38 d6_10 rfl ?_
  refine k_istoreN (l' := #[.val (.ref a), .val (.int x), .val (.ref w0), .val (.int (k_ushr x (6 : Int32)))]) (pc' := 12) C P38 d6_11 rfl rfl ?_
  refine k_iloadN (pc' := 13) C P38 d6_12 rfl rfl ?_
  refine k_aloadN (pc' := 14) C P38 d6_13 rfl rfl rfl ?_
  refine k_arrlen (z := zL) (pc' := 15) C P38 V0 d6_14 hzL rfl ?_
  refine k_icB (pcY := 34) (pcN := 18) C P38 d6_15 (by decide) (by decide) rfl ?_ ?_
  · intro (hc15 : ¬ (k_ushr x (6 : Int32)) < zL)
    refine k_iconst (z := (0 : Int32)) (pc' := 35) C P38 d6_34 rfl rfl ?_
    exact k_retZ (z' := (0 : Int32)) C P38 (by simp) d6_35 rfl (by decide) (by decide) ⟨by rw [if_neg (own_out O hJ hzL hc15)], rfl⟩
  · intro (hc15 : (k_ushr x (6 : Int32)) < zL)
    refine k_aloadN (pc' := 19) C P38 d6_18 rfl rfl rfl ?_
    refine k_iloadN (pc' := 20) C P38 d6_19 rfl rfl ?_
    refine k_laload (J := J) (v := (.long (W J))) (pc' := 21) C P38 V0 d6_20 hJ ((OwnNum.lt_iff hJ hzL).mp hc15) rfl rfl ?_
    refine k_lconst (z := (1 : Int64)) (pc' := 22) C P38 d6_21 rfl rfl ?_
    refine k_iloadN (pc' := 23) C P38 d6_22 rfl rfl ?_
    refine k_lshl (pc' := 24) C P38 d6_23 rfl ?_
    refine k_land (pc' := 25) C P38 d6_24 rfl ?_
    refine k_lconst (z := (0 : Int64)) (pc' := 26) C P38 d6_25 rfl rfl ?_
    refine k_lcmp (pc' := 27) C P38 d6_26 rfl ?_
    refine k_ifB (pcY := 34) (pcN := 30) C P38 d6_27 (by decide) (by decide) rfl ?_ ?_
    · intro (hc27 : (k_cmpL ((W J) &&& ((1 : Int64) <<< (x &&& 63).toInt64)) (0 : Int64)) = (0 : Int32))
      refine k_iconst (z := (0 : Int32)) (pc' := 35) C P38 d6_34 rfl rfl ?_
      exact k_retZ (z' := (0 : Int32)) C P38 (by simp) d6_35 rfl (by decide) (by decide) ⟨by rw [if_neg (fun q => q (own_lc0.mp hc27))], rfl⟩
    · intro (hc27 : ¬ (k_cmpL ((W J) &&& ((1 : Int64) <<< (x &&& 63).toInt64)) (0 : Int64)) = (0 : Int32))
      refine k_iconst (z := (1 : Int32)) (pc' := 31) C P38 d6_30 rfl rfl ?_
      refine k_goto (pc' := 35) C P38 d6_31 (by decide) (by decide) ?_
      exact k_retZ (z' := (1 : Int32)) C P38 (by simp) d6_35 rfl (by decide) (by decide) ⟨by rw [if_pos (fun q => hc27 (own_lc0.mpr q))], rfl⟩
theorem pn_4 : plainName "com/example/outrigger/outrigger/OrdinalSet" = true := by first | (simp [plainName, overriddenIn]; done) | decide +kernel
theorem ef_rmAdd (m : MethodId) (x0 : Addr) (x1 : Int32) : entryFrame m #[(.ref x0), (.int x1)] 8 = mkF m 0 #[.val (.ref x0), .val (.int x1), .unset, .unset, .unset, .unset, .unset, .unset] [] := by first | (simp [entryFrame, mkF, argsToLocals, Value.category]; done) | rfl
set_option maxRecDepth 65536 in
set_option maxHeartbeats 40000000 in
theorem rmAdd (l : Launch) (Z : State) (a0 : Array Value) (hw : ∀ d ∈ tables_1, d.before a0 Z = true) (h0 : Heap) (n0 : Nat) (Z0 : n0 ≤ h0.size) (a lv w0 : Addr) (L : Nat) (W : Nat → Int64) (sz : Int32) (O : own_OS Z h0 a lv w0 L W sz) (x : Int32) (J : Nat) (hJ : (k_ushr x (6 : Int32)).toInt = (J : Int)) (hJ8 : J < 8) (ge_a : n0 ≤ a) (ge_w : n0 ≤ w0) (W' : Nat → Int64) (sz' : Int32) (h1 : ¬ (W J &&& ((1 : Int64) <<< (x &&& 63).toInt64)) = 0 → sz = sz' ∧ ∀ j, W j = W' j) (h2 : ¬ ¬ (W J &&& ((1 : Int64) <<< (x &&& 63).toInt64)) = 0 → sz + 1 = sz' ∧ ∀ j, (if j = J then W j ||| ((1 : Int64) <<< (x &&& 63).toInt64) else W j) = W' j) (hm : ¬ W' J = -1) :
    KCt false l (⟨"com/example/outrigger/outrigger/OrdinalSet", "add", "(I)V"⟩ : MethodName) prog_118_method_3_code 8 none ({ frames := 4, cells := 4, slots := 40, locals := 100 } : Room) Z n0 h0 #[(.ref a), (.int x)] [a, w0] (fun v h => v = none ∧ ∃ (lv' w0' : Addr) (L' : Nat), n0 ≤ w0' ∧ (w0' = w0 ∨ h0.size ≤ w0') ∧ own_OS Z h a lv' w0' L' W' sz') := by
  obtain ⟨F, k0, V0, kL, nl, g, VL, hnl, hg, zL, hzL⟩ := own_open O
  refine k_enter (tbl := tables_1) (a0 := a0) (Ls := #[.val (.ref a), .val (.int x), .unset, .unset, .unset, .unset, .unset, .unset]) (plainFor_of_name pn_4) hw Z0 (fun m => ef_rmAdd m a x) ?_
  intro p e s m below meth c T C P
  have sz_a : a ∈ [a, w0] ∨ h0.size ≤ a := Or.inl (by simp)
  have sz_w0 : w0 ∈ [a, w0] ∨ h0.size ≤ w0 := Or.inl (by simp)
  refine k_aloadN (pc' := 1) C P d4_0 rfl rfl rfl ?_
  refine k_iloadN (pc' := 2) C P d4_1 rfl rfl ?_
  refine k_bipush (z := (6 : Int32)) (pc' := 4) C P d4_2 rfl rfl ?_
  refine k_iushr (pc' := 5) C P d4_4 rfl ?_
  refine k_iconst (z := (1 : Int32)) (pc' := 6) C P d4_5 rfl rfl ?_
  refine k_iadd (pc' := 7) C P d4_6 rfl ?_
  have hn : ((k_ushr x (6 : Int32)) + (1 : Int32)).toInt = ((J + 1 : Nat) : Int) := OwnNum.add hJ (show (1 : Int32).toInt = ((1 : Nat) : Int) from rfl) (by omega)
  refine k_callP (pc' := 10) (cells' := 4) (slots' := 40) (W := 0) C P (C.w 25 rfl) (C.w 26 rfl) (k_selP (C.w 6 rfl) (C.w 27 rfl) (C.w 26 rfl) (by decide)) (C.w 27 rfl) (C.w 28 rfl) (C.w 7 rfl) (by decide) (own_grow l Z a0 hw _ n0 P.size a lv w0 L W sz _ (J + 1) hn (by omega) ge_a ge_w O) F.exa [(.int ((k_ushr x (6 : Int32)) + (1 : Int32)))] [] rfl (lenOf pd_2 rfl) rfl (Nat.le_of_eq rfl) d4_7 rfl (by decide) (by decide) rfl rfl (by decide) (by decide) (allS sz_a all0) rfl ?_
  intro T39 h39 v39 P39 K39 Q39
  obtain ⟨rfl, lv', w0', L', ge_w', hw0, hJL, O39⟩ := Q39
  have f39_lv := VL.keep K39 (ninS (VL.ne_ob F.exa (C.w 6 rfl)) nin0)
  have f39_w0 := V0.keep K39 (ninS (V0.ne_ob F.exa (C.w 6 rfl)) nin0)
  have O := O39
  obtain ⟨F, k0, V0, kL, nl, g, VL, hnl, hg, zL, hzL⟩ := own_open O
  have sz_w : w0' ∈ [a, w0] ∨ h0.size ≤ w0' := hw0.imp (fun e => by simp [e]) id
  show KGo p e below _ T39 m 10 #[.val (.ref a), .val (.int x), .unset, .unset, .unset, .unset, .unset, .unset] []
  refine k_aloadN (pc' := 11) C P39 d4_10 rfl rfl rfl ?_
  refine k_iloadN (pc' := 12) C P39 d4_11 rfl rfl ?_
  refine k_callV (pc' := 15) (cells' := 4) (slots' := 40) (W := 0) C P39 (C.w 29 rfl) (C.w 30 rfl) (fun _ q => notFace_of_selects (args := #[]) (mvT q (C.w 32 rfl))) (C.w 32 rfl) (C.w 31 rfl) (C.w 33 rfl) (C.w 7 rfl) (by decide) (rmHas l Z a0 hw _ n0 P39.size a lv' w0' L' W sz O x J hJ) F.exa [(.int x)] [] rfl (lenOf pd_3 rfl) rfl (Nat.le_of_eq rfl) d4_12 rfl (by decide) (by decide) rfl rfl (by decide) (by decide) all0 rfl ?_
  intro T40 h40 v40 P40 K40 Q40
  obtain ⟨e40, g40⟩ := Q40
  subst g40
  subst e40
  show KGo p e below _ T40 m 15 #[.val (.ref a), .val (.int x), .unset, .unset, .unset, .unset, .unset, .unset] [(.int (if ¬ (W J &&& ((1 : Int64) <<< (x &&& 63).toInt64)) = 0 then (1 : Int32) else 0))]
  refine k_ifB (pcY := 19) (pcN := 18) C P40 d4_15 (by decide) (by decide) rfl ?_ ?_
  · intro (hc15 : (if ¬ (W J &&& ((1 : Int64) <<< (x &&& 63).toInt64)) = 0 then (1 : Int32) else 0) = (0 : Int32))
    have hh := h2 (own_i0 hc15)
    refine k_aloadN (pc' := 20) C P40 d4_19 rfl rfl rfl ?_
    refine k_dup (pc' := 21) C P40 d4_20 rfl rfl ?_
    refine k_getf (pc' := 24) C P40 (C.w 34 rfl) Via.refl F 1 rfl rfl d4_21 rfl ?_
    intro T41 P41
    refine k_iconst (z := (1 : Int32)) (pc' := 25) C P41 d4_24 rfl rfl ?_
    refine k_iadd (pc' := 26) C P41 d4_25 rfl ?_
    refine k_putf (pc' := 29) (ty := .int) (v' := (.int (sz + (1 : Int32)))) C P41 (C.w 34 rfl) Via.refl F 1 rfl (Or.inl (C.w 35 rfl)) (C.w 6 rfl) (by decide) rfl rfl d4_26 ge_a sz_a rfl ?_
    intro T42 h42 P42 W42
    have f42_a : KOb Z h42 a "com/example/outrigger/outrigger/OrdinalSet" layO [(.ref lv'), (.int (sz + (1 : Int32)))] := F.put (lokO C.hw) 1 rfl W42 rfl
    have f42_lv' := VL.other W42 (VL.ne_ob F.exa (C.w 6 rfl))
    have f42_w0' := V0.other W42 (V0.ne_ob F.exa (C.w 6 rfl))
    have f42_OSF := own_put O W42 f42_a (C.w 6 rfl)
    refine k_iloadN (pc' := 30) C P42 d4_29 rfl rfl ?_
    refine k_istoreN (l' := #[.val (.ref a), .val (.int x), .val (.int x), .unset, .unset, .unset, .unset, .unset]) (pc' := 31) C P42 d4_30 rfl rfl ?_
    refine k_aloadN (pc' := 32) C P42 d4_31 rfl rfl rfl ?_
    refine k_getf (pc' := 35) C P42 (C.w 18 rfl) Via.refl f42_a 0 rfl rfl d4_32 rfl ?_
    intro T43 P43
    refine k_astoreN (l' := #[.val (.ref a), .val (.int x), .val (.int x), .val (.ref lv'), .unset, .unset, .unset, .unset]) (pc' := 36) C P43 d4_35 rfl rfl rfl ?_
    refine k_aloadN (pc' := 37) C P43 d4_36 rfl rfl rfl ?_
    obtain ⟨znl, hznl⟩ := own_len f42_lv'
    refine k_arrlen (z := znl) (pc' := 38) C P43 f42_lv' d4_37 hznl rfl ?_
    refine k_istore (l' := #[.val (.ref a), .val (.int x), .val (.int x), .val (.ref lv'), .val (.int znl), .unset, .unset, .unset]) (pc' := 40) C P43 d4_38 rfl rfl ?_
    refine k_iconst (z := (0 : Int32)) (pc' := 41) C P43 d4_40 rfl rfl ?_
    refine k_istore (l' := #[.val (.ref a), .val (.int x), .val (.int x), .val (.ref lv'), .val (.int znl), .val (.int (0 : Int32)), .unset, .unset]) (pc' := 43) C P43 d4_41 rfl rfl ?_
    refine k_iload (pc' := 45) C P43 d4_43 rfl rfl ?_
    refine k_iload (pc' := 47) C P43 d4_45 rfl rfl ?_
    refine k_icN (pc' := 50) C P43 d4_47 ((OwnNum.lt_iff (show (0 : Int32).toInt = ((0 : Nat) : Int) from rfl) hznl).mpr hnl) rfl ?_
    refine k_aloadN (pc' := 51) C P43 d4_50 rfl rfl rfl ?_
    refine k_iload (pc' := 53) C P43 d4_51 rfl rfl ?_
    refine k_aaload (J := 0) (v := (.ref w0')) (pc' := 54) C P43 f42_lv' rfl d4_53 rfl hnl hg rfl ?_
    refine k_astore (l' := #[.val (.ref a), .val (.int x), .val (.int x), .val (.ref lv'), .val (.int znl), .val (.int (0 : Int32)), .val (.ref w0'), .unset]) (pc' := 56) C P43 d4_54 rfl rfl rfl ?_
    refine k_iloadN (pc' := 57) C P43 d4_56 rfl rfl ?_
    refine k_bipush (z := (6 : Int32)) (pc' := 59) C P43 d4_57 rfl rfl ?_
    refine k_iushr (pc' := 60) C P43 d4_59 rfl ?_
    refine k_istore (l' := #[.val (.ref a), .val (.int x), .val (.int x), .val (.ref lv'), .val (.int znl), .val (.int (0 : Int32)), .val (.ref w0'), .val (.int (k_ushr x (6 : Int32)))]) (pc' := 62) C P43 d4_60 rfl rfl ?_
    refine k_aload (pc' := 64) C P43 d4_62 rfl rfl rfl ?_
    refine k_iload (pc' := 66) C P43 d4_64 rfl rfl ?_
    refine k_dup2 (pc' := 67) C P43 d4_66 rfl rfl rfl ?_
    refine k_laload (J := J) (v := (.long (W J))) (pc' := 68) C P43 f42_w0' d4_67 hJ (by omega) rfl rfl ?_
    refine k_lconst (z := (1 : Int64)) (pc' := 69) C P43 d4_68 rfl rfl ?_
    refine k_iloadN (pc' := 70) C P43 d4_69 rfl rfl ?_
    refine k_lshl (pc' := 71) C P43 d4_70 rfl ?_
    refine k_lor (pc' := 72) C P43 d4_71 rfl ?_
    refine k_lastore (J := J) (g' := (fun j => Value.long (if j = J then W j ||| ((1 : Int64) <<< (x &&& 63).toInt64) else W j))) (pc' := 73) C P43 f42_w0' d4_72 hJ (by omega) (fun i _ => own_wj i J W _) ge_w' sz_w rfl ?_
    intro T44 h44 P44 W44 V44
    have f44_a := f42_a.other W44 (Ne.symm (f42_w0'.ne_ob f42_a.exa (C.w 6 rfl)))
    have f44_lv' := f42_lv'.other W44 (KVA.neT f42_lv' f42_w0' nofun)
    have f44_OSF := own_word f42_OSF W44 (V44.congr (fun j hj => congrArg Value.long (hh.2 j))) hJL (hh.2) (C.w 6 rfl)
    refine k_aload (pc' := 75) C P44 d4_73 rfl rfl rfl ?_
    refine k_iload (pc' := 77) C P44 d4_75 rfl rfl ?_
    refine k_laload (J := J) (v := (.long (W' J))) (pc' := 78) C P44 V44 d4_77 hJ (by omega) (congrArg Value.long (hh.2 J)) rfl ?_
    refine k_ldc2L (pc' := 81) C P44 (C.w 36 rfl) d4_78 rfl ?_
    refine k_lcmp (pc' := 82) C P44 d4_81 rfl ?_
    refine k_ifN (pc' := 85) C P44 d4_82 (own_m1 hm hh.2) rfl ?_
    exact k_retV C P44 d4_85 (by decide) (by decide) ⟨rfl, lv', w0', L', ge_w', hw0, hh.1 ▸ f44_OSF⟩
  · intro (hc15 : ¬ (if ¬ (W J &&& ((1 : Int64) <<< (x &&& 63).toInt64)) = 0 then (1 : Int32) else 0) = (0 : Int32))
    have hh := h1 (own_i1 hc15)
    exact k_retV C P40 d4_18 (by decide) (by decide) ⟨rfl, lv', w0', L', ge_w', hw0, own_same O hh.1 hh.2⟩
set_option maxRecDepth 65536 in
set_option maxHeartbeats 40000000 in
theorem lp_first {p : Program} {l : Launch} {e : Env} {R : Room} {s : State} {m : MethodId} {args : Array Value} {below : List Frame} {meth : Method} {c : Code} {Z : State} {a0 : Array Value} {n0 : Nat} {h0 : Heap} {ws : List Addr} {cells slots : Nat} {h : Heap} {Q : Option Value → Heap → Prop} {kc ks : Nat} (hkc : cells ≤ kc) (hks : slots ≤ ks) (C : KCx tables_1 "firstHeld" prog_118_method_5_code 7 (some .int) p meth c Z a0) (a lv w0 ar : Addr) (L : Nat) (W : Nat → Int64) (sz : Int32) (O : own_OS Z h a lv w0 L W sz) (kr : ClassId) (zf zt : Int32) (To : Nat) (ht : zt.toInt = (To : Int)) (hT3 : To ≤ 3) (b : Nat → Bool) (X : Nat → Int32) (hb : ∀ i, i < 3 → (b i = true ↔ ¬ (W ((X i).toBitVec.toNat / 64) &&& ((1 : Int64) <<< ((X i) &&& 63).toInt64)) = 0)) (VR : KVA Z h ar kr .int 3 (fun j => .int (X j))) :
    ∀ (K i : Nat) (i4 : Int32) (s6 : Slot) (T : State), i + K = To → i4.toInt = (i : Int) → own_one s6 → (∀ r : Int32, r.toInt = (own_fh b K i : Int) → Q (some (.int r)) h) → KPos false p l e R s m args below meth c Z "com/example/outrigger/outrigger/OrdinalSet" n0 h0 ws T h cells slots → KGo p e below (KEnd false s n0 h0 ws Q kc ks) T m 22 #[.val (.ref a), .val (.ref ar), .val (.int zf), .val (.int zt), .val (.int i4), .val (.ref w0), s6] [] := by
  obtain ⟨F, k0, V0, kL, nl, g, VL, hnl, hg, zL, hzL⟩ := own_open O
  intro K
  induction K with
  | zero =>
    intro i i4 s6 T hi hi4 h6 hq P
    refine k_iload (pc' := 24) C P d7_22 rfl rfl ?_
    refine k_iloadN (pc' := 25) C P d7_24 rfl rfl ?_
    refine k_icY (pc' := 71) C P d7_25 (fun q => by rw [OwnNum.lt_iff hi4 ht] at q; omega) (by decide) (by decide) ?_
    refine k_iload (pc' := 73) C P d7_71 rfl rfl ?_
    exact k_retI C P d7_73 hkc hks (hq _ hi4)
  | succ K ih =>
    intro i i4 s6 T hi hi4 h6 hq P
    have hx := own_ushr6 (x := X i) rfl
    have hbi := hb i (by omega)
    refine k_iload (pc' := 24) C P d7_22 rfl rfl ?_
    refine k_iloadN (pc' := 25) C P d7_24 rfl rfl ?_
    refine k_icN (pc' := 28) C P d7_25 ((OwnNum.lt_iff hi4 ht).mpr (by omega)) rfl ?_
    refine k_aloadN (pc' := 29) C P d7_28 rfl rfl rfl ?_
    refine k_iload (pc' := 31) C P d7_29 rfl rfl ?_
    refine k_iaload (J := i) (v := (.int (X i))) (pc' := 32) C P VR d7_31 hi4 (by omega) rfl rfl ?_
    refine k_bipush (z := (6 : Int32)) (pc' := 34) C P d7_32 rfl rfl ?_
    refine k_iushr (pc' := 35) C P d7_34 rfl ?_
    refine k_istore (l' := #[.val (.ref a), .val (.ref ar), .val (.int zf), .val (.int zt), .val (.int i4), .val (.ref w0), .val (.int (k_ushr (X i) (6 : Int32)))]) (pc' := 37) C P d7_35 (own_st6 h6 rfl) rfl ?_
    refine k_iload (pc' := 39) C P d7_37 rfl rfl ?_
    refine k_aload (pc' := 41) C P d7_39 rfl rfl rfl ?_
    refine k_arrlen (z := zL) (pc' := 42) C P V0 d7_41 hzL rfl ?_
    refine k_icB (pcY := 65) (pcN := 45) C P d7_42 (by decide) (by decide) rfl ?_ ?_
    · intro (hc42 : ¬ (k_ushr (X i) (6 : Int32)) < zL)
      have nb : ¬ b i = true := fun q => own_out O hx hzL hc42 (hbi.mp q)
      refine k_iinc (z := (i4 + (1 : Int32))) (l' := #[.val (.ref a), .val (.ref ar), .val (.int zf), .val (.int zt), .val (.int (i4 + (1 : Int32))), .val (.ref w0), .val (.int (k_ushr (X i) (6 : Int32)))]) (pc' := 68) C P d7_65 rfl rfl rfl rfl ?_
      refine k_goto (pc' := 22) C P d7_68 (by decide) (by decide) ?_
      exact ih (i + 1) _ _ _ (by omega) (OwnNum.add hi4 (show (1 : Int32).toInt = ((1 : Nat) : Int) from rfl) (by omega)) (Or.inr ⟨_, rfl, rfl⟩) (fun r hr => hq r (by rw [own_fh, if_neg nb]; exact hr)) P
    · intro (hc42 : (k_ushr (X i) (6 : Int32)) < zL)
      refine k_aload (pc' := 47) C P d7_45 rfl rfl rfl ?_
      refine k_iload (pc' := 49) C P d7_47 rfl rfl ?_
      refine k_laload (J := ((X i).toBitVec.toNat / 64)) (v := (.long (W ((X i).toBitVec.toNat / 64)))) (pc' := 50) C P V0 d7_49 hx ((OwnNum.lt_iff hx hzL).mp hc42) rfl rfl ?_
      refine k_lconst (z := (1 : Int64)) (pc' := 51) C P d7_50 rfl rfl ?_
      refine k_aloadN (pc' := 52) C P d7_51 rfl rfl rfl ?_
      refine k_iload (pc' := 54) C P d7_52 rfl rfl ?_
      refine k_iaload (J := i) (v := (.int (X i))) (pc' := 55) C P VR d7_54 hi4 (by omega) rfl rfl ?_
      refine k_lshl (pc' := 56) C P d7_55 rfl ?_
      refine k_land (pc' := 57) C P d7_56 rfl ?_
      refine k_lconst (z := (0 : Int64)) (pc' := 58) C P d7_57 rfl rfl ?_
      refine k_lcmp (pc' := 59) C P d7_58 rfl ?_
      refine k_ifB (pcY := 65) (pcN := 62) C P d7_59 (by decide) (by decide) rfl ?_ ?_
      · intro (hc59 : (k_cmpL ((W ((X i).toBitVec.toNat / 64)) &&& ((1 : Int64) <<< ((X i) &&& 63).toInt64)) (0 : Int64)) = (0 : Int32))
        have nb : ¬ b i = true := fun q => hbi.mp q (own_lc0.mp hc59)
        refine k_iinc (z := (i4 + (1 : Int32))) (l' := #[.val (.ref a), .val (.ref ar), .val (.int zf), .val (.int zt), .val (.int (i4 + (1 : Int32))), .val (.ref w0), .val (.int (k_ushr (X i) (6 : Int32)))]) (pc' := 68) C P d7_65 rfl rfl rfl rfl ?_
        refine k_goto (pc' := 22) C P d7_68 (by decide) (by decide) ?_
        exact ih (i + 1) _ _ _ (by omega) (OwnNum.add hi4 (show (1 : Int32).toInt = ((1 : Nat) : Int) from rfl) (by omega)) (Or.inr ⟨_, rfl, rfl⟩) (fun r hr => hq r (by rw [own_fh, if_neg nb]; exact hr)) P
      · intro (hc59 : ¬ (k_cmpL ((W ((X i).toBitVec.toNat / 64)) &&& ((1 : Int64) <<< ((X i) &&& 63).toInt64)) (0 : Int64)) = (0 : Int32))
        have yb : b i = true := hbi.mpr (fun q => hc59 (own_lc0.mpr q))
        refine k_goto (pc' := 71) C P d7_62 (by decide) (by decide) ?_
        refine k_iload (pc' := 73) C P d7_71 rfl rfl ?_
        exact k_retI C P d7_73 hkc hks (hq _ (by rw [own_fh, if_pos yb]; exact hi4))
theorem pn_7 : plainName "com/example/outrigger/outrigger/OrdinalSet" = true := by first | (simp [plainName, overriddenIn]; done) | decide +kernel
theorem ef_rmFirst (m : MethodId) (x0 : Addr) (x1 : Addr) (x2 : Int32) (x3 : Int32) : entryFrame m #[(.ref x0), (.ref x1), (.int x2), (.int x3)] 7 = mkF m 0 #[.val (.ref x0), .val (.ref x1), .val (.int x2), .val (.int x3), .unset, .unset, .unset] [] := by first | (simp [entryFrame, mkF, argsToLocals, Value.category]; done) | rfl
set_option maxRecDepth 65536 in
set_option maxHeartbeats 40000000 in
theorem rmFirst (l : Launch) (Z : State) (a0 : Array Value) (hw : ∀ d ∈ tables_1, d.before a0 Z = true) (h0 : Heap) (n0 : Nat) (Z0 : n0 ≤ h0.size) (a lv w0 : Addr) (L : Nat) (W : Nat → Int64) (sz : Int32) (O : own_OS Z h0 a lv w0 L W sz) (ar : Addr) (kr : ClassId) (zf zt : Int32) (Fr To : Nat) (hf : zf.toInt = (Fr : Int)) (ht : zt.toInt = (To : Int)) (hFT : Fr ≤ To) (hT3 : To ≤ 3) (b : Nat → Bool) (X : Nat → Int32) (hb : ∀ i, i < 3 → (b i = true ↔ ¬ (W ((X i).toBitVec.toNat / 64) &&& ((1 : Int64) <<< ((X i) &&& 63).toInt64)) = 0)) (VR : KVA Z h0 ar kr .int 3 (fun j => .int (X j))) (hz : sz = 0 → ∀ i, i < 3 → b i = false) :
    KCt false l (⟨"com/example/outrigger/outrigger/OrdinalSet", "firstHeld", "([III)I"⟩ : MethodName) prog_118_method_5_code 7 (some .int) ({ frames := 0, cells := 0, slots := 0, locals := 0 } : Room) Z n0 h0 #[(.ref a), (.ref ar), (.int zf), (.int zt)] [] (fun v h => ∃ r : Int32, v = some (.int r) ∧ h0 = h ∧ r.toInt = (own_fh b (To - Fr) Fr : Int)) := by
  obtain ⟨F, k0, V0, kL, nl, g, VL, hnl, hg, zL, hzL⟩ := own_open O
  refine k_enter (tbl := tables_1) (a0 := a0) (Ls := #[.val (.ref a), .val (.ref ar), .val (.int zf), .val (.int zt), .unset, .unset, .unset]) (plainFor_of_name pn_7) hw Z0 (fun m => ef_rmFirst m a ar zf zt) ?_
  intro p e s m below meth c T C P
  refine k_aloadN (pc' := 1) C P d7_0 rfl rfl rfl ?_
  refine k_getf (pc' := 4) C P (C.w 34 rfl) Via.refl F 1 rfl rfl d7_1 rfl ?_
  intro T45 P45
  refine k_ifB (pcY := 11) (pcN := 7) C P45 d7_4 (by decide) (by decide) rfl ?_ ?_
  · intro (hc4 : ¬ sz = (0 : Int32))
    refine k_iloadN (pc' := 12) C P45 d7_11 rfl rfl ?_
    refine k_istore (l' := #[.val (.ref a), .val (.ref ar), .val (.int zf), .val (.int zt), .val (.int zf), .unset, .unset]) (pc' := 14) C P45 d7_12 rfl rfl ?_
    refine k_aloadN (pc' := 15) C P45 d7_14 rfl rfl rfl ?_
    refine k_getf (pc' := 18) C P45 (C.w 18 rfl) Via.refl F 0 rfl rfl d7_15 rfl ?_
    intro T46 P46
    refine k_iconst (z := (0 : Int32)) (pc' := 19) C P46 d7_18 rfl rfl ?_
    refine k_aaload (J := 0) (v := (.ref w0)) (pc' := 20) C P46 VL rfl d7_19 rfl hnl hg rfl ?_
    refine k_astore (l' := #[.val (.ref a), .val (.ref ar), .val (.int zf), .val (.int zt), .val (.int zf), .val (.ref w0), .unset]) (pc' := 22) C P46 d7_20 rfl rfl rfl ?_
    exact lp_first (by decide) (by decide) C a lv w0 ar L W sz O kr zf zt To ht hT3 b X hb VR (To - Fr) Fr _ _ _ (by omega) hf (Or.inl rfl) (fun r hr => ⟨r, rfl, rfl, hr⟩) P46
  · intro (hc4 : sz = (0 : Int32))
    refine k_iloadN (pc' := 8) C P45 d7_7 rfl rfl ?_
    refine k_goto (pc' := 12) C P45 d7_8 (by decide) (by decide) ?_
    refine k_istore (l' := #[.val (.ref a), .val (.ref ar), .val (.int zf), .val (.int zt), .val (.int zt), .unset, .unset]) (pc' := 14) C P45 d7_12 rfl rfl ?_
    refine k_aloadN (pc' := 15) C P45 d7_14 rfl rfl rfl ?_
    refine k_getf (pc' := 18) C P45 (C.w 18 rfl) Via.refl F 0 rfl rfl d7_15 rfl ?_
    intro T47 P47
    refine k_iconst (z := (0 : Int32)) (pc' := 19) C P47 d7_18 rfl rfl ?_
    refine k_aaload (J := 0) (v := (.ref w0)) (pc' := 20) C P47 VL rfl d7_19 rfl hnl hg rfl ?_
    refine k_astore (l' := #[.val (.ref a), .val (.ref ar), .val (.int zf), .val (.int zt), .val (.int zt), .val (.ref w0), .unset]) (pc' := 22) C P47 d7_20 rfl rfl rfl ?_
    exact lp_first (by decide) (by decide) C a lv w0 ar L W sz O kr zf zt To ht hT3 b X hb VR 0 To _ _ _ (by omega) ht (Or.inl rfl) (fun r hr => ⟨r, rfl, rfl, by rw [own_fh0 (hz hc4) (by omega)]; rw [hr]; show ((To : Nat) : Int) = _; congr 1; omega⟩) P47
theorem pn_0 : plainName "com/example/outrigger/outrigger/OrdinalSetFirstHeldPinLaw" = true := by first | (simp [plainName, overriddenIn]; done) | decide +kernel
theorem ef_rm0 (m : MethodId) (x0 : Int32) (x1 : Int32) (x2 : Int32) (x3 : Int32) (x4 : Int32) (x5 : Int32) : entryFrame m #[(.int x0), (.int x1), (.int x2), (.int x3), (.int x4), (.int x5)] maxLocals = mkF m 0 #[.val (.int x0), .val (.int x1), .val (.int x2), .val (.int x3), .val (.int x4), .val (.int x5), .unset, .unset, .unset, .unset, .unset, .unset, .unset, .unset, .unset, .unset] [] := by first | (simp [entryFrame, mkF, argsToLocals, Value.category, maxLocals]; done) | rfl
set_option maxRecDepth 65536 in
set_option maxHeartbeats 40000000 in
theorem rm0 (l : Launch) (Z : State) (a0 : Array Value) (hw : ∀ d ∈ tables_1, d.before a0 Z = true) (h0 : Heap) (n0 : Nat) (Z0 : n0 ≤ h0.size) (p0 p1 p2 p3 p4 p5 : Int32) :
    KCt false l x code maxLocals ret room_1 Z n0 h0 #[(.int p0), (.int p1), (.int p2), (.int p3), (.int p4), (.int p5)] [] (fun v h => v = some (.int 1)) := by
  refine k_enter (tbl := tables_1) (a0 := a0) (Ls := #[.val (.int p0), .val (.int p1), .val (.int p2), .val (.int p3), .val (.int p4), .val (.int p5), .unset, .unset, .unset, .unset, .unset, .unset, .unset, .unset, .unset, .unset]) (plainFor_of_name pn_0) hw Z0 (fun m => ef_rm0 m p0 p1 p2 p3 p4 p5) ?_
  intro p e s m below meth c T C P
  refine k_iloadN (pc' := 1) C P at_0 rfl rfl ?_
  refine k_sipush (z := (511 : Int32)) (pc' := 4) C P at_1 rfl rfl ?_
  refine k_iand (pc' := 5) C P at_4 rfl ?_
  obtain ⟨ha, e_ha⟩ : ∃ z, z = (p0 &&& (511 : Int32)) := ⟨_, rfl⟩
  rw [← e_ha]
  obtain ⟨N_ha, H_ha, B_ha⟩ : ∃ N : Nat, ha.toInt = (N : Int) ∧ N ≤ 511 := by rw [e_ha]; exact OwnNum.mask p0 511 rfl
  have U_ha := own_ushr6 (OwnNum.toNat H_ha)
  refine k_istore (l' := #[.val (.int p0), .val (.int p1), .val (.int p2), .val (.int p3), .val (.int p4), .val (.int p5), .val (.int ha), .unset, .unset, .unset, .unset, .unset, .unset, .unset, .unset, .unset]) (pc' := 7) C P at_5 rfl rfl ?_
  refine k_iloadN (pc' := 8) C P at_7 rfl rfl ?_
  refine k_sipush (z := (511 : Int32)) (pc' := 11) C P at_8 rfl rfl ?_
  refine k_iand (pc' := 12) C P at_11 rfl ?_
  obtain ⟨hb, e_hb⟩ : ∃ z, z = (p1 &&& (511 : Int32)) := ⟨_, rfl⟩
  rw [← e_hb]
  obtain ⟨N_hb, H_hb, B_hb⟩ : ∃ N : Nat, hb.toInt = (N : Int) ∧ N ≤ 511 := by rw [e_hb]; exact OwnNum.mask p1 511 rfl
  have U_hb := own_ushr6 (OwnNum.toNat H_hb)
  refine k_istore (l' := #[.val (.int p0), .val (.int p1), .val (.int p2), .val (.int p3), .val (.int p4), .val (.int p5), .val (.int ha), .val (.int hb), .unset, .unset, .unset, .unset, .unset, .unset, .unset, .unset]) (pc' := 14) C P at_12 rfl rfl ?_
  refine k_iload (pc' := 16) C P at_14 rfl rfl ?_
  refine k_iconst (z := (1 : Int32)) (pc' := 17) C P at_16 rfl rfl ?_
  refine k_iand (pc' := 18) C P at_17 rfl ?_
  refine k_ternIf (Pp := (p5 &&& (1 : Int32)) = (0 : Int32)) (vY := (0 : Int32)) (vN := (1 : Int32)) (p1 := 21) (p2 := 22) (p3 := 25) (p4 := 26) C P at_18 at_21 at_22 at_25 rfl rfl (by decide) (by decide) rfl rfl rfl rfl (fun q => q) (fun q => q) ?_
  obtain ⟨m8, e_m8⟩ : ∃ z, z = (if (p5 &&& (1 : Int32)) = (0 : Int32) then (0 : Int32) else (1 : Int32)) := ⟨_, rfl⟩
  rw [← e_m8]
  have h_m8 : m8 = 0 ∨ m8 = 1 := by rw [e_m8]; exact own_01 _
  clear e_m8
  refine k_istore (l' := #[.val (.int p0), .val (.int p1), .val (.int p2), .val (.int p3), .val (.int p4), .val (.int p5), .val (.int ha), .val (.int hb), .val (.int m8), .unset, .unset, .unset, .unset, .unset, .unset, .unset]) (pc' := 28) C P at_26 rfl rfl ?_
  refine k_iload (pc' := 30) C P at_28 rfl rfl ?_
  refine k_iconst (z := (2 : Int32)) (pc' := 31) C P at_30 rfl rfl ?_
  refine k_iand (pc' := 32) C P at_31 rfl ?_
  refine k_ternIf (Pp := (p5 &&& (2 : Int32)) = (0 : Int32)) (vY := (0 : Int32)) (vN := (1 : Int32)) (p1 := 35) (p2 := 36) (p3 := 39) (p4 := 40) C P at_32 at_35 at_36 at_39 rfl rfl (by decide) (by decide) rfl rfl rfl rfl (fun q => q) (fun q => q) ?_
  obtain ⟨m9, e_m9⟩ : ∃ z, z = (if (p5 &&& (2 : Int32)) = (0 : Int32) then (0 : Int32) else (1 : Int32)) := ⟨_, rfl⟩
  rw [← e_m9]
  have h_m9 : m9 = 0 ∨ m9 = 1 := by rw [e_m9]; exact own_01 _
  clear e_m9
  refine k_istore (l' := #[.val (.int p0), .val (.int p1), .val (.int p2), .val (.int p3), .val (.int p4), .val (.int p5), .val (.int ha), .val (.int hb), .val (.int m8), .val (.int m9), .unset, .unset, .unset, .unset, .unset, .unset]) (pc' := 42) C P at_40 rfl rfl ?_
  refine k_iconst (z := (3 : Int32)) (pc' := 43) C P at_42 rfl rfl ?_
  refine k_newp (pc' := 45) (cells' := 1) (slots' := 3) (N := 3) (cap := 3) C P (C.w 0 rfl) at_43 rfl (by decide) (by decide) rfl rfl (by decide) (by decide) rfl ?_
  intro T48 h48 b48 k48 P48 hs48 ge_b48 sz_b48 E48 V48
  refine k_astore (l' := #[.val (.int p0), .val (.int p1), .val (.int p2), .val (.int p3), .val (.int p4), .val (.int p5), .val (.int ha), .val (.int hb), .val (.int m8), .val (.int m9), .val (.ref b48), .unset, .unset, .unset, .unset, .unset]) (pc' := 47) C P48 at_45 rfl rfl rfl ?_
  refine k_aload (pc' := 49) C P48 at_47 rfl rfl rfl ?_
  refine k_iconst (z := (0 : Int32)) (pc' := 50) C P48 at_49 rfl rfl ?_
  refine k_iload (pc' := 52) C P48 at_50 rfl rfl ?_
  refine k_iconst (z := (2 : Int32)) (pc' := 53) C P48 at_52 rfl rfl ?_
  refine k_iushr (pc' := 54) C P48 at_53 rfl ?_
  refine k_iconst (z := (3 : Int32)) (pc' := 55) C P48 at_54 rfl rfl ?_
  refine k_iand (pc' := 56) C P48 at_55 rfl ?_
  refine k_iload (pc' := 58) C P48 at_56 rfl rfl ?_
  refine k_iload (pc' := 60) C P48 at_58 rfl rfl ?_
  refine k_iloadN (pc' := 61) C P48 at_60 rfl rfl ?_
  refine k_callT (pc' := 64) (cells' := 1) (slots' := 3) (W := 2) C P48 (C.w 1 rfl) (C.w 2 rfl) (C.w 4 rfl) (C.w 3 rfl) (by decide) (rmPick l Z a0 hw _ n0 P48.size ((k_ushr p5 (2 : Int32)) &&& (3 : Int32)) ha hb p2) [(.int ((k_ushr p5 (2 : Int32)) &&& (3 : Int32))), (.int ha), (.int hb), (.int p2)] [(.int (0 : Int32)), (.ref b48)] rfl (lenOf pd_4 rfl) rfl (Nat.le_of_eq rfl) at_61 rfl (by decide) (by decide) rfl rfl (by decide) (by decide) all0 rfl ?_
  intro T49 h49 v49 P49 K49 Q49
  obtain ⟨r0, rfl, rfl⟩ := Q49
  have f49_b48 := V48.keep K49 nin0
  show KGo p e below _ T49 m 64 #[.val (.int p0), .val (.int p1), .val (.int p2), .val (.int p3), .val (.int p4), .val (.int p5), .val (.int ha), .val (.int hb), .val (.int m8), .val (.int m9), .val (.ref b48), .unset, .unset, .unset, .unset, .unset] [(.int r0), (.int (0 : Int32)), (.ref b48)]
  refine k_iastore (J := 0) (g' := (fun j => Value.int (if j = 0 then r0 else 0))) (pc' := 65) C P49 f49_b48 at_64 rfl (by decide) (fun i hi => by match i, hi with | 0, _ => rfl | 1, _ => rfl | 2, _ => rfl) ge_b48 (Or.inr sz_b48) rfl ?_
  intro T50 h50 P50 W50 V50
  refine k_aload (pc' := 67) C P50 at_65 rfl rfl rfl ?_
  refine k_iconst (z := (1 : Int32)) (pc' := 68) C P50 at_67 rfl rfl ?_
  refine k_iload (pc' := 70) C P50 at_68 rfl rfl ?_
  refine k_iconst (z := (4 : Int32)) (pc' := 71) C P50 at_70 rfl rfl ?_
  refine k_iushr (pc' := 72) C P50 at_71 rfl ?_
  refine k_iconst (z := (3 : Int32)) (pc' := 73) C P50 at_72 rfl rfl ?_
  refine k_iand (pc' := 74) C P50 at_73 rfl ?_
  refine k_iload (pc' := 76) C P50 at_74 rfl rfl ?_
  refine k_iload (pc' := 78) C P50 at_76 rfl rfl ?_
  refine k_iloadN (pc' := 79) C P50 at_78 rfl rfl ?_
  refine k_callT (pc' := 82) (cells' := 1) (slots' := 3) (W := 2) C P50 (C.w 1 rfl) (C.w 2 rfl) (C.w 4 rfl) (C.w 3 rfl) (by decide) (rmPick l Z a0 hw _ n0 P50.size ((k_ushr p5 (4 : Int32)) &&& (3 : Int32)) ha hb p3) [(.int ((k_ushr p5 (4 : Int32)) &&& (3 : Int32))), (.int ha), (.int hb), (.int p3)] [(.int (1 : Int32)), (.ref b48)] rfl (lenOf pd_4 rfl) rfl (Nat.le_of_eq rfl) at_79 rfl (by decide) (by decide) rfl rfl (by decide) (by decide) all0 rfl ?_
  intro T51 h51 v51 P51 K51 Q51
  obtain ⟨r1, rfl, rfl⟩ := Q51
  have f51_b48 := V50.keep K51 nin0
  show KGo p e below _ T51 m 82 #[.val (.int p0), .val (.int p1), .val (.int p2), .val (.int p3), .val (.int p4), .val (.int p5), .val (.int ha), .val (.int hb), .val (.int m8), .val (.int m9), .val (.ref b48), .unset, .unset, .unset, .unset, .unset] [(.int r1), (.int (1 : Int32)), (.ref b48)]
  refine k_iastore (J := 1) (g' := (fun j => Value.int (if j = 0 then r0 else if j = 1 then r1 else 0))) (pc' := 83) C P51 f51_b48 at_82 rfl (by decide) (fun i hi => by match i, hi with | 0, _ => rfl | 1, _ => rfl | 2, _ => rfl) ge_b48 (Or.inr sz_b48) rfl ?_
  intro T52 h52 P52 W52 V52
  refine k_aload (pc' := 85) C P52 at_83 rfl rfl rfl ?_
  refine k_iconst (z := (2 : Int32)) (pc' := 86) C P52 at_85 rfl rfl ?_
  refine k_iload (pc' := 88) C P52 at_86 rfl rfl ?_
  refine k_bipush (z := (6 : Int32)) (pc' := 90) C P52 at_88 rfl rfl ?_
  refine k_iushr (pc' := 91) C P52 at_90 rfl ?_
  refine k_iconst (z := (3 : Int32)) (pc' := 92) C P52 at_91 rfl rfl ?_
  refine k_iand (pc' := 93) C P52 at_92 rfl ?_
  refine k_iload (pc' := 95) C P52 at_93 rfl rfl ?_
  refine k_iload (pc' := 97) C P52 at_95 rfl rfl ?_
  refine k_iload (pc' := 99) C P52 at_97 rfl rfl ?_
  refine k_callT (pc' := 102) (cells' := 1) (slots' := 3) (W := 2) C P52 (C.w 1 rfl) (C.w 2 rfl) (C.w 4 rfl) (C.w 3 rfl) (by decide) (rmPick l Z a0 hw _ n0 P52.size ((k_ushr p5 (6 : Int32)) &&& (3 : Int32)) ha hb p4) [(.int ((k_ushr p5 (6 : Int32)) &&& (3 : Int32))), (.int ha), (.int hb), (.int p4)] [(.int (2 : Int32)), (.ref b48)] rfl (lenOf pd_4 rfl) rfl (Nat.le_of_eq rfl) at_99 rfl (by decide) (by decide) rfl rfl (by decide) (by decide) all0 rfl ?_
  intro T53 h53 v53 P53 K53 Q53
  obtain ⟨r2, rfl, rfl⟩ := Q53
  have f53_b48 := V52.keep K53 nin0
  show KGo p e below _ T53 m 102 #[.val (.int p0), .val (.int p1), .val (.int p2), .val (.int p3), .val (.int p4), .val (.int p5), .val (.int ha), .val (.int hb), .val (.int m8), .val (.int m9), .val (.ref b48), .unset, .unset, .unset, .unset, .unset] [(.int r2), (.int (2 : Int32)), (.ref b48)]
  refine k_iastore (J := 2) (g' := (fun j => Value.int (if j = 0 then r0 else if j = 1 then r1 else r2))) (pc' := 103) C P53 f53_b48 at_102 rfl (by decide) (fun i hi => by match i, hi with | 0, _ => rfl | 1, _ => rfl | 2, _ => rfl) ge_b48 (Or.inr sz_b48) rfl ?_
  intro T54 h54 P54 W54 V54
  refine k_iload (pc' := 105) C P54 at_103 rfl rfl ?_
  refine k_bipush (z := (8 : Int32)) (pc' := 107) C P54 at_105 rfl rfl ?_
  refine k_iushr (pc' := 108) C P54 at_107 rfl ?_
  refine k_iconst (z := (3 : Int32)) (pc' := 109) C P54 at_108 rfl rfl ?_
  refine k_iand (pc' := 110) C P54 at_109 rfl ?_
  obtain ⟨zf, e_zf⟩ : ∃ z, z = ((k_ushr p5 (8 : Int32)) &&& (3 : Int32)) := ⟨_, rfl⟩
  rw [← e_zf]
  obtain ⟨Fr, hFr, hFr3⟩ : ∃ N : Nat, zf.toInt = (N : Int) ∧ N ≤ 3 := by rw [e_zf]; exact OwnNum.mask _ 3 rfl
  refine k_istore (l' := #[.val (.int p0), .val (.int p1), .val (.int p2), .val (.int p3), .val (.int p4), .val (.int p5), .val (.int ha), .val (.int hb), .val (.int m8), .val (.int m9), .val (.ref b48), .val (.int zf), .unset, .unset, .unset, .unset]) (pc' := 112) C P54 at_110 rfl rfl ?_
  refine k_iload (pc' := 114) C P54 at_112 rfl rfl ?_
  refine k_iload (pc' := 116) C P54 at_114 rfl rfl ?_
  refine k_bipush (z := (10 : Int32)) (pc' := 118) C P54 at_116 rfl rfl ?_
  refine k_iushr (pc' := 119) C P54 at_118 rfl ?_
  refine k_iconst (z := (3 : Int32)) (pc' := 120) C P54 at_119 rfl rfl ?_
  refine k_iand (pc' := 121) C P54 at_120 rfl ?_
  refine k_iadd (pc' := 122) C P54 at_121 rfl ?_
  obtain ⟨zs, e_zs⟩ : ∃ z, z = (zf + ((k_ushr p5 (10 : Int32)) &&& (3 : Int32))) := ⟨_, rfl⟩
  rw [← e_zs]
  obtain ⟨Sm, hSm, hSm1⟩ : ∃ N : Nat, zs.toInt = (N : Int) ∧ Fr ≤ N := by rw [e_zs]; exact own_sum hFr hFr3 _
  refine k_istore (l' := #[.val (.int p0), .val (.int p1), .val (.int p2), .val (.int p3), .val (.int p4), .val (.int p5), .val (.int ha), .val (.int hb), .val (.int m8), .val (.int m9), .val (.ref b48), .val (.int zf), .val (.int zs), .unset, .unset, .unset]) (pc' := 124) C P54 at_122 rfl rfl ?_
  refine k_join (pc' := 133) (Ls' := #[.val (.int p0), .val (.int p1), .val (.int p2), .val (.int p3), .val (.int p4), .val (.int p5), .val (.int ha), .val (.int hb), .val (.int m8), .val (.int m9), .val (.ref b48), .val (.int zf), .val (.int (if (3 : Int32) < zs then (3 : Int32) else zs)), .unset, .unset, .unset]) (st' := []) P54 ?_ ?_
  · intro hj55
    refine k_iload (pc' := 126) C P54 at_124 rfl rfl ?_
    refine k_iconst (z := (3 : Int32)) (pc' := 127) C P54 at_126 rfl rfl ?_
    refine k_icB (pcY := 133) (pcN := 130) C P54 at_127 (by decide) (by decide) rfl ?_ ?_
    · intro (hc127 : ¬ (3 : Int32) < zs)
      exact (hj55 _ P54).cast (by rw [if_neg hc127]) rfl
    · intro (hc127 : (3 : Int32) < zs)
      refine k_iconst (z := (3 : Int32)) (pc' := 131) C P54 at_130 rfl rfl ?_
      refine k_istore (l' := #[.val (.int p0), .val (.int p1), .val (.int p2), .val (.int p3), .val (.int p4), .val (.int p5), .val (.int ha), .val (.int hb), .val (.int m8), .val (.int m9), .val (.ref b48), .val (.int zf), .val (.int (3 : Int32)), .unset, .unset, .unset]) (pc' := 133) C P54 at_131 rfl rfl ?_
      exact (hj55 _ P54).cast (by rw [if_pos hc127]) rfl
  intro T55 P55
  obtain ⟨zt, e_zt⟩ : ∃ z, z = (if (3 : Int32) < zs then (3 : Int32) else zs) := ⟨_, rfl⟩
  rw [← e_zt]
  obtain ⟨To, hTo, hTo3, hFT⟩ : ∃ N : Nat, zt.toInt = (N : Int) ∧ N ≤ 3 ∧ Fr ≤ N := by rw [e_zt]; exact own_cap hSm hSm1 hFr3
  refine k_newo (pc' := 136) (cells' := 2) (slots' := 5) C P55 (C.w 5 rfl) (C.w 6 rfl) (C.w 7 rfl) at_133 rfl rfl (by decide) (by decide) rfl ?_
  intro T56 h56 b56 P56 hs56 ge_b56 sz_b56 E56 A56 D56
  have ne_b48_b56 : b48 ≠ b56 := Nat.ne_of_lt (hs56 ▸ V54.lt)
  have f56_b48 := V54.ext E56
  have f56_b56 : KOb Z h56 b56 "com/example/outrigger/outrigger/OrdinalSet" layO [.null, (.int (0 : Int32))] := KOb.new A56 D56 (lokO C.hw) (by decide +kernel)
  refine k_dup (pc' := 137) C P56 at_136 rfl rfl ?_
  refine k_callN (pc' := 140) (cells' := 4) (slots' := 7) (W := 1) C P56 rfl (C.w 8 rfl) (C.w 9 rfl) (C.w 10 rfl) (C.w 7 rfl) (by decide) (rmI l Z a0 hw _ n0 P56.size b56 ge_b56 f56_b56) b56 [] [(.ref b56)] rfl (lenOf pd_5 rfl) rfl (Nat.le_of_eq rfl) at_137 rfl (by decide) (by decide) rfl rfl (by decide) (by decide) (allS (Or.inr sz_b56) all0) rfl ?_
  intro T57 h57 v57 P57 K57 Q57
  obtain ⟨rfl, lv57, w057, gw57, zw57, O57⟩ := Q57
  have f57_b48 := f56_b48.keep K57 (ninS ne_b48_b56 nin0)
  have OO57 := own_same O57 (W' := own_W 0 ha 0 hb) rfl (fun j => own_W0 j)
  obtain ⟨kw57, VW57⟩ := OO57.2.1
  have szw57 := Nat.le_trans P56.kept.1 zw57
  show KGo p e below _ T57 m 140 #[.val (.int p0), .val (.int p1), .val (.int p2), .val (.int p3), .val (.int p4), .val (.int p5), .val (.int ha), .val (.int hb), .val (.int m8), .val (.int m9), .val (.ref b48), .val (.int zf), .val (.int zt), .unset, .unset, .unset] [(.ref b56)]
  refine k_astore (l' := #[.val (.int p0), .val (.int p1), .val (.int p2), .val (.int p3), .val (.int p4), .val (.int p5), .val (.int ha), .val (.int hb), .val (.int m8), .val (.int m9), .val (.ref b48), .val (.int zf), .val (.int zt), .val (.ref b56), .unset, .unset]) (pc' := 142) C P57 at_140 rfl rfl rfl ?_
  rcases h_m8 with rfl | rfl
  · skip
    refine k_iload (pc' := 144) C P57 at_142 rfl rfl ?_
    refine k_ifY (pc' := 154) C P57 at_144 k_01 (by decide) (by decide) ?_
    rcases h_m9 with rfl | rfl
    · skip
      refine k_iload (pc' := 156) C P57 at_154 rfl rfl ?_
      refine k_ifY (pc' := 166) C P57 at_156 k_01 (by decide) (by decide) ?_
      refine k_aload (pc' := 168) C P57 at_166 rfl rfl rfl ?_
      refine k_aload (pc' := 170) C P57 at_168 rfl rfl rfl ?_
      refine k_iload (pc' := 172) C P57 at_170 rfl rfl ?_
      refine k_iload (pc' := 174) C P57 at_172 rfl rfl ?_
      refine k_callV (pc' := 177) (cells' := 4) (slots' := 7) (W := 0) C P57 (C.w 37 rfl) (C.w 38 rfl) (fun _ q => notFace_of_selects (args := #[]) (mvT q (C.w 40 rfl))) (C.w 40 rfl) (C.w 39 rfl) (C.w 41 rfl) (C.w 7 rfl) (by decide) (rmFirst l Z a0 hw _ n0 P57.size b56 lv57 w057 1 (own_W 0 ha 0 hb) (0 : Int32) OO57 b48 k48 zf zt Fr To hFr hTo hFT hTo3 (fun i => decide ((¬ (0 : Int32) = (0 : Int32) ∧ ((fun j => if j = 0 then r0 else if j = 1 then r1 else r2 : Nat → Int32) i) = ha) ∨ (¬ (0 : Int32) = (0 : Int32) ∧ ((fun j => if j = 0 then r0 else if j = 1 then r1 else r2 : Nat → Int32) i) = hb))) (fun j => if j = 0 then r0 else if j = 1 then r1 else r2) (fun i _ => decide_eq_true_iff.trans (own_mem (OwnNum.toNat H_ha) (OwnNum.toNat H_hb) rfl).symm) f57_b48 (fun _ i _ => decide_eq_false (fun q => q.elim (fun r => r.1 rfl) (fun r => r.1 rfl)))) (OO57).1.exa [(.ref b48), (.int zf), (.int zt)] [] rfl (lenOf pd_6 rfl) rfl (Nat.le_of_eq rfl) at_174 rfl (by decide) (by decide) rfl rfl (by decide) (by decide) all0 rfl ?_
      intro T58 h58 v58 P58 K58 Q58
      obtain ⟨gt, rfl, rfl, hgt⟩ := Q58
      have f58_b48 := f57_b48.keep K58 nin0
      have f58_OSF := own_keep OO57 K58
      have f58_b56 := OO57.1.keep K58 nin0
      have f58_w057 := VW57.keep K58 nin0
      show KGo p e below _ T58 m 177 #[.val (.int p0), .val (.int p1), .val (.int p2), .val (.int p3), .val (.int p4), .val (.int p5), .val (.int ha), .val (.int hb), .val (.int (0 : Int32)), .val (.int (0 : Int32)), .val (.ref b48), .val (.int zf), .val (.int zt), .val (.ref b56), .unset, .unset] [(.int gt)]
      refine k_istore (l' := #[.val (.int p0), .val (.int p1), .val (.int p2), .val (.int p3), .val (.int p4), .val (.int p5), .val (.int ha), .val (.int hb), .val (.int (0 : Int32)), .val (.int (0 : Int32)), .val (.ref b48), .val (.int zf), .val (.int zt), .val (.ref b56), .val (.int gt), .unset]) (pc' := 179) C P58 at_177 rfl rfl ?_
      refine k_iload (pc' := 181) C P58 at_179 rfl rfl ?_
      refine k_istore (l' := #[.val (.int p0), .val (.int p1), .val (.int p2), .val (.int p3), .val (.int p4), .val (.int p5), .val (.int ha), .val (.int hb), .val (.int (0 : Int32)), .val (.int (0 : Int32)), .val (.ref b48), .val (.int zf), .val (.int zt), .val (.ref b56), .val (.int gt), .val (.int zt)]) (pc' := 183) C P58 at_181 rfl rfl ?_
      refine k_join (pc' := 216) (Ls' := #[.val (.int p0), .val (.int p1), .val (.int p2), .val (.int p3), .val (.int p4), .val (.int p5), .val (.int ha), .val (.int hb), .val (.int (0 : Int32)), .val (.int (0 : Int32)), .val (.ref b48), .val (.int zf), .val (.int zt), .val (.ref b56), .val (.int gt), .val (.int (if (¬ (2 : Int32) < zf ∧ (2 : Int32) < zt ∧ ((¬ (0 : Int32) = (0 : Int32) ∧ r2 = ha) ∨ (¬ (0 : Int32) = (0 : Int32) ∧ r2 = hb))) then (2 : Int32) else zt))]) (st' := []) P58 ?_ ?_
      · intro hj59
        refine k_iload (pc' := 185) C P58 at_183 rfl rfl ?_
        refine k_iconst (z := (2 : Int32)) (pc' := 186) C P58 at_185 rfl rfl ?_
        refine k_icB (pcY := 216) (pcN := 189) C P58 at_186 (by decide) (by decide) rfl ?_ ?_
        · intro (hc186 : (2 : Int32) < zf)
          exact (hj59 _ P58).cast (by rw [if_neg (show ¬ (¬ (2 : Int32) < zf ∧ (2 : Int32) < zt ∧ ((¬ (0 : Int32) = (0 : Int32) ∧ r2 = ha) ∨ (¬ (0 : Int32) = (0 : Int32) ∧ r2 = hb))) from fun q => q.1 hc186)]) rfl
        · intro (hc186 : ¬ (2 : Int32) < zf)
          refine k_iconst (z := (2 : Int32)) (pc' := 190) C P58 at_189 rfl rfl ?_
          refine k_iload (pc' := 192) C P58 at_190 rfl rfl ?_
          refine k_icB (pcY := 216) (pcN := 195) C P58 at_192 (by decide) (by decide) rfl ?_ ?_
          · intro (hc192 : ¬ (2 : Int32) < zt)
            exact (hj59 _ P58).cast (by rw [if_neg (show ¬ (¬ (2 : Int32) < zf ∧ (2 : Int32) < zt ∧ ((¬ (0 : Int32) = (0 : Int32) ∧ r2 = ha) ∨ (¬ (0 : Int32) = (0 : Int32) ∧ r2 = hb))) from fun q => hc192 q.2.1)]) rfl
          · intro (hc192 : (2 : Int32) < zt)
            refine k_aload (pc' := 197) C P58 at_195 rfl rfl rfl ?_
            refine k_iconst (z := (2 : Int32)) (pc' := 198) C P58 at_197 rfl rfl ?_
            refine k_iaload (J := 2) (v := (.int r2)) (pc' := 199) C P58 f58_b48 at_198 rfl (by decide) rfl rfl ?_
            refine k_iload (pc' := 201) C P58 at_199 rfl rfl ?_
            refine k_iload (pc' := 203) C P58 at_201 rfl rfl ?_
            refine k_iload (pc' := 205) C P58 at_203 rfl rfl ?_
            refine k_iload (pc' := 207) C P58 at_205 rfl rfl ?_
            refine k_callT (pc' := 210) (cells' := 4) (slots' := 7) (W := 0) C P58 (C.w 57 rfl) (C.w 58 rfl) (C.w 59 rfl) (C.w 3 rfl) (by decide) (rmHeld l Z a0 hw _ n0 P58.size r2 (0 : Int32) ha (0 : Int32) hb) [(.int r2), (.int (0 : Int32)), (.int ha), (.int (0 : Int32)), (.int hb)] [] rfl (lenOf pd_7 rfl) rfl (Nat.le_of_eq rfl) at_207 rfl (by decide) (by decide) rfl rfl (by decide) (by decide) all0 rfl ?_
            intro T60 h60 v60 P60 K60 Q60
            obtain ⟨e60, g60⟩ := Q60
            subst g60
            subst e60
            show KGo p e below _ T60 m 210 #[.val (.int p0), .val (.int p1), .val (.int p2), .val (.int p3), .val (.int p4), .val (.int p5), .val (.int ha), .val (.int hb), .val (.int (0 : Int32)), .val (.int (0 : Int32)), .val (.ref b48), .val (.int zf), .val (.int zt), .val (.ref b56), .val (.int gt), .val (.int zt)] [(.int (if ((¬ (0 : Int32) = (0 : Int32) ∧ r2 = ha) ∨ (¬ (0 : Int32) = (0 : Int32) ∧ r2 = hb)) then (1 : Int32) else 0))]
            refine k_ifB (pcY := 216) (pcN := 213) C P60 at_210 (by decide) (by decide) rfl ?_ ?_
            · intro (hc210 : (if ((¬ (0 : Int32) = (0 : Int32) ∧ r2 = ha) ∨ (¬ (0 : Int32) = (0 : Int32) ∧ r2 = hb)) then (1 : Int32) else 0) = (0 : Int32))
              exact (hj59 _ P60).cast (by rw [if_neg (show ¬ (¬ (2 : Int32) < zf ∧ (2 : Int32) < zt ∧ ((¬ (0 : Int32) = (0 : Int32) ∧ r2 = ha) ∨ (¬ (0 : Int32) = (0 : Int32) ∧ r2 = hb))) from fun q => own_i0 hc210 q.2.2)]) rfl
            · intro (hc210 : ¬ (if ((¬ (0 : Int32) = (0 : Int32) ∧ r2 = ha) ∨ (¬ (0 : Int32) = (0 : Int32) ∧ r2 = hb)) then (1 : Int32) else 0) = (0 : Int32))
              refine k_iconst (z := (2 : Int32)) (pc' := 214) C P60 at_213 rfl rfl ?_
              refine k_istore (l' := #[.val (.int p0), .val (.int p1), .val (.int p2), .val (.int p3), .val (.int p4), .val (.int p5), .val (.int ha), .val (.int hb), .val (.int (0 : Int32)), .val (.int (0 : Int32)), .val (.ref b48), .val (.int zf), .val (.int zt), .val (.ref b56), .val (.int gt), .val (.int (2 : Int32))]) (pc' := 216) C P60 at_214 rfl rfl ?_
              exact (hj59 _ P60).cast (by rw [if_pos (show (¬ (2 : Int32) < zf ∧ (2 : Int32) < zt ∧ ((¬ (0 : Int32) = (0 : Int32) ∧ r2 = ha) ∨ (¬ (0 : Int32) = (0 : Int32) ∧ r2 = hb))) from ⟨hc186, hc192, own_i1 hc210⟩)]) rfl
      intro T59 P59
      obtain ⟨x2, e_x2⟩ : ∃ z, z = (if (¬ (2 : Int32) < zf ∧ (2 : Int32) < zt ∧ ((¬ (0 : Int32) = (0 : Int32) ∧ r2 = ha) ∨ (¬ (0 : Int32) = (0 : Int32) ∧ r2 = hb))) then (2 : Int32) else zt) := ⟨_, rfl⟩
      rw [← e_x2]
      refine k_join (pc' := 249) (Ls' := #[.val (.int p0), .val (.int p1), .val (.int p2), .val (.int p3), .val (.int p4), .val (.int p5), .val (.int ha), .val (.int hb), .val (.int (0 : Int32)), .val (.int (0 : Int32)), .val (.ref b48), .val (.int zf), .val (.int zt), .val (.ref b56), .val (.int gt), .val (.int (if (¬ (1 : Int32) < zf ∧ (1 : Int32) < zt ∧ ((¬ (0 : Int32) = (0 : Int32) ∧ r1 = ha) ∨ (¬ (0 : Int32) = (0 : Int32) ∧ r1 = hb))) then (1 : Int32) else x2))]) (st' := []) P59 ?_ ?_
      · intro hj61
        refine k_iload (pc' := 218) C P59 at_216 rfl rfl ?_
        refine k_iconst (z := (1 : Int32)) (pc' := 219) C P59 at_218 rfl rfl ?_
        refine k_icB (pcY := 249) (pcN := 222) C P59 at_219 (by decide) (by decide) rfl ?_ ?_
        · intro (hc219 : (1 : Int32) < zf)
          exact (hj61 _ P59).cast (by rw [if_neg (show ¬ (¬ (1 : Int32) < zf ∧ (1 : Int32) < zt ∧ ((¬ (0 : Int32) = (0 : Int32) ∧ r1 = ha) ∨ (¬ (0 : Int32) = (0 : Int32) ∧ r1 = hb))) from fun q => q.1 hc219)]) rfl
        · intro (hc219 : ¬ (1 : Int32) < zf)
          refine k_iconst (z := (1 : Int32)) (pc' := 223) C P59 at_222 rfl rfl ?_
          refine k_iload (pc' := 225) C P59 at_223 rfl rfl ?_
          refine k_icB (pcY := 249) (pcN := 228) C P59 at_225 (by decide) (by decide) rfl ?_ ?_
          · intro (hc225 : ¬ (1 : Int32) < zt)
            exact (hj61 _ P59).cast (by rw [if_neg (show ¬ (¬ (1 : Int32) < zf ∧ (1 : Int32) < zt ∧ ((¬ (0 : Int32) = (0 : Int32) ∧ r1 = ha) ∨ (¬ (0 : Int32) = (0 : Int32) ∧ r1 = hb))) from fun q => hc225 q.2.1)]) rfl
          · intro (hc225 : (1 : Int32) < zt)
            refine k_aload (pc' := 230) C P59 at_228 rfl rfl rfl ?_
            refine k_iconst (z := (1 : Int32)) (pc' := 231) C P59 at_230 rfl rfl ?_
            refine k_iaload (J := 1) (v := (.int r1)) (pc' := 232) C P59 f58_b48 at_231 rfl (by decide) rfl rfl ?_
            refine k_iload (pc' := 234) C P59 at_232 rfl rfl ?_
            refine k_iload (pc' := 236) C P59 at_234 rfl rfl ?_
            refine k_iload (pc' := 238) C P59 at_236 rfl rfl ?_
            refine k_iload (pc' := 240) C P59 at_238 rfl rfl ?_
            refine k_callT (pc' := 243) (cells' := 4) (slots' := 7) (W := 0) C P59 (C.w 57 rfl) (C.w 58 rfl) (C.w 59 rfl) (C.w 3 rfl) (by decide) (rmHeld l Z a0 hw _ n0 P59.size r1 (0 : Int32) ha (0 : Int32) hb) [(.int r1), (.int (0 : Int32)), (.int ha), (.int (0 : Int32)), (.int hb)] [] rfl (lenOf pd_7 rfl) rfl (Nat.le_of_eq rfl) at_240 rfl (by decide) (by decide) rfl rfl (by decide) (by decide) all0 rfl ?_
            intro T62 h62 v62 P62 K62 Q62
            obtain ⟨e62, g62⟩ := Q62
            subst g62
            subst e62
            show KGo p e below _ T62 m 243 #[.val (.int p0), .val (.int p1), .val (.int p2), .val (.int p3), .val (.int p4), .val (.int p5), .val (.int ha), .val (.int hb), .val (.int (0 : Int32)), .val (.int (0 : Int32)), .val (.ref b48), .val (.int zf), .val (.int zt), .val (.ref b56), .val (.int gt), .val (.int x2)] [(.int (if ((¬ (0 : Int32) = (0 : Int32) ∧ r1 = ha) ∨ (¬ (0 : Int32) = (0 : Int32) ∧ r1 = hb)) then (1 : Int32) else 0))]
            refine k_ifB (pcY := 249) (pcN := 246) C P62 at_243 (by decide) (by decide) rfl ?_ ?_
            · intro (hc243 : (if ((¬ (0 : Int32) = (0 : Int32) ∧ r1 = ha) ∨ (¬ (0 : Int32) = (0 : Int32) ∧ r1 = hb)) then (1 : Int32) else 0) = (0 : Int32))
              exact (hj61 _ P62).cast (by rw [if_neg (show ¬ (¬ (1 : Int32) < zf ∧ (1 : Int32) < zt ∧ ((¬ (0 : Int32) = (0 : Int32) ∧ r1 = ha) ∨ (¬ (0 : Int32) = (0 : Int32) ∧ r1 = hb))) from fun q => own_i0 hc243 q.2.2)]) rfl
            · intro (hc243 : ¬ (if ((¬ (0 : Int32) = (0 : Int32) ∧ r1 = ha) ∨ (¬ (0 : Int32) = (0 : Int32) ∧ r1 = hb)) then (1 : Int32) else 0) = (0 : Int32))
              refine k_iconst (z := (1 : Int32)) (pc' := 247) C P62 at_246 rfl rfl ?_
              refine k_istore (l' := #[.val (.int p0), .val (.int p1), .val (.int p2), .val (.int p3), .val (.int p4), .val (.int p5), .val (.int ha), .val (.int hb), .val (.int (0 : Int32)), .val (.int (0 : Int32)), .val (.ref b48), .val (.int zf), .val (.int zt), .val (.ref b56), .val (.int gt), .val (.int (1 : Int32))]) (pc' := 249) C P62 at_247 rfl rfl ?_
              exact (hj61 _ P62).cast (by rw [if_pos (show (¬ (1 : Int32) < zf ∧ (1 : Int32) < zt ∧ ((¬ (0 : Int32) = (0 : Int32) ∧ r1 = ha) ∨ (¬ (0 : Int32) = (0 : Int32) ∧ r1 = hb))) from ⟨hc219, hc225, own_i1 hc243⟩)]) rfl
      intro T61 P61
      obtain ⟨x1, e_x1⟩ : ∃ z, z = (if (¬ (1 : Int32) < zf ∧ (1 : Int32) < zt ∧ ((¬ (0 : Int32) = (0 : Int32) ∧ r1 = ha) ∨ (¬ (0 : Int32) = (0 : Int32) ∧ r1 = hb))) then (1 : Int32) else x2) := ⟨_, rfl⟩
      rw [← e_x1]
      refine k_join (pc' := 281) (Ls' := #[.val (.int p0), .val (.int p1), .val (.int p2), .val (.int p3), .val (.int p4), .val (.int p5), .val (.int ha), .val (.int hb), .val (.int (0 : Int32)), .val (.int (0 : Int32)), .val (.ref b48), .val (.int zf), .val (.int zt), .val (.ref b56), .val (.int gt), .val (.int (if (¬ (0 : Int32) < zf ∧ (0 : Int32) < zt ∧ ((¬ (0 : Int32) = (0 : Int32) ∧ r0 = ha) ∨ (¬ (0 : Int32) = (0 : Int32) ∧ r0 = hb))) then (0 : Int32) else x1))]) (st' := []) P61 ?_ ?_
      · intro hj63
        refine k_iload (pc' := 251) C P61 at_249 rfl rfl ?_
        refine k_ifB (pcY := 281) (pcN := 254) C P61 at_251 (by decide) (by decide) rfl ?_ ?_
        · intro (hc251 : (0 : Int32) < zf)
          exact (hj63 _ P61).cast (by rw [if_neg (show ¬ (¬ (0 : Int32) < zf ∧ (0 : Int32) < zt ∧ ((¬ (0 : Int32) = (0 : Int32) ∧ r0 = ha) ∨ (¬ (0 : Int32) = (0 : Int32) ∧ r0 = hb))) from fun q => q.1 hc251)]) rfl
        · intro (hc251 : ¬ (0 : Int32) < zf)
          refine k_iconst (z := (0 : Int32)) (pc' := 255) C P61 at_254 rfl rfl ?_
          refine k_iload (pc' := 257) C P61 at_255 rfl rfl ?_
          refine k_icB (pcY := 281) (pcN := 260) C P61 at_257 (by decide) (by decide) rfl ?_ ?_
          · intro (hc257 : ¬ (0 : Int32) < zt)
            exact (hj63 _ P61).cast (by rw [if_neg (show ¬ (¬ (0 : Int32) < zf ∧ (0 : Int32) < zt ∧ ((¬ (0 : Int32) = (0 : Int32) ∧ r0 = ha) ∨ (¬ (0 : Int32) = (0 : Int32) ∧ r0 = hb))) from fun q => hc257 q.2.1)]) rfl
          · intro (hc257 : (0 : Int32) < zt)
            refine k_aload (pc' := 262) C P61 at_260 rfl rfl rfl ?_
            refine k_iconst (z := (0 : Int32)) (pc' := 263) C P61 at_262 rfl rfl ?_
            refine k_iaload (J := 0) (v := (.int r0)) (pc' := 264) C P61 f58_b48 at_263 rfl (by decide) rfl rfl ?_
            refine k_iload (pc' := 266) C P61 at_264 rfl rfl ?_
            refine k_iload (pc' := 268) C P61 at_266 rfl rfl ?_
            refine k_iload (pc' := 270) C P61 at_268 rfl rfl ?_
            refine k_iload (pc' := 272) C P61 at_270 rfl rfl ?_
            refine k_callT (pc' := 275) (cells' := 4) (slots' := 7) (W := 0) C P61 (C.w 57 rfl) (C.w 58 rfl) (C.w 59 rfl) (C.w 3 rfl) (by decide) (rmHeld l Z a0 hw _ n0 P61.size r0 (0 : Int32) ha (0 : Int32) hb) [(.int r0), (.int (0 : Int32)), (.int ha), (.int (0 : Int32)), (.int hb)] [] rfl (lenOf pd_7 rfl) rfl (Nat.le_of_eq rfl) at_272 rfl (by decide) (by decide) rfl rfl (by decide) (by decide) all0 rfl ?_
            intro T64 h64 v64 P64 K64 Q64
            obtain ⟨e64, g64⟩ := Q64
            subst g64
            subst e64
            show KGo p e below _ T64 m 275 #[.val (.int p0), .val (.int p1), .val (.int p2), .val (.int p3), .val (.int p4), .val (.int p5), .val (.int ha), .val (.int hb), .val (.int (0 : Int32)), .val (.int (0 : Int32)), .val (.ref b48), .val (.int zf), .val (.int zt), .val (.ref b56), .val (.int gt), .val (.int x1)] [(.int (if ((¬ (0 : Int32) = (0 : Int32) ∧ r0 = ha) ∨ (¬ (0 : Int32) = (0 : Int32) ∧ r0 = hb)) then (1 : Int32) else 0))]
            refine k_ifB (pcY := 281) (pcN := 278) C P64 at_275 (by decide) (by decide) rfl ?_ ?_
            · intro (hc275 : (if ((¬ (0 : Int32) = (0 : Int32) ∧ r0 = ha) ∨ (¬ (0 : Int32) = (0 : Int32) ∧ r0 = hb)) then (1 : Int32) else 0) = (0 : Int32))
              exact (hj63 _ P64).cast (by rw [if_neg (show ¬ (¬ (0 : Int32) < zf ∧ (0 : Int32) < zt ∧ ((¬ (0 : Int32) = (0 : Int32) ∧ r0 = ha) ∨ (¬ (0 : Int32) = (0 : Int32) ∧ r0 = hb))) from fun q => own_i0 hc275 q.2.2)]) rfl
            · intro (hc275 : ¬ (if ((¬ (0 : Int32) = (0 : Int32) ∧ r0 = ha) ∨ (¬ (0 : Int32) = (0 : Int32) ∧ r0 = hb)) then (1 : Int32) else 0) = (0 : Int32))
              refine k_iconst (z := (0 : Int32)) (pc' := 279) C P64 at_278 rfl rfl ?_
              refine k_istore (l' := #[.val (.int p0), .val (.int p1), .val (.int p2), .val (.int p3), .val (.int p4), .val (.int p5), .val (.int ha), .val (.int hb), .val (.int (0 : Int32)), .val (.int (0 : Int32)), .val (.ref b48), .val (.int zf), .val (.int zt), .val (.ref b56), .val (.int gt), .val (.int (0 : Int32))]) (pc' := 281) C P64 at_279 rfl rfl ?_
              exact (hj63 _ P64).cast (by rw [if_pos (show (¬ (0 : Int32) < zf ∧ (0 : Int32) < zt ∧ ((¬ (0 : Int32) = (0 : Int32) ∧ r0 = ha) ∨ (¬ (0 : Int32) = (0 : Int32) ∧ r0 = hb))) from ⟨hc251, hc257, own_i1 hc275⟩)]) rfl
      intro T63 P63
      obtain ⟨x0, e_x0⟩ : ∃ z, z = (if (¬ (0 : Int32) < zf ∧ (0 : Int32) < zt ∧ ((¬ (0 : Int32) = (0 : Int32) ∧ r0 = ha) ∨ (¬ (0 : Int32) = (0 : Int32) ∧ r0 = hb))) then (0 : Int32) else x1) := ⟨_, rfl⟩
      rw [← e_x0]
      refine k_iload (pc' := 283) C P63 at_281 rfl rfl ?_
      refine k_iload (pc' := 285) C P63 at_283 rfl rfl ?_
      refine k_icN (pc' := 288) C P63 at_285 (own_fin (X := (fun j => if j = 0 then r0 else if j = 1 then r1 else r2 : Nat → Int32)) (H := fun x => ((¬ (0 : Int32) = (0 : Int32) ∧ x = ha) ∨ (¬ (0 : Int32) = (0 : Int32) ∧ x = hb))) hFr hTo hTo3 hFT hgt e_x2 e_x1 e_x0) rfl ?_
      refine k_iconst (z := (1 : Int32)) (pc' := 289) C P63 at_288 rfl rfl ?_
      refine k_goto (pc' := 293) C P63 at_289 (by decide) (by decide) ?_
      exact k_retZ (z' := (1 : Int32)) C P63 (by simp) at_293 rfl (by decide) (by decide) rfl
    · skip
      refine k_iload (pc' := 156) C P57 at_154 rfl rfl ?_
      refine k_ifN (pc' := 159) C P57 at_156 k_10 rfl ?_
      refine k_aload (pc' := 161) C P57 at_159 rfl rfl rfl ?_
      refine k_iload (pc' := 163) C P57 at_161 rfl rfl ?_
      refine k_callV (pc' := 166) (cells' := 8) (slots' := 47) (W := 0) C P57 (C.w 20 rfl) (C.w 21 rfl) (fun _ q => notFace_of_selects (args := #[]) (mvT q (C.w 23 rfl))) (C.w 23 rfl) (C.w 22 rfl) (C.w 24 rfl) (C.w 7 rfl) (by decide) (rmAdd l Z a0 hw _ n0 P57.size b56 lv57 w057 1 (own_W 0 ha 0 hb) (0 : Int32) OO57 hb _ U_hb (by omega) ge_b56 gw57 (own_W 0 ha 1 hb) (1 : Int32) (fun q => absurd q (own_nB (OwnNum.toNat H_hb))) (fun _ => ⟨rfl, fun j => own_aB (OwnNum.toNat H_hb) j⟩) (own_n1 _ _ _ _ _)) (OO57).1.exa [(.int hb)] [] rfl (lenOf pd_2 rfl) rfl (Nat.le_of_eq rfl) at_163 rfl (by decide) (by decide) rfl rfl (by decide) (by decide) (allS (Or.inr sz_b56) (allS (Or.inr szw57) all0)) rfl ?_
      intro T65 h65 v65 P65 K65 Q65
      obtain ⟨rfl, lv65, w065, L65, gw65, hw65, O65⟩ := Q65
      have f65_b48 := f57_b48.keep K65 (ninS ne_b48_b56 (ninS (KVA.neT f57_b48 VW57 nofun) nin0))
      have OO65 := O65
      obtain ⟨kw65, VW65⟩ := OO65.2.1
      have szw65 := hw65.elim (fun e => by rw [e]; exact szw57) (fun q => Nat.le_trans P57.kept.1 q)
      show KGo p e below _ T65 m 166 #[.val (.int p0), .val (.int p1), .val (.int p2), .val (.int p3), .val (.int p4), .val (.int p5), .val (.int ha), .val (.int hb), .val (.int (0 : Int32)), .val (.int (1 : Int32)), .val (.ref b48), .val (.int zf), .val (.int zt), .val (.ref b56), .unset, .unset] []
      refine k_aload (pc' := 168) C P65 at_166 rfl rfl rfl ?_
      refine k_aload (pc' := 170) C P65 at_168 rfl rfl rfl ?_
      refine k_iload (pc' := 172) C P65 at_170 rfl rfl ?_
      refine k_iload (pc' := 174) C P65 at_172 rfl rfl ?_
      refine k_callV (pc' := 177) (cells' := 8) (slots' := 47) (W := 0) C P65 (C.w 37 rfl) (C.w 38 rfl) (fun _ q => notFace_of_selects (args := #[]) (mvT q (C.w 40 rfl))) (C.w 40 rfl) (C.w 39 rfl) (C.w 41 rfl) (C.w 7 rfl) (by decide) (rmFirst l Z a0 hw _ n0 P65.size b56 lv65 w065 L65 (own_W 0 ha 1 hb) (1 : Int32) OO65 b48 k48 zf zt Fr To hFr hTo hFT hTo3 (fun i => decide ((¬ (0 : Int32) = (0 : Int32) ∧ ((fun j => if j = 0 then r0 else if j = 1 then r1 else r2 : Nat → Int32) i) = ha) ∨ (¬ (1 : Int32) = (0 : Int32) ∧ ((fun j => if j = 0 then r0 else if j = 1 then r1 else r2 : Nat → Int32) i) = hb))) (fun j => if j = 0 then r0 else if j = 1 then r1 else r2) (fun i _ => decide_eq_true_iff.trans (own_mem (OwnNum.toNat H_ha) (OwnNum.toNat H_hb) rfl).symm) f65_b48 (fun q => absurd q (by decide))) (OO65).1.exa [(.ref b48), (.int zf), (.int zt)] [] rfl (lenOf pd_6 rfl) rfl (Nat.le_of_eq rfl) at_174 rfl (by decide) (by decide) rfl rfl (by decide) (by decide) all0 rfl ?_
      intro T66 h66 v66 P66 K66 Q66
      obtain ⟨gt, rfl, rfl, hgt⟩ := Q66
      have f66_b48 := f65_b48.keep K66 nin0
      have f66_OSF := own_keep OO65 K66
      have f66_b56 := OO65.1.keep K66 nin0
      have f66_w065 := VW65.keep K66 nin0
      show KGo p e below _ T66 m 177 #[.val (.int p0), .val (.int p1), .val (.int p2), .val (.int p3), .val (.int p4), .val (.int p5), .val (.int ha), .val (.int hb), .val (.int (0 : Int32)), .val (.int (1 : Int32)), .val (.ref b48), .val (.int zf), .val (.int zt), .val (.ref b56), .unset, .unset] [(.int gt)]
      refine k_istore (l' := #[.val (.int p0), .val (.int p1), .val (.int p2), .val (.int p3), .val (.int p4), .val (.int p5), .val (.int ha), .val (.int hb), .val (.int (0 : Int32)), .val (.int (1 : Int32)), .val (.ref b48), .val (.int zf), .val (.int zt), .val (.ref b56), .val (.int gt), .unset]) (pc' := 179) C P66 at_177 rfl rfl ?_
      refine k_iload (pc' := 181) C P66 at_179 rfl rfl ?_
      refine k_istore (l' := #[.val (.int p0), .val (.int p1), .val (.int p2), .val (.int p3), .val (.int p4), .val (.int p5), .val (.int ha), .val (.int hb), .val (.int (0 : Int32)), .val (.int (1 : Int32)), .val (.ref b48), .val (.int zf), .val (.int zt), .val (.ref b56), .val (.int gt), .val (.int zt)]) (pc' := 183) C P66 at_181 rfl rfl ?_
      refine k_join (pc' := 216) (Ls' := #[.val (.int p0), .val (.int p1), .val (.int p2), .val (.int p3), .val (.int p4), .val (.int p5), .val (.int ha), .val (.int hb), .val (.int (0 : Int32)), .val (.int (1 : Int32)), .val (.ref b48), .val (.int zf), .val (.int zt), .val (.ref b56), .val (.int gt), .val (.int (if (¬ (2 : Int32) < zf ∧ (2 : Int32) < zt ∧ ((¬ (0 : Int32) = (0 : Int32) ∧ r2 = ha) ∨ (¬ (1 : Int32) = (0 : Int32) ∧ r2 = hb))) then (2 : Int32) else zt))]) (st' := []) P66 ?_ ?_
      · intro hj67
        refine k_iload (pc' := 185) C P66 at_183 rfl rfl ?_
        refine k_iconst (z := (2 : Int32)) (pc' := 186) C P66 at_185 rfl rfl ?_
        refine k_icB (pcY := 216) (pcN := 189) C P66 at_186 (by decide) (by decide) rfl ?_ ?_
        · intro (hc186 : (2 : Int32) < zf)
          exact (hj67 _ P66).cast (by rw [if_neg (show ¬ (¬ (2 : Int32) < zf ∧ (2 : Int32) < zt ∧ ((¬ (0 : Int32) = (0 : Int32) ∧ r2 = ha) ∨ (¬ (1 : Int32) = (0 : Int32) ∧ r2 = hb))) from fun q => q.1 hc186)]) rfl
        · intro (hc186 : ¬ (2 : Int32) < zf)
          refine k_iconst (z := (2 : Int32)) (pc' := 190) C P66 at_189 rfl rfl ?_
          refine k_iload (pc' := 192) C P66 at_190 rfl rfl ?_
          refine k_icB (pcY := 216) (pcN := 195) C P66 at_192 (by decide) (by decide) rfl ?_ ?_
          · intro (hc192 : ¬ (2 : Int32) < zt)
            exact (hj67 _ P66).cast (by rw [if_neg (show ¬ (¬ (2 : Int32) < zf ∧ (2 : Int32) < zt ∧ ((¬ (0 : Int32) = (0 : Int32) ∧ r2 = ha) ∨ (¬ (1 : Int32) = (0 : Int32) ∧ r2 = hb))) from fun q => hc192 q.2.1)]) rfl
          · intro (hc192 : (2 : Int32) < zt)
            refine k_aload (pc' := 197) C P66 at_195 rfl rfl rfl ?_
            refine k_iconst (z := (2 : Int32)) (pc' := 198) C P66 at_197 rfl rfl ?_
            refine k_iaload (J := 2) (v := (.int r2)) (pc' := 199) C P66 f66_b48 at_198 rfl (by decide) rfl rfl ?_
            refine k_iload (pc' := 201) C P66 at_199 rfl rfl ?_
            refine k_iload (pc' := 203) C P66 at_201 rfl rfl ?_
            refine k_iload (pc' := 205) C P66 at_203 rfl rfl ?_
            refine k_iload (pc' := 207) C P66 at_205 rfl rfl ?_
            refine k_callT (pc' := 210) (cells' := 8) (slots' := 47) (W := 0) C P66 (C.w 57 rfl) (C.w 58 rfl) (C.w 59 rfl) (C.w 3 rfl) (by decide) (rmHeld l Z a0 hw _ n0 P66.size r2 (0 : Int32) ha (1 : Int32) hb) [(.int r2), (.int (0 : Int32)), (.int ha), (.int (1 : Int32)), (.int hb)] [] rfl (lenOf pd_7 rfl) rfl (Nat.le_of_eq rfl) at_207 rfl (by decide) (by decide) rfl rfl (by decide) (by decide) all0 rfl ?_
            intro T68 h68 v68 P68 K68 Q68
            obtain ⟨e68, g68⟩ := Q68
            subst g68
            subst e68
            show KGo p e below _ T68 m 210 #[.val (.int p0), .val (.int p1), .val (.int p2), .val (.int p3), .val (.int p4), .val (.int p5), .val (.int ha), .val (.int hb), .val (.int (0 : Int32)), .val (.int (1 : Int32)), .val (.ref b48), .val (.int zf), .val (.int zt), .val (.ref b56), .val (.int gt), .val (.int zt)] [(.int (if ((¬ (0 : Int32) = (0 : Int32) ∧ r2 = ha) ∨ (¬ (1 : Int32) = (0 : Int32) ∧ r2 = hb)) then (1 : Int32) else 0))]
            refine k_ifB (pcY := 216) (pcN := 213) C P68 at_210 (by decide) (by decide) rfl ?_ ?_
            · intro (hc210 : (if ((¬ (0 : Int32) = (0 : Int32) ∧ r2 = ha) ∨ (¬ (1 : Int32) = (0 : Int32) ∧ r2 = hb)) then (1 : Int32) else 0) = (0 : Int32))
              exact (hj67 _ P68).cast (by rw [if_neg (show ¬ (¬ (2 : Int32) < zf ∧ (2 : Int32) < zt ∧ ((¬ (0 : Int32) = (0 : Int32) ∧ r2 = ha) ∨ (¬ (1 : Int32) = (0 : Int32) ∧ r2 = hb))) from fun q => own_i0 hc210 q.2.2)]) rfl
            · intro (hc210 : ¬ (if ((¬ (0 : Int32) = (0 : Int32) ∧ r2 = ha) ∨ (¬ (1 : Int32) = (0 : Int32) ∧ r2 = hb)) then (1 : Int32) else 0) = (0 : Int32))
              refine k_iconst (z := (2 : Int32)) (pc' := 214) C P68 at_213 rfl rfl ?_
              refine k_istore (l' := #[.val (.int p0), .val (.int p1), .val (.int p2), .val (.int p3), .val (.int p4), .val (.int p5), .val (.int ha), .val (.int hb), .val (.int (0 : Int32)), .val (.int (1 : Int32)), .val (.ref b48), .val (.int zf), .val (.int zt), .val (.ref b56), .val (.int gt), .val (.int (2 : Int32))]) (pc' := 216) C P68 at_214 rfl rfl ?_
              exact (hj67 _ P68).cast (by rw [if_pos (show (¬ (2 : Int32) < zf ∧ (2 : Int32) < zt ∧ ((¬ (0 : Int32) = (0 : Int32) ∧ r2 = ha) ∨ (¬ (1 : Int32) = (0 : Int32) ∧ r2 = hb))) from ⟨hc186, hc192, own_i1 hc210⟩)]) rfl
      intro T67 P67
      obtain ⟨x2, e_x2⟩ : ∃ z, z = (if (¬ (2 : Int32) < zf ∧ (2 : Int32) < zt ∧ ((¬ (0 : Int32) = (0 : Int32) ∧ r2 = ha) ∨ (¬ (1 : Int32) = (0 : Int32) ∧ r2 = hb))) then (2 : Int32) else zt) := ⟨_, rfl⟩
      rw [← e_x2]
      refine k_join (pc' := 249) (Ls' := #[.val (.int p0), .val (.int p1), .val (.int p2), .val (.int p3), .val (.int p4), .val (.int p5), .val (.int ha), .val (.int hb), .val (.int (0 : Int32)), .val (.int (1 : Int32)), .val (.ref b48), .val (.int zf), .val (.int zt), .val (.ref b56), .val (.int gt), .val (.int (if (¬ (1 : Int32) < zf ∧ (1 : Int32) < zt ∧ ((¬ (0 : Int32) = (0 : Int32) ∧ r1 = ha) ∨ (¬ (1 : Int32) = (0 : Int32) ∧ r1 = hb))) then (1 : Int32) else x2))]) (st' := []) P67 ?_ ?_
      · intro hj69
        refine k_iload (pc' := 218) C P67 at_216 rfl rfl ?_
        refine k_iconst (z := (1 : Int32)) (pc' := 219) C P67 at_218 rfl rfl ?_
        refine k_icB (pcY := 249) (pcN := 222) C P67 at_219 (by decide) (by decide) rfl ?_ ?_
        · intro (hc219 : (1 : Int32) < zf)
          exact (hj69 _ P67).cast (by rw [if_neg (show ¬ (¬ (1 : Int32) < zf ∧ (1 : Int32) < zt ∧ ((¬ (0 : Int32) = (0 : Int32) ∧ r1 = ha) ∨ (¬ (1 : Int32) = (0 : Int32) ∧ r1 = hb))) from fun q => q.1 hc219)]) rfl
        · intro (hc219 : ¬ (1 : Int32) < zf)
          refine k_iconst (z := (1 : Int32)) (pc' := 223) C P67 at_222 rfl rfl ?_
          refine k_iload (pc' := 225) C P67 at_223 rfl rfl ?_
          refine k_icB (pcY := 249) (pcN := 228) C P67 at_225 (by decide) (by decide) rfl ?_ ?_
          · intro (hc225 : ¬ (1 : Int32) < zt)
            exact (hj69 _ P67).cast (by rw [if_neg (show ¬ (¬ (1 : Int32) < zf ∧ (1 : Int32) < zt ∧ ((¬ (0 : Int32) = (0 : Int32) ∧ r1 = ha) ∨ (¬ (1 : Int32) = (0 : Int32) ∧ r1 = hb))) from fun q => hc225 q.2.1)]) rfl
          · intro (hc225 : (1 : Int32) < zt)
            refine k_aload (pc' := 230) C P67 at_228 rfl rfl rfl ?_
            refine k_iconst (z := (1 : Int32)) (pc' := 231) C P67 at_230 rfl rfl ?_
            refine k_iaload (J := 1) (v := (.int r1)) (pc' := 232) C P67 f66_b48 at_231 rfl (by decide) rfl rfl ?_
            refine k_iload (pc' := 234) C P67 at_232 rfl rfl ?_
            refine k_iload (pc' := 236) C P67 at_234 rfl rfl ?_
            refine k_iload (pc' := 238) C P67 at_236 rfl rfl ?_
            refine k_iload (pc' := 240) C P67 at_238 rfl rfl ?_
            refine k_callT (pc' := 243) (cells' := 8) (slots' := 47) (W := 0) C P67 (C.w 57 rfl) (C.w 58 rfl) (C.w 59 rfl) (C.w 3 rfl) (by decide) (rmHeld l Z a0 hw _ n0 P67.size r1 (0 : Int32) ha (1 : Int32) hb) [(.int r1), (.int (0 : Int32)), (.int ha), (.int (1 : Int32)), (.int hb)] [] rfl (lenOf pd_7 rfl) rfl (Nat.le_of_eq rfl) at_240 rfl (by decide) (by decide) rfl rfl (by decide) (by decide) all0 rfl ?_
            intro T70 h70 v70 P70 K70 Q70
            obtain ⟨e70, g70⟩ := Q70
            subst g70
            subst e70
            show KGo p e below _ T70 m 243 #[.val (.int p0), .val (.int p1), .val (.int p2), .val (.int p3), .val (.int p4), .val (.int p5), .val (.int ha), .val (.int hb), .val (.int (0 : Int32)), .val (.int (1 : Int32)), .val (.ref b48), .val (.int zf), .val (.int zt), .val (.ref b56), .val (.int gt), .val (.int x2)] [(.int (if ((¬ (0 : Int32) = (0 : Int32) ∧ r1 = ha) ∨ (¬ (1 : Int32) = (0 : Int32) ∧ r1 = hb)) then (1 : Int32) else 0))]
            refine k_ifB (pcY := 249) (pcN := 246) C P70 at_243 (by decide) (by decide) rfl ?_ ?_
            · intro (hc243 : (if ((¬ (0 : Int32) = (0 : Int32) ∧ r1 = ha) ∨ (¬ (1 : Int32) = (0 : Int32) ∧ r1 = hb)) then (1 : Int32) else 0) = (0 : Int32))
              exact (hj69 _ P70).cast (by rw [if_neg (show ¬ (¬ (1 : Int32) < zf ∧ (1 : Int32) < zt ∧ ((¬ (0 : Int32) = (0 : Int32) ∧ r1 = ha) ∨ (¬ (1 : Int32) = (0 : Int32) ∧ r1 = hb))) from fun q => own_i0 hc243 q.2.2)]) rfl
            · intro (hc243 : ¬ (if ((¬ (0 : Int32) = (0 : Int32) ∧ r1 = ha) ∨ (¬ (1 : Int32) = (0 : Int32) ∧ r1 = hb)) then (1 : Int32) else 0) = (0 : Int32))
              refine k_iconst (z := (1 : Int32)) (pc' := 247) C P70 at_246 rfl rfl ?_
              refine k_istore (l' := #[.val (.int p0), .val (.int p1), .val (.int p2), .val (.int p3), .val (.int p4), .val (.int p5), .val (.int ha), .val (.int hb), .val (.int (0 : Int32)), .val (.int (1 : Int32)), .val (.ref b48), .val (.int zf), .val (.int zt), .val (.ref b56), .val (.int gt), .val (.int (1 : Int32))]) (pc' := 249) C P70 at_247 rfl rfl ?_
              exact (hj69 _ P70).cast (by rw [if_pos (show (¬ (1 : Int32) < zf ∧ (1 : Int32) < zt ∧ ((¬ (0 : Int32) = (0 : Int32) ∧ r1 = ha) ∨ (¬ (1 : Int32) = (0 : Int32) ∧ r1 = hb))) from ⟨hc219, hc225, own_i1 hc243⟩)]) rfl
      intro T69 P69
      obtain ⟨x1, e_x1⟩ : ∃ z, z = (if (¬ (1 : Int32) < zf ∧ (1 : Int32) < zt ∧ ((¬ (0 : Int32) = (0 : Int32) ∧ r1 = ha) ∨ (¬ (1 : Int32) = (0 : Int32) ∧ r1 = hb))) then (1 : Int32) else x2) := ⟨_, rfl⟩
      rw [← e_x1]
      refine k_join (pc' := 281) (Ls' := #[.val (.int p0), .val (.int p1), .val (.int p2), .val (.int p3), .val (.int p4), .val (.int p5), .val (.int ha), .val (.int hb), .val (.int (0 : Int32)), .val (.int (1 : Int32)), .val (.ref b48), .val (.int zf), .val (.int zt), .val (.ref b56), .val (.int gt), .val (.int (if (¬ (0 : Int32) < zf ∧ (0 : Int32) < zt ∧ ((¬ (0 : Int32) = (0 : Int32) ∧ r0 = ha) ∨ (¬ (1 : Int32) = (0 : Int32) ∧ r0 = hb))) then (0 : Int32) else x1))]) (st' := []) P69 ?_ ?_
      · intro hj71
        refine k_iload (pc' := 251) C P69 at_249 rfl rfl ?_
        refine k_ifB (pcY := 281) (pcN := 254) C P69 at_251 (by decide) (by decide) rfl ?_ ?_
        · intro (hc251 : (0 : Int32) < zf)
          exact (hj71 _ P69).cast (by rw [if_neg (show ¬ (¬ (0 : Int32) < zf ∧ (0 : Int32) < zt ∧ ((¬ (0 : Int32) = (0 : Int32) ∧ r0 = ha) ∨ (¬ (1 : Int32) = (0 : Int32) ∧ r0 = hb))) from fun q => q.1 hc251)]) rfl
        · intro (hc251 : ¬ (0 : Int32) < zf)
          refine k_iconst (z := (0 : Int32)) (pc' := 255) C P69 at_254 rfl rfl ?_
          refine k_iload (pc' := 257) C P69 at_255 rfl rfl ?_
          refine k_icB (pcY := 281) (pcN := 260) C P69 at_257 (by decide) (by decide) rfl ?_ ?_
          · intro (hc257 : ¬ (0 : Int32) < zt)
            exact (hj71 _ P69).cast (by rw [if_neg (show ¬ (¬ (0 : Int32) < zf ∧ (0 : Int32) < zt ∧ ((¬ (0 : Int32) = (0 : Int32) ∧ r0 = ha) ∨ (¬ (1 : Int32) = (0 : Int32) ∧ r0 = hb))) from fun q => hc257 q.2.1)]) rfl
          · intro (hc257 : (0 : Int32) < zt)
            refine k_aload (pc' := 262) C P69 at_260 rfl rfl rfl ?_
            refine k_iconst (z := (0 : Int32)) (pc' := 263) C P69 at_262 rfl rfl ?_
            refine k_iaload (J := 0) (v := (.int r0)) (pc' := 264) C P69 f66_b48 at_263 rfl (by decide) rfl rfl ?_
            refine k_iload (pc' := 266) C P69 at_264 rfl rfl ?_
            refine k_iload (pc' := 268) C P69 at_266 rfl rfl ?_
            refine k_iload (pc' := 270) C P69 at_268 rfl rfl ?_
            refine k_iload (pc' := 272) C P69 at_270 rfl rfl ?_
            refine k_callT (pc' := 275) (cells' := 8) (slots' := 47) (W := 0) C P69 (C.w 57 rfl) (C.w 58 rfl) (C.w 59 rfl) (C.w 3 rfl) (by decide) (rmHeld l Z a0 hw _ n0 P69.size r0 (0 : Int32) ha (1 : Int32) hb) [(.int r0), (.int (0 : Int32)), (.int ha), (.int (1 : Int32)), (.int hb)] [] rfl (lenOf pd_7 rfl) rfl (Nat.le_of_eq rfl) at_272 rfl (by decide) (by decide) rfl rfl (by decide) (by decide) all0 rfl ?_
            intro T72 h72 v72 P72 K72 Q72
            obtain ⟨e72, g72⟩ := Q72
            subst g72
            subst e72
            show KGo p e below _ T72 m 275 #[.val (.int p0), .val (.int p1), .val (.int p2), .val (.int p3), .val (.int p4), .val (.int p5), .val (.int ha), .val (.int hb), .val (.int (0 : Int32)), .val (.int (1 : Int32)), .val (.ref b48), .val (.int zf), .val (.int zt), .val (.ref b56), .val (.int gt), .val (.int x1)] [(.int (if ((¬ (0 : Int32) = (0 : Int32) ∧ r0 = ha) ∨ (¬ (1 : Int32) = (0 : Int32) ∧ r0 = hb)) then (1 : Int32) else 0))]
            refine k_ifB (pcY := 281) (pcN := 278) C P72 at_275 (by decide) (by decide) rfl ?_ ?_
            · intro (hc275 : (if ((¬ (0 : Int32) = (0 : Int32) ∧ r0 = ha) ∨ (¬ (1 : Int32) = (0 : Int32) ∧ r0 = hb)) then (1 : Int32) else 0) = (0 : Int32))
              exact (hj71 _ P72).cast (by rw [if_neg (show ¬ (¬ (0 : Int32) < zf ∧ (0 : Int32) < zt ∧ ((¬ (0 : Int32) = (0 : Int32) ∧ r0 = ha) ∨ (¬ (1 : Int32) = (0 : Int32) ∧ r0 = hb))) from fun q => own_i0 hc275 q.2.2)]) rfl
            · intro (hc275 : ¬ (if ((¬ (0 : Int32) = (0 : Int32) ∧ r0 = ha) ∨ (¬ (1 : Int32) = (0 : Int32) ∧ r0 = hb)) then (1 : Int32) else 0) = (0 : Int32))
              refine k_iconst (z := (0 : Int32)) (pc' := 279) C P72 at_278 rfl rfl ?_
              refine k_istore (l' := #[.val (.int p0), .val (.int p1), .val (.int p2), .val (.int p3), .val (.int p4), .val (.int p5), .val (.int ha), .val (.int hb), .val (.int (0 : Int32)), .val (.int (1 : Int32)), .val (.ref b48), .val (.int zf), .val (.int zt), .val (.ref b56), .val (.int gt), .val (.int (0 : Int32))]) (pc' := 281) C P72 at_279 rfl rfl ?_
              exact (hj71 _ P72).cast (by rw [if_pos (show (¬ (0 : Int32) < zf ∧ (0 : Int32) < zt ∧ ((¬ (0 : Int32) = (0 : Int32) ∧ r0 = ha) ∨ (¬ (1 : Int32) = (0 : Int32) ∧ r0 = hb))) from ⟨hc251, hc257, own_i1 hc275⟩)]) rfl
      intro T71 P71
      obtain ⟨x0, e_x0⟩ : ∃ z, z = (if (¬ (0 : Int32) < zf ∧ (0 : Int32) < zt ∧ ((¬ (0 : Int32) = (0 : Int32) ∧ r0 = ha) ∨ (¬ (1 : Int32) = (0 : Int32) ∧ r0 = hb))) then (0 : Int32) else x1) := ⟨_, rfl⟩
      rw [← e_x0]
      refine k_iload (pc' := 283) C P71 at_281 rfl rfl ?_
      refine k_iload (pc' := 285) C P71 at_283 rfl rfl ?_
      refine k_icN (pc' := 288) C P71 at_285 (own_fin (X := (fun j => if j = 0 then r0 else if j = 1 then r1 else r2 : Nat → Int32)) (H := fun x => ((¬ (0 : Int32) = (0 : Int32) ∧ x = ha) ∨ (¬ (1 : Int32) = (0 : Int32) ∧ x = hb))) hFr hTo hTo3 hFT hgt e_x2 e_x1 e_x0) rfl ?_
      refine k_iconst (z := (1 : Int32)) (pc' := 289) C P71 at_288 rfl rfl ?_
      refine k_goto (pc' := 293) C P71 at_289 (by decide) (by decide) ?_
      exact k_retZ (z' := (1 : Int32)) C P71 (by simp) at_293 rfl (by decide) (by decide) rfl
  · skip
    refine k_iload (pc' := 144) C P57 at_142 rfl rfl ?_
    refine k_ifN (pc' := 147) C P57 at_144 k_10 rfl ?_
    refine k_aload (pc' := 149) C P57 at_147 rfl rfl rfl ?_
    refine k_iload (pc' := 151) C P57 at_149 rfl rfl ?_
    refine k_callV (pc' := 154) (cells' := 8) (slots' := 47) (W := 0) C P57 (C.w 20 rfl) (C.w 21 rfl) (fun _ q => notFace_of_selects (args := #[]) (mvT q (C.w 23 rfl))) (C.w 23 rfl) (C.w 22 rfl) (C.w 24 rfl) (C.w 7 rfl) (by decide) (rmAdd l Z a0 hw _ n0 P57.size b56 lv57 w057 1 (own_W 0 ha 0 hb) (0 : Int32) OO57 ha _ U_ha (by omega) ge_b56 gw57 (own_W 1 ha 0 hb) (1 : Int32) (fun q => absurd q (own_nA (OwnNum.toNat H_ha))) (fun _ => ⟨rfl, fun j => own_aA (OwnNum.toNat H_ha) j⟩) (own_n1 _ _ _ _ _)) (OO57).1.exa [(.int ha)] [] rfl (lenOf pd_2 rfl) rfl (Nat.le_of_eq rfl) at_151 rfl (by decide) (by decide) rfl rfl (by decide) (by decide) (allS (Or.inr sz_b56) (allS (Or.inr szw57) all0)) rfl ?_
    intro T73 h73 v73 P73 K73 Q73
    obtain ⟨rfl, lv73, w073, L73, gw73, hw73, O73⟩ := Q73
    have f73_b48 := f57_b48.keep K73 (ninS ne_b48_b56 (ninS (KVA.neT f57_b48 VW57 nofun) nin0))
    have OO73 := O73
    obtain ⟨kw73, VW73⟩ := OO73.2.1
    have szw73 := hw73.elim (fun e => by rw [e]; exact szw57) (fun q => Nat.le_trans P57.kept.1 q)
    show KGo p e below _ T73 m 154 #[.val (.int p0), .val (.int p1), .val (.int p2), .val (.int p3), .val (.int p4), .val (.int p5), .val (.int ha), .val (.int hb), .val (.int (1 : Int32)), .val (.int m9), .val (.ref b48), .val (.int zf), .val (.int zt), .val (.ref b56), .unset, .unset] []
    rcases h_m9 with rfl | rfl
    · skip
      refine k_iload (pc' := 156) C P73 at_154 rfl rfl ?_
      refine k_ifY (pc' := 166) C P73 at_156 k_01 (by decide) (by decide) ?_
      refine k_aload (pc' := 168) C P73 at_166 rfl rfl rfl ?_
      refine k_aload (pc' := 170) C P73 at_168 rfl rfl rfl ?_
      refine k_iload (pc' := 172) C P73 at_170 rfl rfl ?_
      refine k_iload (pc' := 174) C P73 at_172 rfl rfl ?_
      refine k_callV (pc' := 177) (cells' := 8) (slots' := 47) (W := 0) C P73 (C.w 37 rfl) (C.w 38 rfl) (fun _ q => notFace_of_selects (args := #[]) (mvT q (C.w 40 rfl))) (C.w 40 rfl) (C.w 39 rfl) (C.w 41 rfl) (C.w 7 rfl) (by decide) (rmFirst l Z a0 hw _ n0 P73.size b56 lv73 w073 L73 (own_W 1 ha 0 hb) (1 : Int32) OO73 b48 k48 zf zt Fr To hFr hTo hFT hTo3 (fun i => decide ((¬ (1 : Int32) = (0 : Int32) ∧ ((fun j => if j = 0 then r0 else if j = 1 then r1 else r2 : Nat → Int32) i) = ha) ∨ (¬ (0 : Int32) = (0 : Int32) ∧ ((fun j => if j = 0 then r0 else if j = 1 then r1 else r2 : Nat → Int32) i) = hb))) (fun j => if j = 0 then r0 else if j = 1 then r1 else r2) (fun i _ => decide_eq_true_iff.trans (own_mem (OwnNum.toNat H_ha) (OwnNum.toNat H_hb) rfl).symm) f73_b48 (fun q => absurd q (by decide))) (OO73).1.exa [(.ref b48), (.int zf), (.int zt)] [] rfl (lenOf pd_6 rfl) rfl (Nat.le_of_eq rfl) at_174 rfl (by decide) (by decide) rfl rfl (by decide) (by decide) all0 rfl ?_
      intro T74 h74 v74 P74 K74 Q74
      obtain ⟨gt, rfl, rfl, hgt⟩ := Q74
      have f74_b48 := f73_b48.keep K74 nin0
      have f74_OSF := own_keep OO73 K74
      have f74_b56 := OO73.1.keep K74 nin0
      have f74_w073 := VW73.keep K74 nin0
      show KGo p e below _ T74 m 177 #[.val (.int p0), .val (.int p1), .val (.int p2), .val (.int p3), .val (.int p4), .val (.int p5), .val (.int ha), .val (.int hb), .val (.int (1 : Int32)), .val (.int (0 : Int32)), .val (.ref b48), .val (.int zf), .val (.int zt), .val (.ref b56), .unset, .unset] [(.int gt)]
      refine k_istore (l' := #[.val (.int p0), .val (.int p1), .val (.int p2), .val (.int p3), .val (.int p4), .val (.int p5), .val (.int ha), .val (.int hb), .val (.int (1 : Int32)), .val (.int (0 : Int32)), .val (.ref b48), .val (.int zf), .val (.int zt), .val (.ref b56), .val (.int gt), .unset]) (pc' := 179) C P74 at_177 rfl rfl ?_
      refine k_iload (pc' := 181) C P74 at_179 rfl rfl ?_
      refine k_istore (l' := #[.val (.int p0), .val (.int p1), .val (.int p2), .val (.int p3), .val (.int p4), .val (.int p5), .val (.int ha), .val (.int hb), .val (.int (1 : Int32)), .val (.int (0 : Int32)), .val (.ref b48), .val (.int zf), .val (.int zt), .val (.ref b56), .val (.int gt), .val (.int zt)]) (pc' := 183) C P74 at_181 rfl rfl ?_
      refine k_join (pc' := 216) (Ls' := #[.val (.int p0), .val (.int p1), .val (.int p2), .val (.int p3), .val (.int p4), .val (.int p5), .val (.int ha), .val (.int hb), .val (.int (1 : Int32)), .val (.int (0 : Int32)), .val (.ref b48), .val (.int zf), .val (.int zt), .val (.ref b56), .val (.int gt), .val (.int (if (¬ (2 : Int32) < zf ∧ (2 : Int32) < zt ∧ ((¬ (1 : Int32) = (0 : Int32) ∧ r2 = ha) ∨ (¬ (0 : Int32) = (0 : Int32) ∧ r2 = hb))) then (2 : Int32) else zt))]) (st' := []) P74 ?_ ?_
      · intro hj75
        refine k_iload (pc' := 185) C P74 at_183 rfl rfl ?_
        refine k_iconst (z := (2 : Int32)) (pc' := 186) C P74 at_185 rfl rfl ?_
        refine k_icB (pcY := 216) (pcN := 189) C P74 at_186 (by decide) (by decide) rfl ?_ ?_
        · intro (hc186 : (2 : Int32) < zf)
          exact (hj75 _ P74).cast (by rw [if_neg (show ¬ (¬ (2 : Int32) < zf ∧ (2 : Int32) < zt ∧ ((¬ (1 : Int32) = (0 : Int32) ∧ r2 = ha) ∨ (¬ (0 : Int32) = (0 : Int32) ∧ r2 = hb))) from fun q => q.1 hc186)]) rfl
        · intro (hc186 : ¬ (2 : Int32) < zf)
          refine k_iconst (z := (2 : Int32)) (pc' := 190) C P74 at_189 rfl rfl ?_
          refine k_iload (pc' := 192) C P74 at_190 rfl rfl ?_
          refine k_icB (pcY := 216) (pcN := 195) C P74 at_192 (by decide) (by decide) rfl ?_ ?_
          · intro (hc192 : ¬ (2 : Int32) < zt)
            exact (hj75 _ P74).cast (by rw [if_neg (show ¬ (¬ (2 : Int32) < zf ∧ (2 : Int32) < zt ∧ ((¬ (1 : Int32) = (0 : Int32) ∧ r2 = ha) ∨ (¬ (0 : Int32) = (0 : Int32) ∧ r2 = hb))) from fun q => hc192 q.2.1)]) rfl
          · intro (hc192 : (2 : Int32) < zt)
            refine k_aload (pc' := 197) C P74 at_195 rfl rfl rfl ?_
            refine k_iconst (z := (2 : Int32)) (pc' := 198) C P74 at_197 rfl rfl ?_
            refine k_iaload (J := 2) (v := (.int r2)) (pc' := 199) C P74 f74_b48 at_198 rfl (by decide) rfl rfl ?_
            refine k_iload (pc' := 201) C P74 at_199 rfl rfl ?_
            refine k_iload (pc' := 203) C P74 at_201 rfl rfl ?_
            refine k_iload (pc' := 205) C P74 at_203 rfl rfl ?_
            refine k_iload (pc' := 207) C P74 at_205 rfl rfl ?_
            refine k_callT (pc' := 210) (cells' := 8) (slots' := 47) (W := 0) C P74 (C.w 57 rfl) (C.w 58 rfl) (C.w 59 rfl) (C.w 3 rfl) (by decide) (rmHeld l Z a0 hw _ n0 P74.size r2 (1 : Int32) ha (0 : Int32) hb) [(.int r2), (.int (1 : Int32)), (.int ha), (.int (0 : Int32)), (.int hb)] [] rfl (lenOf pd_7 rfl) rfl (Nat.le_of_eq rfl) at_207 rfl (by decide) (by decide) rfl rfl (by decide) (by decide) all0 rfl ?_
            intro T76 h76 v76 P76 K76 Q76
            obtain ⟨e76, g76⟩ := Q76
            subst g76
            subst e76
            show KGo p e below _ T76 m 210 #[.val (.int p0), .val (.int p1), .val (.int p2), .val (.int p3), .val (.int p4), .val (.int p5), .val (.int ha), .val (.int hb), .val (.int (1 : Int32)), .val (.int (0 : Int32)), .val (.ref b48), .val (.int zf), .val (.int zt), .val (.ref b56), .val (.int gt), .val (.int zt)] [(.int (if ((¬ (1 : Int32) = (0 : Int32) ∧ r2 = ha) ∨ (¬ (0 : Int32) = (0 : Int32) ∧ r2 = hb)) then (1 : Int32) else 0))]
            refine k_ifB (pcY := 216) (pcN := 213) C P76 at_210 (by decide) (by decide) rfl ?_ ?_
            · intro (hc210 : (if ((¬ (1 : Int32) = (0 : Int32) ∧ r2 = ha) ∨ (¬ (0 : Int32) = (0 : Int32) ∧ r2 = hb)) then (1 : Int32) else 0) = (0 : Int32))
              exact (hj75 _ P76).cast (by rw [if_neg (show ¬ (¬ (2 : Int32) < zf ∧ (2 : Int32) < zt ∧ ((¬ (1 : Int32) = (0 : Int32) ∧ r2 = ha) ∨ (¬ (0 : Int32) = (0 : Int32) ∧ r2 = hb))) from fun q => own_i0 hc210 q.2.2)]) rfl
            · intro (hc210 : ¬ (if ((¬ (1 : Int32) = (0 : Int32) ∧ r2 = ha) ∨ (¬ (0 : Int32) = (0 : Int32) ∧ r2 = hb)) then (1 : Int32) else 0) = (0 : Int32))
              refine k_iconst (z := (2 : Int32)) (pc' := 214) C P76 at_213 rfl rfl ?_
              refine k_istore (l' := #[.val (.int p0), .val (.int p1), .val (.int p2), .val (.int p3), .val (.int p4), .val (.int p5), .val (.int ha), .val (.int hb), .val (.int (1 : Int32)), .val (.int (0 : Int32)), .val (.ref b48), .val (.int zf), .val (.int zt), .val (.ref b56), .val (.int gt), .val (.int (2 : Int32))]) (pc' := 216) C P76 at_214 rfl rfl ?_
              exact (hj75 _ P76).cast (by rw [if_pos (show (¬ (2 : Int32) < zf ∧ (2 : Int32) < zt ∧ ((¬ (1 : Int32) = (0 : Int32) ∧ r2 = ha) ∨ (¬ (0 : Int32) = (0 : Int32) ∧ r2 = hb))) from ⟨hc186, hc192, own_i1 hc210⟩)]) rfl
      intro T75 P75
      obtain ⟨x2, e_x2⟩ : ∃ z, z = (if (¬ (2 : Int32) < zf ∧ (2 : Int32) < zt ∧ ((¬ (1 : Int32) = (0 : Int32) ∧ r2 = ha) ∨ (¬ (0 : Int32) = (0 : Int32) ∧ r2 = hb))) then (2 : Int32) else zt) := ⟨_, rfl⟩
      rw [← e_x2]
      refine k_join (pc' := 249) (Ls' := #[.val (.int p0), .val (.int p1), .val (.int p2), .val (.int p3), .val (.int p4), .val (.int p5), .val (.int ha), .val (.int hb), .val (.int (1 : Int32)), .val (.int (0 : Int32)), .val (.ref b48), .val (.int zf), .val (.int zt), .val (.ref b56), .val (.int gt), .val (.int (if (¬ (1 : Int32) < zf ∧ (1 : Int32) < zt ∧ ((¬ (1 : Int32) = (0 : Int32) ∧ r1 = ha) ∨ (¬ (0 : Int32) = (0 : Int32) ∧ r1 = hb))) then (1 : Int32) else x2))]) (st' := []) P75 ?_ ?_
      · intro hj77
        refine k_iload (pc' := 218) C P75 at_216 rfl rfl ?_
        refine k_iconst (z := (1 : Int32)) (pc' := 219) C P75 at_218 rfl rfl ?_
        refine k_icB (pcY := 249) (pcN := 222) C P75 at_219 (by decide) (by decide) rfl ?_ ?_
        · intro (hc219 : (1 : Int32) < zf)
          exact (hj77 _ P75).cast (by rw [if_neg (show ¬ (¬ (1 : Int32) < zf ∧ (1 : Int32) < zt ∧ ((¬ (1 : Int32) = (0 : Int32) ∧ r1 = ha) ∨ (¬ (0 : Int32) = (0 : Int32) ∧ r1 = hb))) from fun q => q.1 hc219)]) rfl
        · intro (hc219 : ¬ (1 : Int32) < zf)
          refine k_iconst (z := (1 : Int32)) (pc' := 223) C P75 at_222 rfl rfl ?_
          refine k_iload (pc' := 225) C P75 at_223 rfl rfl ?_
          refine k_icB (pcY := 249) (pcN := 228) C P75 at_225 (by decide) (by decide) rfl ?_ ?_
          · intro (hc225 : ¬ (1 : Int32) < zt)
            exact (hj77 _ P75).cast (by rw [if_neg (show ¬ (¬ (1 : Int32) < zf ∧ (1 : Int32) < zt ∧ ((¬ (1 : Int32) = (0 : Int32) ∧ r1 = ha) ∨ (¬ (0 : Int32) = (0 : Int32) ∧ r1 = hb))) from fun q => hc225 q.2.1)]) rfl
          · intro (hc225 : (1 : Int32) < zt)
            refine k_aload (pc' := 230) C P75 at_228 rfl rfl rfl ?_
            refine k_iconst (z := (1 : Int32)) (pc' := 231) C P75 at_230 rfl rfl ?_
            refine k_iaload (J := 1) (v := (.int r1)) (pc' := 232) C P75 f74_b48 at_231 rfl (by decide) rfl rfl ?_
            refine k_iload (pc' := 234) C P75 at_232 rfl rfl ?_
            refine k_iload (pc' := 236) C P75 at_234 rfl rfl ?_
            refine k_iload (pc' := 238) C P75 at_236 rfl rfl ?_
            refine k_iload (pc' := 240) C P75 at_238 rfl rfl ?_
            refine k_callT (pc' := 243) (cells' := 8) (slots' := 47) (W := 0) C P75 (C.w 57 rfl) (C.w 58 rfl) (C.w 59 rfl) (C.w 3 rfl) (by decide) (rmHeld l Z a0 hw _ n0 P75.size r1 (1 : Int32) ha (0 : Int32) hb) [(.int r1), (.int (1 : Int32)), (.int ha), (.int (0 : Int32)), (.int hb)] [] rfl (lenOf pd_7 rfl) rfl (Nat.le_of_eq rfl) at_240 rfl (by decide) (by decide) rfl rfl (by decide) (by decide) all0 rfl ?_
            intro T78 h78 v78 P78 K78 Q78
            obtain ⟨e78, g78⟩ := Q78
            subst g78
            subst e78
            show KGo p e below _ T78 m 243 #[.val (.int p0), .val (.int p1), .val (.int p2), .val (.int p3), .val (.int p4), .val (.int p5), .val (.int ha), .val (.int hb), .val (.int (1 : Int32)), .val (.int (0 : Int32)), .val (.ref b48), .val (.int zf), .val (.int zt), .val (.ref b56), .val (.int gt), .val (.int x2)] [(.int (if ((¬ (1 : Int32) = (0 : Int32) ∧ r1 = ha) ∨ (¬ (0 : Int32) = (0 : Int32) ∧ r1 = hb)) then (1 : Int32) else 0))]
            refine k_ifB (pcY := 249) (pcN := 246) C P78 at_243 (by decide) (by decide) rfl ?_ ?_
            · intro (hc243 : (if ((¬ (1 : Int32) = (0 : Int32) ∧ r1 = ha) ∨ (¬ (0 : Int32) = (0 : Int32) ∧ r1 = hb)) then (1 : Int32) else 0) = (0 : Int32))
              exact (hj77 _ P78).cast (by rw [if_neg (show ¬ (¬ (1 : Int32) < zf ∧ (1 : Int32) < zt ∧ ((¬ (1 : Int32) = (0 : Int32) ∧ r1 = ha) ∨ (¬ (0 : Int32) = (0 : Int32) ∧ r1 = hb))) from fun q => own_i0 hc243 q.2.2)]) rfl
            · intro (hc243 : ¬ (if ((¬ (1 : Int32) = (0 : Int32) ∧ r1 = ha) ∨ (¬ (0 : Int32) = (0 : Int32) ∧ r1 = hb)) then (1 : Int32) else 0) = (0 : Int32))
              refine k_iconst (z := (1 : Int32)) (pc' := 247) C P78 at_246 rfl rfl ?_
              refine k_istore (l' := #[.val (.int p0), .val (.int p1), .val (.int p2), .val (.int p3), .val (.int p4), .val (.int p5), .val (.int ha), .val (.int hb), .val (.int (1 : Int32)), .val (.int (0 : Int32)), .val (.ref b48), .val (.int zf), .val (.int zt), .val (.ref b56), .val (.int gt), .val (.int (1 : Int32))]) (pc' := 249) C P78 at_247 rfl rfl ?_
              exact (hj77 _ P78).cast (by rw [if_pos (show (¬ (1 : Int32) < zf ∧ (1 : Int32) < zt ∧ ((¬ (1 : Int32) = (0 : Int32) ∧ r1 = ha) ∨ (¬ (0 : Int32) = (0 : Int32) ∧ r1 = hb))) from ⟨hc219, hc225, own_i1 hc243⟩)]) rfl
      intro T77 P77
      obtain ⟨x1, e_x1⟩ : ∃ z, z = (if (¬ (1 : Int32) < zf ∧ (1 : Int32) < zt ∧ ((¬ (1 : Int32) = (0 : Int32) ∧ r1 = ha) ∨ (¬ (0 : Int32) = (0 : Int32) ∧ r1 = hb))) then (1 : Int32) else x2) := ⟨_, rfl⟩
      rw [← e_x1]
      refine k_join (pc' := 281) (Ls' := #[.val (.int p0), .val (.int p1), .val (.int p2), .val (.int p3), .val (.int p4), .val (.int p5), .val (.int ha), .val (.int hb), .val (.int (1 : Int32)), .val (.int (0 : Int32)), .val (.ref b48), .val (.int zf), .val (.int zt), .val (.ref b56), .val (.int gt), .val (.int (if (¬ (0 : Int32) < zf ∧ (0 : Int32) < zt ∧ ((¬ (1 : Int32) = (0 : Int32) ∧ r0 = ha) ∨ (¬ (0 : Int32) = (0 : Int32) ∧ r0 = hb))) then (0 : Int32) else x1))]) (st' := []) P77 ?_ ?_
      · intro hj79
        refine k_iload (pc' := 251) C P77 at_249 rfl rfl ?_
        refine k_ifB (pcY := 281) (pcN := 254) C P77 at_251 (by decide) (by decide) rfl ?_ ?_
        · intro (hc251 : (0 : Int32) < zf)
          exact (hj79 _ P77).cast (by rw [if_neg (show ¬ (¬ (0 : Int32) < zf ∧ (0 : Int32) < zt ∧ ((¬ (1 : Int32) = (0 : Int32) ∧ r0 = ha) ∨ (¬ (0 : Int32) = (0 : Int32) ∧ r0 = hb))) from fun q => q.1 hc251)]) rfl
        · intro (hc251 : ¬ (0 : Int32) < zf)
          refine k_iconst (z := (0 : Int32)) (pc' := 255) C P77 at_254 rfl rfl ?_
          refine k_iload (pc' := 257) C P77 at_255 rfl rfl ?_
          refine k_icB (pcY := 281) (pcN := 260) C P77 at_257 (by decide) (by decide) rfl ?_ ?_
          · intro (hc257 : ¬ (0 : Int32) < zt)
            exact (hj79 _ P77).cast (by rw [if_neg (show ¬ (¬ (0 : Int32) < zf ∧ (0 : Int32) < zt ∧ ((¬ (1 : Int32) = (0 : Int32) ∧ r0 = ha) ∨ (¬ (0 : Int32) = (0 : Int32) ∧ r0 = hb))) from fun q => hc257 q.2.1)]) rfl
          · intro (hc257 : (0 : Int32) < zt)
            refine k_aload (pc' := 262) C P77 at_260 rfl rfl rfl ?_
            refine k_iconst (z := (0 : Int32)) (pc' := 263) C P77 at_262 rfl rfl ?_
            refine k_iaload (J := 0) (v := (.int r0)) (pc' := 264) C P77 f74_b48 at_263 rfl (by decide) rfl rfl ?_
            refine k_iload (pc' := 266) C P77 at_264 rfl rfl ?_
            refine k_iload (pc' := 268) C P77 at_266 rfl rfl ?_
            refine k_iload (pc' := 270) C P77 at_268 rfl rfl ?_
            refine k_iload (pc' := 272) C P77 at_270 rfl rfl ?_
            refine k_callT (pc' := 275) (cells' := 8) (slots' := 47) (W := 0) C P77 (C.w 57 rfl) (C.w 58 rfl) (C.w 59 rfl) (C.w 3 rfl) (by decide) (rmHeld l Z a0 hw _ n0 P77.size r0 (1 : Int32) ha (0 : Int32) hb) [(.int r0), (.int (1 : Int32)), (.int ha), (.int (0 : Int32)), (.int hb)] [] rfl (lenOf pd_7 rfl) rfl (Nat.le_of_eq rfl) at_272 rfl (by decide) (by decide) rfl rfl (by decide) (by decide) all0 rfl ?_
            intro T80 h80 v80 P80 K80 Q80
            obtain ⟨e80, g80⟩ := Q80
            subst g80
            subst e80
            show KGo p e below _ T80 m 275 #[.val (.int p0), .val (.int p1), .val (.int p2), .val (.int p3), .val (.int p4), .val (.int p5), .val (.int ha), .val (.int hb), .val (.int (1 : Int32)), .val (.int (0 : Int32)), .val (.ref b48), .val (.int zf), .val (.int zt), .val (.ref b56), .val (.int gt), .val (.int x1)] [(.int (if ((¬ (1 : Int32) = (0 : Int32) ∧ r0 = ha) ∨ (¬ (0 : Int32) = (0 : Int32) ∧ r0 = hb)) then (1 : Int32) else 0))]
            refine k_ifB (pcY := 281) (pcN := 278) C P80 at_275 (by decide) (by decide) rfl ?_ ?_
            · intro (hc275 : (if ((¬ (1 : Int32) = (0 : Int32) ∧ r0 = ha) ∨ (¬ (0 : Int32) = (0 : Int32) ∧ r0 = hb)) then (1 : Int32) else 0) = (0 : Int32))
              exact (hj79 _ P80).cast (by rw [if_neg (show ¬ (¬ (0 : Int32) < zf ∧ (0 : Int32) < zt ∧ ((¬ (1 : Int32) = (0 : Int32) ∧ r0 = ha) ∨ (¬ (0 : Int32) = (0 : Int32) ∧ r0 = hb))) from fun q => own_i0 hc275 q.2.2)]) rfl
            · intro (hc275 : ¬ (if ((¬ (1 : Int32) = (0 : Int32) ∧ r0 = ha) ∨ (¬ (0 : Int32) = (0 : Int32) ∧ r0 = hb)) then (1 : Int32) else 0) = (0 : Int32))
              refine k_iconst (z := (0 : Int32)) (pc' := 279) C P80 at_278 rfl rfl ?_
              refine k_istore (l' := #[.val (.int p0), .val (.int p1), .val (.int p2), .val (.int p3), .val (.int p4), .val (.int p5), .val (.int ha), .val (.int hb), .val (.int (1 : Int32)), .val (.int (0 : Int32)), .val (.ref b48), .val (.int zf), .val (.int zt), .val (.ref b56), .val (.int gt), .val (.int (0 : Int32))]) (pc' := 281) C P80 at_279 rfl rfl ?_
              exact (hj79 _ P80).cast (by rw [if_pos (show (¬ (0 : Int32) < zf ∧ (0 : Int32) < zt ∧ ((¬ (1 : Int32) = (0 : Int32) ∧ r0 = ha) ∨ (¬ (0 : Int32) = (0 : Int32) ∧ r0 = hb))) from ⟨hc251, hc257, own_i1 hc275⟩)]) rfl
      intro T79 P79
      obtain ⟨x0, e_x0⟩ : ∃ z, z = (if (¬ (0 : Int32) < zf ∧ (0 : Int32) < zt ∧ ((¬ (1 : Int32) = (0 : Int32) ∧ r0 = ha) ∨ (¬ (0 : Int32) = (0 : Int32) ∧ r0 = hb))) then (0 : Int32) else x1) := ⟨_, rfl⟩
      rw [← e_x0]
      refine k_iload (pc' := 283) C P79 at_281 rfl rfl ?_
      refine k_iload (pc' := 285) C P79 at_283 rfl rfl ?_
      refine k_icN (pc' := 288) C P79 at_285 (own_fin (X := (fun j => if j = 0 then r0 else if j = 1 then r1 else r2 : Nat → Int32)) (H := fun x => ((¬ (1 : Int32) = (0 : Int32) ∧ x = ha) ∨ (¬ (0 : Int32) = (0 : Int32) ∧ x = hb))) hFr hTo hTo3 hFT hgt e_x2 e_x1 e_x0) rfl ?_
      refine k_iconst (z := (1 : Int32)) (pc' := 289) C P79 at_288 rfl rfl ?_
      refine k_goto (pc' := 293) C P79 at_289 (by decide) (by decide) ?_
      exact k_retZ (z' := (1 : Int32)) C P79 (by simp) at_293 rfl (by decide) (by decide) rfl
    · skip
      refine k_iload (pc' := 156) C P73 at_154 rfl rfl ?_
      refine k_ifN (pc' := 159) C P73 at_156 k_10 rfl ?_
      refine k_aload (pc' := 161) C P73 at_159 rfl rfl rfl ?_
      refine k_iload (pc' := 163) C P73 at_161 rfl rfl ?_
      refine k_callV (pc' := 166) (cells' := 12) (slots' := 87) (W := 0) C P73 (C.w 20 rfl) (C.w 21 rfl) (fun _ q => notFace_of_selects (args := #[]) (mvT q (C.w 23 rfl))) (C.w 23 rfl) (C.w 22 rfl) (C.w 24 rfl) (C.w 7 rfl) (by decide) (rmAdd l Z a0 hw _ n0 P73.size b56 lv73 w073 L73 (own_W 1 ha 0 hb) (1 : Int32) OO73 hb _ U_hb (by omega) ge_b56 gw73 (own_W 1 ha 1 hb) (if hb = ha then (1 : Int32) else 2) (fun q => own_cB (OwnNum.toNat H_ha) (OwnNum.toNat H_hb) q) (fun q => own_dB (OwnNum.toNat H_ha) (OwnNum.toNat H_hb) q) (own_n1 _ _ _ _ _)) (OO73).1.exa [(.int hb)] [] rfl (lenOf pd_2 rfl) rfl (Nat.le_of_eq rfl) at_163 rfl (by decide) (by decide) rfl rfl (by decide) (by decide) (allS (Or.inr sz_b56) (allS (Or.inr szw73) all0)) rfl ?_
      intro T81 h81 v81 P81 K81 Q81
      obtain ⟨rfl, lv81, w081, L81, gw81, hw81, O81⟩ := Q81
      have f81_b48 := f73_b48.keep K81 (ninS ne_b48_b56 (ninS (KVA.neT f73_b48 VW73 nofun) nin0))
      have OO81 := O81
      obtain ⟨kw81, VW81⟩ := OO81.2.1
      have szw81 := hw81.elim (fun e => by rw [e]; exact szw73) (fun q => Nat.le_trans P73.kept.1 q)
      show KGo p e below _ T81 m 166 #[.val (.int p0), .val (.int p1), .val (.int p2), .val (.int p3), .val (.int p4), .val (.int p5), .val (.int ha), .val (.int hb), .val (.int (1 : Int32)), .val (.int (1 : Int32)), .val (.ref b48), .val (.int zf), .val (.int zt), .val (.ref b56), .unset, .unset] []
      refine k_aload (pc' := 168) C P81 at_166 rfl rfl rfl ?_
      refine k_aload (pc' := 170) C P81 at_168 rfl rfl rfl ?_
      refine k_iload (pc' := 172) C P81 at_170 rfl rfl ?_
      refine k_iload (pc' := 174) C P81 at_172 rfl rfl ?_
      refine k_callV (pc' := 177) (cells' := 12) (slots' := 87) (W := 0) C P81 (C.w 37 rfl) (C.w 38 rfl) (fun _ q => notFace_of_selects (args := #[]) (mvT q (C.w 40 rfl))) (C.w 40 rfl) (C.w 39 rfl) (C.w 41 rfl) (C.w 7 rfl) (by decide) (rmFirst l Z a0 hw _ n0 P81.size b56 lv81 w081 L81 (own_W 1 ha 1 hb) (if hb = ha then (1 : Int32) else 2) OO81 b48 k48 zf zt Fr To hFr hTo hFT hTo3 (fun i => decide ((¬ (1 : Int32) = (0 : Int32) ∧ ((fun j => if j = 0 then r0 else if j = 1 then r1 else r2 : Nat → Int32) i) = ha) ∨ (¬ (1 : Int32) = (0 : Int32) ∧ ((fun j => if j = 0 then r0 else if j = 1 then r1 else r2 : Nat → Int32) i) = hb))) (fun j => if j = 0 then r0 else if j = 1 then r1 else r2) (fun i _ => decide_eq_true_iff.trans (own_mem (OwnNum.toNat H_ha) (OwnNum.toNat H_hb) rfl).symm) f81_b48 (fun q => absurd q (by by_cases e : hb = ha <;> simp [e]))) (OO81).1.exa [(.ref b48), (.int zf), (.int zt)] [] rfl (lenOf pd_6 rfl) rfl (Nat.le_of_eq rfl) at_174 rfl (by decide) (by decide) rfl rfl (by decide) (by decide) all0 rfl ?_
      intro T82 h82 v82 P82 K82 Q82
      obtain ⟨gt, rfl, rfl, hgt⟩ := Q82
      have f82_b48 := f81_b48.keep K82 nin0
      have f82_OSF := own_keep OO81 K82
      have f82_b56 := OO81.1.keep K82 nin0
      have f82_w081 := VW81.keep K82 nin0
      show KGo p e below _ T82 m 177 #[.val (.int p0), .val (.int p1), .val (.int p2), .val (.int p3), .val (.int p4), .val (.int p5), .val (.int ha), .val (.int hb), .val (.int (1 : Int32)), .val (.int (1 : Int32)), .val (.ref b48), .val (.int zf), .val (.int zt), .val (.ref b56), .unset, .unset] [(.int gt)]
      refine k_istore (l' := #[.val (.int p0), .val (.int p1), .val (.int p2), .val (.int p3), .val (.int p4), .val (.int p5), .val (.int ha), .val (.int hb), .val (.int (1 : Int32)), .val (.int (1 : Int32)), .val (.ref b48), .val (.int zf), .val (.int zt), .val (.ref b56), .val (.int gt), .unset]) (pc' := 179) C P82 at_177 rfl rfl ?_
      refine k_iload (pc' := 181) C P82 at_179 rfl rfl ?_
      refine k_istore (l' := #[.val (.int p0), .val (.int p1), .val (.int p2), .val (.int p3), .val (.int p4), .val (.int p5), .val (.int ha), .val (.int hb), .val (.int (1 : Int32)), .val (.int (1 : Int32)), .val (.ref b48), .val (.int zf), .val (.int zt), .val (.ref b56), .val (.int gt), .val (.int zt)]) (pc' := 183) C P82 at_181 rfl rfl ?_
      refine k_join (pc' := 216) (Ls' := #[.val (.int p0), .val (.int p1), .val (.int p2), .val (.int p3), .val (.int p4), .val (.int p5), .val (.int ha), .val (.int hb), .val (.int (1 : Int32)), .val (.int (1 : Int32)), .val (.ref b48), .val (.int zf), .val (.int zt), .val (.ref b56), .val (.int gt), .val (.int (if (¬ (2 : Int32) < zf ∧ (2 : Int32) < zt ∧ ((¬ (1 : Int32) = (0 : Int32) ∧ r2 = ha) ∨ (¬ (1 : Int32) = (0 : Int32) ∧ r2 = hb))) then (2 : Int32) else zt))]) (st' := []) P82 ?_ ?_
      · intro hj83
        refine k_iload (pc' := 185) C P82 at_183 rfl rfl ?_
        refine k_iconst (z := (2 : Int32)) (pc' := 186) C P82 at_185 rfl rfl ?_
        refine k_icB (pcY := 216) (pcN := 189) C P82 at_186 (by decide) (by decide) rfl ?_ ?_
        · intro (hc186 : (2 : Int32) < zf)
          exact (hj83 _ P82).cast (by rw [if_neg (show ¬ (¬ (2 : Int32) < zf ∧ (2 : Int32) < zt ∧ ((¬ (1 : Int32) = (0 : Int32) ∧ r2 = ha) ∨ (¬ (1 : Int32) = (0 : Int32) ∧ r2 = hb))) from fun q => q.1 hc186)]) rfl
        · intro (hc186 : ¬ (2 : Int32) < zf)
          refine k_iconst (z := (2 : Int32)) (pc' := 190) C P82 at_189 rfl rfl ?_
          refine k_iload (pc' := 192) C P82 at_190 rfl rfl ?_
          refine k_icB (pcY := 216) (pcN := 195) C P82 at_192 (by decide) (by decide) rfl ?_ ?_
          · intro (hc192 : ¬ (2 : Int32) < zt)
            exact (hj83 _ P82).cast (by rw [if_neg (show ¬ (¬ (2 : Int32) < zf ∧ (2 : Int32) < zt ∧ ((¬ (1 : Int32) = (0 : Int32) ∧ r2 = ha) ∨ (¬ (1 : Int32) = (0 : Int32) ∧ r2 = hb))) from fun q => hc192 q.2.1)]) rfl
          · intro (hc192 : (2 : Int32) < zt)
            refine k_aload (pc' := 197) C P82 at_195 rfl rfl rfl ?_
            refine k_iconst (z := (2 : Int32)) (pc' := 198) C P82 at_197 rfl rfl ?_
            refine k_iaload (J := 2) (v := (.int r2)) (pc' := 199) C P82 f82_b48 at_198 rfl (by decide) rfl rfl ?_
            refine k_iload (pc' := 201) C P82 at_199 rfl rfl ?_
            refine k_iload (pc' := 203) C P82 at_201 rfl rfl ?_
            refine k_iload (pc' := 205) C P82 at_203 rfl rfl ?_
            refine k_iload (pc' := 207) C P82 at_205 rfl rfl ?_
            refine k_callT (pc' := 210) (cells' := 12) (slots' := 87) (W := 0) C P82 (C.w 57 rfl) (C.w 58 rfl) (C.w 59 rfl) (C.w 3 rfl) (by decide) (rmHeld l Z a0 hw _ n0 P82.size r2 (1 : Int32) ha (1 : Int32) hb) [(.int r2), (.int (1 : Int32)), (.int ha), (.int (1 : Int32)), (.int hb)] [] rfl (lenOf pd_7 rfl) rfl (Nat.le_of_eq rfl) at_207 rfl (by decide) (by decide) rfl rfl (by decide) (by decide) all0 rfl ?_
            intro T84 h84 v84 P84 K84 Q84
            obtain ⟨e84, g84⟩ := Q84
            subst g84
            subst e84
            show KGo p e below _ T84 m 210 #[.val (.int p0), .val (.int p1), .val (.int p2), .val (.int p3), .val (.int p4), .val (.int p5), .val (.int ha), .val (.int hb), .val (.int (1 : Int32)), .val (.int (1 : Int32)), .val (.ref b48), .val (.int zf), .val (.int zt), .val (.ref b56), .val (.int gt), .val (.int zt)] [(.int (if ((¬ (1 : Int32) = (0 : Int32) ∧ r2 = ha) ∨ (¬ (1 : Int32) = (0 : Int32) ∧ r2 = hb)) then (1 : Int32) else 0))]
            refine k_ifB (pcY := 216) (pcN := 213) C P84 at_210 (by decide) (by decide) rfl ?_ ?_
            · intro (hc210 : (if ((¬ (1 : Int32) = (0 : Int32) ∧ r2 = ha) ∨ (¬ (1 : Int32) = (0 : Int32) ∧ r2 = hb)) then (1 : Int32) else 0) = (0 : Int32))
              exact (hj83 _ P84).cast (by rw [if_neg (show ¬ (¬ (2 : Int32) < zf ∧ (2 : Int32) < zt ∧ ((¬ (1 : Int32) = (0 : Int32) ∧ r2 = ha) ∨ (¬ (1 : Int32) = (0 : Int32) ∧ r2 = hb))) from fun q => own_i0 hc210 q.2.2)]) rfl
            · intro (hc210 : ¬ (if ((¬ (1 : Int32) = (0 : Int32) ∧ r2 = ha) ∨ (¬ (1 : Int32) = (0 : Int32) ∧ r2 = hb)) then (1 : Int32) else 0) = (0 : Int32))
              refine k_iconst (z := (2 : Int32)) (pc' := 214) C P84 at_213 rfl rfl ?_
              refine k_istore (l' := #[.val (.int p0), .val (.int p1), .val (.int p2), .val (.int p3), .val (.int p4), .val (.int p5), .val (.int ha), .val (.int hb), .val (.int (1 : Int32)), .val (.int (1 : Int32)), .val (.ref b48), .val (.int zf), .val (.int zt), .val (.ref b56), .val (.int gt), .val (.int (2 : Int32))]) (pc' := 216) C P84 at_214 rfl rfl ?_
              exact (hj83 _ P84).cast (by rw [if_pos (show (¬ (2 : Int32) < zf ∧ (2 : Int32) < zt ∧ ((¬ (1 : Int32) = (0 : Int32) ∧ r2 = ha) ∨ (¬ (1 : Int32) = (0 : Int32) ∧ r2 = hb))) from ⟨hc186, hc192, own_i1 hc210⟩)]) rfl
      intro T83 P83
      obtain ⟨x2, e_x2⟩ : ∃ z, z = (if (¬ (2 : Int32) < zf ∧ (2 : Int32) < zt ∧ ((¬ (1 : Int32) = (0 : Int32) ∧ r2 = ha) ∨ (¬ (1 : Int32) = (0 : Int32) ∧ r2 = hb))) then (2 : Int32) else zt) := ⟨_, rfl⟩
      rw [← e_x2]
      refine k_join (pc' := 249) (Ls' := #[.val (.int p0), .val (.int p1), .val (.int p2), .val (.int p3), .val (.int p4), .val (.int p5), .val (.int ha), .val (.int hb), .val (.int (1 : Int32)), .val (.int (1 : Int32)), .val (.ref b48), .val (.int zf), .val (.int zt), .val (.ref b56), .val (.int gt), .val (.int (if (¬ (1 : Int32) < zf ∧ (1 : Int32) < zt ∧ ((¬ (1 : Int32) = (0 : Int32) ∧ r1 = ha) ∨ (¬ (1 : Int32) = (0 : Int32) ∧ r1 = hb))) then (1 : Int32) else x2))]) (st' := []) P83 ?_ ?_
      · intro hj85
        refine k_iload (pc' := 218) C P83 at_216 rfl rfl ?_
        refine k_iconst (z := (1 : Int32)) (pc' := 219) C P83 at_218 rfl rfl ?_
        refine k_icB (pcY := 249) (pcN := 222) C P83 at_219 (by decide) (by decide) rfl ?_ ?_
        · intro (hc219 : (1 : Int32) < zf)
          exact (hj85 _ P83).cast (by rw [if_neg (show ¬ (¬ (1 : Int32) < zf ∧ (1 : Int32) < zt ∧ ((¬ (1 : Int32) = (0 : Int32) ∧ r1 = ha) ∨ (¬ (1 : Int32) = (0 : Int32) ∧ r1 = hb))) from fun q => q.1 hc219)]) rfl
        · intro (hc219 : ¬ (1 : Int32) < zf)
          refine k_iconst (z := (1 : Int32)) (pc' := 223) C P83 at_222 rfl rfl ?_
          refine k_iload (pc' := 225) C P83 at_223 rfl rfl ?_
          refine k_icB (pcY := 249) (pcN := 228) C P83 at_225 (by decide) (by decide) rfl ?_ ?_
          · intro (hc225 : ¬ (1 : Int32) < zt)
            exact (hj85 _ P83).cast (by rw [if_neg (show ¬ (¬ (1 : Int32) < zf ∧ (1 : Int32) < zt ∧ ((¬ (1 : Int32) = (0 : Int32) ∧ r1 = ha) ∨ (¬ (1 : Int32) = (0 : Int32) ∧ r1 = hb))) from fun q => hc225 q.2.1)]) rfl
          · intro (hc225 : (1 : Int32) < zt)
            refine k_aload (pc' := 230) C P83 at_228 rfl rfl rfl ?_
            refine k_iconst (z := (1 : Int32)) (pc' := 231) C P83 at_230 rfl rfl ?_
            refine k_iaload (J := 1) (v := (.int r1)) (pc' := 232) C P83 f82_b48 at_231 rfl (by decide) rfl rfl ?_
            refine k_iload (pc' := 234) C P83 at_232 rfl rfl ?_
            refine k_iload (pc' := 236) C P83 at_234 rfl rfl ?_
            refine k_iload (pc' := 238) C P83 at_236 rfl rfl ?_
            refine k_iload (pc' := 240) C P83 at_238 rfl rfl ?_
            refine k_callT (pc' := 243) (cells' := 12) (slots' := 87) (W := 0) C P83 (C.w 57 rfl) (C.w 58 rfl) (C.w 59 rfl) (C.w 3 rfl) (by decide) (rmHeld l Z a0 hw _ n0 P83.size r1 (1 : Int32) ha (1 : Int32) hb) [(.int r1), (.int (1 : Int32)), (.int ha), (.int (1 : Int32)), (.int hb)] [] rfl (lenOf pd_7 rfl) rfl (Nat.le_of_eq rfl) at_240 rfl (by decide) (by decide) rfl rfl (by decide) (by decide) all0 rfl ?_
            intro T86 h86 v86 P86 K86 Q86
            obtain ⟨e86, g86⟩ := Q86
            subst g86
            subst e86
            show KGo p e below _ T86 m 243 #[.val (.int p0), .val (.int p1), .val (.int p2), .val (.int p3), .val (.int p4), .val (.int p5), .val (.int ha), .val (.int hb), .val (.int (1 : Int32)), .val (.int (1 : Int32)), .val (.ref b48), .val (.int zf), .val (.int zt), .val (.ref b56), .val (.int gt), .val (.int x2)] [(.int (if ((¬ (1 : Int32) = (0 : Int32) ∧ r1 = ha) ∨ (¬ (1 : Int32) = (0 : Int32) ∧ r1 = hb)) then (1 : Int32) else 0))]
            refine k_ifB (pcY := 249) (pcN := 246) C P86 at_243 (by decide) (by decide) rfl ?_ ?_
            · intro (hc243 : (if ((¬ (1 : Int32) = (0 : Int32) ∧ r1 = ha) ∨ (¬ (1 : Int32) = (0 : Int32) ∧ r1 = hb)) then (1 : Int32) else 0) = (0 : Int32))
              exact (hj85 _ P86).cast (by rw [if_neg (show ¬ (¬ (1 : Int32) < zf ∧ (1 : Int32) < zt ∧ ((¬ (1 : Int32) = (0 : Int32) ∧ r1 = ha) ∨ (¬ (1 : Int32) = (0 : Int32) ∧ r1 = hb))) from fun q => own_i0 hc243 q.2.2)]) rfl
            · intro (hc243 : ¬ (if ((¬ (1 : Int32) = (0 : Int32) ∧ r1 = ha) ∨ (¬ (1 : Int32) = (0 : Int32) ∧ r1 = hb)) then (1 : Int32) else 0) = (0 : Int32))
              refine k_iconst (z := (1 : Int32)) (pc' := 247) C P86 at_246 rfl rfl ?_
              refine k_istore (l' := #[.val (.int p0), .val (.int p1), .val (.int p2), .val (.int p3), .val (.int p4), .val (.int p5), .val (.int ha), .val (.int hb), .val (.int (1 : Int32)), .val (.int (1 : Int32)), .val (.ref b48), .val (.int zf), .val (.int zt), .val (.ref b56), .val (.int gt), .val (.int (1 : Int32))]) (pc' := 249) C P86 at_247 rfl rfl ?_
              exact (hj85 _ P86).cast (by rw [if_pos (show (¬ (1 : Int32) < zf ∧ (1 : Int32) < zt ∧ ((¬ (1 : Int32) = (0 : Int32) ∧ r1 = ha) ∨ (¬ (1 : Int32) = (0 : Int32) ∧ r1 = hb))) from ⟨hc219, hc225, own_i1 hc243⟩)]) rfl
      intro T85 P85
      obtain ⟨x1, e_x1⟩ : ∃ z, z = (if (¬ (1 : Int32) < zf ∧ (1 : Int32) < zt ∧ ((¬ (1 : Int32) = (0 : Int32) ∧ r1 = ha) ∨ (¬ (1 : Int32) = (0 : Int32) ∧ r1 = hb))) then (1 : Int32) else x2) := ⟨_, rfl⟩
      rw [← e_x1]
      refine k_join (pc' := 281) (Ls' := #[.val (.int p0), .val (.int p1), .val (.int p2), .val (.int p3), .val (.int p4), .val (.int p5), .val (.int ha), .val (.int hb), .val (.int (1 : Int32)), .val (.int (1 : Int32)), .val (.ref b48), .val (.int zf), .val (.int zt), .val (.ref b56), .val (.int gt), .val (.int (if (¬ (0 : Int32) < zf ∧ (0 : Int32) < zt ∧ ((¬ (1 : Int32) = (0 : Int32) ∧ r0 = ha) ∨ (¬ (1 : Int32) = (0 : Int32) ∧ r0 = hb))) then (0 : Int32) else x1))]) (st' := []) P85 ?_ ?_
      · intro hj87
        refine k_iload (pc' := 251) C P85 at_249 rfl rfl ?_
        refine k_ifB (pcY := 281) (pcN := 254) C P85 at_251 (by decide) (by decide) rfl ?_ ?_
        · intro (hc251 : (0 : Int32) < zf)
          exact (hj87 _ P85).cast (by rw [if_neg (show ¬ (¬ (0 : Int32) < zf ∧ (0 : Int32) < zt ∧ ((¬ (1 : Int32) = (0 : Int32) ∧ r0 = ha) ∨ (¬ (1 : Int32) = (0 : Int32) ∧ r0 = hb))) from fun q => q.1 hc251)]) rfl
        · intro (hc251 : ¬ (0 : Int32) < zf)
          refine k_iconst (z := (0 : Int32)) (pc' := 255) C P85 at_254 rfl rfl ?_
          refine k_iload (pc' := 257) C P85 at_255 rfl rfl ?_
          refine k_icB (pcY := 281) (pcN := 260) C P85 at_257 (by decide) (by decide) rfl ?_ ?_
          · intro (hc257 : ¬ (0 : Int32) < zt)
            exact (hj87 _ P85).cast (by rw [if_neg (show ¬ (¬ (0 : Int32) < zf ∧ (0 : Int32) < zt ∧ ((¬ (1 : Int32) = (0 : Int32) ∧ r0 = ha) ∨ (¬ (1 : Int32) = (0 : Int32) ∧ r0 = hb))) from fun q => hc257 q.2.1)]) rfl
          · intro (hc257 : (0 : Int32) < zt)
            refine k_aload (pc' := 262) C P85 at_260 rfl rfl rfl ?_
            refine k_iconst (z := (0 : Int32)) (pc' := 263) C P85 at_262 rfl rfl ?_
            refine k_iaload (J := 0) (v := (.int r0)) (pc' := 264) C P85 f82_b48 at_263 rfl (by decide) rfl rfl ?_
            refine k_iload (pc' := 266) C P85 at_264 rfl rfl ?_
            refine k_iload (pc' := 268) C P85 at_266 rfl rfl ?_
            refine k_iload (pc' := 270) C P85 at_268 rfl rfl ?_
            refine k_iload (pc' := 272) C P85 at_270 rfl rfl ?_
            refine k_callT (pc' := 275) (cells' := 12) (slots' := 87) (W := 0) C P85 (C.w 57 rfl) (C.w 58 rfl) (C.w 59 rfl) (C.w 3 rfl) (by decide) (rmHeld l Z a0 hw _ n0 P85.size r0 (1 : Int32) ha (1 : Int32) hb) [(.int r0), (.int (1 : Int32)), (.int ha), (.int (1 : Int32)), (.int hb)] [] rfl (lenOf pd_7 rfl) rfl (Nat.le_of_eq rfl) at_272 rfl (by decide) (by decide) rfl rfl (by decide) (by decide) all0 rfl ?_
            intro T88 h88 v88 P88 K88 Q88
            obtain ⟨e88, g88⟩ := Q88
            subst g88
            subst e88
            show KGo p e below _ T88 m 275 #[.val (.int p0), .val (.int p1), .val (.int p2), .val (.int p3), .val (.int p4), .val (.int p5), .val (.int ha), .val (.int hb), .val (.int (1 : Int32)), .val (.int (1 : Int32)), .val (.ref b48), .val (.int zf), .val (.int zt), .val (.ref b56), .val (.int gt), .val (.int x1)] [(.int (if ((¬ (1 : Int32) = (0 : Int32) ∧ r0 = ha) ∨ (¬ (1 : Int32) = (0 : Int32) ∧ r0 = hb)) then (1 : Int32) else 0))]
            refine k_ifB (pcY := 281) (pcN := 278) C P88 at_275 (by decide) (by decide) rfl ?_ ?_
            · intro (hc275 : (if ((¬ (1 : Int32) = (0 : Int32) ∧ r0 = ha) ∨ (¬ (1 : Int32) = (0 : Int32) ∧ r0 = hb)) then (1 : Int32) else 0) = (0 : Int32))
              exact (hj87 _ P88).cast (by rw [if_neg (show ¬ (¬ (0 : Int32) < zf ∧ (0 : Int32) < zt ∧ ((¬ (1 : Int32) = (0 : Int32) ∧ r0 = ha) ∨ (¬ (1 : Int32) = (0 : Int32) ∧ r0 = hb))) from fun q => own_i0 hc275 q.2.2)]) rfl
            · intro (hc275 : ¬ (if ((¬ (1 : Int32) = (0 : Int32) ∧ r0 = ha) ∨ (¬ (1 : Int32) = (0 : Int32) ∧ r0 = hb)) then (1 : Int32) else 0) = (0 : Int32))
              refine k_iconst (z := (0 : Int32)) (pc' := 279) C P88 at_278 rfl rfl ?_
              refine k_istore (l' := #[.val (.int p0), .val (.int p1), .val (.int p2), .val (.int p3), .val (.int p4), .val (.int p5), .val (.int ha), .val (.int hb), .val (.int (1 : Int32)), .val (.int (1 : Int32)), .val (.ref b48), .val (.int zf), .val (.int zt), .val (.ref b56), .val (.int gt), .val (.int (0 : Int32))]) (pc' := 281) C P88 at_279 rfl rfl ?_
              exact (hj87 _ P88).cast (by rw [if_pos (show (¬ (0 : Int32) < zf ∧ (0 : Int32) < zt ∧ ((¬ (1 : Int32) = (0 : Int32) ∧ r0 = ha) ∨ (¬ (1 : Int32) = (0 : Int32) ∧ r0 = hb))) from ⟨hc251, hc257, own_i1 hc275⟩)]) rfl
      intro T87 P87
      obtain ⟨x0, e_x0⟩ : ∃ z, z = (if (¬ (0 : Int32) < zf ∧ (0 : Int32) < zt ∧ ((¬ (1 : Int32) = (0 : Int32) ∧ r0 = ha) ∨ (¬ (1 : Int32) = (0 : Int32) ∧ r0 = hb))) then (0 : Int32) else x1) := ⟨_, rfl⟩
      rw [← e_x0]
      refine k_iload (pc' := 283) C P87 at_281 rfl rfl ?_
      refine k_iload (pc' := 285) C P87 at_283 rfl rfl ?_
      refine k_icN (pc' := 288) C P87 at_285 (own_fin (X := (fun j => if j = 0 then r0 else if j = 1 then r1 else r2 : Nat → Int32)) (H := fun x => ((¬ (1 : Int32) = (0 : Int32) ∧ x = ha) ∨ (¬ (1 : Int32) = (0 : Int32) ∧ x = hb))) hFr hTo hTo3 hFT hgt e_x2 e_x1 e_x0) rfl ?_
      refine k_iconst (z := (1 : Int32)) (pc' := 289) C P87 at_288 rfl rfl ?_
      refine k_goto (pc' := 293) C P87 at_289 (by decide) (by decide) ?_
      exact k_retZ (z' := (1 : Int32)) C P87 (by simp) at_293 rfl (by decide) (by decide) rfl
set_option maxRecDepth 65536 in
set_option maxHeartbeats 40000000 in
theorem comes_1 {Post : Tables → Env → Array Value → State → Outcome → State → Prop} (hpost : ∀ tb e args s v u, (limb_1_1.after args s (.returned v) u = true ∧ limb_1_2.after args s (.returned v) u = true ∧ True) → FrameEnd s (.returned v) u (Jvm.fieldLocs frame_1_writes args s ++ Jvm.arrayLocs frame_1_arrays args s ++ Jvm.staticLocs frame_1_statics s) 32 192 → Post tb e args s (.returned v) u) :
    ArmFor flags0 classFile x code maxLocals ret World_1 tables_1 room_1 Calls_1 rest_1 Pre_1 Post := by
  intro l hfl _ _ p e ha hc hk s m args below hf hA hF happ hP
  obtain ⟨hcalls, hrest, hpre⟩ := hP
  obtain ⟨-, -, -, hnamed, -, -, -, hat⟩ := (Spec.applies_iff hf).mp happ
  obtain ⟨hg, hn⟩ := and_e (Cond.before_iff.mp (show (Jvm.Cond.and given_1 narrow_1).before args s = true from hpre))
  obtain ⟨g0, g1⟩ := and_e hg
  obtain ⟨a0, g2⟩ := and_e g1
  obtain ⟨a1, g3⟩ := and_e g2
  obtain ⟨a2, g4⟩ := and_e g3
  obtain ⟨a3, g5⟩ := and_e g4
  obtain ⟨a4, g6⟩ := and_e g5
  have a5 := g6
  obtain ⟨w0, w1, w2, w3, w4, w5, rfl⟩ : ∃ w0 w1 w2 w3 w4 w5 : Value, args = #[w0, w1, w2, w3, w4, w5] := by
    have hs : args.size = 6 := by simpa [Cond.value, given_1] using g0
    obtain ⟨L⟩ := args
    match L, hs with
    | [w0, w1, w2, w3, w4, w5], _ => exact ⟨w0, w1, w2, w3, w4, w5, rfl⟩
  have hw := fun d (hd : d ∈ tables_1) => atoms_spec (ws := Jvm.Cond.code x code maxLocals ret :: tables_1) hat d (List.mem_cons_of_mem _ hd)
  have hfit : Fit s := fun {y c} hc i hi => by
    obtain ⟨ha, rfl⟩ := Array.getElem?_eq_some_iff.mp hc
    have q := List.all_eq_true.mp ((Array.all_eq_true_iff_forall_mem.mp hF) _ (Array.getElem_mem ha)) i (List.mem_range.mpr hi)
    simpa [Array.getElem?_eq_getElem hi] using q
  obtain ⟨i0, ei0⟩ := is_v a0
  obtain rfl : w0 = (.int i0) := Option.some.inj ei0
  obtain ⟨i1, ei1⟩ := is_v a1
  obtain rfl : w1 = (.int i1) := Option.some.inj ei1
  obtain ⟨i2, ei2⟩ := is_v a2
  obtain rfl : w2 = (.int i2) := Option.some.inj ei2
  obtain ⟨i3, ei3⟩ := is_v a3
  obtain rfl : w3 = (.int i3) := Option.some.inj ei3
  obtain ⟨i4, ei4⟩ := is_v a4
  obtain rfl : w4 = (.int i4) := Option.some.inj ei4
  obtain ⟨i5, ei5⟩ := is_v a5
  obtain rfl : w5 = (.int i5) := Option.some.inj ei5
  obtain ⟨n, o, h1, h2, h3, _, L, rfl, ⟨N, _, rfl⟩, hq0⟩ := (rm0 l s _ hw s.heap s.heap.size (Nat.le_refl _) i0 i1 i2 i3 i4 i5 ) tables_1 p e ha hc hk s m _ below hf ((Spec.applies_iff_loose hf).mp happ).1 ⟨rfl, State.Warmed39.refl s, rfl⟩ trivial
  have hq : FrameEnd _ _ _ _ _ _ := hq0
  refine ⟨n, _, h1, h2, h3, hpost _ _ _ _ _ _ ⟨Cond.after_iff.mpr rfl, Cond.after_iff.mpr (eq_i res_at (Term.int_eval (1)) rfl), trivial⟩ ⟨hq.1, hq.2.1, (hq.2.2.sift fun y hy => Or.inr (N y hy)).mono (by decide) (by decide)⟩⟩
theorem main_1_1 : Claimed_1_1 := comes_1 fun _ _ _ _ _ _ h hF => ⟨h.1, hF⟩
theorem main_1_2 : Claimed_1_2 := comes_1 fun _ _ _ _ _ _ h hF => ⟨h.2.1, hF⟩
end Jvm.Pilot.@@N@@
namespace Jvm.Pilot.@@N@@
open Jvm Jvm.ClassFile Sem Op Lib Jvm.Free Jvm.Stand Jvm.Pilot.@@N@@.Jvm.D
/-! MADE BY PROGRAM (witnessworld.py) out of the Statement's table words and the real class files: 15 classes; the members and pool entries that the words name. The judged class is class 1, her method 1. -/
namespace start1
open Jvm.ClassFile
def u (s : String) : CpInfo := .utf8 (stringToUtf16 s)
/-- a pool by its gaps: so many unusable entries, then the entry; so many at the end -/
def gap : Nat → List CpInfo → List CpInfo
  | 0, r => r
  | n + 1, r => .unusable :: gap n r
def poolList (es : List (Nat × CpInfo)) (last : Nat) : List CpInfo := es.foldr (fun e r => gap e.1 (e.2 :: r)) (gap last [])
def pool (es : List (Nat × CpInfo)) (last : Nat) : Array CpInfo := ⟨poolList es last⟩
def fileOf (pool : Array CpInfo) (this : Nat) (attrs : Array Attribute := #[]) (ms : Array MethodInfo := #[]) (fl : Nat := 33) (sup : Nat := 0) (ifs : Array Nat := #[]) (fds : Array FieldInfo := #[]) : ClassFile where
  minorVersion := 0
  majorVersion := 65
  constantPool := pool
  accessFlags := fl
  thisClass := this
  superClass := sup
  interfaces := ifs
  fields := fds
  methods := ms
  attributes := attrs
def plain (name : String) (sup : Option ClassId) : Class where
  name := name
  kind := .ordinary
  loader := none
  accessFlags := 33
  super := sup
  interfaces := #[]
  cf := none
  fields := #[]
  methods := #[]
  instanceTypes := #[]
  staticTypes := #[]
  resolved := #[]
  callSites := []
  init := .initialized
  statics := none
  mirror := none

def pool0 : Array CpInfo := pool [(5, u "<init>"), (0, u "()V"), (1, .class_ 10), (1, u "java/lang/Object"), (85, u "clone"), (0, u "()Ljava/lang/Object;")] 26

def k0c0 : Code := { maxStack := 0, maxLocals := 1, code := object_method_1_code, exceptionTable := #[], attributes := #[] }
def k0m0 : Method := { name := "<init>", desc := "()V", sig := { parameters := [], returnType := none }, accessFlags := 1, code := some k0c0 }
def k0m1 : Method := { name := "clone", desc := "()Ljava/lang/Object;", sig := { parameters := [], returnType := some (.object "java/lang/Object") }, accessFlags := 260, code := none }
/-- java/lang/Object -/
def k0 : Class := { plain "java/lang/Object" none with
  accessFlags := 33
  interfaces := #[]
  cf := some (fileOf pool0 8 #[] #[{ accessFlags := 1, nameIndex := 5, descriptorIndex := 6, attributes := #[] }, { accessFlags := 260, nameIndex := 96, descriptorIndex := 97, attributes := #[] }] 33 0 #[] #[])
  fields := #[]
  methods := #[k0m0, k0m1]
  instanceTypes := #[]
  staticTypes := #[]
  resolved := Array.replicate 124 none
  statics := none }

def pool1 : Array CpInfo := pool [(2, .class_ 4), (0, .nameAndType 5 6), (0, u "java/lang/Object"), (0, u "<init>"), (0, u "()V"), (0, .methodref 8 9), (0, .class_ 10), (0, .nameAndType 11 12), (0, u "com/example/outrigger/outrigger/OrdinalSetFirstHeldPinLaw"), (0, u "pick"), (0, u "(IIII)I"), (0, .class_ 14), (0, u "com/example/outrigger/outrigger/OrdinalSet"), (0, .methodref 13 3), (0, .methodref 13 17), (0, .nameAndType 18 19), (0, u "add"), (0, u "(I)V"), (0, .methodref 13 21), (0, .nameAndType 22 23), (0, u "firstHeld"), (0, u "([III)I"), (0, .methodref 8 25), (0, .nameAndType 26 27), (0, u "held"), (0, u "(IZIZI)Z"), (2, u "law"), (0, u "(IIIIII)Z")] 5

def k1m0 : Method := { name := "<init>", desc := "()V", sig := { parameters := [], returnType := none }, accessFlags := 1, code := none }
def k1c1 : Code := { maxStack := 6, maxLocals := 16, code := code, exceptionTable := #[], attributes := #[] }
def k1m1 : Method := { name := "law", desc := "(IIIIII)Z", sig := { parameters := [.int, .int, .int, .int, .int, .int], returnType := some .boolean }, accessFlags := 9, code := some k1c1 }
def k1c2 : Code := { maxStack := 2, maxLocals := 4, code := method_3_code, exceptionTable := #[], attributes := #[] }
def k1m2 : Method := { name := "pick", desc := "(IIII)I", sig := { parameters := [.int, .int, .int, .int], returnType := some .int }, accessFlags := 10, code := some k1c2 }
def k1c3 : Code := { maxStack := 2, maxLocals := 5, code := method_4_code, exceptionTable := #[], attributes := #[] }
def k1m3 : Method := { name := "held", desc := "(IZIZI)Z", sig := { parameters := [.int, .boolean, .int, .boolean, .int], returnType := some .boolean }, accessFlags := 10, code := some k1c3 }
/-- com/example/outrigger/outrigger/OrdinalSetFirstHeldPinLaw -/
def k1 : Class := { plain "com/example/outrigger/outrigger/OrdinalSetFirstHeldPinLaw" (some 0) with
  accessFlags := 49
  interfaces := #[]
  cf := some (fileOf pool1 8 #[] #[{ accessFlags := 1, nameIndex := 5, descriptorIndex := 6, attributes := #[] }, { accessFlags := 9, nameIndex := 30, descriptorIndex := 31, attributes := #[] }, { accessFlags := 10, nameIndex := 11, descriptorIndex := 12, attributes := #[] }, { accessFlags := 10, nameIndex := 26, descriptorIndex := 27, attributes := #[] }] 49 2 #[] #[])
  fields := #[]
  methods := #[k1m0, k1m1, k1m2, k1m3]
  instanceTypes := #[]
  staticTypes := #[]
  resolved := Array.replicate 37 none
  statics := none }

def pool2 : Array CpInfo := pool [(1, .methodref 2 3), (0, .class_ 4), (0, .nameAndType 5 6), (0, u "java/lang/Object"), (0, u "<init>"), (0, u "()V"), (0, .class_ 8), (0, u "[J"), (0, .fieldref 10 11), (0, .class_ 12), (0, .nameAndType 13 14), (0, u "com/example/outrigger/outrigger/OrdinalSet"), (0, u "levels"), (0, u "[[J"), (0, .methodref 10 16), (0, .nameAndType 17 18), (0, u "grow"), (0, u "(I)V"), (0, .methodref 10 20), (0, .nameAndType 21 22), (0, u "contains"), (0, u "(I)Z"), (0, .fieldref 10 24), (0, .nameAndType 25 26), (0, u "size"), (0, u "I"), (0, .long 18446744073709551615), (3, u "firstHeld"), (0, u "([III)I"), (6, .class_ 40), (0, u "com/example/outrigger/outrigger/OrdinalSet$1"), (12, .methodref 54 55), (0, .class_ 56), (0, .nameAndType 57 58), (0, u "java/lang/Math"), (0, u "max"), (0, u "(II)I"), (0, .methodref 60 61), (0, .class_ 62), (0, .nameAndType 63 64), (0, u "java/util/Arrays"), (0, u "copyOf"), (0, u "([JI)[J"), (0, u "WORD_BITS"), (5, u "add")] 18

def k2c0 : Code := { maxStack := 5, maxLocals := 1, code := prog_118_method_1_code, exceptionTable := #[], attributes := #[] }
def k2m0 : Method := { name := "<init>", desc := "()V", sig := { parameters := [], returnType := none }, accessFlags := 0, code := some k2c0 }
def k2c1 : Code := { maxStack := 5, maxLocals := 4, code := prog_118_method_2_code, exceptionTable := #[], attributes := #[] }
def k2m1 : Method := { name := "contains", desc := "(I)Z", sig := { parameters := [.int], returnType := some .boolean }, accessFlags := 0, code := some k2c1 }
def k2c2 : Code := { maxStack := 7, maxLocals := 8, code := prog_118_method_3_code, exceptionTable := #[], attributes := #[] }
def k2m2 : Method := { name := "add", desc := "(I)V", sig := { parameters := [.int], returnType := none }, accessFlags := 0, code := some k2c2 }
def k2c3 : Code := { maxStack := 6, maxLocals := 7, code := prog_118_method_5_code, exceptionTable := #[], attributes := #[] }
def k2m3 : Method := { name := "firstHeld", desc := "([III)I", sig := { parameters := [(.array .int), .int, .int], returnType := some .int }, accessFlags := 0, code := some k2c3 }
def k2c4 : Code := { maxStack := 4, maxLocals := 6, code := prog_118_method_10_code, exceptionTable := #[], attributes := #[] }
def k2m4 : Method := { name := "grow", desc := "(I)V", sig := { parameters := [.int], returnType := none }, accessFlags := 2, code := some k2c4 }
/-- com/example/outrigger/outrigger/OrdinalSet -/
def k2 : Class := { plain "com/example/outrigger/outrigger/OrdinalSet" (some 0) with
  accessFlags := 48
  interfaces := #[]
  cf := some (fileOf pool2 10 #[.nestMembers #[39]] #[{ accessFlags := 0, nameIndex := 5, descriptorIndex := 6, attributes := #[] }, { accessFlags := 0, nameIndex := 21, descriptorIndex := 22, attributes := #[] }, { accessFlags := 0, nameIndex := 71, descriptorIndex := 18, attributes := #[] }, { accessFlags := 0, nameIndex := 31, descriptorIndex := 32, attributes := #[] }, { accessFlags := 2, nameIndex := 17, descriptorIndex := 18, attributes := #[] }] 48 2 #[] #[{ accessFlags := 26, nameIndex := 65, descriptorIndex := 26, attributes := #[] }, { accessFlags := 2, nameIndex := 13, descriptorIndex := 14, attributes := #[] }, { accessFlags := 2, nameIndex := 25, descriptorIndex := 26, attributes := #[] }])
  fields := #[{ name := "WORD_BITS", type := .int, accessFlags := 26, slot := 0, constantValue := 0 }, { name := "levels", type := (.array (.array .long)), accessFlags := 2, slot := 0, constantValue := 0 }, { name := "size", type := .int, accessFlags := 2, slot := 1, constantValue := 0 }]
  methods := #[k2m0, k2m1, k2m2, k2m3, k2m4]
  instanceTypes := #[(.array (.array .long)), .int]
  staticTypes := #[.int]
  resolved := Array.replicate 90 none
  statics := none }

def pool3 : Array CpInfo := pool [(1, .class_ 2), (0, u "java/lang/Math"), (1, .class_ 6), (1, u "java/lang/Object"), (0, u "<init>"), (0, u "()V"), (89, .class_ 100), (1, u "java/lang/Math$RandomNumberGeneratorHolder"), (71, u "negativeZeroFloatBits"), (0, u "J"), (2, u "negativeZeroDoubleBits"), (21, u "max"), (2, u "min"), (43, u "$assertionsDisabled"), (0, u "Z"), (88, u "(II)I"), (2, u "twoToTheDoubleScaleDown"), (0, u "D"), (4, u "twoToTheDoubleScaleUp"), (9, u "E"), (3, u "PI"), (2, u "TAU"), (2, u "DEGREES_TO_RADIANS"), (0, u "RADIANS_TO_DEGREES")] 94

def k3m0 : Method := { name := "<init>", desc := "()V", sig := { parameters := [], returnType := none }, accessFlags := 2, code := none }
def k3c1 : Code := { maxStack := 2, maxLocals := 2, code := jdk_29_method_65_code, exceptionTable := #[], attributes := #[] }
def k3m1 : Method := { name := "max", desc := "(II)I", sig := { parameters := [.int, .int], returnType := some .int }, accessFlags := 9, code := some k3c1 }
def k3c2 : Code := { maxStack := 2, maxLocals := 2, code := jdk_29_method_69_code, exceptionTable := #[], attributes := #[] }
def k3m2 : Method := { name := "min", desc := "(II)I", sig := { parameters := [.int, .int], returnType := some .int }, accessFlags := 9, code := some k3c2 }
/-- java/lang/Math -/
def k3 : Class := { plain "java/lang/Math" (some 0) with
  accessFlags := 49
  interfaces := #[]
  cf := some (fileOf pool3 1 #[.nestMembers #[98]] #[{ accessFlags := 2, nameIndex := 7, descriptorIndex := 8, attributes := #[] }, { accessFlags := 9, nameIndex := 198, descriptorIndex := 335, attributes := #[] }, { accessFlags := 9, nameIndex := 201, descriptorIndex := 335, attributes := #[] }] 49 4 #[] #[{ accessFlags := 25, nameIndex := 354, descriptorIndex := 339, attributes := #[] }, { accessFlags := 25, nameIndex := 358, descriptorIndex := 339, attributes := #[] }, { accessFlags := 25, nameIndex := 361, descriptorIndex := 339, attributes := #[] }, { accessFlags := 26, nameIndex := 364, descriptorIndex := 339, attributes := #[] }, { accessFlags := 26, nameIndex := 365, descriptorIndex := 339, attributes := #[] }, { accessFlags := 26, nameIndex := 172, descriptorIndex := 173, attributes := #[] }, { accessFlags := 26, nameIndex := 176, descriptorIndex := 173, attributes := #[] }, { accessFlags := 8, nameIndex := 344, descriptorIndex := 339, attributes := #[] }, { accessFlags := 8, nameIndex := 338, descriptorIndex := 339, attributes := #[] }, { accessFlags := 4120, nameIndex := 245, descriptorIndex := 246, attributes := #[] }])
  fields := #[{ name := "E", type := .double, accessFlags := 25, slot := 0, constantValue := 0 }, { name := "PI", type := .double, accessFlags := 25, slot := 1, constantValue := 0 }, { name := "TAU", type := .double, accessFlags := 25, slot := 2, constantValue := 0 }, { name := "DEGREES_TO_RADIANS", type := .double, accessFlags := 26, slot := 3, constantValue := 0 }, { name := "RADIANS_TO_DEGREES", type := .double, accessFlags := 26, slot := 4, constantValue := 0 }, { name := "negativeZeroFloatBits", type := .long, accessFlags := 26, slot := 5, constantValue := 0 }, { name := "negativeZeroDoubleBits", type := .long, accessFlags := 26, slot := 6, constantValue := 0 }, { name := "twoToTheDoubleScaleUp", type := .double, accessFlags := 8, slot := 7, constantValue := 0 }, { name := "twoToTheDoubleScaleDown", type := .double, accessFlags := 8, slot := 8, constantValue := 0 }, { name := "$assertionsDisabled", type := .boolean, accessFlags := 4120, slot := 9, constantValue := 0 }]
  methods := #[k3m0, k3m1, k3m2]
  instanceTypes := #[]
  staticTypes := #[.double, .double, .double, .double, .double, .long, .long, .double, .double, .boolean]
  resolved := Array.replicate 460 none
  statics := none }

def pool4 : Array CpInfo := pool [(2, .class_ 4), (1, u "java/lang/Object"), (0, u "<init>"), (0, u "()V"), (7, .class_ 16), (1, u "java/util/Arrays"), (57, .class_ 76), (1, u "java/util/Arrays$NaturalOrder"), (32, u "()Ljava/lang/Object;"), (3, .class_ 115), (1, u "java/util/Arrays$LegacyMergeSort"), (1, u "Z"), (10, .nameAndType 129 109), (0, u "clone"), (20, .methodref 151 152), (0, .class_ 153), (0, .nameAndType 154 155), (0, u "java/lang/System"), (0, u "arraycopy"), (0, u "(Ljava/lang/Object;ILjava/lang/Object;II)V"), (146, u "copyOf"), (1, .methodref 305 306), (0, .class_ 307), (0, .nameAndType 308 309), (0, u "java/lang/Math"), (0, u "min"), (0, u "(II)I"), (9, .methodref 320 128), (0, .class_ 321), (0, u "[J"), (53, .class_ 376), (0, u "java/util/Arrays$ArrayList"), (68, u "$assertionsDisabled"), (269, u "MIN_ARRAY_SORT_GRAN"), (0, u "I"), (2, u "INSERTIONSORT_THRESHOLD"), (152, u "([JI)[J"), (102, .class_ 976), (0, u "java/util/Arrays$ArrayItr")] 52

def k4m0 : Method := { name := "<init>", desc := "()V", sig := { parameters := [], returnType := none }, accessFlags := 2, code := none }
def k4c1 : Code := { maxStack := 6, maxLocals := 3, code := jdk_65_method_124_code, exceptionTable := #[], attributes := #[] }
def k4m1 : Method := { name := "copyOf", desc := "([JI)[J", sig := { parameters := [(.array .long), .int], returnType := some (.array .long) }, accessFlags := 9, code := some k4c1 }
/-- java/util/Arrays -/
def k4 : Class := { plain "java/util/Arrays" (some 0) with
  accessFlags := 49
  interfaces := #[]
  cf := some (fileOf pool4 14 #[.nestMembers #[975, 375, 113, 74]] #[{ accessFlags := 2, nameIndex := 5, descriptorIndex := 6, attributes := #[] }, { accessFlags := 9, nameIndex := 302, descriptorIndex := 872, attributes := #[] }] 49 2 #[] #[{ accessFlags := 26, nameIndex := 715, descriptorIndex := 716, attributes := #[] }, { accessFlags := 26, nameIndex := 719, descriptorIndex := 716, attributes := #[] }, { accessFlags := 4120, nameIndex := 445, descriptorIndex := 117, attributes := #[] }])
  fields := #[{ name := "MIN_ARRAY_SORT_GRAN", type := .int, accessFlags := 26, slot := 0, constantValue := 0 }, { name := "INSERTIONSORT_THRESHOLD", type := .int, accessFlags := 26, slot := 1, constantValue := 0 }, { name := "$assertionsDisabled", type := .boolean, accessFlags := 4120, slot := 2, constantValue := 0 }]
  methods := #[k4m0, k4m1]
  instanceTypes := #[]
  staticTypes := #[.int, .int, .boolean]
  resolved := Array.replicate 1029 none
  statics := none }

def pool5 : Array CpInfo := pool [(2, .class_ 4), (1, u "java/lang/Object"), (0, u "<init>"), (0, u "()V"), (1, .class_ 10), (1, u "java/lang/System"), (0, u "allowSecurityManager"), (0, u "I"), (16, u "cons"), (0, u "Ljava/io/Console;"), (77, .class_ 110), (1, u "java/lang/System$CallersHolder"), (43, u "initialErrStream"), (0, u "Ljava/io/PrintStream;"), (19, u "security"), (0, u "Ljava/lang/SecurityManager;"), (31, .class_ 209), (0, u "java/lang/System$1"), (7, u "props"), (0, u "Ljava/util/Properties;"), (2, u "lineSeparator"), (0, u "Ljava/lang/String;"), (96, .class_ 321), (1, u "java/lang/System$LoggerFinder"), (5, .class_ 328), (0, u "java/lang/System$Logger"), (67, u "err"), (2, u "out"), (91, u "notSupportedJnuEncoding"), (15, u "in"), (17, u "initialIn"), (0, u "Ljava/io/InputStream;"), (35, u "bootLayer"), (0, u "Ljava/lang/ModuleLayer;"), (99, .class_ 664), (0, u "java/lang/System$2"), (9, u "NEVER"), (2, u "MAYBE"), (49, u "arraycopy"), (0, u "(Ljava/lang/Object;ILjava/lang/Object;II)V"), (72, .class_ 802), (0, u "java/lang/System$Logger$Level")] 31

def k5m0 : Method := { name := "<init>", desc := "()V", sig := { parameters := [], returnType := none }, accessFlags := 2, code := none }
def k5m1 : Method := { name := "arraycopy", desc := "(Ljava/lang/Object;ILjava/lang/Object;II)V", sig := { parameters := [(.object "java/lang/Object"), .int, (.object "java/lang/Object"), .int, .int], returnType := none }, accessFlags := 265, code := none }
/-- java/lang/System -/
def k5 : Class := { plain "java/lang/System" (some 0) with
  accessFlags := 49
  interfaces := #[]
  cf := some (fileOf pool5 8 #[.nestMembers #[319, 327, 801, 108, 663, 208]] #[{ accessFlags := 2, nameIndex := 5, descriptorIndex := 6, attributes := #[] }, { accessFlags := 265, nameIndex := 727, descriptorIndex := 728, attributes := #[] }] 49 2 #[] #[{ accessFlags := 25, nameIndex := 507, descriptorIndex := 526, attributes := #[] }, { accessFlags := 25, nameIndex := 399, descriptorIndex := 155, attributes := #[] }, { accessFlags := 25, nameIndex := 396, descriptorIndex := 155, attributes := #[] }, { accessFlags := 10, nameIndex := 525, descriptorIndex := 526, attributes := #[] }, { accessFlags := 26, nameIndex := 674, descriptorIndex := 12, attributes := #[] }, { accessFlags := 26, nameIndex := 677, descriptorIndex := 12, attributes := #[] }, { accessFlags := 10, nameIndex := 11, descriptorIndex := 12, attributes := #[] }, { accessFlags := 74, nameIndex := 175, descriptorIndex := 176, attributes := #[] }, { accessFlags := 10, nameIndex := 491, descriptorIndex := 222, attributes := #[] }, { accessFlags := 74, nameIndex := 29, descriptorIndex := 30, attributes := #[] }, { accessFlags := 74, nameIndex := 154, descriptorIndex := 155, attributes := #[] }, { accessFlags := 10, nameIndex := 217, descriptorIndex := 218, attributes := #[] }, { accessFlags := 10, nameIndex := 221, descriptorIndex := 222, attributes := #[] }, { accessFlags := 8, nameIndex := 562, descriptorIndex := 563, attributes := #[] }])
  fields := #[{ name := "in", type := (.object "java/io/InputStream"), accessFlags := 25, slot := 0, constantValue := 0 }, { name := "out", type := (.object "java/io/PrintStream"), accessFlags := 25, slot := 1, constantValue := 0 }, { name := "err", type := (.object "java/io/PrintStream"), accessFlags := 25, slot := 2, constantValue := 0 }, { name := "initialIn", type := (.object "java/io/InputStream"), accessFlags := 10, slot := 3, constantValue := 0 }, { name := "NEVER", type := .int, accessFlags := 26, slot := 4, constantValue := 0 }, { name := "MAYBE", type := .int, accessFlags := 26, slot := 5, constantValue := 0 }, { name := "allowSecurityManager", type := .int, accessFlags := 10, slot := 6, constantValue := 0 }, { name := "security", type := (.object "java/lang/SecurityManager"), accessFlags := 74, slot := 7, constantValue := 0 }, { name := "notSupportedJnuEncoding", type := (.object "java/lang/String"), accessFlags := 10, slot := 8, constantValue := 0 }, { name := "cons", type := (.object "java/io/Console"), accessFlags := 74, slot := 9, constantValue := 0 }, { name := "initialErrStream", type := (.object "java/io/PrintStream"), accessFlags := 74, slot := 10, constantValue := 0 }, { name := "props", type := (.object "java/util/Properties"), accessFlags := 10, slot := 11, constantValue := 0 }, { name := "lineSeparator", type := (.object "java/lang/String"), accessFlags := 10, slot := 12, constantValue := 0 }, { name := "bootLayer", type := (.object "java/lang/ModuleLayer"), accessFlags := 8, slot := 13, constantValue := 0 }]
  methods := #[k5m0, k5m1]
  instanceTypes := #[]
  staticTypes := #[(.object "java/io/InputStream"), (.object "java/io/PrintStream"), (.object "java/io/PrintStream"), (.object "java/io/InputStream"), .int, .int, .int, (.object "java/lang/SecurityManager"), (.object "java/lang/String"), (.object "java/io/Console"), (.object "java/io/PrintStream"), (.object "java/util/Properties"), (.object "java/lang/String"), (.object "java/lang/ModuleLayer")]
  resolved := Array.replicate 834 none
  statics := none }

def pool6 : Array CpInfo := pool [(1, .class_ 2), (0, u "java/lang/Cloneable"), (0, .class_ 4), (0, u "java/lang/Object")] 2

/-- java/lang/Cloneable -/
def k6 : Class := { plain "java/lang/Cloneable" (some 0) with
  accessFlags := 1537
  interfaces := #[]
  cf := some (fileOf pool6 1 #[] #[] 1537 3 #[] #[])
  fields := #[]
  methods := #[]
  instanceTypes := #[]
  staticTypes := #[]
  resolved := Array.replicate 7 none
  statics := none }

def pool7 : Array CpInfo := pool [(1, u "java/io/Serializable"), (0, .class_ 1), (0, u "java/lang/Object"), (0, .class_ 3)] 3

/-- java/io/Serializable -/
def k7 : Class := { plain "java/io/Serializable" (some 0) with
  accessFlags := 1537
  interfaces := #[]
  cf := some (fileOf pool7 2 #[] #[] 1537 4 #[] #[])
  fields := #[]
  methods := #[]
  instanceTypes := #[]
  staticTypes := #[]
  resolved := Array.replicate 8 none
  statics := none }

/-- the primitive byte -/
def k8 : Class := { plain "byte" none with kind := .primitive 'B', accessFlags := 0x411 }
/-- [B -/
def k9 : Class := { plain "[B" (some 0) with kind := .array 8 .byte, interfaces := #[6, 7], accessFlags := 1041 }

/-- the primitive int -/
def k10 : Class := { plain "int" none with kind := .primitive 'I', accessFlags := 0x411 }
/-- [I -/
def k11 : Class := { plain "[I" (some 0) with kind := .array 10 .int, interfaces := #[6, 7], accessFlags := 1041 }

/-- the primitive long -/
def k12 : Class := { plain "long" none with kind := .primitive 'J', accessFlags := 0x411 }
/-- [J -/
def k13 : Class := { plain "[J" (some 0) with kind := .array 12 .long, interfaces := #[6, 7], accessFlags := 1041 }

/-- [[J -/
def k14 : Class := { plain "[[J" (some 0) with kind := .array 13 (.array .long), interfaces := #[6, 7], accessFlags := 1041 }

def heap : Heap := #[]
def classes : Array Class := #[k0, k1, k2, k3, k4, k5, k6, k7, k8, k9, k10, k11, k12, k13, k14]
def interned : List (Array UInt16 × Addr) := []
def slotsUsed : Nat := 0
def theMethod : MethodId := ⟨1, 1⟩
def args0 : Array Value := #[.int 5, .int 3, .int 7, .int 2, .int 11, .int 3]
def aboutOver (below : List Frame) : State where
  vm := { classes := classes, interned := interned.toArray }
  heap := heap
  slotsUsed := slotsUsed
  threads := #[{ frames := .invoking theMethod args0 :: below }]
def below0 : List Frame := [.native { method := ⟨0, 0⟩, args := #[] }]
def about1 : State := aboutOver below0
def p0 : Program := .bare "" "" ""
def e0 : Env := launch0.env 0 0 0
theorem w_frames : about1.frames = Frame.invoking theMethod args0 :: below0 := rfl
set_option maxRecDepth 65536 in
theorem w_args : argsFit about1.vm theMethod args0 = true := by decide +kernel
set_option maxRecDepth 65536 in
theorem w_heap : heapFits about1 = true := by decide +kernel
set_option maxRecDepth 65536 in
theorem w_runnable : about1.curStatus? = some .runnable := by decide +kernel
set_option maxRecDepth 65536 in
theorem w_alone : about1.alone = true := by decide +kernel
set_option maxRecDepth 65536 in
theorem w_named : about1.methodNamed? x = some theMethod := by decide +kernel
set_option maxRecDepth 65536 in
theorem w_hears : about1.hears theMethod below0 = true := by decide +kernel
set_option maxRecDepth 65536 in
theorem w_ripe : about1.ripe theMethod args0 below0 = true := by decide +kernel
theorem w_running : about1.status = .running := rfl
set_option maxRecDepth 65536 in
theorem w_room : about1.hasRoom e0.platform room_1 = true :=
  launch0.hasRoom_least _ room_1 (by decide +kernel) (by decide +kernel) (by decide +kernel) (by decide +kernel) (by decide +kernel) (by decide +kernel)
theorem allAtoms_all (ts : List Jvm.Cond) (a : Array Jvm.Value) (st : Jvm.State) : (allAtoms ts).before a st = ts.all (fun c => c.before a st) := by
  induction ts with
  | nil => rfl
  | cons c t ih =>
    show (Jvm.Cond.and c (allAtoms t)).before a st = _
    rw [Jvm.Cond.before_and, ih, List.all_cons]
def words1 : List Jvm.Cond := Jvm.Cond.code x code maxLocals ret :: tables_1
/-- a 'code' word, met by the world's own term for the bytes: nothing is compared byte by byte -/
theorem code_word {y : MethodName} {bytes : ByteArray} {mx : Nat} {rt : Option FieldType} {a : Array Value} {s : State} {m : MethodId} {meth : Method} {c : Code} (h1 : s.methodNamed? y = some m) (h2 : s.vm.method? m = some meth) (h3 : meth.code = some c) (h4 : c.code = bytes)
    (h5 : (c.maxLocals == mx && c.exceptionTable.isEmpty && decide (c.maxStack ≤ mostOperands) && decide (meth.sig.returnType = rt) && !meth.locks && decide (parseMethodDescriptor y.desc = some meth.sig)) = true) : (Jvm.Cond.code y bytes mx rt).before a s = true := by
  simp only [Bool.and_eq_true, beq_iff_eq, Bool.not_eq_true', decide_eq_true_eq] at h5
  obtain ⟨⟨⟨⟨⟨g1, g2⟩, g3⟩, g4⟩, g5⟩, g6⟩ := h5
  simp [Cond.before, Cond.holds, Cond.value, h1, h2, h3, h4, g1, g2, g3, g4, g5, g6]
def isCode : Jvm.Cond → Bool
  | .code _ _ _ _ => true
  | _ => false
theorem all_split {L : List Jvm.Cond} {P : Jvm.Cond → Bool} (h1 : L.all (fun c => isCode c || P c) = true) (h2 : ∀ c ∈ L.filter isCode, P c = true) : L.all P = true := by
  refine List.all_eq_true.mpr fun c hc => ?_
  have h := List.all_eq_true.mp h1 c hc
  rcases Bool.eq_false_or_eq_true (isCode c) with hi | hi
  · exact h2 c (List.mem_filter.mpr ⟨hc, hi⟩)
  · simpa [hi] using h
set_option maxRecDepth 65536 in
theorem w_c0 : (Jvm.Cond.code x code maxLocals ret).before args0 about1 = true := code_word (m := ⟨1, 1⟩) (meth := k1m1) (c := k1c1) (by decide +kernel) rfl rfl rfl (by decide +kernel)
set_option maxRecDepth 65536 in
theorem w_c1 : (Jvm.Cond.code ({ cls := "com/example/outrigger/outrigger/OrdinalSetFirstHeldPinLaw", name := "pick", desc := "(IIII)I" } : Jvm.MethodName) method_3_code (4 : Nat) (Option.some Jvm.ClassFile.FieldType.int)).before args0 about1 = true := code_word (m := ⟨1, 2⟩) (meth := k1m2) (c := k1c2) (by decide +kernel) rfl rfl rfl (by decide +kernel)
set_option maxRecDepth 65536 in
theorem w_c2 : (Jvm.Cond.code ({ cls := "com/example/outrigger/outrigger/OrdinalSet", name := "<init>", desc := "()V" } : Jvm.MethodName) prog_118_method_1_code (1 : Nat) (Option.none : Option Jvm.ClassFile.FieldType)).before args0 about1 = true := code_word (m := ⟨2, 0⟩) (meth := k2m0) (c := k2c0) (by decide +kernel) rfl rfl rfl (by decide +kernel)
set_option maxRecDepth 65536 in
theorem w_c3 : (Jvm.Cond.code ({ cls := "java/lang/Object", name := "<init>", desc := "()V" } : Jvm.MethodName) object_method_1_code (1 : Nat) (Option.none : Option Jvm.ClassFile.FieldType)).before args0 about1 = true := code_word (m := ⟨0, 0⟩) (meth := k0m0) (c := k0c0) (by decide +kernel) rfl rfl rfl (by decide +kernel)
set_option maxRecDepth 65536 in
theorem w_c4 : (Jvm.Cond.code ({ cls := "com/example/outrigger/outrigger/OrdinalSet", name := "add", desc := "(I)V" } : Jvm.MethodName) prog_118_method_3_code (8 : Nat) (Option.none : Option Jvm.ClassFile.FieldType)).before args0 about1 = true := code_word (m := ⟨2, 2⟩) (meth := k2m2) (c := k2c2) (by decide +kernel) rfl rfl rfl (by decide +kernel)
set_option maxRecDepth 65536 in
theorem w_c5 : (Jvm.Cond.code ({ cls := "com/example/outrigger/outrigger/OrdinalSet", name := "grow", desc := "(I)V" } : Jvm.MethodName) prog_118_method_10_code (6 : Nat) (Option.none : Option Jvm.ClassFile.FieldType)).before args0 about1 = true := code_word (m := ⟨2, 4⟩) (meth := k2m4) (c := k2c4) (by decide +kernel) rfl rfl rfl (by decide +kernel)
set_option maxRecDepth 65536 in
theorem w_c6 : (Jvm.Cond.code ({ cls := "com/example/outrigger/outrigger/OrdinalSet", name := "contains", desc := "(I)Z" } : Jvm.MethodName) prog_118_method_2_code (4 : Nat) (Option.some Jvm.ClassFile.FieldType.boolean)).before args0 about1 = true := code_word (m := ⟨2, 1⟩) (meth := k2m1) (c := k2c1) (by decide +kernel) rfl rfl rfl (by decide +kernel)
set_option maxRecDepth 65536 in
theorem w_c7 : (Jvm.Cond.code ({ cls := "com/example/outrigger/outrigger/OrdinalSet", name := "firstHeld", desc := "([III)I" } : Jvm.MethodName) prog_118_method_5_code (7 : Nat) (Option.some Jvm.ClassFile.FieldType.int)).before args0 about1 = true := code_word (m := ⟨2, 3⟩) (meth := k2m3) (c := k2c3) (by decide +kernel) rfl rfl rfl (by decide +kernel)
set_option maxRecDepth 65536 in
theorem w_c8 : (Jvm.Cond.code ({ cls := "java/lang/Math", name := "max", desc := "(II)I" } : Jvm.MethodName) jdk_29_method_65_code (2 : Nat) (Option.some Jvm.ClassFile.FieldType.int)).before args0 about1 = true := code_word (m := ⟨3, 1⟩) (meth := k3m1) (c := k3c1) (by decide +kernel) rfl rfl rfl (by decide +kernel)
set_option maxRecDepth 65536 in
theorem w_c9 : (Jvm.Cond.code ({ cls := "java/util/Arrays", name := "copyOf", desc := "([JI)[J" } : Jvm.MethodName) jdk_65_method_124_code (3 : Nat) (Option.some (Jvm.ClassFile.FieldType.array Jvm.ClassFile.FieldType.long))).before args0 about1 = true := code_word (m := ⟨4, 1⟩) (meth := k4m1) (c := k4c1) (by decide +kernel) rfl rfl rfl (by decide +kernel)
set_option maxRecDepth 65536 in
theorem w_c10 : (Jvm.Cond.code ({ cls := "java/lang/Math", name := "min", desc := "(II)I" } : Jvm.MethodName) jdk_29_method_69_code (2 : Nat) (Option.some Jvm.ClassFile.FieldType.int)).before args0 about1 = true := code_word (m := ⟨3, 2⟩) (meth := k3m2) (c := k3c2) (by decide +kernel) rfl rfl rfl (by decide +kernel)
set_option maxRecDepth 65536 in
theorem w_c11 : (Jvm.Cond.code ({ cls := "com/example/outrigger/outrigger/OrdinalSetFirstHeldPinLaw", name := "held", desc := "(IZIZI)Z" } : Jvm.MethodName) method_4_code (5 : Nat) (Option.some Jvm.ClassFile.FieldType.boolean)).before args0 about1 = true := code_word (m := ⟨1, 3⟩) (meth := k1m3) (c := k1c3) (by decide +kernel) rfl rfl rfl (by decide +kernel)
def codes1 : List Jvm.Cond := [Jvm.Cond.code x code maxLocals ret, Jvm.Cond.code ({ cls := "com/example/outrigger/outrigger/OrdinalSetFirstHeldPinLaw", name := "pick", desc := "(IIII)I" } : Jvm.MethodName) method_3_code (4 : Nat) (Option.some Jvm.ClassFile.FieldType.int), Jvm.Cond.code ({ cls := "com/example/outrigger/outrigger/OrdinalSet", name := "<init>", desc := "()V" } : Jvm.MethodName) prog_118_method_1_code (1 : Nat) (Option.none : Option Jvm.ClassFile.FieldType), Jvm.Cond.code ({ cls := "java/lang/Object", name := "<init>", desc := "()V" } : Jvm.MethodName) object_method_1_code (1 : Nat) (Option.none : Option Jvm.ClassFile.FieldType), Jvm.Cond.code ({ cls := "com/example/outrigger/outrigger/OrdinalSet", name := "add", desc := "(I)V" } : Jvm.MethodName) prog_118_method_3_code (8 : Nat) (Option.none : Option Jvm.ClassFile.FieldType), Jvm.Cond.code ({ cls := "com/example/outrigger/outrigger/OrdinalSet", name := "grow", desc := "(I)V" } : Jvm.MethodName) prog_118_method_10_code (6 : Nat) (Option.none : Option Jvm.ClassFile.FieldType), Jvm.Cond.code ({ cls := "com/example/outrigger/outrigger/OrdinalSet", name := "contains", desc := "(I)Z" } : Jvm.MethodName) prog_118_method_2_code (4 : Nat) (Option.some Jvm.ClassFile.FieldType.boolean), Jvm.Cond.code ({ cls := "com/example/outrigger/outrigger/OrdinalSet", name := "firstHeld", desc := "([III)I" } : Jvm.MethodName) prog_118_method_5_code (7 : Nat) (Option.some Jvm.ClassFile.FieldType.int), Jvm.Cond.code ({ cls := "java/lang/Math", name := "max", desc := "(II)I" } : Jvm.MethodName) jdk_29_method_65_code (2 : Nat) (Option.some Jvm.ClassFile.FieldType.int), Jvm.Cond.code ({ cls := "java/util/Arrays", name := "copyOf", desc := "([JI)[J" } : Jvm.MethodName) jdk_65_method_124_code (3 : Nat) (Option.some (Jvm.ClassFile.FieldType.array Jvm.ClassFile.FieldType.long)), Jvm.Cond.code ({ cls := "java/lang/Math", name := "min", desc := "(II)I" } : Jvm.MethodName) jdk_29_method_69_code (2 : Nat) (Option.some Jvm.ClassFile.FieldType.int), Jvm.Cond.code ({ cls := "com/example/outrigger/outrigger/OrdinalSetFirstHeldPinLaw", name := "held", desc := "(IZIZI)Z" } : Jvm.MethodName) method_4_code (5 : Nat) (Option.some Jvm.ClassFile.FieldType.boolean)]
set_option maxRecDepth 65536 in
theorem codes_eq : words1.filter isCode = codes1 := rfl
theorem w_codes : ∀ c ∈ words1.filter isCode, c.before args0 about1 = true := by
  rw [codes_eq]
  intro c hc
  simp only [codes1, List.mem_cons, List.not_mem_nil, or_false] at hc
  rcases hc with rfl | rfl | rfl | rfl | rfl | rfl | rfl | rfl | rfl | rfl | rfl | rfl
  · exact w_c0
  · exact w_c1
  · exact w_c2
  · exact w_c3
  · exact w_c4
  · exact w_c5
  · exact w_c6
  · exact w_c7
  · exact w_c8
  · exact w_c9
  · exact w_c10
  · exact w_c11
set_option maxRecDepth 65536 in
theorem w_t1 : (words1.take 24).all (fun c => isCode c || c.before args0 about1) = true := by decide +kernel
set_option maxRecDepth 65536 in
theorem w_t2 : ((words1.drop 24).take 24).all (fun c => isCode c || c.before args0 about1) = true := by decide +kernel
set_option maxRecDepth 65536 in
theorem w_t3 : ((words1.drop 24).drop 24).all (fun c => isCode c || c.before args0 about1) = true := by decide +kernel
theorem w_tables : (allAtoms (Jvm.Cond.code x code maxLocals ret :: tables_1)).before args0 about1 = true := by
  rw [allAtoms_all]
  show words1.all (fun c => c.before args0 about1) = true
  refine all_split ?_ w_codes
  rw [← List.take_append_drop 24 words1, List.all_append, w_t1, ← List.take_append_drop 24 (words1.drop 24), List.all_append, w_t2, w_t3]
  rfl
set_option maxRecDepth 65536 in
theorem w_case : (Jvm.Cond.and given_1 narrow_1).before args0 about1 = true := by decide +kernel
theorem w_applies : (headSpec (Jvm.Cond.code x code maxLocals ret :: tables_1) room_1).applies x e0.platform about1 = true :=
  (Spec.applies_iff w_frames).mpr ⟨w_running, w_runnable, w_alone, w_named, w_hears, w_ripe, w_room, w_tables⟩
theorem atStart : AtStart classFile x code maxLocals ret World_1 tables_1 room_1 Calls_1 rest_1 Pre_1 launch0 p0 e0 about1 theMethod args0 below0 :=
  ⟨lists_1, trivial, launch0.admits_env _ _ _, launch0.least_env, fairChoices_fair.cas, fairChoices_fair.clock, w_frames, w_args, w_heap, w_applies, trivial, trivial, w_case⟩
end start1
theorem witness_1 : WitnessClaimed_1 := ⟨start1.p0, start1.e0, start1.about1, start1.theMethod, start1.args0, start1.below0, start1.atStart⟩
end Jvm.Pilot.@@N@@
