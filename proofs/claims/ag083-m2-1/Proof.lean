import JvmDerived
import JvmDerived.Pilot.@@N@@Statement
import JvmDerived.Pilot.@@N@@Code
set_option linter.unusedVariables false
set_option linter.unusedSimpArgs false
namespace Jvm.OwnKit
open Sem ClassFile Op Lib Jvm.Stand Jvm.Free Jvm.LawKit Jvm.RoadKit
def k_ushr (x y : Int32) : Int32 := (x.toUInt32 >>> (y &&& 31).toUInt32).toInt32
def k_ushrL (x : Int64) (y : Int32) : Int64 := (x.toUInt64 >>> (y &&& 63).toInt64.toUInt64).toInt64
def k_cmpL (x y : Int64) : Int32 := if x > y then 1 else if x = y then 0 else -1
/-- the state over whose tables the walk stands: the start itself, or (wd: a String constant may have been interned meanwhile) the start with tables grown since -/
def KBase (wd : Bool) (s s' : State) (n : Nat) : Prop := match wd with
  | true => ∃ (vm : Vm) (k : Nat), s' = s.setVm vm ∧ s.Since vm k ∧ k ≤ n
  | false => s' = s
/-- where a run stands: the state T with the heap h; what was written lies at n0 or above; of h0 all is kept but ws -/
def KPos (wd : Bool) (p : Program) (l : Launch) (e : Env) (R : Room) (s : State) (m : MethodId) (args : Array Value) (below : List Frame) (meth : Method) (c : Code) (Z : State) (own : String) (n0 : Nat) (h0 : Heap) (ws : List Addr) (T : State) (h : Heap) (cells slots : Nat) : Prop :=
  ∃ s' locs, Stand p l e R s' m args below meth c T locs cells slots ∧ KBase wd s s' h.size ∧ Z.Warmed39 s'.vm ∧ s'.vm.findClass own = some m.cls ∧ T.heap = h ∧ n0 ≤ h.size ∧ Fr n0 locs ∧ Keep h0 h ws
/-- what stands still in a body's walk -/
def KCx (tbl : List Jvm.Cond) (nm : String) (cod : ByteArray) (ml : Nat) (ret : Option FieldType) (p : Program) (meth : Method) (c : Code) (Z : State) (a0 : Array Value) : Prop :=
  p.tables.exec = Jvm.exec ∧ (∀ d ∈ tbl, d.before a0 Z = true) ∧ c.code = cod ∧ c.maxLocals = ml ∧ meth.sig.returnType = ret ∧ meth.name = nm ∧ meth.locks = false
/-- from this frame the run comes to an end that K speaks of -/
def KGo (p : Program) (e : Env) (below : List Frame) (K : State → Outcome → Prop) (T : State) (m : MethodId) (pc : Nat) (Ls : Array Slot) (st : List Value) : Prop :=
  ∃ s₂ o, Steps p.tables e below (T.setTop (mkF m pc Ls st)) s₂ ∧ s₂.status = .running ∧ Ended s₂ below o ∧ K s₂ o
/-- the frame of an end -/
def KEnde (wd : Bool) (s : State) (o : Outcome) (s₂ : State) (L : List Loc) (kc ks : Nat) : Prop := match wd with
  | true => ReturnedEndW s o s₂ L kc ks
  | false => FrameEnd s o s₂ L kc ks
/-- the end of a body that returns -/
def KEnd (wd : Bool) (s : State) (n0 : Nat) (h0 : Heap) (ws : List Addr) (Q : Option Value → Heap → Prop) (kc ks : Nat) (s₂ : State) (o : Outcome) : Prop :=
  ∃ v L, o = .returned v ∧ (Fr n0 L ∧ Keep h0 s₂.heap ws ∧ Q v s₂.heap) ∧ KEnde wd s o s₂ L kc ks
/-- a body's contract -/
def KCt (wd : Bool) (l : Launch) (y : MethodName) (cod : ByteArray) (ml : Nat) (ret : Option FieldType) (rm : Room) (Z : State) (n0 : Nat) (h0 : Heap) (as : Array Value) (ws : List Addr) (Q : Option Value → Heap → Prop) : Prop :=
  ∀ wsc : List Jvm.Cond, MetFree l y (head1 (Jvm.Cond.code y cod ml ret :: wsc) rm) (fun a U => a = as ∧ Z.Warmed39 U.vm ∧ U.heap = h0) (fun _ _ _ _ _ => True)
    (fun _ U o U' => ∃ v L, o = .returned v ∧ (Fr n0 L ∧ Keep h0 U'.heap ws ∧ Q v U'.heap) ∧ KEnde wd U o U' L rm.cells rm.slots)
section Kit
variable {wd : Bool} {p : Program} {l : Launch} {e : Env} {R : Room} {s : State} {m : MethodId} {args : Array Value} {below : List Frame} {meth : Method} {c : Code} {T : State} {cells slots : Nat} {Z : State} {a0 : Array Value} {h h' h0 : Heap} {n0 : Nat} {ws : List Addr} {K : State → Outcome → Prop}
  {tbl : List Jvm.Cond} {own nm : String} {cod : ByteArray} {ml : Nat} {ret : Option FieldType} {pc : Nat} {Ls : Array Slot} {st : List Value} {a b : Addr}
theorem KCx.exec (C : KCx tbl nm cod ml ret p meth c Z a0) : p.tables.exec = Jvm.exec := C.1
theorem KCx.hw (C : KCx tbl nm cod ml ret p meth c Z a0) : ∀ d ∈ tbl, d.before a0 Z = true := C.2.1
theorem KCx.cdE (C : KCx tbl nm cod ml ret p meth c Z a0) : c.code = cod := C.2.2.1
theorem KCx.mlE (C : KCx tbl nm cod ml ret p meth c Z a0) : c.maxLocals = ml := C.2.2.2.1
theorem KCx.rtE (C : KCx tbl nm cod ml ret p meth c Z a0) : meth.sig.returnType = ret := C.2.2.2.2.1
theorem KCx.nmE (C : KCx tbl nm cod ml ret p meth c Z a0) : meth.name = nm := C.2.2.2.2.2.1
theorem KCx.lk (C : KCx tbl nm cod ml ret p meth c Z a0) : meth.locks = false := C.2.2.2.2.2.2
theorem KCx.w (C : KCx tbl nm cod ml ret p meth c Z a0) (i : Nat) {d : Jvm.Cond} (q : tbl[i]? = some d) : d.before a0 Z = true := C.hw d (List.mem_of_getElem? q)
theorem KBase.mono {s' : State} {n n' : Nat} (B : KBase wd s s' n) (h : n ≤ n') : KBase wd s s' n' := by
  cases wd
  · exact B
  · obtain ⟨vm, k, h1, h2, h3⟩ := B; exact ⟨vm, k, h1, h2, Nat.le_trans h3 h⟩
theorem KPos.here (P : KPos wd p l e R s m args below meth c Z own n0 h0 ws T h cells slots) : At T m c below := by obtain ⟨_, _, X, -⟩ := P; exact X.here
theorem KPos.more (P : KPos wd p l e R s m args below meth c Z own n0 h0 ws T h cells slots) {cells' slots' : Nat} (hc : cells ≤ cells') (hs : slots ≤ slots') : KPos wd p l e R s m args below meth c Z own n0 h0 ws T h cells' slots' := by
  obtain ⟨s', L, X, r⟩ := P; exact ⟨s', L, X.more hc hs, r⟩
theorem KPos.size (P : KPos wd p l e R s m args below meth c Z own n0 h0 ws T h cells slots) : n0 ≤ h.size := by obtain ⟨_, _, _, _, _, _, _, r, -⟩ := P; exact r
theorem KPos.kept (P : KPos wd p l e R s m args below meth c Z own n0 h0 ws T h cells slots) : Keep h0 h ws := by obtain ⟨_, _, _, _, _, _, _, _, _, r⟩ := P; exact r
theorem KGo.step {T' : State} {pc' : Nat} {Ls' : Array Slot} {st' : List Value} (k : KGo p e below K T' m pc' Ls' st') (q : ∀ t, Steps p.tables e below (T'.setTop (mkF m pc' Ls' st')) t → Steps p.tables e below (T.setTop (mkF m pc Ls st)) t) : KGo p e below K T m pc Ls st := by
  obtain ⟨x, y, u, r⟩ := k; exact ⟨x, y, q _ u, r⟩
theorem KGo.cast {Ls' : Array Slot} {st' : List Value} (k : KGo p e below K T m pc Ls' st') (q : Ls' = Ls) (r : st' = st) : KGo p e below K T m pc Ls st := by subst q r; exact k
/-- a body is entered -/
theorem k_enter {y : MethodName} {rm : Room} {as : Array Value} {Q : Option Value → Heap → Prop} (hp : plainFor y = true) (hw : ∀ d ∈ tbl, d.before a0 Z = true) (hn : n0 ≤ h0.size) (hef : ∀ m, entryFrame m as ml = mkF m 0 Ls [])
    (body : ∀ p e s m below meth c T, KCx tbl y.name cod ml ret p meth c Z a0 → KPos wd p l e rm s m as below meth c Z y.cls n0 h0 ws T h0 0 0 → KGo p e below (KEnd wd s n0 h0 ws Q rm.cells rm.slots) T m 0 Ls []) : KCt wd l y cod ml ret rm Z n0 h0 as ws Q := by
  intro wsc
  refine MetFree.of_bodySF hp hisR ?_
  intro p e s m args below meth c s₁ Bd hml0 hP hK
  obtain ⟨rfl, hZ, hh⟩ := hP
  have B : KBase wd s s h0.size := by
    cases wd
    · rfl
    · exact ⟨s.vm, 0, rfl, State.WarmedH.since (State.WarmedH.refl s) 0, Nat.zero_le _⟩
  have g := body p e s m below meth c s₁ ⟨Bd.exec, hw, Bd.bytes, hml0, Bd.returns, (name_of_methodNamed Bd.named Bd.method).1, Bd.notSynchronized⟩ ⟨s, [], Stand.of_body Bd, B, hZ, findClass_of_methodNamed Bd.named, by rw [← hh, Bd.state]; rfl, hn, Fr.nil _, Keep.refl _ _⟩
  obtain ⟨s₂, o, g1, g2, g3, v, L, g4, g5, g6⟩ := g
  exact ⟨s₂, o, castTop (hef m) g1, g2, g3, v, L, g4, g5, g6⟩
theorem KCt.plain {y : MethodName} {rm : Room} {as : Array Value} {Q : Option Value → Heap → Prop} (k : KCt false l y cod ml ret rm Z n0 h0 as ws Q) : MetFree l y (head1 [Jvm.Cond.code y cod ml ret] rm) (fun a U => a = as ∧ Z.Warmed39 U.vm ∧ U.heap = h0) (fun _ _ _ _ _ => True)
    (fun _ U o U' => ∃ v L, o = .returned v ∧ (Fr n0 L ∧ Keep h0 U'.heap ws ∧ Q v U'.heap) ∧ FrameEnd U o U' L rm.cells rm.slots) := k []
/-- a contract said more weakly -/
theorem KCt.imp {y : MethodName} {rm : Room} {as : Array Value} {Q Q' : Option Value → Heap → Prop} (k : KCt wd l y cod ml ret rm Z n0 h0 as ws Q) (q : ∀ v h, Q v h → Q' v h) : KCt wd l y cod ml ret rm Z n0 h0 as ws Q' := by
  intro wsc p e h1 h2 h3 s m args below h4 h5 h6 h7
  obtain ⟨n, o, g1, g2, g3, v, L, g4, ⟨g5, g6, g7⟩, g8⟩ := k wsc p e h1 h2 h3 s m args below h4 h5 h6 h7
  exact ⟨n, o, g1, g2, g3, v, L, g4, ⟨g5, g6, q _ _ g7⟩, g8⟩
/-! ### returns -/
theorem k_retVal {Q : Option Value → Heap → Prop} {kc ks : Nat} {v : Option Value} (C : KCx tbl nm cod ml ret p meth c Z a0) (P : KPos wd p l e R s m args below meth c Z own n0 h0 ws T h cells slots) (hv : ret = none → v = none) (hc : cells ≤ kc) (hs : slots ≤ ks) (hQ : Q v h)
    (q : ∀ fs, (∀ (f : JFrame) (acts : List Action), f.method = m → f.locked = none → f.entered = [] → (doReturn e (T.setTop f) acts v).1 = T.setFrames fs) → Steps p.tables e below (T.setTop (mkF m pc Ls st)) (T.setFrames fs)) : KGo p e below (KEnd wd s n0 h0 ws Q kc ks) T m pc Ls st := by
  obtain ⟨s', L, X, B, hZ, hown, eT, hn, hF, hk⟩ := P
  have hl : meth.locks = false := C.lk
  have X2 := X.more hc hs
  cases wd
  · cases B
    obtain ⟨fs, hr, hrun, hended, hW, hsame⟩ := X2.leave (v := v) (fun q => hv (C.rtE.symm.trans q)) hl
    exact ⟨_, _, q fs hr, hrun, hended, v, L, rfl, ⟨hF, by show Keep h0 T.heap ws; rw [eT]; exact hk, by show Q v T.heap; rw [eT]; exact hQ⟩, ⟨_, rfl⟩, hW, hsame⟩
  · obtain ⟨vm, k, rfl, hS, hk0⟩ := B
    obtain ⟨fs, hr, hrun, hended, hW⟩ := X2.leaveW hS (by rw [eT]; exact hk0) (v := v) (fun q => hv (C.rtE.symm.trans q)) hl
    exact ⟨_, _, q fs hr, hrun, hended, v, L, rfl, ⟨hF, by show Keep h0 T.heap ws; rw [eT]; exact hk, by show Q v T.heap; rw [eT]; exact hQ⟩, hW⟩
theorem k_retV {Q : Option Value → Heap → Prop} {kc ks : Nat} (C : KCx tbl nm cod ml none p meth c Z a0) (P : KPos wd p l e R s m args below meth c Z own n0 h0 ws T h cells slots) (hd : decode cod pc = .ok (.return_, 1)) (hc : cells ≤ kc) (hs : slots ≤ ks) (hQ : Q none h) : KGo p e below (KEnd wd s n0 h0 ws Q kc ks) T m pc Ls [] :=
  k_retVal C P (fun _ => rfl) hc hs hQ fun fs hr => by obtain ⟨s', L, X, -⟩ := P; exact X.returnOut C.1 C.rtE (hb C.cdE hd) hr
theorem k_retI {Q : Option Value → Heap → Prop} {kc ks : Nat} {z : Int32} (C : KCx tbl nm cod ml (some .int) p meth c Z a0) (P : KPos wd p l e R s m args below meth c Z own n0 h0 ws T h cells slots) (hd : decode cod pc = .ok (.ireturn, 1)) (hc : cells ≤ kc) (hs : slots ≤ ks) (hQ : Q (some (.int z)) h) : KGo p e below (KEnd wd s n0 h0 ws Q kc ks) T m pc Ls (.int z :: st) :=
  k_retVal C P (fun q => nomatch q) hc hs hQ fun fs hr => by
    obtain ⟨s', L, X, -⟩ := P
    exact retOut X C.1 C.rtE (rfl : narrow .int (.int z) = .int z) (Or.inl ⟨rfl, Or.inl rfl, _, rfl⟩) (hb C.cdE hd) hr
theorem k_retZ {Q : Option Value → Heap → Prop} {kc ks : Nat} {z z' : Int32} {t : FieldType} (C : KCx tbl nm cod ml (some t) p meth c Z a0) (P : KPos wd p l e R s m args below meth c Z own n0 h0 ws T h cells slots) (ht : t = .boolean ∨ t = .byte ∨ t = .char ∨ t = .short) (hd : decode cod pc = .ok (.ireturn, 1)) (hz : nar t z = z') (hc : cells ≤ kc) (hs : slots ≤ ks) (hQ : Q (some (.int z')) h) : KGo p e below (KEnd wd s n0 h0 ws Q kc ks) T m pc Ls (.int z :: st) :=
  k_retVal C P (fun q => nomatch q) hc hs hQ fun fs hr => by
    subst hz
    obtain ⟨s', L, X, -⟩ := P
    exact retN X C.1 C.rtE ht (hb C.cdE hd) hr
theorem k_retJ {Q : Option Value → Heap → Prop} {kc ks : Nat} {z : Int64} (C : KCx tbl nm cod ml (some .long) p meth c Z a0) (P : KPos wd p l e R s m args below meth c Z own n0 h0 ws T h cells slots) (hd : decode cod pc = .ok (.lreturn, 1)) (hc : cells ≤ kc) (hs : slots ≤ ks) (hQ : Q (some (.long z)) h) : KGo p e below (KEnd wd s n0 h0 ws Q kc ks) T m pc Ls (.long z :: st) :=
  k_retVal C P (fun q => nomatch q) hc hs hQ fun fs hr => by
    obtain ⟨s', L, X, -⟩ := P
    exact retOut X C.1 C.rtE (rfl : narrow .long (.long z) = .long z) (Or.inr (Or.inl ⟨rfl, rfl, _, rfl⟩)) (hb C.cdE hd) hr
theorem k_retD {Q : Option Value → Heap → Prop} {kc ks : Nat} {z : UInt64} (C : KCx tbl nm cod ml (some .double) p meth c Z a0) (P : KPos wd p l e R s m args below meth c Z own n0 h0 ws T h cells slots) (hd : decode cod pc = .ok (.dreturn, 1)) (hc : cells ≤ kc) (hs : slots ≤ ks) (hQ : Q (some (.double z)) h) : KGo p e below (KEnd wd s n0 h0 ws Q kc ks) T m pc Ls (.double z :: st) :=
  k_retVal C P (fun q => nomatch q) hc hs hQ fun fs hr => by
    obtain ⟨s', L, X, -⟩ := P
    exact retOut X C.1 C.rtE (rfl : narrow .double (.double z) = .double z) (Or.inr (Or.inr (Or.inl ⟨rfl, rfl, _, rfl⟩))) (hb C.cdE hd) hr
theorem k_narrow_ref {t : FieldType} {v : Value} (hv : v.isRef = true) : narrow t v = v := by rcases ref_cases hv with rfl | ⟨x, rfl⟩ <;> cases t <;> rfl
theorem k_retA {Q : Option Value → Heap → Prop} {kc ks : Nat} {v : Value} {t : FieldType} (C : KCx tbl nm cod ml (some t) p meth c Z a0) (P : KPos wd p l e R s m args below meth c Z own n0 h0 ws T h cells slots) (hd : decode cod pc = .ok (.areturn, 1)) (ht : t.isReference = true) (hv : v.isRef = true) (hc : cells ≤ kc) (hs : slots ≤ ks) (hQ : Q (some v) h) : KGo p e below (KEnd wd s n0 h0 ws Q kc ks) T m pc Ls (v :: st) :=
  k_retVal C P (fun q => nomatch q) hc hs hQ fun fs hr => by
    obtain ⟨s', L, X, -⟩ := P
    exact retOut X C.1 C.rtE (k_narrow_ref hv) (Or.inr (Or.inr (Or.inr (Or.inr ⟨rfl, ht, hv⟩)))) (hb C.cdE hd) hr
theorem k_10 : ¬ (1 : Int32) = 0 := by decide
theorem k_01 : (0 : Int32) = 0 := rfl
/-! ### branches -/
def CondP (cd : ClassFile.Cond) (x y : Int32) : Prop := match cd with | .eq => x = y | .ne => ¬ x = y | .lt => x < y | .ge => ¬ x < y | .gt => y < x | .le => ¬ y < x
def CondN (cd : ClassFile.Cond) (x y : Int32) : Prop := match cd with | .eq => ¬ x = y | .ne => x = y | .lt => ¬ x < y | .ge => x < y | .gt => ¬ y < x | .le => y < x
theorem k_condP {cd : ClassFile.Cond} {x y : Int32} (h : CondP cd x y) : if_icmp.holds cd x y = true := by
  cases cd <;> first | exact (teq h).1 | exact (feq h).2 | exact (tlt h).1 | exact (flt h).2.1 | exact (tlt h).2.2.1 | exact (flt h).2.2.2
theorem k_condN {cd : ClassFile.Cond} {x y : Int32} (h : CondN cd x y) : if_icmp.holds cd x y = false := by
  cases cd <;> first | exact (feq h).1 | exact (teq h).2 | exact (flt h).1 | exact (tlt h).2.1 | exact (flt h).2.2.1 | exact (tlt h).2.2.2
theorem k_condT {cd : ClassFile.Cond} (x y : Int32) : CondP cd x y ∨ CondN cd x y := by
  cases cd <;> simp only [CondP, CondN] <;> first | exact Classical.em _ | exact (Classical.em _).symm
theorem k_ifY {cd : ClassFile.Cond} {x : Int32} {o : Int} (C : KCx tbl nm cod ml ret p meth c Z a0) (P : KPos wd p l e R s m args below meth c Z own n0 h0 ws T h cells slots) (hd : decode cod pc = .ok (.ifCond cd o, 3)) (hc : CondP cd x 0) (ho : 0 ≤ (pc : Int) + o) {pc' : Nat} (hp : ((pc : Int) + o).toNat = pc') (k : KGo p e below K T m pc' Ls st) : KGo p e below K T m pc Ls (.int x :: st) :=
  k.step fun t q => XS.ifYes P.here C.1 rfl rfl (hb C.cdE hd) rfl ((if0 _ _).trans (k_condP hc)) ho hp q
theorem k_ifN {cd : ClassFile.Cond} {x : Int32} {o : Int} (C : KCx tbl nm cod ml ret p meth c Z a0) (P : KPos wd p l e R s m args below meth c Z own n0 h0 ws T h cells slots) (hd : decode cod pc = .ok (.ifCond cd o, 3)) (hc : CondN cd x 0) {pc' : Nat} (hp : pc + 3 = pc') (k : KGo p e below K T m pc' Ls st) : KGo p e below K T m pc Ls (.int x :: st) := by
  subst hp; exact k.step fun t q => XS.ifNo P.here C.1 rfl (hb C.cdE hd) rfl ((if0 _ _).trans (k_condN hc)) q
theorem k_ifB {cd : ClassFile.Cond} {x : Int32} {o : Int} (C : KCx tbl nm cod ml ret p meth c Z a0) (P : KPos wd p l e R s m args below meth c Z own n0 h0 ws T h cells slots) (hd : decode cod pc = .ok (.ifCond cd o, 3)) (ho : 0 ≤ (pc : Int) + o) {pcY pcN : Nat} (hp : ((pc : Int) + o).toNat = pcY) (hp' : pc + 3 = pcN) (kY : CondP cd x 0 → KGo p e below K T m pcY Ls st) (kN : CondN cd x 0 → KGo p e below K T m pcN Ls st) : KGo p e below K T m pc Ls (.int x :: st) :=
  (k_condT x 0).elim (fun q => k_ifY C P hd q ho hp (kY q)) (fun q => k_ifN C P hd q hp' (kN q))
theorem k_icY {cd : ClassFile.Cond} {x y : Int32} {o : Int} (C : KCx tbl nm cod ml ret p meth c Z a0) (P : KPos wd p l e R s m args below meth c Z own n0 h0 ws T h cells slots) (hd : decode cod pc = .ok (.if_icmp cd o, 3)) (hc : CondP cd x y) (ho : 0 ≤ (pc : Int) + o) {pc' : Nat} (hp : ((pc : Int) + o).toNat = pc') (k : KGo p e below K T m pc' Ls st) : KGo p e below K T m pc Ls (.int y :: .int x :: st) :=
  k.step fun t q => XS.icmpYes P.here C.1 rfl rfl (hb C.cdE hd) rfl (k_condP hc) ho hp q
theorem k_icN {cd : ClassFile.Cond} {x y : Int32} {o : Int} (C : KCx tbl nm cod ml ret p meth c Z a0) (P : KPos wd p l e R s m args below meth c Z own n0 h0 ws T h cells slots) (hd : decode cod pc = .ok (.if_icmp cd o, 3)) (hc : CondN cd x y) {pc' : Nat} (hp : pc + 3 = pc') (k : KGo p e below K T m pc' Ls st) : KGo p e below K T m pc Ls (.int y :: .int x :: st) := by
  subst hp; exact k.step fun t q => XS.icmpNo P.here C.1 rfl (hb C.cdE hd) rfl (k_condN hc) q
theorem k_icB {cd : ClassFile.Cond} {x y : Int32} {o : Int} (C : KCx tbl nm cod ml ret p meth c Z a0) (P : KPos wd p l e R s m args below meth c Z own n0 h0 ws T h cells slots) (hd : decode cod pc = .ok (.if_icmp cd o, 3)) (ho : 0 ≤ (pc : Int) + o) {pcY pcN : Nat} (hp : ((pc : Int) + o).toNat = pcY) (hp' : pc + 3 = pcN) (kY : CondP cd x y → KGo p e below K T m pcY Ls st) (kN : CondN cd x y → KGo p e below K T m pcN Ls st) : KGo p e below K T m pc Ls (.int y :: .int x :: st) :=
  (k_condT x y).elim (fun q => k_icY C P hd q ho hp (kY q)) (fun q => k_icN C P hd q hp' (kN q))
theorem k_goto {o : Int} (C : KCx tbl nm cod ml ret p meth c Z a0) (P : KPos wd p l e R s m args below meth c Z own n0 h0 ws T h cells slots) (hd : decode cod pc = .ok (.goto o, 3)) (ho : 0 ≤ (pc : Int) + o) {pc' : Nat} (hp : ((pc : Int) + o).toNat = pc') (k : KGo p e below K T m pc' Ls st) : KGo p e below K T m pc Ls st :=
  k.step fun t q => XS.goto P.here C.1 rfl rfl (hb C.cdE hd) ho hp q
theorem k_nullY {o : Int} (C : KCx tbl nm cod ml ret p meth c Z a0) (P : KPos wd p l e R s m args below meth c Z own n0 h0 ws T h cells slots) (hd : decode cod pc = .ok (.ifnull o, 3)) (ho : 0 ≤ (pc : Int) + o) {pc' : Nat} (hp : ((pc : Int) + o).toNat = pc') (k : KGo p e below K T m pc' Ls st) : KGo p e below K T m pc Ls (.null :: st) :=
  k.step fun t q => XS.ifnullYes P.here C.1 rfl rfl (hb C.cdE hd) rfl ho hp q
theorem k_nullN {o : Int} (C : KCx tbl nm cod ml ret p meth c Z a0) (P : KPos wd p l e R s m args below meth c Z own n0 h0 ws T h cells slots) (hd : decode cod pc = .ok (.ifnull o, 3)) {pc' : Nat} (hp : pc + 3 = pc') (k : KGo p e below K T m pc' Ls st) : KGo p e below K T m pc Ls (.ref a :: st) := by
  subst hp; exact k.step fun t q => XS.ifnullNo P.here C.1 rfl (hb C.cdE hd) rfl q
theorem k_nonnullY {o : Int} (C : KCx tbl nm cod ml ret p meth c Z a0) (P : KPos wd p l e R s m args below meth c Z own n0 h0 ws T h cells slots) (hd : decode cod pc = .ok (.ifnonnull o, 3)) (ho : 0 ≤ (pc : Int) + o) {pc' : Nat} (hp : ((pc : Int) + o).toNat = pc') (k : KGo p e below K T m pc' Ls st) : KGo p e below K T m pc Ls (.ref a :: st) :=
  k.step fun t q => XS.ifnonnullYes P.here C.1 rfl rfl (hb C.cdE hd) rfl ho hp q
theorem k_nonnullN {o : Int} (C : KCx tbl nm cod ml ret p meth c Z a0) (P : KPos wd p l e R s m args below meth c Z own n0 h0 ws T h cells slots) (hd : decode cod pc = .ok (.ifnonnull o, 3)) {pc' : Nat} (hp : pc + 3 = pc') (k : KGo p e below K T m pc' Ls st) : KGo p e below K T m pc Ls (.null :: st) := by
  subst hp; exact k.step fun t q => XS.ifnonnullNo P.here C.1 rfl (hb C.cdE hd) rfl q
theorem k_acB {cd : ClassFile.ACond} {x y : Value} {o : Int} (C : KCx tbl nm cod ml ret p meth c Z a0) (P : KPos wd p l e R s m args below meth c Z own n0 h0 ws T h cells slots) (hd : decode cod pc = .ok (.if_acmp cd o, 3)) (hx : x.isRef = true) (hy : y.isRef = true) (ho : 0 ≤ (pc : Int) + o) {pcY pcN : Nat} (hp : ((pc : Int) + o).toNat = pcY) (hp' : pc + 3 = pcN)
    (kY : XT.acmp cd x y = true → KGo p e below K T m pcY Ls st) (kN : XT.acmp cd x y = false → KGo p e below K T m pcN Ls st) : KGo p e below K T m pc Ls (y :: x :: st) := by
  cases q : XT.acmp cd x y
  · subst hp'; exact (kN q).step fun t r => XT.acmpNo P.here C.1 rfl (hb C.cdE hd) rfl hx hy q r
  · exact (kY q).step fun t r => XT.acmpYes P.here C.1 rfl rfl (hb C.cdE hd) rfl hx hy q ho hp r
/-- a condition laid on the stack as 1 or 0: if.., iconst, k_goto, iconst -/
theorem k_ternIf {cd : ClassFile.Cond} {x : Int32} {o : Int} {i j : Int} {vN vY : Int32} {Pp : Prop} [Decidable Pp] (C : KCx tbl nm cod ml ret p meth c Z a0) (P : KPos wd p l e R s m args below meth c Z own n0 h0 ws T h cells slots)
    (hd : decode cod pc = .ok (.ifCond cd o, 3)) {p1 p2 p3 p4 : Nat} (d1 : decode cod p1 = .ok (.iconst i, 1)) (d2 : decode cod p2 = .ok (.goto 4, 3)) (d3 : decode cod p3 = .ok (.iconst j, 1)) (q1 : pc + 3 = p1) (q2 : p1 + 1 = p2) (q3 : ((pc : Int) + o).toNat = p3) (q0 : 0 ≤ (pc : Int) + o) (q4 : p3 + 1 = p4) (q5 : p2 + 4 = p4)
    (hi : Int32.ofInt i = vN) (hj : Int32.ofInt j = vY) (hY : CondP cd x 0 → Pp) (hN : CondN cd x 0 → ¬ Pp) (k : KGo p e below K T m p4 Ls (.int (if Pp then vY else vN) :: st)) : KGo p e below K T m pc Ls (.int x :: st) := by
  refine k_ifB C P hd q0 q3 q1 (fun q => ?_) (fun q => ?_)
  · rw [if_pos (hY q)] at k
    subst q4 hj; exact k.step fun t r => XS.iconst P.here C.1 rfl (hb C.cdE d3) r
  · rw [if_neg (hN q)] at k
    subst hi q2
    have k2 : KGo p e below K T m (p1 + 1) Ls (.int (Int32.ofInt i) :: st) := k_goto C P d2 (by omega) (by omega) k
    exact k2.step fun t r => XS.iconst P.here C.1 rfl (hb C.cdE d1) r
theorem k_ternIc {cd : ClassFile.Cond} {x y : Int32} {o : Int} {i j : Int} {vN vY : Int32} {Pp : Prop} [Decidable Pp] (C : KCx tbl nm cod ml ret p meth c Z a0) (P : KPos wd p l e R s m args below meth c Z own n0 h0 ws T h cells slots)
    (hd : decode cod pc = .ok (.if_icmp cd o, 3)) {p1 p2 p3 p4 : Nat} (d1 : decode cod p1 = .ok (.iconst i, 1)) (d2 : decode cod p2 = .ok (.goto 4, 3)) (d3 : decode cod p3 = .ok (.iconst j, 1)) (q1 : pc + 3 = p1) (q2 : p1 + 1 = p2) (q3 : ((pc : Int) + o).toNat = p3) (q0 : 0 ≤ (pc : Int) + o) (q4 : p3 + 1 = p4) (q5 : p2 + 4 = p4)
    (hi : Int32.ofInt i = vN) (hj : Int32.ofInt j = vY) (hY : CondP cd x y → Pp) (hN : CondN cd x y → ¬ Pp) (k : KGo p e below K T m p4 Ls (.int (if Pp then vY else vN) :: st)) : KGo p e below K T m pc Ls (.int y :: .int x :: st) := by
  refine k_icB C P hd q0 q3 q1 (fun q => ?_) (fun q => ?_)
  · rw [if_pos (hY q)] at k
    subst q4 hj; exact k.step fun t r => XS.iconst P.here C.1 rfl (hb C.cdE d3) r
  · rw [if_neg (hN q)] at k
    subst hi q2
    have k2 : KGo p e below K T m (p1 + 1) Ls (.int (Int32.ofInt i) :: st) := k_goto C P d2 (by omega) (by omega) k
    exact k2.step fun t r => XS.iconst P.here C.1 rfl (hb C.cdE d1) r
theorem k_iload (C : KCx tbl nm cod ml ret p meth c Z a0) (P : KPos wd p l e R s m args below meth c Z own n0 h0 ws T h cells slots) {k : Nat} {v : Int32} (hd : decode cod pc = .ok (.iload k, 2)) (hl : Ls[k]? = some (.val (.int v))) {pc' : Nat} (hp : pc + 2 = pc') (k' : KGo p e below K T m pc' Ls (.int v :: st)) : KGo p e below K T m pc Ls (st) := by
  subst hp; exact k'.step fun t q => XS.iload P.here C.1 rfl (hb C.cdE hd) hl q
theorem k_iloadN (C : KCx tbl nm cod ml ret p meth c Z a0) (P : KPos wd p l e R s m args below meth c Z own n0 h0 ws T h cells slots) {k : Fin 4} {v : Int32} (hd : decode cod pc = .ok (.iload_n k, 1)) (hl : Ls[k.val]? = some (.val (.int v))) {pc' : Nat} (hp : pc + 1 = pc') (k' : KGo p e below K T m pc' Ls (.int v :: st)) : KGo p e below K T m pc Ls (st) := by
  subst hp; exact k'.step fun t q => XS.iloadN P.here C.1 rfl (hb C.cdE hd) hl q
theorem k_istore (C : KCx tbl nm cod ml ret p meth c Z a0) (P : KPos wd p l e R s m args below meth c Z own n0 h0 ws T h cells slots) {k : Nat} {x : Int32} {l' : Array Slot} (hd : decode cod pc = .ok (.istore k, 2)) (hl : storeLocals Ls k (.int x) = some l') {pc' : Nat} (hp : pc + 2 = pc') (k' : KGo p e below K T m pc' l' (st)) : KGo p e below K T m pc Ls (.int x :: st) := by
  subst hp; exact k'.step fun t q => XS.istore P.here C.1 rfl (hb C.cdE hd) rfl hl q
theorem k_istoreN (C : KCx tbl nm cod ml ret p meth c Z a0) (P : KPos wd p l e R s m args below meth c Z own n0 h0 ws T h cells slots) {k : Fin 4} {x : Int32} {l' : Array Slot} (hd : decode cod pc = .ok (.istore_n k, 1)) (hl : storeLocals Ls k.val (.int x) = some l') {pc' : Nat} (hp : pc + 1 = pc') (k' : KGo p e below K T m pc' l' (st)) : KGo p e below K T m pc Ls (.int x :: st) := by
  subst hp; exact k'.step fun t q => XS.istoreN P.here C.1 rfl (hb C.cdE hd) rfl hl q
theorem k_lload (C : KCx tbl nm cod ml ret p meth c Z a0) (P : KPos wd p l e R s m args below meth c Z own n0 h0 ws T h cells slots) {k : Nat} {v : Int64} (hd : decode cod pc = .ok (.lload k, 2)) (hl : Ls[k]? = some (.val (.long v))) {pc' : Nat} (hp : pc + 2 = pc') (k' : KGo p e below K T m pc' Ls (.long v :: st)) : KGo p e below K T m pc Ls (st) := by
  subst hp; exact k'.step fun t q => XS.lload P.here C.1 rfl (hb C.cdE hd) hl q
theorem k_lloadN (C : KCx tbl nm cod ml ret p meth c Z a0) (P : KPos wd p l e R s m args below meth c Z own n0 h0 ws T h cells slots) {k : Fin 4} {v : Int64} (hd : decode cod pc = .ok (.lload_n k, 1)) (hl : Ls[k.val]? = some (.val (.long v))) {pc' : Nat} (hp : pc + 1 = pc') (k' : KGo p e below K T m pc' Ls (.long v :: st)) : KGo p e below K T m pc Ls (st) := by
  subst hp; exact k'.step fun t q => XS.lloadN P.here C.1 rfl (hb C.cdE hd) hl q
theorem k_lstore (C : KCx tbl nm cod ml ret p meth c Z a0) (P : KPos wd p l e R s m args below meth c Z own n0 h0 ws T h cells slots) {k : Nat} {x : Int64} {l' : Array Slot} (hd : decode cod pc = .ok (.lstore k, 2)) (hl : storeLocals Ls k (.long x) = some l') {pc' : Nat} (hp : pc + 2 = pc') (k' : KGo p e below K T m pc' l' (st)) : KGo p e below K T m pc Ls (.long x :: st) := by
  subst hp; exact k'.step fun t q => XS.lstore P.here C.1 rfl (hb C.cdE hd) rfl hl q
theorem k_lstoreN (C : KCx tbl nm cod ml ret p meth c Z a0) (P : KPos wd p l e R s m args below meth c Z own n0 h0 ws T h cells slots) {k : Fin 4} {x : Int64} {l' : Array Slot} (hd : decode cod pc = .ok (.lstore_n k, 1)) (hl : storeLocals Ls k.val (.long x) = some l') {pc' : Nat} (hp : pc + 1 = pc') (k' : KGo p e below K T m pc' l' (st)) : KGo p e below K T m pc Ls (.long x :: st) := by
  subst hp; exact k'.step fun t q => XS.lstoreN P.here C.1 rfl (hb C.cdE hd) rfl hl q
theorem k_aload (C : KCx tbl nm cod ml ret p meth c Z a0) (P : KPos wd p l e R s m args below meth c Z own n0 h0 ws T h cells slots) {k : Nat} {v : Value} (hd : decode cod pc = .ok (.aload k, 2)) (hl : Ls[k]? = some (.val v)) (hv : v.isRef = true) {pc' : Nat} (hp : pc + 2 = pc') (k' : KGo p e below K T m pc' Ls (v :: st)) : KGo p e below K T m pc Ls (st) := by
  subst hp; exact k'.step fun t q => XS.aload P.here C.1 rfl (hb C.cdE hd) hl hv q
theorem k_aloadN (C : KCx tbl nm cod ml ret p meth c Z a0) (P : KPos wd p l e R s m args below meth c Z own n0 h0 ws T h cells slots) {k : Fin 4} {v : Value} (hd : decode cod pc = .ok (.aload_n k, 1)) (hl : Ls[k.val]? = some (.val v)) (hv : v.isRef = true) {pc' : Nat} (hp : pc + 1 = pc') (k' : KGo p e below K T m pc' Ls (v :: st)) : KGo p e below K T m pc Ls (st) := by
  subst hp; exact k'.step fun t q => XS.aloadN P.here C.1 rfl (hb C.cdE hd) hl hv q
theorem k_astore (C : KCx tbl nm cod ml ret p meth c Z a0) (P : KPos wd p l e R s m args below meth c Z own n0 h0 ws T h cells slots) {k : Nat} {x : Value} {l' : Array Slot} (hd : decode cod pc = .ok (.astore k, 2)) (hv : x.isRef = true) (hl : storeLocals Ls k x = some l') {pc' : Nat} (hp : pc + 2 = pc') (k' : KGo p e below K T m pc' l' (st)) : KGo p e below K T m pc Ls (x :: st) := by
  subst hp; exact k'.step fun t q => XS.astore P.here C.1 rfl (hb C.cdE hd) rfl hv hl q
theorem k_astoreN (C : KCx tbl nm cod ml ret p meth c Z a0) (P : KPos wd p l e R s m args below meth c Z own n0 h0 ws T h cells slots) {k : Fin 4} {x : Value} {l' : Array Slot} (hd : decode cod pc = .ok (.astore_n k, 1)) (hv : x.isRef = true) (hl : storeLocals Ls k.val x = some l') {pc' : Nat} (hp : pc + 1 = pc') (k' : KGo p e below K T m pc' l' (st)) : KGo p e below K T m pc Ls (x :: st) := by
  subst hp; exact k'.step fun t q => XS.astoreN P.here C.1 rfl (hb C.cdE hd) rfl hv hl q
theorem k_iconst (C : KCx tbl nm cod ml ret p meth c Z a0) (P : KPos wd p l e R s m args below meth c Z own n0 h0 ws T h cells slots) {i : Int} {z : Int32} (hd : decode cod pc = .ok (.iconst i, 1)) (hz : Int32.ofInt i = z) {pc' : Nat} (hp : pc + 1 = pc') (k' : KGo p e below K T m pc' Ls (.int z :: st)) : KGo p e below K T m pc Ls (st) := by
  subst hp; exact k'.step fun t q => XS.iconst P.here C.1 rfl (hb C.cdE hd) (hz ▸ q)
theorem k_bipush (C : KCx tbl nm cod ml ret p meth c Z a0) (P : KPos wd p l e R s m args below meth c Z own n0 h0 ws T h cells slots) {i : Int} {z : Int32} (hd : decode cod pc = .ok (.bipush i, 2)) (hz : (Int8.ofInt i).toInt32 = z) {pc' : Nat} (hp : pc + 2 = pc') (k' : KGo p e below K T m pc' Ls (.int z :: st)) : KGo p e below K T m pc Ls (st) := by
  subst hp; exact k'.step fun t q => XS.bipush P.here C.1 rfl (hb C.cdE hd) (hz ▸ q)
theorem k_sipush (C : KCx tbl nm cod ml ret p meth c Z a0) (P : KPos wd p l e R s m args below meth c Z own n0 h0 ws T h cells slots) {i : Int} {z : Int32} (hd : decode cod pc = .ok (.sipush i, 3)) (hz : (Int16.ofInt i).toInt32 = z) {pc' : Nat} (hp : pc + 3 = pc') (k' : KGo p e below K T m pc' Ls (.int z :: st)) : KGo p e below K T m pc Ls (st) := by
  subst hp; exact k'.step fun t q => XS.sipush P.here C.1 rfl (hb C.cdE hd) (hz ▸ q)
theorem k_lconst (C : KCx tbl nm cod ml ret p meth c Z a0) (P : KPos wd p l e R s m args below meth c Z own n0 h0 ws T h cells slots) {i : Fin 2} {z : Int64} (hd : decode cod pc = .ok (.lconst i, 1)) (hz : Int64.ofNat i = z) {pc' : Nat} (hp : pc + 1 = pc') (k' : KGo p e below K T m pc' Ls (.long z :: st)) : KGo p e below K T m pc Ls (st) := by
  subst hp; exact k'.step fun t q => XS.lconst P.here C.1 rfl (hb C.cdE hd) (hz ▸ q)
theorem k_aconstNull (C : KCx tbl nm cod ml ret p meth c Z a0) (P : KPos wd p l e R s m args below meth c Z own n0 h0 ws T h cells slots)  (hd : decode cod pc = .ok (.aconst_null, 1))  {pc' : Nat} (hp : pc + 1 = pc') (k' : KGo p e below K T m pc' Ls (.null :: st)) : KGo p e below K T m pc Ls (st) := by
  subst hp; exact k'.step fun t q => XS.aconstNull P.here C.1 rfl (hb C.cdE hd) q
theorem k_iadd (C : KCx tbl nm cod ml ret p meth c Z a0) (P : KPos wd p l e R s m args below meth c Z own n0 h0 ws T h cells slots) {x y : Int32} (hd : decode cod pc = .ok (.iadd, 1))  {pc' : Nat} (hp : pc + 1 = pc') (k' : KGo p e below K T m pc' Ls (.int (x + y) :: st)) : KGo p e below K T m pc Ls (.int y :: .int x :: st) := by
  subst hp; exact k'.step fun t q => XS.iadd P.here C.1 rfl (hb C.cdE hd) rfl q
theorem k_isub (C : KCx tbl nm cod ml ret p meth c Z a0) (P : KPos wd p l e R s m args below meth c Z own n0 h0 ws T h cells slots) {x y : Int32} (hd : decode cod pc = .ok (.isub, 1))  {pc' : Nat} (hp : pc + 1 = pc') (k' : KGo p e below K T m pc' Ls (.int (x - y) :: st)) : KGo p e below K T m pc Ls (.int y :: .int x :: st) := by
  subst hp; exact k'.step fun t q => XS.isub P.here C.1 rfl (hb C.cdE hd) rfl q
theorem k_imul (C : KCx tbl nm cod ml ret p meth c Z a0) (P : KPos wd p l e R s m args below meth c Z own n0 h0 ws T h cells slots) {x y : Int32} (hd : decode cod pc = .ok (.imul, 1))  {pc' : Nat} (hp : pc + 1 = pc') (k' : KGo p e below K T m pc' Ls (.int (x * y) :: st)) : KGo p e below K T m pc Ls (.int y :: .int x :: st) := by
  subst hp; exact k'.step fun t q => XS.imul P.here C.1 rfl (hb C.cdE hd) rfl q
theorem k_iand (C : KCx tbl nm cod ml ret p meth c Z a0) (P : KPos wd p l e R s m args below meth c Z own n0 h0 ws T h cells slots) {x y : Int32} (hd : decode cod pc = .ok (.iand, 1))  {pc' : Nat} (hp : pc + 1 = pc') (k' : KGo p e below K T m pc' Ls (.int (x &&& y) :: st)) : KGo p e below K T m pc Ls (.int y :: .int x :: st) := by
  subst hp; exact k'.step fun t q => XS.iand P.here C.1 rfl (hb C.cdE hd) rfl q
theorem k_ior (C : KCx tbl nm cod ml ret p meth c Z a0) (P : KPos wd p l e R s m args below meth c Z own n0 h0 ws T h cells slots) {x y : Int32} (hd : decode cod pc = .ok (.ior, 1))  {pc' : Nat} (hp : pc + 1 = pc') (k' : KGo p e below K T m pc' Ls (.int (x ||| y) :: st)) : KGo p e below K T m pc Ls (.int y :: .int x :: st) := by
  subst hp; exact k'.step fun t q => XS.ior P.here C.1 rfl (hb C.cdE hd) rfl q
theorem k_ixor (C : KCx tbl nm cod ml ret p meth c Z a0) (P : KPos wd p l e R s m args below meth c Z own n0 h0 ws T h cells slots) {x y : Int32} (hd : decode cod pc = .ok (.ixor, 1))  {pc' : Nat} (hp : pc + 1 = pc') (k' : KGo p e below K T m pc' Ls (.int (x ^^^ y) :: st)) : KGo p e below K T m pc Ls (.int y :: .int x :: st) := by
  subst hp; exact k'.step fun t q => XS.ixor P.here C.1 rfl (hb C.cdE hd) rfl q
theorem k_ishl (C : KCx tbl nm cod ml ret p meth c Z a0) (P : KPos wd p l e R s m args below meth c Z own n0 h0 ws T h cells slots) {x y : Int32} (hd : decode cod pc = .ok (.ishl, 1))  {pc' : Nat} (hp : pc + 1 = pc') (k' : KGo p e below K T m pc' Ls (.int (x <<< (y &&& 31)) :: st)) : KGo p e below K T m pc Ls (.int y :: .int x :: st) := by
  subst hp; exact k'.step fun t q => XS.ishl P.here C.1 rfl (hb C.cdE hd) rfl q
theorem k_ishr (C : KCx tbl nm cod ml ret p meth c Z a0) (P : KPos wd p l e R s m args below meth c Z own n0 h0 ws T h cells slots) {x y : Int32} (hd : decode cod pc = .ok (.ishr, 1))  {pc' : Nat} (hp : pc + 1 = pc') (k' : KGo p e below K T m pc' Ls (.int (x >>> (y &&& 31)) :: st)) : KGo p e below K T m pc Ls (.int y :: .int x :: st) := by
  subst hp; exact k'.step fun t q => XS.ishr P.here C.1 rfl (hb C.cdE hd) rfl q
theorem k_iushr (C : KCx tbl nm cod ml ret p meth c Z a0) (P : KPos wd p l e R s m args below meth c Z own n0 h0 ws T h cells slots) {x y : Int32} (hd : decode cod pc = .ok (.iushr, 1))  {pc' : Nat} (hp : pc + 1 = pc') (k' : KGo p e below K T m pc' Ls (.int (k_ushr x y) :: st)) : KGo p e below K T m pc Ls (.int y :: .int x :: st) := by
  subst hp; exact k'.step fun t q => XS.iushr P.here C.1 rfl (hb C.cdE hd) rfl q
theorem k_ladd (C : KCx tbl nm cod ml ret p meth c Z a0) (P : KPos wd p l e R s m args below meth c Z own n0 h0 ws T h cells slots) {x y : Int64} (hd : decode cod pc = .ok (.ladd, 1))  {pc' : Nat} (hp : pc + 1 = pc') (k' : KGo p e below K T m pc' Ls (.long (x + y) :: st)) : KGo p e below K T m pc Ls (.long y :: .long x :: st) := by
  subst hp; exact k'.step fun t q => XS.ladd P.here C.1 rfl (hb C.cdE hd) rfl q
theorem k_lsub (C : KCx tbl nm cod ml ret p meth c Z a0) (P : KPos wd p l e R s m args below meth c Z own n0 h0 ws T h cells slots) {x y : Int64} (hd : decode cod pc = .ok (.lsub, 1))  {pc' : Nat} (hp : pc + 1 = pc') (k' : KGo p e below K T m pc' Ls (.long (x - y) :: st)) : KGo p e below K T m pc Ls (.long y :: .long x :: st) := by
  subst hp; exact k'.step fun t q => XS.lsub P.here C.1 rfl (hb C.cdE hd) rfl q
theorem k_lmul (C : KCx tbl nm cod ml ret p meth c Z a0) (P : KPos wd p l e R s m args below meth c Z own n0 h0 ws T h cells slots) {x y : Int64} (hd : decode cod pc = .ok (.lmul, 1))  {pc' : Nat} (hp : pc + 1 = pc') (k' : KGo p e below K T m pc' Ls (.long (x * y) :: st)) : KGo p e below K T m pc Ls (.long y :: .long x :: st) := by
  subst hp; exact k'.step fun t q => XS.lmul P.here C.1 rfl (hb C.cdE hd) rfl q
theorem k_land (C : KCx tbl nm cod ml ret p meth c Z a0) (P : KPos wd p l e R s m args below meth c Z own n0 h0 ws T h cells slots) {x y : Int64} (hd : decode cod pc = .ok (.land, 1))  {pc' : Nat} (hp : pc + 1 = pc') (k' : KGo p e below K T m pc' Ls (.long (x &&& y) :: st)) : KGo p e below K T m pc Ls (.long y :: .long x :: st) := by
  subst hp; exact k'.step fun t q => XS.land P.here C.1 rfl (hb C.cdE hd) rfl q
theorem k_lor (C : KCx tbl nm cod ml ret p meth c Z a0) (P : KPos wd p l e R s m args below meth c Z own n0 h0 ws T h cells slots) {x y : Int64} (hd : decode cod pc = .ok (.lor, 1))  {pc' : Nat} (hp : pc + 1 = pc') (k' : KGo p e below K T m pc' Ls (.long (x ||| y) :: st)) : KGo p e below K T m pc Ls (.long y :: .long x :: st) := by
  subst hp; exact k'.step fun t q => XS.lor P.here C.1 rfl (hb C.cdE hd) rfl q
theorem k_lxor (C : KCx tbl nm cod ml ret p meth c Z a0) (P : KPos wd p l e R s m args below meth c Z own n0 h0 ws T h cells slots) {x y : Int64} (hd : decode cod pc = .ok (.lxor, 1))  {pc' : Nat} (hp : pc + 1 = pc') (k' : KGo p e below K T m pc' Ls (.long (x ^^^ y) :: st)) : KGo p e below K T m pc Ls (.long y :: .long x :: st) := by
  subst hp; exact k'.step fun t q => XS.lxor P.here C.1 rfl (hb C.cdE hd) rfl q
theorem k_lshl (C : KCx tbl nm cod ml ret p meth c Z a0) (P : KPos wd p l e R s m args below meth c Z own n0 h0 ws T h cells slots) {x : Int64} {y : Int32} (hd : decode cod pc = .ok (.lshl, 1))  {pc' : Nat} (hp : pc + 1 = pc') (k' : KGo p e below K T m pc' Ls (.long (x <<< (y &&& 63).toInt64) :: st)) : KGo p e below K T m pc Ls (.int y :: .long x :: st) := by
  subst hp; exact k'.step fun t q => XS.lshl P.here C.1 rfl (hb C.cdE hd) rfl q
theorem k_lshr (C : KCx tbl nm cod ml ret p meth c Z a0) (P : KPos wd p l e R s m args below meth c Z own n0 h0 ws T h cells slots) {x : Int64} {y : Int32} (hd : decode cod pc = .ok (.lshr, 1))  {pc' : Nat} (hp : pc + 1 = pc') (k' : KGo p e below K T m pc' Ls (.long (x >>> (y &&& 63).toInt64) :: st)) : KGo p e below K T m pc Ls (.int y :: .long x :: st) := by
  subst hp; exact k'.step fun t q => XS.lshr P.here C.1 rfl (hb C.cdE hd) rfl q
theorem k_lushr (C : KCx tbl nm cod ml ret p meth c Z a0) (P : KPos wd p l e R s m args below meth c Z own n0 h0 ws T h cells slots) {x : Int64} {y : Int32} (hd : decode cod pc = .ok (.lushr, 1))  {pc' : Nat} (hp : pc + 1 = pc') (k' : KGo p e below K T m pc' Ls (.long (k_ushrL x y) :: st)) : KGo p e below K T m pc Ls (.int y :: .long x :: st) := by
  subst hp; exact k'.step fun t q => XS.lushr P.here C.1 rfl (hb C.cdE hd) rfl q
theorem k_lcmp (C : KCx tbl nm cod ml ret p meth c Z a0) (P : KPos wd p l e R s m args below meth c Z own n0 h0 ws T h cells slots) {x y : Int64} (hd : decode cod pc = .ok (.lcmp, 1))  {pc' : Nat} (hp : pc + 1 = pc') (k' : KGo p e below K T m pc' Ls (.int (k_cmpL x y) :: st)) : KGo p e below K T m pc Ls (.long y :: .long x :: st) := by
  subst hp; exact k'.step fun t q => XS.lcmp P.here C.1 rfl (hb C.cdE hd) rfl q
theorem k_i2l (C : KCx tbl nm cod ml ret p meth c Z a0) (P : KPos wd p l e R s m args below meth c Z own n0 h0 ws T h cells slots) {x : Int32} (hd : decode cod pc = .ok (.i2l, 1))  {pc' : Nat} (hp : pc + 1 = pc') (k' : KGo p e below K T m pc' Ls (.long (x.toInt64) :: st)) : KGo p e below K T m pc Ls (.int x :: st) := by
  subst hp; exact k'.step fun t q => XS.i2l P.here C.1 rfl (hb C.cdE hd) rfl q
theorem k_l2i (C : KCx tbl nm cod ml ret p meth c Z a0) (P : KPos wd p l e R s m args below meth c Z own n0 h0 ws T h cells slots) {x : Int64} (hd : decode cod pc = .ok (.l2i, 1))  {pc' : Nat} (hp : pc + 1 = pc') (k' : KGo p e below K T m pc' Ls (.int (x.toInt32) :: st)) : KGo p e below K T m pc Ls (.long x :: st) := by
  subst hp; exact k'.step fun t q => XS.l2i P.here C.1 rfl (hb C.cdE hd) rfl q
theorem k_i2b (C : KCx tbl nm cod ml ret p meth c Z a0) (P : KPos wd p l e R s m args below meth c Z own n0 h0 ws T h cells slots) {x : Int32} (hd : decode cod pc = .ok (.i2b, 1))  {pc' : Nat} (hp : pc + 1 = pc') (k' : KGo p e below K T m pc' Ls (.int (x.toInt8.toInt32) :: st)) : KGo p e below K T m pc Ls (.int x :: st) := by
  subst hp; exact k'.step fun t q => XS.i2b P.here C.1 rfl (hb C.cdE hd) rfl q
theorem k_i2c (C : KCx tbl nm cod ml ret p meth c Z a0) (P : KPos wd p l e R s m args below meth c Z own n0 h0 ws T h cells slots) {x : Int32} (hd : decode cod pc = .ok (.i2c, 1))  {pc' : Nat} (hp : pc + 1 = pc') (k' : KGo p e below K T m pc' Ls (.int (x.toUInt32.toUInt16.toUInt32.toInt32) :: st)) : KGo p e below K T m pc Ls (.int x :: st) := by
  subst hp; exact k'.step fun t q => XS.i2c P.here C.1 rfl (hb C.cdE hd) rfl q
theorem k_i2s (C : KCx tbl nm cod ml ret p meth c Z a0) (P : KPos wd p l e R s m args below meth c Z own n0 h0 ws T h cells slots) {x : Int32} (hd : decode cod pc = .ok (.i2s, 1))  {pc' : Nat} (hp : pc + 1 = pc') (k' : KGo p e below K T m pc' Ls (.int (x.toInt16.toInt32) :: st)) : KGo p e below K T m pc Ls (.int x :: st) := by
  subst hp; exact k'.step fun t q => XS.i2s P.here C.1 rfl (hb C.cdE hd) rfl q
theorem k_ineg (C : KCx tbl nm cod ml ret p meth c Z a0) (P : KPos wd p l e R s m args below meth c Z own n0 h0 ws T h cells slots) {x : Int32} (hd : decode cod pc = .ok (.ineg, 1))  {pc' : Nat} (hp : pc + 1 = pc') (k' : KGo p e below K T m pc' Ls (.int (-x) :: st)) : KGo p e below K T m pc Ls (.int x :: st) := by
  subst hp; exact k'.step fun t q => XS.ineg P.here C.1 rfl (hb C.cdE hd) rfl q
theorem k_lneg (C : KCx tbl nm cod ml ret p meth c Z a0) (P : KPos wd p l e R s m args below meth c Z own n0 h0 ws T h cells slots) {x : Int64} (hd : decode cod pc = .ok (.lneg, 1))  {pc' : Nat} (hp : pc + 1 = pc') (k' : KGo p e below K T m pc' Ls (.long (-x) :: st)) : KGo p e below K T m pc Ls (.long x :: st) := by
  subst hp; exact k'.step fun t q => XS.lneg P.here C.1 rfl (hb C.cdE hd) rfl q
theorem k_irem (C : KCx tbl nm cod ml ret p meth c Z a0) (P : KPos wd p l e R s m args below meth c Z own n0 h0 ws T h cells slots) {x y : Int32} (hd : decode cod pc = .ok (.irem, 1)) (hy : y ≠ 0) {pc' : Nat} (hp : pc + 1 = pc') (k' : KGo p e below K T m pc' Ls (.int (x % y) :: st)) : KGo p e below K T m pc Ls (.int y :: .int x :: st) := by
  subst hp; exact k'.step fun t q => XS.irem P.here C.1 rfl (hb C.cdE hd) rfl hy (by rw [irem_eq_mod]; exact q)
theorem k_idiv (C : KCx tbl nm cod ml ret p meth c Z a0) (P : KPos wd p l e R s m args below meth c Z own n0 h0 ws T h cells slots) {x y : Int32} (hd : decode cod pc = .ok (.idiv, 1)) (hy : y ≠ 0) {pc' : Nat} (hp : pc + 1 = pc') (k' : KGo p e below K T m pc' Ls (.int (x / y) :: st)) : KGo p e below K T m pc Ls (.int y :: .int x :: st) := by
  subst hp; exact k'.step fun t q => XS.idiv P.here C.1 rfl (hb C.cdE hd) rfl hy q
theorem k_iinc (C : KCx tbl nm cod ml ret p meth c Z a0) (P : KPos wd p l e R s m args below meth c Z own n0 h0 ws T h cells slots) {k : Nat} {cst : Int} {x z : Int32} {l' : Array Slot} (hd : decode cod pc = .ok (.iinc k cst, 3)) (hl : Ls[k]? = some (.val (.int x))) (hz : x + Int32.ofInt cst = z) (hl' : storeLocals Ls k (.int z) = some l') {pc' : Nat} (hp : pc + 3 = pc') (k' : KGo p e below K T m pc' l' (st)) : KGo p e below K T m pc Ls (st) := by
  subst hp; exact k'.step fun t q => XS.iinc P.here C.1 rfl (hb C.cdE hd) hl (hz ▸ hl') q
theorem k_dup (C : KCx tbl nm cod ml ret p meth c Z a0) (P : KPos wd p l e R s m args below meth c Z own n0 h0 ws T h cells slots) {x : Value} (hd : decode cod pc = .ok (.dup, 1)) (hc : x.category = 1) {pc' : Nat} (hp : pc + 1 = pc') (k' : KGo p e below K T m pc' Ls (x :: x :: st)) : KGo p e below K T m pc Ls (x :: st) := by
  subst hp; exact k'.step fun t q => XS.dup P.here C.1 rfl (hb C.cdE hd) rfl hc q
theorem k_pop (C : KCx tbl nm cod ml ret p meth c Z a0) (P : KPos wd p l e R s m args below meth c Z own n0 h0 ws T h cells slots) {x : Value} (hd : decode cod pc = .ok (.pop, 1)) (hc : x.category = 1) {pc' : Nat} (hp : pc + 1 = pc') (k' : KGo p e below K T m pc' Ls (st)) : KGo p e below K T m pc Ls (x :: st) := by
  subst hp; exact k'.step fun t q => XS.pop P.here C.1 rfl (hb C.cdE hd) rfl hc q
theorem k_dupX1 (C : KCx tbl nm cod ml ret p meth c Z a0) (P : KPos wd p l e R s m args below meth c Z own n0 h0 ws T h cells slots) {x y : Value} (hd : decode cod pc = .ok (.dup_x1, 1)) (hc : x.category = 1) (hc' : y.category = 1) {pc' : Nat} (hp : pc + 1 = pc') (k' : KGo p e below K T m pc' Ls (x :: y :: x :: st)) : KGo p e below K T m pc Ls (x :: y :: st) := by
  subst hp; exact k'.step fun t q => XS.dupX1 P.here C.1 rfl (hb C.cdE hd) rfl hc hc' q
theorem k_dup2 (C : KCx tbl nm cod ml ret p meth c Z a0) (P : KPos wd p l e R s m args below meth c Z own n0 h0 ws T h cells slots) {x y : Value} (hd : decode cod pc = .ok (.dup2, 1)) (hc : x.category = 1) (hc' : y.category = 1) {pc' : Nat} (hp : pc + 1 = pc') (k' : KGo p e below K T m pc' Ls (x :: y :: x :: y :: st)) : KGo p e below K T m pc Ls (x :: y :: st) := by
  subst hp; exact k'.step fun t q => XT.dup2 P.here C.1 rfl (hb C.cdE hd) rfl hc hc' q
theorem k_dload (C : KCx tbl nm cod ml ret p meth c Z a0) (P : KPos wd p l e R s m args below meth c Z own n0 h0 ws T h cells slots) {k : Nat} {v : UInt64} (hd : decode cod pc = .ok (.dload k, 2)) (hl : Ls[k]? = some (.val (.double v))) {pc' : Nat} (hp : pc + 2 = pc') (k' : KGo p e below K T m pc' Ls (.double v :: st)) : KGo p e below K T m pc Ls (st) := by
  subst hp; exact k'.step fun t q => XS.dload P.here C.1 rfl (hb C.cdE hd) hl q
theorem k_dloadN (C : KCx tbl nm cod ml ret p meth c Z a0) (P : KPos wd p l e R s m args below meth c Z own n0 h0 ws T h cells slots) {k : Fin 4} {v : UInt64} (hd : decode cod pc = .ok (.dload_n k, 1)) (hl : Ls[k.val]? = some (.val (.double v))) {pc' : Nat} (hp : pc + 1 = pc') (k' : KGo p e below K T m pc' Ls (.double v :: st)) : KGo p e below K T m pc Ls (st) := by
  subst hp; exact k'.step fun t q => XS.dloadN P.here C.1 rfl (hb C.cdE hd) hl q
theorem k_dstore (C : KCx tbl nm cod ml ret p meth c Z a0) (P : KPos wd p l e R s m args below meth c Z own n0 h0 ws T h cells slots) {k : Nat} {x : UInt64} {l' : Array Slot} (hd : decode cod pc = .ok (.dstore k, 2)) (hl : storeLocals Ls k (.double x) = some l') {pc' : Nat} (hp : pc + 2 = pc') (k' : KGo p e below K T m pc' l' (st)) : KGo p e below K T m pc Ls (.double x :: st) := by
  subst hp; exact k'.step fun t q => XS.dstore P.here C.1 rfl (hb C.cdE hd) rfl hl q
theorem k_dstoreN (C : KCx tbl nm cod ml ret p meth c Z a0) (P : KPos wd p l e R s m args below meth c Z own n0 h0 ws T h cells slots) {k : Fin 4} {x : UInt64} {l' : Array Slot} (hd : decode cod pc = .ok (.dstore_n k, 1)) (hl : storeLocals Ls k.val (.double x) = some l') {pc' : Nat} (hp : pc + 1 = pc') (k' : KGo p e below K T m pc' l' (st)) : KGo p e below K T m pc Ls (.double x :: st) := by
  subst hp; exact k'.step fun t q => XS.dstoreN P.here C.1 rfl (hb C.cdE hd) rfl hl q
theorem k_dconst0 (C : KCx tbl nm cod ml ret p meth c Z a0) (P : KPos wd p l e R s m args below meth c Z own n0 h0 ws T h cells slots) {z : UInt64} (hd : decode cod pc = .ok (.dconst 0, 1)) (hz : FP.dconst0 = z) {pc' : Nat} (hp : pc + 1 = pc') (k' : KGo p e below K T m pc' Ls (.double z :: st)) : KGo p e below K T m pc Ls (st) := by
  subst hp; exact k'.step fun t q => XS.dconst0 P.here C.1 rfl (hb C.cdE hd) hz q
theorem k_dconst1 (C : KCx tbl nm cod ml ret p meth c Z a0) (P : KPos wd p l e R s m args below meth c Z own n0 h0 ws T h cells slots) {z : UInt64} (hd : decode cod pc = .ok (.dconst 1, 1)) (hz : FP.dconst1 = z) {pc' : Nat} (hp : pc + 1 = pc') (k' : KGo p e below K T m pc' Ls (.double z :: st)) : KGo p e below K T m pc Ls (st) := by
  subst hp; exact k'.step fun t q => XS.dconst1 P.here C.1 rfl (hb C.cdE hd) hz q
theorem k_i2d (C : KCx tbl nm cod ml ret p meth c Z a0) (P : KPos wd p l e R s m args below meth c Z own n0 h0 ws T h cells slots) {x : Int32} (hd : decode cod pc = .ok (.i2d, 1))  {pc' : Nat} (hp : pc + 1 = pc') (k' : KGo p e below K T m pc' Ls (.double (FP.i2d x) :: st)) : KGo p e below K T m pc Ls (.int x :: st) := by
  subst hp; exact k'.step fun t q => XS.i2dS P.here C.1 rfl (hb C.cdE hd) rfl rfl q
theorem k_l2d (C : KCx tbl nm cod ml ret p meth c Z a0) (P : KPos wd p l e R s m args below meth c Z own n0 h0 ws T h cells slots) {x : Int64} (hd : decode cod pc = .ok (.l2d, 1))  {pc' : Nat} (hp : pc + 1 = pc') (k' : KGo p e below K T m pc' Ls (.double (FP.l2d x) :: st)) : KGo p e below K T m pc Ls (.long x :: st) := by
  subst hp; exact k'.step fun t q => XS.l2dS P.here C.1 rfl (hb C.cdE hd) rfl rfl q
theorem k_dneg (C : KCx tbl nm cod ml ret p meth c Z a0) (P : KPos wd p l e R s m args below meth c Z own n0 h0 ws T h cells slots) {x : UInt64} (hd : decode cod pc = .ok (.dneg, 1))  {pc' : Nat} (hp : pc + 1 = pc') (k' : KGo p e below K T m pc' Ls (.double (FP.dneg x) :: st)) : KGo p e below K T m pc Ls (.double x :: st) := by
  subst hp; exact k'.step fun t q => XS.dnegS P.here C.1 rfl (hb C.cdE hd) rfl rfl q
theorem k_dcmp (C : KCx tbl nm cod ml ret p meth c Z a0) (P : KPos wd p l e R s m args below meth c Z own n0 h0 ws T h cells slots) {o : CmpOp} {x y : UInt64} {z : Int32} (hd : decode cod pc = .ok (.dcmp o, 1)) (hz : cmpValue (FP.dcmp x y) o = z) {pc' : Nat} (hp : pc + 1 = pc') (k' : KGo p e below K T m pc' Ls (.int z :: st)) : KGo p e below K T m pc Ls (.double y :: .double x :: st) := by
  subst hp; exact k'.step fun t q => XS.dcmpS P.here C.1 rfl (hb C.cdE hd) rfl hz q
theorem k_dadd (C : KCx tbl nm cod ml ret p meth c Z a0) (P : KPos wd p l e R s m args below meth c Z own n0 h0 ws T h cells slots) {x y z : UInt64} (hd : decode cod pc = .ok (.dadd, 1)) (hn : Jvm.Free.Fl.NoNaN64 (FP.dadd x y)) (hz : FP.dadd x y = z) {pc' : Nat} (hp : pc + 1 = pc') (k' : KGo p e below K T m pc' Ls (.double z :: st)) : KGo p e below K T m pc Ls (.double y :: .double x :: st) := by
  subst hp; exact k'.step fun t q => XS.daddS P.here C.1 rfl (hb C.cdE hd) rfl hn hz q
theorem k_dsub (C : KCx tbl nm cod ml ret p meth c Z a0) (P : KPos wd p l e R s m args below meth c Z own n0 h0 ws T h cells slots) {x y z : UInt64} (hd : decode cod pc = .ok (.dsub, 1)) (hn : Jvm.Free.Fl.NoNaN64 (FP.dsub x y)) (hz : FP.dsub x y = z) {pc' : Nat} (hp : pc + 1 = pc') (k' : KGo p e below K T m pc' Ls (.double z :: st)) : KGo p e below K T m pc Ls (.double y :: .double x :: st) := by
  subst hp; exact k'.step fun t q => XS.dsubS P.here C.1 rfl (hb C.cdE hd) rfl hn hz q
theorem k_dmul (C : KCx tbl nm cod ml ret p meth c Z a0) (P : KPos wd p l e R s m args below meth c Z own n0 h0 ws T h cells slots) {x y z : UInt64} (hd : decode cod pc = .ok (.dmul, 1)) (hn : Jvm.Free.Fl.NoNaN64 (FP.dmul x y)) (hz : FP.dmul x y = z) {pc' : Nat} (hp : pc + 1 = pc') (k' : KGo p e below K T m pc' Ls (.double z :: st)) : KGo p e below K T m pc Ls (.double y :: .double x :: st) := by
  subst hp; exact k'.step fun t q => XS.dmulS P.here C.1 rfl (hb C.cdE hd) rfl hn hz q
theorem k_ddiv (C : KCx tbl nm cod ml ret p meth c Z a0) (P : KPos wd p l e R s m args below meth c Z own n0 h0 ws T h cells slots) {x y z : UInt64} (hd : decode cod pc = .ok (.ddiv, 1)) (hn : Jvm.Free.Fl.NoNaN64 (FP.ddiv x y)) (hz : FP.ddiv x y = z) {pc' : Nat} (hp : pc + 1 = pc') (k' : KGo p e below K T m pc' Ls (.double z :: st)) : KGo p e below K T m pc Ls (.double y :: .double x :: st) := by
  subst hp; exact k'.step fun t q => XS.ddivS P.here C.1 rfl (hb C.cdE hd) rfl hn hz q
/-! ### objects and arrays -/
def KOb (Z : State) (h : Heap) (a : Addr) (Cn : String) (lay : List (String × String × String)) (vs : List Value) : Prop :=
  Exa Z h a Cn ∧ lay.length = vs.length ∧ ∀ (i : Nat) (O n d : String) (v : Value), lay[i]? = some (O, n, d) → vs[i]? = some v → Fld Z h a O n d v
def KLay (Z : State) (a0 : Array Value) (Cn : String) (lay : List (String × String × String)) : Prop :=
  (∀ x ∈ lay, Laid Z a0 Cn x.1 x.2.1 x.2.2 ∧ (parseFieldDescriptor x.2.2).isSome = true) ∧ (lay.map (·.2.1)).Nodup
def KVA (Z : State) (h : Heap) (a : Addr) (k : ClassId) (ty : FieldType) (N : Nat) (f : Nat → Value) : Prop :=
  ∃ cl : Cell, Arr Z h a cl ty ∧ cl.cls = k ∧ cl.slots.size = N ∧ N < 2 ^ 31 ∧ ∀ j, j < N → cl.slots[j]? = some (f j)
section Facts
variable {Cn O n d : String} {lay : List (String × String × String)} {vs : List Value} {v : Value} {sl : Nat} {k : ClassId} {ty : FieldType} {N : Nat} {f : Nat → Value} {ws' : List Addr}
theorem KOb.exa (F : KOb Z h a Cn lay vs) : Exa Z h a Cn := F.1
theorem KOb.lt (F : KOb Z h a Cn lay vs) : a < h.size := F.1.lt
theorem KOb.fld (F : KOb Z h a Cn lay vs) (i : Nat) (q : lay[i]? = some (O, n, d)) (r : vs[i]? = some v) : Fld Z h a O n d v := F.2.2 i O n d v q r
theorem KOb.ext (F : KOb Z h a Cn lay vs) (E : Ext h h') : KOb Z h' a Cn lay vs := ⟨F.1.ext E, F.2.1, fun i O n d v q r => (F.2.2 i O n d v q r).ext E⟩
theorem KOb.keep (F : KOb Z h a Cn lay vs) (E : Keep h h' ws') (q : a ∉ ws') : KOb Z h' a Cn lay vs := ⟨F.1.keep E, F.2.1, fun i O n d v u r => (F.2.2 i O n d v u r).keep E q⟩
theorem KOb.other (F : KOb Z h a Cn lay vs) (W : Wr h h' b sl v) (q : a ≠ b) : KOb Z h' a Cn lay vs := ⟨F.1.wr W, F.2.1, fun i O n d v u r => (F.2.2 i O n d v u r).other W (Or.inl q)⟩
theorem KOb.put (F : KOb Z h a Cn lay vs) (L : KLay Z a0 Cn lay) (i : Nat) (q : lay[i]? = some (O, n, d)) (W : Wr h h' a (Jvm.RoadKit.slotOf Z O n d) v) {vs' : List Value} (hv : vs.set i v = vs') : KOb Z h' a Cn lay vs' := by
  subst hv
  refine ⟨F.1.wr W, by rw [List.length_set]; exact F.2.1, fun j O' n' d' v' u r => ?_⟩
  by_cases e : i = j
  · subst e
    cases q.symm.trans u
    have hi : i < vs.length := by rw [← F.2.1]; exact (List.getElem?_eq_some_iff.mp q).1
    rw [List.getElem?_set_self hi] at r
    cases r
    exact (F.2.2 i O n d _ q (List.getElem?_eq_getElem hi)).same W
  · rw [List.getElem?_set_ne e] at r
    obtain ⟨l1, t1⟩ := L.1 _ (List.mem_of_getElem? u)
    obtain ⟨l2, t2⟩ := L.1 _ (List.mem_of_getElem? q)
    obtain ⟨t, ht⟩ := Option.isSome_iff_exists.mp t1
    obtain ⟨t', ht'⟩ := Option.isSome_iff_exists.mp t2
    refine (F.2.2 j O' n' d' v' u r).other W (Or.inr (slot_ne l1 l2 (fun en => ?_) ht ht'))
    have m1 : (lay.map (·.2.1))[j]? = some n' := by rw [List.getElem?_map, u]; rfl
    have m2 : (lay.map (·.2.1))[i]? = some n' := by rw [List.getElem?_map, q]; exact congrArg some en.symm
    exact e (((List.getElem?_inj (List.getElem?_eq_some_iff.mp m2).1 L.2).mp (m2.trans m1.symm)))
theorem KOb.new (E : Exa Z h a Cn) (D : ∀ {O nm d : String} {ty : FieldType}, Laid Z a0 Cn O nm d → parseFieldDescriptor d = some ty → Fld Z h a O nm d (defaultValue ty)) (L : KLay Z a0 Cn lay) (hv : (lay.map fun x => (parseFieldDescriptor x.2.2).map defaultValue) = vs.map some) : KOb Z h a Cn lay vs := by
  have hl : lay.length = vs.length := by have := congrArg List.length hv; simpa using this
  refine ⟨E, hl, fun i O n d v q r => ?_⟩
  obtain ⟨l1, t1⟩ := L.1 _ (List.mem_of_getElem? q)
  obtain ⟨t, ht⟩ := Option.isSome_iff_exists.mp t1
  have e1 : (lay.map fun x => (parseFieldDescriptor x.2.2).map defaultValue)[i]? = some (some (defaultValue t)) := by rw [List.getElem?_map, q]; show some ((parseFieldDescriptor d).map defaultValue) = _; rw [show parseFieldDescriptor d = some t from ht]; rfl
  rw [hv, List.getElem?_map, r] at e1
  cases e1
  exact D l1 ht
theorem KOb.one (E : Exa Z h a Cn) (F : Fld Z h a O n d v) : KOb Z h a Cn [(O, n, d)] [v] := ⟨E, rfl, fun i O' n' d' v' q r => by
  match i, q, r with
  | 0, q, r => cases q; cases r; exact F⟩
theorem KOb.two {O2 n2 d2 : String} {v2 : Value} (E : Exa Z h a Cn) (F : Fld Z h a O n d v) (F2 : Fld Z h a O2 n2 d2 v2) : KOb Z h a Cn [(O, n, d), (O2, n2, d2)] [v, v2] := ⟨E, rfl, fun i O' n' d' v' q r => by
  match i, q, r with
  | 0, q, r => cases q; cases r; exact F
  | 1, q, r => cases q; cases r; exact F2⟩
theorem KVA.lt (F : KVA Z h a k ty N f) : a < h.size := by obtain ⟨c, A, -⟩ := F; exact A.lt
theorem KVA.ext (F : KVA Z h a k ty N f) (E : Ext h h') : KVA Z h' a k ty N f := by obtain ⟨c, A, r⟩ := F; exact ⟨c, A.ext E, r⟩
theorem KVA.keep (F : KVA Z h a k ty N f) (E : Keep h h' ws') (q : a ∉ ws') : KVA Z h' a k ty N f := by obtain ⟨c, A, r⟩ := F; exact ⟨c, ⟨E.2.1 a c A.1 q, A.2⟩, r⟩
theorem KVA.other (F : KVA Z h a k ty N f) (W : Wr h h' b sl v) (q : a ≠ b) : KVA Z h' a k ty N f := by obtain ⟨c, A, r⟩ := F; exact ⟨c, A.other W q, r⟩
theorem KVA.congr (F : KVA Z h a k ty N f) {g : Nat → Value} (q : ∀ j, j < N → f j = g j) : KVA Z h a k ty N g := by obtain ⟨c, A, r1, r2, r3, r4⟩ := F; exact ⟨c, A, r1, r2, r3, fun j hj => by rw [← q j hj]; exact r4 j hj⟩
theorem KVA.set (F : KVA Z h a k ty N f) (W : Wr h h' a sl v) {g : Nat → Value} (q : ∀ j, j < N → (if j = sl then v else f j) = g j) : KVA Z h' a k ty N g := by
  obtain ⟨c, A, r1, r2, r3, r4⟩ := F
  refine ⟨c.setSlot sl v, A.same W, r1, by rw [sz_set]; exact r2, r3, fun j hj => ?_⟩
  rw [← q j hj]
  by_cases e : j = sl
  · subst e; rw [if_pos rfl]; simp [Cell.setSlot, r2, hj]
  · rw [if_neg e]; show (c.slots.setIfInBounds sl v)[j]? = _; rw [Array.getElem?_setIfInBounds_ne (Ne.symm e)]; exact r4 j hj
theorem KVA.new {z : Int32} (A : Arr Z h a (newA k ty z) ty) (q : z.toInt = (N : Int)) : KVA Z h a k ty N (fun _ => defaultValue ty) := by
  have e : z.toNatClampNeg = N := by simp only [Int32.toNatClampNeg]; omega
  have := Int32.toInt_lt z
  exact ⟨_, A, rfl, (sz_new _ _ _).trans e, by omega, fun j hj => by simp [newA, e, hj]⟩
theorem KVA.ne_ob {kk : Nat} (F : KVA Z h a k ty N f) (G : Exa Z h b Cn) (wi : (Cond.instantiable Cn kk).before a0 Z = true) : a ≠ b := by obtain ⟨c, A, -⟩ := F; exact (ne_arr G wi A).symm
theorem KVA.start {cl : Cell} (A : Arr Z h a cl ty) (hs : cl.slots.size = N) (hN : N < 2 ^ 31) (H : ∀ j, j < N → cl.slots[j]? = some (f j)) : KVA Z h a cl.cls ty N f := ⟨cl, A, rfl, hs, hN, H⟩
theorem k_cat_ref {v : Value} (hv : v.isRef = true) : v.category = 1 := by rcases ref_cases hv with rfl | ⟨_, rfl⟩ <;> rfl
theorem k_fits_ref {v : Value} (ht : ty.isReference = true) (hv : v.isRef = true) : fits ty v = true := by rcases ref_cases hv with rfl | ⟨_, rfl⟩ <;> cases ty <;> first | rfl | (cases ht; done)
theorem k_ext_of_keep (E : Keep h h' []) : Ext h h' := ⟨E.1, fun x c q => E.2.1 x c q nin0⟩
theorem k_idx {j : Int32} {J : Nat} (hj : j.toInt = (J : Int)) {S : Nat} (hJ : J < S) : ¬ (j < 0 ∨ S ≤ j.toNatClampNeg) ∧ j.toNatClampNeg = J := by
  have e : j.toNatClampNeg = J := by simp only [Int32.toNatClampNeg]; omega
  refine ⟨?_, e⟩
  rw [e, Int32.lt_iff_toInt_lt]
  have : (0 : Int32).toInt = 0 := rfl
  omega
end Facts
/-! ### steps on the heap -/
theorem k_getf {R0 O n d Cn : String} {index : Nat} {lay : List (String × String × String)} {vs : List Value} {v : Value} (C : KCx tbl nm cod ml ret p meth c Z a0) (P : KPos wd p l e R s m args below meth c Z own n0 h0 ws T h cells slots) (w : (Jvm.Cond.fieldLink own index R0 n d).before a0 Z = true) (via : Via Z R0 O n d) (F : KOb Z h a Cn lay vs) (i : Nat) (q : lay[i]? = some (O, n, d)) (r : vs[i]? = some v)
    (hd : decode cod pc = .ok (.getfield index, 3)) {pc' : Nat} (hp : pc + 3 = pc') (k' : ∀ T', KPos wd p l e R s m args below meth c Z own n0 h0 ws T' h cells slots → KGo p e below K T' m pc' Ls (v :: st)) : KGo p e below K T m pc Ls (.ref a :: st) := by
  subst hp
  obtain ⟨s', L, X, B, hZ, hown, eT, r1⟩ := P
  obtain ⟨T', X', e', stp⟩ := getF X C.1 hZ hown (host := "") (Or.inl w) via eT (F.fld i q r) (g := mkF m pc Ls (.ref a :: st)) rfl rfl (hb C.cdE hd)
  exact (k' T' ⟨s', L, X', B, hZ, hown, e', r1⟩).step stp
theorem k_putf {R0 O n d Cn : String} {index kk : Nat} {lay : List (String × String × String)} {vs : List Value} {v v' : Value} {ty : FieldType} (C : KCx tbl nm cod ml ret p meth c Z a0) (P : KPos wd p l e R s m args below meth c Z own n0 h0 ws T h cells slots) (w : (Jvm.Cond.fieldLink own index R0 n d).before a0 Z = true) (via : Via Z R0 O n d) (F : KOb Z h a Cn lay vs) (i : Nat) (q : lay[i]? = some (O, n, d))
    (L : (Jvm.Cond.lays Cn O n d).before a0 Z = true ∨ ((Jvm.Cond.laysFinal Cn O n d).before a0 Z = true ∧ own = O ∧ nm = "<init>")) (wi : (Jvm.Cond.instantiable Cn kk).before a0 Z = true) (hty : parseFieldDescriptor d = some ty) (hn : narrow ty v = v') (hf : fits ty v' = true)
    (hd : decode cod pc = .ok (.putfield index, 3)) (ha : n0 ≤ a) (hk : a ∈ ws ∨ h0.size ≤ a) {pc' : Nat} (hp : pc + 3 = pc') (k' : ∀ T' h', KPos wd p l e R s m args below meth c Z own n0 h0 ws T' h' cells slots → Wr h h' a (Jvm.RoadKit.slotOf Z O n d) v' → KGo p e below K T' m pc' Ls st) : KGo p e below K T m pc Ls (v :: .ref a :: st) := by
  subst hp
  obtain ⟨s', Lo, X, B, hZ, hown, eT, r1, r2, r3⟩ := P
  have hi : i < vs.length := by rw [← F.2.1]; exact (List.getElem?_eq_some_iff.mp q).1
  obtain ⟨T', h', X', e', W, stp⟩ := putFN X C.1 hZ hown w via eT (F.fld i q (List.getElem?_eq_getElem hi)) F.1 (L.imp id fun z => ⟨z.1, z.2.1, C.nmE.trans z.2.2⟩) wi hty hn hf (g := mkF m pc Ls (v :: .ref a :: st)) rfl rfl (hb C.cdE hd)
  exact (k' T' h' ⟨s', _, X', B.mono (Nat.le_of_eq W.size.symm), hZ, hown, e', W.size ▸ r1, Fr.snoc X' r2 ha, r3.wr W hk⟩ W).step stp
theorem k_gets {R0 O n d : String} {index : Nat} {v : Value} (C : KCx tbl nm cod ml ret p meth c Z a0) (P : KPos wd p l e R s m args below meth c Z own n0 h0 ws T h cells slots) (w : (Jvm.Cond.fieldLink own index R0 n d).before a0 Z = true) (via : Via Z R0 O n d) (F : Sta Z h O n d v) (hd : decode cod pc = .ok (.getstatic index, 3)) {pc' : Nat} (hp : pc + 3 = pc')
    (k' : ∀ T', KPos wd p l e R s m args below meth c Z own n0 h0 ws T' h cells slots → KGo p e below K T' m pc' Ls (v :: st)) : KGo p e below K T m pc Ls st := by
  subst hp
  obtain ⟨s', L, X, B, hZ, hown, eT, r1⟩ := P
  obtain ⟨T', X', e', stp⟩ := getS2 X C.1 hZ hown (host := "") (Or.inl w) via eT F (g := mkF m pc Ls st) rfl (hb C.cdE hd)
  exact (k' T' ⟨s', L, X', B, hZ, hown, e', r1⟩).step stp
theorem k_newo {Cn : String} {index n : Nat} (C : KCx tbl nm cod ml ret p meth c Z a0) (P : KPos wd p l e R s m args below meth c Z own n0 h0 ws T h cells slots) (w : (Jvm.Cond.classLink own index Cn).before a0 Z = true) (wi : (Jvm.Cond.instantiable Cn n).before a0 Z = true) (wz : (Jvm.Cond.initialized Cn).before a0 Z = true) (hd : decode cod pc = .ok (.new index, 3))
    {cells' slots' : Nat} (hc : cells + 1 = cells') (hs : slots + n = slots') (hc' : cells' ≤ R.cells) (hs' : slots' ≤ R.slots) {pc' : Nat} (hp : pc + 3 = pc')
    (k' : ∀ T' h' a, KPos wd p l e R s m args below meth c Z own n0 h0 ws T' h' cells' slots' → h.size = a → n0 ≤ a → h0.size ≤ a → Ext h h' → Exa Z h' a Cn → (∀ {O nm d : String} {ty : FieldType}, Laid Z a0 Cn O nm d → parseFieldDescriptor d = some ty → Fld Z h' a O nm d (defaultValue ty)) → KGo p e below K T' m pc' Ls (.ref a :: st)) : KGo p e below K T m pc Ls st := by
  subst hp hc hs
  obtain ⟨s', Lo, X, B, hZ, hown, eT, r1, r2, r3⟩ := P
  obtain ⟨T', h', X', e', E, A, D, -, stp⟩ := newO X C.1 hZ hown w wi wz eT (g := mkF m pc Ls st) rfl (hb C.cdE hd) hc' hs'
  exact (k' T' h' _ ⟨s', _, X', B.mono E.1, hZ, hown, e', Nat.le_trans r1 E.1, r2, r3.ext E⟩ rfl r1 r3.1 E A D).step stp
theorem k_newp {aty : ArrayType} {z : Int32} {N cap : Nat} (C : KCx tbl nm cod ml ret p meth c Z a0) (P : KPos wd p l e R s m args below meth c Z own n0 h0 ws T h cells slots) (w : (Jvm.Cond.arrayClass (newarray.typeOf aty)).before a0 Z = true) (hd : decode cod pc = .ok (.newarray aty, 2)) (hN : z.toInt = (N : Int)) (hcap : N ≤ cap) (hb8 : cap * 8 ≤ 536870912)
    {cells' slots' : Nat} (hc : cells + 1 = cells') (hs : slots + cap = slots') (hc' : cells' ≤ R.cells) (hs' : slots' ≤ R.slots) {pc' : Nat} (hp : pc + 2 = pc')
    (k' : ∀ T' h' a k, KPos wd p l e R s m args below meth c Z own n0 h0 ws T' h' cells' slots' → h.size = a → n0 ≤ a → h0.size ≤ a → Ext h h' → KVA Z h' a k (newarray.typeOf aty) N (fun _ => defaultValue (newarray.typeOf aty)) → KGo p e below K T' m pc' Ls (.ref a :: st)) : KGo p e below K T m pc Ls (.int z :: st) := by
  subst hp hc hs
  obtain ⟨s', Lo, X, B, hZ, hown, eT, r1, r2, r3⟩ := P
  have e0 : ¬ z < 0 := by rw [Int32.lt_iff_toInt_lt]; have : (0 : Int32).toInt = 0 := rfl; omega
  have e1 : z.toNatClampNeg ≤ cap := by simp only [Int32.toNatClampNeg]; omega
  obtain ⟨T', h', kA, X', e', E, A, stp⟩ := newP X C.1 hZ w eT (g := mkF m pc Ls (.int z :: st)) rfl (hb C.cdE hd) rfl e0 e1 hb8 hc' hs'
  exact (k' T' h' _ kA ⟨s', _, X', B.mono E.1, hZ, hown, e', Nat.le_trans r1 E.1, r2, r3.ext E⟩ rfl r1 r3.1 E (KVA.new A hN)).step stp
theorem k_newr {Cn : String} {index : Nat} {z : Int32} {N cap : Nat} (C : KCx tbl nm cod ml ret p meth c Z a0) (P : KPos wd p l e R s m args below meth c Z own n0 h0 ws T h cells slots) (w : (Jvm.Cond.classLink own index Cn).before a0 Z = true) (w2 : (Jvm.Cond.arrayOver (.object Cn)).before a0 Z = true) (hd : decode cod pc = .ok (.anewarray index, 3)) (hN : z.toInt = (N : Int)) (hcap : N ≤ cap) (hb8 : cap * 8 ≤ 536870912)
    {cells' slots' : Nat} (hc : cells + 1 = cells') (hs : slots + cap = slots') (hc' : cells' ≤ R.cells) (hs' : slots' ≤ R.slots) {pc' : Nat} (hp : pc + 3 = pc')
    (k' : ∀ T' h' a k, KPos wd p l e R s m args below meth c Z own n0 h0 ws T' h' cells' slots' → h.size = a → n0 ≤ a → h0.size ≤ a → Ext h h' → KVA Z h' a k (.object Cn) N (fun _ => .null) → Ovr Z k Cn → KGo p e below K T' m pc' Ls (.ref a :: st)) : KGo p e below K T m pc Ls (.int z :: st) := by
  subst hp hc hs
  obtain ⟨s', Lo, X, B, hZ, hown, eT, r1, r2, r3⟩ := P
  have e0 : ¬ z < 0 := by rw [Int32.lt_iff_toInt_lt]; have : (0 : Int32).toInt = 0 := rfl; omega
  have e1 : z.toNatClampNeg ≤ cap := by simp only [Int32.toNatClampNeg]; omega
  obtain ⟨T', h', kA, X', e', E, A, O, stp⟩ := newR X C.1 hZ hown w w2 eT (g := mkF m pc Ls (.int z :: st)) rfl (hb C.cdE hd) rfl e0 e1 hb8 hc' hs'
  exact (k' T' h' _ kA ⟨s', _, X', B.mono E.1, hZ, hown, e', Nat.le_trans r1 E.1, r2, r3.ext E⟩ rfl r1 r3.1 E (KVA.new A hN) O).step stp
theorem k_newra {Cn ad : String} {ty : FieldType} {index : Nat} {z : Int32} {N cap : Nat} (C : KCx tbl nm cod ml ret p meth c Z a0) (P : KPos wd p l e R s m args below meth c Z own n0 h0 ws T h cells slots) (hC : (FieldType.array ty).toString = Cn) (had : "[" ++ Cn = ad) (w : (Jvm.Cond.classLink own index Cn).before a0 Z = true) (w2 : (Jvm.Cond.arrayOver (.array ty)).before a0 Z = true) (hd : decode cod pc = .ok (.anewarray index, 3)) (hN : z.toInt = (N : Int)) (hcap : N ≤ cap) (hb8 : cap * 8 ≤ 536870912)
    {cells' slots' : Nat} (hc : cells + 1 = cells') (hs : slots + cap = slots') (hc' : cells' ≤ R.cells) (hs' : slots' ≤ R.slots) {pc' : Nat} (hp : pc + 3 = pc')
    (k' : ∀ T' h' a k, KPos wd p l e R s m args below meth c Z own n0 h0 ws T' h' cells' slots' → h.size = a → n0 ≤ a → h0.size ≤ a → Ext h h' → KVA Z h' a k (.array ty) N (fun _ => .null) → Exa Z h' a ad → OvrA Z k ty Cn → KGo p e below K T' m pc' Ls (.ref a :: st)) : KGo p e below K T m pc Ls (.int z :: st) := by
  subst hp hc hs
  obtain ⟨s', Lo, X, B, hZ, hown, eT, r1, r2, r3⟩ := P
  have e0 : ¬ z < 0 := by rw [Int32.lt_iff_toInt_lt]; have : (0 : Int32).toInt = 0 := rfl; omega
  have e1 : z.toNatClampNeg ≤ cap := by simp only [Int32.toNatClampNeg]; omega
  obtain ⟨T', h', kA, X', e', E, A, Ex, O, stp⟩ := newRA X C.1 hZ hown hC w w2 eT (g := mkF m pc Ls (.int z :: st)) rfl (hb C.cdE hd) rfl e0 e1 hb8 hc' hs' had
  exact (k' T' h' _ kA ⟨s', _, X', B.mono E.1, hZ, hown, e', Nat.le_trans r1 E.1, r2, r3.ext E⟩ rfl r1 r3.1 E (KVA.new A hN) Ex O).step stp
theorem k_arrlen {k : ClassId} {ty : FieldType} {N : Nat} {f : Nat → Value} {z : Int32} (C : KCx tbl nm cod ml ret p meth c Z a0) (P : KPos wd p l e R s m args below meth c Z own n0 h0 ws T h cells slots) (V : KVA Z h a k ty N f) (hd : decode cod pc = .ok (.arraylength, 1)) (hz : z.toInt = (N : Int)) {pc' : Nat} (hp : pc + 1 = pc') (k' : KGo p e below K T m pc' Ls (.int z :: st)) : KGo p e below K T m pc Ls (.ref a :: st) := by
  subst hp
  obtain ⟨s', L, X, B, hZ, hown, eT, r1⟩ := P
  obtain ⟨cl, A, -, S, hN, -⟩ := V
  have e : cl.slots.size.toInt32 = z := by rw [S]; exact Int32.toInt_inj.mp (by rw [len_toInt hN, hz])
  subst e
  exact k'.step fun t q => X.arraylength C.1 (by rw [eT]; exact A.1) (State.isArrayOf_alike hZ.alike A.2.1) (g := mkF m pc Ls (.ref a :: st)) rfl rfl (hb C.cdE hd) t q
theorem k_iaload {k : ClassId} {N J : Nat} {f : Nat → Value} {j : Int32} {v : Value} (C : KCx tbl nm cod ml ret p meth c Z a0) (P : KPos wd p l e R s m args below meth c Z own n0 h0 ws T h cells slots) (V : KVA Z h a k .int N f) (hd : decode cod pc = .ok (.iaload, 1)) (hj : j.toInt = (J : Int)) (hJ : J < N) (hv : f J = v) {pc' : Nat} (hp : pc + 1 = pc') (k' : KGo p e below K T m pc' Ls (v :: st)) : KGo p e below K T m pc Ls (.int j :: .ref a :: st) := by
  subst hp hv
  obtain ⟨s', L, X, B, hZ, hown, eT, r1⟩ := P
  obtain ⟨cl, A, -, S, hN, H⟩ := V
  obtain ⟨q1, q2⟩ := k_idx hj (S.symm ▸ hJ)
  exact k'.step fun t q => X.iaload C.1 (by rw [eT]; exact A.1) (State.isArrayOf_alike hZ.alike A.2.1) A.2.2 q1 (by rw [q2]; exact H J hJ) (g := mkF m pc Ls (.int j :: .ref a :: st)) rfl rfl (hb C.cdE hd) t q
theorem k_laload {k : ClassId} {N J : Nat} {f : Nat → Value} {j : Int32} {v : Value} (C : KCx tbl nm cod ml ret p meth c Z a0) (P : KPos wd p l e R s m args below meth c Z own n0 h0 ws T h cells slots) (V : KVA Z h a k .long N f) (hd : decode cod pc = .ok (.laload, 1)) (hj : j.toInt = (J : Int)) (hJ : J < N) (hv : f J = v) {pc' : Nat} (hp : pc + 1 = pc') (k' : KGo p e below K T m pc' Ls (v :: st)) : KGo p e below K T m pc Ls (.int j :: .ref a :: st) := by
  subst hp hv
  obtain ⟨s', L, X, B, hZ, hown, eT, r1⟩ := P
  obtain ⟨cl, A, -, S, hN, H⟩ := V
  obtain ⟨q1, q2⟩ := k_idx hj (S.symm ▸ hJ)
  exact k'.step fun t q => X.laload C.1 (by rw [eT]; exact A.1) (State.isArrayOf_alike hZ.alike A.2.1) A.2.2 q1 (by rw [q2]; exact H J hJ) (g := mkF m pc Ls (.int j :: .ref a :: st)) rfl rfl (hb C.cdE hd) t q
theorem k_caload {k : ClassId} {N J : Nat} {f : Nat → Value} {j : Int32} {v : Value} (C : KCx tbl nm cod ml ret p meth c Z a0) (P : KPos wd p l e R s m args below meth c Z own n0 h0 ws T h cells slots) (V : KVA Z h a k .char N f) (hd : decode cod pc = .ok (.caload, 1)) (hj : j.toInt = (J : Int)) (hJ : J < N) (hv : f J = v) {pc' : Nat} (hp : pc + 1 = pc') (k' : KGo p e below K T m pc' Ls (v :: st)) : KGo p e below K T m pc Ls (.int j :: .ref a :: st) := by
  subst hp hv
  obtain ⟨s', L, X, B, hZ, hown, eT, r1⟩ := P
  obtain ⟨cl, A, -, S, hN, H⟩ := V
  obtain ⟨q1, q2⟩ := k_idx hj (S.symm ▸ hJ)
  exact k'.step fun t q => X.caload C.1 (by rw [eT]; exact A.1) (State.isArrayOf_alike hZ.alike A.2.1) A.2.2 q1 (by rw [q2]; exact H J hJ) (g := mkF m pc Ls (.int j :: .ref a :: st)) rfl rfl (hb C.cdE hd) t q
theorem k_baload {k : ClassId} {N J : Nat} {f : Nat → Value} {j : Int32} {v : Value} (C : KCx tbl nm cod ml ret p meth c Z a0) (P : KPos wd p l e R s m args below meth c Z own n0 h0 ws T h cells slots) (V : KVA Z h a k .byte N f) (hd : decode cod pc = .ok (.baload, 1)) (hj : j.toInt = (J : Int)) (hJ : J < N) (hv : f J = v) {pc' : Nat} (hp : pc + 1 = pc') (k' : KGo p e below K T m pc' Ls (v :: st)) : KGo p e below K T m pc Ls (.int j :: .ref a :: st) := by
  subst hp hv
  obtain ⟨s', L, X, B, hZ, hown, eT, r1⟩ := P
  obtain ⟨cl, A, -, S, hN, H⟩ := V
  obtain ⟨q1, q2⟩ := k_idx hj (S.symm ▸ hJ)
  exact k'.step fun t q => X.baloadBytes C.1 (by rw [eT]; exact A.1) (State.isArrayOf_alike hZ.alike A.2.1) A.2.2 q1 (by rw [q2]; exact H J hJ) (g := mkF m pc Ls (.int j :: .ref a :: st)) rfl rfl (hb C.cdE hd) t q
theorem k_daload {k : ClassId} {N J : Nat} {f : Nat → Value} {j : Int32} {v : Value} (C : KCx tbl nm cod ml ret p meth c Z a0) (P : KPos wd p l e R s m args below meth c Z own n0 h0 ws T h cells slots) (V : KVA Z h a k .double N f) (hd : decode cod pc = .ok (.daload, 1)) (hj : j.toInt = (J : Int)) (hJ : J < N) (hv : f J = v) {pc' : Nat} (hp : pc + 1 = pc') (k' : KGo p e below K T m pc' Ls (v :: st)) : KGo p e below K T m pc Ls (.int j :: .ref a :: st) := by
  subst hp hv
  obtain ⟨s', L, X, B, hZ, hown, eT, r1⟩ := P
  obtain ⟨cl, A, -, S, hN, H⟩ := V
  obtain ⟨q1, q2⟩ := k_idx hj (S.symm ▸ hJ)
  exact k'.step fun t q => X.daload C.1 (by rw [eT]; exact A.1) (State.isArrayOf_alike hZ.alike A.2.1) A.2.2 q1 (by rw [q2]; exact H J hJ) (g := mkF m pc Ls (.int j :: .ref a :: st)) rfl rfl (hb C.cdE hd) t q
theorem k_aaload {k : ClassId} {ty : FieldType} {N J : Nat} {f : Nat → Value} {j : Int32} {v : Value} (C : KCx tbl nm cod ml ret p meth c Z a0) (P : KPos wd p l e R s m args below meth c Z own n0 h0 ws T h cells slots) (V : KVA Z h a k ty N f) (hty : ty.isReference = true) (hd : decode cod pc = .ok (.aaload, 1)) (hj : j.toInt = (J : Int)) (hJ : J < N) (hv : f J = v) {pc' : Nat} (hp : pc + 1 = pc') (k' : KGo p e below K T m pc' Ls (v :: st)) : KGo p e below K T m pc Ls (.int j :: .ref a :: st) := by
  subst hp hv
  obtain ⟨s', L, X, B, hZ, hown, eT, r1⟩ := P
  obtain ⟨cl, A, -, S, hN, H⟩ := V
  obtain ⟨q1, q2⟩ := k_idx hj (S.symm ▸ hJ)
  exact k'.step fun t q => X.aaload C.1 (by rw [eT]; exact A.1) (State.isArrayOf_alike hZ.alike A.2.1) hty A.2.2 q1 (by rw [q2]; exact H J hJ) (g := mkF m pc Ls (.int j :: .ref a :: st)) rfl rfl (hb C.cdE hd) t q
theorem k_iastore {k : ClassId} {N J : Nat} {f g' : Nat → Value} {j : Int32} {x : Int32} (C : KCx tbl nm cod ml ret p meth c Z a0) (P : KPos wd p l e R s m args below meth c Z own n0 h0 ws T h cells slots) (V : KVA Z h a k .int N f) (hd : decode cod pc = .ok (.iastore, 1)) (hj : j.toInt = (J : Int)) (hJ : J < N) (hg' : ∀ i, i < N → (if i = J then (.int x : Value) else f i) = g' i) (ha : n0 ≤ a) (hk : a ∈ ws ∨ h0.size ≤ a) {pc' : Nat} (hp : pc + 1 = pc') (k' : ∀ T' h', KPos wd p l e R s m args below meth c Z own n0 h0 ws T' h' cells slots → Wr h h' a J (.int x) → KVA Z h' a k .int N g' → KGo p e below K T' m pc' Ls st) : KGo p e below K T m pc Ls (.int x :: .int j :: .ref a :: st) := by
  subst hp
  obtain ⟨s', Lo, X, B, hZ, hown, eT, r1, r2, r3⟩ := P
  have V0 := V
  obtain ⟨cl, A, -, S, hN, H⟩ := V
  obtain ⟨q1, q2⟩ := k_idx hj (S.symm ▸ hJ)
  obtain ⟨T', h', X', e', W, stp⟩ := stI X C.1 hZ eT A q1 (g := mkF m pc Ls (.int x :: .int j :: .ref a :: st)) rfl rfl (hb C.cdE hd)
  have W' := W
  rw [q2] at W'
  exact (k' T' h' ⟨s', _, X', B.mono (Nat.le_of_eq W.size.symm), hZ, hown, e', W.size ▸ r1, Fr.snoc X' r2 ha, r3.wr W hk⟩ W' (V0.set W' hg')).step stp
theorem k_lastore {k : ClassId} {N J : Nat} {f g' : Nat → Value} {j : Int32} {x : Int64} (C : KCx tbl nm cod ml ret p meth c Z a0) (P : KPos wd p l e R s m args below meth c Z own n0 h0 ws T h cells slots) (V : KVA Z h a k .long N f) (hd : decode cod pc = .ok (.lastore, 1)) (hj : j.toInt = (J : Int)) (hJ : J < N) (hg' : ∀ i, i < N → (if i = J then (.long x : Value) else f i) = g' i) (ha : n0 ≤ a) (hk : a ∈ ws ∨ h0.size ≤ a) {pc' : Nat} (hp : pc + 1 = pc') (k' : ∀ T' h', KPos wd p l e R s m args below meth c Z own n0 h0 ws T' h' cells slots → Wr h h' a J (.long x) → KVA Z h' a k .long N g' → KGo p e below K T' m pc' Ls st) : KGo p e below K T m pc Ls (.long x :: .int j :: .ref a :: st) := by
  subst hp
  obtain ⟨s', Lo, X, B, hZ, hown, eT, r1, r2, r3⟩ := P
  have V0 := V
  obtain ⟨cl, A, -, S, hN, H⟩ := V
  obtain ⟨q1, q2⟩ := k_idx hj (S.symm ▸ hJ)
  obtain ⟨T', h', X', e', W, stp⟩ := stJ X C.1 hZ eT A q1 (g := mkF m pc Ls (.long x :: .int j :: .ref a :: st)) rfl rfl (hb C.cdE hd)
  have W' := W
  rw [q2] at W'
  exact (k' T' h' ⟨s', _, X', B.mono (Nat.le_of_eq W.size.symm), hZ, hown, e', W.size ▸ r1, Fr.snoc X' r2 ha, r3.wr W hk⟩ W' (V0.set W' hg')).step stp
theorem k_castore {k : ClassId} {N J : Nat} {f g' : Nat → Value} {j : Int32} {x : Int32} (C : KCx tbl nm cod ml ret p meth c Z a0) (P : KPos wd p l e R s m args below meth c Z own n0 h0 ws T h cells slots) (V : KVA Z h a k .char N f) (hd : decode cod pc = .ok (.castore, 1)) (hj : j.toInt = (J : Int)) (hJ : J < N) (hg' : ∀ i, i < N → (if i = J then (.int (nar .char x) : Value) else f i) = g' i) (ha : n0 ≤ a) (hk : a ∈ ws ∨ h0.size ≤ a) {pc' : Nat} (hp : pc + 1 = pc') (k' : ∀ T' h', KPos wd p l e R s m args below meth c Z own n0 h0 ws T' h' cells slots → Wr h h' a J (.int (nar .char x)) → KVA Z h' a k .char N g' → KGo p e below K T' m pc' Ls st) : KGo p e below K T m pc Ls (.int x :: .int j :: .ref a :: st) := by
  subst hp
  obtain ⟨s', Lo, X, B, hZ, hown, eT, r1, r2, r3⟩ := P
  have V0 := V
  obtain ⟨cl, A, -, S, hN, H⟩ := V
  obtain ⟨q1, q2⟩ := k_idx hj (S.symm ▸ hJ)
  obtain ⟨T', h', X', e', W, stp⟩ := stC X C.1 hZ eT A q1 (g := mkF m pc Ls (.int x :: .int j :: .ref a :: st)) rfl rfl (hb C.cdE hd)
  have W' := W
  rw [q2] at W'
  exact (k' T' h' ⟨s', _, X', B.mono (Nat.le_of_eq W.size.symm), hZ, hown, e', W.size ▸ r1, Fr.snoc X' r2 ha, r3.wr W hk⟩ W' (V0.set W' hg')).step stp
theorem k_bastore {k : ClassId} {N J : Nat} {f g' : Nat → Value} {j : Int32} {x : Int32} (C : KCx tbl nm cod ml ret p meth c Z a0) (P : KPos wd p l e R s m args below meth c Z own n0 h0 ws T h cells slots) (V : KVA Z h a k .byte N f) (hd : decode cod pc = .ok (.bastore, 1)) (hj : j.toInt = (J : Int)) (hJ : J < N) (hg' : ∀ i, i < N → (if i = J then (.int (nar .byte x) : Value) else f i) = g' i) (ha : n0 ≤ a) (hk : a ∈ ws ∨ h0.size ≤ a) {pc' : Nat} (hp : pc + 1 = pc') (k' : ∀ T' h', KPos wd p l e R s m args below meth c Z own n0 h0 ws T' h' cells slots → Wr h h' a J (.int (nar .byte x)) → KVA Z h' a k .byte N g' → KGo p e below K T' m pc' Ls st) : KGo p e below K T m pc Ls (.int x :: .int j :: .ref a :: st) := by
  subst hp
  obtain ⟨s', Lo, X, B, hZ, hown, eT, r1, r2, r3⟩ := P
  have V0 := V
  obtain ⟨cl, A, -, S, hN, H⟩ := V
  obtain ⟨q1, q2⟩ := k_idx hj (S.symm ▸ hJ)
  obtain ⟨T', h', X', e', W, stp⟩ := stB X C.1 hZ eT A q1 (g := mkF m pc Ls (.int x :: .int j :: .ref a :: st)) rfl rfl (hb C.cdE hd)
  have W' := W
  rw [q2] at W'
  exact (k' T' h' ⟨s', _, X', B.mono (Nat.le_of_eq W.size.symm), hZ, hown, e', W.size ▸ r1, Fr.snoc X' r2 ha, r3.wr W hk⟩ W' (V0.set W' hg')).step stp
theorem k_dastore {k : ClassId} {N J : Nat} {f g' : Nat → Value} {j : Int32} {x : UInt64} (C : KCx tbl nm cod ml ret p meth c Z a0) (P : KPos wd p l e R s m args below meth c Z own n0 h0 ws T h cells slots) (V : KVA Z h a k .double N f) (hd : decode cod pc = .ok (.dastore, 1)) (hj : j.toInt = (J : Int)) (hJ : J < N) (hg' : ∀ i, i < N → (if i = J then (.double x : Value) else f i) = g' i) (ha : n0 ≤ a) (hk : a ∈ ws ∨ h0.size ≤ a) {pc' : Nat} (hp : pc + 1 = pc') (k' : ∀ T' h', KPos wd p l e R s m args below meth c Z own n0 h0 ws T' h' cells slots → Wr h h' a J (.double x) → KVA Z h' a k .double N g' → KGo p e below K T' m pc' Ls st) : KGo p e below K T m pc Ls (.double x :: .int j :: .ref a :: st) := by
  subst hp
  obtain ⟨s', Lo, X, B, hZ, hown, eT, r1, r2, r3⟩ := P
  have V0 := V
  obtain ⟨cl, A, -, S, hN, H⟩ := V
  obtain ⟨q1, q2⟩ := k_idx hj (S.symm ▸ hJ)
  obtain ⟨T', h', X', e', W, stp⟩ := stD X C.1 hZ eT A q1 (g := mkF m pc Ls (.double x :: .int j :: .ref a :: st)) rfl rfl (hb C.cdE hd)
  have W' := W
  rw [q2] at W'
  exact (k' T' h' ⟨s', _, X', B.mono (Nat.le_of_eq W.size.symm), hZ, hown, e', W.size ▸ r1, Fr.snoc X' r2 ha, r3.wr W hk⟩ W' (V0.set W' hg')).step stp
theorem k_aastore {k : ClassId} {ty : FieldType} {N J : Nat} {f g' : Nat → Value} {j : Int32} {x : Value} (C : KCx tbl nm cod ml ret p meth c Z a0) (P : KPos wd p l e R s m args below meth c Z own n0 h0 ws T h cells slots) (V : KVA Z h a k ty N f) (hty : ty.isReference = true) (S0 : Sto Z h a x) (hd : decode cod pc = .ok (.aastore, 1)) (hj : j.toInt = (J : Int)) (hJ : J < N) (hg' : ∀ i, i < N → (if i = J then x else f i) = g' i) (ha : n0 ≤ a) (hk : a ∈ ws ∨ h0.size ≤ a) {pc' : Nat} (hp : pc + 1 = pc') (k' : ∀ T' h', KPos wd p l e R s m args below meth c Z own n0 h0 ws T' h' cells slots → Wr h h' a J x → KVA Z h' a k ty N g' → KGo p e below K T' m pc' Ls st) : KGo p e below K T m pc Ls (x :: .int j :: .ref a :: st) := by
  subst hp
  obtain ⟨s', Lo, X, B, hZ, hown, eT, r1, r2, r3⟩ := P
  have V0 := V
  obtain ⟨cl, A, -, S, hN, H⟩ := V
  obtain ⟨q1, q2⟩ := k_idx hj (S.symm ▸ hJ)
  obtain ⟨T', h', X', e', W, stp⟩ := stR X C.1 hZ eT A q1 hty S0 (g := mkF m pc Ls (x :: .int j :: .ref a :: st)) rfl rfl (hb C.cdE hd)
  have W' := W
  rw [q2] at W'
  exact (k' T' h' ⟨s', _, X', B.mono (Nat.le_of_eq W.size.symm), hZ, hown, e', W.size ▸ r1, Fr.snoc X' r2 ha, r3.wr W hk⟩ W' (V0.set W' hg')).step stp
theorem KVA.sto {k : ClassId} {N : Nat} {f : Nat → Value} {Cn K1 : String} {ty : FieldType} (V : KVA Z h a k ty N f) (O : Ovr Z k Cn) (I : Ins Z h b Cn true) : Sto Z h a (.ref b) := by
  obtain ⟨cl, A, q, -⟩ := V; exact Sto.ofV A q O I
theorem KVA.stoA {k : ClassId} {N : Nat} {f : Nat → Value} {Cn : String} {ty t0 : FieldType} (V : KVA Z h a k t0 N f) (O : OvrA Z k ty Cn) (I : Ins Z h b Cn true) : Sto Z h a (.ref b) := by
  obtain ⟨cl, A, q, -⟩ := V; exact Sto.ofVA A q O I
theorem k_ldcI {index : Nat} {z : Int32} (C : KCx tbl nm cod ml ret p meth c Z a0) (P : KPos wd p l e R s m args below meth c Z own n0 h0 ws T h cells slots) (w : (Jvm.Cond.constant own index z).before a0 Z = true) (hd : decode cod pc = .ok (.ldc index, 2)) {pc' : Nat} (hp : pc + 2 = pc') (k' : KGo p e below K T m pc' Ls (.int z :: st)) : KGo p e below K T m pc Ls st := by
  subst hp
  obtain ⟨s', L, X, B, hZ, hown, eT, r1⟩ := P
  exact k'.step fun t q => X.ldcInt C.1 hown (mvT hZ w) (g := mkF m pc Ls st) rfl (hb C.cdE hd) t q
theorem k_ldc2L {index : Nat} {z : Int64} (C : KCx tbl nm cod ml ret p meth c Z a0) (P : KPos wd p l e R s m args below meth c Z own n0 h0 ws T h cells slots) (w : (Jvm.Cond.constantLong own index z).before a0 Z = true) (hd : decode cod pc = .ok (.ldc2_w index, 3)) {pc' : Nat} (hp : pc + 3 = pc') (k' : KGo p e below K T m pc' Ls (.long z :: st)) : KGo p e below K T m pc Ls st := by
  subst hp
  obtain ⟨s', L, X, B, hZ, hown, eT, r1⟩ := P
  exact k'.step fun t q => X.ldc2Long C.1 hown (mvT hZ w) (g := mkF m pc Ls st) rfl (hb C.cdE hd) t q
theorem k_ldc2D {index : Nat} {z : UInt64} (C : KCx tbl nm cod ml ret p meth c Z a0) (P : KPos wd p l e R s m args below meth c Z own n0 h0 ws T h cells slots) (w : (Jvm.Cond.constantDouble own index z).before a0 Z = true) (hd : decode cod pc = .ok (.ldc2_w index, 3)) {pc' : Nat} (hp : pc + 3 = pc') (k' : KGo p e below K T m pc' Ls (.double z :: st)) : KGo p e below K T m pc Ls st := by
  subst hp
  obtain ⟨s', L, X, B, hZ, hown, eT, r1⟩ := P
  exact k'.step fun t q => X.ldc2DoubleC C.1 hown (mvT hZ w) (g := mkF m pc Ls st) rfl (hb C.cdE hd) t q
theorem k_castO {Kn : String} {index : Nat} (C : KCx tbl nm cod ml ret p meth c Z a0) (P : KPos wd p l e R s m args below meth c Z own n0 h0 ws T h cells slots) (w : (Jvm.Cond.classLink own index Kn).before a0 Z = true) (F : Ins Z h a Kn true) (hd : decode cod pc = .ok (.checkcast index, 3)) {pc' : Nat} (hp : pc + 3 = pc') (k' : ∀ T', KPos wd p l e R s m args below meth c Z own n0 h0 ws T' h cells slots → KGo p e below K T' m pc' Ls (.ref a :: st)) : KGo p e below K T m pc Ls (.ref a :: st) := by
  subst hp
  obtain ⟨s', L, X, B, hZ, hown, eT, r1⟩ := P
  obtain ⟨T', X', e', stp⟩ := castY X C.1 hZ hown w eT F (g := mkF m pc Ls (.ref a :: st)) rfl rfl (hb C.cdE hd)
  exact (k' T' ⟨s', L, X', B, hZ, hown, e', r1⟩).step stp
/-! ### calls -/
theorem k_initObj {index W : Nat} (C : KCx tbl nm cod ml ret p meth c Z a0) (P : KPos wd p l e R s m args below meth c Z own n0 h0 ws T h cells slots) (w1 : (Jvm.Cond.methodLink own index Lib.objectInit).before a0 Z = true) (w2 : (Jvm.Cond.instanceMethod Lib.objectInit).before a0 Z = true) (w3 : (Jvm.Cond.code Lib.objectInit ⟨#[0xb1]⟩ 1 none).before a0 Z = true)
    (hd : decode cod pc = .ok (.invokespecial index, 3)) (hsz : Ls.size = ml) (hf : 1 ≤ R.frames) (hW : (st.map fun v => v.category).sum ≤ W) (hl : W + 12 ≤ R.locals) {pc' : Nat} (hp : pc + 3 = pc') (k' : ∀ T', KPos wd p l e R s m args below meth c Z own n0 h0 ws T' h cells slots → KGo p e below K T' m pc' Ls st) : KGo p e below K T m pc Ls (.ref a :: st) := by
  subst hp
  obtain ⟨s', L, X, B, hZ, hown, eT, r1⟩ := P
  obtain ⟨T', X', e', stp⟩ := initO X C.1 hZ hown w1 w2 w3 eT (g := mkF m pc Ls (.ref a :: st)) rfl (hsz.trans C.mlE.symm) rfl (hb C.cdE hd) hf (by show 2 * 0 + _ ≤ _; rw [Nat.mul_zero, Nat.zero_add]; exact hW) hl
  exact (k' T' ⟨s', L, X', B, hZ, hown, e', r1⟩).step stp
theorem k_callN {y : MethodName} {index W maxL : Nat} {bytes : ByteArray} {rm : Room} {as : Array Value} {ws' : List Addr} {Q : Option Value → Heap → Prop} (C : KCx tbl nm cod ml ret p meth c Z a0) (P : KPos wd p l e R s m args below meth c Z own n0 h0 ws T h cells slots)
    (hy1 : y.name = "<init>") (w1 : (Jvm.Cond.methodLink own index y).before a0 Z = true) (w2 : (Jvm.Cond.instanceMethod y).before a0 Z = true) (w3 : (Jvm.Cond.code y bytes maxL none).before a0 Z = true) (w4 : (Jvm.Cond.initialized y.cls).before a0 Z = true) (hy : y.cls ≠ "java/lang/invoke/MethodHandle" ∧ y.cls ≠ "java/lang/invoke/VarHandle")
    (hM : KCt false l y bytes maxL none rm Z n0 h as ws' Q) (a : Addr) (argsL rest : List Value) (has : as = (.ref a :: argsL).toArray) (hlen : ∀ sig, parseMethodDescriptor y.desc = some sig → argsL.length = sig.parameters.length) (hst : st = argsL.reverse ++ .ref a :: rest) (hW : (rest.map fun v => v.category).sum ≤ W)
    (hd : decode cod pc = .ok (.invokespecial index, 3)) (hsz : Ls.size = ml) (hf : rm.frames + 1 ≤ R.frames) (hl : W + (maxL + 11) + rm.locals ≤ R.locals) {cells' slots' : Nat} (hc : cells + rm.cells = cells') (hs : slots + rm.slots = slots') (hc' : cells' ≤ R.cells) (hs' : slots' ≤ R.slots) (hws : ∀ x ∈ ws', x ∈ ws ∨ h0.size ≤ x) {pc' : Nat} (hp : pc + 3 = pc')
    (k' : ∀ T' h' v, KPos wd p l e R s m args below meth c Z own n0 h0 ws T' h' cells' slots' → Keep h h' ws' → Q v h' → KGo p e below K T' m pc' Ls (v.toList ++ rest)) : KGo p e below K T m pc Ls st := by
  subst hp hc hs has
  obtain ⟨s', L, X, B, hZ, hown, eT, r1, r2, r3⟩ := P
  obtain ⟨v, _, ⟨T', L', k1, n1⟩, -, X', ⟨Lc, ⟨q1, q2, q3⟩, l1, y1, z1⟩, stp⟩ := X.specialBack C.1 (y := y) hy1 hown (mvT hZ w1) (mvT hZ w2) (mvT hZ w3) hy (backOf (W := W) (Q := fun v h' L => Fr n0 L ∧ Keep h h' ws' ∧ Q v h') hM.plain hZ w3 w4 hf hl) (g := mkF m pc Ls st) rfl (hsz.trans C.mlE.symm) (Steps.refl _) (a := a) (argsL := argsL) (rest := rest) hlen hst (by show 2 * 0 + _ ≤ _; rw [Nat.mul_zero, Nat.zero_add]; exact hW) (hb C.cdE hd) (fun _ _ => ⟨rfl, eT, hc', hs'⟩)
  dsimp only [Pt.U, Pt.locs, Pt.cells, Pt.slots] at X' l1 y1 z1 stp q2 q3
  subst l1 y1 z1
  exact (k' T' T'.heap v ⟨s', _, X', B.mono q2.1, hZ, hown, rfl, Nat.le_trans r1 q2.1, Fr.app r2 q1, r3.trans q2 hws⟩ q2 q3).step fun t q => stp.trans q
theorem k_callV {y z : MethodName} {Cn : String} {index W maxL : Nat} {bytes : ByteArray} {rt : Option FieldType} {rm : Room} {as : Array Value} {ws' : List Addr} {Q : Option Value → Heap → Prop} (C : KCx tbl nm cod ml ret p meth c Z a0) (P : KPos wd p l e R s m args below meth c Z own n0 h0 ws T h cells slots)
    (w1 : (Jvm.Cond.methodLink own index y).before a0 Z = true) (wdc : (Jvm.Cond.declares y).before a0 Z = true) (nf : ∀ s' : State, Z.Warmed39 s'.vm → NotFace s' y) (wsel : (Jvm.Cond.selects Cn y z).before a0 Z = true) (w2 : (Jvm.Cond.instanceMethod z).before a0 Z = true) (w3 : (Jvm.Cond.code z bytes maxL rt).before a0 Z = true) (w4 : (Jvm.Cond.initialized z.cls).before a0 Z = true) (hy : y.cls ≠ "java/lang/invoke/MethodHandle" ∧ y.cls ≠ "java/lang/invoke/VarHandle")
    (hM : KCt false l z bytes maxL rt rm Z n0 h as ws' Q) (E : Exa Z h a Cn) (argsL rest : List Value) (has : as = (.ref a :: argsL).toArray) (hlen : ∀ sig, parseMethodDescriptor y.desc = some sig → argsL.length = sig.parameters.length) (hst : st = argsL.reverse ++ .ref a :: rest) (hW : (rest.map fun v => v.category).sum ≤ W)
    (hd : decode cod pc = .ok (.invokevirtual index, 3)) (hsz : Ls.size = ml) (hf : rm.frames + 1 ≤ R.frames) (hl : W + (maxL + 11) + rm.locals ≤ R.locals) {cells' slots' : Nat} (hc : cells + rm.cells = cells') (hs : slots + rm.slots = slots') (hc' : cells' ≤ R.cells) (hs' : slots' ≤ R.slots) (hws : ∀ x ∈ ws', x ∈ ws ∨ h0.size ≤ x) {pc' : Nat} (hp : pc + 3 = pc')
    (k' : ∀ T' h' v, KPos wd p l e R s m args below meth c Z own n0 h0 ws T' h' cells' slots' → Keep h h' ws' → Q v h' → KGo p e below K T' m pc' Ls (v.toList ++ rest)) : KGo p e below K T m pc Ls st := by
  subst hp hc hs has
  obtain ⟨s', L, X, B, hZ, hown, eT, r1, r2, r3⟩ := P
  obtain ⟨cq, kq, qa, qb, qc⟩ := isOf hZ eT E
  obtain ⟨v, _, ⟨T', L', k1, n1⟩, -, X', ⟨Lc, ⟨q1, q2, q3⟩, l1, y1, z1⟩, stp⟩ := X.virtualBack C.1 (y := y) (z := z) hown (mvT hZ w1) (mvT hZ wdc) (nf s' hZ) (mvT hZ wsel) (mvT hZ w2) hy (backOf (W := W) (Q := fun v h' L => Fr n0 L ∧ Keep h h' ws' ∧ Q v h') hM.plain hZ w3 w4 hf hl) qa qc (g := mkF m pc Ls st) rfl (hsz.trans C.mlE.symm) (Steps.refl _) (argsL := argsL) (rest := rest) hlen hst (by show 2 * 0 + _ ≤ _; rw [Nat.mul_zero, Nat.zero_add]; exact hW) (hb C.cdE hd) (fun _ _ => ⟨rfl, eT, hc', hs'⟩)
  dsimp only [Pt.U, Pt.locs, Pt.cells, Pt.slots] at X' l1 y1 z1 stp q2 q3
  subst l1 y1 z1
  exact (k' T' T'.heap v ⟨s', _, X', B.mono q2.1, hZ, hown, rfl, Nat.le_trans r1 q2.1, Fr.app r2 q1, r3.trans q2 hws⟩ q2 q3).step fun t q => stp.trans q
theorem k_callI {xi y : MethodName} {Cn : String} {index count W maxL : Nat} {bytes : ByteArray} {rt : Option FieldType} {rm : Room} {as : Array Value} {ws' : List Addr} {Q : Option Value → Heap → Prop} (C : KCx tbl nm cod ml ret p meth c Z a0) (P : KPos wd p l e R s m args below meth c Z own n0 h0 ws T h cells slots)
    (w1 : (Jvm.Cond.methodLink own index xi).before a0 Z = true) (wdc : (Jvm.Cond.declares xi).before a0 Z = true) (wf : (Jvm.Cond.interfaceMethod xi.cls xi.cls xi.name xi.desc).before a0 Z = true) (wsel : (Jvm.Cond.selects Cn xi y).before a0 Z = true) (w2 : (Jvm.Cond.instanceMethod y).before a0 Z = true) (wp : (Jvm.Cond.publicMethod y).before a0 Z = true) (wu : (Jvm.Cond.unhidden Cn xi.name xi.desc).before a0 Z = true) (wc : (Jvm.Cond.castable Cn xi.cls).before a0 Z = true)
    (w3 : (Jvm.Cond.code y bytes maxL rt).before a0 Z = true) (w4 : (Jvm.Cond.initialized y.cls).before a0 Z = true) (hy : xi.cls ≠ "java/lang/invoke/MethodHandle" ∧ xi.cls ≠ "java/lang/invoke/VarHandle")
    (hM : KCt false l y bytes maxL rt rm Z n0 h as ws' Q) (E : Exa Z h a Cn) (argsL rest : List Value) (has : as = (.ref a :: argsL).toArray) (hlen : ∀ sig, parseMethodDescriptor xi.desc = some sig → argsL.length = sig.parameters.length) (hst : st = argsL.reverse ++ .ref a :: rest) (hW : (rest.map fun v => v.category).sum ≤ W)
    (hd : decode cod pc = .ok (.invokeinterface index count, 5)) (hsz : Ls.size = ml) (hf : rm.frames + 1 ≤ R.frames) (hl : W + (maxL + 11) + rm.locals ≤ R.locals) {cells' slots' : Nat} (hc : cells + rm.cells = cells') (hs : slots + rm.slots = slots') (hc' : cells' ≤ R.cells) (hs' : slots' ≤ R.slots) (hws : ∀ x ∈ ws', x ∈ ws ∨ h0.size ≤ x) {pc' : Nat} (hp : pc + 5 = pc')
    (k' : ∀ T' h' v, KPos wd p l e R s m args below meth c Z own n0 h0 ws T' h' cells' slots' → Keep h h' ws' → Q v h' → KGo p e below K T' m pc' Ls (v.toList ++ rest)) : KGo p e below K T m pc Ls st := by
  subst hp hc hs has
  obtain ⟨s', L, X, B, hZ, hown, eT, r1, r2, r3⟩ := P
  obtain ⟨cq, kq, qa, qb, qc⟩ := isOf hZ eT E
  obtain ⟨v, _, ⟨T', L', k1, n1⟩, -, X', ⟨Lc, ⟨q1, q2, q3⟩, l1, y1, z1⟩, stp⟩ := X.interfaceBack C.1 (xi := xi) (y := y) hown (mvT hZ w1) (mvT hZ wdc) (mvT hZ wf (by simp [Cond.onTables, Cond.keepsFace, Cond.faceAtom, hy.1, hy.2])) (mvT hZ wsel) (mvT hZ w2) (mvT hZ wp) (mvT hZ wu) (mvT hZ wc) hy (backOf (W := W) (Q := fun v h' L => Fr n0 L ∧ Keep h h' ws' ∧ Q v h') hM.plain hZ w3 w4 hf hl) qa qb qc (g := mkF m pc Ls st) rfl (hsz.trans C.mlE.symm) (Steps.refl _) (argsL := argsL) (rest := rest) hlen hst (by show 2 * 0 + _ ≤ _; rw [Nat.mul_zero, Nat.zero_add]; exact hW) (hb C.cdE hd) (fun _ _ => ⟨rfl, eT, hc', hs'⟩)
  dsimp only [Pt.U, Pt.locs, Pt.cells, Pt.slots] at X' l1 y1 z1 stp q2 q3
  subst l1 y1 z1
  exact (k' T' T'.heap v ⟨s', _, X', B.mono q2.1, hZ, hown, rfl, Nat.le_trans r1 q2.1, Fr.app r2 q1, r3.trans q2 hws⟩ q2 q3).step fun t q => stp.trans q
theorem k_callP {y : MethodName} {Cn : String} {index W maxL : Nat} {bytes : ByteArray} {rt : Option FieldType} {rm : Room} {as : Array Value} {ws' : List Addr} {Q : Option Value → Heap → Prop} (C : KCx tbl nm cod ml ret p meth c Z a0) (P : KPos wd p l e R s m args below meth c Z own n0 h0 ws T h cells slots)
    (w1 : (Jvm.Cond.methodLink own index y).before a0 Z = true) (w2 : (Jvm.Cond.instanceMethod y).before a0 Z = true) (wsel : (Jvm.Cond.selects y.cls y y).before a0 Z = true) (wp : (Jvm.Cond.privateMethod y).before a0 Z = true) (w3 : (Jvm.Cond.code y bytes maxL rt).before a0 Z = true) (w4 : (Jvm.Cond.initialized y.cls).before a0 Z = true) (hy : y.cls ≠ "java/lang/invoke/MethodHandle" ∧ y.cls ≠ "java/lang/invoke/VarHandle")
    (hM : KCt false l y bytes maxL rt rm Z n0 h as ws' Q) (E : Exa Z h a Cn) (argsL rest : List Value) (has : as = (.ref a :: argsL).toArray) (hlen : ∀ sig, parseMethodDescriptor y.desc = some sig → argsL.length = sig.parameters.length) (hst : st = argsL.reverse ++ .ref a :: rest) (hW : (rest.map fun v => v.category).sum ≤ W)
    (hd : decode cod pc = .ok (.invokevirtual index, 3)) (hsz : Ls.size = ml) (hf : rm.frames + 1 ≤ R.frames) (hl : W + (maxL + 11) + rm.locals ≤ R.locals) {cells' slots' : Nat} (hc : cells + rm.cells = cells') (hs : slots + rm.slots = slots') (hc' : cells' ≤ R.cells) (hs' : slots' ≤ R.slots) (hws : ∀ x ∈ ws', x ∈ ws ∨ h0.size ≤ x) {pc' : Nat} (hp : pc + 3 = pc')
    (k' : ∀ T' h' v, KPos wd p l e R s m args below meth c Z own n0 h0 ws T' h' cells' slots' → Keep h h' ws' → Q v h' → KGo p e below K T' m pc' Ls (v.toList ++ rest)) : KGo p e below K T m pc Ls st := by
  subst hp hc hs has
  obtain ⟨s', L, X, B, hZ, hown, eT, r1, r2, r3⟩ := P
  obtain ⟨cq, qa, qb⟩ := E.cell
  obtain ⟨v, _, ⟨T', L', k1, n1⟩, -, X', ⟨Lc, ⟨q1, q2, q3⟩, l1, y1, z1⟩, stp⟩ := X.privateBack C.1 (y := y) hown (mvT hZ w1) (mvT hZ w2) (mvT hZ wsel) (Cond.privateMethod_at (mvP hZ wp (args := #[]))) (mvT hZ w3) hy (backOf (W := W) (Q := fun v h' L => Fr n0 L ∧ Keep h h' ws' ∧ Q v h') hM.plain hZ w3 w4 hf hl) (g := mkF m pc Ls st) rfl (hsz.trans C.mlE.symm) (Steps.refl _) (a := a) (by rw [eT]; exact qa) qb (argsL := argsL) (rest := rest) hlen hst (by show 2 * 0 + _ ≤ _; rw [Nat.mul_zero, Nat.zero_add]; exact hW) (hb C.cdE hd) (fun _ _ => ⟨rfl, eT, hc', hs'⟩)
  dsimp only [Pt.U, Pt.locs, Pt.cells, Pt.slots] at X' l1 y1 z1 stp q2 q3
  subst l1 y1 z1
  exact (k' T' T'.heap v ⟨s', _, X', B.mono q2.1, hZ, hown, rfl, Nat.le_trans r1 q2.1, Fr.app r2 q1, r3.trans q2 hws⟩ q2 q3).step fun t q => stp.trans q
theorem k_callT {y : MethodName} {index W maxL : Nat} {bytes : ByteArray} {rt : Option FieldType} {rm : Room} {as : Array Value} {ws' : List Addr} {Q : Option Value → Heap → Prop} (C : KCx tbl nm cod ml ret p meth c Z a0) (P : KPos wd p l e R s m args below meth c Z own n0 h0 ws T h cells slots)
    (w1 : (Jvm.Cond.methodLink own index y).before a0 Z = true) (w2 : (Jvm.Cond.static y).before a0 Z = true) (w3 : (Jvm.Cond.code y bytes maxL rt).before a0 Z = true) (w4 : (Jvm.Cond.initialized y.cls).before a0 Z = true) (hy : y.cls ≠ "java/lang/invoke/MethodHandle" ∧ y.cls ≠ "java/lang/invoke/VarHandle")
    (hM : KCt false l y bytes maxL rt rm Z n0 h as ws' Q) (argsL rest : List Value) (has : as = argsL.toArray) (hlen : ∀ sig, parseMethodDescriptor y.desc = some sig → argsL.length = sig.parameters.length) (hst : st = argsL.reverse ++ rest) (hW : (rest.map fun v => v.category).sum ≤ W)
    (hd : decode cod pc = .ok (.invokestatic index, 3)) (hsz : Ls.size = ml) (hf : rm.frames + 1 ≤ R.frames) (hl : W + (maxL + 11) + rm.locals ≤ R.locals) {cells' slots' : Nat} (hc : cells + rm.cells = cells') (hs : slots + rm.slots = slots') (hc' : cells' ≤ R.cells) (hs' : slots' ≤ R.slots) (hws : ∀ x ∈ ws', x ∈ ws ∨ h0.size ≤ x) {pc' : Nat} (hp : pc + 3 = pc')
    (k' : ∀ T' h' v, KPos wd p l e R s m args below meth c Z own n0 h0 ws T' h' cells' slots' → Keep h h' ws' → Q v h' → KGo p e below K T' m pc' Ls (v.toList ++ rest)) : KGo p e below K T m pc Ls st := by
  subst hp hc hs has
  obtain ⟨s', L, X, B, hZ, hown, eT, r1, r2, r3⟩ := P
  obtain ⟨v, _, ⟨T', L', k1, n1⟩, -, X', ⟨Lc, ⟨q1, q2, q3⟩, l1, y1, z1⟩, stp⟩ := Jvm.LawKit.callS X C.1 (y := y) hown (mvT hZ w1) (mvT hZ w2) (mvT hZ w4) (mvT hZ w3) hy (backOf (W := W) (Q := fun v h' L => Fr n0 L ∧ Keep h h' ws' ∧ Q v h') hM.plain hZ w3 w4 hf hl) (g := mkF m pc Ls st) rfl (hsz.trans C.mlE.symm) (argsL := argsL) (rest := rest) hlen hst (by show 2 * 0 + _ ≤ _; rw [Nat.mul_zero, Nat.zero_add]; exact hW) (hb C.cdE hd) (fun _ _ => ⟨rfl, eT, hc', hs'⟩)
  dsimp only [Pt.U, Pt.locs, Pt.cells, Pt.slots] at X' l1 y1 z1 stp q2 q3
  subst l1 y1 z1
  exact (k' T' T'.heap v ⟨s', _, X', B.mono q2.1, hZ, hown, rfl, Nat.le_trans r1 q2.1, Fr.app r2 q1, r3.trans q2 hws⟩ q2 q3).step stp
end Kit
end Jvm.OwnKit
namespace Jvm.OwnNum
theorem toInt {x : Int32} {n : Nat} (h : x.toBitVec.toNat = n) (hn : n < 2147483648) : x.toInt = (n : Int) := by
  show x.toBitVec.toInt = _
  rw [BitVec.toInt_eq_toNat_cond, if_pos (by omega), h]
theorem toNat {x : Int32} {n : Nat} (h : x.toInt = (n : Int)) : x.toBitVec.toNat = n := by
  have := x.toBitVec.isLt
  change x.toBitVec.toInt = _ at h
  rw [BitVec.toInt_eq_toNat_cond] at h
  split at h <;> omega
theorem small {x : Int32} {n : Nat} (h : x.toInt = (n : Int)) : n < 2147483648 := by have := Int32.toInt_lt x; omega
/-- x & m, m not negative -/
theorem mask (x m : Int32) {M : Nat} (hm : m.toInt = (M : Int)) : ∃ N : Nat, (x &&& m).toInt = (N : Int) ∧ N ≤ M := by
  have h1 := toNat hm
  have h2 : (x &&& m).toBitVec.toNat ≤ M := by rw [Int32.toBitVec_and, BitVec.toNat_and, h1]; exact Nat.and_le_right
  have h3 := small hm
  exact ⟨_, toInt rfl (by omega), h2⟩
theorem add {x y : Int32} {X Y : Nat} (hx : x.toInt = (X : Int)) (hy : y.toInt = (Y : Int)) (h : X + Y < 2147483648) : (x + y).toInt = ((X + Y : Nat) : Int) := by
  refine toInt ?_ h
  rw [Int32.toBitVec_add, BitVec.toNat_add, toNat hx, toNat hy]; omega
theorem rem {x y : Int32} {X Y : Nat} (hx : x.toInt = (X : Int)) (hy : y.toInt = (Y : Int)) (h : 0 < Y) : (x % y).toInt = ((X % Y : Nat) : Int) := by
  rw [(Jvm.RoadKit.c_irem x y Y hy).1 (by omega), hx]; rfl
theorem ne0 {y : Int32} {Y : Nat} (hy : y.toInt = (Y : Int)) (h : 0 < Y) : y ≠ 0 := fun e => by subst e; have : (0 : Int32).toInt = 0 := rfl; omega
theorem eq_iff {x y : Int32} {X Y : Nat} (hx : x.toInt = (X : Int)) (hy : y.toInt = (Y : Int)) : x = y ↔ X = Y := by
  rw [← Int32.toInt_inj, hx, hy]; omega
theorem lt_iff {x y : Int32} {X Y : Nat} (hx : x.toInt = (X : Int)) (hy : y.toInt = (Y : Int)) : x < y ↔ X < Y := by
  rw [Int32.lt_iff_toInt_lt, hx, hy]; omega
end Jvm.OwnNum

namespace Jvm.Pilot.@@N@@
open Jvm Jvm.ClassFile Sem Op Lib Jvm.Free Jvm.Stand Jvm.LawKit Jvm.RoadKit Jvm.OwnKit Bundle Jvm.Pilot.@@N@@.Jvm.D
theorem d1_0 : decode prog_190_method_1_code 0 = .ok (.aload_n 0, 1) := by decide +kernel
theorem d1_1 : decode prog_190_method_1_code 1 = .ok (.invokespecial 1, 3) := by decide +kernel
theorem d1_4 : decode prog_190_method_1_code 4 = .ok (.aload_n 0, 1) := by decide +kernel
theorem d1_5 : decode prog_190_method_1_code 5 = .ok (.iload_n 1, 1) := by decide +kernel
theorem d1_6 : decode prog_190_method_1_code 6 = .ok (.putfield 7, 3) := by decide +kernel
theorem d1_9 : decode prog_190_method_1_code 9 = .ok (.aload_n 0, 1) := by decide +kernel
theorem d1_10 : decode prog_190_method_1_code 10 = .ok (.iload_n 2, 1) := by decide +kernel
theorem d1_11 : decode prog_190_method_1_code 11 = .ok (.putfield 13, 3) := by decide +kernel
theorem d1_14 : decode prog_190_method_1_code 14 = .ok (.aload_n 0, 1) := by decide +kernel
theorem d1_15 : decode prog_190_method_1_code 15 = .ok (.iload_n 3, 1) := by decide +kernel
theorem d1_16 : decode prog_190_method_1_code 16 = .ok (.anewarray 2, 3) := by decide +kernel
theorem d1_19 : decode prog_190_method_1_code 19 = .ok (.putfield 16, 3) := by decide +kernel
theorem d1_22 : decode prog_190_method_1_code 22 = .ok (.aload_n 0, 1) := by decide +kernel
theorem d1_23 : decode prog_190_method_1_code 23 = .ok (.getfield 16, 3) := by decide +kernel
theorem d1_26 : decode prog_190_method_1_code 26 = .ok (.getstatic 20, 3) := by decide +kernel
theorem d1_29 : decode prog_190_method_1_code 29 = .ok (.invokestatic 24, 3) := by decide +kernel
theorem d1_32 : decode prog_190_method_1_code 32 = .ok (.return_, 1) := by decide +kernel
theorem d3_0 : decode jdk_65_method_117_code 0 = .ok (.iconst 0, 1) := by decide +kernel
theorem d3_1 : decode jdk_65_method_117_code 1 = .ok (.istore_n 2, 1) := by decide +kernel
theorem d3_2 : decode jdk_65_method_117_code 2 = .ok (.aload_n 0, 1) := by decide +kernel
theorem d3_3 : decode jdk_65_method_117_code 3 = .ok (.arraylength, 1) := by decide +kernel
theorem d3_4 : decode jdk_65_method_117_code 4 = .ok (.istore_n 3, 1) := by decide +kernel
theorem d3_5 : decode jdk_65_method_117_code 5 = .ok (.iload_n 2, 1) := by decide +kernel
theorem d3_6 : decode jdk_65_method_117_code 6 = .ok (.iload_n 3, 1) := by decide +kernel
theorem d3_7 : decode jdk_65_method_117_code 7 = .ok (.if_icmp .ge 13, 3) := by decide +kernel
theorem d3_10 : decode jdk_65_method_117_code 10 = .ok (.aload_n 0, 1) := by decide +kernel
theorem d3_11 : decode jdk_65_method_117_code 11 = .ok (.iload_n 2, 1) := by decide +kernel
theorem d3_12 : decode jdk_65_method_117_code 12 = .ok (.aload_n 1, 1) := by decide +kernel
theorem d3_13 : decode jdk_65_method_117_code 13 = .ok (.aastore, 1) := by decide +kernel
theorem d3_14 : decode jdk_65_method_117_code 14 = .ok (.iinc 2 1, 3) := by decide +kernel
theorem d3_17 : decode jdk_65_method_117_code 17 = .ok (.goto (-12), 3) := by decide +kernel
theorem d3_20 : decode jdk_65_method_117_code 20 = .ok (.return_, 1) := by decide +kernel
theorem d4_0 : decode method_3_code 0 = .ok (.iload_n 2, 1) := by decide +kernel
theorem d4_1 : decode method_3_code 1 = .ok (.iconst 1, 1) := by decide +kernel
theorem d4_2 : decode method_3_code 2 = .ok (.if_icmp .ne 12, 3) := by decide +kernel
theorem d4_5 : decode method_3_code 5 = .ok (.aload_n 0, 1) := by decide +kernel
theorem d4_6 : decode method_3_code 6 = .ok (.iload_n 1, 1) := by decide +kernel
theorem d4_7 : decode method_3_code 7 = .ok (.aconst_null, 1) := by decide +kernel
theorem d4_8 : decode method_3_code 8 = .ok (.invokevirtual 22, 3) := by decide +kernel
theorem d4_11 : decode method_3_code 11 = .ok (.goto 40, 3) := by decide +kernel
theorem d4_14 : decode method_3_code 14 = .ok (.iload_n 2, 1) := by decide +kernel
theorem d4_15 : decode method_3_code 15 = .ok (.iconst 2, 1) := by decide +kernel
theorem d4_16 : decode method_3_code 16 = .ok (.if_icmp .ne 15, 3) := by decide +kernel
theorem d4_19 : decode method_3_code 19 = .ok (.aload_n 0, 1) := by decide +kernel
theorem d4_20 : decode method_3_code 20 = .ok (.iload_n 1, 1) := by decide +kernel
theorem d4_21 : decode method_3_code 21 = .ok (.iload_n 3, 1) := by decide +kernel
theorem d4_22 : decode method_3_code 22 = .ok (.invokestatic 26, 3) := by decide +kernel
theorem d4_25 : decode method_3_code 25 = .ok (.invokevirtual 22, 3) := by decide +kernel
theorem d4_28 : decode method_3_code 28 = .ok (.goto 23, 3) := by decide +kernel
theorem d4_31 : decode method_3_code 31 = .ok (.iload_n 2, 1) := by decide +kernel
theorem d4_32 : decode method_3_code 32 = .ok (.iconst 3, 1) := by decide +kernel
theorem d4_33 : decode method_3_code 33 = .ok (.if_icmp .ne 18, 3) := by decide +kernel
theorem d4_36 : decode method_3_code 36 = .ok (.aload_n 0, 1) := by decide +kernel
theorem d4_37 : decode method_3_code 37 = .ok (.iload_n 1, 1) := by decide +kernel
theorem d4_38 : decode method_3_code 38 = .ok (.iload_n 3, 1) := by decide +kernel
theorem d4_39 : decode method_3_code 39 = .ok (.invokestatic 26, 3) := by decide +kernel
theorem d4_42 : decode method_3_code 42 = .ok (.invokevirtual 22, 3) := by decide +kernel
theorem d4_45 : decode method_3_code 45 = .ok (.aload_n 0, 1) := by decide +kernel
theorem d4_46 : decode method_3_code 46 = .ok (.iload_n 1, 1) := by decide +kernel
theorem d4_47 : decode method_3_code 47 = .ok (.aconst_null, 1) := by decide +kernel
theorem d4_48 : decode method_3_code 48 = .ok (.invokevirtual 22, 3) := by decide +kernel
theorem d4_51 : decode method_3_code 51 = .ok (.iload_n 2, 1) := by decide +kernel
theorem d4_52 : decode method_3_code 52 = .ok (.iconst 2, 1) := by decide +kernel
theorem d4_53 : decode method_3_code 53 = .ok (.if_icmp .ne 7, 3) := by decide +kernel
theorem d4_56 : decode method_3_code 56 = .ok (.iconst 1, 1) := by decide +kernel
theorem d4_57 : decode method_3_code 57 = .ok (.goto 4, 3) := by decide +kernel
theorem d4_60 : decode method_3_code 60 = .ok (.iconst 0, 1) := by decide +kernel
theorem d4_61 : decode method_3_code 61 = .ok (.ireturn, 1) := by decide +kernel
theorem d5_0 : decode jdk_33_method_22_code 0 = .ok (.iload_n 0, 1) := by decide +kernel
theorem d5_1 : decode jdk_33_method_22_code 1 = .ok (.bipush (-128), 2) := by decide +kernel
theorem d5_3 : decode jdk_33_method_22_code 3 = .ok (.if_icmp .lt 20, 3) := by decide +kernel
theorem d5_6 : decode jdk_33_method_22_code 6 = .ok (.iload_n 0, 1) := by decide +kernel
theorem d5_7 : decode jdk_33_method_22_code 7 = .ok (.getstatic 191, 3) := by decide +kernel
theorem d5_10 : decode jdk_33_method_22_code 10 = .ok (.if_icmp .gt 13, 3) := by decide +kernel
theorem d5_13 : decode jdk_33_method_22_code 13 = .ok (.getstatic 195, 3) := by decide +kernel
theorem d5_16 : decode jdk_33_method_22_code 16 = .ok (.iload_n 0, 1) := by decide +kernel
theorem d5_17 : decode jdk_33_method_22_code 17 = .ok (.sipush 128, 3) := by decide +kernel
theorem d5_20 : decode jdk_33_method_22_code 20 = .ok (.iadd, 1) := by decide +kernel
theorem d5_21 : decode jdk_33_method_22_code 21 = .ok (.aaload, 1) := by decide +kernel
theorem d5_22 : decode jdk_33_method_22_code 22 = .ok (.areturn, 1) := by decide +kernel
theorem d5_23 : decode jdk_33_method_22_code 23 = .ok (.new 1, 3) := by decide +kernel
theorem d5_26 : decode jdk_33_method_22_code 26 = .ok (.dup, 1) := by decide +kernel
theorem d5_27 : decode jdk_33_method_22_code 27 = .ok (.iload_n 0, 1) := by decide +kernel
theorem d5_28 : decode jdk_33_method_22_code 28 = .ok (.invokespecial 199, 3) := by decide +kernel
theorem d5_31 : decode jdk_33_method_22_code 31 = .ok (.areturn, 1) := by decide +kernel
theorem d6_0 : decode prog_190_method_4_code 0 = .ok (.aload_n 0, 1) := by decide +kernel
theorem d6_1 : decode prog_190_method_4_code 1 = .ok (.getfield 16, 3) := by decide +kernel
theorem d6_4 : decode prog_190_method_4_code 4 = .ok (.iload_n 1, 1) := by decide +kernel
theorem d6_5 : decode prog_190_method_4_code 5 = .ok (.aload_n 2, 1) := by decide +kernel
theorem d6_6 : decode prog_190_method_4_code 6 = .ok (.aastore, 1) := by decide +kernel
theorem d6_7 : decode prog_190_method_4_code 7 = .ok (.return_, 1) := by decide +kernel
theorem d7_0 : decode prog_190_method_13_code 0 = .ok (.aload_n 0, 1) := by decide +kernel
theorem d7_1 : decode prog_190_method_13_code 1 = .ok (.getfield 13, 3) := by decide +kernel
theorem d7_4 : decode prog_190_method_13_code 4 = .ok (.ifCond .eq 5, 3) := by decide +kernel
theorem d7_7 : decode prog_190_method_13_code 7 = .ok (.iconst 1, 1) := by decide +kernel
theorem d7_8 : decode prog_190_method_13_code 8 = .ok (.ireturn, 1) := by decide +kernel
theorem d7_9 : decode prog_190_method_13_code 9 = .ok (.aload_n 0, 1) := by decide +kernel
theorem d7_10 : decode prog_190_method_13_code 10 = .ok (.getfield 16, 3) := by decide +kernel
theorem d7_13 : decode prog_190_method_13_code 13 = .ok (.astore_n 1, 1) := by decide +kernel
theorem d7_14 : decode prog_190_method_13_code 14 = .ok (.aload_n 1, 1) := by decide +kernel
theorem d7_15 : decode prog_190_method_13_code 15 = .ok (.arraylength, 1) := by decide +kernel
theorem d7_16 : decode prog_190_method_13_code 16 = .ok (.istore_n 2, 1) := by decide +kernel
theorem d7_17 : decode prog_190_method_13_code 17 = .ok (.iconst 0, 1) := by decide +kernel
theorem d7_18 : decode prog_190_method_13_code 18 = .ok (.istore_n 3, 1) := by decide +kernel
theorem d7_19 : decode prog_190_method_13_code 19 = .ok (.iload_n 3, 1) := by decide +kernel
theorem d7_20 : decode prog_190_method_13_code 20 = .ok (.iload_n 2, 1) := by decide +kernel
theorem d7_21 : decode prog_190_method_13_code 21 = .ok (.if_icmp .ge 29, 3) := by decide +kernel
theorem d7_24 : decode prog_190_method_13_code 24 = .ok (.aload_n 1, 1) := by decide +kernel
theorem d7_25 : decode prog_190_method_13_code 25 = .ok (.iload_n 3, 1) := by decide +kernel
theorem d7_26 : decode prog_190_method_13_code 26 = .ok (.aaload, 1) := by decide +kernel
theorem d7_27 : decode prog_190_method_13_code 27 = .ok (.astore 4, 2) := by decide +kernel
theorem d7_29 : decode prog_190_method_13_code 29 = .ok (.aload 4, 2) := by decide +kernel
theorem d7_31 : decode prog_190_method_13_code 31 = .ok (.getstatic 20, 3) := by decide +kernel
theorem d7_34 : decode prog_190_method_13_code 34 = .ok (.if_acmp .eq 10, 3) := by decide +kernel
theorem d7_37 : decode prog_190_method_13_code 37 = .ok (.aload 4, 2) := by decide +kernel
theorem d7_39 : decode prog_190_method_13_code 39 = .ok (.ifnull 5, 3) := by decide +kernel
theorem d7_42 : decode prog_190_method_13_code 42 = .ok (.iconst 1, 1) := by decide +kernel
theorem d7_43 : decode prog_190_method_13_code 43 = .ok (.ireturn, 1) := by decide +kernel
theorem d7_44 : decode prog_190_method_13_code 44 = .ok (.iinc 3 1, 3) := by decide +kernel
theorem d7_47 : decode prog_190_method_13_code 47 = .ok (.goto (-28), 3) := by decide +kernel
theorem d7_50 : decode prog_190_method_13_code 50 = .ok (.iconst 0, 1) := by decide +kernel
theorem d7_51 : decode prog_190_method_13_code 51 = .ok (.ireturn, 1) := by decide +kernel
theorem d8_0 : decode jdk_33_method_23_code 0 = .ok (.aload_n 0, 1) := by decide +kernel
theorem d8_1 : decode jdk_33_method_23_code 1 = .ok (.invokespecial 202, 3) := by decide +kernel
theorem d8_4 : decode jdk_33_method_23_code 4 = .ok (.aload_n 0, 1) := by decide +kernel
theorem d8_5 : decode jdk_33_method_23_code 5 = .ok (.iload_n 1, 1) := by decide +kernel
theorem d8_6 : decode jdk_33_method_23_code 6 = .ok (.putfield 205, 3) := by decide +kernel
theorem d8_9 : decode jdk_33_method_23_code 9 = .ok (.return_, 1) := by decide +kernel
theorem d9_0 : decode jdk_18_method_1_code 0 = .ok (.aload_n 0, 1) := by decide +kernel
theorem d9_1 : decode jdk_18_method_1_code 1 = .ok (.invokespecial 1, 3) := by decide +kernel
theorem d9_4 : decode jdk_18_method_1_code 4 = .ok (.return_, 1) := by decide +kernel
theorem pd_0 : parseMethodDescriptor "([Ljava/lang/Object;Ljava/lang/Object;)V" = some ⟨[(.array (.object "java/lang/Object")), (.object "java/lang/Object")], none⟩ := by decide +kernel
theorem pd_1 : parseMethodDescriptor "()V" = some ⟨[], none⟩ := by decide +kernel
theorem pd_2 : parseMethodDescriptor "(I)V" = some ⟨[.int], none⟩ := by decide +kernel
theorem pd_3 : parseMethodDescriptor "(I)Ljava/lang/Integer;" = some ⟨[.int], some (.object "java/lang/Integer")⟩ := by decide +kernel
theorem pd_4 : parseMethodDescriptor "(ILjava/lang/Object;)V" = some ⟨[.int, (.object "java/lang/Object")], none⟩ := by decide +kernel
theorem pd_5 : parseMethodDescriptor "(ZZI)V" = some ⟨[.boolean, .boolean, .int], none⟩ := by decide +kernel
theorem pd_6 : parseMethodDescriptor "()Z" = some ⟨[], some .boolean⟩ := by decide +kernel
theorem pd_7 : parseMethodDescriptor "(Lcom/example/outrigger/outrigger/RowFragment;III)Z" = some ⟨[(.object "com/example/outrigger/outrigger/RowFragment"), .int, .int, .int], some .boolean⟩ := by decide +kernel
abbrev layR : List (String × String × String) := [("com/example/outrigger/outrigger/RowFragment", "deletesOlder", "Z"), ("com/example/outrigger/outrigger/RowFragment", "rowMarker", "Z"), ("com/example/outrigger/outrigger/RowFragment", "values", "[Ljava/lang/Object;")]
theorem lokR {Z : State} {a0 : Array Value} (hw : ∀ d ∈ tables_1, d.before a0 Z = true) : KLay Z a0 "com/example/outrigger/outrigger/RowFragment" layR := ⟨(List.forall_mem_cons.mpr ⟨⟨Or.inr (hw _ (List.mem_of_getElem? (i := 10) rfl)), by decide⟩, (List.forall_mem_cons.mpr ⟨⟨Or.inr (hw _ (List.mem_of_getElem? (i := 12) rfl)), by decide⟩, (List.forall_mem_cons.mpr ⟨⟨Or.inr (hw _ (List.mem_of_getElem? (i := 16) rfl)), by decide⟩, (by simp)⟩)⟩)⟩), by decide⟩
abbrev layI : List (String × String × String) := [("java/lang/Integer", "value", "I")]
theorem lokI {Z : State} {a0 : Array Value} (hw : ∀ d ∈ tables_1, d.before a0 Z = true) : KLay Z a0 "java/lang/Integer" layI := ⟨(List.forall_mem_cons.mpr ⟨⟨Or.inr (hw _ (List.mem_of_getElem? (i := 60) rfl)), by decide⟩, (by simp)⟩), by decide⟩
/-- a place of the values: null, UNSET (at u), or another object; b: it counts -/
def own_sl (u : Addr) (x : Value) (b : Prop) : Prop := (x = .null ∧ ¬ b) ∨ (∃ r : Addr, x = .ref r ∧ ((r = u ∧ ¬ b) ∨ (r ≠ u ∧ b)))
def own_one (s : Slot) : Prop := s = .unset ∨ ∃ w : Value, s = .val w ∧ w.category = 1
theorem own_one_val {x : Value} (h : x.category = 1) : own_one (.val x) := Or.inr ⟨x, rfl, h⟩
theorem own_fill (j i : Nat) (u : Addr) (f : Nat → Value) : (if j = i then Value.ref u else (if j < i then .ref u else f j)) = (if j < i + 1 then .ref u else f j) := by
  by_cases a : j = i
  · rw [if_pos a, if_pos (by omega)]
  · rw [if_neg a]
    by_cases b : j < i
    · rw [if_pos b, if_pos (by omega)]
    · rw [if_neg b, if_neg (by omega)]
theorem own_nb {d : Int32} (h : nar .boolean d = d) : narrow .boolean (.int d) = .int d := by
  show Value.int (nar .boolean d) = _
  rw [h]
theorem own_fb {d : Int32} (h : nar .boolean d = d) : fits .boolean (.int d) = true := by rw [← h]; exact fits_nar_bool d
theorem own_cache {x : Int32} (h1 : ¬ x < (-128 : Int32)) (h2 : ¬ (127 : Int32) < x) : ∃ J : Nat, (x + (128 : Int32)).toInt = (J : Int) ∧ J < 256 := by
  rw [Int32.lt_iff_toInt_lt] at h1 h2
  have e1 : (-128 : Int32).toInt = -128 := rfl
  have e2 : (127 : Int32).toInt = 127 := rfl
  have e3 : (128 : Int32).toInt = 128 := rfl
  refine ⟨(x.toInt + 128).toNat, ?_, by omega⟩
  rw [Int32.toInt_add, e3, Int.bmod_eq_of_le (by omega) (by omega)]
  omega
theorem own_sl0 {u : Addr} {x : Value} {b : Prop} (h : x = .null ∨ False) (hb : ¬ b) : own_sl u x b := Or.inl ⟨h.elim id False.elim, hb⟩
theorem own_sl1 {u r : Addr} {b : Prop} (h : r ≠ u) (hb : b) : own_sl u (.ref r) b := Or.inr ⟨r, rfl, Or.inr ⟨h, hb⟩⟩
theorem own_sl2 {u : Addr} {x : Value} {b : Prop} (h : own_sl u x False) (hb : ¬ b) : own_sl u x b := by
  rcases h with ⟨h, -⟩ | ⟨r, h, ⟨q, -⟩ | ⟨-, q⟩⟩
  · exact Or.inl ⟨h, hb⟩
  · exact Or.inr ⟨r, h, Or.inl ⟨q, hb⟩⟩
  · exact q.elim
theorem own_sl00 (u : Addr) : own_sl u (.ref u) False := Or.inr ⟨u, rfl, Or.inl ⟨rfl, id⟩⟩
theorem own_twice (j X : Nat) (a y : Value) (g : Nat → Value) : (if j = X then a else (if j = X then y else g j)) = (if j = X then a else g j) := by by_cases e : j = X <;> simp [e]
theorem own_same (j X : Nat) (g : Nat → Value) : g j = (if j = X then g X else g j) := by
  by_cases e : j = X
  · rw [if_pos e, e]
  · rw [if_neg e]
theorem own_slr {u : Addr} {x : Value} {b : Prop} (h : own_sl u x b) : x.isRef = true := by rcases h with ⟨rfl, -⟩ | ⟨r, rfl, -⟩ <;> rfl
theorem own_acmp {x y : Value} (h : XT.acmp .eq x y = true) : x = y := of_decide_eq_true h
theorem own_nacmp {x y : Value} (h : XT.acmp .eq x y = false) : ¬ x = y := of_decide_eq_false h
theorem own_slu {u : Addr} {x : Value} {b : Prop} (h : own_sl u x b) (e : x = .ref u) : ¬ b := by
  subst e
  rcases h with ⟨h, -⟩ | ⟨r, h, ⟨-, q⟩ | ⟨q, -⟩⟩
  · cases h
  · exact q
  · cases h; exact absurd rfl q
theorem own_sln {u : Addr} {b : Prop} (h : own_sl u .null b) : ¬ b := by
  rcases h with ⟨-, q⟩ | ⟨r, h, -⟩
  · exact q
  · cases h
theorem own_slp {u r : Addr} {b : Prop} (h : own_sl u (.ref r) b) (ne : r ≠ u) : b := by
  rcases h with ⟨h, -⟩ | ⟨r', h, ⟨q, -⟩ | ⟨-, q⟩⟩
  · cases h
  · cases h; exact absurd q ne
  · exact q
theorem own_st4 {a b : Addr} {zN i3 : Int32} {s4 : Slot} {x : Value} (h : own_one s4) (hx : x.category = 1) : storeLocals #[.val (.ref a), .val (.ref b), .val (.int zN), .val (.int i3), s4] 4 x = some #[.val (.ref a), .val (.ref b), .val (.int zN), .val (.int i3), .val x] :=
  XS.store1 (o := s4) rfl h hx
theorem own_b01 (P : Prop) [Decidable P] : (if P then (0 : Int32) else 1) = 0 ∨ (if P then (0 : Int32) else 1) = 1 := by by_cases p : P <;> simp [p]
theorem own_nar {d : Int32} (h : d = 0 ∨ d = 1) : nar .boolean d = d := by rcases h with rfl | rfl <;> rfl
theorem own_i2 {P : Prop} [Decidable P] (h : ¬ (if P then (1 : Int32) else 0) = 0) : P := by
  by_cases p : P
  · exact p
  · rw [if_neg p] at h; exact absurd rfl h
theorem own_i0 {P : Prop} [Decidable P] (h : (if P then (1 : Int32) else 0) = 0) : ¬ P := fun p => by rw [if_pos p] at h; exact absurd h (by decide)
theorem own_bs0 {u : Addr} {N : Nat} : ∀ j, j < N → own_sl u (.ref u) False := fun _ _ => own_sl00 u
theorem own_bs1 {u : Addr} {N : Nat} {x0 : Value} {b0 : Prop} (h0 : own_sl u x0 b0) : ∀ j, j < N → own_sl u (if j = 0 then x0 else .ref u) (if j = 0 then b0 else False) := fun j _ => by
  by_cases e : j = 0
  · rw [if_pos e, if_pos e]; exact h0
  · rw [if_neg e, if_neg e]; exact own_sl00 u
theorem own_bs2 {u : Addr} {N : Nat} {x0 x1 : Value} {b0 b1 : Prop} (h0 : own_sl u x0 b0) (h1 : own_sl u x1 b1) : ∀ j, j < N → own_sl u (if j = 1 then x1 else if j = 0 then x0 else .ref u) (if j = 1 then b1 else if j = 0 then b0 else False) := fun j hj => by
  by_cases e : j = 1
  · rw [if_pos e, if_pos e]; exact h1
  · rw [if_neg e, if_neg e]; exact own_bs1 h0 j hj
theorem own_bs3 {u : Addr} {N : Nat} {x0 x1 x2 : Value} {b0 b1 b2 : Prop} (h0 : own_sl u x0 b0) (h1 : own_sl u x1 b1) (h2 : own_sl u x2 b2) : ∀ j, j < N → own_sl u (if j = 2 then x2 else if j = 1 then x1 else if j = 0 then x0 else .ref u) (if j = 2 then b2 else if j = 1 then b1 else if j = 0 then b0 else False) := fun j hj => by
  by_cases e : j = 2
  · rw [if_pos e, if_pos e]; exact h2
  · rw [if_neg e, if_neg e]; exact own_bs2 h0 h1 j hj
theorem own_any0 {N : Nat} (h : ∃ j, j < N ∧ False) : False := by obtain ⟨_, _, q⟩ := h; exact q
theorem own_any1 {N : Nat} {b0 : Prop} (h : ∃ j, j < N ∧ (if j = 0 then b0 else False)) : b0 := by
  obtain ⟨j, _, q⟩ := h
  by_cases e : j = 0
  · rw [if_pos e] at q; exact q
  · rw [if_neg e] at q; exact q.elim
theorem own_any2 {N : Nat} {b0 b1 : Prop} (h : ∃ j, j < N ∧ (if j = 1 then b1 else if j = 0 then b0 else False)) : b1 ∨ b0 := by
  obtain ⟨j, hj, q⟩ := h
  by_cases e : j = 1
  · rw [if_pos e] at q; exact Or.inl q
  · rw [if_neg e] at q; exact Or.inr (own_any1 ⟨j, hj, q⟩)
theorem own_any3 {N : Nat} {b0 b1 b2 : Prop} (h : ∃ j, j < N ∧ (if j = 2 then b2 else if j = 1 then b1 else if j = 0 then b0 else False)) : b2 ∨ b1 ∨ b0 := by
  obtain ⟨j, hj, q⟩ := h
  by_cases e : j = 2
  · rw [if_pos e] at q; exact Or.inl q
  · rw [if_neg e] at q; exact Or.inr (own_any2 ⟨j, hj, q⟩)
theorem own_none0 {N : Nat} {F : Nat → Prop} (h : ∀ j, j < N → ¬ F j) (hN : 0 ≤ N) : ¬ False := id
theorem own_none1 {N : Nat} {b0 : Prop} (h : ∀ j, j < N → ¬ (if j = 0 then b0 else False)) (hN : 1 ≤ N) : ¬ b0 := fun q => h 0 (by omega) (by rw [if_pos rfl]; exact q)
theorem own_none2 {N : Nat} {b0 b1 : Prop} (h : ∀ j, j < N → ¬ (if j = 1 then b1 else if j = 0 then b0 else False)) (hN : 2 ≤ N) : ¬ (b1 ∨ b0) := fun q => q.elim (fun q => h 1 (by omega) (by rw [if_pos rfl]; exact q)) (fun q => h 0 (by omega) (by rw [if_neg (by decide), if_pos rfl]; exact q))
theorem own_none3 {N : Nat} {b0 b1 b2 : Prop} (h : ∀ j, j < N → ¬ (if j = 2 then b2 else if j = 1 then b1 else if j = 0 then b0 else False)) (hN : 3 ≤ N) : ¬ (b2 ∨ b1 ∨ b0) := fun q => q.elim (fun q => h 2 (by omega) (by rw [if_pos rfl]; exact q)) (fun q => q.elim (fun q => h 1 (by omega) (by rw [if_neg (by decide), if_pos rfl]; exact q)) (fun q => h 0 (by omega) (by rw [if_neg (by decide), if_neg (by decide), if_pos rfl]; exact q)))
abbrev own_CA : Jvm.Term := .static "java/lang/Integer$IntegerCache" "cache" "[Ljava/lang/Integer;"
theorem own_length {s : State} {args : Array Value} {t : Jvm.Term} {a : Addr} {cl : Cell} {z : Int32} (ht : t.eval args s none [] s = some (.ref a)) (ha : s.arrayAt? a = some cl) (q : (Jvm.Term.length t).eval args s none [] s = some (.int z)) : (cl.slots.size : Int) = z.toInt := by
  by_cases hl : cl.slots.size < 2 ^ 31
  · rw [len_f ht ha hl] at q
    have q2 := congrArg Int32.toInt (Value.int.inj (Option.some.inj q))
    rw [len_toInt hl] at q2
    exact q2
  · exfalso
    rw [Term.eval] at q
    simp [ht, ha, hl] at q
theorem own_start {s : State} {args : Array Value} (hs : ∀ d ∈ jdkStatics_1, d.before args s = true) (w1 : (Jvm.Cond.initialized "com/example/outrigger/outrigger/RowFragment").before args s = true) (w2 : (Jvm.Cond.laysStatic "com/example/outrigger/outrigger/RowFragment" "UNSET" "Ljava/lang/Object;").before args s = true) (w3 : (Jvm.Cond.initialized "java/lang/Integer$IntegerCache").before args s = true) (hn : narrow_1.value args s none s [] = some true) :
    ∃ u : Addr, Sta s s.heap "com/example/outrigger/outrigger/RowFragment" "UNSET" "Ljava/lang/Object;" (.ref u) ∧ Exa s s.heap u "java/lang/Object" ∧ Sta s s.heap "java/lang/Integer$IntegerCache" "high" "I" (.int 127) ∧ ∃ (ca : Addr) (kc : ClassId) (fc : Nat → Value),
      Sta s s.heap "java/lang/Integer$IntegerCache" "cache" "[Ljava/lang/Integer;" (.ref ca) ∧ KVA s s.heap ca kc (.object "java/lang/Integer") 256 fc ∧ ∀ j, j < 256 → ∃ r : Addr, fc j = .ref r ∧ Exa s s.heap r "java/lang/Integer" := by
  obtain ⟨u, eu⟩ := exa_v hn
  have h1 := hs _ (List.mem_of_getElem? (i := 1) rfl)
  have h2 := hs _ (List.mem_of_getElem? (i := 2) rfl)
  have h3 := Cond.before_iff.mp (hs _ (List.mem_of_getElem? (i := 3) rfl))
  have h4 := Cond.before_iff.mp (hs _ (List.mem_of_getElem? (i := 4) rfl))
  have h6 := Cond.before_iff.mp (hs _ (List.mem_of_getElem? (i := 6) rfl))
  have h7 := Cond.before_iff.mp (hs _ (List.mem_of_getElem? (i := 7) rfl))
  have e3 := eqv_i (Term.int_eval 127) h3
  obtain ⟨ca, ea⟩ := arr_v h4
  obtain ⟨cl, A⟩ := Arr.start ea h4
  have e6 := eqv_i (Term.int_eval 256) h6
  have hsz : cl.slots.size = 256 := by
    have q := own_length ea (A.fin (Vm.Alike.refl _)) e6
    have : (256 : Int32).toInt = 256 := rfl
    omega
  refine ⟨u, Sta.start eu (Or.inr ⟨w1, w2⟩), Exa.start eu hn, Sta.start e3 (Or.inl h1), ca, cl.cls, fun j => (cl.slots[j]?).getD .null, Sta.start ea (Or.inr ⟨w3, h2⟩), KVA.start A hsz (by decide) (fun j hj => ?_), fun j hj => ?_⟩
  · rw [Array.getElem?_eq_getElem (by omega)]; rfl
  · have et : ∀ idx, own_CA.eval args s none idx s = some (.ref ca) := fun idx => ea
    obtain ⟨u1, u2⟩ := and_e (Cond.all_elim (et []) (A.fin (Vm.Alike.refl _)) h7 j (by omega))
    obtain ⟨box, eb⟩ := exa_v u1
    have hj31 : j < 2 ^ 31 := by omega
    have en : ¬ j.toInt32 < 0 := by rw [Int32.lt_iff_toInt_lt, len_toInt hj31]; have : (0 : Int32).toInt = 0 := rfl; omega
    have ej : j.toInt32.toNatClampNeg = j := by simp only [Int32.toNatClampNeg, len_toInt hj31]; omega
    have q := elem_f (t := own_CA) (a := .index 0) (et [j]) (by have := idx_at (args := args) (s := s) (first := s) (o := none) en; rw [ej] at this; exact this) (A.fin (Vm.Alike.refl _)) en
    rw [ej] at q
    exact ⟨box, by show (cl.slots[j]?).getD .null = .ref box; rw [← q]; exact congrArg (fun z => Option.getD z Value.null) eb, exa_at eb u1⟩
set_option maxRecDepth 65536 in
set_option maxHeartbeats 40000000 in
theorem lp_fill {p : Program} {l : Launch} {e : Env} {R : Room} {s : State} {m : MethodId} {args : Array Value} {below : List Frame} {meth : Method} {c : Code} {Z : State} {a0 : Array Value} {n0 : Nat} {h0 : Heap} {ws : List Addr} {cells slots : Nat} {K : State → Outcome → Prop} (C : KCx tables_1 "fill" jdk_65_method_117_code 4 none p meth c Z a0) (b : Addr) (kk : ClassId) (N : Nat) (f : Nat → Value) (u : Addr) (zN : Int32) (hzN : zN.toInt = (N : Int)) (ge_b : n0 ≤ b) (sz_b : b ∈ ws ∨ h0.size ≤ b)
    (hk : ∀ (T : State) (h : Heap) (i2 : Int32), KPos false p l e R s m args below meth c Z "java/util/Arrays" n0 h0 ws T h cells slots → KVA Z h b kk (.object "java/lang/Object") N (fun _ => Value.ref u) → KGo p e below K T m 20 #[.val (.ref b), .val (.ref u), .val (.int i2), .val (.int zN)] []) :
    ∀ (k i : Nat) (i2 : Int32) (T : State) (h : Heap), i + k = N → i2.toInt = (i : Int) → KPos false p l e R s m args below meth c Z "java/util/Arrays" n0 h0 ws T h cells slots → KVA Z h b kk (.object "java/lang/Object") N (fun j => if j < i then .ref u else f j) → Sto Z h b (.ref u) → KGo p e below K T m 5 #[.val (.ref b), .val (.ref u), .val (.int i2), .val (.int zN)] [] := by
  intro k
  induction k with
  | zero =>
    intro i i2 T h hi hi2 P V STO
    refine k_iloadN (pc' := 6) C P d3_5 rfl rfl ?_
    refine k_iloadN (pc' := 7) C P d3_6 rfl rfl ?_
    refine k_icY (pc' := 20) C P d3_7 (fun q => by rw [OwnNum.lt_iff hi2 hzN] at q; omega) (by decide) (by decide) ?_
    exact hk _ _ _ P (V.congr (fun j hj => if_pos (by omega)))
  | succ k ih =>
    intro i i2 T h hi hi2 P V STO
    refine k_iloadN (pc' := 6) C P d3_5 rfl rfl ?_
    refine k_iloadN (pc' := 7) C P d3_6 rfl rfl ?_
    refine k_icN (pc' := 10) C P d3_7 ((OwnNum.lt_iff hi2 hzN).mpr (by omega)) rfl ?_
    refine k_aloadN (pc' := 11) C P d3_10 rfl rfl rfl ?_
    refine k_iloadN (pc' := 12) C P d3_11 rfl rfl ?_
    refine k_aloadN (pc' := 13) C P d3_12 rfl rfl rfl ?_
    refine k_aastore (J := i) (g' := (fun j => if j < i + 1 then .ref u else f j)) (pc' := 14) C P V rfl STO d3_13 hi2 (by omega) (fun j _ => own_fill j i u f) ge_b sz_b rfl ?_
    intro T1 h1 P1 W1 V1
    have f1_STO := Sto.wr W1 STO
    refine k_iinc (z := (i2 + (1 : Int32))) (l' := #[.val (.ref b), .val (.ref u), .val (.int (i2 + (1 : Int32))), .val (.int zN)]) (pc' := 17) C P1 d3_14 rfl rfl rfl rfl ?_
    refine k_goto (pc' := 5) C P1 d3_17 (by decide) (by decide) ?_
    exact ih (i + 1) _ _ _ (by omega) (OwnNum.add hi2 (show (1 : Int32).toInt = ((1 : Nat) : Int) from rfl) (by have := OwnNum.small hzN; omega)) P1 V1 f1_STO
theorem pn_3 : plainName "java/util/Arrays" = true := by first | (simp [plainName, overriddenIn]; done) | decide +kernel
theorem ef_rmFill (m : MethodId) (x0 : Addr) (x1 : Addr) : entryFrame m #[(.ref x0), (.ref x1)] 4 = mkF m 0 #[.val (.ref x0), .val (.ref x1), .unset, .unset] [] := by first | (simp [entryFrame, mkF, argsToLocals, Value.category]; done) | rfl
set_option maxRecDepth 65536 in
set_option maxHeartbeats 40000000 in
theorem rmFill (l : Launch) (Z : State) (a0 : Array Value) (hw : ∀ d ∈ tables_1, d.before a0 Z = true) (h0 : Heap) (n0 : Nat) (Z0 : n0 ≤ h0.size) (b u : Addr) (kk : ClassId) (N : Nat) (f : Nat → Value) (zN : Int32) (hzN : zN.toInt = (N : Int)) (V : KVA Z h0 b kk (.object "java/lang/Object") N f) (STO : Sto Z h0 b (.ref u)) (ge_b : n0 ≤ b) :
    KCt false l (⟨"java/util/Arrays", "fill", "([Ljava/lang/Object;Ljava/lang/Object;)V"⟩ : MethodName) jdk_65_method_117_code 4 none ({ frames := 0, cells := 0, slots := 0, locals := 0 } : Room) Z n0 h0 #[(.ref b), (.ref u)] [b] (fun v h => v = none ∧ KVA Z h b kk (.object "java/lang/Object") N (fun _ => .ref u)) := by
  refine k_enter (tbl := tables_1) (a0 := a0) (Ls := #[.val (.ref b), .val (.ref u), .unset, .unset]) (plainFor_of_name pn_3) hw Z0 (fun m => ef_rmFill m b u) ?_
  intro p e s m below meth c T C P
  have sz_b : b ∈ [b] ∨ h0.size ≤ b := Or.inl (by simp)
  refine k_iconst (z := (0 : Int32)) (pc' := 1) C P d3_0 rfl rfl ?_
  refine k_istoreN (l' := #[.val (.ref b), .val (.ref u), .val (.int (0 : Int32)), .unset]) (pc' := 2) C P d3_1 rfl rfl ?_
  refine k_aloadN (pc' := 3) C P d3_2 rfl rfl rfl ?_
  refine k_arrlen (z := zN) (pc' := 4) C P V d3_3 hzN rfl ?_
  refine k_istoreN (l' := #[.val (.ref b), .val (.ref u), .val (.int (0 : Int32)), .val (.int zN)]) (pc' := 5) C P d3_4 rfl rfl ?_
  refine lp_fill C b kk N f u zN hzN ge_b sz_b ?_ N 0 0 _ _ (by omega) rfl P (V.congr (fun j _ => (if_neg (by omega)).symm)) STO
  intro T h i2 P V
  exact k_retV C P d3_20 (by decide) (by decide) ⟨rfl, V⟩
theorem pn_1 : plainName "com/example/outrigger/outrigger/RowFragment" = true := by first | (simp [plainName, overriddenIn]; done) | decide +kernel
theorem ef_rmInit (m : MethodId) (x0 : Addr) (x1 : Int32) (x2 : Int32) (x3 : Int32) : entryFrame m #[(.ref x0), (.int x1), (.int x2), (.int x3)] 4 = mkF m 0 #[.val (.ref x0), .val (.int x1), .val (.int x2), .val (.int x3)] [] := by first | (simp [entryFrame, mkF, argsToLocals, Value.category]; done) | rfl
set_option maxRecDepth 65536 in
set_option maxHeartbeats 40000000 in
theorem rmInit (l : Launch) (Z : State) (a0 : Array Value) (hw : ∀ d ∈ tables_1, d.before a0 Z = true) (h0 : Heap) (n0 : Nat) (Z0 : n0 ≤ h0.size) (a : Addr) (d mk x : Int32) (hd1 : nar .boolean d = d) (hm1 : nar .boolean mk = mk) (N : Nat) (hN : x.toInt = (N : Int)) (hN3 : N ≤ 3) (ge_a : n0 ≤ a) (F : KOb Z h0 a "com/example/outrigger/outrigger/RowFragment" layR [.int 0, .int 0, .null]) (u : Addr) (SU : Sta Z h0 "com/example/outrigger/outrigger/RowFragment" "UNSET" "Ljava/lang/Object;" (.ref u)) (EU : Exa Z h0 u "java/lang/Object") :
    KCt false l (⟨"com/example/outrigger/outrigger/RowFragment", "<init>", "(ZZI)V"⟩ : MethodName) prog_190_method_1_code 4 none ({ frames := 2, cells := 1, slots := 3, locals := 30 } : Room) Z n0 h0 #[(.ref a), (.int d), (.int mk), (.int x)] [a] (fun v h => v = none ∧ ∃ (b : Addr) (kk : ClassId), n0 ≤ b ∧ h0.size ≤ b ∧ a ≠ b ∧ KOb Z h a "com/example/outrigger/outrigger/RowFragment" layR [.int d, .int mk, .ref b] ∧ KVA Z h b kk (.object "java/lang/Object") N (fun _ => .ref u) ∧ Ovr Z kk "java/lang/Object") := by
  refine k_enter (tbl := tables_1) (a0 := a0) (Ls := #[.val (.ref a), .val (.int d), .val (.int mk), .val (.int x)]) (plainFor_of_name pn_1) hw Z0 (fun m => ef_rmInit m a d mk x) ?_
  intro p e s m below meth c T C P
  have sz_a : a ∈ [a] ∨ h0.size ≤ a := Or.inl (by simp)
  refine k_aloadN (pc' := 1) C P d1_0 rfl rfl rfl ?_
  refine k_initObj (pc' := 4) (W := 0) C P (C.w 6 rfl) (C.w 7 rfl) (C.w 8 rfl) d1_1 rfl (by decide) (by decide) (by decide) rfl ?_
  intro T2 P2
  refine k_aloadN (pc' := 5) C P2 d1_4 rfl rfl rfl ?_
  refine k_iloadN (pc' := 6) C P2 d1_5 rfl rfl ?_
  refine k_putf (pc' := 9) (ty := .boolean) (v' := (.int d)) C P2 (C.w 9 rfl) Via.refl F 0 rfl (Or.inr ⟨(C.w 10 rfl), rfl, rfl⟩) (C.w 1 rfl) (by decide) (own_nb hd1) (own_fb hd1) d1_6 ge_a sz_a rfl ?_
  intro T3 h3 P3 W3
  have f3_a : KOb Z h3 a "com/example/outrigger/outrigger/RowFragment" layR [(.int d), (.int (0 : Int32)), .null] := F.put (lokR C.hw) 0 rfl W3 rfl
  have f3_S_UNSET := SU.wr W3
  have f3_EU := EU.wr W3
  refine k_aloadN (pc' := 10) C P3 d1_9 rfl rfl rfl ?_
  refine k_iloadN (pc' := 11) C P3 d1_10 rfl rfl ?_
  refine k_putf (pc' := 14) (ty := .boolean) (v' := (.int mk)) C P3 (C.w 11 rfl) Via.refl f3_a 1 rfl (Or.inr ⟨(C.w 12 rfl), rfl, rfl⟩) (C.w 1 rfl) (by decide) (own_nb hm1) (own_fb hm1) d1_11 ge_a sz_a rfl ?_
  intro T4 h4 P4 W4
  have f4_a : KOb Z h4 a "com/example/outrigger/outrigger/RowFragment" layR [(.int d), (.int mk), .null] := f3_a.put (lokR C.hw) 1 rfl W4 rfl
  have f4_S_UNSET := f3_S_UNSET.wr W4
  have f4_EU := f3_EU.wr W4
  refine k_aloadN (pc' := 15) C P4 d1_14 rfl rfl rfl ?_
  refine k_iloadN (pc' := 16) C P4 d1_15 rfl rfl ?_
  refine k_newr (pc' := 19) (cells' := 1) (slots' := 3) (N := N) (cap := 3) C P4 (C.w 13 rfl) (C.w 14 rfl) d1_16 hN hN3 (by decide) rfl rfl (by decide) (by decide) rfl ?_
  intro T5 h5 b5 k5 P5 hs5 ge_b5 sz_b5 E5 V5 O5
  have ne_a_b5 : a ≠ b5 := Nat.ne_of_lt (hs5 ▸ f4_a.lt)
  have f5_a := f4_a.ext E5
  have f5_S_UNSET := f4_S_UNSET.ext E5
  have f5_EU := f4_EU.ext E5
  refine k_putf (pc' := 22) (ty := (.array (.object "java/lang/Object"))) (v' := (.ref b5)) C P5 (C.w 15 rfl) Via.refl f5_a 2 rfl (Or.inr ⟨(C.w 16 rfl), rfl, rfl⟩) (C.w 1 rfl) (by decide) rfl rfl d1_19 ge_a sz_a rfl ?_
  intro T6 h6 P6 W6
  have f6_a : KOb Z h6 a "com/example/outrigger/outrigger/RowFragment" layR [(.int d), (.int mk), (.ref b5)] := f5_a.put (lokR C.hw) 2 rfl W6 rfl
  have f6_S_UNSET := f5_S_UNSET.wr W6
  have f6_EU := f5_EU.wr W6
  have f6_b5 := V5.other W6 (Ne.symm ne_a_b5)
  refine k_aloadN (pc' := 23) C P6 d1_22 rfl rfl rfl ?_
  refine k_getf (pc' := 26) C P6 (C.w 15 rfl) Via.refl f6_a 2 rfl rfl d1_23 rfl ?_
  intro T7 P7
  refine k_gets (pc' := 29) C P7 (C.w 17 rfl) Via.refl f6_S_UNSET d1_26 rfl ?_
  intro T8 P8
  refine k_callT (pc' := 32) (cells' := 1) (slots' := 3) (W := 0) C P8 (C.w 19 rfl) (C.w 20 rfl) (C.w 22 rfl) (C.w 21 rfl) (by decide) (rmFill l Z a0 hw _ n0 P8.size b5 u k5 N _ x hN f6_b5 (f6_b5.sto (K1 := "") O5 (Ins.self f6_EU)) ge_b5) [(.ref b5), (.ref u)] [] rfl (lenOf pd_0 rfl) rfl (Nat.le_of_eq rfl) d1_29 rfl (by decide) (by decide) rfl rfl (by decide) (by decide) (allS (Or.inr sz_b5) all0) rfl ?_
  intro T9 h9 v9 P9 K9 Q9
  obtain ⟨rfl, V9⟩ := Q9
  have f9_a := f6_a.keep K9 (ninS ne_a_b5 nin0)
  have f9_EU := f6_EU.keep K9
  show KGo p e below _ T9 m 32 #[.val (.ref a), .val (.int d), .val (.int mk), .val (.int x)] []
  exact k_retV C P9 d1_32 (by decide) (by decide) ⟨rfl, b5, _, ge_b5, sz_b5, ne_a_b5, f9_a, V9, O5⟩
theorem pn_9 : plainName "java/lang/Number" = true := by first | (simp [plainName, overriddenIn]; done) | decide +kernel
theorem ef_rmNum (m : MethodId) (x0 : Addr) : entryFrame m #[(.ref x0)] 1 = mkF m 0 #[.val (.ref x0)] [] := by first | (simp [entryFrame, mkF, argsToLocals, Value.category]; done) | rfl
set_option maxRecDepth 65536 in
set_option maxHeartbeats 40000000 in
theorem rmNum (l : Launch) (Z : State) (a0 : Array Value) (hw : ∀ d ∈ tables_1, d.before a0 Z = true) (h0 : Heap) (n0 : Nat) (Z0 : n0 ≤ h0.size) (a : Addr) :
    KCt false l (⟨"java/lang/Number", "<init>", "()V"⟩ : MethodName) jdk_18_method_1_code 1 none ({ frames := 1, cells := 0, slots := 0, locals := 12 } : Room) Z n0 h0 #[(.ref a)] [] (fun v h => v = none ∧ h0 = h) := by
  refine k_enter (tbl := tables_1) (a0 := a0) (Ls := #[.val (.ref a)]) (plainFor_of_name pn_9) hw Z0 (fun m => ef_rmNum m a) ?_
  intro p e s m below meth c T C P
  refine k_aloadN (pc' := 1) C P d9_0 rfl rfl rfl ?_
  refine k_initObj (pc' := 4) (W := 0) C P (C.w 58 rfl) (C.w 7 rfl) (C.w 8 rfl) d9_1 rfl (by decide) (by decide) (by decide) rfl ?_
  intro T10 P10
  exact k_retV C P10 d9_4 (by decide) (by decide) ⟨rfl, rfl⟩
theorem pn_8 : plainName "java/lang/Integer" = true := by first | (simp [plainName, overriddenIn]; done) | decide +kernel
theorem ef_rmInt (m : MethodId) (x0 : Addr) (x1 : Int32) : entryFrame m #[(.ref x0), (.int x1)] 2 = mkF m 0 #[.val (.ref x0), .val (.int x1)] [] := by first | (simp [entryFrame, mkF, argsToLocals, Value.category]; done) | rfl
set_option maxRecDepth 65536 in
set_option maxHeartbeats 40000000 in
theorem rmInt (l : Launch) (Z : State) (a0 : Array Value) (hw : ∀ d ∈ tables_1, d.before a0 Z = true) (h0 : Heap) (n0 : Nat) (Z0 : n0 ≤ h0.size) (a : Addr) (x : Int32) (ge_a : n0 ≤ a) (F : KOb Z h0 a "java/lang/Integer" layI [.int 0]) :
    KCt false l (⟨"java/lang/Integer", "<init>", "(I)V"⟩ : MethodName) jdk_33_method_23_code 2 none ({ frames := 2, cells := 0, slots := 0, locals := 24 } : Room) Z n0 h0 #[(.ref a), (.int x)] [a] (fun v h => v = none ∧ KOb Z h a "java/lang/Integer" layI [.int x]) := by
  refine k_enter (tbl := tables_1) (a0 := a0) (Ls := #[.val (.ref a), .val (.int x)]) (plainFor_of_name pn_8) hw Z0 (fun m => ef_rmInt m a x) ?_
  intro p e s m below meth c T C P
  have sz_a : a ∈ [a] ∨ h0.size ≤ a := Or.inl (by simp)
  refine k_aloadN (pc' := 1) C P d8_0 rfl rfl rfl ?_
  refine k_callN (pc' := 4) (cells' := 0) (slots' := 0) (W := 0) C P rfl (C.w 52 rfl) (C.w 53 rfl) (C.w 57 rfl) (C.w 56 rfl) (by decide) (rmNum l Z a0 hw _ n0 P.size a) a [] [] rfl (lenOf pd_1 rfl) rfl (Nat.le_of_eq rfl) d8_1 rfl (by decide) (by decide) rfl rfl (by decide) (by decide) all0 rfl ?_
  intro T11 h11 v11 P11 K11 Q11
  obtain ⟨e11, g11⟩ := Q11
  subst g11
  subst e11
  show KGo p e below _ T11 m 4 #[.val (.ref a), .val (.int x)] []
  refine k_aloadN (pc' := 5) C P11 d8_4 rfl rfl rfl ?_
  refine k_iloadN (pc' := 6) C P11 d8_5 rfl rfl ?_
  refine k_putf (pc' := 9) (ty := .int) (v' := (.int x)) C P11 (C.w 59 rfl) Via.refl F 0 rfl (Or.inr ⟨(C.w 60 rfl), rfl, rfl⟩) (C.w 47 rfl) (by decide) rfl rfl d8_6 ge_a sz_a rfl ?_
  intro T12 h12 P12 W12
  have f12_a : KOb Z h12 a "java/lang/Integer" layI [(.int x)] := F.put (lokI C.hw) 0 rfl W12 rfl
  exact k_retV C P12 d8_9 (by decide) (by decide) ⟨rfl, f12_a⟩
theorem pn_5 : plainName "java/lang/Integer" = true := by first | (simp [plainName, overriddenIn]; done) | decide +kernel
theorem ef_rmVal (m : MethodId) (x0 : Int32) : entryFrame m #[(.int x0)] 1 = mkF m 0 #[.val (.int x0)] [] := by first | (simp [entryFrame, mkF, argsToLocals, Value.category]; done) | rfl
set_option maxRecDepth 65536 in
set_option maxHeartbeats 40000000 in
theorem rmVal (l : Launch) (Z : State) (a0 : Array Value) (hw : ∀ d ∈ tables_1, d.before a0 Z = true) (h0 : Heap) (n0 : Nat) (Z0 : n0 ≤ h0.size) (x : Int32) (hi : Sta Z h0 "java/lang/Integer$IntegerCache" "high" "I" (.int 127)) (ca : Addr) (kc : ClassId) (fc : Nat → Value) (hc : Sta Z h0 "java/lang/Integer$IntegerCache" "cache" "[Ljava/lang/Integer;" (.ref ca)) (VC : KVA Z h0 ca kc (.object "java/lang/Integer") 256 fc) (hfc : ∀ j, j < 256 → ∃ r : Addr, fc j = .ref r ∧ Exa Z h0 r "java/lang/Integer") :
    KCt false l (⟨"java/lang/Integer", "valueOf", "(I)Ljava/lang/Integer;"⟩ : MethodName) jdk_33_method_22_code 1 (some (.object "java/lang/Integer")) ({ frames := 3, cells := 1, slots := 1, locals := 40 } : Room) Z n0 h0 #[(.int x)] [] (fun v h => v = v ∧ ∃ r : Addr, v = some (.ref r) ∧ Exa Z h r "java/lang/Integer") := by
  refine k_enter (tbl := tables_1) (a0 := a0) (Ls := #[.val (.int x)]) (plainFor_of_name pn_5) hw Z0 (fun m => ef_rmVal m x) ?_
  intro p e s m below meth c T C P
  refine k_iloadN (pc' := 1) C P d5_0 rfl rfl ?_
  refine k_bipush (z := (-128 : Int32)) (pc' := 3) C P d5_1 rfl rfl ?_
  refine k_icB (pcY := 23) (pcN := 6) C P d5_3 (by decide) (by decide) rfl ?_ ?_
  · intro (hc3 : x < (-128 : Int32))
    refine k_newo (pc' := 26) (cells' := 1) (slots' := 1) C P (C.w 46 rfl) (C.w 47 rfl) (C.w 30 rfl) d5_23 rfl rfl (by decide) (by decide) rfl ?_
    intro T13 h13 b13 P13 hs13 ge_b13 sz_b13 E13 A13 D13
    have ne_ca_b13 : ca ≠ b13 := Nat.ne_of_lt (hs13 ▸ VC.lt)
    have f13_S_high := hi.ext E13
    have f13_S_cache := hc.ext E13
    have f13_ca := VC.ext E13
    have f13_b13 : KOb Z h13 b13 "java/lang/Integer" layI [(.int (0 : Int32))] := KOb.new A13 D13 (lokI C.hw) (by decide +kernel)
    refine k_dup (pc' := 27) C P13 d5_26 rfl rfl ?_
    refine k_iloadN (pc' := 28) C P13 d5_27 rfl rfl ?_
    refine k_callN (pc' := 31) (cells' := 1) (slots' := 1) (W := 1) C P13 rfl (C.w 48 rfl) (C.w 49 rfl) (C.w 51 rfl) (C.w 30 rfl) (by decide) (rmInt l Z a0 hw _ n0 P13.size b13 x ge_b13 f13_b13) b13 [(.int x)] [(.ref b13)] rfl (lenOf pd_2 rfl) rfl (Nat.le_of_eq rfl) d5_28 rfl (by decide) (by decide) rfl rfl (by decide) (by decide) (allS (Or.inr sz_b13) all0) rfl ?_
    intro T14 h14 v14 P14 K14 Q14
    obtain ⟨rfl, F14⟩ := Q14
    have f14_ca := f13_ca.keep K14 (ninS ne_ca_b13 nin0)
    show KGo p e below _ T14 m 31 #[.val (.int x)] [(.ref b13)]
    exact k_retA C P14 d5_31 rfl rfl (by decide) (by decide) ⟨rfl, _, rfl, F14.exa⟩
  · intro (hc3 : ¬ x < (-128 : Int32))
    refine k_iloadN (pc' := 7) C P d5_6 rfl rfl ?_
    refine k_gets (pc' := 10) C P (C.w 32 rfl) Via.refl hi d5_7 rfl ?_
    intro T15 P15
    refine k_icB (pcY := 23) (pcN := 13) C P15 d5_10 (by decide) (by decide) rfl ?_ ?_
    · intro (hc10 : (127 : Int32) < x)
      refine k_newo (pc' := 26) (cells' := 1) (slots' := 1) C P15 (C.w 46 rfl) (C.w 47 rfl) (C.w 30 rfl) d5_23 rfl rfl (by decide) (by decide) rfl ?_
      intro T16 h16 b16 P16 hs16 ge_b16 sz_b16 E16 A16 D16
      have ne_ca_b16 : ca ≠ b16 := Nat.ne_of_lt (hs16 ▸ VC.lt)
      have f16_S_high := hi.ext E16
      have f16_S_cache := hc.ext E16
      have f16_ca := VC.ext E16
      have f16_b16 : KOb Z h16 b16 "java/lang/Integer" layI [(.int (0 : Int32))] := KOb.new A16 D16 (lokI C.hw) (by decide +kernel)
      refine k_dup (pc' := 27) C P16 d5_26 rfl rfl ?_
      refine k_iloadN (pc' := 28) C P16 d5_27 rfl rfl ?_
      refine k_callN (pc' := 31) (cells' := 1) (slots' := 1) (W := 1) C P16 rfl (C.w 48 rfl) (C.w 49 rfl) (C.w 51 rfl) (C.w 30 rfl) (by decide) (rmInt l Z a0 hw _ n0 P16.size b16 x ge_b16 f16_b16) b16 [(.int x)] [(.ref b16)] rfl (lenOf pd_2 rfl) rfl (Nat.le_of_eq rfl) d5_28 rfl (by decide) (by decide) rfl rfl (by decide) (by decide) (allS (Or.inr sz_b16) all0) rfl ?_
      intro T17 h17 v17 P17 K17 Q17
      obtain ⟨rfl, F17⟩ := Q17
      have f17_ca := f16_ca.keep K17 (ninS ne_ca_b16 nin0)
      show KGo p e below _ T17 m 31 #[.val (.int x)] [(.ref b16)]
      exact k_retA C P17 d5_31 rfl rfl (by decide) (by decide) ⟨rfl, _, rfl, F17.exa⟩
    · intro (hc10 : ¬ (127 : Int32) < x)
      refine k_gets (pc' := 16) C P15 (C.w 34 rfl) Via.refl hc d5_13 rfl ?_
      intro T18 P18
      refine k_iloadN (pc' := 17) C P18 d5_16 rfl rfl ?_
      refine k_sipush (z := (128 : Int32)) (pc' := 20) C P18 d5_17 rfl rfl ?_
      refine k_iadd (pc' := 21) C P18 d5_20 rfl ?_
      obtain ⟨J, hJ, hJ2⟩ : ∃ J : Nat, (x + (128 : Int32)).toInt = (J : Int) ∧ J < 256 := own_cache hc3 hc10
      obtain ⟨r, hr, Er⟩ := hfc J hJ2
      refine k_aaload (J := J) (v := (.ref r)) (pc' := 22) C P18 VC rfl d5_21 hJ hJ2 hr rfl ?_
      exact k_retA C P18 d5_22 rfl rfl (by decide) (by decide) ⟨rfl, _, rfl, Er⟩
theorem pn_6 : plainName "com/example/outrigger/outrigger/RowFragment" = true := by first | (simp [plainName, overriddenIn]; done) | decide +kernel
theorem ef_rmSetN (m : MethodId) (x0 : Addr) (x1 : Int32) : entryFrame m #[(.ref x0), (.int x1), .null] 3 = mkF m 0 #[.val (.ref x0), .val (.int x1), .val .null] [] := by first | (simp [entryFrame, mkF, argsToLocals, Value.category]; done) | rfl
set_option maxRecDepth 65536 in
set_option maxHeartbeats 40000000 in
theorem rmSetN (l : Launch) (Z : State) (a0 : Array Value) (hw : ∀ d ∈ tables_1, d.before a0 Z = true) (h0 : Heap) (n0 : Nat) (Z0 : n0 ≤ h0.size) (a b : Addr) (d mk : Int32) (kk : ClassId) (N : Nat) (g : Nat → Value) (F : KOb Z h0 a "com/example/outrigger/outrigger/RowFragment" layR [.int d, .int mk, .ref b]) (V : KVA Z h0 b kk (.object "java/lang/Object") N g) (ne_a_b : a ≠ b) (ge_b : n0 ≤ b) (x : Int32) (X : Nat) (hX : x.toInt = (X : Int)) (hXN : X < N) :
    KCt false l (⟨"com/example/outrigger/outrigger/RowFragment", "set", "(ILjava/lang/Object;)V"⟩ : MethodName) prog_190_method_4_code 3 none ({ frames := 0, cells := 0, slots := 0, locals := 0 } : Room) Z n0 h0 #[(.ref a), (.int x), .null] [b] (fun v h => v = none ∧ KVA Z h b kk (.object "java/lang/Object") N (fun j => if j = X then .null else g j)) := by
  refine k_enter (tbl := tables_1) (a0 := a0) (Ls := #[.val (.ref a), .val (.int x), .val .null]) (plainFor_of_name pn_6) hw Z0 (fun m => ef_rmSetN m a x) ?_
  intro p e s m below meth c T C P
  have sz_b : b ∈ [b] ∨ h0.size ≤ b := Or.inl (by simp)
  refine k_aloadN (pc' := 1) C P d6_0 rfl rfl rfl ?_
  refine k_getf (pc' := 4) C P (C.w 15 rfl) Via.refl F 2 rfl rfl d6_1 rfl ?_
  intro T19 P19
  refine k_iloadN (pc' := 5) C P19 d6_4 rfl rfl ?_
  refine k_aloadN (pc' := 6) C P19 d6_5 rfl rfl rfl ?_
  refine k_aastore (J := X) (g' := (fun j => if j = X then .null else g j)) (pc' := 7) C P19 V rfl (Or.inl rfl) d6_6 hX hXN (fun i _ => rfl) ge_b sz_b rfl ?_
  intro T20 h20 P20 W20 V20
  have f20_a := F.other W20 ne_a_b
  exact k_retV C P20 d6_7 (by decide) (by decide) ⟨rfl, V20⟩
theorem ef_rmSetR (m : MethodId) (x0 : Addr) (x1 : Int32) (x2 : Addr) : entryFrame m #[(.ref x0), (.int x1), (.ref x2)] 3 = mkF m 0 #[.val (.ref x0), .val (.int x1), .val (.ref x2)] [] := by first | (simp [entryFrame, mkF, argsToLocals, Value.category]; done) | rfl
set_option maxRecDepth 65536 in
set_option maxHeartbeats 40000000 in
theorem rmSetR (l : Launch) (Z : State) (a0 : Array Value) (hw : ∀ d ∈ tables_1, d.before a0 Z = true) (h0 : Heap) (n0 : Nat) (Z0 : n0 ≤ h0.size) (a b : Addr) (d mk : Int32) (kk : ClassId) (N : Nat) (g : Nat → Value) (F : KOb Z h0 a "com/example/outrigger/outrigger/RowFragment" layR [.int d, .int mk, .ref b]) (V : KVA Z h0 b kk (.object "java/lang/Object") N g) (ne_a_b : a ≠ b) (ge_b : n0 ≤ b) (x : Int32) (X : Nat) (hX : x.toInt = (X : Int)) (hXN : X < N) (r : Addr) (STO : Sto Z h0 b (.ref r)) :
    KCt false l (⟨"com/example/outrigger/outrigger/RowFragment", "set", "(ILjava/lang/Object;)V"⟩ : MethodName) prog_190_method_4_code 3 none ({ frames := 0, cells := 0, slots := 0, locals := 0 } : Room) Z n0 h0 #[(.ref a), (.int x), (.ref r)] [b] (fun v h => v = none ∧ KVA Z h b kk (.object "java/lang/Object") N (fun j => if j = X then (.ref r) else g j)) := by
  refine k_enter (tbl := tables_1) (a0 := a0) (Ls := #[.val (.ref a), .val (.int x), .val (.ref r)]) (plainFor_of_name pn_6) hw Z0 (fun m => ef_rmSetR m a x r) ?_
  intro p e s m below meth c T C P
  have sz_b : b ∈ [b] ∨ h0.size ≤ b := Or.inl (by simp)
  refine k_aloadN (pc' := 1) C P d6_0 rfl rfl rfl ?_
  refine k_getf (pc' := 4) C P (C.w 15 rfl) Via.refl F 2 rfl rfl d6_1 rfl ?_
  intro T21 P21
  refine k_iloadN (pc' := 5) C P21 d6_4 rfl rfl ?_
  refine k_aloadN (pc' := 6) C P21 d6_5 rfl rfl rfl ?_
  refine k_aastore (J := X) (g' := (fun j => if j = X then (.ref r) else g j)) (pc' := 7) C P21 V rfl STO d6_6 hX hXN (fun i _ => rfl) ge_b sz_b rfl ?_
  intro T22 h22 P22 W22 V22
  have f22_a := F.other W22 ne_a_b
  exact k_retV C P22 d6_7 (by decide) (by decide) ⟨rfl, V22⟩
theorem pn_4 : plainName "com/example/outrigger/outrigger/RowFragmentIsLivePinLaw" = true := by first | (simp [plainName, overriddenIn]; done) | decide +kernel
theorem ef_rmFl (m : MethodId) (x0 : Addr) (x1 : Int32) (x2 : Int32) (x3 : Int32) : entryFrame m #[(.ref x0), (.int x1), (.int x2), (.int x3)] 4 = mkF m 0 #[.val (.ref x0), .val (.int x1), .val (.int x2), .val (.int x3)] [] := by first | (simp [entryFrame, mkF, argsToLocals, Value.category]; done) | rfl
set_option maxRecDepth 65536 in
set_option maxHeartbeats 40000000 in
theorem rmFl (l : Launch) (Z : State) (a0 : Array Value) (hw : ∀ d ∈ tables_1, d.before a0 Z = true) (h0 : Heap) (n0 : Nat) (Z0 : n0 ≤ h0.size) (a b : Addr) (d mk : Int32) (kk : ClassId) (N : Nat) (g : Nat → Value) (F : KOb Z h0 a "com/example/outrigger/outrigger/RowFragment" layR [.int d, .int mk, .ref b]) (V : KVA Z h0 b kk (.object "java/lang/Object") N g) (ne_a_b : a ≠ b) (ge_b : n0 ≤ b) (O : Ovr Z kk "java/lang/Object") (u : Addr) (EU : Exa Z h0 u "java/lang/Object") (x : Int32) (X : Nat) (hX : x.toInt = (X : Int)) (hXN : X < N) (hg : own_sl u (g X) False) (sta y : Int32) (hi : Sta Z h0 "java/lang/Integer$IntegerCache" "high" "I" (.int 127)) (ca : Addr) (kc : ClassId) (fc : Nat → Value) (hc : Sta Z h0 "java/lang/Integer$IntegerCache" "cache" "[Ljava/lang/Integer;" (.ref ca)) (VC : KVA Z h0 ca kc (.object "java/lang/Integer") 256 fc) (hfc : ∀ j, j < 256 → ∃ r : Addr, fc j = .ref r ∧ Exa Z h0 r "java/lang/Integer") :
    KCt false l (⟨"com/example/outrigger/outrigger/RowFragmentIsLivePinLaw", "fill", "(Lcom/example/outrigger/outrigger/RowFragment;III)Z"⟩ : MethodName) method_3_code 4 (some .boolean) ({ frames := 4, cells := 1, slots := 1, locals := 60 } : Room) Z n0 h0 #[(.ref a), (.int x), (.int sta), (.int y)] [b] (fun v h => v = some (.int (if sta = 2 then 1 else 0)) ∧ ∃ w : Value, KVA Z h b kk (.object "java/lang/Object") N (fun j => if j = X then w else g j) ∧ own_sl u w (sta = 2)) := by
  refine k_enter (tbl := tables_1) (a0 := a0) (Ls := #[.val (.ref a), .val (.int x), .val (.int sta), .val (.int y)]) (plainFor_of_name pn_4) hw Z0 (fun m => ef_rmFl m a x sta y) ?_
  intro p e s m below meth c T C P
  have sz_b : b ∈ [b] ∨ h0.size ≤ b := Or.inl (by simp)
  refine k_iloadN (pc' := 1) C P d4_0 rfl rfl ?_
  refine k_iconst (z := (1 : Int32)) (pc' := 2) C P d4_1 rfl rfl ?_
  refine k_icB (pcY := 14) (pcN := 5) C P d4_2 (by decide) (by decide) rfl ?_ ?_
  · intro (hc2 : ¬ sta = (1 : Int32))
    refine k_iloadN (pc' := 15) C P d4_14 rfl rfl ?_
    refine k_iconst (z := (2 : Int32)) (pc' := 16) C P d4_15 rfl rfl ?_
    refine k_icB (pcY := 31) (pcN := 19) C P d4_16 (by decide) (by decide) rfl ?_ ?_
    · intro (hc16 : ¬ sta = (2 : Int32))
      refine k_iloadN (pc' := 32) C P d4_31 rfl rfl ?_
      refine k_iconst (z := (3 : Int32)) (pc' := 33) C P d4_32 rfl rfl ?_
      refine k_icB (pcY := 51) (pcN := 36) C P d4_33 (by decide) (by decide) rfl ?_ ?_
      · intro (hc33 : ¬ sta = (3 : Int32))
        refine k_iloadN (pc' := 52) C P d4_51 rfl rfl ?_
        refine k_iconst (z := (2 : Int32)) (pc' := 53) C P d4_52 rfl rfl ?_
        refine k_icB (pcY := 60) (pcN := 56) C P d4_53 (by decide) (by decide) rfl ?_ ?_
        · intro (hc53 : ¬ sta = (2 : Int32))
          refine k_iconst (z := (0 : Int32)) (pc' := 61) C P d4_60 rfl rfl ?_
          exact k_retZ (z' := (0 : Int32)) C P (by simp) d4_61 rfl (by decide) (by decide) ⟨by rw [if_neg hc53], g X, V.congr (fun j _ => own_same j X g), own_sl2 hg hc53⟩
        · intro (hc53 : sta = (2 : Int32))
          exact absurd hc53 hc16
      · intro (hc33 : sta = (3 : Int32))
        refine k_aloadN (pc' := 37) C P d4_36 rfl rfl rfl ?_
        refine k_iloadN (pc' := 38) C P d4_37 rfl rfl ?_
        refine k_iloadN (pc' := 39) C P d4_38 rfl rfl ?_
        refine k_callT (pc' := 42) (cells' := 1) (slots' := 1) (W := 2) C P (C.w 28 rfl) (C.w 29 rfl) (C.w 31 rfl) (C.w 30 rfl) (by decide) (rmVal l Z a0 hw _ n0 P.size y hi ca kc fc hc VC hfc) [(.int y)] [(.int x), (.ref a)] rfl (lenOf pd_3 rfl) rfl (Nat.le_of_eq rfl) d4_39 rfl (by decide) (by decide) rfl rfl (by decide) (by decide) all0 rfl ?_
        intro T23 h23 v23 P23 K23 Q23
        obtain ⟨-, r23, rfl, Er23⟩ := Q23
        have f23_a := F.keep K23 nin0
        have f23_b := V.keep K23 nin0
        have nru23 : r23 ≠ u := ne_exa Er23 (EU.ext (k_ext_of_keep K23)) (by decide)
        show KGo p e below _ T23 m 42 #[.val (.ref a), .val (.int x), .val (.int sta), .val (.int y)] [(.ref r23), (.int x), (.ref a)]
        refine k_callV (pc' := 45) (cells' := 1) (slots' := 1) (W := 0) C P23 (C.w 35 rfl) (C.w 36 rfl) (fun _ q => notFace_of_selects (args := #[]) (mvT q (C.w 38 rfl))) (C.w 38 rfl) (C.w 37 rfl) (C.w 39 rfl) (C.w 2 rfl) (by decide) (rmSetR l Z a0 hw _ n0 P23.size a b d mk kk N g f23_a f23_b ne_a_b ge_b x X hX hXN r23 (f23_b.sto (K1 := "") O (Ins.of_exa Er23 (C.w 40 rfl)))) f23_a.exa [(.int x), (.ref r23)] [] rfl (lenOf pd_4 rfl) rfl (Nat.le_of_eq rfl) d4_42 rfl (by decide) (by decide) rfl rfl (by decide) (by decide) (allS sz_b all0) rfl ?_
        intro T24 h24 v24 P24 K24 Q24
        obtain ⟨rfl, V24⟩ := Q24
        have f24_a := f23_a.keep K24 (ninS ne_a_b nin0)
        show KGo p e below _ T24 m 45 #[.val (.ref a), .val (.int x), .val (.int sta), .val (.int y)] []
        refine k_aloadN (pc' := 46) C P24 d4_45 rfl rfl rfl ?_
        refine k_iloadN (pc' := 47) C P24 d4_46 rfl rfl ?_
        refine k_aconstNull (pc' := 48) C P24 d4_47 rfl ?_
        refine k_callV (pc' := 51) (cells' := 1) (slots' := 1) (W := 0) C P24 (C.w 35 rfl) (C.w 36 rfl) (fun _ q => notFace_of_selects (args := #[]) (mvT q (C.w 38 rfl))) (C.w 38 rfl) (C.w 37 rfl) (C.w 39 rfl) (C.w 2 rfl) (by decide) (rmSetN l Z a0 hw _ n0 P24.size a b d mk kk N (fun j => if j = X then (.ref r23) else g j) f24_a V24 ne_a_b ge_b x X hX hXN) f24_a.exa [(.int x), .null] [] rfl (lenOf pd_4 rfl) rfl (Nat.le_of_eq rfl) d4_48 rfl (by decide) (by decide) rfl rfl (by decide) (by decide) (allS sz_b all0) rfl ?_
        intro T25 h25 v25 P25 K25 Q25
        obtain ⟨rfl, V25⟩ := Q25
        have f25_a := f24_a.keep K25 (ninS ne_a_b nin0)
        show KGo p e below _ T25 m 51 #[.val (.ref a), .val (.int x), .val (.int sta), .val (.int y)] []
        refine k_iloadN (pc' := 52) C P25 d4_51 rfl rfl ?_
        refine k_iconst (z := (2 : Int32)) (pc' := 53) C P25 d4_52 rfl rfl ?_
        refine k_icB (pcY := 60) (pcN := 56) C P25 d4_53 (by decide) (by decide) rfl ?_ ?_
        · intro (hc53 : ¬ sta = (2 : Int32))
          refine k_iconst (z := (0 : Int32)) (pc' := 61) C P25 d4_60 rfl rfl ?_
          exact k_retZ (z' := (0 : Int32)) C P25 (by simp) d4_61 rfl (by decide) (by decide) ⟨by rw [if_neg hc53], .null, V25.congr (fun j _ => own_twice j X _ _ _), own_sl0 (Or.inl rfl) hc53⟩
        · intro (hc53 : sta = (2 : Int32))
          exact absurd hc53 hc16
    · intro (hc16 : sta = (2 : Int32))
      refine k_aloadN (pc' := 20) C P d4_19 rfl rfl rfl ?_
      refine k_iloadN (pc' := 21) C P d4_20 rfl rfl ?_
      refine k_iloadN (pc' := 22) C P d4_21 rfl rfl ?_
      refine k_callT (pc' := 25) (cells' := 1) (slots' := 1) (W := 2) C P (C.w 28 rfl) (C.w 29 rfl) (C.w 31 rfl) (C.w 30 rfl) (by decide) (rmVal l Z a0 hw _ n0 P.size y hi ca kc fc hc VC hfc) [(.int y)] [(.int x), (.ref a)] rfl (lenOf pd_3 rfl) rfl (Nat.le_of_eq rfl) d4_22 rfl (by decide) (by decide) rfl rfl (by decide) (by decide) all0 rfl ?_
      intro T26 h26 v26 P26 K26 Q26
      obtain ⟨-, r26, rfl, Er26⟩ := Q26
      have f26_a := F.keep K26 nin0
      have f26_b := V.keep K26 nin0
      have nru26 : r26 ≠ u := ne_exa Er26 (EU.ext (k_ext_of_keep K26)) (by decide)
      show KGo p e below _ T26 m 25 #[.val (.ref a), .val (.int x), .val (.int sta), .val (.int y)] [(.ref r26), (.int x), (.ref a)]
      refine k_callV (pc' := 28) (cells' := 1) (slots' := 1) (W := 0) C P26 (C.w 35 rfl) (C.w 36 rfl) (fun _ q => notFace_of_selects (args := #[]) (mvT q (C.w 38 rfl))) (C.w 38 rfl) (C.w 37 rfl) (C.w 39 rfl) (C.w 2 rfl) (by decide) (rmSetR l Z a0 hw _ n0 P26.size a b d mk kk N g f26_a f26_b ne_a_b ge_b x X hX hXN r26 (f26_b.sto (K1 := "") O (Ins.of_exa Er26 (C.w 40 rfl)))) f26_a.exa [(.int x), (.ref r26)] [] rfl (lenOf pd_4 rfl) rfl (Nat.le_of_eq rfl) d4_25 rfl (by decide) (by decide) rfl rfl (by decide) (by decide) (allS sz_b all0) rfl ?_
      intro T27 h27 v27 P27 K27 Q27
      obtain ⟨rfl, V27⟩ := Q27
      have f27_a := f26_a.keep K27 (ninS ne_a_b nin0)
      show KGo p e below _ T27 m 28 #[.val (.ref a), .val (.int x), .val (.int sta), .val (.int y)] []
      refine k_goto (pc' := 51) C P27 d4_28 (by decide) (by decide) ?_
      refine k_iloadN (pc' := 52) C P27 d4_51 rfl rfl ?_
      refine k_iconst (z := (2 : Int32)) (pc' := 53) C P27 d4_52 rfl rfl ?_
      refine k_icB (pcY := 60) (pcN := 56) C P27 d4_53 (by decide) (by decide) rfl ?_ ?_
      · intro (hc53 : ¬ sta = (2 : Int32))
        exact absurd hc16 hc53
      · intro (hc53 : sta = (2 : Int32))
        refine k_iconst (z := (1 : Int32)) (pc' := 57) C P27 d4_56 rfl rfl ?_
        refine k_goto (pc' := 61) C P27 d4_57 (by decide) (by decide) ?_
        exact k_retZ (z' := (1 : Int32)) C P27 (by simp) d4_61 rfl (by decide) (by decide) ⟨by rw [if_pos hc16], _, V27, own_sl1 nru26 hc16⟩
  · intro (hc2 : sta = (1 : Int32))
    refine k_aloadN (pc' := 6) C P d4_5 rfl rfl rfl ?_
    refine k_iloadN (pc' := 7) C P d4_6 rfl rfl ?_
    refine k_aconstNull (pc' := 8) C P d4_7 rfl ?_
    refine k_callV (pc' := 11) (cells' := 0) (slots' := 0) (W := 0) C P (C.w 35 rfl) (C.w 36 rfl) (fun _ q => notFace_of_selects (args := #[]) (mvT q (C.w 38 rfl))) (C.w 38 rfl) (C.w 37 rfl) (C.w 39 rfl) (C.w 2 rfl) (by decide) (rmSetN l Z a0 hw _ n0 P.size a b d mk kk N g F V ne_a_b ge_b x X hX hXN) F.exa [(.int x), .null] [] rfl (lenOf pd_4 rfl) rfl (Nat.le_of_eq rfl) d4_8 rfl (by decide) (by decide) rfl rfl (by decide) (by decide) (allS sz_b all0) rfl ?_
    intro T28 h28 v28 P28 K28 Q28
    obtain ⟨rfl, V28⟩ := Q28
    have f28_a := F.keep K28 (ninS ne_a_b nin0)
    show KGo p e below _ T28 m 11 #[.val (.ref a), .val (.int x), .val (.int sta), .val (.int y)] []
    refine k_goto (pc' := 51) C P28 d4_11 (by decide) (by decide) ?_
    refine k_iloadN (pc' := 52) C P28 d4_51 rfl rfl ?_
    refine k_iconst (z := (2 : Int32)) (pc' := 53) C P28 d4_52 rfl rfl ?_
    refine k_icB (pcY := 60) (pcN := 56) C P28 d4_53 (by decide) (by decide) rfl ?_ ?_
    · intro (hc53 : ¬ sta = (2 : Int32))
      refine k_iconst (z := (0 : Int32)) (pc' := 61) C P28 d4_60 rfl rfl ?_
      exact k_retZ (z' := (0 : Int32)) C P28 (by simp) d4_61 rfl (by decide) (by decide) ⟨by rw [if_neg hc53], .null, V28, own_sl0 (Or.inl rfl) hc53⟩
    · intro (hc53 : sta = (2 : Int32))
      exact absurd (hc2.symm.trans hc53) (by decide)
set_option maxRecDepth 65536 in
set_option maxHeartbeats 40000000 in
theorem lp_live {p : Program} {l : Launch} {e : Env} {R : Room} {s : State} {m : MethodId} {args : Array Value} {below : List Frame} {meth : Method} {c : Code} {Z : State} {a0 : Array Value} {n0 : Nat} {h0 : Heap} {ws : List Addr} {cells slots : Nat} {Q : Option Value → Heap → Prop} {kc ks : Nat} (hkc : cells ≤ kc) (hks : slots ≤ ks) (C : KCx tables_1 "isLive" prog_190_method_13_code 5 (some .boolean) p meth c Z a0) (a b u : Addr) (kk : ClassId) (N : Nat) (g : Nat → Value) (bs : Nat → Prop) (hbs : ∀ j, j < N → own_sl u (g j) (bs j)) (zN : Int32) (hzN : zN.toInt = (N : Int)) (h : Heap) (V : KVA Z h b kk (.object "java/lang/Object") N g) (SU : Sta Z h "com/example/outrigger/outrigger/RowFragment" "UNSET" "Ljava/lang/Object;" (.ref u))
    (q1 : (∃ j, j < N ∧ bs j) → Q (some (.int 1)) h) (q0 : (∀ j, j < N → ¬ bs j) → Q (some (.int 0)) h) :
    ∀ (k i : Nat) (i3 : Int32) (s4 : Slot) (T : State), i + k = N → i3.toInt = (i : Int) → own_one s4 → (∀ j, j < i → ¬ bs j) → KPos false p l e R s m args below meth c Z "com/example/outrigger/outrigger/RowFragment" n0 h0 ws T h cells slots → KGo p e below (KEnd false s n0 h0 ws Q kc ks) T m 19 #[.val (.ref a), .val (.ref b), .val (.int zN), .val (.int i3), s4] [] := by
  intro k
  induction k with
  | zero =>
    intro i i3 s4 T hi hi3 h4 hb P
    refine k_iloadN (pc' := 20) C P d7_19 rfl rfl ?_
    refine k_iloadN (pc' := 21) C P d7_20 rfl rfl ?_
    refine k_icY (pc' := 50) C P d7_21 (fun q => by rw [OwnNum.lt_iff hi3 hzN] at q; omega) (by decide) (by decide) ?_
    refine k_iconst (z := (0 : Int32)) (pc' := 51) C P d7_50 rfl rfl ?_
    exact k_retZ C P (by simp) d7_51 rfl hkc hks (q0 (fun j hj => hb j (by omega)))
  | succ k ih =>
    intro i i3 s4 T hi hi3 h4 hb P
    obtain ⟨x, ex⟩ : ∃ x, x = g i := ⟨_, rfl⟩
    have hx := hbs i (by omega)
    rw [← ex] at hx
    have rx : x.isRef = true := own_slr hx
    refine k_iloadN (pc' := 20) C P d7_19 rfl rfl ?_
    refine k_iloadN (pc' := 21) C P d7_20 rfl rfl ?_
    refine k_icN (pc' := 24) C P d7_21 ((OwnNum.lt_iff hi3 hzN).mpr (by omega)) rfl ?_
    refine k_aloadN (pc' := 25) C P d7_24 rfl rfl rfl ?_
    refine k_iloadN (pc' := 26) C P d7_25 rfl rfl ?_
    refine k_aaload (J := i) (v := x) (pc' := 27) C P V rfl d7_26 hi3 (by omega) ex.symm rfl ?_
    refine k_astore (l' := #[.val (.ref a), .val (.ref b), .val (.int zN), .val (.int i3), .val x]) (pc' := 29) C P d7_27 rx (own_st4 h4 (k_cat_ref rx)) rfl ?_
    refine k_aload (pc' := 31) C P d7_29 rfl rx rfl ?_
    refine k_gets (pc' := 34) C P (C.w 17 rfl) Via.refl SU d7_31 rfl ?_
    intro T29 P29
    refine k_acB (pcY := 44) (pcN := 37) C P29 d7_34 rx rfl (by decide) (by decide) rfl ?_ ?_
    · intro hc34
      have nb : ¬ bs i := own_slu hx (own_acmp hc34)
      refine k_iinc (z := (i3 + (1 : Int32))) (l' := #[.val (.ref a), .val (.ref b), .val (.int zN), .val (.int (i3 + (1 : Int32))), .val x]) (pc' := 47) C P29 d7_44 rfl rfl rfl rfl ?_
      refine k_goto (pc' := 19) C P29 d7_47 (by decide) (by decide) ?_
      exact ih (i + 1) _ _ _ (by omega) (OwnNum.add hi3 (show (1 : Int32).toInt = ((1 : Nat) : Int) from rfl) (by have := OwnNum.small hzN; omega)) (own_one_val (k_cat_ref rx)) (fun j hj => by rcases Nat.lt_succ_iff_lt_or_eq.mp hj with q | q; exact hb j q; subst q; exact nb) P29
    · intro hc34
      refine k_aload (pc' := 39) C P29 d7_37 rfl rx rfl ?_
      rcases ref_cases rx with rx2 | ⟨r, rx2⟩
      · subst rx2
        have nb : ¬ bs i := own_sln hx
        refine k_nullY (pc' := 44) C P29 d7_39 (by decide) (by decide) ?_
        refine k_iinc (z := (i3 + (1 : Int32))) (l' := #[.val (.ref a), .val (.ref b), .val (.int zN), .val (.int (i3 + (1 : Int32))), .val .null]) (pc' := 47) C P29 d7_44 rfl rfl rfl rfl ?_
        refine k_goto (pc' := 19) C P29 d7_47 (by decide) (by decide) ?_
        exact ih (i + 1) _ _ _ (by omega) (OwnNum.add hi3 (show (1 : Int32).toInt = ((1 : Nat) : Int) from rfl) (by have := OwnNum.small hzN; omega)) (own_one_val (k_cat_ref rx)) (fun j hj => by rcases Nat.lt_succ_iff_lt_or_eq.mp hj with q | q; exact hb j q; subst q; exact nb) P29
      · subst rx2
        have nb : bs i := own_slp hx (fun q => own_nacmp hc34 (congrArg Value.ref q))
        refine k_nullN (pc' := 42) C P29 d7_39 rfl ?_
        refine k_iconst (z := (1 : Int32)) (pc' := 43) C P29 d7_42 rfl rfl ?_
        exact k_retZ C P29 (by simp) d7_43 rfl hkc hks (q1 ⟨i, by omega, nb⟩)
theorem pn_7 : plainName "com/example/outrigger/outrigger/RowFragment" = true := by first | (simp [plainName, overriddenIn]; done) | decide +kernel
theorem ef_rmLive (m : MethodId) (x0 : Addr) : entryFrame m #[(.ref x0)] 5 = mkF m 0 #[.val (.ref x0), .unset, .unset, .unset, .unset] [] := by first | (simp [entryFrame, mkF, argsToLocals, Value.category]; done) | rfl
set_option maxRecDepth 65536 in
set_option maxHeartbeats 40000000 in
theorem rmLive (l : Launch) (Z : State) (a0 : Array Value) (hw : ∀ d ∈ tables_1, d.before a0 Z = true) (h0 : Heap) (n0 : Nat) (Z0 : n0 ≤ h0.size) (a b u : Addr) (d mk : Int32) (kk : ClassId) (N : Nat) (g : Nat → Value) (bs : Nat → Prop) (hbs : ∀ j, j < N → own_sl u (g j) (bs j)) (zN : Int32) (hzN : zN.toInt = (N : Int)) (F : KOb Z h0 a "com/example/outrigger/outrigger/RowFragment" layR [.int d, .int mk, .ref b]) (V : KVA Z h0 b kk (.object "java/lang/Object") N g) (SU : Sta Z h0 "com/example/outrigger/outrigger/RowFragment" "UNSET" "Ljava/lang/Object;" (.ref u)) (r : Int32) (h1 : ¬ mk = 0 → 1 = r) (h2 : mk = 0 → (∃ j, j < N ∧ bs j) → 1 = r) (h3 : mk = 0 → (∀ j, j < N → ¬ bs j) → 0 = r) :
    KCt false l (⟨"com/example/outrigger/outrigger/RowFragment", "isLive", "()Z"⟩ : MethodName) prog_190_method_13_code 5 (some .boolean) ({ frames := 0, cells := 0, slots := 0, locals := 0 } : Room) Z n0 h0 #[(.ref a)] [] (fun v h => v = some (.int r) ∧ h0 = h) := by
  refine k_enter (tbl := tables_1) (a0 := a0) (Ls := #[.val (.ref a), .unset, .unset, .unset, .unset]) (plainFor_of_name pn_7) hw Z0 (fun m => ef_rmLive m a) ?_
  intro p e s m below meth c T C P
  refine k_aloadN (pc' := 1) C P d7_0 rfl rfl rfl ?_
  refine k_getf (pc' := 4) C P (C.w 11 rfl) Via.refl F 1 rfl rfl d7_1 rfl ?_
  intro T30 P30
  refine k_ifB (pcY := 9) (pcN := 7) C P30 d7_4 (by decide) (by decide) rfl ?_ ?_
  · intro (hc4 : mk = (0 : Int32))
    refine k_aloadN (pc' := 10) C P30 d7_9 rfl rfl rfl ?_
    refine k_getf (pc' := 13) C P30 (C.w 15 rfl) Via.refl F 2 rfl rfl d7_10 rfl ?_
    intro T31 P31
    refine k_astoreN (l' := #[.val (.ref a), .val (.ref b), .unset, .unset, .unset]) (pc' := 14) C P31 d7_13 rfl rfl rfl ?_
    refine k_aloadN (pc' := 15) C P31 d7_14 rfl rfl rfl ?_
    refine k_arrlen (z := zN) (pc' := 16) C P31 V d7_15 hzN rfl ?_
    refine k_istoreN (l' := #[.val (.ref a), .val (.ref b), .val (.int zN), .unset, .unset]) (pc' := 17) C P31 d7_16 rfl rfl ?_
    refine k_iconst (z := (0 : Int32)) (pc' := 18) C P31 d7_17 rfl rfl ?_
    refine k_istoreN (l' := #[.val (.ref a), .val (.ref b), .val (.int zN), .val (.int (0 : Int32)), .unset]) (pc' := 19) C P31 d7_18 rfl rfl ?_
    exact lp_live (by decide) (by decide) C a b u kk N g bs hbs zN hzN _ V SU (fun q => ⟨by rw [← h2 hc4 q], rfl⟩) (fun q => ⟨by rw [← h3 hc4 q], rfl⟩) N 0 0 _ _ (by omega) rfl (Or.inl rfl) (fun j hj => absurd hj (by omega)) P31
  · intro (hc4 : ¬ mk = (0 : Int32))
    refine k_iconst (z := (1 : Int32)) (pc' := 8) C P30 d7_7 rfl rfl ?_
    exact k_retZ (z' := (1 : Int32)) C P30 (by simp) d7_8 rfl (by decide) (by decide) ⟨by rw [← h1 hc4], rfl⟩
theorem pn_0 : plainName "com/example/outrigger/outrigger/RowFragmentIsLivePinLaw" = true := by first | (simp [plainName, overriddenIn]; done) | decide +kernel
theorem ef_rm0 (m : MethodId) (x0 : Int32) (x1 : Int32) (x2 : Int32) (x3 : Int32) : entryFrame m #[(.int x0), (.int x1), (.int x2), (.int x3)] maxLocals = mkF m 0 #[.val (.int x0), .val (.int x1), .val (.int x2), .val (.int x3), .unset, .unset, .unset, .unset, .unset, .unset, .unset, .unset, .unset] [] := by first | (simp [entryFrame, mkF, argsToLocals, Value.category, maxLocals]; done) | rfl
set_option maxRecDepth 65536 in
set_option maxHeartbeats 40000000 in
theorem rm0 (l : Launch) (Z : State) (a0 : Array Value) (hw : ∀ d ∈ tables_1, d.before a0 Z = true) (h0 : Heap) (n0 : Nat) (Z0 : n0 ≤ h0.size) (p0 p1 p2 p3 : Int32) (u : Addr) (SU : Sta Z h0 "com/example/outrigger/outrigger/RowFragment" "UNSET" "Ljava/lang/Object;" (.ref u)) (EU : Exa Z h0 u "java/lang/Object") (hi : Sta Z h0 "java/lang/Integer$IntegerCache" "high" "I" (.int 127)) (ca : Addr) (kc : ClassId) (fc : Nat → Value) (hc : Sta Z h0 "java/lang/Integer$IntegerCache" "cache" "[Ljava/lang/Integer;" (.ref ca)) (VC : KVA Z h0 ca kc (.object "java/lang/Integer") 256 fc) (hfc : ∀ j, j < 256 → ∃ r : Addr, fc j = .ref r ∧ Exa Z h0 r "java/lang/Integer") :
    KCt false l x code maxLocals ret room_1 Z n0 h0 #[(.int p0), (.int p1), (.int p2), (.int p3)] [] (fun v h => v = some (.int 1)) := by
  refine k_enter (tbl := tables_1) (a0 := a0) (Ls := #[.val (.int p0), .val (.int p1), .val (.int p2), .val (.int p3), .unset, .unset, .unset, .unset, .unset, .unset, .unset, .unset, .unset]) (plainFor_of_name pn_0) hw Z0 (fun m => ef_rm0 m p0 p1 p2 p3) ?_
  intro p e s m below meth c T C P
  refine k_iloadN (pc' := 1) C P at_0 rfl rfl ?_
  refine k_iconst (z := (1 : Int32)) (pc' := 2) C P at_1 rfl rfl ?_
  refine k_iand (pc' := 3) C P at_2 rfl ?_
  refine k_ternIf (Pp := (p0 &&& (1 : Int32)) = 0) (vY := (0 : Int32)) (vN := (1 : Int32)) (p1 := 6) (p2 := 7) (p3 := 10) (p4 := 11) C P at_3 at_6 at_7 at_10 rfl rfl (by decide) (by decide) rfl rfl rfl rfl (fun q => q) (fun q => q) ?_
  obtain ⟨d, e_d⟩ : ∃ z, z = (if (p0 &&& (1 : Int32)) = 0 then (0 : Int32) else (1 : Int32)) := ⟨_, rfl⟩
  rw [← e_d]
  have hb_d : d = 0 ∨ d = 1 := by rw [e_d]; exact own_b01 _
  refine k_istore (l' := #[.val (.int p0), .val (.int p1), .val (.int p2), .val (.int p3), .val (.int d), .unset, .unset, .unset, .unset, .unset, .unset, .unset, .unset]) (pc' := 13) C P at_11 rfl rfl ?_
  refine k_iloadN (pc' := 14) C P at_13 rfl rfl ?_
  refine k_iconst (z := (2 : Int32)) (pc' := 15) C P at_14 rfl rfl ?_
  refine k_iand (pc' := 16) C P at_15 rfl ?_
  refine k_ternIf (Pp := (p0 &&& (2 : Int32)) = 0) (vY := (0 : Int32)) (vN := (1 : Int32)) (p1 := 19) (p2 := 20) (p3 := 23) (p4 := 24) C P at_16 at_19 at_20 at_23 rfl rfl (by decide) (by decide) rfl rfl rfl rfl (fun q => q) (fun q => q) ?_
  obtain ⟨mk, e_mk⟩ : ∃ z, z = (if (p0 &&& (2 : Int32)) = 0 then (0 : Int32) else (1 : Int32)) := ⟨_, rfl⟩
  rw [← e_mk]
  have hb_mk : mk = 0 ∨ mk = 1 := by rw [e_mk]; exact own_b01 _
  refine k_istore (l' := #[.val (.int p0), .val (.int p1), .val (.int p2), .val (.int p3), .val (.int d), .val (.int mk), .unset, .unset, .unset, .unset, .unset, .unset, .unset]) (pc' := 26) C P at_24 rfl rfl ?_
  refine k_iloadN (pc' := 27) C P at_26 rfl rfl ?_
  refine k_iconst (z := (3 : Int32)) (pc' := 28) C P at_27 rfl rfl ?_
  refine k_iand (pc' := 29) C P at_28 rfl ?_
  obtain ⟨n, e_n⟩ : ∃ z, z = (p1 &&& (3 : Int32)) := ⟨_, rfl⟩
  rw [← e_n]
  obtain ⟨N, hN, hN3⟩ : ∃ N : Nat, n.toInt = (N : Int) ∧ N ≤ 3 := by rw [e_n]; exact OwnNum.mask p1 3 rfl
  refine k_istore (l' := #[.val (.int p0), .val (.int p1), .val (.int p2), .val (.int p3), .val (.int d), .val (.int mk), .val (.int n), .unset, .unset, .unset, .unset, .unset, .unset]) (pc' := 31) C P at_29 rfl rfl ?_
  refine k_iloadN (pc' := 32) C P at_31 rfl rfl ?_
  refine k_iconst (z := (3 : Int32)) (pc' := 33) C P at_32 rfl rfl ?_
  refine k_iand (pc' := 34) C P at_33 rfl ?_
  obtain ⟨s0, e_s0⟩ : ∃ z, z = (p2 &&& (3 : Int32)) := ⟨_, rfl⟩
  rw [← e_s0]
  refine k_istore (l' := #[.val (.int p0), .val (.int p1), .val (.int p2), .val (.int p3), .val (.int d), .val (.int mk), .val (.int n), .val (.int s0), .unset, .unset, .unset, .unset, .unset]) (pc' := 36) C P at_34 rfl rfl ?_
  refine k_iloadN (pc' := 37) C P at_36 rfl rfl ?_
  refine k_iconst (z := (2 : Int32)) (pc' := 38) C P at_37 rfl rfl ?_
  refine k_iushr (pc' := 39) C P at_38 rfl ?_
  refine k_iconst (z := (3 : Int32)) (pc' := 40) C P at_39 rfl rfl ?_
  refine k_iand (pc' := 41) C P at_40 rfl ?_
  obtain ⟨s1, e_s1⟩ : ∃ z, z = ((k_ushr p2 (2 : Int32)) &&& (3 : Int32)) := ⟨_, rfl⟩
  rw [← e_s1]
  refine k_istore (l' := #[.val (.int p0), .val (.int p1), .val (.int p2), .val (.int p3), .val (.int d), .val (.int mk), .val (.int n), .val (.int s0), .val (.int s1), .unset, .unset, .unset, .unset]) (pc' := 43) C P at_41 rfl rfl ?_
  refine k_iloadN (pc' := 44) C P at_43 rfl rfl ?_
  refine k_iconst (z := (4 : Int32)) (pc' := 45) C P at_44 rfl rfl ?_
  refine k_iushr (pc' := 46) C P at_45 rfl ?_
  refine k_iconst (z := (3 : Int32)) (pc' := 47) C P at_46 rfl rfl ?_
  refine k_iand (pc' := 48) C P at_47 rfl ?_
  obtain ⟨s2, e_s2⟩ : ∃ z, z = ((k_ushr p2 (4 : Int32)) &&& (3 : Int32)) := ⟨_, rfl⟩
  rw [← e_s2]
  refine k_istore (l' := #[.val (.int p0), .val (.int p1), .val (.int p2), .val (.int p3), .val (.int d), .val (.int mk), .val (.int n), .val (.int s0), .val (.int s1), .val (.int s2), .unset, .unset, .unset]) (pc' := 50) C P at_48 rfl rfl ?_
  refine k_newo (pc' := 53) (cells' := 1) (slots' := 3) C P (C.w 0 rfl) (C.w 1 rfl) (C.w 2 rfl) at_50 rfl rfl (by decide) (by decide) rfl ?_
  intro T32 h32 b32 P32 hs32 ge_b32 sz_b32 E32 A32 D32
  have f32_b32 : KOb Z h32 b32 "com/example/outrigger/outrigger/RowFragment" layR [(.int (0 : Int32)), (.int (0 : Int32)), .null] := KOb.new A32 D32 (lokR C.hw) (by decide +kernel)
  refine k_dup (pc' := 54) C P32 at_53 rfl rfl ?_
  refine k_iload (pc' := 56) C P32 at_54 rfl rfl ?_
  refine k_iload (pc' := 58) C P32 at_56 rfl rfl ?_
  refine k_iload (pc' := 60) C P32 at_58 rfl rfl ?_
  refine k_callN (pc' := 63) (cells' := 2) (slots' := 6) (W := 1) C P32 rfl (C.w 3 rfl) (C.w 4 rfl) (C.w 5 rfl) (C.w 2 rfl) (by decide) (rmInit l Z a0 hw _ n0 P32.size b32 d mk n (own_nar hb_d) (own_nar hb_mk) N hN hN3 ge_b32 f32_b32 u (SU.ext (k_ext_of_keep P32.kept)) (EU.ext (k_ext_of_keep P32.kept))) b32 [(.int d), (.int mk), (.int n)] [(.ref b32)] rfl (lenOf pd_5 rfl) rfl (Nat.le_of_eq rfl) at_60 rfl (by decide) (by decide) rfl rfl (by decide) (by decide) (allS (Or.inr sz_b32) all0) rfl ?_
  intro T33 h33 v33 P33 K33 Q33
  obtain ⟨rfl, m33, kk, gm33, zm33, ne33, F33, V33, O33⟩ := Q33
  show KGo p e below _ T33 m 63 #[.val (.int p0), .val (.int p1), .val (.int p2), .val (.int p3), .val (.int d), .val (.int mk), .val (.int n), .val (.int s0), .val (.int s1), .val (.int s2), .unset, .unset, .unset] [(.ref b32)]
  refine k_astore (l' := #[.val (.int p0), .val (.int p1), .val (.int p2), .val (.int p3), .val (.int d), .val (.int mk), .val (.int n), .val (.int s0), .val (.int s1), .val (.int s2), .val (.ref b32), .unset, .unset]) (pc' := 65) C P33 at_63 rfl rfl rfl ?_
  refine k_iconst (z := (0 : Int32)) (pc' := 66) C P33 at_65 rfl rfl ?_
  refine k_istore (l' := #[.val (.int p0), .val (.int p1), .val (.int p2), .val (.int p3), .val (.int d), .val (.int mk), .val (.int n), .val (.int s0), .val (.int s1), .val (.int s2), .val (.ref b32), .val (.int (0 : Int32)), .unset]) (pc' := 68) C P33 at_66 rfl rfl ?_
  refine k_iload (pc' := 70) C P33 at_68 rfl rfl ?_
  refine k_ifB (pcY := 97) (pcN := 73) C P33 at_70 (by decide) (by decide) rfl ?_ ?_
  · intro (hc70 : ¬ (0 : Int32) < n)
    have le0 : N ≤ 0 := Nat.le_of_not_lt (fun q => hc70 ((OwnNum.lt_iff (show (0 : Int32).toInt = ((0 : Nat) : Int) from rfl) hN).mpr q))
    refine k_iload (pc' := 99) C P33 at_97 rfl rfl ?_
    refine k_iconst (z := (1 : Int32)) (pc' := 100) C P33 at_99 rfl rfl ?_
    refine k_icY (pc' := 127) C P33 at_100 (fun q => by have := (OwnNum.lt_iff (show (1 : Int32).toInt = ((1 : Nat) : Int) from rfl) hN).mp q; have := le0; omega) (by decide) (by decide) ?_
    refine k_iload (pc' := 129) C P33 at_127 rfl rfl ?_
    refine k_iconst (z := (2 : Int32)) (pc' := 130) C P33 at_129 rfl rfl ?_
    refine k_icY (pc' := 157) C P33 at_130 (fun q => by have := (OwnNum.lt_iff (show (2 : Int32).toInt = ((2 : Nat) : Int) from rfl) hN).mp q; have := le0; omega) (by decide) (by decide) ?_
    suffices hj34 : KGo p e below _ T33 m 172 #[.val (.int p0), .val (.int p1), .val (.int p2), .val (.int p3), .val (.int d), .val (.int mk), .val (.int n), .val (.int s0), .val (.int s1), .val (.int s2), .val (.ref b32), .val (.int (0 : Int32)), .unset] [(.int (if ¬ mk = 0 ∨ (False) then (1 : Int32) else 0))] by
      refine k_iload (pc' := 159) C P33 at_157 rfl rfl ?_
      refine k_ifB (pcY := 167) (pcN := 162) C P33 at_159 (by decide) (by decide) rfl ?_ ?_
      · intro (hc159 : ¬ mk = (0 : Int32))
        refine k_iconst (z := (1 : Int32)) (pc' := 168) C P33 at_167 rfl rfl ?_
        refine k_goto (pc' := 172) C P33 at_168 (by decide) (by decide) ?_
        exact hj34.cast rfl (by rw [if_pos (Or.inl hc159)])
      · intro (hc159 : mk = (0 : Int32))
        refine k_iload (pc' := 164) C P33 at_162 rfl rfl ?_
        refine k_ifY (pc' := 171) C P33 at_164 k_01 (by decide) (by decide) ?_
        refine k_iconst (z := (0 : Int32)) (pc' := 172) C P33 at_171 rfl rfl ?_
        exact hj34.cast rfl (by rw [if_neg (fun q => q.elim (fun q => q hc159) id)])
    refine k_istore (l' := #[.val (.int p0), .val (.int p1), .val (.int p2), .val (.int p3), .val (.int d), .val (.int mk), .val (.int n), .val (.int s0), .val (.int s1), .val (.int s2), .val (.ref b32), .val (.int (0 : Int32)), .val (.int (if ¬ mk = 0 ∨ (False) then (1 : Int32) else 0))]) (pc' := 174) C P33 at_172 rfl rfl ?_
    refine k_aload (pc' := 176) C P33 at_174 rfl rfl rfl ?_
    refine k_callV (pc' := 179) (cells' := 2) (slots' := 6) (W := 0) C P33 (C.w 41 rfl) (C.w 42 rfl) (fun _ q => notFace_of_selects (args := #[]) (mvT q (C.w 44 rfl))) (C.w 44 rfl) (C.w 43 rfl) (C.w 45 rfl) (C.w 2 rfl) (by decide) (rmLive l Z a0 hw _ n0 P33.size b32 m33 u d mk kk N (fun _ => Value.ref u) (fun j => False) (own_bs0 ) n hN F33 V33 (SU.ext (k_ext_of_keep P33.kept)) (if ¬ mk = 0 ∨ (False) then (1 : Int32) else 0) (fun q => by rw [if_pos (Or.inl q)]) (fun q r => by rw [if_pos (Or.inr (own_any0 r))]) (fun q r => by rw [if_neg (fun z => z.elim (fun z => z q) (own_none0 r (by omega)))])) F33.exa [] [] rfl (lenOf pd_6 rfl) rfl (Nat.le_of_eq rfl) at_176 rfl (by decide) (by decide) rfl rfl (by decide) (by decide) all0 rfl ?_
    intro T35 h35 v35 P35 K35 Q35
    obtain ⟨e35, g35⟩ := Q35
    subst g35
    subst e35
    show KGo p e below _ T35 m 179 #[.val (.int p0), .val (.int p1), .val (.int p2), .val (.int p3), .val (.int d), .val (.int mk), .val (.int n), .val (.int s0), .val (.int s1), .val (.int s2), .val (.ref b32), .val (.int (0 : Int32)), .val (.int (if ¬ mk = 0 ∨ (False) then (1 : Int32) else 0))] [(.int (if ¬ mk = 0 ∨ (False) then (1 : Int32) else 0))]
    refine k_iload (pc' := 181) C P35 at_179 rfl rfl ?_
    refine k_icN (pc' := 184) C P35 at_181 (rfl : (_ : Int32) = _) rfl ?_
    refine k_iconst (z := (1 : Int32)) (pc' := 185) C P35 at_184 rfl rfl ?_
    refine k_goto (pc' := 189) C P35 at_185 (by decide) (by decide) ?_
    exact k_retZ (z' := (1 : Int32)) C P35 (by simp) at_189 rfl (by decide) (by decide) rfl
  · intro (hc70 : (0 : Int32) < n)
    have gt0 : 0 < N := (OwnNum.lt_iff (show (0 : Int32).toInt = ((0 : Nat) : Int) from rfl) hN).mp hc70
    refine k_aload (pc' := 75) C P33 at_73 rfl rfl rfl ?_
    refine k_iconst (z := (0 : Int32)) (pc' := 76) C P33 at_75 rfl rfl ?_
    refine k_iload (pc' := 78) C P33 at_76 rfl rfl ?_
    refine k_iloadN (pc' := 79) C P33 at_78 rfl rfl ?_
    refine k_callT (pc' := 82) (cells' := 3) (slots' := 7) (W := 0) C P33 (C.w 24 rfl) (C.w 25 rfl) (C.w 27 rfl) (C.w 26 rfl) (by decide) (rmFl l Z a0 hw _ n0 P33.size b32 m33 d mk kk N (fun _ => Value.ref u) F33 V33 ne33 gm33 O33 u (EU.ext (k_ext_of_keep P33.kept)) 0 0 rfl (by omega) (own_sl00 u) s0 p3 (hi.ext (k_ext_of_keep P33.kept)) ca kc fc (hc.ext (k_ext_of_keep P33.kept)) (VC.ext (k_ext_of_keep P33.kept)) (fun j hj => (hfc j hj).imp fun r q => ⟨q.1, q.2.ext (k_ext_of_keep P33.kept)⟩)) [(.ref b32), (.int (0 : Int32)), (.int s0), (.int p3)] [] rfl (lenOf pd_7 rfl) rfl (Nat.le_of_eq rfl) at_79 rfl (by decide) (by decide) rfl rfl (by decide) (by decide) (allS (Or.inr (Nat.le_trans P32.kept.1 zm33)) all0) rfl ?_
    intro T36 h36 v36 P36 K36 Q36
    obtain ⟨rfl, x36, V36, sl36⟩ := Q36
    have f36_b32 := F33.keep K36 (ninS ne33 nin0)
    show KGo p e below _ T36 m 82 #[.val (.int p0), .val (.int p1), .val (.int p2), .val (.int p3), .val (.int d), .val (.int mk), .val (.int n), .val (.int s0), .val (.int s1), .val (.int s2), .val (.ref b32), .val (.int (0 : Int32)), .unset] [(.int (if s0 = 2 then (1 : Int32) else 0))]
    suffices hj37 : KGo p e below _ T36 m 95 #[.val (.int p0), .val (.int p1), .val (.int p2), .val (.int p3), .val (.int d), .val (.int mk), .val (.int n), .val (.int s0), .val (.int s1), .val (.int s2), .val (.ref b32), .val (.int (0 : Int32)), .unset] [(.int (if s0 = 2 then (1 : Int32) else 0))] by
      refine k_ifB (pcY := 90) (pcN := 85) C P36 at_82 (by decide) (by decide) rfl ?_ ?_
      · intro (hc82 : ¬ (if s0 = 2 then (1 : Int32) else 0) = (0 : Int32))
        refine k_iconst (z := (1 : Int32)) (pc' := 91) C P36 at_90 rfl rfl ?_
        refine k_goto (pc' := 95) C P36 at_91 (by decide) (by decide) ?_
        exact hj37.cast rfl (by rw [if_pos (own_i2 hc82)])
      · intro (hc82 : (if s0 = 2 then (1 : Int32) else 0) = (0 : Int32))
        refine k_iload (pc' := 87) C P36 at_85 rfl rfl ?_
        refine k_ifY (pc' := 94) C P36 at_87 k_01 (by decide) (by decide) ?_
        refine k_iconst (z := (0 : Int32)) (pc' := 95) C P36 at_94 rfl rfl ?_
        exact hj37.cast rfl (by rw [if_neg (own_i0 hc82)])
    refine k_istore (l' := #[.val (.int p0), .val (.int p1), .val (.int p2), .val (.int p3), .val (.int d), .val (.int mk), .val (.int n), .val (.int s0), .val (.int s1), .val (.int s2), .val (.ref b32), .val (.int (if s0 = 2 then (1 : Int32) else 0)), .unset]) (pc' := 97) C P36 at_95 rfl rfl ?_
    refine k_iload (pc' := 99) C P36 at_97 rfl rfl ?_
    refine k_iconst (z := (1 : Int32)) (pc' := 100) C P36 at_99 rfl rfl ?_
    refine k_icB (pcY := 127) (pcN := 103) C P36 at_100 (by decide) (by decide) rfl ?_ ?_
    · intro (hc100 : ¬ (1 : Int32) < n)
      have le1 : N ≤ 1 := Nat.le_of_not_lt (fun q => hc100 ((OwnNum.lt_iff (show (1 : Int32).toInt = ((1 : Nat) : Int) from rfl) hN).mpr q))
      refine k_iload (pc' := 129) C P36 at_127 rfl rfl ?_
      refine k_iconst (z := (2 : Int32)) (pc' := 130) C P36 at_129 rfl rfl ?_
      refine k_icY (pc' := 157) C P36 at_130 (fun q => by have := (OwnNum.lt_iff (show (2 : Int32).toInt = ((2 : Nat) : Int) from rfl) hN).mp q; have := le1; omega) (by decide) (by decide) ?_
      suffices hj38 : KGo p e below _ T36 m 172 #[.val (.int p0), .val (.int p1), .val (.int p2), .val (.int p3), .val (.int d), .val (.int mk), .val (.int n), .val (.int s0), .val (.int s1), .val (.int s2), .val (.ref b32), .val (.int (if s0 = 2 then (1 : Int32) else 0)), .unset] [(.int (if ¬ mk = 0 ∨ (s0 = 2) then (1 : Int32) else 0))] by
        refine k_iload (pc' := 159) C P36 at_157 rfl rfl ?_
        refine k_ifB (pcY := 167) (pcN := 162) C P36 at_159 (by decide) (by decide) rfl ?_ ?_
        · intro (hc159 : ¬ mk = (0 : Int32))
          refine k_iconst (z := (1 : Int32)) (pc' := 168) C P36 at_167 rfl rfl ?_
          refine k_goto (pc' := 172) C P36 at_168 (by decide) (by decide) ?_
          exact hj38.cast rfl (by rw [if_pos (Or.inl hc159)])
        · intro (hc159 : mk = (0 : Int32))
          refine k_iload (pc' := 164) C P36 at_162 rfl rfl ?_
          refine k_ifB (pcY := 171) (pcN := 167) C P36 at_164 (by decide) (by decide) rfl ?_ ?_
          · intro (hc164 : (if s0 = 2 then (1 : Int32) else 0) = (0 : Int32))
            refine k_iconst (z := (0 : Int32)) (pc' := 172) C P36 at_171 rfl rfl ?_
            exact hj38.cast rfl (by rw [if_neg (fun q => q.elim (fun q => q hc159) (own_i0 hc164))])
          · intro (hc164 : ¬ (if s0 = 2 then (1 : Int32) else 0) = (0 : Int32))
            refine k_iconst (z := (1 : Int32)) (pc' := 168) C P36 at_167 rfl rfl ?_
            refine k_goto (pc' := 172) C P36 at_168 (by decide) (by decide) ?_
            exact hj38.cast rfl (by rw [if_pos (Or.inr (own_i2 hc164))])
      refine k_istore (l' := #[.val (.int p0), .val (.int p1), .val (.int p2), .val (.int p3), .val (.int d), .val (.int mk), .val (.int n), .val (.int s0), .val (.int s1), .val (.int s2), .val (.ref b32), .val (.int (if s0 = 2 then (1 : Int32) else 0)), .val (.int (if ¬ mk = 0 ∨ (s0 = 2) then (1 : Int32) else 0))]) (pc' := 174) C P36 at_172 rfl rfl ?_
      refine k_aload (pc' := 176) C P36 at_174 rfl rfl rfl ?_
      refine k_callV (pc' := 179) (cells' := 3) (slots' := 7) (W := 0) C P36 (C.w 41 rfl) (C.w 42 rfl) (fun _ q => notFace_of_selects (args := #[]) (mvT q (C.w 44 rfl))) (C.w 44 rfl) (C.w 43 rfl) (C.w 45 rfl) (C.w 2 rfl) (by decide) (rmLive l Z a0 hw _ n0 P36.size b32 m33 u d mk kk N (fun j => if j = 0 then x36 else (fun _ => Value.ref u) j) (fun j => if j = 0 then (s0 = 2) else (fun j => False) j) (own_bs1 sl36) n hN f36_b32 V36 (SU.ext (k_ext_of_keep P36.kept)) (if ¬ mk = 0 ∨ (s0 = 2) then (1 : Int32) else 0) (fun q => by rw [if_pos (Or.inl q)]) (fun q r => by rw [if_pos (Or.inr (own_any1 r))]) (fun q r => by rw [if_neg (fun z => z.elim (fun z => z q) (own_none1 r (by omega)))])) f36_b32.exa [] [] rfl (lenOf pd_6 rfl) rfl (Nat.le_of_eq rfl) at_176 rfl (by decide) (by decide) rfl rfl (by decide) (by decide) all0 rfl ?_
      intro T39 h39 v39 P39 K39 Q39
      obtain ⟨e39, g39⟩ := Q39
      subst g39
      subst e39
      show KGo p e below _ T39 m 179 #[.val (.int p0), .val (.int p1), .val (.int p2), .val (.int p3), .val (.int d), .val (.int mk), .val (.int n), .val (.int s0), .val (.int s1), .val (.int s2), .val (.ref b32), .val (.int (if s0 = 2 then (1 : Int32) else 0)), .val (.int (if ¬ mk = 0 ∨ (s0 = 2) then (1 : Int32) else 0))] [(.int (if ¬ mk = 0 ∨ (s0 = 2) then (1 : Int32) else 0))]
      refine k_iload (pc' := 181) C P39 at_179 rfl rfl ?_
      refine k_icN (pc' := 184) C P39 at_181 (rfl : (_ : Int32) = _) rfl ?_
      refine k_iconst (z := (1 : Int32)) (pc' := 185) C P39 at_184 rfl rfl ?_
      refine k_goto (pc' := 189) C P39 at_185 (by decide) (by decide) ?_
      exact k_retZ (z' := (1 : Int32)) C P39 (by simp) at_189 rfl (by decide) (by decide) rfl
    · intro (hc100 : (1 : Int32) < n)
      have gt1 : 1 < N := (OwnNum.lt_iff (show (1 : Int32).toInt = ((1 : Nat) : Int) from rfl) hN).mp hc100
      refine k_aload (pc' := 105) C P36 at_103 rfl rfl rfl ?_
      refine k_iconst (z := (1 : Int32)) (pc' := 106) C P36 at_105 rfl rfl ?_
      refine k_iload (pc' := 108) C P36 at_106 rfl rfl ?_
      refine k_iloadN (pc' := 109) C P36 at_108 rfl rfl ?_
      refine k_callT (pc' := 112) (cells' := 4) (slots' := 8) (W := 0) C P36 (C.w 24 rfl) (C.w 25 rfl) (C.w 27 rfl) (C.w 26 rfl) (by decide) (rmFl l Z a0 hw _ n0 P36.size b32 m33 d mk kk N (fun j => if j = 0 then x36 else (fun _ => Value.ref u) j) f36_b32 V36 ne33 gm33 O33 u (EU.ext (k_ext_of_keep P36.kept)) 1 1 rfl (by omega) (own_sl00 u) s1 p3 (hi.ext (k_ext_of_keep P36.kept)) ca kc fc (hc.ext (k_ext_of_keep P36.kept)) (VC.ext (k_ext_of_keep P36.kept)) (fun j hj => (hfc j hj).imp fun r q => ⟨q.1, q.2.ext (k_ext_of_keep P36.kept)⟩)) [(.ref b32), (.int (1 : Int32)), (.int s1), (.int p3)] [] rfl (lenOf pd_7 rfl) rfl (Nat.le_of_eq rfl) at_109 rfl (by decide) (by decide) rfl rfl (by decide) (by decide) (allS (Or.inr (Nat.le_trans P32.kept.1 zm33)) all0) rfl ?_
      intro T40 h40 v40 P40 K40 Q40
      obtain ⟨rfl, x40, V40, sl40⟩ := Q40
      have f40_b32 := f36_b32.keep K40 (ninS ne33 nin0)
      show KGo p e below _ T40 m 112 #[.val (.int p0), .val (.int p1), .val (.int p2), .val (.int p3), .val (.int d), .val (.int mk), .val (.int n), .val (.int s0), .val (.int s1), .val (.int s2), .val (.ref b32), .val (.int (if s0 = 2 then (1 : Int32) else 0)), .unset] [(.int (if s1 = 2 then (1 : Int32) else 0))]
      suffices hj41 : KGo p e below _ T40 m 125 #[.val (.int p0), .val (.int p1), .val (.int p2), .val (.int p3), .val (.int d), .val (.int mk), .val (.int n), .val (.int s0), .val (.int s1), .val (.int s2), .val (.ref b32), .val (.int (if s0 = 2 then (1 : Int32) else 0)), .unset] [(.int (if s1 = 2 ∨ s0 = 2 then (1 : Int32) else 0))] by
        refine k_ifB (pcY := 120) (pcN := 115) C P40 at_112 (by decide) (by decide) rfl ?_ ?_
        · intro (hc112 : ¬ (if s1 = 2 then (1 : Int32) else 0) = (0 : Int32))
          refine k_iconst (z := (1 : Int32)) (pc' := 121) C P40 at_120 rfl rfl ?_
          refine k_goto (pc' := 125) C P40 at_121 (by decide) (by decide) ?_
          exact hj41.cast rfl (by rw [if_pos (Or.inl (own_i2 hc112))])
        · intro (hc112 : (if s1 = 2 then (1 : Int32) else 0) = (0 : Int32))
          refine k_iload (pc' := 117) C P40 at_115 rfl rfl ?_
          refine k_ifB (pcY := 124) (pcN := 120) C P40 at_117 (by decide) (by decide) rfl ?_ ?_
          · intro (hc117 : (if s0 = 2 then (1 : Int32) else 0) = (0 : Int32))
            refine k_iconst (z := (0 : Int32)) (pc' := 125) C P40 at_124 rfl rfl ?_
            exact hj41.cast rfl (by rw [if_neg (fun q => q.elim (own_i0 hc112) (own_i0 hc117))])
          · intro (hc117 : ¬ (if s0 = 2 then (1 : Int32) else 0) = (0 : Int32))
            refine k_iconst (z := (1 : Int32)) (pc' := 121) C P40 at_120 rfl rfl ?_
            refine k_goto (pc' := 125) C P40 at_121 (by decide) (by decide) ?_
            exact hj41.cast rfl (by rw [if_pos (Or.inr (own_i2 hc117))])
      refine k_istore (l' := #[.val (.int p0), .val (.int p1), .val (.int p2), .val (.int p3), .val (.int d), .val (.int mk), .val (.int n), .val (.int s0), .val (.int s1), .val (.int s2), .val (.ref b32), .val (.int (if s1 = 2 ∨ s0 = 2 then (1 : Int32) else 0)), .unset]) (pc' := 127) C P40 at_125 rfl rfl ?_
      refine k_iload (pc' := 129) C P40 at_127 rfl rfl ?_
      refine k_iconst (z := (2 : Int32)) (pc' := 130) C P40 at_129 rfl rfl ?_
      refine k_icB (pcY := 157) (pcN := 133) C P40 at_130 (by decide) (by decide) rfl ?_ ?_
      · intro (hc130 : ¬ (2 : Int32) < n)
        have le2 : N ≤ 2 := Nat.le_of_not_lt (fun q => hc130 ((OwnNum.lt_iff (show (2 : Int32).toInt = ((2 : Nat) : Int) from rfl) hN).mpr q))
        suffices hj42 : KGo p e below _ T40 m 172 #[.val (.int p0), .val (.int p1), .val (.int p2), .val (.int p3), .val (.int d), .val (.int mk), .val (.int n), .val (.int s0), .val (.int s1), .val (.int s2), .val (.ref b32), .val (.int (if s1 = 2 ∨ s0 = 2 then (1 : Int32) else 0)), .unset] [(.int (if ¬ mk = 0 ∨ (s1 = 2 ∨ s0 = 2) then (1 : Int32) else 0))] by
          refine k_iload (pc' := 159) C P40 at_157 rfl rfl ?_
          refine k_ifB (pcY := 167) (pcN := 162) C P40 at_159 (by decide) (by decide) rfl ?_ ?_
          · intro (hc159 : ¬ mk = (0 : Int32))
            refine k_iconst (z := (1 : Int32)) (pc' := 168) C P40 at_167 rfl rfl ?_
            refine k_goto (pc' := 172) C P40 at_168 (by decide) (by decide) ?_
            exact hj42.cast rfl (by rw [if_pos (Or.inl hc159)])
          · intro (hc159 : mk = (0 : Int32))
            refine k_iload (pc' := 164) C P40 at_162 rfl rfl ?_
            refine k_ifB (pcY := 171) (pcN := 167) C P40 at_164 (by decide) (by decide) rfl ?_ ?_
            · intro (hc164 : (if s1 = 2 ∨ s0 = 2 then (1 : Int32) else 0) = (0 : Int32))
              refine k_iconst (z := (0 : Int32)) (pc' := 172) C P40 at_171 rfl rfl ?_
              exact hj42.cast rfl (by rw [if_neg (fun q => q.elim (fun q => q hc159) (own_i0 hc164))])
            · intro (hc164 : ¬ (if s1 = 2 ∨ s0 = 2 then (1 : Int32) else 0) = (0 : Int32))
              refine k_iconst (z := (1 : Int32)) (pc' := 168) C P40 at_167 rfl rfl ?_
              refine k_goto (pc' := 172) C P40 at_168 (by decide) (by decide) ?_
              exact hj42.cast rfl (by rw [if_pos (Or.inr (own_i2 hc164))])
        refine k_istore (l' := #[.val (.int p0), .val (.int p1), .val (.int p2), .val (.int p3), .val (.int d), .val (.int mk), .val (.int n), .val (.int s0), .val (.int s1), .val (.int s2), .val (.ref b32), .val (.int (if s1 = 2 ∨ s0 = 2 then (1 : Int32) else 0)), .val (.int (if ¬ mk = 0 ∨ (s1 = 2 ∨ s0 = 2) then (1 : Int32) else 0))]) (pc' := 174) C P40 at_172 rfl rfl ?_
        refine k_aload (pc' := 176) C P40 at_174 rfl rfl rfl ?_
        refine k_callV (pc' := 179) (cells' := 4) (slots' := 8) (W := 0) C P40 (C.w 41 rfl) (C.w 42 rfl) (fun _ q => notFace_of_selects (args := #[]) (mvT q (C.w 44 rfl))) (C.w 44 rfl) (C.w 43 rfl) (C.w 45 rfl) (C.w 2 rfl) (by decide) (rmLive l Z a0 hw _ n0 P40.size b32 m33 u d mk kk N (fun j => if j = 1 then x40 else (fun j => if j = 0 then x36 else (fun _ => Value.ref u) j) j) (fun j => if j = 1 then (s1 = 2) else (fun j => if j = 0 then (s0 = 2) else (fun j => False) j) j) (own_bs2 sl36 sl40) n hN f40_b32 V40 (SU.ext (k_ext_of_keep P40.kept)) (if ¬ mk = 0 ∨ (s1 = 2 ∨ s0 = 2) then (1 : Int32) else 0) (fun q => by rw [if_pos (Or.inl q)]) (fun q r => by rw [if_pos (Or.inr (own_any2 r))]) (fun q r => by rw [if_neg (fun z => z.elim (fun z => z q) (own_none2 r (by omega)))])) f40_b32.exa [] [] rfl (lenOf pd_6 rfl) rfl (Nat.le_of_eq rfl) at_176 rfl (by decide) (by decide) rfl rfl (by decide) (by decide) all0 rfl ?_
        intro T43 h43 v43 P43 K43 Q43
        obtain ⟨e43, g43⟩ := Q43
        subst g43
        subst e43
        show KGo p e below _ T43 m 179 #[.val (.int p0), .val (.int p1), .val (.int p2), .val (.int p3), .val (.int d), .val (.int mk), .val (.int n), .val (.int s0), .val (.int s1), .val (.int s2), .val (.ref b32), .val (.int (if s1 = 2 ∨ s0 = 2 then (1 : Int32) else 0)), .val (.int (if ¬ mk = 0 ∨ (s1 = 2 ∨ s0 = 2) then (1 : Int32) else 0))] [(.int (if ¬ mk = 0 ∨ (s1 = 2 ∨ s0 = 2) then (1 : Int32) else 0))]
        refine k_iload (pc' := 181) C P43 at_179 rfl rfl ?_
        refine k_icN (pc' := 184) C P43 at_181 (rfl : (_ : Int32) = _) rfl ?_
        refine k_iconst (z := (1 : Int32)) (pc' := 185) C P43 at_184 rfl rfl ?_
        refine k_goto (pc' := 189) C P43 at_185 (by decide) (by decide) ?_
        exact k_retZ (z' := (1 : Int32)) C P43 (by simp) at_189 rfl (by decide) (by decide) rfl
      · intro (hc130 : (2 : Int32) < n)
        have gt2 : 2 < N := (OwnNum.lt_iff (show (2 : Int32).toInt = ((2 : Nat) : Int) from rfl) hN).mp hc130
        refine k_aload (pc' := 135) C P40 at_133 rfl rfl rfl ?_
        refine k_iconst (z := (2 : Int32)) (pc' := 136) C P40 at_135 rfl rfl ?_
        refine k_iload (pc' := 138) C P40 at_136 rfl rfl ?_
        refine k_iloadN (pc' := 139) C P40 at_138 rfl rfl ?_
        refine k_callT (pc' := 142) (cells' := 5) (slots' := 9) (W := 0) C P40 (C.w 24 rfl) (C.w 25 rfl) (C.w 27 rfl) (C.w 26 rfl) (by decide) (rmFl l Z a0 hw _ n0 P40.size b32 m33 d mk kk N (fun j => if j = 1 then x40 else (fun j => if j = 0 then x36 else (fun _ => Value.ref u) j) j) f40_b32 V40 ne33 gm33 O33 u (EU.ext (k_ext_of_keep P40.kept)) 2 2 rfl (by omega) (own_sl00 u) s2 p3 (hi.ext (k_ext_of_keep P40.kept)) ca kc fc (hc.ext (k_ext_of_keep P40.kept)) (VC.ext (k_ext_of_keep P40.kept)) (fun j hj => (hfc j hj).imp fun r q => ⟨q.1, q.2.ext (k_ext_of_keep P40.kept)⟩)) [(.ref b32), (.int (2 : Int32)), (.int s2), (.int p3)] [] rfl (lenOf pd_7 rfl) rfl (Nat.le_of_eq rfl) at_139 rfl (by decide) (by decide) rfl rfl (by decide) (by decide) (allS (Or.inr (Nat.le_trans P32.kept.1 zm33)) all0) rfl ?_
        intro T44 h44 v44 P44 K44 Q44
        obtain ⟨rfl, x44, V44, sl44⟩ := Q44
        have f44_b32 := f40_b32.keep K44 (ninS ne33 nin0)
        show KGo p e below _ T44 m 142 #[.val (.int p0), .val (.int p1), .val (.int p2), .val (.int p3), .val (.int d), .val (.int mk), .val (.int n), .val (.int s0), .val (.int s1), .val (.int s2), .val (.ref b32), .val (.int (if s1 = 2 ∨ s0 = 2 then (1 : Int32) else 0)), .unset] [(.int (if s2 = 2 then (1 : Int32) else 0))]
        suffices hj45 : KGo p e below _ T44 m 155 #[.val (.int p0), .val (.int p1), .val (.int p2), .val (.int p3), .val (.int d), .val (.int mk), .val (.int n), .val (.int s0), .val (.int s1), .val (.int s2), .val (.ref b32), .val (.int (if s1 = 2 ∨ s0 = 2 then (1 : Int32) else 0)), .unset] [(.int (if s2 = 2 ∨ s1 = 2 ∨ s0 = 2 then (1 : Int32) else 0))] by
          refine k_ifB (pcY := 150) (pcN := 145) C P44 at_142 (by decide) (by decide) rfl ?_ ?_
          · intro (hc142 : ¬ (if s2 = 2 then (1 : Int32) else 0) = (0 : Int32))
            refine k_iconst (z := (1 : Int32)) (pc' := 151) C P44 at_150 rfl rfl ?_
            refine k_goto (pc' := 155) C P44 at_151 (by decide) (by decide) ?_
            exact hj45.cast rfl (by rw [if_pos (Or.inl (own_i2 hc142))])
          · intro (hc142 : (if s2 = 2 then (1 : Int32) else 0) = (0 : Int32))
            refine k_iload (pc' := 147) C P44 at_145 rfl rfl ?_
            refine k_ifB (pcY := 154) (pcN := 150) C P44 at_147 (by decide) (by decide) rfl ?_ ?_
            · intro (hc147 : (if s1 = 2 ∨ s0 = 2 then (1 : Int32) else 0) = (0 : Int32))
              refine k_iconst (z := (0 : Int32)) (pc' := 155) C P44 at_154 rfl rfl ?_
              exact hj45.cast rfl (by rw [if_neg (fun q => q.elim (own_i0 hc142) (own_i0 hc147))])
            · intro (hc147 : ¬ (if s1 = 2 ∨ s0 = 2 then (1 : Int32) else 0) = (0 : Int32))
              refine k_iconst (z := (1 : Int32)) (pc' := 151) C P44 at_150 rfl rfl ?_
              refine k_goto (pc' := 155) C P44 at_151 (by decide) (by decide) ?_
              exact hj45.cast rfl (by rw [if_pos (Or.inr (own_i2 hc147))])
        refine k_istore (l' := #[.val (.int p0), .val (.int p1), .val (.int p2), .val (.int p3), .val (.int d), .val (.int mk), .val (.int n), .val (.int s0), .val (.int s1), .val (.int s2), .val (.ref b32), .val (.int (if s2 = 2 ∨ s1 = 2 ∨ s0 = 2 then (1 : Int32) else 0)), .unset]) (pc' := 157) C P44 at_155 rfl rfl ?_
        suffices hj46 : KGo p e below _ T44 m 172 #[.val (.int p0), .val (.int p1), .val (.int p2), .val (.int p3), .val (.int d), .val (.int mk), .val (.int n), .val (.int s0), .val (.int s1), .val (.int s2), .val (.ref b32), .val (.int (if s2 = 2 ∨ s1 = 2 ∨ s0 = 2 then (1 : Int32) else 0)), .unset] [(.int (if ¬ mk = 0 ∨ (s2 = 2 ∨ s1 = 2 ∨ s0 = 2) then (1 : Int32) else 0))] by
          refine k_iload (pc' := 159) C P44 at_157 rfl rfl ?_
          refine k_ifB (pcY := 167) (pcN := 162) C P44 at_159 (by decide) (by decide) rfl ?_ ?_
          · intro (hc159 : ¬ mk = (0 : Int32))
            refine k_iconst (z := (1 : Int32)) (pc' := 168) C P44 at_167 rfl rfl ?_
            refine k_goto (pc' := 172) C P44 at_168 (by decide) (by decide) ?_
            exact hj46.cast rfl (by rw [if_pos (Or.inl hc159)])
          · intro (hc159 : mk = (0 : Int32))
            refine k_iload (pc' := 164) C P44 at_162 rfl rfl ?_
            refine k_ifB (pcY := 171) (pcN := 167) C P44 at_164 (by decide) (by decide) rfl ?_ ?_
            · intro (hc164 : (if s2 = 2 ∨ s1 = 2 ∨ s0 = 2 then (1 : Int32) else 0) = (0 : Int32))
              refine k_iconst (z := (0 : Int32)) (pc' := 172) C P44 at_171 rfl rfl ?_
              exact hj46.cast rfl (by rw [if_neg (fun q => q.elim (fun q => q hc159) (own_i0 hc164))])
            · intro (hc164 : ¬ (if s2 = 2 ∨ s1 = 2 ∨ s0 = 2 then (1 : Int32) else 0) = (0 : Int32))
              refine k_iconst (z := (1 : Int32)) (pc' := 168) C P44 at_167 rfl rfl ?_
              refine k_goto (pc' := 172) C P44 at_168 (by decide) (by decide) ?_
              exact hj46.cast rfl (by rw [if_pos (Or.inr (own_i2 hc164))])
        refine k_istore (l' := #[.val (.int p0), .val (.int p1), .val (.int p2), .val (.int p3), .val (.int d), .val (.int mk), .val (.int n), .val (.int s0), .val (.int s1), .val (.int s2), .val (.ref b32), .val (.int (if s2 = 2 ∨ s1 = 2 ∨ s0 = 2 then (1 : Int32) else 0)), .val (.int (if ¬ mk = 0 ∨ (s2 = 2 ∨ s1 = 2 ∨ s0 = 2) then (1 : Int32) else 0))]) (pc' := 174) C P44 at_172 rfl rfl ?_
        refine k_aload (pc' := 176) C P44 at_174 rfl rfl rfl ?_
        refine k_callV (pc' := 179) (cells' := 5) (slots' := 9) (W := 0) C P44 (C.w 41 rfl) (C.w 42 rfl) (fun _ q => notFace_of_selects (args := #[]) (mvT q (C.w 44 rfl))) (C.w 44 rfl) (C.w 43 rfl) (C.w 45 rfl) (C.w 2 rfl) (by decide) (rmLive l Z a0 hw _ n0 P44.size b32 m33 u d mk kk N (fun j => if j = 2 then x44 else (fun j => if j = 1 then x40 else (fun j => if j = 0 then x36 else (fun _ => Value.ref u) j) j) j) (fun j => if j = 2 then (s2 = 2) else (fun j => if j = 1 then (s1 = 2) else (fun j => if j = 0 then (s0 = 2) else (fun j => False) j) j) j) (own_bs3 sl36 sl40 sl44) n hN f44_b32 V44 (SU.ext (k_ext_of_keep P44.kept)) (if ¬ mk = 0 ∨ (s2 = 2 ∨ s1 = 2 ∨ s0 = 2) then (1 : Int32) else 0) (fun q => by rw [if_pos (Or.inl q)]) (fun q r => by rw [if_pos (Or.inr (own_any3 r))]) (fun q r => by rw [if_neg (fun z => z.elim (fun z => z q) (own_none3 r (by omega)))])) f44_b32.exa [] [] rfl (lenOf pd_6 rfl) rfl (Nat.le_of_eq rfl) at_176 rfl (by decide) (by decide) rfl rfl (by decide) (by decide) all0 rfl ?_
        intro T47 h47 v47 P47 K47 Q47
        obtain ⟨e47, g47⟩ := Q47
        subst g47
        subst e47
        show KGo p e below _ T47 m 179 #[.val (.int p0), .val (.int p1), .val (.int p2), .val (.int p3), .val (.int d), .val (.int mk), .val (.int n), .val (.int s0), .val (.int s1), .val (.int s2), .val (.ref b32), .val (.int (if s2 = 2 ∨ s1 = 2 ∨ s0 = 2 then (1 : Int32) else 0)), .val (.int (if ¬ mk = 0 ∨ (s2 = 2 ∨ s1 = 2 ∨ s0 = 2) then (1 : Int32) else 0))] [(.int (if ¬ mk = 0 ∨ (s2 = 2 ∨ s1 = 2 ∨ s0 = 2) then (1 : Int32) else 0))]
        refine k_iload (pc' := 181) C P47 at_179 rfl rfl ?_
        refine k_icN (pc' := 184) C P47 at_181 (rfl : (_ : Int32) = _) rfl ?_
        refine k_iconst (z := (1 : Int32)) (pc' := 185) C P47 at_184 rfl rfl ?_
        refine k_goto (pc' := 189) C P47 at_185 (by decide) (by decide) ?_
        exact k_retZ (z' := (1 : Int32)) C P47 (by simp) at_189 rfl (by decide) (by decide) rfl
set_option maxRecDepth 65536 in
set_option maxHeartbeats 40000000 in
theorem comes_1 {Post : Tables → Env → Array Value → State → Outcome → State → Prop} (hpost : ∀ tb e args s v u, (limb_1_1.after args s (.returned v) u = true ∧ limb_1_2.after args s (.returned v) u = true ∧ True) → FrameEnd s (.returned v) u (Jvm.fieldLocs frame_1_writes args s ++ Jvm.arrayLocs frame_1_arrays args s ++ Jvm.staticLocs frame_1_statics s) 24 128 → Post tb e args s (.returned v) u) :
    ArmFor flags0 classFile x code maxLocals ret World_1 tables_1 room_1 Calls_1 rest_1 Pre_1 Post := by
  intro l hfl _ _ p e ha hc hk s m args below hf hA hF happ hP
  obtain ⟨hcalls, hrest, hpre⟩ := hP
  obtain ⟨-, -, -, hnamed, -, -, -, hat⟩ := (Spec.applies_iff hf).mp happ
  obtain ⟨hg, hn⟩ := and_e (Cond.before_iff.mp (show (Jvm.Cond.and given_1 narrow_1).before args s = true from hpre))
  obtain ⟨g0, g1⟩ := and_e hg
  obtain ⟨a0, g2⟩ := and_e g1
  obtain ⟨a1, g3⟩ := and_e g2
  obtain ⟨a2, g4⟩ := and_e g3
  have a3 := g4
  obtain ⟨w0, w1, w2, w3, rfl⟩ : ∃ w0 w1 w2 w3 : Value, args = #[w0, w1, w2, w3] := by
    have hs : args.size = 4 := by simpa [Cond.value, given_1] using g0
    obtain ⟨L⟩ := args
    match L, hs with
    | [w0, w1, w2, w3], _ => exact ⟨w0, w1, w2, w3, rfl⟩
  have hw := fun d (hd : d ∈ tables_1) => atoms_spec (ws := Jvm.Cond.code x code maxLocals ret :: tables_1) hat d (List.mem_cons_of_mem _ hd)
  have hfit : Fit s := fun {y c} hc i hi => by
    obtain ⟨ha, rfl⟩ := Array.getElem?_eq_some_iff.mp hc
    have q := List.all_eq_true.mp ((Array.all_eq_true_iff_forall_mem.mp hF) _ (Array.getElem_mem ha)) i (List.mem_range.mpr hi)
    simpa [Array.getElem?_eq_getElem hi] using q
  obtain ⟨hsets, hown0⟩ := atoms_of _ (rest_1_c_eq ▸ (show rest_1_c.before _ s = true from hrest))
  have hr0 := Cond.before_iff.mp hown0
  obtain ⟨i0, ei0⟩ := is_v a0
  obtain rfl : w0 = (.int i0) := Option.some.inj ei0
  obtain ⟨i1, ei1⟩ := is_v a1
  obtain rfl : w1 = (.int i1) := Option.some.inj ei1
  obtain ⟨i2, ei2⟩ := is_v a2
  obtain rfl : w2 = (.int i2) := Option.some.inj ei2
  obtain ⟨i3, ei3⟩ := is_v a3
  obtain rfl : w3 = (.int i3) := Option.some.inj ei3
  obtain ⟨u, SU, EU, xhi, ca, kc, fc, xhc, VC, hfc⟩ := own_start (show ∀ d ∈ jdkStatics_1, d.before _ s = true from hsets) (hw _ (List.mem_of_getElem? (i := 2) rfl)) (hw _ (List.mem_of_getElem? (i := 18) rfl)) (hw _ (List.mem_of_getElem? (i := 33) rfl)) hn
  obtain ⟨n, o, h1, h2, h3, _, L, rfl, ⟨N, _, rfl⟩, hq0⟩ := (rm0 l s _ hw s.heap s.heap.size (Nat.le_refl _) i0 i1 i2 i3 u SU EU xhi ca kc fc xhc VC hfc) tables_1 p e ha hc hk s m _ below hf ((Spec.applies_iff_loose hf).mp happ).1 ⟨rfl, State.Warmed39.refl s, rfl⟩ trivial
  have hq : FrameEnd _ _ _ _ _ _ := hq0
  refine ⟨n, _, h1, h2, h3, hpost _ _ _ _ _ _ ⟨Cond.after_iff.mpr rfl, Cond.after_iff.mpr (eq_i res_at (Term.int_eval (1)) rfl), trivial⟩ ⟨hq.1, hq.2.1, (hq.2.2.sift fun y hy => Or.inr (N y hy)).mono (by decide) (by decide)⟩⟩
theorem main_1_1 : Claimed_1_1 := comes_1 fun _ _ _ _ _ _ h hF => ⟨h.1, hF⟩
theorem main_1_2 : Claimed_1_2 := comes_1 fun _ _ _ _ _ _ h hF => ⟨h.2.1, hF⟩
end Jvm.Pilot.@@N@@
namespace Jvm.Pilot.@@N@@
open Jvm Jvm.ClassFile Sem Op Lib Jvm.Free Jvm.Stand Jvm.Pilot.@@N@@.Jvm.D
/-! MADE BY PROGRAM (witnessworld.py) out of the Statement's table words and the real class files: 19 classes; the members and pool entries that the words name. The judged class is class 1, her method 1. -/
namespace start1
open Jvm.ClassFile
def u (s : String) : CpInfo := .utf8 (stringToUtf16 s)
/-- a pool by its gaps: so many unusable entries, then the entry; so many at the end -/
def gap : Nat → List CpInfo → List CpInfo
  | 0, r => r
  | n + 1, r => .unusable :: gap n r
def poolList (es : List (Nat × CpInfo)) (last : Nat) : List CpInfo := es.foldr (fun e r => gap e.1 (e.2 :: r)) (gap last [])
def pool (es : List (Nat × CpInfo)) (last : Nat) : Array CpInfo := ⟨poolList es last⟩
def fileOf (pool : Array CpInfo) (this : Nat) (attrs : Array Attribute := #[]) (ms : Array MethodInfo := #[]) (fl : Nat := 33) (sup : Nat := 0) (ifs : Array Nat := #[]) (fds : Array FieldInfo := #[]) : ClassFile where
  minorVersion := 0
  majorVersion := 65
  constantPool := pool
  accessFlags := fl
  thisClass := this
  superClass := sup
  interfaces := ifs
  fields := fds
  methods := ms
  attributes := attrs
def plain (name : String) (sup : Option ClassId) : Class where
  name := name
  kind := .ordinary
  loader := none
  accessFlags := 33
  super := sup
  interfaces := #[]
  cf := none
  fields := #[]
  methods := #[]
  instanceTypes := #[]
  staticTypes := #[]
  resolved := #[]
  callSites := []
  init := .initialized
  statics := none
  mirror := none

def pool0 : Array CpInfo := pool [(5, u "<init>"), (0, u "()V"), (1, .class_ 10), (1, u "java/lang/Object")] 113

def k0c0 : Code := { maxStack := 0, maxLocals := 1, code := object_method_1_code, exceptionTable := #[], attributes := #[] }
def k0m0 : Method := { name := "<init>", desc := "()V", sig := { parameters := [], returnType := none }, accessFlags := 1, code := some k0c0 }
/-- java/lang/Object -/
def k0 : Class := { plain "java/lang/Object" none with
  accessFlags := 33
  interfaces := #[]
  cf := some (fileOf pool0 8 #[] #[{ accessFlags := 1, nameIndex := 5, descriptorIndex := 6, attributes := #[] }] 33 0 #[] #[])
  fields := #[]
  methods := #[k0m0]
  instanceTypes := #[]
  staticTypes := #[]
  resolved := Array.replicate 124 none
  statics := none }

def pool1 : Array CpInfo := pool [(2, .class_ 4), (1, u "java/lang/Object"), (0, u "<init>"), (0, u "()V"), (0, .class_ 8), (0, u "com/example/outrigger/outrigger/RowFragment"), (0, .methodref 7 10), (0, .nameAndType 5 11), (0, u "(ZZI)V"), (0, .methodref 13 14), (0, .class_ 15), (0, .nameAndType 16 17), (0, u "com/example/outrigger/outrigger/RowFragmentIsLivePinLaw"), (0, u "fill"), (0, u "(Lcom/example/outrigger/outrigger/RowFragment;III)Z"), (0, .methodref 7 19), (0, .nameAndType 20 21), (0, u "isLive"), (0, u "()Z"), (0, .methodref 7 23), (0, .nameAndType 24 25), (0, u "set"), (0, u "(ILjava/lang/Object;)V"), (0, .methodref 27 28), (0, .class_ 29), (0, .nameAndType 30 31), (0, u "java/lang/Integer"), (0, u "valueOf"), (0, u "(I)Ljava/lang/Integer;"), (2, u "law"), (0, u "(IIII)Z")] 3

def k1m0 : Method := { name := "<init>", desc := "()V", sig := { parameters := [], returnType := none }, accessFlags := 1, code := none }
def k1c1 : Code := { maxStack := 5, maxLocals := 13, code := code, exceptionTable := #[], attributes := #[] }
def k1m1 : Method := { name := "law", desc := "(IIII)Z", sig := { parameters := [.int, .int, .int, .int], returnType := some .boolean }, accessFlags := 9, code := some k1c1 }
def k1c2 : Code := { maxStack := 3, maxLocals := 4, code := method_3_code, exceptionTable := #[], attributes := #[] }
def k1m2 : Method := { name := "fill", desc := "(Lcom/example/outrigger/outrigger/RowFragment;III)Z", sig := { parameters := [(.object "com/example/outrigger/outrigger/RowFragment"), .int, .int, .int], returnType := some .boolean }, accessFlags := 10, code := some k1c2 }
/-- com/example/outrigger/outrigger/RowFragmentIsLivePinLaw -/
def k1 : Class := { plain "com/example/outrigger/outrigger/RowFragmentIsLivePinLaw" (some 0) with
  accessFlags := 49
  interfaces := #[]
  cf := some (fileOf pool1 13 #[] #[{ accessFlags := 1, nameIndex := 5, descriptorIndex := 6, attributes := #[] }, { accessFlags := 9, nameIndex := 34, descriptorIndex := 35, attributes := #[] }, { accessFlags := 10, nameIndex := 16, descriptorIndex := 17, attributes := #[] }] 49 2 #[] #[])
  fields := #[]
  methods := #[k1m0, k1m1, k1m2]
  instanceTypes := #[]
  staticTypes := #[]
  resolved := Array.replicate 39 none
  statics := none }

def pool2 : Array CpInfo := pool [(1, .class_ 2), (0, u "com/example/outrigger/outrigger/RowTree$Row"), (0, .class_ 4), (0, u "java/lang/Object"), (5, .class_ 11), (0, u "com/example/outrigger/outrigger/RowTree")] 2

/-- com/example/outrigger/outrigger/RowTree$Row -/
def k2 : Class := { plain "com/example/outrigger/outrigger/RowTree$Row" (some 0) with
  accessFlags := 1536
  interfaces := #[]
  cf := some (fileOf pool2 1 #[.nestHost 10] #[] 1536 3 #[] #[])
  fields := #[]
  methods := #[]
  instanceTypes := #[]
  staticTypes := #[]
  resolved := Array.replicate 14 none
  statics := none }

def pool3 : Array CpInfo := pool [(1, .methodref 2 3), (0, .class_ 4), (0, .nameAndType 5 6), (0, u "java/lang/Object"), (0, u "<init>"), (0, u "()V"), (0, .fieldref 8 9), (0, .class_ 10), (0, .nameAndType 11 12), (0, u "com/example/outrigger/outrigger/RowFragment"), (0, u "deletesOlder"), (0, u "Z"), (0, .fieldref 8 14), (0, .nameAndType 15 12), (0, u "rowMarker"), (0, .fieldref 8 17), (0, .nameAndType 18 19), (0, u "values"), (0, u "[Ljava/lang/Object;"), (0, .fieldref 8 21), (0, .nameAndType 22 23), (0, u "UNSET"), (0, u "Ljava/lang/Object;"), (0, .methodref 25 26), (0, .class_ 27), (0, .nameAndType 28 29), (0, u "java/util/Arrays"), (0, u "fill"), (0, u "([Ljava/lang/Object;Ljava/lang/Object;)V"), (2, u "(ZZI)V"), (14, u "isLive"), (0, u "()Z"), (1, .class_ 52), (1, u "com/example/outrigger/outrigger/RowFragment$Presence"), (12, .class_ 66), (0, u "com/example/outrigger/outrigger/RowTree$Row"), (4, u "set"), (0, u "(ILjava/lang/Object;)V")] 19

def k3c0 : Code := { maxStack := 2, maxLocals := 4, code := prog_190_method_1_code, exceptionTable := #[], attributes := #[] }
def k3m0 : Method := { name := "<init>", desc := "(ZZI)V", sig := { parameters := [.boolean, .boolean, .int], returnType := none }, accessFlags := 0, code := some k3c0 }
def k3c1 : Code := { maxStack := 3, maxLocals := 3, code := prog_190_method_4_code, exceptionTable := #[], attributes := #[] }
def k3m1 : Method := { name := "set", desc := "(ILjava/lang/Object;)V", sig := { parameters := [.int, (.object "java/lang/Object")], returnType := none }, accessFlags := 0, code := some k3c1 }
def k3c2 : Code := { maxStack := 2, maxLocals := 5, code := prog_190_method_13_code, exceptionTable := #[], attributes := #[] }
def k3m2 : Method := { name := "isLive", desc := "()Z", sig := { parameters := [], returnType := some .boolean }, accessFlags := 0, code := some k3c2 }
/-- com/example/outrigger/outrigger/RowFragment -/
def k3 : Class := { plain "com/example/outrigger/outrigger/RowFragment" (some 0) with
  accessFlags := 48
  interfaces := #[2]
  cf := some (fileOf pool3 8 #[.nestMembers #[50]] #[{ accessFlags := 0, nameIndex := 5, descriptorIndex := 32, attributes := #[] }, { accessFlags := 0, nameIndex := 71, descriptorIndex := 72, attributes := #[] }, { accessFlags := 0, nameIndex := 47, descriptorIndex := 48, attributes := #[] }] 48 2 #[65] #[{ accessFlags := 26, nameIndex := 22, descriptorIndex := 23, attributes := #[] }, { accessFlags := 18, nameIndex := 11, descriptorIndex := 12, attributes := #[] }, { accessFlags := 18, nameIndex := 15, descriptorIndex := 12, attributes := #[] }, { accessFlags := 18, nameIndex := 18, descriptorIndex := 19, attributes := #[] }])
  fields := #[{ name := "UNSET", type := (.object "java/lang/Object"), accessFlags := 26, slot := 0, constantValue := 0 }, { name := "deletesOlder", type := .boolean, accessFlags := 18, slot := 0, constantValue := 0 }, { name := "rowMarker", type := .boolean, accessFlags := 18, slot := 1, constantValue := 0 }, { name := "values", type := (.array (.object "java/lang/Object")), accessFlags := 18, slot := 2, constantValue := 0 }]
  methods := #[k3m0, k3m1, k3m2]
  instanceTypes := #[.boolean, .boolean, (.array (.object "java/lang/Object"))]
  staticTypes := #[(.object "java/lang/Object")]
  resolved := Array.replicate 92 none
  statics := some 0 }

def pool4 : Array CpInfo := pool [(2, .class_ 4), (1, u "java/lang/Object"), (0, u "<init>"), (0, u "()V"), (7, .class_ 16), (1, u "java/util/Arrays"), (57, .class_ 76), (1, u "java/util/Arrays$NaturalOrder"), (36, .class_ 115), (1, u "java/util/Arrays$LegacyMergeSort"), (1, u "Z"), (257, .class_ 376), (0, u "java/util/Arrays$ArrayList"), (68, u "$assertionsDisabled"), (269, u "MIN_ARRAY_SORT_GRAN"), (0, u "I"), (2, u "INSERTIONSORT_THRESHOLD"), (120, u "fill"), (17, u "([Ljava/lang/Object;Ljava/lang/Object;)V"), (116, .class_ 976), (0, u "java/util/Arrays$ArrayItr")] 52

def k4m0 : Method := { name := "<init>", desc := "()V", sig := { parameters := [], returnType := none }, accessFlags := 2, code := none }
def k4c1 : Code := { maxStack := 3, maxLocals := 4, code := jdk_65_method_117_code, exceptionTable := #[], attributes := #[] }
def k4m1 : Method := { name := "fill", desc := "([Ljava/lang/Object;Ljava/lang/Object;)V", sig := { parameters := [(.array (.object "java/lang/Object")), (.object "java/lang/Object")], returnType := none }, accessFlags := 9, code := some k4c1 }
/-- java/util/Arrays -/
def k4 : Class := { plain "java/util/Arrays" (some 0) with
  accessFlags := 49
  interfaces := #[]
  cf := some (fileOf pool4 14 #[.nestMembers #[975, 375, 113, 74]] #[{ accessFlags := 2, nameIndex := 5, descriptorIndex := 6, attributes := #[] }, { accessFlags := 9, nameIndex := 840, descriptorIndex := 858, attributes := #[] }] 49 2 #[] #[{ accessFlags := 26, nameIndex := 715, descriptorIndex := 716, attributes := #[] }, { accessFlags := 26, nameIndex := 719, descriptorIndex := 716, attributes := #[] }, { accessFlags := 4120, nameIndex := 445, descriptorIndex := 117, attributes := #[] }])
  fields := #[{ name := "MIN_ARRAY_SORT_GRAN", type := .int, accessFlags := 26, slot := 0, constantValue := 0 }, { name := "INSERTIONSORT_THRESHOLD", type := .int, accessFlags := 26, slot := 1, constantValue := 0 }, { name := "$assertionsDisabled", type := .boolean, accessFlags := 4120, slot := 2, constantValue := 0 }]
  methods := #[k4m0, k4m1]
  instanceTypes := #[]
  staticTypes := #[.int, .int, .boolean]
  resolved := Array.replicate 1029 none
  statics := none }

def pool5 : Array CpInfo := pool [(1, .class_ 2), (0, u "java/io/Serializable"), (0, .class_ 4), (0, u "java/lang/Object")] 2

/-- java/io/Serializable -/
def k5 : Class := { plain "java/io/Serializable" (some 0) with
  accessFlags := 1537
  interfaces := #[]
  cf := some (fileOf pool5 1 #[] #[] 1537 3 #[] #[])
  fields := #[]
  methods := #[]
  instanceTypes := #[]
  staticTypes := #[]
  resolved := Array.replicate 7 none
  statics := none }

def pool6 : Array CpInfo := pool [(1, .methodref 2 3), (0, .class_ 4), (0, .nameAndType 5 6), (0, u "java/lang/Object"), (0, u "<init>"), (0, u "()V"), (1, .class_ 10), (1, u "java/lang/Number"), (2, .class_ 14), (0, u "java/io/Serializable"), (0, u "serialVersionUID"), (0, u "J")] 20

def k6c0 : Code := { maxStack := 1, maxLocals := 1, code := jdk_18_method_1_code, exceptionTable := #[], attributes := #[] }
def k6m0 : Method := { name := "<init>", desc := "()V", sig := { parameters := [], returnType := none }, accessFlags := 1, code := some k6c0 }
/-- java/lang/Number -/
def k6 : Class := { plain "java/lang/Number" (some 0) with
  accessFlags := 1057
  interfaces := #[5]
  cf := some (fileOf pool6 8 #[] #[{ accessFlags := 1, nameIndex := 5, descriptorIndex := 6, attributes := #[] }] 1057 2 #[13] #[{ accessFlags := 26, nameIndex := 15, descriptorIndex := 16, attributes := #[] }])
  fields := #[{ name := "serialVersionUID", type := .long, accessFlags := 26, slot := 0, constantValue := 0 }]
  methods := #[k6m0]
  instanceTypes := #[]
  staticTypes := #[.long]
  resolved := Array.replicate 37 none
  statics := none }

def pool7 : Array CpInfo := pool [(1, .class_ 2), (0, u "java/lang/Comparable"), (0, .class_ 4), (0, u "java/lang/Object")] 7

/-- java/lang/Comparable -/
def k7 : Class := { plain "java/lang/Comparable" (some 0) with
  accessFlags := 1537
  interfaces := #[]
  cf := some (fileOf pool7 1 #[] #[] 1537 3 #[] #[])
  fields := #[]
  methods := #[]
  instanceTypes := #[]
  staticTypes := #[]
  resolved := Array.replicate 12 none
  statics := none }

def pool8 : Array CpInfo := pool [(1, .class_ 2), (0, u "java/lang/constant/Constable"), (0, .class_ 4), (0, u "java/lang/Object")] 6

/-- java/lang/constant/Constable -/
def k8 : Class := { plain "java/lang/constant/Constable" (some 0) with
  accessFlags := 1537
  interfaces := #[]
  cf := some (fileOf pool8 1 #[] #[] 1537 3 #[] #[])
  fields := #[]
  methods := #[]
  instanceTypes := #[]
  staticTypes := #[]
  resolved := Array.replicate 11 none
  statics := none }

def pool9 : Array CpInfo := pool [(1, .class_ 2), (0, u "java/lang/constant/ConstantDesc"), (0, .class_ 4), (0, u "java/lang/Object")] 32

/-- java/lang/constant/ConstantDesc -/
def k9 : Class := { plain "java/lang/constant/ConstantDesc" (some 0) with
  accessFlags := 1537
  interfaces := #[]
  cf := some (fileOf pool9 1 #[] #[] 1537 3 #[] #[])
  fields := #[]
  methods := #[]
  instanceTypes := #[]
  staticTypes := #[]
  resolved := Array.replicate 37 none
  statics := none }

def pool10 : Array CpInfo := pool [(1, .class_ 2), (0, u "java/lang/Integer"), (16, u "digits"), (0, u "[C"), (46, u "<init>"), (17, u "DigitOnes"), (0, u "[B"), (2, u "DigitTens"), (10, .nameAndType 67 101), (0, u "()V"), (85, u "valueOf"), (0, u "(I)Ljava/lang/Integer;"), (0, .class_ 190), (0, u "java/lang/Integer$IntegerCache"), (0, .fieldref 189 192), (0, .nameAndType 193 194), (0, u "high"), (0, u "I"), (0, .fieldref 189 196), (0, .nameAndType 197 198), (0, u "cache"), (0, u "[Ljava/lang/Integer;"), (0, .methodref 1 200), (0, .nameAndType 67 201), (0, u "(I)V"), (0, .methodref 203 100), (0, .class_ 204), (0, u "java/lang/Number"), (0, .fieldref 1 206), (0, .nameAndType 207 194), (0, u "value"), (94, u "TYPE"), (0, u "Ljava/lang/Class;"), (0, .class_ 305), (0, u "java/lang/Comparable"), (0, .class_ 307), (0, u "java/lang/constant/Constable"), (0, .class_ 309), (0, u "java/lang/constant/ConstantDesc"), (0, u "MIN_VALUE"), (1, u "MAX_VALUE"), (3, u "SIZE"), (1, u "BYTES"), (1, u "serialVersionUID"), (0, u "J")] 131

def k10c0 : Code := { maxStack := 3, maxLocals := 1, code := jdk_33_method_22_code, exceptionTable := #[], attributes := #[] }
def k10m0 : Method := { name := "valueOf", desc := "(I)Ljava/lang/Integer;", sig := { parameters := [.int], returnType := some (.object "java/lang/Integer") }, accessFlags := 9, code := some k10c0 }
def k10c1 : Code := { maxStack := 2, maxLocals := 2, code := jdk_33_method_23_code, exceptionTable := #[], attributes := #[] }
def k10m1 : Method := { name := "<init>", desc := "(I)V", sig := { parameters := [.int], returnType := none }, accessFlags := 1, code := some k10c1 }
/-- java/lang/Integer -/
def k10 : Class := { plain "java/lang/Integer" (some 6) with
  accessFlags := 49
  interfaces := #[7, 8, 9]
  cf := some (fileOf pool10 1 #[.nestMembers #[189]] #[{ accessFlags := 9, nameIndex := 187, descriptorIndex := 188, attributes := #[] }, { accessFlags := 1, nameIndex := 67, descriptorIndex := 201, attributes := #[] }] 49 203 #[304, 306, 308] #[{ accessFlags := 25, nameIndex := 310, descriptorIndex := 194, attributes := #[] }, { accessFlags := 25, nameIndex := 312, descriptorIndex := 194, attributes := #[] }, { accessFlags := 25, nameIndex := 302, descriptorIndex := 303, attributes := #[] }, { accessFlags := 24, nameIndex := 19, descriptorIndex := 20, attributes := #[] }, { accessFlags := 24, nameIndex := 89, descriptorIndex := 86, attributes := #[] }, { accessFlags := 24, nameIndex := 85, descriptorIndex := 86, attributes := #[] }, { accessFlags := 18, nameIndex := 207, descriptorIndex := 194, attributes := #[] }, { accessFlags := 25, nameIndex := 316, descriptorIndex := 194, attributes := #[] }, { accessFlags := 25, nameIndex := 318, descriptorIndex := 194, attributes := #[] }, { accessFlags := 26, nameIndex := 320, descriptorIndex := 321, attributes := #[] }])
  fields := #[{ name := "MIN_VALUE", type := .int, accessFlags := 25, slot := 0, constantValue := 0 }, { name := "MAX_VALUE", type := .int, accessFlags := 25, slot := 1, constantValue := 0 }, { name := "TYPE", type := (.object "java/lang/Class"), accessFlags := 25, slot := 2, constantValue := 0 }, { name := "digits", type := (.array .char), accessFlags := 24, slot := 3, constantValue := 0 }, { name := "DigitTens", type := (.array .byte), accessFlags := 24, slot := 4, constantValue := 0 }, { name := "DigitOnes", type := (.array .byte), accessFlags := 24, slot := 5, constantValue := 0 }, { name := "value", type := .int, accessFlags := 18, slot := 0, constantValue := 0 }, { name := "SIZE", type := .int, accessFlags := 25, slot := 6, constantValue := 0 }, { name := "BYTES", type := .int, accessFlags := 25, slot := 7, constantValue := 0 }, { name := "serialVersionUID", type := .long, accessFlags := 26, slot := 8, constantValue := 0 }]
  methods := #[k10m0, k10m1]
  instanceTypes := #[.int]
  staticTypes := #[.int, .int, (.object "java/lang/Class"), (.array .char), (.array .byte), (.array .byte), .int, .int, .long]
  resolved := Array.replicate 453 none
  statics := none }

def pool11 : Array CpInfo := pool [(2, .class_ 4), (1, u "java/lang/Object"), (0, u "<init>"), (0, u "()V"), (0, .class_ 8), (0, u "java/lang/Integer"), (7, .class_ 18), (1, u "java/lang/Integer$IntegerCache"), (0, u "$assertionsDisabled"), (0, u "Z"), (26, u "high"), (0, u "I"), (8, u "archivedCache"), (0, u "[Ljava/lang/Integer;"), (12, u "cache"), (0, u "low")] 27

def k11m0 : Method := { name := "<init>", desc := "()V", sig := { parameters := [], returnType := none }, accessFlags := 2, code := none }
/-- java/lang/Integer$IntegerCache -/
def k11 : Class := { plain "java/lang/Integer$IntegerCache" (some 0) with
  accessFlags := 48
  interfaces := #[]
  cf := some (fileOf pool11 16 #[.nestHost 7] #[{ accessFlags := 2, nameIndex := 5, descriptorIndex := 6, attributes := #[] }] 48 2 #[] #[{ accessFlags := 24, nameIndex := 72, descriptorIndex := 48, attributes := #[] }, { accessFlags := 24, nameIndex := 47, descriptorIndex := 48, attributes := #[] }, { accessFlags := 24, nameIndex := 71, descriptorIndex := 58, attributes := #[] }, { accessFlags := 8, nameIndex := 57, descriptorIndex := 58, attributes := #[] }, { accessFlags := 4120, nameIndex := 19, descriptorIndex := 20, attributes := #[] }])
  fields := #[{ name := "low", type := .int, accessFlags := 24, slot := 0, constantValue := 0 }, { name := "high", type := .int, accessFlags := 24, slot := 1, constantValue := 0 }, { name := "cache", type := (.array (.object "java/lang/Integer")), accessFlags := 24, slot := 2, constantValue := 0 }, { name := "archivedCache", type := (.array (.object "java/lang/Integer")), accessFlags := 8, slot := 3, constantValue := 0 }, { name := "$assertionsDisabled", type := .boolean, accessFlags := 4120, slot := 4, constantValue := 0 }]
  methods := #[k11m0]
  instanceTypes := #[]
  staticTypes := #[.int, .int, (.array (.object "java/lang/Integer")), (.array (.object "java/lang/Integer")), .boolean]
  resolved := Array.replicate 100 none
  statics := some 1 }

def pool12 : Array CpInfo := pool [(1, u "java/lang/Cloneable"), (0, .class_ 1), (0, u "java/lang/Object"), (0, .class_ 3)] 3

/-- java/lang/Cloneable -/
def k12 : Class := { plain "java/lang/Cloneable" (some 0) with
  accessFlags := 1537
  interfaces := #[]
  cf := some (fileOf pool12 2 #[] #[] 1537 4 #[] #[])
  fields := #[]
  methods := #[]
  instanceTypes := #[]
  staticTypes := #[]
  resolved := Array.replicate 8 none
  statics := none }

/-- the primitive byte -/
def k13 : Class := { plain "byte" none with kind := .primitive 'B', accessFlags := 0x411 }
/-- [B -/
def k14 : Class := { plain "[B" (some 0) with kind := .array 13 .byte, interfaces := #[12, 5], accessFlags := 1041 }

/-- the primitive int -/
def k15 : Class := { plain "int" none with kind := .primitive 'I', accessFlags := 0x411 }
/-- [I -/
def k16 : Class := { plain "[I" (some 0) with kind := .array 15 .int, interfaces := #[12, 5], accessFlags := 1041 }

/-- [Ljava/lang/Integer; -/
def k17 : Class := { plain "[Ljava/lang/Integer;" (some 0) with kind := .array 10 (.object "java/lang/Integer"), interfaces := #[12, 5], accessFlags := 1041 }

/-- [Ljava/lang/Object; -/
def k18 : Class := { plain "[Ljava/lang/Object;" (some 0) with kind := .array 0 (.object "java/lang/Object"), interfaces := #[12, 5], accessFlags := 1041 }

def heap : Heap := #[{ cls := 3, slots := #[.ref 259], vm := .statics 3 },
  { cls := 11, slots := #[.int 0, .int 127, .ref 2, .null, .int 0], vm := .statics 11 },
  { cls := 17, slots := #[.ref 3, .ref 4, .ref 5, .ref 6, .ref 7, .ref 8, .ref 9, .ref 10, .ref 11, .ref 12, .ref 13, .ref 14, .ref 15, .ref 16, .ref 17, .ref 18, .ref 19, .ref 20, .ref 21, .ref 22, .ref 23, .ref 24, .ref 25, .ref 26, .ref 27, .ref 28, .ref 29, .ref 30, .ref 31, .ref 32, .ref 33, .ref 34, .ref 35, .ref 36, .ref 37, .ref 38, .ref 39, .ref 40, .ref 41, .ref 42, .ref 43, .ref 44, .ref 45, .ref 46, .ref 47, .ref 48, .ref 49, .ref 50, .ref 51, .ref 52, .ref 53, .ref 54, .ref 55, .ref 56, .ref 57, .ref 58, .ref 59, .ref 60, .ref 61, .ref 62, .ref 63, .ref 64, .ref 65, .ref 66, .ref 67, .ref 68, .ref 69, .ref 70, .ref 71, .ref 72, .ref 73, .ref 74, .ref 75, .ref 76, .ref 77, .ref 78, .ref 79, .ref 80, .ref 81, .ref 82, .ref 83, .ref 84, .ref 85, .ref 86, .ref 87, .ref 88, .ref 89, .ref 90, .ref 91, .ref 92, .ref 93, .ref 94, .ref 95, .ref 96, .ref 97, .ref 98, .ref 99, .ref 100, .ref 101, .ref 102, .ref 103, .ref 104, .ref 105, .ref 106, .ref 107, .ref 108, .ref 109, .ref 110, .ref 111, .ref 112, .ref 113, .ref 114, .ref 115, .ref 116, .ref 117, .ref 118, .ref 119, .ref 120, .ref 121, .ref 122, .ref 123, .ref 124, .ref 125, .ref 126, .ref 127, .ref 128, .ref 129, .ref 130, .ref 131, .ref 132, .ref 133, .ref 134, .ref 135, .ref 136, .ref 137, .ref 138, .ref 139, .ref 140, .ref 141, .ref 142, .ref 143, .ref 144, .ref 145, .ref 146, .ref 147, .ref 148, .ref 149, .ref 150, .ref 151, .ref 152, .ref 153, .ref 154, .ref 155, .ref 156, .ref 157, .ref 158, .ref 159, .ref 160, .ref 161, .ref 162, .ref 163, .ref 164, .ref 165, .ref 166, .ref 167, .ref 168, .ref 169, .ref 170, .ref 171, .ref 172, .ref 173, .ref 174, .ref 175, .ref 176, .ref 177, .ref 178, .ref 179, .ref 180, .ref 181, .ref 182, .ref 183, .ref 184, .ref 185, .ref 186, .ref 187, .ref 188, .ref 189, .ref 190, .ref 191, .ref 192, .ref 193, .ref 194, .ref 195, .ref 196, .ref 197, .ref 198, .ref 199, .ref 200, .ref 201, .ref 202, .ref 203, .ref 204, .ref 205, .ref 206, .ref 207, .ref 208, .ref 209, .ref 210, .ref 211, .ref 212, .ref 213, .ref 214, .ref 215, .ref 216, .ref 217, .ref 218, .ref 219, .ref 220, .ref 221, .ref 222, .ref 223, .ref 224, .ref 225, .ref 226, .ref 227, .ref 228, .ref 229, .ref 230, .ref 231, .ref 232, .ref 233, .ref 234, .ref 235, .ref 236, .ref 237, .ref 238, .ref 239, .ref 240, .ref 241, .ref 242, .ref 243, .ref 244, .ref 245, .ref 246, .ref 247, .ref 248, .ref 249, .ref 250, .ref 251, .ref 252, .ref 253, .ref 254, .ref 255, .ref 256, .ref 257, .ref 258], vm := .none },
  { cls := 10, slots := #[.int (-128)], vm := .none },
  { cls := 10, slots := #[.int (-127)], vm := .none },
  { cls := 10, slots := #[.int (-126)], vm := .none },
  { cls := 10, slots := #[.int (-125)], vm := .none },
  { cls := 10, slots := #[.int (-124)], vm := .none },
  { cls := 10, slots := #[.int (-123)], vm := .none },
  { cls := 10, slots := #[.int (-122)], vm := .none },
  { cls := 10, slots := #[.int (-121)], vm := .none },
  { cls := 10, slots := #[.int (-120)], vm := .none },
  { cls := 10, slots := #[.int (-119)], vm := .none },
  { cls := 10, slots := #[.int (-118)], vm := .none },
  { cls := 10, slots := #[.int (-117)], vm := .none },
  { cls := 10, slots := #[.int (-116)], vm := .none },
  { cls := 10, slots := #[.int (-115)], vm := .none },
  { cls := 10, slots := #[.int (-114)], vm := .none },
  { cls := 10, slots := #[.int (-113)], vm := .none },
  { cls := 10, slots := #[.int (-112)], vm := .none },
  { cls := 10, slots := #[.int (-111)], vm := .none },
  { cls := 10, slots := #[.int (-110)], vm := .none },
  { cls := 10, slots := #[.int (-109)], vm := .none },
  { cls := 10, slots := #[.int (-108)], vm := .none },
  { cls := 10, slots := #[.int (-107)], vm := .none },
  { cls := 10, slots := #[.int (-106)], vm := .none },
  { cls := 10, slots := #[.int (-105)], vm := .none },
  { cls := 10, slots := #[.int (-104)], vm := .none },
  { cls := 10, slots := #[.int (-103)], vm := .none },
  { cls := 10, slots := #[.int (-102)], vm := .none },
  { cls := 10, slots := #[.int (-101)], vm := .none },
  { cls := 10, slots := #[.int (-100)], vm := .none },
  { cls := 10, slots := #[.int (-99)], vm := .none },
  { cls := 10, slots := #[.int (-98)], vm := .none },
  { cls := 10, slots := #[.int (-97)], vm := .none },
  { cls := 10, slots := #[.int (-96)], vm := .none },
  { cls := 10, slots := #[.int (-95)], vm := .none },
  { cls := 10, slots := #[.int (-94)], vm := .none },
  { cls := 10, slots := #[.int (-93)], vm := .none },
  { cls := 10, slots := #[.int (-92)], vm := .none },
  { cls := 10, slots := #[.int (-91)], vm := .none },
  { cls := 10, slots := #[.int (-90)], vm := .none },
  { cls := 10, slots := #[.int (-89)], vm := .none },
  { cls := 10, slots := #[.int (-88)], vm := .none },
  { cls := 10, slots := #[.int (-87)], vm := .none },
  { cls := 10, slots := #[.int (-86)], vm := .none },
  { cls := 10, slots := #[.int (-85)], vm := .none },
  { cls := 10, slots := #[.int (-84)], vm := .none },
  { cls := 10, slots := #[.int (-83)], vm := .none },
  { cls := 10, slots := #[.int (-82)], vm := .none },
  { cls := 10, slots := #[.int (-81)], vm := .none },
  { cls := 10, slots := #[.int (-80)], vm := .none },
  { cls := 10, slots := #[.int (-79)], vm := .none },
  { cls := 10, slots := #[.int (-78)], vm := .none },
  { cls := 10, slots := #[.int (-77)], vm := .none },
  { cls := 10, slots := #[.int (-76)], vm := .none },
  { cls := 10, slots := #[.int (-75)], vm := .none },
  { cls := 10, slots := #[.int (-74)], vm := .none },
  { cls := 10, slots := #[.int (-73)], vm := .none },
  { cls := 10, slots := #[.int (-72)], vm := .none },
  { cls := 10, slots := #[.int (-71)], vm := .none },
  { cls := 10, slots := #[.int (-70)], vm := .none },
  { cls := 10, slots := #[.int (-69)], vm := .none },
  { cls := 10, slots := #[.int (-68)], vm := .none },
  { cls := 10, slots := #[.int (-67)], vm := .none },
  { cls := 10, slots := #[.int (-66)], vm := .none },
  { cls := 10, slots := #[.int (-65)], vm := .none },
  { cls := 10, slots := #[.int (-64)], vm := .none },
  { cls := 10, slots := #[.int (-63)], vm := .none },
  { cls := 10, slots := #[.int (-62)], vm := .none },
  { cls := 10, slots := #[.int (-61)], vm := .none },
  { cls := 10, slots := #[.int (-60)], vm := .none },
  { cls := 10, slots := #[.int (-59)], vm := .none },
  { cls := 10, slots := #[.int (-58)], vm := .none },
  { cls := 10, slots := #[.int (-57)], vm := .none },
  { cls := 10, slots := #[.int (-56)], vm := .none },
  { cls := 10, slots := #[.int (-55)], vm := .none },
  { cls := 10, slots := #[.int (-54)], vm := .none },
  { cls := 10, slots := #[.int (-53)], vm := .none },
  { cls := 10, slots := #[.int (-52)], vm := .none },
  { cls := 10, slots := #[.int (-51)], vm := .none },
  { cls := 10, slots := #[.int (-50)], vm := .none },
  { cls := 10, slots := #[.int (-49)], vm := .none },
  { cls := 10, slots := #[.int (-48)], vm := .none },
  { cls := 10, slots := #[.int (-47)], vm := .none },
  { cls := 10, slots := #[.int (-46)], vm := .none },
  { cls := 10, slots := #[.int (-45)], vm := .none },
  { cls := 10, slots := #[.int (-44)], vm := .none },
  { cls := 10, slots := #[.int (-43)], vm := .none },
  { cls := 10, slots := #[.int (-42)], vm := .none },
  { cls := 10, slots := #[.int (-41)], vm := .none },
  { cls := 10, slots := #[.int (-40)], vm := .none },
  { cls := 10, slots := #[.int (-39)], vm := .none },
  { cls := 10, slots := #[.int (-38)], vm := .none },
  { cls := 10, slots := #[.int (-37)], vm := .none },
  { cls := 10, slots := #[.int (-36)], vm := .none },
  { cls := 10, slots := #[.int (-35)], vm := .none },
  { cls := 10, slots := #[.int (-34)], vm := .none },
  { cls := 10, slots := #[.int (-33)], vm := .none },
  { cls := 10, slots := #[.int (-32)], vm := .none },
  { cls := 10, slots := #[.int (-31)], vm := .none },
  { cls := 10, slots := #[.int (-30)], vm := .none },
  { cls := 10, slots := #[.int (-29)], vm := .none },
  { cls := 10, slots := #[.int (-28)], vm := .none },
  { cls := 10, slots := #[.int (-27)], vm := .none },
  { cls := 10, slots := #[.int (-26)], vm := .none },
  { cls := 10, slots := #[.int (-25)], vm := .none },
  { cls := 10, slots := #[.int (-24)], vm := .none },
  { cls := 10, slots := #[.int (-23)], vm := .none },
  { cls := 10, slots := #[.int (-22)], vm := .none },
  { cls := 10, slots := #[.int (-21)], vm := .none },
  { cls := 10, slots := #[.int (-20)], vm := .none },
  { cls := 10, slots := #[.int (-19)], vm := .none },
  { cls := 10, slots := #[.int (-18)], vm := .none },
  { cls := 10, slots := #[.int (-17)], vm := .none },
  { cls := 10, slots := #[.int (-16)], vm := .none },
  { cls := 10, slots := #[.int (-15)], vm := .none },
  { cls := 10, slots := #[.int (-14)], vm := .none },
  { cls := 10, slots := #[.int (-13)], vm := .none },
  { cls := 10, slots := #[.int (-12)], vm := .none },
  { cls := 10, slots := #[.int (-11)], vm := .none },
  { cls := 10, slots := #[.int (-10)], vm := .none },
  { cls := 10, slots := #[.int (-9)], vm := .none },
  { cls := 10, slots := #[.int (-8)], vm := .none },
  { cls := 10, slots := #[.int (-7)], vm := .none },
  { cls := 10, slots := #[.int (-6)], vm := .none },
  { cls := 10, slots := #[.int (-5)], vm := .none },
  { cls := 10, slots := #[.int (-4)], vm := .none },
  { cls := 10, slots := #[.int (-3)], vm := .none },
  { cls := 10, slots := #[.int (-2)], vm := .none },
  { cls := 10, slots := #[.int (-1)], vm := .none },
  { cls := 10, slots := #[.int 0], vm := .none },
  { cls := 10, slots := #[.int 1], vm := .none },
  { cls := 10, slots := #[.int 2], vm := .none },
  { cls := 10, slots := #[.int 3], vm := .none },
  { cls := 10, slots := #[.int 4], vm := .none },
  { cls := 10, slots := #[.int 5], vm := .none },
  { cls := 10, slots := #[.int 6], vm := .none },
  { cls := 10, slots := #[.int 7], vm := .none },
  { cls := 10, slots := #[.int 8], vm := .none },
  { cls := 10, slots := #[.int 9], vm := .none },
  { cls := 10, slots := #[.int 10], vm := .none },
  { cls := 10, slots := #[.int 11], vm := .none },
  { cls := 10, slots := #[.int 12], vm := .none },
  { cls := 10, slots := #[.int 13], vm := .none },
  { cls := 10, slots := #[.int 14], vm := .none },
  { cls := 10, slots := #[.int 15], vm := .none },
  { cls := 10, slots := #[.int 16], vm := .none },
  { cls := 10, slots := #[.int 17], vm := .none },
  { cls := 10, slots := #[.int 18], vm := .none },
  { cls := 10, slots := #[.int 19], vm := .none },
  { cls := 10, slots := #[.int 20], vm := .none },
  { cls := 10, slots := #[.int 21], vm := .none },
  { cls := 10, slots := #[.int 22], vm := .none },
  { cls := 10, slots := #[.int 23], vm := .none },
  { cls := 10, slots := #[.int 24], vm := .none },
  { cls := 10, slots := #[.int 25], vm := .none },
  { cls := 10, slots := #[.int 26], vm := .none },
  { cls := 10, slots := #[.int 27], vm := .none },
  { cls := 10, slots := #[.int 28], vm := .none },
  { cls := 10, slots := #[.int 29], vm := .none },
  { cls := 10, slots := #[.int 30], vm := .none },
  { cls := 10, slots := #[.int 31], vm := .none },
  { cls := 10, slots := #[.int 32], vm := .none },
  { cls := 10, slots := #[.int 33], vm := .none },
  { cls := 10, slots := #[.int 34], vm := .none },
  { cls := 10, slots := #[.int 35], vm := .none },
  { cls := 10, slots := #[.int 36], vm := .none },
  { cls := 10, slots := #[.int 37], vm := .none },
  { cls := 10, slots := #[.int 38], vm := .none },
  { cls := 10, slots := #[.int 39], vm := .none },
  { cls := 10, slots := #[.int 40], vm := .none },
  { cls := 10, slots := #[.int 41], vm := .none },
  { cls := 10, slots := #[.int 42], vm := .none },
  { cls := 10, slots := #[.int 43], vm := .none },
  { cls := 10, slots := #[.int 44], vm := .none },
  { cls := 10, slots := #[.int 45], vm := .none },
  { cls := 10, slots := #[.int 46], vm := .none },
  { cls := 10, slots := #[.int 47], vm := .none },
  { cls := 10, slots := #[.int 48], vm := .none },
  { cls := 10, slots := #[.int 49], vm := .none },
  { cls := 10, slots := #[.int 50], vm := .none },
  { cls := 10, slots := #[.int 51], vm := .none },
  { cls := 10, slots := #[.int 52], vm := .none },
  { cls := 10, slots := #[.int 53], vm := .none },
  { cls := 10, slots := #[.int 54], vm := .none },
  { cls := 10, slots := #[.int 55], vm := .none },
  { cls := 10, slots := #[.int 56], vm := .none },
  { cls := 10, slots := #[.int 57], vm := .none },
  { cls := 10, slots := #[.int 58], vm := .none },
  { cls := 10, slots := #[.int 59], vm := .none },
  { cls := 10, slots := #[.int 60], vm := .none },
  { cls := 10, slots := #[.int 61], vm := .none },
  { cls := 10, slots := #[.int 62], vm := .none },
  { cls := 10, slots := #[.int 63], vm := .none },
  { cls := 10, slots := #[.int 64], vm := .none },
  { cls := 10, slots := #[.int 65], vm := .none },
  { cls := 10, slots := #[.int 66], vm := .none },
  { cls := 10, slots := #[.int 67], vm := .none },
  { cls := 10, slots := #[.int 68], vm := .none },
  { cls := 10, slots := #[.int 69], vm := .none },
  { cls := 10, slots := #[.int 70], vm := .none },
  { cls := 10, slots := #[.int 71], vm := .none },
  { cls := 10, slots := #[.int 72], vm := .none },
  { cls := 10, slots := #[.int 73], vm := .none },
  { cls := 10, slots := #[.int 74], vm := .none },
  { cls := 10, slots := #[.int 75], vm := .none },
  { cls := 10, slots := #[.int 76], vm := .none },
  { cls := 10, slots := #[.int 77], vm := .none },
  { cls := 10, slots := #[.int 78], vm := .none },
  { cls := 10, slots := #[.int 79], vm := .none },
  { cls := 10, slots := #[.int 80], vm := .none },
  { cls := 10, slots := #[.int 81], vm := .none },
  { cls := 10, slots := #[.int 82], vm := .none },
  { cls := 10, slots := #[.int 83], vm := .none },
  { cls := 10, slots := #[.int 84], vm := .none },
  { cls := 10, slots := #[.int 85], vm := .none },
  { cls := 10, slots := #[.int 86], vm := .none },
  { cls := 10, slots := #[.int 87], vm := .none },
  { cls := 10, slots := #[.int 88], vm := .none },
  { cls := 10, slots := #[.int 89], vm := .none },
  { cls := 10, slots := #[.int 90], vm := .none },
  { cls := 10, slots := #[.int 91], vm := .none },
  { cls := 10, slots := #[.int 92], vm := .none },
  { cls := 10, slots := #[.int 93], vm := .none },
  { cls := 10, slots := #[.int 94], vm := .none },
  { cls := 10, slots := #[.int 95], vm := .none },
  { cls := 10, slots := #[.int 96], vm := .none },
  { cls := 10, slots := #[.int 97], vm := .none },
  { cls := 10, slots := #[.int 98], vm := .none },
  { cls := 10, slots := #[.int 99], vm := .none },
  { cls := 10, slots := #[.int 100], vm := .none },
  { cls := 10, slots := #[.int 101], vm := .none },
  { cls := 10, slots := #[.int 102], vm := .none },
  { cls := 10, slots := #[.int 103], vm := .none },
  { cls := 10, slots := #[.int 104], vm := .none },
  { cls := 10, slots := #[.int 105], vm := .none },
  { cls := 10, slots := #[.int 106], vm := .none },
  { cls := 10, slots := #[.int 107], vm := .none },
  { cls := 10, slots := #[.int 108], vm := .none },
  { cls := 10, slots := #[.int 109], vm := .none },
  { cls := 10, slots := #[.int 110], vm := .none },
  { cls := 10, slots := #[.int 111], vm := .none },
  { cls := 10, slots := #[.int 112], vm := .none },
  { cls := 10, slots := #[.int 113], vm := .none },
  { cls := 10, slots := #[.int 114], vm := .none },
  { cls := 10, slots := #[.int 115], vm := .none },
  { cls := 10, slots := #[.int 116], vm := .none },
  { cls := 10, slots := #[.int 117], vm := .none },
  { cls := 10, slots := #[.int 118], vm := .none },
  { cls := 10, slots := #[.int 119], vm := .none },
  { cls := 10, slots := #[.int 120], vm := .none },
  { cls := 10, slots := #[.int 121], vm := .none },
  { cls := 10, slots := #[.int 122], vm := .none },
  { cls := 10, slots := #[.int 123], vm := .none },
  { cls := 10, slots := #[.int 124], vm := .none },
  { cls := 10, slots := #[.int 125], vm := .none },
  { cls := 10, slots := #[.int 126], vm := .none },
  { cls := 10, slots := #[.int 127], vm := .none },
  { cls := 0, slots := #[], vm := .none }]
def classes : Array Class := #[k0, k1, k2, k3, k4, k5, k6, k7, k8, k9, k10, k11, k12, k13, k14, k15, k16, k17, k18]
def interned : List (Array UInt16 × Addr) := []
def slotsUsed : Nat := 518
def theMethod : MethodId := ⟨1, 1⟩
def args0 : Array Value := #[.int 2, .int 2, .int 6, .int 9]
def aboutOver (below : List Frame) : State where
  vm := { classes := classes, interned := interned.toArray }
  heap := heap
  slotsUsed := slotsUsed
  threads := #[{ frames := .invoking theMethod args0 :: below }]
def below0 : List Frame := [.native { method := ⟨0, 0⟩, args := #[] }]
def about1 : State := aboutOver below0
def p0 : Program := .bare "" "" ""
def e0 : Env := launch0.env 0 0 0
theorem w_frames : about1.frames = Frame.invoking theMethod args0 :: below0 := rfl
set_option maxRecDepth 65536 in
theorem w_args : argsFit about1.vm theMethod args0 = true := by decide +kernel
set_option maxRecDepth 65536 in
theorem w_heap : heapFits about1 = true := by decide +kernel
set_option maxRecDepth 65536 in
theorem w_runnable : about1.curStatus? = some .runnable := by decide +kernel
set_option maxRecDepth 65536 in
theorem w_alone : about1.alone = true := by decide +kernel
set_option maxRecDepth 65536 in
theorem w_named : about1.methodNamed? x = some theMethod := by decide +kernel
set_option maxRecDepth 65536 in
theorem w_hears : about1.hears theMethod below0 = true := by decide +kernel
set_option maxRecDepth 65536 in
theorem w_ripe : about1.ripe theMethod args0 below0 = true := by decide +kernel
theorem w_running : about1.status = .running := rfl
set_option maxRecDepth 65536 in
theorem w_room : about1.hasRoom e0.platform room_1 = true :=
  launch0.hasRoom_least _ room_1 (by decide +kernel) (by decide +kernel) (by decide +kernel) (by decide +kernel) (by decide +kernel) (by decide +kernel)
theorem allAtoms_all (ts : List Jvm.Cond) (a : Array Jvm.Value) (st : Jvm.State) : (allAtoms ts).before a st = ts.all (fun c => c.before a st) := by
  induction ts with
  | nil => rfl
  | cons c t ih =>
    show (Jvm.Cond.and c (allAtoms t)).before a st = _
    rw [Jvm.Cond.before_and, ih, List.all_cons]
def words1 : List Jvm.Cond := Jvm.Cond.code x code maxLocals ret :: tables_1
/-- a 'code' word, met by the world's own term for the bytes: nothing is compared byte by byte -/
theorem code_word {y : MethodName} {bytes : ByteArray} {mx : Nat} {rt : Option FieldType} {a : Array Value} {s : State} {m : MethodId} {meth : Method} {c : Code} (h1 : s.methodNamed? y = some m) (h2 : s.vm.method? m = some meth) (h3 : meth.code = some c) (h4 : c.code = bytes)
    (h5 : (c.maxLocals == mx && c.exceptionTable.isEmpty && decide (c.maxStack ≤ mostOperands) && decide (meth.sig.returnType = rt) && !meth.locks && decide (parseMethodDescriptor y.desc = some meth.sig)) = true) : (Jvm.Cond.code y bytes mx rt).before a s = true := by
  simp only [Bool.and_eq_true, beq_iff_eq, Bool.not_eq_true', decide_eq_true_eq] at h5
  obtain ⟨⟨⟨⟨⟨g1, g2⟩, g3⟩, g4⟩, g5⟩, g6⟩ := h5
  simp [Cond.before, Cond.holds, Cond.value, h1, h2, h3, h4, g1, g2, g3, g4, g5, g6]
def isCode : Jvm.Cond → Bool
  | .code _ _ _ _ => true
  | _ => false
theorem all_split {L : List Jvm.Cond} {P : Jvm.Cond → Bool} (h1 : L.all (fun c => isCode c || P c) = true) (h2 : ∀ c ∈ L.filter isCode, P c = true) : L.all P = true := by
  refine List.all_eq_true.mpr fun c hc => ?_
  have h := List.all_eq_true.mp h1 c hc
  rcases Bool.eq_false_or_eq_true (isCode c) with hi | hi
  · exact h2 c (List.mem_filter.mpr ⟨hc, hi⟩)
  · simpa [hi] using h
set_option maxRecDepth 65536 in
theorem w_c0 : (Jvm.Cond.code x code maxLocals ret).before args0 about1 = true := code_word (m := ⟨1, 1⟩) (meth := k1m1) (c := k1c1) (by decide +kernel) rfl rfl rfl (by decide +kernel)
set_option maxRecDepth 65536 in
theorem w_c1 : (Jvm.Cond.code ({ cls := "com/example/outrigger/outrigger/RowFragment", name := "<init>", desc := "(ZZI)V" } : Jvm.MethodName) prog_190_method_1_code (4 : Nat) (Option.none : Option Jvm.ClassFile.FieldType)).before args0 about1 = true := code_word (m := ⟨3, 0⟩) (meth := k3m0) (c := k3c0) (by decide +kernel) rfl rfl rfl (by decide +kernel)
set_option maxRecDepth 65536 in
theorem w_c2 : (Jvm.Cond.code ({ cls := "java/lang/Object", name := "<init>", desc := "()V" } : Jvm.MethodName) object_method_1_code (1 : Nat) (Option.none : Option Jvm.ClassFile.FieldType)).before args0 about1 = true := code_word (m := ⟨0, 0⟩) (meth := k0m0) (c := k0c0) (by decide +kernel) rfl rfl rfl (by decide +kernel)
set_option maxRecDepth 65536 in
theorem w_c3 : (Jvm.Cond.code ({ cls := "java/util/Arrays", name := "fill", desc := "([Ljava/lang/Object;Ljava/lang/Object;)V" } : Jvm.MethodName) jdk_65_method_117_code (4 : Nat) (Option.none : Option Jvm.ClassFile.FieldType)).before args0 about1 = true := code_word (m := ⟨4, 1⟩) (meth := k4m1) (c := k4c1) (by decide +kernel) rfl rfl rfl (by decide +kernel)
set_option maxRecDepth 65536 in
theorem w_c4 : (Jvm.Cond.code ({ cls := "com/example/outrigger/outrigger/RowFragmentIsLivePinLaw", name := "fill", desc := "(Lcom/example/outrigger/outrigger/RowFragment;III)Z" } : Jvm.MethodName) method_3_code (4 : Nat) (Option.some Jvm.ClassFile.FieldType.boolean)).before args0 about1 = true := code_word (m := ⟨1, 2⟩) (meth := k1m2) (c := k1c2) (by decide +kernel) rfl rfl rfl (by decide +kernel)
set_option maxRecDepth 65536 in
theorem w_c5 : (Jvm.Cond.code ({ cls := "java/lang/Integer", name := "valueOf", desc := "(I)Ljava/lang/Integer;" } : Jvm.MethodName) jdk_33_method_22_code (1 : Nat) (Option.some (Jvm.ClassFile.FieldType.object "java/lang/Integer"))).before args0 about1 = true := code_word (m := ⟨10, 0⟩) (meth := k10m0) (c := k10c0) (by decide +kernel) rfl rfl rfl (by decide +kernel)
set_option maxRecDepth 65536 in
theorem w_c6 : (Jvm.Cond.code ({ cls := "com/example/outrigger/outrigger/RowFragment", name := "set", desc := "(ILjava/lang/Object;)V" } : Jvm.MethodName) prog_190_method_4_code (3 : Nat) (Option.none : Option Jvm.ClassFile.FieldType)).before args0 about1 = true := code_word (m := ⟨3, 1⟩) (meth := k3m1) (c := k3c1) (by decide +kernel) rfl rfl rfl (by decide +kernel)
set_option maxRecDepth 65536 in
theorem w_c7 : (Jvm.Cond.code ({ cls := "com/example/outrigger/outrigger/RowFragment", name := "isLive", desc := "()Z" } : Jvm.MethodName) prog_190_method_13_code (5 : Nat) (Option.some Jvm.ClassFile.FieldType.boolean)).before args0 about1 = true := code_word (m := ⟨3, 2⟩) (meth := k3m2) (c := k3c2) (by decide +kernel) rfl rfl rfl (by decide +kernel)
set_option maxRecDepth 65536 in
theorem w_c8 : (Jvm.Cond.code ({ cls := "java/lang/Integer", name := "<init>", desc := "(I)V" } : Jvm.MethodName) jdk_33_method_23_code (2 : Nat) (Option.none : Option Jvm.ClassFile.FieldType)).before args0 about1 = true := code_word (m := ⟨10, 1⟩) (meth := k10m1) (c := k10c1) (by decide +kernel) rfl rfl rfl (by decide +kernel)
set_option maxRecDepth 65536 in
theorem w_c9 : (Jvm.Cond.code ({ cls := "java/lang/Number", name := "<init>", desc := "()V" } : Jvm.MethodName) jdk_18_method_1_code (1 : Nat) (Option.none : Option Jvm.ClassFile.FieldType)).before args0 about1 = true := code_word (m := ⟨6, 0⟩) (meth := k6m0) (c := k6c0) (by decide +kernel) rfl rfl rfl (by decide +kernel)
def codes1 : List Jvm.Cond := [Jvm.Cond.code x code maxLocals ret, Jvm.Cond.code ({ cls := "com/example/outrigger/outrigger/RowFragment", name := "<init>", desc := "(ZZI)V" } : Jvm.MethodName) prog_190_method_1_code (4 : Nat) (Option.none : Option Jvm.ClassFile.FieldType), Jvm.Cond.code ({ cls := "java/lang/Object", name := "<init>", desc := "()V" } : Jvm.MethodName) object_method_1_code (1 : Nat) (Option.none : Option Jvm.ClassFile.FieldType), Jvm.Cond.code ({ cls := "java/util/Arrays", name := "fill", desc := "([Ljava/lang/Object;Ljava/lang/Object;)V" } : Jvm.MethodName) jdk_65_method_117_code (4 : Nat) (Option.none : Option Jvm.ClassFile.FieldType), Jvm.Cond.code ({ cls := "com/example/outrigger/outrigger/RowFragmentIsLivePinLaw", name := "fill", desc := "(Lcom/example/outrigger/outrigger/RowFragment;III)Z" } : Jvm.MethodName) method_3_code (4 : Nat) (Option.some Jvm.ClassFile.FieldType.boolean), Jvm.Cond.code ({ cls := "java/lang/Integer", name := "valueOf", desc := "(I)Ljava/lang/Integer;" } : Jvm.MethodName) jdk_33_method_22_code (1 : Nat) (Option.some (Jvm.ClassFile.FieldType.object "java/lang/Integer")), Jvm.Cond.code ({ cls := "com/example/outrigger/outrigger/RowFragment", name := "set", desc := "(ILjava/lang/Object;)V" } : Jvm.MethodName) prog_190_method_4_code (3 : Nat) (Option.none : Option Jvm.ClassFile.FieldType), Jvm.Cond.code ({ cls := "com/example/outrigger/outrigger/RowFragment", name := "isLive", desc := "()Z" } : Jvm.MethodName) prog_190_method_13_code (5 : Nat) (Option.some Jvm.ClassFile.FieldType.boolean), Jvm.Cond.code ({ cls := "java/lang/Integer", name := "<init>", desc := "(I)V" } : Jvm.MethodName) jdk_33_method_23_code (2 : Nat) (Option.none : Option Jvm.ClassFile.FieldType), Jvm.Cond.code ({ cls := "java/lang/Number", name := "<init>", desc := "()V" } : Jvm.MethodName) jdk_18_method_1_code (1 : Nat) (Option.none : Option Jvm.ClassFile.FieldType)]
set_option maxRecDepth 65536 in
theorem codes_eq : words1.filter isCode = codes1 := rfl
theorem w_codes : ∀ c ∈ words1.filter isCode, c.before args0 about1 = true := by
  rw [codes_eq]
  intro c hc
  simp only [codes1, List.mem_cons, List.not_mem_nil, or_false] at hc
  rcases hc with rfl | rfl | rfl | rfl | rfl | rfl | rfl | rfl | rfl | rfl
  · exact w_c0
  · exact w_c1
  · exact w_c2
  · exact w_c3
  · exact w_c4
  · exact w_c5
  · exact w_c6
  · exact w_c7
  · exact w_c8
  · exact w_c9
set_option maxRecDepth 65536 in
theorem w_t1 : (words1.take 24).all (fun c => isCode c || c.before args0 about1) = true := by decide +kernel
set_option maxRecDepth 65536 in
theorem w_t2 : ((words1.drop 24).take 24).all (fun c => isCode c || c.before args0 about1) = true := by decide +kernel
set_option maxRecDepth 65536 in
theorem w_t3 : ((words1.drop 24).drop 24).all (fun c => isCode c || c.before args0 about1) = true := by decide +kernel
theorem w_tables : (allAtoms (Jvm.Cond.code x code maxLocals ret :: tables_1)).before args0 about1 = true := by
  rw [allAtoms_all]
  show words1.all (fun c => c.before args0 about1) = true
  refine all_split ?_ w_codes
  rw [← List.take_append_drop 24 words1, List.all_append, w_t1, ← List.take_append_drop 24 (words1.drop 24), List.all_append, w_t2, w_t3]
  rfl
set_option maxRecDepth 65536 in
theorem w_rest : rest_1_c.before args0 about1 = true := by decide +kernel
set_option maxRecDepth 65536 in
theorem w_case : (Jvm.Cond.and given_1 narrow_1).before args0 about1 = true := by decide +kernel
theorem w_applies : (headSpec (Jvm.Cond.code x code maxLocals ret :: tables_1) room_1).applies x e0.platform about1 = true :=
  (Spec.applies_iff w_frames).mpr ⟨w_running, w_runnable, w_alone, w_named, w_hears, w_ripe, w_room, w_tables⟩
theorem atStart : AtStart classFile x code maxLocals ret World_1 tables_1 room_1 Calls_1 rest_1 Pre_1 launch0 p0 e0 about1 theMethod args0 below0 :=
  ⟨lists_1, trivial, launch0.admits_env _ _ _, launch0.least_env, fairChoices_fair.cas, fairChoices_fair.clock, w_frames, w_args, w_heap, w_applies, trivial, w_rest, w_case⟩
end start1
theorem witness_1 : WitnessClaimed_1 := ⟨start1.p0, start1.e0, start1.about1, start1.theMethod, start1.args0, start1.below0, start1.atStart⟩
end Jvm.Pilot.@@N@@
