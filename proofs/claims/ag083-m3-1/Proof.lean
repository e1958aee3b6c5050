import JvmDerived
import JvmDerived.Pilot.@@N@@Statement
import JvmDerived.Pilot.@@N@@Code
set_option linter.unusedVariables false
set_option linter.unusedSimpArgs false
namespace Jvm.OwnKit
open Sem ClassFile Op Lib Jvm.Stand Jvm.Free Jvm.LawKit Jvm.RoadKit
def k_ushr (x y : Int32) : Int32 := (x.toUInt32 >>> (y &&& 31).toUInt32).toInt32
def k_ushrL (x : Int64) (y : Int32) : Int64 := (x.toUInt64 >>> (y &&& 63).toInt64.toUInt64).toInt64
def k_cmpL (x y : Int64) : Int32 := if x > y then 1 else if x = y then 0 else -1
/-- the state over whose tables the walk stands: the start itself, or (wd: a String constant may have been interned meanwhile) the start with tables grown since -/
def KBase (wd : Bool) (s s' : State) (n : Nat) : Prop := match wd with
  | true => ∃ (vm : Vm) (k : Nat), s' = s.setVm vm ∧ s.Since vm k ∧ k ≤ n
  | false => s' = s
/-- where a run stands: the state T with the heap h; what was written lies at n0 or above; of h0 all is kept but ws -/
def KPos (wd : Bool) (p : Program) (l : Launch) (e : Env) (R : Room) (s : State) (m : MethodId) (args : Array Value) (below : List Frame) (meth : Method) (c : Code) (Z : State) (own : String) (n0 : Nat) (h0 : Heap) (ws : List Addr) (T : State) (h : Heap) (cells slots : Nat) : Prop :=
  ∃ s' locs, Stand p l e R s' m args below meth c T locs cells slots ∧ KBase wd s s' h.size ∧ Z.Warmed39 s'.vm ∧ s'.vm.findClass own = some m.cls ∧ T.heap = h ∧ n0 ≤ h.size ∧ Fr n0 locs ∧ Keep h0 h ws
/-- what stands still in a body's walk -/
def KCx (tbl : List Jvm.Cond) (nm : String) (cod : ByteArray) (ml : Nat) (ret : Option FieldType) (p : Program) (meth : Method) (c : Code) (Z : State) (a0 : Array Value) : Prop :=
  p.tables.exec = Jvm.exec ∧ (∀ d ∈ tbl, d.before a0 Z = true) ∧ c.code = cod ∧ c.maxLocals = ml ∧ meth.sig.returnType = ret ∧ meth.name = nm ∧ meth.locks = false
/-- from this frame the run comes to an end that K speaks of -/
def KGo (p : Program) (e : Env) (below : List Frame) (K : State → Outcome → Prop) (T : State) (m : MethodId) (pc : Nat) (Ls : Array Slot) (st : List Value) : Prop :=
  ∃ s₂ o, Steps p.tables e below (T.setTop (mkF m pc Ls st)) s₂ ∧ s₂.status = .running ∧ Ended s₂ below o ∧ K s₂ o
/-- the frame of an end -/
def KEnde (wd : Bool) (s : State) (o : Outcome) (s₂ : State) (L : List Loc) (kc ks : Nat) : Prop := match wd with
  | true => ReturnedEndW s o s₂ L kc ks
  | false => FrameEnd s o s₂ L kc ks
/-- the end of a body that returns -/
def KEnd (wd : Bool) (s : State) (n0 : Nat) (h0 : Heap) (ws : List Addr) (Q : Option Value → Heap → Prop) (kc ks : Nat) (s₂ : State) (o : Outcome) : Prop :=
  ∃ v L, o = .returned v ∧ (Fr n0 L ∧ Keep h0 s₂.heap ws ∧ Q v s₂.heap) ∧ KEnde wd s o s₂ L kc ks
/-- a body's contract -/
def KCt (wd : Bool) (l : Launch) (y : MethodName) (cod : ByteArray) (ml : Nat) (ret : Option FieldType) (rm : Room) (Z : State) (n0 : Nat) (h0 : Heap) (as : Array Value) (ws : List Addr) (Q : Option Value → Heap → Prop) : Prop :=
  ∀ wsc : List Jvm.Cond, MetFree l y (head1 (Jvm.Cond.code y cod ml ret :: wsc) rm) (fun a U => a = as ∧ Z.Warmed39 U.vm ∧ U.heap = h0) (fun _ _ _ _ _ => True)
    (fun _ U o U' => ∃ v L, o = .returned v ∧ (Fr n0 L ∧ Keep h0 U'.heap ws ∧ Q v U'.heap) ∧ KEnde wd U o U' L rm.cells rm.slots)
section Kit
variable {wd : Bool} {p : Program} {l : Launch} {e : Env} {R : Room} {s : State} {m : MethodId} {args : Array Value} {below : List Frame} {meth : Method} {c : Code} {T : State} {cells slots : Nat} {Z : State} {a0 : Array Value} {h h' h0 : Heap} {n0 : Nat} {ws : List Addr} {K : State → Outcome → Prop}
  {tbl : List Jvm.Cond} {own nm : String} {cod : ByteArray} {ml : Nat} {ret : Option FieldType} {pc : Nat} {Ls : Array Slot} {st : List Value} {a b : Addr}
theorem KCx.exec (C : KCx tbl nm cod ml ret p meth c Z a0) : p.tables.exec = Jvm.exec := C.1
theorem KCx.hw (C : KCx tbl nm cod ml ret p meth c Z a0) : ∀ d ∈ tbl, d.before a0 Z = true := C.2.1
theorem KCx.cdE (C : KCx tbl nm cod ml ret p meth c Z a0) : c.code = cod := C.2.2.1
theorem KCx.mlE (C : KCx tbl nm cod ml ret p meth c Z a0) : c.maxLocals = ml := C.2.2.2.1
theorem KCx.rtE (C : KCx tbl nm cod ml ret p meth c Z a0) : meth.sig.returnType = ret := C.2.2.2.2.1
theorem KCx.nmE (C : KCx tbl nm cod ml ret p meth c Z a0) : meth.name = nm := C.2.2.2.2.2.1
theorem KCx.lk (C : KCx tbl nm cod ml ret p meth c Z a0) : meth.locks = false := C.2.2.2.2.2.2
theorem KCx.w (C : KCx tbl nm cod ml ret p meth c Z a0) (i : Nat) {d : Jvm.Cond} (q : tbl[i]? = some d) : d.before a0 Z = true := C.hw d (List.mem_of_getElem? q)
theorem KBase.mono {s' : State} {n n' : Nat} (B : KBase wd s s' n) (h : n ≤ n') : KBase wd s s' n' := by
  cases wd
  · exact B
  · obtain ⟨vm, k, h1, h2, h3⟩ := B; exact ⟨vm, k, h1, h2, Nat.le_trans h3 h⟩
theorem KPos.here (P : KPos wd p l e R s m args below meth c Z own n0 h0 ws T h cells slots) : At T m c below := by obtain ⟨_, _, X, -⟩ := P; exact X.here
theorem KPos.more (P : KPos wd p l e R s m args below meth c Z own n0 h0 ws T h cells slots) {cells' slots' : Nat} (hc : cells ≤ cells') (hs : slots ≤ slots') : KPos wd p l e R s m args below meth c Z own n0 h0 ws T h cells' slots' := by
  obtain ⟨s', L, X, r⟩ := P; exact ⟨s', L, X.more hc hs, r⟩
theorem KPos.size (P : KPos wd p l e R s m args below meth c Z own n0 h0 ws T h cells slots) : n0 ≤ h.size := by obtain ⟨_, _, _, _, _, _, _, r, -⟩ := P; exact r
theorem KPos.kept (P : KPos wd p l e R s m args below meth c Z own n0 h0 ws T h cells slots) : Keep h0 h ws := by obtain ⟨_, _, _, _, _, _, _, _, _, r⟩ := P; exact r
theorem KGo.step {T' : State} {pc' : Nat} {Ls' : Array Slot} {st' : List Value} (k : KGo p e below K T' m pc' Ls' st') (q : ∀ t, Steps p.tables e below (T'.setTop (mkF m pc' Ls' st')) t → Steps p.tables e below (T.setTop (mkF m pc Ls st)) t) : KGo p e below K T m pc Ls st := by
  obtain ⟨x, y, u, r⟩ := k; exact ⟨x, y, q _ u, r⟩
theorem KGo.cast {Ls' : Array Slot} {st' : List Value} (k : KGo p e below K T m pc Ls' st') (q : Ls' = Ls) (r : st' = st) : KGo p e below K T m pc Ls st := by subst q r; exact k
/-- a body is entered -/
theorem k_enter {y : MethodName} {rm : Room} {as : Array Value} {Q : Option Value → Heap → Prop} (hp : plainFor y = true) (hw : ∀ d ∈ tbl, d.before a0 Z = true) (hn : n0 ≤ h0.size) (hef : ∀ m, entryFrame m as ml = mkF m 0 Ls [])
    (body : ∀ p e s m below meth c T, KCx tbl y.name cod ml ret p meth c Z a0 → KPos wd p l e rm s m as below meth c Z y.cls n0 h0 ws T h0 0 0 → KGo p e below (KEnd wd s n0 h0 ws Q rm.cells rm.slots) T m 0 Ls []) : KCt wd l y cod ml ret rm Z n0 h0 as ws Q := by
  intro wsc
  refine MetFree.of_bodySF hp hisR ?_
  intro p e s m args below meth c s₁ Bd hml0 hP hK
  obtain ⟨rfl, hZ, hh⟩ := hP
  have B : KBase wd s s h0.size := by
    cases wd
    · rfl
    · exact ⟨s.vm, 0, rfl, State.WarmedH.since (State.WarmedH.refl s) 0, Nat.zero_le _⟩
  have g := body p e s m below meth c s₁ ⟨Bd.exec, hw, Bd.bytes, hml0, Bd.returns, (name_of_methodNamed Bd.named Bd.method).1, Bd.notSynchronized⟩ ⟨s, [], Stand.of_body Bd, B, hZ, findClass_of_methodNamed Bd.named, by rw [← hh, Bd.state]; rfl, hn, Fr.nil _, Keep.refl _ _⟩
  obtain ⟨s₂, o, g1, g2, g3, v, L, g4, g5, g6⟩ := g
  exact ⟨s₂, o, castTop (hef m) g1, g2, g3, v, L, g4, g5, g6⟩
theorem KCt.plain {y : MethodName} {rm : Room} {as : Array Value} {Q : Option Value → Heap → Prop} (k : KCt false l y cod ml ret rm Z n0 h0 as ws Q) : MetFree l y (head1 [Jvm.Cond.code y cod ml ret] rm) (fun a U => a = as ∧ Z.Warmed39 U.vm ∧ U.heap = h0) (fun _ _ _ _ _ => True)
    (fun _ U o U' => ∃ v L, o = .returned v ∧ (Fr n0 L ∧ Keep h0 U'.heap ws ∧ Q v U'.heap) ∧ FrameEnd U o U' L rm.cells rm.slots) := k []
/-- a contract said more weakly -/
theorem KCt.imp {y : MethodName} {rm : Room} {as : Array Value} {Q Q' : Option Value → Heap → Prop} (k : KCt wd l y cod ml ret rm Z n0 h0 as ws Q) (q : ∀ v h, Q v h → Q' v h) : KCt wd l y cod ml ret rm Z n0 h0 as ws Q' := by
  intro wsc p e h1 h2 h3 s m args below h4 h5 h6 h7
  obtain ⟨n, o, g1, g2, g3, v, L, g4, ⟨g5, g6, g7⟩, g8⟩ := k wsc p e h1 h2 h3 s m args below h4 h5 h6 h7
  exact ⟨n, o, g1, g2, g3, v, L, g4, ⟨g5, g6, q _ _ g7⟩, g8⟩
/-! ### returns -/
theorem k_retVal {Q : Option Value → Heap → Prop} {kc ks : Nat} {v : Option Value} (C : KCx tbl nm cod ml ret p meth c Z a0) (P : KPos wd p l e R s m args below meth c Z own n0 h0 ws T h cells slots) (hv : ret = none → v = none) (hc : cells ≤ kc) (hs : slots ≤ ks) (hQ : Q v h)
    (q : ∀ fs, (∀ (f : JFrame) (acts : List Action), f.method = m → f.locked = none → f.entered = [] → (doReturn e (T.setTop f) acts v).1 = T.setFrames fs) → Steps p.tables e below (T.setTop (mkF m pc Ls st)) (T.setFrames fs)) : KGo p e below (KEnd wd s n0 h0 ws Q kc ks) T m pc Ls st := by
  obtain ⟨s', L, X, B, hZ, hown, eT, hn, hF, hk⟩ := P
  have hl : meth.locks = false := C.lk
  have X2 := X.more hc hs
  cases wd
  · cases B
    obtain ⟨fs, hr, hrun, hended, hW, hsame⟩ := X2.leave (v := v) (fun q => hv (C.rtE.symm.trans q)) hl
    exact ⟨_, _, q fs hr, hrun, hended, v, L, rfl, ⟨hF, by show Keep h0 T.heap ws; rw [eT]; exact hk, by show Q v T.heap; rw [eT]; exact hQ⟩, ⟨_, rfl⟩, hW, hsame⟩
  · obtain ⟨vm, k, rfl, hS, hk0⟩ := B
    obtain ⟨fs, hr, hrun, hended, hW⟩ := X2.leaveW hS (by rw [eT]; exact hk0) (v := v) (fun q => hv (C.rtE.symm.trans q)) hl
    exact ⟨_, _, q fs hr, hrun, hended, v, L, rfl, ⟨hF, by show Keep h0 T.heap ws; rw [eT]; exact hk, by show Q v T.heap; rw [eT]; exact hQ⟩, hW⟩
theorem k_retV {Q : Option Value → Heap → Prop} {kc ks : Nat} (C : KCx tbl nm cod ml none p meth c Z a0) (P : KPos wd p l e R s m args below meth c Z own n0 h0 ws T h cells slots) (hd : decode cod pc = .ok (.return_, 1)) (hc : cells ≤ kc) (hs : slots ≤ ks) (hQ : Q none h) : KGo p e below (KEnd wd s n0 h0 ws Q kc ks) T m pc Ls [] :=
  k_retVal C P (fun _ => rfl) hc hs hQ fun fs hr => by obtain ⟨s', L, X, -⟩ := P; exact X.returnOut C.1 C.rtE (hb C.cdE hd) hr
theorem k_retI {Q : Option Value → Heap → Prop} {kc ks : Nat} {z : Int32} (C : KCx tbl nm cod ml (some .int) p meth c Z a0) (P : KPos wd p l e R s m args below meth c Z own n0 h0 ws T h cells slots) (hd : decode cod pc = .ok (.ireturn, 1)) (hc : cells ≤ kc) (hs : slots ≤ ks) (hQ : Q (some (.int z)) h) : KGo p e below (KEnd wd s n0 h0 ws Q kc ks) T m pc Ls (.int z :: st) :=
  k_retVal C P (fun q => nomatch q) hc hs hQ fun fs hr => by
    obtain ⟨s', L, X, -⟩ := P
    exact retOut X C.1 C.rtE (rfl : narrow .int (.int z) = .int z) (Or.inl ⟨rfl, Or.inl rfl, _, rfl⟩) (hb C.cdE hd) hr
theorem k_retZ {Q : Option Value → Heap → Prop} {kc ks : Nat} {z z' : Int32} {t : FieldType} (C : KCx tbl nm cod ml (some t) p meth c Z a0) (P : KPos wd p l e R s m args below meth c Z own n0 h0 ws T h cells slots) (ht : t = .boolean ∨ t = .byte ∨ t = .char ∨ t = .short) (hd : decode cod pc = .ok (.ireturn, 1)) (hz : nar t z = z') (hc : cells ≤ kc) (hs : slots ≤ ks) (hQ : Q (some (.int z')) h) : KGo p e below (KEnd wd s n0 h0 ws Q kc ks) T m pc Ls (.int z :: st) :=
  k_retVal C P (fun q => nomatch q) hc hs hQ fun fs hr => by
    subst hz
    obtain ⟨s', L, X, -⟩ := P
    exact retN X C.1 C.rtE ht (hb C.cdE hd) hr
theorem k_retJ {Q : Option Value → Heap → Prop} {kc ks : Nat} {z : Int64} (C : KCx tbl nm cod ml (some .long) p meth c Z a0) (P : KPos wd p l e R s m args below meth c Z own n0 h0 ws T h cells slots) (hd : decode cod pc = .ok (.lreturn, 1)) (hc : cells ≤ kc) (hs : slots ≤ ks) (hQ : Q (some (.long z)) h) : KGo p e below (KEnd wd s n0 h0 ws Q kc ks) T m pc Ls (.long z :: st) :=
  k_retVal C P (fun q => nomatch q) hc hs hQ fun fs hr => by
    obtain ⟨s', L, X, -⟩ := P
    exact retOut X C.1 C.rtE (rfl : narrow .long (.long z) = .long z) (Or.inr (Or.inl ⟨rfl, rfl, _, rfl⟩)) (hb C.cdE hd) hr
theorem k_retD {Q : Option Value → Heap → Prop} {kc ks : Nat} {z : UInt64} (C : KCx tbl nm cod ml (some .double) p meth c Z a0) (P : KPos wd p l e R s m args below meth c Z own n0 h0 ws T h cells slots) (hd : decode cod pc = .ok (.dreturn, 1)) (hc : cells ≤ kc) (hs : slots ≤ ks) (hQ : Q (some (.double z)) h) : KGo p e below (KEnd wd s n0 h0 ws Q kc ks) T m pc Ls (.double z :: st) :=
  k_retVal C P (fun q => nomatch q) hc hs hQ fun fs hr => by
    obtain ⟨s', L, X, -⟩ := P
    exact retOut X C.1 C.rtE (rfl : narrow .double (.double z) = .double z) (Or.inr (Or.inr (Or.inl ⟨rfl, rfl, _, rfl⟩))) (hb C.cdE hd) hr
theorem k_narrow_ref {t : FieldType} {v : Value} (hv : v.isRef = true) : narrow t v = v := by rcases ref_cases hv with rfl | ⟨x, rfl⟩ <;> cases t <;> rfl
theorem k_retA {Q : Option Value → Heap → Prop} {kc ks : Nat} {v : Value} {t : FieldType} (C : KCx tbl nm cod ml (some t) p meth c Z a0) (P : KPos wd p l e R s m args below meth c Z own n0 h0 ws T h cells slots) (hd : decode cod pc = .ok (.areturn, 1)) (ht : t.isReference = true) (hv : v.isRef = true) (hc : cells ≤ kc) (hs : slots ≤ ks) (hQ : Q (some v) h) : KGo p e below (KEnd wd s n0 h0 ws Q kc ks) T m pc Ls (v :: st) :=
  k_retVal C P (fun q => nomatch q) hc hs hQ fun fs hr => by
    obtain ⟨s', L, X, -⟩ := P
    exact retOut X C.1 C.rtE (k_narrow_ref hv) (Or.inr (Or.inr (Or.inr (Or.inr ⟨rfl, ht, hv⟩)))) (hb C.cdE hd) hr
theorem k_10 : ¬ (1 : Int32) = 0 := by decide
theorem k_01 : (0 : Int32) = 0 := rfl
/-! ### branches -/
def CondP (cd : ClassFile.Cond) (x y : Int32) : Prop := match cd with | .eq => x = y | .ne => ¬ x = y | .lt => x < y | .ge => ¬ x < y | .gt => y < x | .le => ¬ y < x
def CondN (cd : ClassFile.Cond) (x y : Int32) : Prop := match cd with | .eq => ¬ x = y | .ne => x = y | .lt => ¬ x < y | .ge => x < y | .gt => ¬ y < x | .le => y < x
theorem k_condP {cd : ClassFile.Cond} {x y : Int32} (h : CondP cd x y) : if_icmp.holds cd x y = true := by
  cases cd <;> first | exact (teq h).1 | exact (feq h).2 | exact (tlt h).1 | exact (flt h).2.1 | exact (tlt h).2.2.1 | exact (flt h).2.2.2
theorem k_condN {cd : ClassFile.Cond} {x y : Int32} (h : CondN cd x y) : if_icmp.holds cd x y = false := by
  cases cd <;> first | exact (feq h).1 | exact (teq h).2 | exact (flt h).1 | exact (tlt h).2.1 | exact (flt h).2.2.1 | exact (tlt h).2.2.2
theorem k_condT {cd : ClassFile.Cond} (x y : Int32) : CondP cd x y ∨ CondN cd x y := by
  cases cd <;> simp only [CondP, CondN] <;> first | exact Classical.em _ | exact (Classical.em _).symm
theorem k_ifY {cd : ClassFile.Cond} {x : Int32} {o : Int} (C : KCx tbl nm cod ml ret p meth c Z a0) (P : KPos wd p l e R s m args below meth c Z own n0 h0 ws T h cells slots) (hd : decode cod pc = .ok (.ifCond cd o, 3)) (hc : CondP cd x 0) (ho : 0 ≤ (pc : Int) + o) {pc' : Nat} (hp : ((pc : Int) + o).toNat = pc') (k : KGo p e below K T m pc' Ls st) : KGo p e below K T m pc Ls (.int x :: st) :=
  k.step fun t q => XS.ifYes P.here C.1 rfl rfl (hb C.cdE hd) rfl ((if0 _ _).trans (k_condP hc)) ho hp q
theorem k_ifN {cd : ClassFile.Cond} {x : Int32} {o : Int} (C : KCx tbl nm cod ml ret p meth c Z a0) (P : KPos wd p l e R s m args below meth c Z own n0 h0 ws T h cells slots) (hd : decode cod pc = .ok (.ifCond cd o, 3)) (hc : CondN cd x 0) {pc' : Nat} (hp : pc + 3 = pc') (k : KGo p e below K T m pc' Ls st) : KGo p e below K T m pc Ls (.int x :: st) := by
  subst hp; exact k.step fun t q => XS.ifNo P.here C.1 rfl (hb C.cdE hd) rfl ((if0 _ _).trans (k_condN hc)) q
theorem k_ifB {cd : ClassFile.Cond} {x : Int32} {o : Int} (C : KCx tbl nm cod ml ret p meth c Z a0) (P : KPos wd p l e R s m args below meth c Z own n0 h0 ws T h cells slots) (hd : decode cod pc = .ok (.ifCond cd o, 3)) (ho : 0 ≤ (pc : Int) + o) {pcY pcN : Nat} (hp : ((pc : Int) + o).toNat = pcY) (hp' : pc + 3 = pcN) (kY : CondP cd x 0 → KGo p e below K T m pcY Ls st) (kN : CondN cd x 0 → KGo p e below K T m pcN Ls st) : KGo p e below K T m pc Ls (.int x :: st) :=
  (k_condT x 0).elim (fun q => k_ifY C P hd q ho hp (kY q)) (fun q => k_ifN C P hd q hp' (kN q))
theorem k_icY {cd : ClassFile.Cond} {x y : Int32} {o : Int} (C : KCx tbl nm cod ml ret p meth c Z a0) (P : KPos wd p l e R s m args below meth c Z own n0 h0 ws T h cells slots) (hd : decode cod pc = .ok (.if_icmp cd o, 3)) (hc : CondP cd x y) (ho : 0 ≤ (pc : Int) + o) {pc' : Nat} (hp : ((pc : Int) + o).toNat = pc') (k : KGo p e below K T m pc' Ls st) : KGo p e below K T m pc Ls (.int y :: .int x :: st) :=
  k.step fun t q => XS.icmpYes P.here C.1 rfl rfl (hb C.cdE hd) rfl (k_condP hc) ho hp q
theorem k_icN {cd : ClassFile.Cond} {x y : Int32} {o : Int} (C : KCx tbl nm cod ml ret p meth c Z a0) (P : KPos wd p l e R s m args below meth c Z own n0 h0 ws T h cells slots) (hd : decode cod pc = .ok (.if_icmp cd o, 3)) (hc : CondN cd x y) {pc' : Nat} (hp : pc + 3 = pc') (k : KGo p e below K T m pc' Ls st) : KGo p e below K T m pc Ls (.int y :: .int x :: st) := by
  subst hp; exact k.step fun t q => XS.icmpNo P.here C.1 rfl (hb C.cdE hd) rfl (k_condN hc) q
theorem k_icB {cd : ClassFile.Cond} {x y : Int32} {o : Int} (C : KCx tbl nm cod ml ret p meth c Z a0) (P : KPos wd p l e R s m args below meth c Z own n0 h0 ws T h cells slots) (hd : decode cod pc = .ok (.if_icmp cd o, 3)) (ho : 0 ≤ (pc : Int) + o) {pcY pcN : Nat} (hp : ((pc : Int) + o).toNat = pcY) (hp' : pc + 3 = pcN) (kY : CondP cd x y → KGo p e below K T m pcY Ls st) (kN : CondN cd x y → KGo p e below K T m pcN Ls st) : KGo p e below K T m pc Ls (.int y :: .int x :: st) :=
  (k_condT x y).elim (fun q => k_icY C P hd q ho hp (kY q)) (fun q => k_icN C P hd q hp' (kN q))
theorem k_goto {o : Int} (C : KCx tbl nm cod ml ret p meth c Z a0) (P : KPos wd p l e R s m args below meth c Z own n0 h0 ws T h cells slots) (hd : decode cod pc = .ok (.goto o, 3)) (ho : 0 ≤ (pc : Int) + o) {pc' : Nat} (hp : ((pc : Int) + o).toNat = pc') (k : KGo p e below K T m pc' Ls st) : KGo p e below K T m pc Ls st :=
  k.step fun t q => XS.goto P.here C.1 rfl rfl (hb C.cdE hd) ho hp q
theorem k_nullY {o : Int} (C : KCx tbl nm cod ml ret p meth c Z a0) (P : KPos wd p l e R s m args below meth c Z own n0 h0 ws T h cells slots) (hd : decode cod pc = .ok (.ifnull o, 3)) (ho : 0 ≤ (pc : Int) + o) {pc' : Nat} (hp : ((pc : Int) + o).toNat = pc') (k : KGo p e below K T m pc' Ls st) : KGo p e below K T m pc Ls (.null :: st) :=
  k.step fun t q => XS.ifnullYes P.here C.1 rfl rfl (hb C.cdE hd) rfl ho hp q
theorem k_nullN {o : Int} (C : KCx tbl nm cod ml ret p meth c Z a0) (P : KPos wd p l e R s m args below meth c Z own n0 h0 ws T h cells slots) (hd : decode cod pc = .ok (.ifnull o, 3)) {pc' : Nat} (hp : pc + 3 = pc') (k : KGo p e below K T m pc' Ls st) : KGo p e below K T m pc Ls (.ref a :: st) := by
  subst hp; exact k.step fun t q => XS.ifnullNo P.here C.1 rfl (hb C.cdE hd) rfl q
theorem k_nonnullY {o : Int} (C : KCx tbl nm cod ml ret p meth c Z a0) (P : KPos wd p l e R s m args below meth c Z own n0 h0 ws T h cells slots) (hd : decode cod pc = .ok (.ifnonnull o, 3)) (ho : 0 ≤ (pc : Int) + o) {pc' : Nat} (hp : ((pc : Int) + o).toNat = pc') (k : KGo p e below K T m pc' Ls st) : KGo p e below K T m pc Ls (.ref a :: st) :=
  k.step fun t q => XS.ifnonnullYes P.here C.1 rfl rfl (hb C.cdE hd) rfl ho hp q
theorem k_nonnullN {o : Int} (C : KCx tbl nm cod ml ret p meth c Z a0) (P : KPos wd p l e R s m args below meth c Z own n0 h0 ws T h cells slots) (hd : decode cod pc = .ok (.ifnonnull o, 3)) {pc' : Nat} (hp : pc + 3 = pc') (k : KGo p e below K T m pc' Ls st) : KGo p e below K T m pc Ls (.null :: st) := by
  subst hp; exact k.step fun t q => XS.ifnonnullNo P.here C.1 rfl (hb C.cdE hd) rfl q
theorem k_acB {cd : ClassFile.ACond} {x y : Value} {o : Int} (C : KCx tbl nm cod ml ret p meth c Z a0) (P : KPos wd p l e R s m args below meth c Z own n0 h0 ws T h cells slots) (hd : decode cod pc = .ok (.if_acmp cd o, 3)) (hx : x.isRef = true) (hy : y.isRef = true) (ho : 0 ≤ (pc : Int) + o) {pcY pcN : Nat} (hp : ((pc : Int) + o).toNat = pcY) (hp' : pc + 3 = pcN)
    (kY : XT.acmp cd x y = true → KGo p e below K T m pcY Ls st) (kN : XT.acmp cd x y = false → KGo p e below K T m pcN Ls st) : KGo p e below K T m pc Ls (y :: x :: st) := by
  cases q : XT.acmp cd x y
  · subst hp'; exact (kN q).step fun t r => XT.acmpNo P.here C.1 rfl (hb C.cdE hd) rfl hx hy q r
  · exact (kY q).step fun t r => XT.acmpYes P.here C.1 rfl rfl (hb C.cdE hd) rfl hx hy q ho hp r
/-- a condition laid on the stack as 1 or 0: if.., iconst, k_goto, iconst -/
theorem k_ternIf {cd : ClassFile.Cond} {x : Int32} {o : Int} {i j : Int} {vN vY : Int32} {Pp : Prop} [Decidable Pp] (C : KCx tbl nm cod ml ret p meth c Z a0) (P : KPos wd p l e R s m args below meth c Z own n0 h0 ws T h cells slots)
    (hd : decode cod pc = .ok (.ifCond cd o, 3)) {p1 p2 p3 p4 : Nat} (d1 : decode cod p1 = .ok (.iconst i, 1)) (d2 : decode cod p2 = .ok (.goto 4, 3)) (d3 : decode cod p3 = .ok (.iconst j, 1)) (q1 : pc + 3 = p1) (q2 : p1 + 1 = p2) (q3 : ((pc : Int) + o).toNat = p3) (q0 : 0 ≤ (pc : Int) + o) (q4 : p3 + 1 = p4) (q5 : p2 + 4 = p4)
    (hi : Int32.ofInt i = vN) (hj : Int32.ofInt j = vY) (hY : CondP cd x 0 → Pp) (hN : CondN cd x 0 → ¬ Pp) (k : KGo p e below K T m p4 Ls (.int (if Pp then vY else vN) :: st)) : KGo p e below K T m pc Ls (.int x :: st) := by
  refine k_ifB C P hd q0 q3 q1 (fun q => ?_) (fun q => ?_)
  · rw [if_pos (hY q)] at k
    subst q4 hj; exact k.step fun t r => XS.iconst P.here C.1 rfl (hb C.cdE d3) r
  · rw [if_neg (hN q)] at k
    subst hi q2
    have k2 : KGo p e below K T m (p1 + 1) Ls (.int (Int32.ofInt i) :: st) := k_goto C P d2 (by omega) (by omega) k
    exact k2.step fun t r => XS.iconst P.here C.1 rfl (hb C.cdE d1) r
theorem k_ternIc {cd : ClassFile.Cond} {x y : Int32} {o : Int} {i j : Int} {vN vY : Int32} {Pp : Prop} [Decidable Pp] (C : KCx tbl nm cod ml ret p meth c Z a0) (P : KPos wd p l e R s m args below meth c Z own n0 h0 ws T h cells slots)
    (hd : decode cod pc = .ok (.if_icmp cd o, 3)) {p1 p2 p3 p4 : Nat} (d1 : decode cod p1 = .ok (.iconst i, 1)) (d2 : decode cod p2 = .ok (.goto 4, 3)) (d3 : decode cod p3 = .ok (.iconst j, 1)) (q1 : pc + 3 = p1) (q2 : p1 + 1 = p2) (q3 : ((pc : Int) + o).toNat = p3) (q0 : 0 ≤ (pc : Int) + o) (q4 : p3 + 1 = p4) (q5 : p2 + 4 = p4)
    (hi : Int32.ofInt i = vN) (hj : Int32.ofInt j = vY) (hY : CondP cd x y → Pp) (hN : CondN cd x y → ¬ Pp) (k : KGo p e below K T m p4 Ls (.int (if Pp then vY else vN) :: st)) : KGo p e below K T m pc Ls (.int y :: .int x :: st) := by
  refine k_icB C P hd q0 q3 q1 (fun q => ?_) (fun q => ?_)
  · rw [if_pos (hY q)] at k
    subst q4 hj; exact k.step fun t r => XS.iconst P.here C.1 rfl (hb C.cdE d3) r
  · rw [if_neg (hN q)] at k
    subst hi q2
    have k2 : KGo p e below K T m (p1 + 1) Ls (.int (Int32.ofInt i) :: st) := k_goto C P d2 (by omega) (by omega) k
    exact k2.step fun t r => XS.iconst P.here C.1 rfl (hb C.cdE d1) r
theorem k_iload (C : KCx tbl nm cod ml ret p meth c Z a0) (P : KPos wd p l e R s m args below meth c Z own n0 h0 ws T h cells slots) {k : Nat} {v : Int32} (hd : decode cod pc = .ok (.iload k, 2)) (hl : Ls[k]? = some (.val (.int v))) {pc' : Nat} (hp : pc + 2 = pc') (k' : KGo p e below K T m pc' Ls (.int v :: st)) : KGo p e below K T m pc Ls (st) := by
  subst hp; exact k'.step fun t q => XS.iload P.here C.1 rfl (hb C.cdE hd) hl q
theorem k_iloadN (C : KCx tbl nm cod ml ret p meth c Z a0) (P : KPos wd p l e R s m args below meth c Z own n0 h0 ws T h cells slots) {k : Fin 4} {v : Int32} (hd : decode cod pc = .ok (.iload_n k, 1)) (hl : Ls[k.val]? = some (.val (.int v))) {pc' : Nat} (hp : pc + 1 = pc') (k' : KGo p e below K T m pc' Ls (.int v :: st)) : KGo p e below K T m pc Ls (st) := by
  subst hp; exact k'.step fun t q => XS.iloadN P.here C.1 rfl (hb C.cdE hd) hl q
theorem k_istore (C : KCx tbl nm cod ml ret p meth c Z a0) (P : KPos wd p l e R s m args below meth c Z own n0 h0 ws T h cells slots) {k : Nat} {x : Int32} {l' : Array Slot} (hd : decode cod pc = .ok (.istore k, 2)) (hl : storeLocals Ls k (.int x) = some l') {pc' : Nat} (hp : pc + 2 = pc') (k' : KGo p e below K T m pc' l' (st)) : KGo p e below K T m pc Ls (.int x :: st) := by
  subst hp; exact k'.step fun t q => XS.istore P.here C.1 rfl (hb C.cdE hd) rfl hl q
theorem k_istoreN (C : KCx tbl nm cod ml ret p meth c Z a0) (P : KPos wd p l e R s m args below meth c Z own n0 h0 ws T h cells slots) {k : Fin 4} {x : Int32} {l' : Array Slot} (hd : decode cod pc = .ok (.istore_n k, 1)) (hl : storeLocals Ls k.val (.int x) = some l') {pc' : Nat} (hp : pc + 1 = pc') (k' : KGo p e below K T m pc' l' (st)) : KGo p e below K T m pc Ls (.int x :: st) := by
  subst hp; exact k'.step fun t q => XS.istoreN P.here C.1 rfl (hb C.cdE hd) rfl hl q
theorem k_lload (C : KCx tbl nm cod ml ret p meth c Z a0) (P : KPos wd p l e R s m args below meth c Z own n0 h0 ws T h cells slots) {k : Nat} {v : Int64} (hd : decode cod pc = .ok (.lload k, 2)) (hl : Ls[k]? = some (.val (.long v))) {pc' : Nat} (hp : pc + 2 = pc') (k' : KGo p e below K T m pc' Ls (.long v :: st)) : KGo p e below K T m pc Ls (st) := by
  subst hp; exact k'.step fun t q => XS.lload P.here C.1 rfl (hb C.cdE hd) hl q
theorem k_lloadN (C : KCx tbl nm cod ml ret p meth c Z a0) (P : KPos wd p l e R s m args below meth c Z own n0 h0 ws T h cells slots) {k : Fin 4} {v : Int64} (hd : decode cod pc = .ok (.lload_n k, 1)) (hl : Ls[k.val]? = some (.val (.long v))) {pc' : Nat} (hp : pc + 1 = pc') (k' : KGo p e below K T m pc' Ls (.long v :: st)) : KGo p e below K T m pc Ls (st) := by
  subst hp; exact k'.step fun t q => XS.lloadN P.here C.1 rfl (hb C.cdE hd) hl q
theorem k_lstore (C : KCx tbl nm cod ml ret p meth c Z a0) (P : KPos wd p l e R s m args below meth c Z own n0 h0 ws T h cells slots) {k : Nat} {x : Int64} {l' : Array Slot} (hd : decode cod pc = .ok (.lstore k, 2)) (hl : storeLocals Ls k (.long x) = some l') {pc' : Nat} (hp : pc + 2 = pc') (k' : KGo p e below K T m pc' l' (st)) : KGo p e below K T m pc Ls (.long x :: st) := by
  subst hp; exact k'.step fun t q => XS.lstore P.here C.1 rfl (hb C.cdE hd) rfl hl q
theorem k_lstoreN (C : KCx tbl nm cod ml ret p meth c Z a0) (P : KPos wd p l e R s m args below meth c Z own n0 h0 ws T h cells slots) {k : Fin 4} {x : Int64} {l' : Array Slot} (hd : decode cod pc = .ok (.lstore_n k, 1)) (hl : storeLocals Ls k.val (.long x) = some l') {pc' : Nat} (hp : pc + 1 = pc') (k' : KGo p e below K T m pc' l' (st)) : KGo p e below K T m pc Ls (.long x :: st) := by
  subst hp; exact k'.step fun t q => XS.lstoreN P.here C.1 rfl (hb C.cdE hd) rfl hl q
theorem k_aload (C : KCx tbl nm cod ml ret p meth c Z a0) (P : KPos wd p l e R s m args below meth c Z own n0 h0 ws T h cells slots) {k : Nat} {v : Value} (hd : decode cod pc = .ok (.aload k, 2)) (hl : Ls[k]? = some (.val v)) (hv : v.isRef = true) {pc' : Nat} (hp : pc + 2 = pc') (k' : KGo p e below K T m pc' Ls (v :: st)) : KGo p e below K T m pc Ls (st) := by
  subst hp; exact k'.step fun t q => XS.aload P.here C.1 rfl (hb C.cdE hd) hl hv q
theorem k_aloadN (C : KCx tbl nm cod ml ret p meth c Z a0) (P : KPos wd p l e R s m args below meth c Z own n0 h0 ws T h cells slots) {k : Fin 4} {v : Value} (hd : decode cod pc = .ok (.aload_n k, 1)) (hl : Ls[k.val]? = some (.val v)) (hv : v.isRef = true) {pc' : Nat} (hp : pc + 1 = pc') (k' : KGo p e below K T m pc' Ls (v :: st)) : KGo p e below K T m pc Ls (st) := by
  subst hp; exact k'.step fun t q => XS.aloadN P.here C.1 rfl (hb C.cdE hd) hl hv q
theorem k_astore (C : KCx tbl nm cod ml ret p meth c Z a0) (P : KPos wd p l e R s m args below meth c Z own n0 h0 ws T h cells slots) {k : Nat} {x : Value} {l' : Array Slot} (hd : decode cod pc = .ok (.astore k, 2)) (hv : x.isRef = true) (hl : storeLocals Ls k x = some l') {pc' : Nat} (hp : pc + 2 = pc') (k' : KGo p e below K T m pc' l' (st)) : KGo p e below K T m pc Ls (x :: st) := by
  subst hp; exact k'.step fun t q => XS.astore P.here C.1 rfl (hb C.cdE hd) rfl hv hl q
theorem k_astoreN (C : KCx tbl nm cod ml ret p meth c Z a0) (P : KPos wd p l e R s m args below meth c Z own n0 h0 ws T h cells slots) {k : Fin 4} {x : Value} {l' : Array Slot} (hd : decode cod pc = .ok (.astore_n k, 1)) (hv : x.isRef = true) (hl : storeLocals Ls k.val x = some l') {pc' : Nat} (hp : pc + 1 = pc') (k' : KGo p e below K T m pc' l' (st)) : KGo p e below K T m pc Ls (x :: st) := by
  subst hp; exact k'.step fun t q => XS.astoreN P.here C.1 rfl (hb C.cdE hd) rfl hv hl q
theorem k_iconst (C : KCx tbl nm cod ml ret p meth c Z a0) (P : KPos wd p l e R s m args below meth c Z own n0 h0 ws T h cells slots) {i : Int} {z : Int32} (hd : decode cod pc = .ok (.iconst i, 1)) (hz : Int32.ofInt i = z) {pc' : Nat} (hp : pc + 1 = pc') (k' : KGo p e below K T m pc' Ls (.int z :: st)) : KGo p e below K T m pc Ls (st) := by
  subst hp; exact k'.step fun t q => XS.iconst P.here C.1 rfl (hb C.cdE hd) (hz ▸ q)
theorem k_bipush (C : KCx tbl nm cod ml ret p meth c Z a0) (P : KPos wd p l e R s m args below meth c Z own n0 h0 ws T h cells slots) {i : Int} {z : Int32} (hd : decode cod pc = .ok (.bipush i, 2)) (hz : (Int8.ofInt i).toInt32 = z) {pc' : Nat} (hp : pc + 2 = pc') (k' : KGo p e below K T m pc' Ls (.int z :: st)) : KGo p e below K T m pc Ls (st) := by
  subst hp; exact k'.step fun t q => XS.bipush P.here C.1 rfl (hb C.cdE hd) (hz ▸ q)
theorem k_sipush (C : KCx tbl nm cod ml ret p meth c Z a0) (P : KPos wd p l e R s m args below meth c Z own n0 h0 ws T h cells slots) {i : Int} {z : Int32} (hd : decode cod pc = .ok (.sipush i, 3)) (hz : (Int16.ofInt i).toInt32 = z) {pc' : Nat} (hp : pc + 3 = pc') (k' : KGo p e below K T m pc' Ls (.int z :: st)) : KGo p e below K T m pc Ls (st) := by
  subst hp; exact k'.step fun t q => XS.sipush P.here C.1 rfl (hb C.cdE hd) (hz ▸ q)
theorem k_lconst (C : KCx tbl nm cod ml ret p meth c Z a0) (P : KPos wd p l e R s m args below meth c Z own n0 h0 ws T h cells slots) {i : Fin 2} {z : Int64} (hd : decode cod pc = .ok (.lconst i, 1)) (hz : Int64.ofNat i = z) {pc' : Nat} (hp : pc + 1 = pc') (k' : KGo p e below K T m pc' Ls (.long z :: st)) : KGo p e below K T m pc Ls (st) := by
  subst hp; exact k'.step fun t q => XS.lconst P.here C.1 rfl (hb C.cdE hd) (hz ▸ q)
theorem k_aconstNull (C : KCx tbl nm cod ml ret p meth c Z a0) (P : KPos wd p l e R s m args below meth c Z own n0 h0 ws T h cells slots)  (hd : decode cod pc = .ok (.aconst_null, 1))  {pc' : Nat} (hp : pc + 1 = pc') (k' : KGo p e below K T m pc' Ls (.null :: st)) : KGo p e below K T m pc Ls (st) := by
  subst hp; exact k'.step fun t q => XS.aconstNull P.here C.1 rfl (hb C.cdE hd) q
theorem k_iadd (C : KCx tbl nm cod ml ret p meth c Z a0) (P : KPos wd p l e R s m args below meth c Z own n0 h0 ws T h cells slots) {x y : Int32} (hd : decode cod pc = .ok (.iadd, 1))  {pc' : Nat} (hp : pc + 1 = pc') (k' : KGo p e below K T m pc' Ls (.int (x + y) :: st)) : KGo p e below K T m pc Ls (.int y :: .int x :: st) := by
  subst hp; exact k'.step fun t q => XS.iadd P.here C.1 rfl (hb C.cdE hd) rfl q
theorem k_isub (C : KCx tbl nm cod ml ret p meth c Z a0) (P : KPos wd p l e R s m args below meth c Z own n0 h0 ws T h cells slots) {x y : Int32} (hd : decode cod pc = .ok (.isub, 1))  {pc' : Nat} (hp : pc + 1 = pc') (k' : KGo p e below K T m pc' Ls (.int (x - y) :: st)) : KGo p e below K T m pc Ls (.int y :: .int x :: st) := by
  subst hp; exact k'.step fun t q => XS.isub P.here C.1 rfl (hb C.cdE hd) rfl q
theorem k_imul (C : KCx tbl nm cod ml ret p meth c Z a0) (P : KPos wd p l e R s m args below meth c Z own n0 h0 ws T h cells slots) {x y : Int32} (hd : decode cod pc = .ok (.imul, 1))  {pc' : Nat} (hp : pc + 1 = pc') (k' : KGo p e below K T m pc' Ls (.int (x * y) :: st)) : KGo p e below K T m pc Ls (.int y :: .int x :: st) := by
  subst hp; exact k'.step fun t q => XS.imul P.here C.1 rfl (hb C.cdE hd) rfl q
theorem k_iand (C : KCx tbl nm cod ml ret p meth c Z a0) (P : KPos wd p l e R s m args below meth c Z own n0 h0 ws T h cells slots) {x y : Int32} (hd : decode cod pc = .ok (.iand, 1))  {pc' : Nat} (hp : pc + 1 = pc') (k' : KGo p e below K T m pc' Ls (.int (x &&& y) :: st)) : KGo p e below K T m pc Ls (.int y :: .int x :: st) := by
  subst hp; exact k'.step fun t q => XS.iand P.here C.1 rfl (hb C.cdE hd) rfl q
theorem k_ior (C : KCx tbl nm cod ml ret p meth c Z a0) (P : KPos wd p l e R s m args below meth c Z own n0 h0 ws T h cells slots) {x y : Int32} (hd : decode cod pc = .ok (.ior, 1))  {pc' : Nat} (hp : pc + 1 = pc') (k' : KGo p e below K T m pc' Ls (.int (x ||| y) :: st)) : KGo p e below K T m pc Ls (.int y :: .int x :: st) := by
  subst hp; exact k'.step fun t q => XS.ior P.here C.1 rfl (hb C.cdE hd) rfl q
theorem k_ixor (C : KCx tbl nm cod ml ret p meth c Z a0) (P : KPos wd p l e R s m args below meth c Z own n0 h0 ws T h cells slots) {x y : Int32} (hd : decode cod pc = .ok (.ixor, 1))  {pc' : Nat} (hp : pc + 1 = pc') (k' : KGo p e below K T m pc' Ls (.int (x ^^^ y) :: st)) : KGo p e below K T m pc Ls (.int y :: .int x :: st) := by
  subst hp; exact k'.step fun t q => XS.ixor P.here C.1 rfl (hb C.cdE hd) rfl q
theorem k_ishl (C : KCx tbl nm cod ml ret p meth c Z a0) (P : KPos wd p l e R s m args below meth c Z own n0 h0 ws T h cells slots) {x y : Int32} (hd : decode cod pc = .ok (.ishl, 1))  {pc' : Nat} (hp : pc + 1 = pc') (k' : KGo p e below K T m pc' Ls (.int (x <<< (y &&& 31)) :: st)) : KGo p e below K T m pc Ls (.int y :: .int x :: st) := by
  subst hp; exact k'.step fun t q => XS.ishl P.here C.1 rfl (hb C.cdE hd) rfl q
theorem k_ishr (C : KCx tbl nm cod ml ret p meth c Z a0) (P : KPos wd p l e R s m args below meth c Z own n0 h0 ws T h cells slots) {x y : Int32} (hd : decode cod pc = .ok (.ishr, 1))  {pc' : Nat} (hp : pc + 1 = pc') (k' : KGo p e below K T m pc' Ls (.int (x >>> (y &&& 31)) :: st)) : KGo p e below K T m pc Ls (.int y :: .int x :: st) := by
  subst hp; exact k'.step fun t q => XS.ishr P.here C.1 rfl (hb C.cdE hd) rfl q
theorem k_iushr (C : KCx tbl nm cod ml ret p meth c Z a0) (P : KPos wd p l e R s m args below meth c Z own n0 h0 ws T h cells slots) {x y : Int32} (hd : decode cod pc = .ok (.iushr, 1))  {pc' : Nat} (hp : pc + 1 = pc') (k' : KGo p e below K T m pc' Ls (.int (k_ushr x y) :: st)) : KGo p e below K T m pc Ls (.int y :: .int x :: st) := by
  subst hp; exact k'.step fun t q => XS.iushr P.here C.1 rfl (hb C.cdE hd) rfl q
theorem k_ladd (C : KCx tbl nm cod ml ret p meth c Z a0) (P : KPos wd p l e R s m args below meth c Z own n0 h0 ws T h cells slots) {x y : Int64} (hd : decode cod pc = .ok (.ladd, 1))  {pc' : Nat} (hp : pc + 1 = pc') (k' : KGo p e below K T m pc' Ls (.long (x + y) :: st)) : KGo p e below K T m pc Ls (.long y :: .long x :: st) := by
  subst hp; exact k'.step fun t q => XS.ladd P.here C.1 rfl (hb C.cdE hd) rfl q
theorem k_lsub (C : KCx tbl nm cod ml ret p meth c Z a0) (P : KPos wd p l e R s m args below meth c Z own n0 h0 ws T h cells slots) {x y : Int64} (hd : decode cod pc = .ok (.lsub, 1))  {pc' : Nat} (hp : pc + 1 = pc') (k' : KGo p e below K T m pc' Ls (.long (x - y) :: st)) : KGo p e below K T m pc Ls (.long y :: .long x :: st) := by
  subst hp; exact k'.step fun t q => XS.lsub P.here C.1 rfl (hb C.cdE hd) rfl q
theorem k_lmul (C : KCx tbl nm cod ml ret p meth c Z a0) (P : KPos wd p l e R s m args below meth c Z own n0 h0 ws T h cells slots) {x y : Int64} (hd : decode cod pc = .ok (.lmul, 1))  {pc' : Nat} (hp : pc + 1 = pc') (k' : KGo p e below K T m pc' Ls (.long (x * y) :: st)) : KGo p e below K T m pc Ls (.long y :: .long x :: st) := by
  subst hp; exact k'.step fun t q => XS.lmul P.here C.1 rfl (hb C.cdE hd) rfl q
theorem k_land (C : KCx tbl nm cod ml ret p meth c Z a0) (P : KPos wd p l e R s m args below meth c Z own n0 h0 ws T h cells slots) {x y : Int64} (hd : decode cod pc = .ok (.land, 1))  {pc' : Nat} (hp : pc + 1 = pc') (k' : KGo p e below K T m pc' Ls (.long (x &&& y) :: st)) : KGo p e below K T m pc Ls (.long y :: .long x :: st) := by
  subst hp; exact k'.step fun t q => XS.land P.here C.1 rfl (hb C.cdE hd) rfl q
theorem k_lor (C : KCx tbl nm cod ml ret p meth c Z a0) (P : KPos wd p l e R s m args below meth c Z own n0 h0 ws T h cells slots) {x y : Int64} (hd : decode cod pc = .ok (.lor, 1))  {pc' : Nat} (hp : pc + 1 = pc') (k' : KGo p e below K T m pc' Ls (.long (x ||| y) :: st)) : KGo p e below K T m pc Ls (.long y :: .long x :: st) := by
  subst hp; exact k'.step fun t q => XS.lor P.here C.1 rfl (hb C.cdE hd) rfl q
theorem k_lxor (C : KCx tbl nm cod ml ret p meth c Z a0) (P : KPos wd p l e R s m args below meth c Z own n0 h0 ws T h cells slots) {x y : Int64} (hd : decode cod pc = .ok (.lxor, 1))  {pc' : Nat} (hp : pc + 1 = pc') (k' : KGo p e below K T m pc' Ls (.long (x ^^^ y) :: st)) : KGo p e below K T m pc Ls (.long y :: .long x :: st) := by
  subst hp; exact k'.step fun t q => XS.lxor P.here C.1 rfl (hb C.cdE hd) rfl q
theorem k_lshl (C : KCx tbl nm cod ml ret p meth c Z a0) (P : KPos wd p l e R s m args below meth c Z own n0 h0 ws T h cells slots) {x : Int64} {y : Int32} (hd : decode cod pc = .ok (.lshl, 1))  {pc' : Nat} (hp : pc + 1 = pc') (k' : KGo p e below K T m pc' Ls (.long (x <<< (y &&& 63).toInt64) :: st)) : KGo p e below K T m pc Ls (.int y :: .long x :: st) := by
  subst hp; exact k'.step fun t q => XS.lshl P.here C.1 rfl (hb C.cdE hd) rfl q
theorem k_lshr (C : KCx tbl nm cod ml ret p meth c Z a0) (P : KPos wd p l e R s m args below meth c Z own n0 h0 ws T h cells slots) {x : Int64} {y : Int32} (hd : decode cod pc = .ok (.lshr, 1))  {pc' : Nat} (hp : pc + 1 = pc') (k' : KGo p e below K T m pc' Ls (.long (x >>> (y &&& 63).toInt64) :: st)) : KGo p e below K T m pc Ls (.int y :: .long x :: st) := by
  subst hp; exact k'.step fun t q => XS.lshr P.here C.1 rfl (hb C.cdE hd) rfl q
theorem k_lushr (C : KCx tbl nm cod ml ret p meth c Z a0) (P : KPos wd p l e R s m args below meth c Z own n0 h0 ws T h cells slots) {x : Int64} {y : Int32} (hd : decode cod pc = .ok (.lushr, 1))  {pc' : Nat} (hp : pc + 1 = pc') (k' : KGo p e below K T m pc' Ls (.long (k_ushrL x y) :: st)) : KGo p e below K T m pc Ls (.int y :: .long x :: st) := by
  subst hp; exact k'.step fun t q => XS.lushr P.here C.1 rfl (hb C.cdE hd) rfl q
theorem k_lcmp (C : KCx tbl nm cod ml ret p meth c Z a0) (P : KPos wd p l e R s m args below meth c Z own n0 h0 ws T h cells slots) {x y : Int64} (hd : decode cod pc = .ok (.lcmp, 1))  {pc' : Nat} (hp : pc + 1 = pc') (k' : KGo p e below K T m pc' Ls (.int (k_cmpL x y) :: st)) : KGo p e below K T m pc Ls (.long y :: .long x :: st) := by
  subst hp; exact k'.step fun t q => XS.lcmp P.here C.1 rfl (hb C.cdE hd) rfl q
theorem k_i2l (C : KCx tbl nm cod ml ret p meth c Z a0) (P : KPos wd p l e R s m args below meth c Z own n0 h0 ws T h cells slots) {x : Int32} (hd : decode cod pc = .ok (.i2l, 1))  {pc' : Nat} (hp : pc + 1 = pc') (k' : KGo p e below K T m pc' Ls (.long (x.toInt64) :: st)) : KGo p e below K T m pc Ls (.int x :: st) := by
  subst hp; exact k'.step fun t q => XS.i2l P.here C.1 rfl (hb C.cdE hd) rfl q
theorem k_l2i (C : KCx tbl nm cod ml ret p meth c Z a0) (P : KPos wd p l e R s m args below meth c Z own n0 h0 ws T h cells slots) {x : Int64} (hd : decode cod pc = .ok (.l2i, 1))  {pc' : Nat} (hp : pc + 1 = pc') (k' : KGo p e below K T m pc' Ls (.int (x.toInt32) :: st)) : KGo p e below K T m pc Ls (.long x :: st) := by
  subst hp; exact k'.step fun t q => XS.l2i P.here C.1 rfl (hb C.cdE hd) rfl q
theorem k_i2b (C : KCx tbl nm cod ml ret p meth c Z a0) (P : KPos wd p l e R s m args below meth c Z own n0 h0 ws T h cells slots) {x : Int32} (hd : decode cod pc = .ok (.i2b, 1))  {pc' : Nat} (hp : pc + 1 = pc') (k' : KGo p e below K T m pc' Ls (.int (x.toInt8.toInt32) :: st)) : KGo p e below K T m pc Ls (.int x :: st) := by
  subst hp; exact k'.step fun t q => XS.i2b P.here C.1 rfl (hb C.cdE hd) rfl q
theorem k_i2c (C : KCx tbl nm cod ml ret p meth c Z a0) (P : KPos wd p l e R s m args below meth c Z own n0 h0 ws T h cells slots) {x : Int32} (hd : decode cod pc = .ok (.i2c, 1))  {pc' : Nat} (hp : pc + 1 = pc') (k' : KGo p e below K T m pc' Ls (.int (x.toUInt32.toUInt16.toUInt32.toInt32) :: st)) : KGo p e below K T m pc Ls (.int x :: st) := by
  subst hp; exact k'.step fun t q => XS.i2c P.here C.1 rfl (hb C.cdE hd) rfl q
theorem k_i2s (C : KCx tbl nm cod ml ret p meth c Z a0) (P : KPos wd p l e R s m args below meth c Z own n0 h0 ws T h cells slots) {x : Int32} (hd : decode cod pc = .ok (.i2s, 1))  {pc' : Nat} (hp : pc + 1 = pc') (k' : KGo p e below K T m pc' Ls (.int (x.toInt16.toInt32) :: st)) : KGo p e below K T m pc Ls (.int x :: st) := by
  subst hp; exact k'.step fun t q => XS.i2s P.here C.1 rfl (hb C.cdE hd) rfl q
theorem k_ineg (C : KCx tbl nm cod ml ret p meth c Z a0) (P : KPos wd p l e R s m args below meth c Z own n0 h0 ws T h cells slots) {x : Int32} (hd : decode cod pc = .ok (.ineg, 1))  {pc' : Nat} (hp : pc + 1 = pc') (k' : KGo p e below K T m pc' Ls (.int (-x) :: st)) : KGo p e below K T m pc Ls (.int x :: st) := by
  subst hp; exact k'.step fun t q => XS.ineg P.here C.1 rfl (hb C.cdE hd) rfl q
theorem k_lneg (C : KCx tbl nm cod ml ret p meth c Z a0) (P : KPos wd p l e R s m args below meth c Z own n0 h0 ws T h cells slots) {x : Int64} (hd : decode cod pc = .ok (.lneg, 1))  {pc' : Nat} (hp : pc + 1 = pc') (k' : KGo p e below K T m pc' Ls (.long (-x) :: st)) : KGo p e below K T m pc Ls (.long x :: st) := by
  subst hp; exact k'.step fun t q => XS.lneg P.here C.1 rfl (hb C.cdE hd) rfl q
theorem k_irem (C : KCx tbl nm cod ml ret p meth c Z a0) (P : KPos wd p l e R s m args below meth c Z own n0 h0 ws T h cells slots) {x y : Int32} (hd : decode cod pc = .ok (.irem, 1)) (hy : y ≠ 0) {pc' : Nat} (hp : pc + 1 = pc') (k' : KGo p e below K T m pc' Ls (.int (x % y) :: st)) : KGo p e below K T m pc Ls (.int y :: .int x :: st) := by
  subst hp; exact k'.step fun t q => XS.irem P.here C.1 rfl (hb C.cdE hd) rfl hy (by rw [irem_eq_mod]; exact q)
theorem k_idiv (C : KCx tbl nm cod ml ret p meth c Z a0) (P : KPos wd p l e R s m args below meth c Z own n0 h0 ws T h cells slots) {x y : Int32} (hd : decode cod pc = .ok (.idiv, 1)) (hy : y ≠ 0) {pc' : Nat} (hp : pc + 1 = pc') (k' : KGo p e below K T m pc' Ls (.int (x / y) :: st)) : KGo p e below K T m pc Ls (.int y :: .int x :: st) := by
  subst hp; exact k'.step fun t q => XS.idiv P.here C.1 rfl (hb C.cdE hd) rfl hy q
theorem k_iinc (C : KCx tbl nm cod ml ret p meth c Z a0) (P : KPos wd p l e R s m args below meth c Z own n0 h0 ws T h cells slots) {k : Nat} {cst : Int} {x z : Int32} {l' : Array Slot} (hd : decode cod pc = .ok (.iinc k cst, 3)) (hl : Ls[k]? = some (.val (.int x))) (hz : x + Int32.ofInt cst = z) (hl' : storeLocals Ls k (.int z) = some l') {pc' : Nat} (hp : pc + 3 = pc') (k' : KGo p e below K T m pc' l' (st)) : KGo p e below K T m pc Ls (st) := by
  subst hp; exact k'.step fun t q => XS.iinc P.here C.1 rfl (hb C.cdE hd) hl (hz ▸ hl') q
theorem k_dup (C : KCx tbl nm cod ml ret p meth c Z a0) (P : KPos wd p l e R s m args below meth c Z own n0 h0 ws T h cells slots) {x : Value} (hd : decode cod pc = .ok (.dup, 1)) (hc : x.category = 1) {pc' : Nat} (hp : pc + 1 = pc') (k' : KGo p e below K T m pc' Ls (x :: x :: st)) : KGo p e below K T m pc Ls (x :: st) := by
  subst hp; exact k'.step fun t q => XS.dup P.here C.1 rfl (hb C.cdE hd) rfl hc q
theorem k_pop (C : KCx tbl nm cod ml ret p meth c Z a0) (P : KPos wd p l e R s m args below meth c Z own n0 h0 ws T h cells slots) {x : Value} (hd : decode cod pc = .ok (.pop, 1)) (hc : x.category = 1) {pc' : Nat} (hp : pc + 1 = pc') (k' : KGo p e below K T m pc' Ls (st)) : KGo p e below K T m pc Ls (x :: st) := by
  subst hp; exact k'.step fun t q => XS.pop P.here C.1 rfl (hb C.cdE hd) rfl hc q
theorem k_dupX1 (C : KCx tbl nm cod ml ret p meth c Z a0) (P : KPos wd p l e R s m args below meth c Z own n0 h0 ws T h cells slots) {x y : Value} (hd : decode cod pc = .ok (.dup_x1, 1)) (hc : x.category = 1) (hc' : y.category = 1) {pc' : Nat} (hp : pc + 1 = pc') (k' : KGo p e below K T m pc' Ls (x :: y :: x :: st)) : KGo p e below K T m pc Ls (x :: y :: st) := by
  subst hp; exact k'.step fun t q => XS.dupX1 P.here C.1 rfl (hb C.cdE hd) rfl hc hc' q
theorem k_dup2 (C : KCx tbl nm cod ml ret p meth c Z a0) (P : KPos wd p l e R s m args below meth c Z own n0 h0 ws T h cells slots) {x y : Value} (hd : decode cod pc = .ok (.dup2, 1)) (hc : x.category = 1) (hc' : y.category = 1) {pc' : Nat} (hp : pc + 1 = pc') (k' : KGo p e below K T m pc' Ls (x :: y :: x :: y :: st)) : KGo p e below K T m pc Ls (x :: y :: st) := by
  subst hp; exact k'.step fun t q => XT.dup2 P.here C.1 rfl (hb C.cdE hd) rfl hc hc' q
theorem k_dload (C : KCx tbl nm cod ml ret p meth c Z a0) (P : KPos wd p l e R s m args below meth c Z own n0 h0 ws T h cells slots) {k : Nat} {v : UInt64} (hd : decode cod pc = .ok (.dload k, 2)) (hl : Ls[k]? = some (.val (.double v))) {pc' : Nat} (hp : pc + 2 = pc') (k' : KGo p e below K T m pc' Ls (.double v :: st)) : KGo p e below K T m pc Ls (st) := by
  subst hp; exact k'.step fun t q => XS.dload P.here C.1 rfl (hb C.cdE hd) hl q
theorem k_dloadN (C : KCx tbl nm cod ml ret p meth c Z a0) (P : KPos wd p l e R s m args below meth c Z own n0 h0 ws T h cells slots) {k : Fin 4} {v : UInt64} (hd : decode cod pc = .ok (.dload_n k, 1)) (hl : Ls[k.val]? = some (.val (.double v))) {pc' : Nat} (hp : pc + 1 = pc') (k' : KGo p e below K T m pc' Ls (.double v :: st)) : KGo p e below K T m pc Ls (st) := by
  subst hp; exact k'.step fun t q => XS.dloadN P.here C.1 rfl (hb C.cdE hd) hl q
theorem k_dstore (C : KCx tbl nm cod ml ret p meth c Z a0) (P : KPos wd p l e R s m args below meth c Z own n0 h0 ws T h cells slots) {k : Nat} {x : UInt64} {l' : Array Slot} (hd : decode cod pc = .ok (.dstore k, 2)) (hl : storeLocals Ls k (.double x) = some l') {pc' : Nat} (hp : pc + 2 = pc') (k' : KGo p e below K T m pc' l' (st)) : KGo p e below K T m pc Ls (.double x :: st) := by
  subst hp; exact k'.step fun t q => XS.dstore P.here C.1 rfl (hb C.cdE hd) rfl hl q
theorem k_dstoreN (C : KCx tbl nm cod ml ret p meth c Z a0) (P : KPos wd p l e R s m args below meth c Z own n0 h0 ws T h cells slots) {k : Fin 4} {x : UInt64} {l' : Array Slot} (hd : decode cod pc = .ok (.dstore_n k, 1)) (hl : storeLocals Ls k.val (.double x) = some l') {pc' : Nat} (hp : pc + 1 = pc') (k' : KGo p e below K T m pc' l' (st)) : KGo p e below K T m pc Ls (.double x :: st) := by
  subst hp; exact k'.step fun t q => XS.dstoreN P.here C.1 rfl (hb C.cdE hd) rfl hl q
theorem k_dconst0 (C : KCx tbl nm cod ml ret p meth c Z a0) (P : KPos wd p l e R s m args below meth c Z own n0 h0 ws T h cells slots) {z : UInt64} (hd : decode cod pc = .ok (.dconst 0, 1)) (hz : FP.dconst0 = z) {pc' : Nat} (hp : pc + 1 = pc') (k' : KGo p e below K T m pc' Ls (.double z :: st)) : KGo p e below K T m pc Ls (st) := by
  subst hp; exact k'.step fun t q => XS.dconst0 P.here C.1 rfl (hb C.cdE hd) hz q
theorem k_dconst1 (C : KCx tbl nm cod ml ret p meth c Z a0) (P : KPos wd p l e R s m args below meth c Z own n0 h0 ws T h cells slots) {z : UInt64} (hd : decode cod pc = .ok (.dconst 1, 1)) (hz : FP.dconst1 = z) {pc' : Nat} (hp : pc + 1 = pc') (k' : KGo p e below K T m pc' Ls (.double z :: st)) : KGo p e below K T m pc Ls (st) := by
  subst hp; exact k'.step fun t q => XS.dconst1 P.here C.1 rfl (hb C.cdE hd) hz q
theorem k_i2d (C : KCx tbl nm cod ml ret p meth c Z a0) (P : KPos wd p l e R s m args below meth c Z own n0 h0 ws T h cells slots) {x : Int32} (hd : decode cod pc = .ok (.i2d, 1))  {pc' : Nat} (hp : pc + 1 = pc') (k' : KGo p e below K T m pc' Ls (.double (FP.i2d x) :: st)) : KGo p e below K T m pc Ls (.int x :: st) := by
  subst hp; exact k'.step fun t q => XS.i2dS P.here C.1 rfl (hb C.cdE hd) rfl rfl q
theorem k_l2d (C : KCx tbl nm cod ml ret p meth c Z a0) (P : KPos wd p l e R s m args below meth c Z own n0 h0 ws T h cells slots) {x : Int64} (hd : decode cod pc = .ok (.l2d, 1))  {pc' : Nat} (hp : pc + 1 = pc') (k' : KGo p e below K T m pc' Ls (.double (FP.l2d x) :: st)) : KGo p e below K T m pc Ls (.long x :: st) := by
  subst hp; exact k'.step fun t q => XS.l2dS P.here C.1 rfl (hb C.cdE hd) rfl rfl q
theorem k_dneg (C : KCx tbl nm cod ml ret p meth c Z a0) (P : KPos wd p l e R s m args below meth c Z own n0 h0 ws T h cells slots) {x : UInt64} (hd : decode cod pc = .ok (.dneg, 1))  {pc' : Nat} (hp : pc + 1 = pc') (k' : KGo p e below K T m pc' Ls (.double (FP.dneg x) :: st)) : KGo p e below K T m pc Ls (.double x :: st) := by
  subst hp; exact k'.step fun t q => XS.dnegS P.here C.1 rfl (hb C.cdE hd) rfl rfl q
theorem k_dcmp (C : KCx tbl nm cod ml ret p meth c Z a0) (P : KPos wd p l e R s m args below meth c Z own n0 h0 ws T h cells slots) {o : CmpOp} {x y : UInt64} {z : Int32} (hd : decode cod pc = .ok (.dcmp o, 1)) (hz : cmpValue (FP.dcmp x y) o = z) {pc' : Nat} (hp : pc + 1 = pc') (k' : KGo p e below K T m pc' Ls (.int z :: st)) : KGo p e below K T m pc Ls (.double y :: .double x :: st) := by
  subst hp; exact k'.step fun t q => XS.dcmpS P.here C.1 rfl (hb C.cdE hd) rfl hz q
theorem k_dadd (C : KCx tbl nm cod ml ret p meth c Z a0) (P : KPos wd p l e R s m args below meth c Z own n0 h0 ws T h cells slots) {x y z : UInt64} (hd : decode cod pc = .ok (.dadd, 1)) (hn : Jvm.Free.Fl.NoNaN64 (FP.dadd x y)) (hz : FP.dadd x y = z) {pc' : Nat} (hp : pc + 1 = pc') (k' : KGo p e below K T m pc' Ls (.double z :: st)) : KGo p e below K T m pc Ls (.double y :: .double x :: st) := by
  subst hp; exact k'.step fun t q => XS.daddS P.here C.1 rfl (hb C.cdE hd) rfl hn hz q
theorem k_dsub (C : KCx tbl nm cod ml ret p meth c Z a0) (P : KPos wd p l e R s m args below meth c Z own n0 h0 ws T h cells slots) {x y z : UInt64} (hd : decode cod pc = .ok (.dsub, 1)) (hn : Jvm.Free.Fl.NoNaN64 (FP.dsub x y)) (hz : FP.dsub x y = z) {pc' : Nat} (hp : pc + 1 = pc') (k' : KGo p e below K T m pc' Ls (.double z :: st)) : KGo p e below K T m pc Ls (.double y :: .double x :: st) := by
  subst hp; exact k'.step fun t q => XS.dsubS P.here C.1 rfl (hb C.cdE hd) rfl hn hz q
theorem k_dmul (C : KCx tbl nm cod ml ret p meth c Z a0) (P : KPos wd p l e R s m args below meth c Z own n0 h0 ws T h cells slots) {x y z : UInt64} (hd : decode cod pc = .ok (.dmul, 1)) (hn : Jvm.Free.Fl.NoNaN64 (FP.dmul x y)) (hz : FP.dmul x y = z) {pc' : Nat} (hp : pc + 1 = pc') (k' : KGo p e below K T m pc' Ls (.double z :: st)) : KGo p e below K T m pc Ls (.double y :: .double x :: st) := by
  subst hp; exact k'.step fun t q => XS.dmulS P.here C.1 rfl (hb C.cdE hd) rfl hn hz q
theorem k_ddiv (C : KCx tbl nm cod ml ret p meth c Z a0) (P : KPos wd p l e R s m args below meth c Z own n0 h0 ws T h cells slots) {x y z : UInt64} (hd : decode cod pc = .ok (.ddiv, 1)) (hn : Jvm.Free.Fl.NoNaN64 (FP.ddiv x y)) (hz : FP.ddiv x y = z) {pc' : Nat} (hp : pc + 1 = pc') (k' : KGo p e below K T m pc' Ls (.double z :: st)) : KGo p e below K T m pc Ls (.double y :: .double x :: st) := by
  subst hp; exact k'.step fun t q => XS.ddivS P.here C.1 rfl (hb C.cdE hd) rfl hn hz q
/-! ### objects and arrays -/
def KOb (Z : State) (h : Heap) (a : Addr) (Cn : String) (lay : List (String × String × String)) (vs : List Value) : Prop :=
  Exa Z h a Cn ∧ lay.length = vs.length ∧ ∀ (i : Nat) (O n d : String) (v : Value), lay[i]? = some (O, n, d) → vs[i]? = some v → Fld Z h a O n d v
def KLay (Z : State) (a0 : Array Value) (Cn : String) (lay : List (String × String × String)) : Prop :=
  (∀ x ∈ lay, Laid Z a0 Cn x.1 x.2.1 x.2.2 ∧ (parseFieldDescriptor x.2.2).isSome = true) ∧ (lay.map (·.2.1)).Nodup
def KVA (Z : State) (h : Heap) (a : Addr) (k : ClassId) (ty : FieldType) (N : Nat) (f : Nat → Value) : Prop :=
  ∃ cl : Cell, Arr Z h a cl ty ∧ cl.cls = k ∧ cl.slots.size = N ∧ N < 2 ^ 31 ∧ ∀ j, j < N → cl.slots[j]? = some (f j)
section Facts
variable {Cn O n d : String} {lay : List (String × String × String)} {vs : List Value} {v : Value} {sl : Nat} {k : ClassId} {ty : FieldType} {N : Nat} {f : Nat → Value} {ws' : List Addr}
theorem KOb.exa (F : KOb Z h a Cn lay vs) : Exa Z h a Cn := F.1
theorem KOb.lt (F : KOb Z h a Cn lay vs) : a < h.size := F.1.lt
theorem KOb.fld (F : KOb Z h a Cn lay vs) (i : Nat) (q : lay[i]? = some (O, n, d)) (r : vs[i]? = some v) : Fld Z h a O n d v := F.2.2 i O n d v q r
theorem KOb.ext (F : KOb Z h a Cn lay vs) (E : Ext h h') : KOb Z h' a Cn lay vs := ⟨F.1.ext E, F.2.1, fun i O n d v q r => (F.2.2 i O n d v q r).ext E⟩
theorem KOb.keep (F : KOb Z h a Cn lay vs) (E : Keep h h' ws') (q : a ∉ ws') : KOb Z h' a Cn lay vs := ⟨F.1.keep E, F.2.1, fun i O n d v u r => (F.2.2 i O n d v u r).keep E q⟩
theorem KOb.other (F : KOb Z h a Cn lay vs) (W : Wr h h' b sl v) (q : a ≠ b) : KOb Z h' a Cn lay vs := ⟨F.1.wr W, F.2.1, fun i O n d v u r => (F.2.2 i O n d v u r).other W (Or.inl q)⟩
theorem KOb.put (F : KOb Z h a Cn lay vs) (L : KLay Z a0 Cn lay) (i : Nat) (q : lay[i]? = some (O, n, d)) (W : Wr h h' a (Jvm.RoadKit.slotOf Z O n d) v) {vs' : List Value} (hv : vs.set i v = vs') : KOb Z h' a Cn lay vs' := by
  subst hv
  refine ⟨F.1.wr W, by rw [List.length_set]; exact F.2.1, fun j O' n' d' v' u r => ?_⟩
  by_cases e : i = j
  · subst e
    cases q.symm.trans u
    have hi : i < vs.length := by rw [← F.2.1]; exact (List.getElem?_eq_some_iff.mp q).1
    rw [List.getElem?_set_self hi] at r
    cases r
    exact (F.2.2 i O n d _ q (List.getElem?_eq_getElem hi)).same W
  · rw [List.getElem?_set_ne e] at r
    obtain ⟨l1, t1⟩ := L.1 _ (List.mem_of_getElem? u)
    obtain ⟨l2, t2⟩ := L.1 _ (List.mem_of_getElem? q)
    obtain ⟨t, ht⟩ := Option.isSome_iff_exists.mp t1
    obtain ⟨t', ht'⟩ := Option.isSome_iff_exists.mp t2
    refine (F.2.2 j O' n' d' v' u r).other W (Or.inr (slot_ne l1 l2 (fun en => ?_) ht ht'))
    have m1 : (lay.map (·.2.1))[j]? = some n' := by rw [List.getElem?_map, u]; rfl
    have m2 : (lay.map (·.2.1))[i]? = some n' := by rw [List.getElem?_map, q]; exact congrArg some en.symm
    exact e (((List.getElem?_inj (List.getElem?_eq_some_iff.mp m2).1 L.2).mp (m2.trans m1.symm)))
theorem KOb.new (E : Exa Z h a Cn) (D : ∀ {O nm d : String} {ty : FieldType}, Laid Z a0 Cn O nm d → parseFieldDescriptor d = some ty → Fld Z h a O nm d (defaultValue ty)) (L : KLay Z a0 Cn lay) (hv : (lay.map fun x => (parseFieldDescriptor x.2.2).map defaultValue) = vs.map some) : KOb Z h a Cn lay vs := by
  have hl : lay.length = vs.length := by have := congrArg List.length hv; simpa using this
  refine ⟨E, hl, fun i O n d v q r => ?_⟩
  obtain ⟨l1, t1⟩ := L.1 _ (List.mem_of_getElem? q)
  obtain ⟨t, ht⟩ := Option.isSome_iff_exists.mp t1
  have e1 : (lay.map fun x => (parseFieldDescriptor x.2.2).map defaultValue)[i]? = some (some (defaultValue t)) := by rw [List.getElem?_map, q]; show some ((parseFieldDescriptor d).map defaultValue) = _; rw [show parseFieldDescriptor d = some t from ht]; rfl
  rw [hv, List.getElem?_map, r] at e1
  cases e1
  exact D l1 ht
theorem KOb.one (E : Exa Z h a Cn) (F : Fld Z h a O n d v) : KOb Z h a Cn [(O, n, d)] [v] := ⟨E, rfl, fun i O' n' d' v' q r => by
  match i, q, r with
  | 0, q, r => cases q; cases r; exact F⟩
theorem KOb.two {O2 n2 d2 : String} {v2 : Value} (E : Exa Z h a Cn) (F : Fld Z h a O n d v) (F2 : Fld Z h a O2 n2 d2 v2) : KOb Z h a Cn [(O, n, d), (O2, n2, d2)] [v, v2] := ⟨E, rfl, fun i O' n' d' v' q r => by
  match i, q, r with
  | 0, q, r => cases q; cases r; exact F
  | 1, q, r => cases q; cases r; exact F2⟩
theorem KVA.lt (F : KVA Z h a k ty N f) : a < h.size := by obtain ⟨c, A, -⟩ := F; exact A.lt
theorem KVA.ext (F : KVA Z h a k ty N f) (E : Ext h h') : KVA Z h' a k ty N f := by obtain ⟨c, A, r⟩ := F; exact ⟨c, A.ext E, r⟩
theorem KVA.keep (F : KVA Z h a k ty N f) (E : Keep h h' ws') (q : a ∉ ws') : KVA Z h' a k ty N f := by obtain ⟨c, A, r⟩ := F; exact ⟨c, ⟨E.2.1 a c A.1 q, A.2⟩, r⟩
theorem KVA.other (F : KVA Z h a k ty N f) (W : Wr h h' b sl v) (q : a ≠ b) : KVA Z h' a k ty N f := by obtain ⟨c, A, r⟩ := F; exact ⟨c, A.other W q, r⟩
theorem KVA.congr (F : KVA Z h a k ty N f) {g : Nat → Value} (q : ∀ j, j < N → f j = g j) : KVA Z h a k ty N g := by obtain ⟨c, A, r1, r2, r3, r4⟩ := F; exact ⟨c, A, r1, r2, r3, fun j hj => by rw [← q j hj]; exact r4 j hj⟩
theorem KVA.set (F : KVA Z h a k ty N f) (W : Wr h h' a sl v) {g : Nat → Value} (q : ∀ j, j < N → (if j = sl then v else f j) = g j) : KVA Z h' a k ty N g := by
  obtain ⟨c, A, r1, r2, r3, r4⟩ := F
  refine ⟨c.setSlot sl v, A.same W, r1, by rw [sz_set]; exact r2, r3, fun j hj => ?_⟩
  rw [← q j hj]
  by_cases e : j = sl
  · subst e; rw [if_pos rfl]; simp [Cell.setSlot, r2, hj]
  · rw [if_neg e]; show (c.slots.setIfInBounds sl v)[j]? = _; rw [Array.getElem?_setIfInBounds_ne (Ne.symm e)]; exact r4 j hj
theorem KVA.new {z : Int32} (A : Arr Z h a (newA k ty z) ty) (q : z.toInt = (N : Int)) : KVA Z h a k ty N (fun _ => defaultValue ty) := by
  have e : z.toNatClampNeg = N := by simp only [Int32.toNatClampNeg]; omega
  have := Int32.toInt_lt z
  exact ⟨_, A, rfl, (sz_new _ _ _).trans e, by omega, fun j hj => by simp [newA, e, hj]⟩
theorem KVA.ne_ob {kk : Nat} (F : KVA Z h a k ty N f) (G : Exa Z h b Cn) (wi : (Cond.instantiable Cn kk).before a0 Z = true) : a ≠ b := by obtain ⟨c, A, -⟩ := F; exact (ne_arr G wi A).symm
theorem KVA.start {cl : Cell} (A : Arr Z h a cl ty) (hs : cl.slots.size = N) (hN : N < 2 ^ 31) (H : ∀ j, j < N → cl.slots[j]? = some (f j)) : KVA Z h a cl.cls ty N f := ⟨cl, A, rfl, hs, hN, H⟩
theorem k_cat_ref {v : Value} (hv : v.isRef = true) : v.category = 1 := by rcases ref_cases hv with rfl | ⟨_, rfl⟩ <;> rfl
theorem k_fits_ref {v : Value} (ht : ty.isReference = true) (hv : v.isRef = true) : fits ty v = true := by rcases ref_cases hv with rfl | ⟨_, rfl⟩ <;> cases ty <;> first | rfl | (cases ht; done)
theorem k_ext_of_keep (E : Keep h h' []) : Ext h h' := ⟨E.1, fun x c q => E.2.1 x c q nin0⟩
theorem k_idx {j : Int32} {J : Nat} (hj : j.toInt = (J : Int)) {S : Nat} (hJ : J < S) : ¬ (j < 0 ∨ S ≤ j.toNatClampNeg) ∧ j.toNatClampNeg = J := by
  have e : j.toNatClampNeg = J := by simp only [Int32.toNatClampNeg]; omega
  refine ⟨?_, e⟩
  rw [e, Int32.lt_iff_toInt_lt]
  have : (0 : Int32).toInt = 0 := rfl
  omega
end Facts
/-! ### steps on the heap -/
theorem k_getf {R0 O n d Cn : String} {index : Nat} {lay : List (String × String × String)} {vs : List Value} {v : Value} (C : KCx tbl nm cod ml ret p meth c Z a0) (P : KPos wd p l e R s m args below meth c Z own n0 h0 ws T h cells slots) (w : (Jvm.Cond.fieldLink own index R0 n d).before a0 Z = true) (via : Via Z R0 O n d) (F : KOb Z h a Cn lay vs) (i : Nat) (q : lay[i]? = some (O, n, d)) (r : vs[i]? = some v)
    (hd : decode cod pc = .ok (.getfield index, 3)) {pc' : Nat} (hp : pc + 3 = pc') (k' : ∀ T', KPos wd p l e R s m args below meth c Z own n0 h0 ws T' h cells slots → KGo p e below K T' m pc' Ls (v :: st)) : KGo p e below K T m pc Ls (.ref a :: st) := by
  subst hp
  obtain ⟨s', L, X, B, hZ, hown, eT, r1⟩ := P
  obtain ⟨T', X', e', stp⟩ := getF X C.1 hZ hown (host := "") (Or.inl w) via eT (F.fld i q r) (g := mkF m pc Ls (.ref a :: st)) rfl rfl (hb C.cdE hd)
  exact (k' T' ⟨s', L, X', B, hZ, hown, e', r1⟩).step stp
theorem k_putf {R0 O n d Cn : String} {index kk : Nat} {lay : List (String × String × String)} {vs : List Value} {v v' : Value} {ty : FieldType} (C : KCx tbl nm cod ml ret p meth c Z a0) (P : KPos wd p l e R s m args below meth c Z own n0 h0 ws T h cells slots) (w : (Jvm.Cond.fieldLink own index R0 n d).before a0 Z = true) (via : Via Z R0 O n d) (F : KOb Z h a Cn lay vs) (i : Nat) (q : lay[i]? = some (O, n, d))
    (L : (Jvm.Cond.lays Cn O n d).before a0 Z = true ∨ ((Jvm.Cond.laysFinal Cn O n d).before a0 Z = true ∧ own = O ∧ nm = "<init>")) (wi : (Jvm.Cond.instantiable Cn kk).before a0 Z = true) (hty : parseFieldDescriptor d = some ty) (hn : narrow ty v = v') (hf : fits ty v' = true)
    (hd : decode cod pc = .ok (.putfield index, 3)) (ha : n0 ≤ a) (hk : a ∈ ws ∨ h0.size ≤ a) {pc' : Nat} (hp : pc + 3 = pc') (k' : ∀ T' h', KPos wd p l e R s m args below meth c Z own n0 h0 ws T' h' cells slots → Wr h h' a (Jvm.RoadKit.slotOf Z O n d) v' → KGo p e below K T' m pc' Ls st) : KGo p e below K T m pc Ls (v :: .ref a :: st) := by
  subst hp
  obtain ⟨s', Lo, X, B, hZ, hown, eT, r1, r2, r3⟩ := P
  have hi : i < vs.length := by rw [← F.2.1]; exact (List.getElem?_eq_some_iff.mp q).1
  obtain ⟨T', h', X', e', W, stp⟩ := putFN X C.1 hZ hown w via eT (F.fld i q (List.getElem?_eq_getElem hi)) F.1 (L.imp id fun z => ⟨z.1, z.2.1, C.nmE.trans z.2.2⟩) wi hty hn hf (g := mkF m pc Ls (v :: .ref a :: st)) rfl rfl (hb C.cdE hd)
  exact (k' T' h' ⟨s', _, X', B.mono (Nat.le_of_eq W.size.symm), hZ, hown, e', W.size ▸ r1, Fr.snoc X' r2 ha, r3.wr W hk⟩ W).step stp
theorem k_gets {R0 O n d : String} {index : Nat} {v : Value} (C : KCx tbl nm cod ml ret p meth c Z a0) (P : KPos wd p l e R s m args below meth c Z own n0 h0 ws T h cells slots) (w : (Jvm.Cond.fieldLink own index R0 n d).before a0 Z = true) (via : Via Z R0 O n d) (F : Sta Z h O n d v) (hd : decode cod pc = .ok (.getstatic index, 3)) {pc' : Nat} (hp : pc + 3 = pc')
    (k' : ∀ T', KPos wd p l e R s m args below meth c Z own n0 h0 ws T' h cells slots → KGo p e below K T' m pc' Ls (v :: st)) : KGo p e below K T m pc Ls st := by
  subst hp
  obtain ⟨s', L, X, B, hZ, hown, eT, r1⟩ := P
  obtain ⟨T', X', e', stp⟩ := getS2 X C.1 hZ hown (host := "") (Or.inl w) via eT F (g := mkF m pc Ls st) rfl (hb C.cdE hd)
  exact (k' T' ⟨s', L, X', B, hZ, hown, e', r1⟩).step stp
theorem k_newo {Cn : String} {index n : Nat} (C : KCx tbl nm cod ml ret p meth c Z a0) (P : KPos wd p l e R s m args below meth c Z own n0 h0 ws T h cells slots) (w : (Jvm.Cond.classLink own index Cn).before a0 Z = true) (wi : (Jvm.Cond.instantiable Cn n).before a0 Z = true) (wz : (Jvm.Cond.initialized Cn).before a0 Z = true) (hd : decode cod pc = .ok (.new index, 3))
    {cells' slots' : Nat} (hc : cells + 1 = cells') (hs : slots + n = slots') (hc' : cells' ≤ R.cells) (hs' : slots' ≤ R.slots) {pc' : Nat} (hp : pc + 3 = pc')
    (k' : ∀ T' h' a, KPos wd p l e R s m args below meth c Z own n0 h0 ws T' h' cells' slots' → h.size = a → n0 ≤ a → h0.size ≤ a → Ext h h' → Exa Z h' a Cn → (∀ {O nm d : String} {ty : FieldType}, Laid Z a0 Cn O nm d → parseFieldDescriptor d = some ty → Fld Z h' a O nm d (defaultValue ty)) → KGo p e below K T' m pc' Ls (.ref a :: st)) : KGo p e below K T m pc Ls st := by
  subst hp hc hs
  obtain ⟨s', Lo, X, B, hZ, hown, eT, r1, r2, r3⟩ := P
  obtain ⟨T', h', X', e', E, A, D, -, stp⟩ := newO X C.1 hZ hown w wi wz eT (g := mkF m pc Ls st) rfl (hb C.cdE hd) hc' hs'
  exact (k' T' h' _ ⟨s', _, X', B.mono E.1, hZ, hown, e', Nat.le_trans r1 E.1, r2, r3.ext E⟩ rfl r1 r3.1 E A D).step stp
theorem k_newp {aty : ArrayType} {z : Int32} {N cap : Nat} (C : KCx tbl nm cod ml ret p meth c Z a0) (P : KPos wd p l e R s m args below meth c Z own n0 h0 ws T h cells slots) (w : (Jvm.Cond.arrayClass (newarray.typeOf aty)).before a0 Z = true) (hd : decode cod pc = .ok (.newarray aty, 2)) (hN : z.toInt = (N : Int)) (hcap : N ≤ cap) (hb8 : cap * 8 ≤ 536870912)
    {cells' slots' : Nat} (hc : cells + 1 = cells') (hs : slots + cap = slots') (hc' : cells' ≤ R.cells) (hs' : slots' ≤ R.slots) {pc' : Nat} (hp : pc + 2 = pc')
    (k' : ∀ T' h' a k, KPos wd p l e R s m args below meth c Z own n0 h0 ws T' h' cells' slots' → h.size = a → n0 ≤ a → h0.size ≤ a → Ext h h' → KVA Z h' a k (newarray.typeOf aty) N (fun _ => defaultValue (newarray.typeOf aty)) → KGo p e below K T' m pc' Ls (.ref a :: st)) : KGo p e below K T m pc Ls (.int z :: st) := by
  subst hp hc hs
  obtain ⟨s', Lo, X, B, hZ, hown, eT, r1, r2, r3⟩ := P
  have e0 : ¬ z < 0 := by rw [Int32.lt_iff_toInt_lt]; have : (0 : Int32).toInt = 0 := rfl; omega
  have e1 : z.toNatClampNeg ≤ cap := by simp only [Int32.toNatClampNeg]; omega
  obtain ⟨T', h', kA, X', e', E, A, stp⟩ := newP X C.1 hZ w eT (g := mkF m pc Ls (.int z :: st)) rfl (hb C.cdE hd) rfl e0 e1 hb8 hc' hs'
  exact (k' T' h' _ kA ⟨s', _, X', B.mono E.1, hZ, hown, e', Nat.le_trans r1 E.1, r2, r3.ext E⟩ rfl r1 r3.1 E (KVA.new A hN)).step stp
theorem k_newr {Cn : String} {index : Nat} {z : Int32} {N cap : Nat} (C : KCx tbl nm cod ml ret p meth c Z a0) (P : KPos wd p l e R s m args below meth c Z own n0 h0 ws T h cells slots) (w : (Jvm.Cond.classLink own index Cn).before a0 Z = true) (w2 : (Jvm.Cond.arrayOver (.object Cn)).before a0 Z = true) (hd : decode cod pc = .ok (.anewarray index, 3)) (hN : z.toInt = (N : Int)) (hcap : N ≤ cap) (hb8 : cap * 8 ≤ 536870912)
    {cells' slots' : Nat} (hc : cells + 1 = cells') (hs : slots + cap = slots') (hc' : cells' ≤ R.cells) (hs' : slots' ≤ R.slots) {pc' : Nat} (hp : pc + 3 = pc')
    (k' : ∀ T' h' a k, KPos wd p l e R s m args below meth c Z own n0 h0 ws T' h' cells' slots' → h.size = a → n0 ≤ a → h0.size ≤ a → Ext h h' → KVA Z h' a k (.object Cn) N (fun _ => .null) → Ovr Z k Cn → KGo p e below K T' m pc' Ls (.ref a :: st)) : KGo p e below K T m pc Ls (.int z :: st) := by
  subst hp hc hs
  obtain ⟨s', Lo, X, B, hZ, hown, eT, r1, r2, r3⟩ := P
  have e0 : ¬ z < 0 := by rw [Int32.lt_iff_toInt_lt]; have : (0 : Int32).toInt = 0 := rfl; omega
  have e1 : z.toNatClampNeg ≤ cap := by simp only [Int32.toNatClampNeg]; omega
  obtain ⟨T', h', kA, X', e', E, A, O, stp⟩ := newR X C.1 hZ hown w w2 eT (g := mkF m pc Ls (.int z :: st)) rfl (hb C.cdE hd) rfl e0 e1 hb8 hc' hs'
  exact (k' T' h' _ kA ⟨s', _, X', B.mono E.1, hZ, hown, e', Nat.le_trans r1 E.1, r2, r3.ext E⟩ rfl r1 r3.1 E (KVA.new A hN) O).step stp
theorem k_newra {Cn ad : String} {ty : FieldType} {index : Nat} {z : Int32} {N cap : Nat} (C : KCx tbl nm cod ml ret p meth c Z a0) (P : KPos wd p l e R s m args below meth c Z own n0 h0 ws T h cells slots) (hC : (FieldType.array ty).toString = Cn) (had : "[" ++ Cn = ad) (w : (Jvm.Cond.classLink own index Cn).before a0 Z = true) (w2 : (Jvm.Cond.arrayOver (.array ty)).before a0 Z = true) (hd : decode cod pc = .ok (.anewarray index, 3)) (hN : z.toInt = (N : Int)) (hcap : N ≤ cap) (hb8 : cap * 8 ≤ 536870912)
    {cells' slots' : Nat} (hc : cells + 1 = cells') (hs : slots + cap = slots') (hc' : cells' ≤ R.cells) (hs' : slots' ≤ R.slots) {pc' : Nat} (hp : pc + 3 = pc')
    (k' : ∀ T' h' a k, KPos wd p l e R s m args below meth c Z own n0 h0 ws T' h' cells' slots' → h.size = a → n0 ≤ a → h0.size ≤ a → Ext h h' → KVA Z h' a k (.array ty) N (fun _ => .null) → Exa Z h' a ad → OvrA Z k ty Cn → KGo p e below K T' m pc' Ls (.ref a :: st)) : KGo p e below K T m pc Ls (.int z :: st) := by
  subst hp hc hs
  obtain ⟨s', Lo, X, B, hZ, hown, eT, r1, r2, r3⟩ := P
  have e0 : ¬ z < 0 := by rw [Int32.lt_iff_toInt_lt]; have : (0 : Int32).toInt = 0 := rfl; omega
  have e1 : z.toNatClampNeg ≤ cap := by simp only [Int32.toNatClampNeg]; omega
  obtain ⟨T', h', kA, X', e', E, A, Ex, O, stp⟩ := newRA X C.1 hZ hown hC w w2 eT (g := mkF m pc Ls (.int z :: st)) rfl (hb C.cdE hd) rfl e0 e1 hb8 hc' hs' had
  exact (k' T' h' _ kA ⟨s', _, X', B.mono E.1, hZ, hown, e', Nat.le_trans r1 E.1, r2, r3.ext E⟩ rfl r1 r3.1 E (KVA.new A hN) Ex O).step stp
theorem k_arrlen {k : ClassId} {ty : FieldType} {N : Nat} {f : Nat → Value} {z : Int32} (C : KCx tbl nm cod ml ret p meth c Z a0) (P : KPos wd p l e R s m args below meth c Z own n0 h0 ws T h cells slots) (V : KVA Z h a k ty N f) (hd : decode cod pc = .ok (.arraylength, 1)) (hz : z.toInt = (N : Int)) {pc' : Nat} (hp : pc + 1 = pc') (k' : KGo p e below K T m pc' Ls (.int z :: st)) : KGo p e below K T m pc Ls (.ref a :: st) := by
  subst hp
  obtain ⟨s', L, X, B, hZ, hown, eT, r1⟩ := P
  obtain ⟨cl, A, -, S, hN, -⟩ := V
  have e : cl.slots.size.toInt32 = z := by rw [S]; exact Int32.toInt_inj.mp (by rw [len_toInt hN, hz])
  subst e
  exact k'.step fun t q => X.arraylength C.1 (by rw [eT]; exact A.1) (State.isArrayOf_alike hZ.alike A.2.1) (g := mkF m pc Ls (.ref a :: st)) rfl rfl (hb C.cdE hd) t q
theorem k_iaload {k : ClassId} {N J : Nat} {f : Nat → Value} {j : Int32} {v : Value} (C : KCx tbl nm cod ml ret p meth c Z a0) (P : KPos wd p l e R s m args below meth c Z own n0 h0 ws T h cells slots) (V : KVA Z h a k .int N f) (hd : decode cod pc = .ok (.iaload, 1)) (hj : j.toInt = (J : Int)) (hJ : J < N) (hv : f J = v) {pc' : Nat} (hp : pc + 1 = pc') (k' : KGo p e below K T m pc' Ls (v :: st)) : KGo p e below K T m pc Ls (.int j :: .ref a :: st) := by
  subst hp hv
  obtain ⟨s', L, X, B, hZ, hown, eT, r1⟩ := P
  obtain ⟨cl, A, -, S, hN, H⟩ := V
  obtain ⟨q1, q2⟩ := k_idx hj (S.symm ▸ hJ)
  exact k'.step fun t q => X.iaload C.1 (by rw [eT]; exact A.1) (State.isArrayOf_alike hZ.alike A.2.1) A.2.2 q1 (by rw [q2]; exact H J hJ) (g := mkF m pc Ls (.int j :: .ref a :: st)) rfl rfl (hb C.cdE hd) t q
theorem k_laload {k : ClassId} {N J : Nat} {f : Nat → Value} {j : Int32} {v : Value} (C : KCx tbl nm cod ml ret p meth c Z a0) (P : KPos wd p l e R s m args below meth c Z own n0 h0 ws T h cells slots) (V : KVA Z h a k .long N f) (hd : decode cod pc = .ok (.laload, 1)) (hj : j.toInt = (J : Int)) (hJ : J < N) (hv : f J = v) {pc' : Nat} (hp : pc + 1 = pc') (k' : KGo p e below K T m pc' Ls (v :: st)) : KGo p e below K T m pc Ls (.int j :: .ref a :: st) := by
  subst hp hv
  obtain ⟨s', L, X, B, hZ, hown, eT, r1⟩ := P
  obtain ⟨cl, A, -, S, hN, H⟩ := V
  obtain ⟨q1, q2⟩ := k_idx hj (S.symm ▸ hJ)
  exact k'.step fun t q => X.laload C.1 (by rw [eT]; exact A.1) (State.isArrayOf_alike hZ.alike A.2.1) A.2.2 q1 (by rw [q2]; exact H J hJ) (g := mkF m pc Ls (.int j :: .ref a :: st)) rfl rfl (hb C.cdE hd) t q
theorem k_caload {k : ClassId} {N J : Nat} {f : Nat → Value} {j : Int32} {v : Value} (C : KCx tbl nm cod ml ret p meth c Z a0) (P : KPos wd p l e R s m args below meth c Z own n0 h0 ws T h cells slots) (V : KVA Z h a k .char N f) (hd : decode cod pc = .ok (.caload, 1)) (hj : j.toInt = (J : Int)) (hJ : J < N) (hv : f J = v) {pc' : Nat} (hp : pc + 1 = pc') (k' : KGo p e below K T m pc' Ls (v :: st)) : KGo p e below K T m pc Ls (.int j :: .ref a :: st) := by
  subst hp hv
  obtain ⟨s', L, X, B, hZ, hown, eT, r1⟩ := P
  obtain ⟨cl, A, -, S, hN, H⟩ := V
  obtain ⟨q1, q2⟩ := k_idx hj (S.symm ▸ hJ)
  exact k'.step fun t q => X.caload C.1 (by rw [eT]; exact A.1) (State.isArrayOf_alike hZ.alike A.2.1) A.2.2 q1 (by rw [q2]; exact H J hJ) (g := mkF m pc Ls (.int j :: .ref a :: st)) rfl rfl (hb C.cdE hd) t q
theorem k_baload {k : ClassId} {N J : Nat} {f : Nat → Value} {j : Int32} {v : Value} (C : KCx tbl nm cod ml ret p meth c Z a0) (P : KPos wd p l e R s m args below meth c Z own n0 h0 ws T h cells slots) (V : KVA Z h a k .byte N f) (hd : decode cod pc = .ok (.baload, 1)) (hj : j.toInt = (J : Int)) (hJ : J < N) (hv : f J = v) {pc' : Nat} (hp : pc + 1 = pc') (k' : KGo p e below K T m pc' Ls (v :: st)) : KGo p e below K T m pc Ls (.int j :: .ref a :: st) := by
  subst hp hv
  obtain ⟨s', L, X, B, hZ, hown, eT, r1⟩ := P
  obtain ⟨cl, A, -, S, hN, H⟩ := V
  obtain ⟨q1, q2⟩ := k_idx hj (S.symm ▸ hJ)
  exact k'.step fun t q => X.baloadBytes C.1 (by rw [eT]; exact A.1) (State.isArrayOf_alike hZ.alike A.2.1) A.2.2 q1 (by rw [q2]; exact H J hJ) (g := mkF m pc Ls (.int j :: .ref a :: st)) rfl rfl (hb C.cdE hd) t q
theorem k_daload {k : ClassId} {N J : Nat} {f : Nat → Value} {j : Int32} {v : Value} (C : KCx tbl nm cod ml ret p meth c Z a0) (P : KPos wd p l e R s m args below meth c Z own n0 h0 ws T h cells slots) (V : KVA Z h a k .double N f) (hd : decode cod pc = .ok (.daload, 1)) (hj : j.toInt = (J : Int)) (hJ : J < N) (hv : f J = v) {pc' : Nat} (hp : pc + 1 = pc') (k' : KGo p e below K T m pc' Ls (v :: st)) : KGo p e below K T m pc Ls (.int j :: .ref a :: st) := by
  subst hp hv
  obtain ⟨s', L, X, B, hZ, hown, eT, r1⟩ := P
  obtain ⟨cl, A, -, S, hN, H⟩ := V
  obtain ⟨q1, q2⟩ := k_idx hj (S.symm ▸ hJ)
  exact k'.step fun t q => X.daload C.1 (by rw [eT]; exact A.1) (State.isArrayOf_alike hZ.alike A.2.1) A.2.2 q1 (by rw [q2]; exact H J hJ) (g := mkF m pc Ls (.int j :: .ref a :: st)) rfl rfl (hb C.cdE hd) t q
theorem k_aaload {k : ClassId} {ty : FieldType} {N J : Nat} {f : Nat → Value} {j : Int32} {v : Value} (C : KCx tbl nm cod ml ret p meth c Z a0) (P : KPos wd p l e R s m args below meth c Z own n0 h0 ws T h cells slots) (V : KVA Z h a k ty N f) (hty : ty.isReference = true) (hd : decode cod pc = .ok (.aaload, 1)) (hj : j.toInt = (J : Int)) (hJ : J < N) (hv : f J = v) {pc' : Nat} (hp : pc + 1 = pc') (k' : KGo p e below K T m pc' Ls (v :: st)) : KGo p e below K T m pc Ls (.int j :: .ref a :: st) := by
  subst hp hv
  obtain ⟨s', L, X, B, hZ, hown, eT, r1⟩ := P
  obtain ⟨cl, A, -, S, hN, H⟩ := V
  obtain ⟨q1, q2⟩ := k_idx hj (S.symm ▸ hJ)
  exact k'.step fun t q => X.aaload C.1 (by rw [eT]; exact A.1) (State.isArrayOf_alike hZ.alike A.2.1) hty A.2.2 q1 (by rw [q2]; exact H J hJ) (g := mkF m pc Ls (.int j :: .ref a :: st)) rfl rfl (hb C.cdE hd) t q
theorem k_iastore {k : ClassId} {N J : Nat} {f g' : Nat → Value} {j : Int32} {x : Int32} (C : KCx tbl nm cod ml ret p meth c Z a0) (P : KPos wd p l e R s m args below meth c Z own n0 h0 ws T h cells slots) (V : KVA Z h a k .int N f) (hd : decode cod pc = .ok (.iastore, 1)) (hj : j.toInt = (J : Int)) (hJ : J < N) (hg' : ∀ i, i < N → (if i = J then (.int x : Value) else f i) = g' i) (ha : n0 ≤ a) (hk : a ∈ ws ∨ h0.size ≤ a) {pc' : Nat} (hp : pc + 1 = pc') (k' : ∀ T' h', KPos wd p l e R s m args below meth c Z own n0 h0 ws T' h' cells slots → Wr h h' a J (.int x) → KVA Z h' a k .int N g' → KGo p e below K T' m pc' Ls st) : KGo p e below K T m pc Ls (.int x :: .int j :: .ref a :: st) := by
  subst hp
  obtain ⟨s', Lo, X, B, hZ, hown, eT, r1, r2, r3⟩ := P
  have V0 := V
  obtain ⟨cl, A, -, S, hN, H⟩ := V
  obtain ⟨q1, q2⟩ := k_idx hj (S.symm ▸ hJ)
  obtain ⟨T', h', X', e', W, stp⟩ := stI X C.1 hZ eT A q1 (g := mkF m pc Ls (.int x :: .int j :: .ref a :: st)) rfl rfl (hb C.cdE hd)
  have W' := W
  rw [q2] at W'
  exact (k' T' h' ⟨s', _, X', B.mono (Nat.le_of_eq W.size.symm), hZ, hown, e', W.size ▸ r1, Fr.snoc X' r2 ha, r3.wr W hk⟩ W' (V0.set W' hg')).step stp
theorem k_lastore {k : ClassId} {N J : Nat} {f g' : Nat → Value} {j : Int32} {x : Int64} (C : KCx tbl nm cod ml ret p meth c Z a0) (P : KPos wd p l e R s m args below meth c Z own n0 h0 ws T h cells slots) (V : KVA Z h a k .long N f) (hd : decode cod pc = .ok (.lastore, 1)) (hj : j.toInt = (J : Int)) (hJ : J < N) (hg' : ∀ i, i < N → (if i = J then (.long x : Value) else f i) = g' i) (ha : n0 ≤ a) (hk : a ∈ ws ∨ h0.size ≤ a) {pc' : Nat} (hp : pc + 1 = pc') (k' : ∀ T' h', KPos wd p l e R s m args below meth c Z own n0 h0 ws T' h' cells slots → Wr h h' a J (.long x) → KVA Z h' a k .long N g' → KGo p e below K T' m pc' Ls st) : KGo p e below K T m pc Ls (.long x :: .int j :: .ref a :: st) := by
  subst hp
  obtain ⟨s', Lo, X, B, hZ, hown, eT, r1, r2, r3⟩ := P
  have V0 := V
  obtain ⟨cl, A, -, S, hN, H⟩ := V
  obtain ⟨q1, q2⟩ := k_idx hj (S.symm ▸ hJ)
  obtain ⟨T', h', X', e', W, stp⟩ := stJ X C.1 hZ eT A q1 (g := mkF m pc Ls (.long x :: .int j :: .ref a :: st)) rfl rfl (hb C.cdE hd)
  have W' := W
  rw [q2] at W'
  exact (k' T' h' ⟨s', _, X', B.mono (Nat.le_of_eq W.size.symm), hZ, hown, e', W.size ▸ r1, Fr.snoc X' r2 ha, r3.wr W hk⟩ W' (V0.set W' hg')).step stp
theorem k_castore {k : ClassId} {N J : Nat} {f g' : Nat → Value} {j : Int32} {x : Int32} (C : KCx tbl nm cod ml ret p meth c Z a0) (P : KPos wd p l e R s m args below meth c Z own n0 h0 ws T h cells slots) (V : KVA Z h a k .char N f) (hd : decode cod pc = .ok (.castore, 1)) (hj : j.toInt = (J : Int)) (hJ : J < N) (hg' : ∀ i, i < N → (if i = J then (.int (nar .char x) : Value) else f i) = g' i) (ha : n0 ≤ a) (hk : a ∈ ws ∨ h0.size ≤ a) {pc' : Nat} (hp : pc + 1 = pc') (k' : ∀ T' h', KPos wd p l e R s m args below meth c Z own n0 h0 ws T' h' cells slots → Wr h h' a J (.int (nar .char x)) → KVA Z h' a k .char N g' → KGo p e below K T' m pc' Ls st) : KGo p e below K T m pc Ls (.int x :: .int j :: .ref a :: st) := by
  subst hp
  obtain ⟨s', Lo, X, B, hZ, hown, eT, r1, r2, r3⟩ := P
  have V0 := V
  obtain ⟨cl, A, -, S, hN, H⟩ := V
  obtain ⟨q1, q2⟩ := k_idx hj (S.symm ▸ hJ)
  obtain ⟨T', h', X', e', W, stp⟩ := stC X C.1 hZ eT A q1 (g := mkF m pc Ls (.int x :: .int j :: .ref a :: st)) rfl rfl (hb C.cdE hd)
  have W' := W
  rw [q2] at W'
  exact (k' T' h' ⟨s', _, X', B.mono (Nat.le_of_eq W.size.symm), hZ, hown, e', W.size ▸ r1, Fr.snoc X' r2 ha, r3.wr W hk⟩ W' (V0.set W' hg')).step stp
theorem k_bastore {k : ClassId} {N J : Nat} {f g' : Nat → Value} {j : Int32} {x : Int32} (C : KCx tbl nm cod ml ret p meth c Z a0) (P : KPos wd p l e R s m args below meth c Z own n0 h0 ws T h cells slots) (V : KVA Z h a k .byte N f) (hd : decode cod pc = .ok (.bastore, 1)) (hj : j.toInt = (J : Int)) (hJ : J < N) (hg' : ∀ i, i < N → (if i = J then (.int (nar .byte x) : Value) else f i) = g' i) (ha : n0 ≤ a) (hk : a ∈ ws ∨ h0.size ≤ a) {pc' : Nat} (hp : pc + 1 = pc') (k' : ∀ T' h', KPos wd p l e R s m args below meth c Z own n0 h0 ws T' h' cells slots → Wr h h' a J (.int (nar .byte x)) → KVA Z h' a k .byte N g' → KGo p e below K T' m pc' Ls st) : KGo p e below K T m pc Ls (.int x :: .int j :: .ref a :: st) := by
  subst hp
  obtain ⟨s', Lo, X, B, hZ, hown, eT, r1, r2, r3⟩ := P
  have V0 := V
  obtain ⟨cl, A, -, S, hN, H⟩ := V
  obtain ⟨q1, q2⟩ := k_idx hj (S.symm ▸ hJ)
  obtain ⟨T', h', X', e', W, stp⟩ := stB X C.1 hZ eT A q1 (g := mkF m pc Ls (.int x :: .int j :: .ref a :: st)) rfl rfl (hb C.cdE hd)
  have W' := W
  rw [q2] at W'
  exact (k' T' h' ⟨s', _, X', B.mono (Nat.le_of_eq W.size.symm), hZ, hown, e', W.size ▸ r1, Fr.snoc X' r2 ha, r3.wr W hk⟩ W' (V0.set W' hg')).step stp
theorem k_dastore {k : ClassId} {N J : Nat} {f g' : Nat → Value} {j : Int32} {x : UInt64} (C : KCx tbl nm cod ml ret p meth c Z a0) (P : KPos wd p l e R s m args below meth c Z own n0 h0 ws T h cells slots) (V : KVA Z h a k .double N f) (hd : decode cod pc = .ok (.dastore, 1)) (hj : j.toInt = (J : Int)) (hJ : J < N) (hg' : ∀ i, i < N → (if i = J then (.double x : Value) else f i) = g' i) (ha : n0 ≤ a) (hk : a ∈ ws ∨ h0.size ≤ a) {pc' : Nat} (hp : pc + 1 = pc') (k' : ∀ T' h', KPos wd p l e R s m args below meth c Z own n0 h0 ws T' h' cells slots → Wr h h' a J (.double x) → KVA Z h' a k .double N g' → KGo p e below K T' m pc' Ls st) : KGo p e below K T m pc Ls (.double x :: .int j :: .ref a :: st) := by
  subst hp
  obtain ⟨s', Lo, X, B, hZ, hown, eT, r1, r2, r3⟩ := P
  have V0 := V
  obtain ⟨cl, A, -, S, hN, H⟩ := V
  obtain ⟨q1, q2⟩ := k_idx hj (S.symm ▸ hJ)
  obtain ⟨T', h', X', e', W, stp⟩ := stD X C.1 hZ eT A q1 (g := mkF m pc Ls (.double x :: .int j :: .ref a :: st)) rfl rfl (hb C.cdE hd)
  have W' := W
  rw [q2] at W'
  exact (k' T' h' ⟨s', _, X', B.mono (Nat.le_of_eq W.size.symm), hZ, hown, e', W.size ▸ r1, Fr.snoc X' r2 ha, r3.wr W hk⟩ W' (V0.set W' hg')).step stp
theorem k_aastore {k : ClassId} {ty : FieldType} {N J : Nat} {f g' : Nat → Value} {j : Int32} {x : Value} (C : KCx tbl nm cod ml ret p meth c Z a0) (P : KPos wd p l e R s m args below meth c Z own n0 h0 ws T h cells slots) (V : KVA Z h a k ty N f) (hty : ty.isReference = true) (S0 : Sto Z h a x) (hd : decode cod pc = .ok (.aastore, 1)) (hj : j.toInt = (J : Int)) (hJ : J < N) (hg' : ∀ i, i < N → (if i = J then x else f i) = g' i) (ha : n0 ≤ a) (hk : a ∈ ws ∨ h0.size ≤ a) {pc' : Nat} (hp : pc + 1 = pc') (k' : ∀ T' h', KPos wd p l e R s m args below meth c Z own n0 h0 ws T' h' cells slots → Wr h h' a J x → KVA Z h' a k ty N g' → KGo p e below K T' m pc' Ls st) : KGo p e below K T m pc Ls (x :: .int j :: .ref a :: st) := by
  subst hp
  obtain ⟨s', Lo, X, B, hZ, hown, eT, r1, r2, r3⟩ := P
  have V0 := V
  obtain ⟨cl, A, -, S, hN, H⟩ := V
  obtain ⟨q1, q2⟩ := k_idx hj (S.symm ▸ hJ)
  obtain ⟨T', h', X', e', W, stp⟩ := stR X C.1 hZ eT A q1 hty S0 (g := mkF m pc Ls (x :: .int j :: .ref a :: st)) rfl rfl (hb C.cdE hd)
  have W' := W
  rw [q2] at W'
  exact (k' T' h' ⟨s', _, X', B.mono (Nat.le_of_eq W.size.symm), hZ, hown, e', W.size ▸ r1, Fr.snoc X' r2 ha, r3.wr W hk⟩ W' (V0.set W' hg')).step stp
theorem KVA.sto {k : ClassId} {N : Nat} {f : Nat → Value} {Cn K1 : String} {ty : FieldType} (V : KVA Z h a k ty N f) (O : Ovr Z k Cn) (I : Ins Z h b Cn true) : Sto Z h a (.ref b) := by
  obtain ⟨cl, A, q, -⟩ := V; exact Sto.ofV A q O I
theorem KVA.stoA {k : ClassId} {N : Nat} {f : Nat → Value} {Cn : String} {ty t0 : FieldType} (V : KVA Z h a k t0 N f) (O : OvrA Z k ty Cn) (I : Ins Z h b Cn true) : Sto Z h a (.ref b) := by
  obtain ⟨cl, A, q, -⟩ := V; exact Sto.ofVA A q O I
theorem k_ldcI {index : Nat} {z : Int32} (C : KCx tbl nm cod ml ret p meth c Z a0) (P : KPos wd p l e R s m args below meth c Z own n0 h0 ws T h cells slots) (w : (Jvm.Cond.constant own index z).before a0 Z = true) (hd : decode cod pc = .ok (.ldc index, 2)) {pc' : Nat} (hp : pc + 2 = pc') (k' : KGo p e below K T m pc' Ls (.int z :: st)) : KGo p e below K T m pc Ls st := by
  subst hp
  obtain ⟨s', L, X, B, hZ, hown, eT, r1⟩ := P
  exact k'.step fun t q => X.ldcInt C.1 hown (mvT hZ w) (g := mkF m pc Ls st) rfl (hb C.cdE hd) t q
theorem k_ldc2L {index : Nat} {z : Int64} (C : KCx tbl nm cod ml ret p meth c Z a0) (P : KPos wd p l e R s m args below meth c Z own n0 h0 ws T h cells slots) (w : (Jvm.Cond.constantLong own index z).before a0 Z = true) (hd : decode cod pc = .ok (.ldc2_w index, 3)) {pc' : Nat} (hp : pc + 3 = pc') (k' : KGo p e below K T m pc' Ls (.long z :: st)) : KGo p e below K T m pc Ls st := by
  subst hp
  obtain ⟨s', L, X, B, hZ, hown, eT, r1⟩ := P
  exact k'.step fun t q => X.ldc2Long C.1 hown (mvT hZ w) (g := mkF m pc Ls st) rfl (hb C.cdE hd) t q
theorem k_ldc2D {index : Nat} {z : UInt64} (C : KCx tbl nm cod ml ret p meth c Z a0) (P : KPos wd p l e R s m args below meth c Z own n0 h0 ws T h cells slots) (w : (Jvm.Cond.constantDouble own index z).before a0 Z = true) (hd : decode cod pc = .ok (.ldc2_w index, 3)) {pc' : Nat} (hp : pc + 3 = pc') (k' : KGo p e below K T m pc' Ls (.double z :: st)) : KGo p e below K T m pc Ls st := by
  subst hp
  obtain ⟨s', L, X, B, hZ, hown, eT, r1⟩ := P
  exact k'.step fun t q => X.ldc2DoubleC C.1 hown (mvT hZ w) (g := mkF m pc Ls st) rfl (hb C.cdE hd) t q
theorem k_castO {Kn : String} {index : Nat} (C : KCx tbl nm cod ml ret p meth c Z a0) (P : KPos wd p l e R s m args below meth c Z own n0 h0 ws T h cells slots) (w : (Jvm.Cond.classLink own index Kn).before a0 Z = true) (F : Ins Z h a Kn true) (hd : decode cod pc = .ok (.checkcast index, 3)) {pc' : Nat} (hp : pc + 3 = pc') (k' : ∀ T', KPos wd p l e R s m args below meth c Z own n0 h0 ws T' h cells slots → KGo p e below K T' m pc' Ls (.ref a :: st)) : KGo p e below K T m pc Ls (.ref a :: st) := by
  subst hp
  obtain ⟨s', L, X, B, hZ, hown, eT, r1⟩ := P
  obtain ⟨T', X', e', stp⟩ := castY X C.1 hZ hown w eT F (g := mkF m pc Ls (.ref a :: st)) rfl rfl (hb C.cdE hd)
  exact (k' T' ⟨s', L, X', B, hZ, hown, e', r1⟩).step stp
/-! ### calls -/
theorem k_initObj {index W : Nat} (C : KCx tbl nm cod ml ret p meth c Z a0) (P : KPos wd p l e R s m args below meth c Z own n0 h0 ws T h cells slots) (w1 : (Jvm.Cond.methodLink own index Lib.objectInit).before a0 Z = true) (w2 : (Jvm.Cond.instanceMethod Lib.objectInit).before a0 Z = true) (w3 : (Jvm.Cond.code Lib.objectInit ⟨#[0xb1]⟩ 1 none).before a0 Z = true)
    (hd : decode cod pc = .ok (.invokespecial index, 3)) (hsz : Ls.size = ml) (hf : 1 ≤ R.frames) (hW : (st.map fun v => v.category).sum ≤ W) (hl : W + 12 ≤ R.locals) {pc' : Nat} (hp : pc + 3 = pc') (k' : ∀ T', KPos wd p l e R s m args below meth c Z own n0 h0 ws T' h cells slots → KGo p e below K T' m pc' Ls st) : KGo p e below K T m pc Ls (.ref a :: st) := by
  subst hp
  obtain ⟨s', L, X, B, hZ, hown, eT, r1⟩ := P
  obtain ⟨T', X', e', stp⟩ := initO X C.1 hZ hown w1 w2 w3 eT (g := mkF m pc Ls (.ref a :: st)) rfl (hsz.trans C.mlE.symm) rfl (hb C.cdE hd) hf (by show 2 * 0 + _ ≤ _; rw [Nat.mul_zero, Nat.zero_add]; exact hW) hl
  exact (k' T' ⟨s', L, X', B, hZ, hown, e', r1⟩).step stp
theorem k_callN {y : MethodName} {index W maxL : Nat} {bytes : ByteArray} {rm : Room} {as : Array Value} {ws' : List Addr} {Q : Option Value → Heap → Prop} (C : KCx tbl nm cod ml ret p meth c Z a0) (P : KPos wd p l e R s m args below meth c Z own n0 h0 ws T h cells slots)
    (hy1 : y.name = "<init>") (w1 : (Jvm.Cond.methodLink own index y).before a0 Z = true) (w2 : (Jvm.Cond.instanceMethod y).before a0 Z = true) (w3 : (Jvm.Cond.code y bytes maxL none).before a0 Z = true) (w4 : (Jvm.Cond.initialized y.cls).before a0 Z = true) (hy : y.cls ≠ "java/lang/invoke/MethodHandle" ∧ y.cls ≠ "java/lang/invoke/VarHandle")
    (hM : KCt false l y bytes maxL none rm Z n0 h as ws' Q) (a : Addr) (argsL rest : List Value) (has : as = (.ref a :: argsL).toArray) (hlen : ∀ sig, parseMethodDescriptor y.desc = some sig → argsL.length = sig.parameters.length) (hst : st = argsL.reverse ++ .ref a :: rest) (hW : (rest.map fun v => v.category).sum ≤ W)
    (hd : decode cod pc = .ok (.invokespecial index, 3)) (hsz : Ls.size = ml) (hf : rm.frames + 1 ≤ R.frames) (hl : W + (maxL + 11) + rm.locals ≤ R.locals) {cells' slots' : Nat} (hc : cells + rm.cells = cells') (hs : slots + rm.slots = slots') (hc' : cells' ≤ R.cells) (hs' : slots' ≤ R.slots) (hws : ∀ x ∈ ws', x ∈ ws ∨ h0.size ≤ x) {pc' : Nat} (hp : pc + 3 = pc')
    (k' : ∀ T' h' v, KPos wd p l e R s m args below meth c Z own n0 h0 ws T' h' cells' slots' → Keep h h' ws' → Q v h' → KGo p e below K T' m pc' Ls (v.toList ++ rest)) : KGo p e below K T m pc Ls st := by
  subst hp hc hs has
  obtain ⟨s', L, X, B, hZ, hown, eT, r1, r2, r3⟩ := P
  obtain ⟨v, _, ⟨T', L', k1, n1⟩, -, X', ⟨Lc, ⟨q1, q2, q3⟩, l1, y1, z1⟩, stp⟩ := X.specialBack C.1 (y := y) hy1 hown (mvT hZ w1) (mvT hZ w2) (mvT hZ w3) hy (backOf (W := W) (Q := fun v h' L => Fr n0 L ∧ Keep h h' ws' ∧ Q v h') hM.plain hZ w3 w4 hf hl) (g := mkF m pc Ls st) rfl (hsz.trans C.mlE.symm) (Steps.refl _) (a := a) (argsL := argsL) (rest := rest) hlen hst (by show 2 * 0 + _ ≤ _; rw [Nat.mul_zero, Nat.zero_add]; exact hW) (hb C.cdE hd) (fun _ _ => ⟨rfl, eT, hc', hs'⟩)
  dsimp only [Pt.U, Pt.locs, Pt.cells, Pt.slots] at X' l1 y1 z1 stp q2 q3
  subst l1 y1 z1
  exact (k' T' T'.heap v ⟨s', _, X', B.mono q2.1, hZ, hown, rfl, Nat.le_trans r1 q2.1, Fr.app r2 q1, r3.trans q2 hws⟩ q2 q3).step fun t q => stp.trans q
theorem k_callV {y z : MethodName} {Cn : String} {index W maxL : Nat} {bytes : ByteArray} {rt : Option FieldType} {rm : Room} {as : Array Value} {ws' : List Addr} {Q : Option Value → Heap → Prop} (C : KCx tbl nm cod ml ret p meth c Z a0) (P : KPos wd p l e R s m args below meth c Z own n0 h0 ws T h cells slots)
    (w1 : (Jvm.Cond.methodLink own index y).before a0 Z = true) (wdc : (Jvm.Cond.declares y).before a0 Z = true) (nf : ∀ s' : State, Z.Warmed39 s'.vm → NotFace s' y) (wsel : (Jvm.Cond.selects Cn y z).before a0 Z = true) (w2 : (Jvm.Cond.instanceMethod z).before a0 Z = true) (w3 : (Jvm.Cond.code z bytes maxL rt).before a0 Z = true) (w4 : (Jvm.Cond.initialized z.cls).before a0 Z = true) (hy : y.cls ≠ "java/lang/invoke/MethodHandle" ∧ y.cls ≠ "java/lang/invoke/VarHandle")
    (hM : KCt false l z bytes maxL rt rm Z n0 h as ws' Q) (E : Exa Z h a Cn) (argsL rest : List Value) (has : as = (.ref a :: argsL).toArray) (hlen : ∀ sig, parseMethodDescriptor y.desc = some sig → argsL.length = sig.parameters.length) (hst : st = argsL.reverse ++ .ref a :: rest) (hW : (rest.map fun v => v.category).sum ≤ W)
    (hd : decode cod pc = .ok (.invokevirtual index, 3)) (hsz : Ls.size = ml) (hf : rm.frames + 1 ≤ R.frames) (hl : W + (maxL + 11) + rm.locals ≤ R.locals) {cells' slots' : Nat} (hc : cells + rm.cells = cells') (hs : slots + rm.slots = slots') (hc' : cells' ≤ R.cells) (hs' : slots' ≤ R.slots) (hws : ∀ x ∈ ws', x ∈ ws ∨ h0.size ≤ x) {pc' : Nat} (hp : pc + 3 = pc')
    (k' : ∀ T' h' v, KPos wd p l e R s m args below meth c Z own n0 h0 ws T' h' cells' slots' → Keep h h' ws' → Q v h' → KGo p e below K T' m pc' Ls (v.toList ++ rest)) : KGo p e below K T m pc Ls st := by
  subst hp hc hs has
  obtain ⟨s', L, X, B, hZ, hown, eT, r1, r2, r3⟩ := P
  obtain ⟨cq, kq, qa, qb, qc⟩ := isOf hZ eT E
  obtain ⟨v, _, ⟨T', L', k1, n1⟩, -, X', ⟨Lc, ⟨q1, q2, q3⟩, l1, y1, z1⟩, stp⟩ := X.virtualBack C.1 (y := y) (z := z) hown (mvT hZ w1) (mvT hZ wdc) (nf s' hZ) (mvT hZ wsel) (mvT hZ w2) hy (backOf (W := W) (Q := fun v h' L => Fr n0 L ∧ Keep h h' ws' ∧ Q v h') hM.plain hZ w3 w4 hf hl) qa qc (g := mkF m pc Ls st) rfl (hsz.trans C.mlE.symm) (Steps.refl _) (argsL := argsL) (rest := rest) hlen hst (by show 2 * 0 + _ ≤ _; rw [Nat.mul_zero, Nat.zero_add]; exact hW) (hb C.cdE hd) (fun _ _ => ⟨rfl, eT, hc', hs'⟩)
  dsimp only [Pt.U, Pt.locs, Pt.cells, Pt.slots] at X' l1 y1 z1 stp q2 q3
  subst l1 y1 z1
  exact (k' T' T'.heap v ⟨s', _, X', B.mono q2.1, hZ, hown, rfl, Nat.le_trans r1 q2.1, Fr.app r2 q1, r3.trans q2 hws⟩ q2 q3).step fun t q => stp.trans q
theorem k_callI {xi y : MethodName} {Cn : String} {index count W maxL : Nat} {bytes : ByteArray} {rt : Option FieldType} {rm : Room} {as : Array Value} {ws' : List Addr} {Q : Option Value → Heap → Prop} (C : KCx tbl nm cod ml ret p meth c Z a0) (P : KPos wd p l e R s m args below meth c Z own n0 h0 ws T h cells slots)
    (w1 : (Jvm.Cond.methodLink own index xi).before a0 Z = true) (wdc : (Jvm.Cond.declares xi).before a0 Z = true) (wf : (Jvm.Cond.interfaceMethod xi.cls xi.cls xi.name xi.desc).before a0 Z = true) (wsel : (Jvm.Cond.selects Cn xi y).before a0 Z = true) (w2 : (Jvm.Cond.instanceMethod y).before a0 Z = true) (wp : (Jvm.Cond.publicMethod y).before a0 Z = true) (wu : (Jvm.Cond.unhidden Cn xi.name xi.desc).before a0 Z = true) (wc : (Jvm.Cond.castable Cn xi.cls).before a0 Z = true)
    (w3 : (Jvm.Cond.code y bytes maxL rt).before a0 Z = true) (w4 : (Jvm.Cond.initialized y.cls).before a0 Z = true) (hy : xi.cls ≠ "java/lang/invoke/MethodHandle" ∧ xi.cls ≠ "java/lang/invoke/VarHandle")
    (hM : KCt false l y bytes maxL rt rm Z n0 h as ws' Q) (E : Exa Z h a Cn) (argsL rest : List Value) (has : as = (.ref a :: argsL).toArray) (hlen : ∀ sig, parseMethodDescriptor xi.desc = some sig → argsL.length = sig.parameters.length) (hst : st = argsL.reverse ++ .ref a :: rest) (hW : (rest.map fun v => v.category).sum ≤ W)
    (hd : decode cod pc = .ok (.invokeinterface index count, 5)) (hsz : Ls.size = ml) (hf : rm.frames + 1 ≤ R.frames) (hl : W + (maxL + 11) + rm.locals ≤ R.locals) {cells' slots' : Nat} (hc : cells + rm.cells = cells') (hs : slots + rm.slots = slots') (hc' : cells' ≤ R.cells) (hs' : slots' ≤ R.slots) (hws : ∀ x ∈ ws', x ∈ ws ∨ h0.size ≤ x) {pc' : Nat} (hp : pc + 5 = pc')
    (k' : ∀ T' h' v, KPos wd p l e R s m args below meth c Z own n0 h0 ws T' h' cells' slots' → Keep h h' ws' → Q v h' → KGo p e below K T' m pc' Ls (v.toList ++ rest)) : KGo p e below K T m pc Ls st := by
  subst hp hc hs has
  obtain ⟨s', L, X, B, hZ, hown, eT, r1, r2, r3⟩ := P
  obtain ⟨cq, kq, qa, qb, qc⟩ := isOf hZ eT E
  obtain ⟨v, _, ⟨T', L', k1, n1⟩, -, X', ⟨Lc, ⟨q1, q2, q3⟩, l1, y1, z1⟩, stp⟩ := X.interfaceBack C.1 (xi := xi) (y := y) hown (mvT hZ w1) (mvT hZ wdc) (mvT hZ wf (by simp [Cond.onTables, Cond.keepsFace, Cond.faceAtom, hy.1, hy.2])) (mvT hZ wsel) (mvT hZ w2) (mvT hZ wp) (mvT hZ wu) (mvT hZ wc) hy (backOf (W := W) (Q := fun v h' L => Fr n0 L ∧ Keep h h' ws' ∧ Q v h') hM.plain hZ w3 w4 hf hl) qa qb qc (g := mkF m pc Ls st) rfl (hsz.trans C.mlE.symm) (Steps.refl _) (argsL := argsL) (rest := rest) hlen hst (by show 2 * 0 + _ ≤ _; rw [Nat.mul_zero, Nat.zero_add]; exact hW) (hb C.cdE hd) (fun _ _ => ⟨rfl, eT, hc', hs'⟩)
  dsimp only [Pt.U, Pt.locs, Pt.cells, Pt.slots] at X' l1 y1 z1 stp q2 q3
  subst l1 y1 z1
  exact (k' T' T'.heap v ⟨s', _, X', B.mono q2.1, hZ, hown, rfl, Nat.le_trans r1 q2.1, Fr.app r2 q1, r3.trans q2 hws⟩ q2 q3).step fun t q => stp.trans q
theorem k_callP {y : MethodName} {Cn : String} {index W maxL : Nat} {bytes : ByteArray} {rt : Option FieldType} {rm : Room} {as : Array Value} {ws' : List Addr} {Q : Option Value → Heap → Prop} (C : KCx tbl nm cod ml ret p meth c Z a0) (P : KPos wd p l e R s m args below meth c Z own n0 h0 ws T h cells slots)
    (w1 : (Jvm.Cond.methodLink own index y).before a0 Z = true) (w2 : (Jvm.Cond.instanceMethod y).before a0 Z = true) (wsel : (Jvm.Cond.selects y.cls y y).before a0 Z = true) (wp : (Jvm.Cond.privateMethod y).before a0 Z = true) (w3 : (Jvm.Cond.code y bytes maxL rt).before a0 Z = true) (w4 : (Jvm.Cond.initialized y.cls).before a0 Z = true) (hy : y.cls ≠ "java/lang/invoke/MethodHandle" ∧ y.cls ≠ "java/lang/invoke/VarHandle")
    (hM : KCt false l y bytes maxL rt rm Z n0 h as ws' Q) (E : Exa Z h a Cn) (argsL rest : List Value) (has : as = (.ref a :: argsL).toArray) (hlen : ∀ sig, parseMethodDescriptor y.desc = some sig → argsL.length = sig.parameters.length) (hst : st = argsL.reverse ++ .ref a :: rest) (hW : (rest.map fun v => v.category).sum ≤ W)
    (hd : decode cod pc = .ok (.invokevirtual index, 3)) (hsz : Ls.size = ml) (hf : rm.frames + 1 ≤ R.frames) (hl : W + (maxL + 11) + rm.locals ≤ R.locals) {cells' slots' : Nat} (hc : cells + rm.cells = cells') (hs : slots + rm.slots = slots') (hc' : cells' ≤ R.cells) (hs' : slots' ≤ R.slots) (hws : ∀ x ∈ ws', x ∈ ws ∨ h0.size ≤ x) {pc' : Nat} (hp : pc + 3 = pc')
    (k' : ∀ T' h' v, KPos wd p l e R s m args below meth c Z own n0 h0 ws T' h' cells' slots' → Keep h h' ws' → Q v h' → KGo p e below K T' m pc' Ls (v.toList ++ rest)) : KGo p e below K T m pc Ls st := by
  subst hp hc hs has
  obtain ⟨s', L, X, B, hZ, hown, eT, r1, r2, r3⟩ := P
  obtain ⟨cq, qa, qb⟩ := E.cell
  obtain ⟨v, _, ⟨T', L', k1, n1⟩, -, X', ⟨Lc, ⟨q1, q2, q3⟩, l1, y1, z1⟩, stp⟩ := X.privateBack C.1 (y := y) hown (mvT hZ w1) (mvT hZ w2) (mvT hZ wsel) (Cond.privateMethod_at (mvP hZ wp (args := #[]))) (mvT hZ w3) hy (backOf (W := W) (Q := fun v h' L => Fr n0 L ∧ Keep h h' ws' ∧ Q v h') hM.plain hZ w3 w4 hf hl) (g := mkF m pc Ls st) rfl (hsz.trans C.mlE.symm) (Steps.refl _) (a := a) (by rw [eT]; exact qa) qb (argsL := argsL) (rest := rest) hlen hst (by show 2 * 0 + _ ≤ _; rw [Nat.mul_zero, Nat.zero_add]; exact hW) (hb C.cdE hd) (fun _ _ => ⟨rfl, eT, hc', hs'⟩)
  dsimp only [Pt.U, Pt.locs, Pt.cells, Pt.slots] at X' l1 y1 z1 stp q2 q3
  subst l1 y1 z1
  exact (k' T' T'.heap v ⟨s', _, X', B.mono q2.1, hZ, hown, rfl, Nat.le_trans r1 q2.1, Fr.app r2 q1, r3.trans q2 hws⟩ q2 q3).step fun t q => stp.trans q
theorem k_callT {y : MethodName} {index W maxL : Nat} {bytes : ByteArray} {rt : Option FieldType} {rm : Room} {as : Array Value} {ws' : List Addr} {Q : Option Value → Heap → Prop} (C : KCx tbl nm cod ml ret p meth c Z a0) (P : KPos wd p l e R s m args below meth c Z own n0 h0 ws T h cells slots)
    (w1 : (Jvm.Cond.methodLink own index y).before a0 Z = true) (w2 : (Jvm.Cond.static y).before a0 Z = true) (w3 : (Jvm.Cond.code y bytes maxL rt).before a0 Z = true) (w4 : (Jvm.Cond.initialized y.cls).before a0 Z = true) (hy : y.cls ≠ "java/lang/invoke/MethodHandle" ∧ y.cls ≠ "java/lang/invoke/VarHandle")
    (hM : KCt false l y bytes maxL rt rm Z n0 h as ws' Q) (argsL rest : List Value) (has : as = argsL.toArray) (hlen : ∀ sig, parseMethodDescriptor y.desc = some sig → argsL.length = sig.parameters.length) (hst : st = argsL.reverse ++ rest) (hW : (rest.map fun v => v.category).sum ≤ W)
    (hd : decode cod pc = .ok (.invokestatic index, 3)) (hsz : Ls.size = ml) (hf : rm.frames + 1 ≤ R.frames) (hl : W + (maxL + 11) + rm.locals ≤ R.locals) {cells' slots' : Nat} (hc : cells + rm.cells = cells') (hs : slots + rm.slots = slots') (hc' : cells' ≤ R.cells) (hs' : slots' ≤ R.slots) (hws : ∀ x ∈ ws', x ∈ ws ∨ h0.size ≤ x) {pc' : Nat} (hp : pc + 3 = pc')
    (k' : ∀ T' h' v, KPos wd p l e R s m args below meth c Z own n0 h0 ws T' h' cells' slots' → Keep h h' ws' → Q v h' → KGo p e below K T' m pc' Ls (v.toList ++ rest)) : KGo p e below K T m pc Ls st := by
  subst hp hc hs has
  obtain ⟨s', L, X, B, hZ, hown, eT, r1, r2, r3⟩ := P
  obtain ⟨v, _, ⟨T', L', k1, n1⟩, -, X', ⟨Lc, ⟨q1, q2, q3⟩, l1, y1, z1⟩, stp⟩ := Jvm.LawKit.callS X C.1 (y := y) hown (mvT hZ w1) (mvT hZ w2) (mvT hZ w4) (mvT hZ w3) hy (backOf (W := W) (Q := fun v h' L => Fr n0 L ∧ Keep h h' ws' ∧ Q v h') hM.plain hZ w3 w4 hf hl) (g := mkF m pc Ls st) rfl (hsz.trans C.mlE.symm) (argsL := argsL) (rest := rest) hlen hst (by show 2 * 0 + _ ≤ _; rw [Nat.mul_zero, Nat.zero_add]; exact hW) (hb C.cdE hd) (fun _ _ => ⟨rfl, eT, hc', hs'⟩)
  dsimp only [Pt.U, Pt.locs, Pt.cells, Pt.slots] at X' l1 y1 z1 stp q2 q3
  subst l1 y1 z1
  exact (k' T' T'.heap v ⟨s', _, X', B.mono q2.1, hZ, hown, rfl, Nat.le_trans r1 q2.1, Fr.app r2 q1, r3.trans q2 hws⟩ q2 q3).step stp
end Kit
end Jvm.OwnKit
namespace Jvm.OwnNum
theorem toInt {x : Int32} {n : Nat} (h : x.toBitVec.toNat = n) (hn : n < 2147483648) : x.toInt = (n : Int) := by
  show x.toBitVec.toInt = _
  rw [BitVec.toInt_eq_toNat_cond, if_pos (by omega), h]
theorem toNat {x : Int32} {n : Nat} (h : x.toInt = (n : Int)) : x.toBitVec.toNat = n := by
  have := x.toBitVec.isLt
  change x.toBitVec.toInt = _ at h
  rw [BitVec.toInt_eq_toNat_cond] at h
  split at h <;> omega
theorem small {x : Int32} {n : Nat} (h : x.toInt = (n : Int)) : n < 2147483648 := by have := Int32.toInt_lt x; omega
/-- x & m, m not negative -/
theorem mask (x m : Int32) {M : Nat} (hm : m.toInt = (M : Int)) : ∃ N : Nat, (x &&& m).toInt = (N : Int) ∧ N ≤ M := by
  have h1 := toNat hm
  have h2 : (x &&& m).toBitVec.toNat ≤ M := by rw [Int32.toBitVec_and, BitVec.toNat_and, h1]; exact Nat.and_le_right
  have h3 := small hm
  exact ⟨_, toInt rfl (by omega), h2⟩
theorem add {x y : Int32} {X Y : Nat} (hx : x.toInt = (X : Int)) (hy : y.toInt = (Y : Int)) (h : X + Y < 2147483648) : (x + y).toInt = ((X + Y : Nat) : Int) := by
  refine toInt ?_ h
  rw [Int32.toBitVec_add, BitVec.toNat_add, toNat hx, toNat hy]; omega
theorem rem {x y : Int32} {X Y : Nat} (hx : x.toInt = (X : Int)) (hy : y.toInt = (Y : Int)) (h : 0 < Y) : (x % y).toInt = ((X % Y : Nat) : Int) := by
  rw [(Jvm.RoadKit.c_irem x y Y hy).1 (by omega), hx]; rfl
theorem ne0 {y : Int32} {Y : Nat} (hy : y.toInt = (Y : Int)) (h : 0 < Y) : y ≠ 0 := fun e => by subst e; have : (0 : Int32).toInt = 0 := rfl; omega
theorem eq_iff {x y : Int32} {X Y : Nat} (hx : x.toInt = (X : Int)) (hy : y.toInt = (Y : Int)) : x = y ↔ X = Y := by
  rw [← Int32.toInt_inj, hx, hy]; omega
theorem lt_iff {x y : Int32} {X Y : Nat} (hx : x.toInt = (X : Int)) (hy : y.toInt = (Y : Int)) : x < y ↔ X < Y := by
  rw [Int32.lt_iff_toInt_lt, hx, hy]; omega
end Jvm.OwnNum

namespace Jvm.Pilot.@@N@@
open Jvm Jvm.ClassFile Sem Op Lib Jvm.Free Jvm.Stand Jvm.LawKit Jvm.RoadKit Jvm.OwnKit Bundle Jvm.Pilot.@@N@@.Jvm.D
theorem d1_0 : decode prog_291_method_1_code 0 = .ok (.aload_n 0, 1) := by decide +kernel
theorem d1_1 : decode prog_291_method_1_code 1 = .ok (.invokespecial 1, 3) := by decide +kernel
theorem d1_4 : decode prog_291_method_1_code 4 = .ok (.aload_n 0, 1) := by decide +kernel
theorem d1_5 : decode prog_291_method_1_code 5 = .ok (.iconst 1, 1) := by decide +kernel
theorem d1_6 : decode prog_291_method_1_code 6 = .ok (.putfield 7, 3) := by decide +kernel
theorem d1_9 : decode prog_291_method_1_code 9 = .ok (.aload_n 0, 1) := by decide +kernel
theorem d1_10 : decode prog_291_method_1_code 10 = .ok (.iconst 1, 1) := by decide +kernel
theorem d1_11 : decode prog_291_method_1_code 11 = .ok (.iload_n 1, 1) := by decide +kernel
theorem d1_12 : decode prog_291_method_1_code 12 = .ok (.invokestatic 13, 3) := by decide +kernel
theorem d1_15 : decode prog_291_method_1_code 15 = .ok (.newarray .int, 2) := by decide +kernel
theorem d1_17 : decode prog_291_method_1_code 17 = .ok (.putfield 19, 3) := by decide +kernel
theorem d1_20 : decode prog_291_method_1_code 20 = .ok (.return_, 1) := by decide +kernel
theorem d3_0 : decode jdk_29_method_65_code 0 = .ok (.iload_n 0, 1) := by decide +kernel
theorem d3_1 : decode jdk_29_method_65_code 1 = .ok (.iload_n 1, 1) := by decide +kernel
theorem d3_2 : decode jdk_29_method_65_code 2 = .ok (.if_icmp .lt 7, 3) := by decide +kernel
theorem d3_5 : decode jdk_29_method_65_code 5 = .ok (.iload_n 0, 1) := by decide +kernel
theorem d3_6 : decode jdk_29_method_65_code 6 = .ok (.goto 4, 3) := by decide +kernel
theorem d3_9 : decode jdk_29_method_65_code 9 = .ok (.iload_n 1, 1) := by decide +kernel
theorem d3_10 : decode jdk_29_method_65_code 10 = .ok (.ireturn, 1) := by decide +kernel
theorem d4_0 : decode prog_291_method_4_code 0 = .ok (.aload_n 0, 1) := by decide +kernel
theorem d4_1 : decode prog_291_method_4_code 1 = .ok (.getfield 19, 3) := by decide +kernel
theorem d4_4 : decode prog_291_method_4_code 4 = .ok (.iload_n 1, 1) := by decide +kernel
theorem d4_5 : decode prog_291_method_4_code 5 = .ok (.iaload, 1) := by decide +kernel
theorem d4_6 : decode prog_291_method_4_code 6 = .ok (.aload_n 0, 1) := by decide +kernel
theorem d4_7 : decode prog_291_method_4_code 7 = .ok (.getfield 7, 3) := by decide +kernel
theorem d4_10 : decode prog_291_method_4_code 10 = .ok (.if_icmp .ne 5, 3) := by decide +kernel
theorem d4_13 : decode prog_291_method_4_code 13 = .ok (.iconst 0, 1) := by decide +kernel
theorem d4_14 : decode prog_291_method_4_code 14 = .ok (.ireturn, 1) := by decide +kernel
theorem d4_15 : decode prog_291_method_4_code 15 = .ok (.aload_n 0, 1) := by decide +kernel
theorem d4_16 : decode prog_291_method_4_code 16 = .ok (.getfield 19, 3) := by decide +kernel
theorem d4_19 : decode prog_291_method_4_code 19 = .ok (.iload_n 1, 1) := by decide +kernel
theorem d4_20 : decode prog_291_method_4_code 20 = .ok (.aload_n 0, 1) := by decide +kernel
theorem d4_21 : decode prog_291_method_4_code 21 = .ok (.getfield 7, 3) := by decide +kernel
theorem d4_24 : decode prog_291_method_4_code 24 = .ok (.iastore, 1) := by decide +kernel
theorem d4_25 : decode prog_291_method_4_code 25 = .ok (.aload_n 0, 1) := by decide +kernel
theorem d4_26 : decode prog_291_method_4_code 26 = .ok (.dup, 1) := by decide +kernel
theorem d4_27 : decode prog_291_method_4_code 27 = .ok (.getfield 36, 3) := by decide +kernel
theorem d4_30 : decode prog_291_method_4_code 30 = .ok (.iconst 1, 1) := by decide +kernel
theorem d4_31 : decode prog_291_method_4_code 31 = .ok (.iadd, 1) := by decide +kernel
theorem d4_32 : decode prog_291_method_4_code 32 = .ok (.putfield 36, 3) := by decide +kernel
theorem d4_35 : decode prog_291_method_4_code 35 = .ok (.iconst 1, 1) := by decide +kernel
theorem d4_36 : decode prog_291_method_4_code 36 = .ok (.ireturn, 1) := by decide +kernel
theorem d5_0 : decode prog_291_method_6_code 0 = .ok (.aload_n 0, 1) := by decide +kernel
theorem d5_1 : decode prog_291_method_6_code 1 = .ok (.getfield 36, 3) := by decide +kernel
theorem d5_4 : decode prog_291_method_6_code 4 = .ok (.ireturn, 1) := by decide +kernel
theorem d6_0 : decode prog_291_method_5_code 0 = .ok (.aload_n 0, 1) := by decide +kernel
theorem d6_1 : decode prog_291_method_5_code 1 = .ok (.getfield 19, 3) := by decide +kernel
theorem d6_4 : decode prog_291_method_5_code 4 = .ok (.iload_n 1, 1) := by decide +kernel
theorem d6_5 : decode prog_291_method_5_code 5 = .ok (.iaload, 1) := by decide +kernel
theorem d6_6 : decode prog_291_method_5_code 6 = .ok (.aload_n 0, 1) := by decide +kernel
theorem d6_7 : decode prog_291_method_5_code 7 = .ok (.getfield 7, 3) := by decide +kernel
theorem d6_10 : decode prog_291_method_5_code 10 = .ok (.if_icmp .ne 7, 3) := by decide +kernel
theorem d6_13 : decode prog_291_method_5_code 13 = .ok (.iconst 1, 1) := by decide +kernel
theorem d6_14 : decode prog_291_method_5_code 14 = .ok (.goto 4, 3) := by decide +kernel
theorem d6_17 : decode prog_291_method_5_code 17 = .ok (.iconst 0, 1) := by decide +kernel
theorem d6_18 : decode prog_291_method_5_code 18 = .ok (.ireturn, 1) := by decide +kernel
theorem d7_0 : decode prog_291_method_3_code 0 = .ok (.aload_n 0, 1) := by decide +kernel
theorem d7_1 : decode prog_291_method_3_code 1 = .ok (.getfield 7, 3) := by decide +kernel
theorem d7_4 : decode prog_291_method_3_code 4 = .ok (.ldc 31, 2) := by decide +kernel
theorem d7_6 : decode prog_291_method_3_code 6 = .ok (.if_icmp .ne 16, 3) := by decide +kernel
theorem d7_22 : decode prog_291_method_3_code 22 = .ok (.aload_n 0, 1) := by decide +kernel
theorem d7_23 : decode prog_291_method_3_code 23 = .ok (.dup, 1) := by decide +kernel
theorem d7_24 : decode prog_291_method_3_code 24 = .ok (.getfield 7, 3) := by decide +kernel
theorem d7_27 : decode prog_291_method_3_code 27 = .ok (.iconst 1, 1) := by decide +kernel
theorem d7_28 : decode prog_291_method_3_code 28 = .ok (.iadd, 1) := by decide +kernel
theorem d7_29 : decode prog_291_method_3_code 29 = .ok (.putfield 7, 3) := by decide +kernel
theorem d7_32 : decode prog_291_method_3_code 32 = .ok (.aload_n 0, 1) := by decide +kernel
theorem d7_33 : decode prog_291_method_3_code 33 = .ok (.iconst 0, 1) := by decide +kernel
theorem d7_34 : decode prog_291_method_3_code 34 = .ok (.putfield 36, 3) := by decide +kernel
theorem d7_37 : decode prog_291_method_3_code 37 = .ok (.return_, 1) := by decide +kernel
theorem pd_0 : parseMethodDescriptor "(II)I" = some ⟨[.int, .int], some .int⟩ := by decide +kernel
theorem pd_1 : parseMethodDescriptor "(I)V" = some ⟨[.int], none⟩ := by decide +kernel
theorem pd_2 : parseMethodDescriptor "(I)Z" = some ⟨[.int], some .boolean⟩ := by decide +kernel
theorem pd_3 : parseMethodDescriptor "()I" = some ⟨[], some .int⟩ := by decide +kernel
theorem pd_4 : parseMethodDescriptor "()V" = some ⟨[], none⟩ := by decide +kernel
abbrev layV : List (String × String × String) := [("com/example/outrigger/outrigger/VectorGraph$Visited", "marks", "[I"), ("com/example/outrigger/outrigger/VectorGraph$Visited", "clearing", "I"), ("com/example/outrigger/outrigger/VectorGraph$Visited", "count", "I")]
theorem lokV {Z : State} {a0 : Array Value} (hw : ∀ d ∈ tables_1, d.before a0 Z = true) : KLay Z a0 "com/example/outrigger/outrigger/VectorGraph$Visited" layV := ⟨(List.forall_mem_cons.mpr ⟨⟨Or.inl (hw _ (List.mem_of_getElem? (i := 18) rfl)), by decide⟩, (List.forall_mem_cons.mpr ⟨⟨Or.inl (hw _ (List.mem_of_getElem? (i := 11) rfl)), by decide⟩, (List.forall_mem_cons.mpr ⟨⟨Or.inl (hw _ (List.mem_of_getElem? (i := 25) rfl)), by decide⟩, (by simp)⟩)⟩)⟩), by decide⟩

theorem own_max1 {x : Int32} {N : Nat} (hN : x.toInt = (N : Int)) (h : 0 < N) (q : ¬ (1 : Int32) < x) : 1 = x := by
  rw [OwnNum.lt_iff (show (1 : Int32).toInt = ((1 : Nat) : Int) from rfl) hN] at q
  exact (OwnNum.eq_iff (show (1 : Int32).toInt = ((1 : Nat) : Int) from rfl) hN).mpr (by omega)
theorem own_size (p : Int32) : ∃ N : Nat, ((p &&& (7 : Int32)) + (1 : Int32)).toInt = (N : Int) ∧ 0 < N ∧ N ≤ 8 := by
  obtain ⟨M, h1, h2⟩ := OwnNum.mask p 7 (M := 7) rfl
  exact ⟨M + 1, OwnNum.add h1 (show (1 : Int32).toInt = ((1 : Nat) : Int) from rfl) (by omega), by omega, by omega⟩
theorem own_idx (p : Int32) {sz : Int32} {N : Nat} (hN : sz.toInt = (N : Int)) (h : 0 < N) : ∃ X : Nat, ((p &&& (2147483647 : Int32)) % sz).toInt = (X : Int) ∧ X < N := by
  obtain ⟨M, h1, h2⟩ := OwnNum.mask p 2147483647 (M := 2147483647) rfl
  exact ⟨M % N, OwnNum.rem h1 hN h, Nat.mod_lt _ h⟩
theorem own_t2 {P : Prop} [Decidable P] (q : (if P then (0 : Int32) else 1) = 0) : P := by
  by_cases p : P
  · exact p
  · rw [if_neg p] at q; exact absurd q (by decide)
theorem own_t3 {P : Prop} [Decidable P] (q : ¬ (if P then (0 : Int32) else 1) = 0) (r : P) : False := by rw [if_pos r] at q; exact q rfl
theorem own_cnt (P Q : Prop) [Decidable P] [Decidable Q] : (1 + (if P then (0 : Int32) else 1) + (if Q then (0 : Int32) else 1)) = ((1 + (if P then (0 : Int32) else 1)) + (if Q then (0 : Int32) else 1)) := rfl
theorem own_last (P : Prop) [Decidable P] : (if P then (1 : Int32) else 0) = (if ¬ P then (0 : Int32) else 1) := by by_cases p : P <;> simp [p]
section Adds
variable {x y z u : Int32} {X Y Zn Un N : Nat} (hX : x.toInt = (X : Int)) (hY : y.toInt = (Y : Int)) (hZ : z.toInt = (Zn : Int)) (hU : u.toInt = (Un : Int))
theorem own_add0 {x y z : Int32} {X Y Zn N : Nat} (hX : x.toInt = (X : Int)) (hY : y.toInt = (Y : Int)) (hZ : z.toInt = (Zn : Int)) : (((0 : Int32) = 1) → 0 = (1 : Int32) ∧ (0 : Int32) = 1 ∧ ∀ j, j < N → (0 : Int32) = (if j = X then 1 else 0)) ∧ (¬ ((0 : Int32) = 1) → 1 = (1 : Int32) ∧ (0 : Int32) + 1 = 1 ∧ ∀ j, j < N → (if j = X then (1 : Int32) else 0) = (if j = X then 1 else 0)) :=
  ⟨fun q => absurd q (by decide), fun _ => ⟨rfl, rfl, fun _ _ => rfl⟩⟩
theorem own_add1 {x y z : Int32} {X Y Zn N : Nat} (hX : x.toInt = (X : Int)) (hY : y.toInt = (Y : Int)) (hZ : z.toInt = (Zn : Int)) : ((if Y = X then (1 : Int32) else 0) = 1 → 0 = (if y = x then (0 : Int32) else 1) ∧ (1 : Int32) = (1 + (if y = x then (0 : Int32) else 1)) ∧ ∀ j, j < N → (if j = X then (1 : Int32) else 0) = (if j = X ∨ j = Y then 1 else 0)) ∧
    (¬ (if Y = X then (1 : Int32) else 0) = 1 → 1 = (if y = x then (0 : Int32) else 1) ∧ (1 : Int32) + 1 = (1 + (if y = x then (0 : Int32) else 1)) ∧ ∀ j, j < N → (if j = Y then (1 : Int32) else (if j = X then 1 else 0)) = (if j = X ∨ j = Y then 1 else 0)) := by
  simp only [OwnNum.eq_iff hY hX]
  by_cases e : Y = X
  · subst e; simp
  · simp only [e, if_false]; refine ⟨fun q => absurd q (by decide), fun _ => ⟨by decide, by decide, fun j _ => ?_⟩⟩
    by_cases a : j = X <;> by_cases b : j = Y <;> simp [a, b]
theorem own_add2 {x y z : Int32} {X Y Zn N : Nat} (hX : x.toInt = (X : Int)) (hY : y.toInt = (Y : Int)) (hZ : z.toInt = (Zn : Int)) : ((if Zn = X ∨ Zn = Y then (1 : Int32) else 0) = 1 → 0 = (if z = x ∨ z = y then (0 : Int32) else 1) ∧ (1 + (if y = x then (0 : Int32) else 1)) = (1 + (if y = x then (0 : Int32) else 1) + (if z = x ∨ z = y then (0 : Int32) else 1)) ∧ ∀ j, j < N → (if j = X ∨ j = Y then (1 : Int32) else 0) = (if j = X ∨ j = Y ∨ j = Zn then 1 else 0)) ∧
    (¬ (if Zn = X ∨ Zn = Y then (1 : Int32) else 0) = 1 → 1 = (if z = x ∨ z = y then (0 : Int32) else 1) ∧ (1 + (if y = x then (0 : Int32) else 1)) + 1 = (1 + (if y = x then (0 : Int32) else 1) + (if z = x ∨ z = y then (0 : Int32) else 1)) ∧ ∀ j, j < N → (if j = Zn then (1 : Int32) else (if j = X ∨ j = Y then 1 else 0)) = (if j = X ∨ j = Y ∨ j = Zn then 1 else 0)) := by
  have hz : (z = x ∨ z = y) ↔ (Zn = X ∨ Zn = Y) := by rw [OwnNum.eq_iff hZ hX, OwnNum.eq_iff hZ hY]
  by_cases e : Zn = X ∨ Zn = Y
  · rw [if_pos (hz.mpr e), if_pos e]
    refine ⟨fun _ => ⟨rfl, by simp, fun j _ => ?_⟩, fun q => absurd rfl q⟩
    rcases e with rfl | rfl
    · by_cases a : j = Zn <;> by_cases b : j = Y <;> simp [a, b]
    · by_cases a : j = X <;> by_cases b : j = Zn <;> simp [a, b]
  · rw [if_neg (fun q => e (hz.mp q)), if_neg e]
    refine ⟨fun q => absurd q (by decide), fun _ => ⟨rfl, rfl, fun j _ => ?_⟩⟩
    by_cases a : j = X <;> by_cases b : j = Y <;> by_cases c : j = Zn <;> simp [a, b, c]
theorem own_add3 {x y z : Int32} {X Y Zn N : Nat} (hX : x.toInt = (X : Int)) (hY : y.toInt = (Y : Int)) (hZ : z.toInt = (Zn : Int)) : ((if X = X ∨ X = Y ∨ X = Zn then (1 : Int32) else 0) = (1 + 1 : Int32) → 0 = (1 : Int32) ∧ (0 : Int32) = 1 ∧ ∀ j, j < N → (if j = X ∨ j = Y ∨ j = Zn then (1 : Int32) else 0) = (if j = X then 2 else if j = X ∨ j = Y ∨ j = Zn then 1 else 0)) ∧
    (¬ (if X = X ∨ X = Y ∨ X = Zn then (1 : Int32) else 0) = (1 + 1 : Int32) → 1 = (1 : Int32) ∧ (0 : Int32) + 1 = 1 ∧ ∀ j, j < N → (if j = X then (1 + 1 : Int32) else (if j = X ∨ j = Y ∨ j = Zn then 1 else 0)) = (if j = X then 2 else if j = X ∨ j = Y ∨ j = Zn then 1 else 0)) := by
  refine ⟨fun q => ?_, fun _ => ⟨rfl, rfl, fun _ _ => rfl⟩⟩
  rw [if_pos (Or.inl rfl)] at q; exact absurd q (by decide)
theorem own_has1 {x y z u : Int32} {X Y Zn Un : Nat} (hX : x.toInt = (X : Int)) (hY : y.toInt = (Y : Int)) (hZ : z.toInt = (Zn : Int)) (hU : u.toInt = (Un : Int)) : ((if Un = X ∨ Un = Y ∨ Un = Zn then (1 : Int32) else 0) = 1 → 1 = (if u = x ∨ u = y ∨ u = z then (1 : Int32) else 0)) ∧ (¬ (if Un = X ∨ Un = Y ∨ Un = Zn then (1 : Int32) else 0) = 1 → 0 = (if u = x ∨ u = y ∨ u = z then (1 : Int32) else 0)) := by
  have hz : (u = x ∨ u = y ∨ u = z) ↔ (Un = X ∨ Un = Y ∨ Un = Zn) := by rw [OwnNum.eq_iff hU hX, OwnNum.eq_iff hU hY, OwnNum.eq_iff hU hZ]
  by_cases e : Un = X ∨ Un = Y ∨ Un = Zn
  · rw [if_pos (hz.mpr e), if_pos e]; exact ⟨fun _ => rfl, fun q => absurd rfl q⟩
  · rw [if_neg (fun q => e (hz.mp q)), if_neg e]; exact ⟨fun q => absurd q (by decide), fun _ => rfl⟩
theorem own_has2 {x y : Int32} {X Y Zn : Nat} (hX : x.toInt = (X : Int)) (hY : y.toInt = (Y : Int)) : ((if Y = X then (2 : Int32) else if Y = X ∨ Y = Y ∨ Y = Zn then 1 else 0) = (1 + 1 : Int32) → 1 = (if y = x then (1 : Int32) else 0)) ∧ (¬ (if Y = X then (2 : Int32) else if Y = X ∨ Y = Y ∨ Y = Zn then 1 else 0) = (1 + 1 : Int32) → 0 = (if y = x then (1 : Int32) else 0)) := by
  have hz := OwnNum.eq_iff hY hX
  by_cases e : Y = X
  · rw [if_pos (hz.mpr e), if_pos e]; exact ⟨fun _ => rfl, fun q => absurd rfl q⟩
  · rw [if_neg (fun q => e (hz.mp q)), if_neg e, if_pos (Or.inr (Or.inl rfl))]; exact ⟨fun q => absurd q (by decide), fun _ => rfl⟩
end Adds
theorem ef_rmMax (m : MethodId) (x0 : Int32) (x1 : Int32) : entryFrame m #[(.int x0), (.int x1)] 2 = mkF m 0 #[.val (.int x0), .val (.int x1)] [] := by first | (simp [entryFrame, mkF, argsToLocals, Value.category]; done) | rfl
set_option maxRecDepth 65536 in
set_option maxHeartbeats 40000000 in
theorem rmMax (l : Launch) (Z : State) (a0 : Array Value) (hw : ∀ d ∈ tables_1, d.before a0 Z = true) (h0 : Heap) (n0 : Nat) (Z0 : n0 ≤ h0.size) (x y r : Int32) (h1 : x < y → y = r) (h2 : ¬ x < y → x = r) :
    KCt false l (⟨"java/lang/Math", "max", "(II)I"⟩ : MethodName) jdk_29_method_65_code 2 (some .int) ({ frames := 0, cells := 0, slots := 0, locals := 0 } : Room) Z n0 h0 #[(.int x), (.int y)] [] (fun v h => v = some (.int r) ∧ h0 = h) := by
  refine k_enter (tbl := tables_1) (a0 := a0) (Ls := #[.val (.int x), .val (.int y)]) (Jvm.Free.JP.mathPlain rfl (by decide +kernel)) hw Z0 (fun m => ef_rmMax m x y) ?_
  intro p e s m below meth c T C P
  refine k_iloadN (pc' := 1) C P d3_0 rfl rfl ?_
  refine k_iloadN (pc' := 2) C P d3_1 rfl rfl ?_
  refine k_icB (pcY := 9) (pcN := 5) C P d3_2 (by decide) (by decide) rfl ?_ ?_
  · intro (hc2 : x < y)
    refine k_iloadN (pc' := 10) C P d3_9 rfl rfl ?_
    exact k_retI C P d3_10 (by decide) (by decide) ⟨by rw [h1 hc2], rfl⟩
  · intro (hc2 : ¬ x < y)
    refine k_iloadN (pc' := 6) C P d3_5 rfl rfl ?_
    refine k_goto (pc' := 10) C P d3_6 (by decide) (by decide) ?_
    exact k_retI C P d3_10 (by decide) (by decide) ⟨by rw [h2 hc2], rfl⟩
theorem pn_1 : plainName "com/example/outrigger/outrigger/VectorGraph$Visited" = true := by first | (simp [plainName, overriddenIn]; done) | decide +kernel
theorem ef_rm1 (m : MethodId) (x0 : Addr) (x1 : Int32) : entryFrame m #[(.ref x0), (.int x1)] 2 = mkF m 0 #[.val (.ref x0), .val (.int x1)] [] := by first | (simp [entryFrame, mkF, argsToLocals, Value.category]; done) | rfl
set_option maxRecDepth 65536 in
set_option maxHeartbeats 40000000 in
theorem rm1 (l : Launch) (Z : State) (a0 : Array Value) (hw : ∀ d ∈ tables_1, d.before a0 Z = true) (h0 : Heap) (n0 : Nat) (Z0 : n0 ≤ h0.size) (a : Addr) (x : Int32) (N : Nat) (hN : x.toInt = (N : Int)) (hN1 : 0 < N) (hN8 : N ≤ 8) (ge_a : n0 ≤ a) (F : KOb Z h0 a "com/example/outrigger/outrigger/VectorGraph$Visited" layV [.null, .int 0, .int 0]) :
    KCt false l (⟨"com/example/outrigger/outrigger/VectorGraph$Visited", "<init>", "(I)V"⟩ : MethodName) prog_291_method_1_code 2 none ({ frames := 1, cells := 1, slots := 8, locals := 15 } : Room) Z n0 h0 #[(.ref a), (.int x)] [a] (fun v h => v = none ∧ ∃ (b : Addr) (kk : ClassId), n0 ≤ b ∧ h0.size ≤ b ∧ a ≠ b ∧ KOb Z h a "com/example/outrigger/outrigger/VectorGraph$Visited" layV [.ref b, .int 1, .int 0] ∧ KVA Z h b kk .int N (fun _ => .int 0)) := by
  refine k_enter (tbl := tables_1) (a0 := a0) (Ls := #[.val (.ref a), .val (.int x)]) (plainFor_of_name pn_1) hw Z0 (fun m => ef_rm1 m a x) ?_
  intro p e s m below meth c T C P
  have sz_a : a ∈ [a] ∨ h0.size ≤ a := Or.inl (by simp)
  refine k_aloadN (pc' := 1) C P d1_0 rfl rfl rfl ?_
  refine k_initObj (pc' := 4) (W := 0) C P (C.w 7 rfl) (C.w 8 rfl) (C.w 9 rfl) d1_1 rfl (by decide) (by decide) (by decide) rfl ?_
  intro T1 P1
  refine k_aloadN (pc' := 5) C P1 d1_4 rfl rfl rfl ?_
  refine k_iconst (z := (1 : Int32)) (pc' := 6) C P1 d1_5 rfl rfl ?_
  refine k_putf (pc' := 9) (ty := .int) (v' := (.int (1 : Int32))) C P1 (C.w 10 rfl) Via.refl F 1 rfl (Or.inl (C.w 11 rfl)) (C.w 2 rfl) (by decide) rfl rfl d1_6 ge_a sz_a rfl ?_
  intro T2 h2 P2 W2
  have f2_a : KOb Z h2 a "com/example/outrigger/outrigger/VectorGraph$Visited" layV [.null, (.int (1 : Int32)), (.int (0 : Int32))] := F.put (lokV C.hw) 1 rfl W2 rfl
  refine k_aloadN (pc' := 10) C P2 d1_9 rfl rfl rfl ?_
  refine k_iconst (z := (1 : Int32)) (pc' := 11) C P2 d1_10 rfl rfl ?_
  refine k_iloadN (pc' := 12) C P2 d1_11 rfl rfl ?_
  refine k_callT (pc' := 15) (cells' := 0) (slots' := 0) (W := 1) C P2 (C.w 12 rfl) (C.w 13 rfl) (C.w 15 rfl) (C.w 14 rfl) (by decide) (rmMax l Z a0 hw _ n0 P2.size 1 x x (fun _ => rfl) (fun q => own_max1 hN hN1 q)) [(.int (1 : Int32)), (.int x)] [(.ref a)] rfl (lenOf pd_0 rfl) rfl (Nat.le_of_eq rfl) d1_12 rfl (by decide) (by decide) rfl rfl (by decide) (by decide) all0 rfl ?_
  intro T3 h3 v3 P3 K3 Q3
  obtain ⟨e3, g3⟩ := Q3
  subst g3
  subst e3
  show KGo p e below _ T3 m 15 #[.val (.ref a), .val (.int x)] [(.int x), (.ref a)]
  refine k_newp (pc' := 17) (cells' := 1) (slots' := 8) (N := N) (cap := 8) C P3 (C.w 16 rfl) d1_15 hN hN8 (by decide) rfl rfl (by decide) (by decide) rfl ?_
  intro T4 h4 b4 k4 P4 hs4 ge_b4 sz_b4 E4 V4
  have ne_a_b4 : a ≠ b4 := Nat.ne_of_lt (hs4 ▸ f2_a.lt)
  have f4_a := f2_a.ext E4
  refine k_putf (pc' := 20) (ty := (.array .int)) (v' := (.ref b4)) C P4 (C.w 17 rfl) Via.refl f4_a 0 rfl (Or.inl (C.w 18 rfl)) (C.w 2 rfl) (by decide) rfl rfl d1_17 ge_a sz_a rfl ?_
  intro T5 h5 P5 W5
  have f5_a : KOb Z h5 a "com/example/outrigger/outrigger/VectorGraph$Visited" layV [(.ref b4), (.int (1 : Int32)), (.int (0 : Int32))] := f4_a.put (lokV C.hw) 0 rfl W5 rfl
  have f5_b4 := V4.other W5 (Ne.symm ne_a_b4)
  exact k_retV C P5 d1_20 (by decide) (by decide) ⟨rfl, b4, _, ge_b4, sz_b4, ne_a_b4, f5_a, f5_b4⟩
theorem pn_4 : plainName "com/example/outrigger/outrigger/VectorGraph$Visited" = true := by first | (simp [plainName, overriddenIn]; done) | decide +kernel
theorem ef_rm4 (m : MethodId) (x0 : Addr) (x1 : Int32) : entryFrame m #[(.ref x0), (.int x1)] 2 = mkF m 0 #[.val (.ref x0), .val (.int x1)] [] := by first | (simp [entryFrame, mkF, argsToLocals, Value.category]; done) | rfl
set_option maxRecDepth 65536 in
set_option maxHeartbeats 40000000 in
theorem rm4 (l : Launch) (Z : State) (a0 : Array Value) (hw : ∀ d ∈ tables_1, d.before a0 Z = true) (h0 : Heap) (n0 : Nat) (Z0 : n0 ≤ h0.size) (a mk : Addr) (kk : ClassId) (N : Nat) (g : Nat → Int32) (q cnt : Int32) (F : KOb Z h0 a "com/example/outrigger/outrigger/VectorGraph$Visited" layV [.ref mk, .int q, .int cnt]) (V : KVA Z h0 mk kk .int N (fun j => .int (g j))) (x : Int32) (X : Nat) (hX : x.toInt = (X : Int)) (hXN : X < N) (ne_a_mk : a ≠ mk) (ge_a : n0 ≤ a) (ge_mk : n0 ≤ mk) (r cnt' : Int32) (g' : Nat → Int32) (h1 : g X = q → 0 = r ∧ cnt = cnt' ∧ ∀ j, j < N → g j = g' j) (h2 : ¬ g X = q → 1 = r ∧ cnt + 1 = cnt' ∧ ∀ j, j < N → (if j = X then q else g j) = g' j) :
    KCt false l (⟨"com/example/outrigger/outrigger/VectorGraph$Visited", "add", "(I)Z"⟩ : MethodName) prog_291_method_4_code 2 (some .boolean) ({ frames := 0, cells := 0, slots := 0, locals := 0 } : Room) Z n0 h0 #[(.ref a), (.int x)] [a, mk] (fun v h => v = some (.int r) ∧ KOb Z h a "com/example/outrigger/outrigger/VectorGraph$Visited" layV [.ref mk, .int q, .int cnt'] ∧ KVA Z h mk kk .int N (fun j => .int (g' j))) := by
  refine k_enter (tbl := tables_1) (a0 := a0) (Ls := #[.val (.ref a), .val (.int x)]) (plainFor_of_name pn_4) hw Z0 (fun m => ef_rm4 m a x) ?_
  intro p e s m below meth c T C P
  have sz_a : a ∈ [a, mk] ∨ h0.size ≤ a := Or.inl (by simp)
  have sz_mk : mk ∈ [a, mk] ∨ h0.size ≤ mk := Or.inl (by simp)
  refine k_aloadN (pc' := 1) C P d4_0 rfl rfl rfl ?_
  refine k_getf (pc' := 4) C P (C.w 17 rfl) Via.refl F 0 rfl rfl d4_1 rfl ?_
  intro T6 P6
  refine k_iloadN (pc' := 5) C P6 d4_4 rfl rfl ?_
  refine k_iaload (J := X) (v := (.int (g X))) (pc' := 6) C P6 V d4_5 hX hXN rfl rfl ?_
  refine k_aloadN (pc' := 7) C P6 d4_6 rfl rfl rfl ?_
  refine k_getf (pc' := 10) C P6 (C.w 10 rfl) Via.refl F 1 rfl rfl d4_7 rfl ?_
  intro T7 P7
  refine k_icB (pcY := 15) (pcN := 13) C P7 d4_10 (by decide) (by decide) rfl ?_ ?_
  · intro (hc10 : ¬ (g X) = q)
    refine k_aloadN (pc' := 16) C P7 d4_15 rfl rfl rfl ?_
    refine k_getf (pc' := 19) C P7 (C.w 17 rfl) Via.refl F 0 rfl rfl d4_16 rfl ?_
    intro T8 P8
    refine k_iloadN (pc' := 20) C P8 d4_19 rfl rfl ?_
    refine k_aloadN (pc' := 21) C P8 d4_20 rfl rfl rfl ?_
    refine k_getf (pc' := 24) C P8 (C.w 10 rfl) Via.refl F 1 rfl rfl d4_21 rfl ?_
    intro T9 P9
    refine k_iastore (J := X) (g' := (fun j => .int (if j = X then q else g j))) (pc' := 25) C P9 V d4_24 hX hXN (fun i _ => by by_cases e : i = X <;> simp [e]) ge_mk sz_mk rfl ?_
    intro T10 h10 P10 W10 V10
    have f10_a := F.other W10 ne_a_mk
    refine k_aloadN (pc' := 26) C P10 d4_25 rfl rfl rfl ?_
    refine k_dup (pc' := 27) C P10 d4_26 rfl rfl ?_
    refine k_getf (pc' := 30) C P10 (C.w 24 rfl) Via.refl f10_a 2 rfl rfl d4_27 rfl ?_
    intro T11 P11
    refine k_iconst (z := (1 : Int32)) (pc' := 31) C P11 d4_30 rfl rfl ?_
    refine k_iadd (pc' := 32) C P11 d4_31 rfl ?_
    refine k_putf (pc' := 35) (ty := .int) (v' := (.int (cnt + (1 : Int32)))) C P11 (C.w 24 rfl) Via.refl f10_a 2 rfl (Or.inl (C.w 25 rfl)) (C.w 2 rfl) (by decide) rfl rfl d4_32 ge_a sz_a rfl ?_
    intro T12 h12 P12 W12
    have f12_a : KOb Z h12 a "com/example/outrigger/outrigger/VectorGraph$Visited" layV [(.ref mk), (.int q), (.int (cnt + (1 : Int32)))] := f10_a.put (lokV C.hw) 2 rfl W12 rfl
    have f12_mk := V10.other W12 (Ne.symm ne_a_mk)
    refine k_iconst (z := (1 : Int32)) (pc' := 36) C P12 d4_35 rfl rfl ?_
    exact k_retZ (z' := (1 : Int32)) C P12 (by simp) d4_36 rfl (by decide) (by decide) ⟨by rw [(h2 hc10).1], (h2 hc10).2.1 ▸ f12_a, f12_mk.congr (fun j hj => by show (Value.int _) = _; rw [(h2 hc10).2.2 j hj])⟩
  · intro (hc10 : (g X) = q)
    refine k_iconst (z := (0 : Int32)) (pc' := 14) C P7 d4_13 rfl rfl ?_
    exact k_retZ (z' := (0 : Int32)) C P7 (by simp) d4_14 rfl (by decide) (by decide) ⟨by rw [(h1 hc10).1], (h1 hc10).2.1 ▸ F, V.congr (fun j hj => by rw [(h1 hc10).2.2 j hj])⟩
theorem pn_5 : plainName "com/example/outrigger/outrigger/VectorGraph$Visited" = true := by first | (simp [plainName, overriddenIn]; done) | decide +kernel
theorem ef_rm5 (m : MethodId) (x0 : Addr) : entryFrame m #[(.ref x0)] 1 = mkF m 0 #[.val (.ref x0)] [] := by first | (simp [entryFrame, mkF, argsToLocals, Value.category]; done) | rfl
set_option maxRecDepth 65536 in
set_option maxHeartbeats 40000000 in
theorem rm5 (l : Launch) (Z : State) (a0 : Array Value) (hw : ∀ d ∈ tables_1, d.before a0 Z = true) (h0 : Heap) (n0 : Nat) (Z0 : n0 ≤ h0.size) (a mk : Addr) (q cnt : Int32) (F : KOb Z h0 a "com/example/outrigger/outrigger/VectorGraph$Visited" layV [.ref mk, .int q, .int cnt]) :
    KCt false l (⟨"com/example/outrigger/outrigger/VectorGraph$Visited", "count", "()I"⟩ : MethodName) prog_291_method_6_code 1 (some .int) ({ frames := 0, cells := 0, slots := 0, locals := 0 } : Room) Z n0 h0 #[(.ref a)] [] (fun v h => v = some (.int cnt) ∧ h0 = h) := by
  refine k_enter (tbl := tables_1) (a0 := a0) (Ls := #[.val (.ref a)]) (plainFor_of_name pn_5) hw Z0 (fun m => ef_rm5 m a) ?_
  intro p e s m below meth c T C P
  refine k_aloadN (pc' := 1) C P d5_0 rfl rfl rfl ?_
  refine k_getf (pc' := 4) C P (C.w 24 rfl) Via.refl F 2 rfl rfl d5_1 rfl ?_
  intro T13 P13
  exact k_retI C P13 d5_4 (by decide) (by decide) ⟨rfl, rfl⟩
theorem pn_6 : plainName "com/example/outrigger/outrigger/VectorGraph$Visited" = true := by first | (simp [plainName, overriddenIn]; done) | decide +kernel
theorem ef_rm6 (m : MethodId) (x0 : Addr) (x1 : Int32) : entryFrame m #[(.ref x0), (.int x1)] 2 = mkF m 0 #[.val (.ref x0), .val (.int x1)] [] := by first | (simp [entryFrame, mkF, argsToLocals, Value.category]; done) | rfl
set_option maxRecDepth 65536 in
set_option maxHeartbeats 40000000 in
theorem rm6 (l : Launch) (Z : State) (a0 : Array Value) (hw : ∀ d ∈ tables_1, d.before a0 Z = true) (h0 : Heap) (n0 : Nat) (Z0 : n0 ≤ h0.size) (a mk : Addr) (kk : ClassId) (N : Nat) (g : Nat → Int32) (q cnt : Int32) (F : KOb Z h0 a "com/example/outrigger/outrigger/VectorGraph$Visited" layV [.ref mk, .int q, .int cnt]) (V : KVA Z h0 mk kk .int N (fun j => .int (g j))) (x : Int32) (X : Nat) (hX : x.toInt = (X : Int)) (hXN : X < N) (r : Int32) (h1 : g X = q → 1 = r) (h2 : ¬ g X = q → 0 = r) :
    KCt false l (⟨"com/example/outrigger/outrigger/VectorGraph$Visited", "contains", "(I)Z"⟩ : MethodName) prog_291_method_5_code 2 (some .boolean) ({ frames := 0, cells := 0, slots := 0, locals := 0 } : Room) Z n0 h0 #[(.ref a), (.int x)] [] (fun v h => v = some (.int r) ∧ h0 = h) := by
  refine k_enter (tbl := tables_1) (a0 := a0) (Ls := #[.val (.ref a), .val (.int x)]) (plainFor_of_name pn_6) hw Z0 (fun m => ef_rm6 m a x) ?_
  intro p e s m below meth c T C P
  refine k_aloadN (pc' := 1) C P d6_0 rfl rfl rfl ?_
  refine k_getf (pc' := 4) C P (C.w 17 rfl) Via.refl F 0 rfl rfl d6_1 rfl ?_
  intro T14 P14
  refine k_iloadN (pc' := 5) C P14 d6_4 rfl rfl ?_
  refine k_iaload (J := X) (v := (.int (g X))) (pc' := 6) C P14 V d6_5 hX hXN rfl rfl ?_
  refine k_aloadN (pc' := 7) C P14 d6_6 rfl rfl rfl ?_
  refine k_getf (pc' := 10) C P14 (C.w 10 rfl) Via.refl F 1 rfl rfl d6_7 rfl ?_
  intro T15 P15
  refine k_icB (pcY := 17) (pcN := 13) C P15 d6_10 (by decide) (by decide) rfl ?_ ?_
  · intro (hc10 : ¬ (g X) = q)
    refine k_iconst (z := (0 : Int32)) (pc' := 18) C P15 d6_17 rfl rfl ?_
    exact k_retZ (z' := (0 : Int32)) C P15 (by simp) d6_18 rfl (by decide) (by decide) ⟨by rw [← h2 hc10], rfl⟩
  · intro (hc10 : (g X) = q)
    refine k_iconst (z := (1 : Int32)) (pc' := 14) C P15 d6_13 rfl rfl ?_
    refine k_goto (pc' := 18) C P15 d6_14 (by decide) (by decide) ?_
    exact k_retZ (z' := (1 : Int32)) C P15 (by simp) d6_18 rfl (by decide) (by decide) ⟨by rw [← h1 hc10], rfl⟩
theorem pn_7 : plainName "com/example/outrigger/outrigger/VectorGraph$Visited" = true := by first | (simp [plainName, overriddenIn]; done) | decide +kernel
theorem ef_rm7 (m : MethodId) (x0 : Addr) : entryFrame m #[(.ref x0)] 1 = mkF m 0 #[.val (.ref x0)] [] := by first | (simp [entryFrame, mkF, argsToLocals, Value.category]; done) | rfl
set_option maxRecDepth 65536 in
set_option maxHeartbeats 40000000 in
theorem rm7 (l : Launch) (Z : State) (a0 : Array Value) (hw : ∀ d ∈ tables_1, d.before a0 Z = true) (h0 : Heap) (n0 : Nat) (Z0 : n0 ≤ h0.size) (a mk : Addr) (q cnt : Int32) (F : KOb Z h0 a "com/example/outrigger/outrigger/VectorGraph$Visited" layV [.ref mk, .int q, .int cnt]) (hq : ¬ q = 2147483647) (ge_a : n0 ≤ a) :
    KCt false l (⟨"com/example/outrigger/outrigger/VectorGraph$Visited", "clear", "()V"⟩ : MethodName) prog_291_method_3_code 1 none ({ frames := 0, cells := 0, slots := 0, locals := 0 } : Room) Z n0 h0 #[(.ref a)] [a] (fun v h => v = none ∧ KOb Z h a "com/example/outrigger/outrigger/VectorGraph$Visited" layV [.ref mk, .int (q + 1), .int 0]) := by
  refine k_enter (tbl := tables_1) (a0 := a0) (Ls := #[.val (.ref a)]) (plainFor_of_name pn_7) hw Z0 (fun m => ef_rm7 m a) ?_
  intro p e s m below meth c T C P
  have sz_a : a ∈ [a] ∨ h0.size ≤ a := Or.inl (by simp)
  refine k_aloadN (pc' := 1) C P d7_0 rfl rfl rfl ?_
  refine k_getf (pc' := 4) C P (C.w 10 rfl) Via.refl F 1 rfl rfl d7_1 rfl ?_
  intro T16 P16
  refine k_ldcI (pc' := 6) C P16 (C.w 41 rfl) d7_4 rfl ?_
  refine k_icY (pc' := 22) C P16 d7_6 hq (by decide) (by decide) ?_
  refine k_aloadN (pc' := 23) C P16 d7_22 rfl rfl rfl ?_
  refine k_dup (pc' := 24) C P16 d7_23 rfl rfl ?_
  refine k_getf (pc' := 27) C P16 (C.w 10 rfl) Via.refl F 1 rfl rfl d7_24 rfl ?_
  intro T17 P17
  refine k_iconst (z := (1 : Int32)) (pc' := 28) C P17 d7_27 rfl rfl ?_
  refine k_iadd (pc' := 29) C P17 d7_28 rfl ?_
  refine k_putf (pc' := 32) (ty := .int) (v' := (.int (q + (1 : Int32)))) C P17 (C.w 10 rfl) Via.refl F 1 rfl (Or.inl (C.w 11 rfl)) (C.w 2 rfl) (by decide) rfl rfl d7_29 ge_a sz_a rfl ?_
  intro T18 h18 P18 W18
  have f18_a : KOb Z h18 a "com/example/outrigger/outrigger/VectorGraph$Visited" layV [(.ref mk), (.int (q + (1 : Int32))), (.int cnt)] := F.put (lokV C.hw) 1 rfl W18 rfl
  refine k_aloadN (pc' := 33) C P18 d7_32 rfl rfl rfl ?_
  refine k_iconst (z := (0 : Int32)) (pc' := 34) C P18 d7_33 rfl rfl ?_
  refine k_putf (pc' := 37) (ty := .int) (v' := (.int (0 : Int32))) C P18 (C.w 24 rfl) Via.refl f18_a 2 rfl (Or.inl (C.w 25 rfl)) (C.w 2 rfl) (by decide) rfl rfl d7_34 ge_a sz_a rfl ?_
  intro T19 h19 P19 W19
  have f19_a : KOb Z h19 a "com/example/outrigger/outrigger/VectorGraph$Visited" layV [(.ref mk), (.int (q + (1 : Int32))), (.int (0 : Int32))] := f18_a.put (lokV C.hw) 2 rfl W19 rfl
  exact k_retV C P19 d7_37 (by decide) (by decide) ⟨rfl, f19_a⟩
theorem pn_0 : plainName "com/example/outrigger/outrigger/VisitedAddPinLaw" = true := by first | (simp [plainName, overriddenIn]; done) | decide +kernel
theorem ef_rm0 (m : MethodId) (x0 : Int32) (x1 : Int32) (x2 : Int32) (x3 : Int32) (x4 : Int32) : entryFrame m #[(.int x0), (.int x1), (.int x2), (.int x3), (.int x4)] maxLocals = mkF m 0 #[.val (.int x0), .val (.int x1), .val (.int x2), .val (.int x3), .val (.int x4), .unset, .unset, .unset, .unset, .unset, .unset, .unset, .unset, .unset, .unset, .unset, .unset, .unset, .unset] [] := by first | (simp [entryFrame, mkF, argsToLocals, Value.category, maxLocals]; done) | rfl
set_option maxRecDepth 65536 in
set_option maxHeartbeats 40000000 in
theorem rm0 (l : Launch) (Z : State) (a0 : Array Value) (hw : ∀ d ∈ tables_1, d.before a0 Z = true) (h0 : Heap) (n0 : Nat) (Z0 : n0 ≤ h0.size) (p0 p1 p2 p3 p4 : Int32) :
    KCt false l x code maxLocals ret room_1 Z n0 h0 #[(.int p0), (.int p1), (.int p2), (.int p3), (.int p4)] [] (fun v h => v = some (.int 1)) := by
  refine k_enter (tbl := tables_1) (a0 := a0) (Ls := #[.val (.int p0), .val (.int p1), .val (.int p2), .val (.int p3), .val (.int p4), .unset, .unset, .unset, .unset, .unset, .unset, .unset, .unset, .unset, .unset, .unset, .unset, .unset, .unset]) (plainFor_of_name pn_0) hw Z0 (fun m => ef_rm0 m p0 p1 p2 p3 p4) ?_
  intro p e s m below meth c T C P
  refine k_iloadN (pc' := 1) C P at_0 rfl rfl ?_
  refine k_bipush (z := (7 : Int32)) (pc' := 3) C P at_1 rfl rfl ?_
  refine k_iand (pc' := 4) C P at_3 rfl ?_
  refine k_iconst (z := (1 : Int32)) (pc' := 5) C P at_4 rfl rfl ?_
  refine k_iadd (pc' := 6) C P at_5 rfl ?_
  obtain ⟨sz, e_sz⟩ : ∃ z, z = ((p0 &&& (7 : Int32)) + (1 : Int32)) := ⟨_, rfl⟩
  rw [← e_sz]
  obtain ⟨N, hN, hN1, hN8⟩ : ∃ N : Nat, sz.toInt = (N : Int) ∧ 0 < N ∧ N ≤ 8 := by rw [e_sz]; exact own_size p0
  refine k_istore (l' := #[.val (.int p0), .val (.int p1), .val (.int p2), .val (.int p3), .val (.int p4), .val (.int sz), .unset, .unset, .unset, .unset, .unset, .unset, .unset, .unset, .unset, .unset, .unset, .unset, .unset]) (pc' := 8) C P at_6 rfl rfl ?_
  refine k_iloadN (pc' := 9) C P at_8 rfl rfl ?_
  refine k_ldcI (pc' := 11) C P (C.w 0 rfl) at_9 rfl ?_
  refine k_iand (pc' := 12) C P at_11 rfl ?_
  refine k_iload (pc' := 14) C P at_12 rfl rfl ?_
  refine k_irem (pc' := 15) C P at_14 (OwnNum.ne0 hN hN1) rfl ?_
  obtain ⟨x, e_x⟩ : ∃ z, z = ((p1 &&& (2147483647 : Int32)) % sz) := ⟨_, rfl⟩
  rw [← e_x]
  obtain ⟨X, hX, hXN⟩ : ∃ X : Nat, x.toInt = (X : Int) ∧ X < N := by rw [e_x]; exact own_idx p1 hN hN1
  refine k_istore (l' := #[.val (.int p0), .val (.int p1), .val (.int p2), .val (.int p3), .val (.int p4), .val (.int sz), .val (.int x), .unset, .unset, .unset, .unset, .unset, .unset, .unset, .unset, .unset, .unset, .unset, .unset]) (pc' := 17) C P at_15 rfl rfl ?_
  refine k_iloadN (pc' := 18) C P at_17 rfl rfl ?_
  refine k_ldcI (pc' := 20) C P (C.w 0 rfl) at_18 rfl ?_
  refine k_iand (pc' := 21) C P at_20 rfl ?_
  refine k_iload (pc' := 23) C P at_21 rfl rfl ?_
  refine k_irem (pc' := 24) C P at_23 (OwnNum.ne0 hN hN1) rfl ?_
  obtain ⟨y, e_y⟩ : ∃ z, z = ((p2 &&& (2147483647 : Int32)) % sz) := ⟨_, rfl⟩
  rw [← e_y]
  obtain ⟨Y, hY, hYN⟩ : ∃ X : Nat, y.toInt = (X : Int) ∧ X < N := by rw [e_y]; exact own_idx p2 hN hN1
  refine k_istore (l' := #[.val (.int p0), .val (.int p1), .val (.int p2), .val (.int p3), .val (.int p4), .val (.int sz), .val (.int x), .val (.int y), .unset, .unset, .unset, .unset, .unset, .unset, .unset, .unset, .unset, .unset, .unset]) (pc' := 26) C P at_24 rfl rfl ?_
  refine k_iloadN (pc' := 27) C P at_26 rfl rfl ?_
  refine k_ldcI (pc' := 29) C P (C.w 0 rfl) at_27 rfl ?_
  refine k_iand (pc' := 30) C P at_29 rfl ?_
  refine k_iload (pc' := 32) C P at_30 rfl rfl ?_
  refine k_irem (pc' := 33) C P at_32 (OwnNum.ne0 hN hN1) rfl ?_
  obtain ⟨z, e_z⟩ : ∃ z, z = ((p3 &&& (2147483647 : Int32)) % sz) := ⟨_, rfl⟩
  rw [← e_z]
  obtain ⟨Zn, hZn, hZnN⟩ : ∃ X : Nat, z.toInt = (X : Int) ∧ X < N := by rw [e_z]; exact own_idx p3 hN hN1
  refine k_istore (l' := #[.val (.int p0), .val (.int p1), .val (.int p2), .val (.int p3), .val (.int p4), .val (.int sz), .val (.int x), .val (.int y), .val (.int z), .unset, .unset, .unset, .unset, .unset, .unset, .unset, .unset, .unset, .unset]) (pc' := 35) C P at_33 rfl rfl ?_
  refine k_iload (pc' := 37) C P at_35 rfl rfl ?_
  refine k_ldcI (pc' := 39) C P (C.w 0 rfl) at_37 rfl ?_
  refine k_iand (pc' := 40) C P at_39 rfl ?_
  refine k_iload (pc' := 42) C P at_40 rfl rfl ?_
  refine k_irem (pc' := 43) C P at_42 (OwnNum.ne0 hN hN1) rfl ?_
  obtain ⟨u, e_u⟩ : ∃ z, z = ((p4 &&& (2147483647 : Int32)) % sz) := ⟨_, rfl⟩
  rw [← e_u]
  obtain ⟨Un, hUn, hUnN⟩ : ∃ X : Nat, u.toInt = (X : Int) ∧ X < N := by rw [e_u]; exact own_idx p4 hN hN1
  refine k_istore (l' := #[.val (.int p0), .val (.int p1), .val (.int p2), .val (.int p3), .val (.int p4), .val (.int sz), .val (.int x), .val (.int y), .val (.int z), .val (.int u), .unset, .unset, .unset, .unset, .unset, .unset, .unset, .unset, .unset]) (pc' := 45) C P at_43 rfl rfl ?_
  refine k_newo (pc' := 48) (cells' := 1) (slots' := 3) C P (C.w 1 rfl) (C.w 2 rfl) (C.w 3 rfl) at_45 rfl rfl (by decide) (by decide) rfl ?_
  intro T20 h20 b20 P20 hs20 ge_b20 sz_b20 E20 A20 D20
  have f20_b20 : KOb Z h20 b20 "com/example/outrigger/outrigger/VectorGraph$Visited" layV [.null, (.int (0 : Int32)), (.int (0 : Int32))] := KOb.new A20 D20 (lokV C.hw) (by decide +kernel)
  refine k_dup (pc' := 49) C P20 at_48 rfl rfl ?_
  refine k_iload (pc' := 51) C P20 at_49 rfl rfl ?_
  refine k_callN (pc' := 54) (cells' := 2) (slots' := 11) (W := 1) C P20 rfl (C.w 4 rfl) (C.w 5 rfl) (C.w 6 rfl) (C.w 3 rfl) (by decide) (rm1 l Z a0 hw _ n0 P20.size b20 sz N hN hN1 hN8 ge_b20 f20_b20) b20 [(.int sz)] [(.ref b20)] rfl (lenOf pd_1 rfl) rfl (Nat.le_of_eq rfl) at_51 rfl (by decide) (by decide) rfl rfl (by decide) (by decide) (allS (Or.inr sz_b20) all0) rfl ?_
  intro T21 h21 v21 P21 K21 Q21
  obtain ⟨rfl, m21, kk, gm21, zm21, ne21, F21, V21⟩ := Q21
  show KGo p e below _ T21 m 54 #[.val (.int p0), .val (.int p1), .val (.int p2), .val (.int p3), .val (.int p4), .val (.int sz), .val (.int x), .val (.int y), .val (.int z), .val (.int u), .unset, .unset, .unset, .unset, .unset, .unset, .unset, .unset, .unset] [(.ref b20)]
  refine k_astore (l' := #[.val (.int p0), .val (.int p1), .val (.int p2), .val (.int p3), .val (.int p4), .val (.int sz), .val (.int x), .val (.int y), .val (.int z), .val (.int u), .val (.ref b20), .unset, .unset, .unset, .unset, .unset, .unset, .unset, .unset]) (pc' := 56) C P21 at_54 rfl rfl rfl ?_
  refine k_aload (pc' := 58) C P21 at_56 rfl rfl rfl ?_
  refine k_iload (pc' := 60) C P21 at_58 rfl rfl ?_
  refine k_callV (pc' := 63) (cells' := 2) (slots' := 11) (W := 0) C P21 (C.w 19 rfl) (C.w 20 rfl) (fun _ q => notFace_of_selects (args := #[]) (mvT q (C.w 22 rfl))) (C.w 22 rfl) (C.w 21 rfl) (C.w 23 rfl) (C.w 3 rfl) (by decide) (rm4 l Z a0 hw _ n0 P21.size b20 m21 kk N (fun _ => 0) (1 : Int32) 0 F21 V21 x X hX hXN ne21 ge_b20 gm21 (1 : Int32) 1 (fun j => if j = X then 1 else 0) (own_add0 hX hY hZn).1 (own_add0 hX hY hZn).2) F21.exa [(.int x)] [] rfl (lenOf pd_2 rfl) rfl (Nat.le_of_eq rfl) at_60 rfl (by decide) (by decide) rfl rfl (by decide) (by decide) (allS (Or.inr sz_b20) (allS (Or.inr (Nat.le_trans P20.kept.1 zm21)) all0)) rfl ?_
  intro T22 h22 v22 P22 K22 Q22
  obtain ⟨rfl, F22, V22⟩ := Q22
  show KGo p e below _ T22 m 63 #[.val (.int p0), .val (.int p1), .val (.int p2), .val (.int p3), .val (.int p4), .val (.int sz), .val (.int x), .val (.int y), .val (.int z), .val (.int u), .val (.ref b20), .unset, .unset, .unset, .unset, .unset, .unset, .unset, .unset] [(.int (1 : Int32))]
  refine k_istore (l' := #[.val (.int p0), .val (.int p1), .val (.int p2), .val (.int p3), .val (.int p4), .val (.int sz), .val (.int x), .val (.int y), .val (.int z), .val (.int u), .val (.ref b20), .val (.int (1 : Int32)), .unset, .unset, .unset, .unset, .unset, .unset, .unset]) (pc' := 65) C P22 at_63 rfl rfl ?_
  refine k_aload (pc' := 67) C P22 at_65 rfl rfl rfl ?_
  refine k_iload (pc' := 69) C P22 at_67 rfl rfl ?_
  refine k_callV (pc' := 72) (cells' := 2) (slots' := 11) (W := 0) C P22 (C.w 19 rfl) (C.w 20 rfl) (fun _ q => notFace_of_selects (args := #[]) (mvT q (C.w 22 rfl))) (C.w 22 rfl) (C.w 21 rfl) (C.w 23 rfl) (C.w 3 rfl) (by decide) (rm4 l Z a0 hw _ n0 P22.size b20 m21 kk N (fun j => if j = X then 1 else 0) (1 : Int32) 1 F22 V22 y Y hY hYN ne21 ge_b20 gm21 (if y = x then (0 : Int32) else 1) (1 + (if y = x then (0 : Int32) else 1)) (fun j => if j = X ∨ j = Y then 1 else 0) (own_add1 hX hY hZn).1 (own_add1 hX hY hZn).2) F22.exa [(.int y)] [] rfl (lenOf pd_2 rfl) rfl (Nat.le_of_eq rfl) at_69 rfl (by decide) (by decide) rfl rfl (by decide) (by decide) (allS (Or.inr sz_b20) (allS (Or.inr (Nat.le_trans P20.kept.1 zm21)) all0)) rfl ?_
  intro T23 h23 v23 P23 K23 Q23
  obtain ⟨rfl, F23, V23⟩ := Q23
  show KGo p e below _ T23 m 72 #[.val (.int p0), .val (.int p1), .val (.int p2), .val (.int p3), .val (.int p4), .val (.int sz), .val (.int x), .val (.int y), .val (.int z), .val (.int u), .val (.ref b20), .val (.int (1 : Int32)), .unset, .unset, .unset, .unset, .unset, .unset, .unset] [(.int (if y = x then (0 : Int32) else 1))]
  refine k_istore (l' := #[.val (.int p0), .val (.int p1), .val (.int p2), .val (.int p3), .val (.int p4), .val (.int sz), .val (.int x), .val (.int y), .val (.int z), .val (.int u), .val (.ref b20), .val (.int (1 : Int32)), .val (.int (if y = x then (0 : Int32) else 1)), .unset, .unset, .unset, .unset, .unset, .unset]) (pc' := 74) C P23 at_72 rfl rfl ?_
  refine k_aload (pc' := 76) C P23 at_74 rfl rfl rfl ?_
  refine k_iload (pc' := 78) C P23 at_76 rfl rfl ?_
  refine k_callV (pc' := 81) (cells' := 2) (slots' := 11) (W := 0) C P23 (C.w 19 rfl) (C.w 20 rfl) (fun _ q => notFace_of_selects (args := #[]) (mvT q (C.w 22 rfl))) (C.w 22 rfl) (C.w 21 rfl) (C.w 23 rfl) (C.w 3 rfl) (by decide) (rm4 l Z a0 hw _ n0 P23.size b20 m21 kk N (fun j => if j = X ∨ j = Y then 1 else 0) (1 : Int32) (1 + (if y = x then (0 : Int32) else 1)) F23 V23 z Zn hZn hZnN ne21 ge_b20 gm21 (if z = x ∨ z = y then (0 : Int32) else 1) (1 + (if y = x then (0 : Int32) else 1) + (if z = x ∨ z = y then (0 : Int32) else 1)) (fun j => if j = X ∨ j = Y ∨ j = Zn then 1 else 0) (own_add2 hX hY hZn).1 (own_add2 hX hY hZn).2) F23.exa [(.int z)] [] rfl (lenOf pd_2 rfl) rfl (Nat.le_of_eq rfl) at_78 rfl (by decide) (by decide) rfl rfl (by decide) (by decide) (allS (Or.inr sz_b20) (allS (Or.inr (Nat.le_trans P20.kept.1 zm21)) all0)) rfl ?_
  intro T24 h24 v24 P24 K24 Q24
  obtain ⟨rfl, F24, V24⟩ := Q24
  show KGo p e below _ T24 m 81 #[.val (.int p0), .val (.int p1), .val (.int p2), .val (.int p3), .val (.int p4), .val (.int sz), .val (.int x), .val (.int y), .val (.int z), .val (.int u), .val (.ref b20), .val (.int (1 : Int32)), .val (.int (if y = x then (0 : Int32) else 1)), .unset, .unset, .unset, .unset, .unset, .unset] [(.int (if z = x ∨ z = y then (0 : Int32) else 1))]
  refine k_istore (l' := #[.val (.int p0), .val (.int p1), .val (.int p2), .val (.int p3), .val (.int p4), .val (.int sz), .val (.int x), .val (.int y), .val (.int z), .val (.int u), .val (.ref b20), .val (.int (1 : Int32)), .val (.int (if y = x then (0 : Int32) else 1)), .val (.int (if z = x ∨ z = y then (0 : Int32) else 1)), .unset, .unset, .unset, .unset, .unset]) (pc' := 83) C P24 at_81 rfl rfl ?_
  refine k_iload (pc' := 85) C P24 at_83 rfl rfl ?_
  refine k_iload (pc' := 87) C P24 at_85 rfl rfl ?_
  refine k_ternIc (Pp := y = x) (vY := (0 : Int32)) (vN := (1 : Int32)) (p1 := 90) (p2 := 91) (p3 := 94) (p4 := 95) C P24 at_87 at_90 at_91 at_94 rfl rfl (by decide) (by decide) rfl rfl rfl rfl (fun q => q) (fun q => q) ?_
  refine k_istore (l' := #[.val (.int p0), .val (.int p1), .val (.int p2), .val (.int p3), .val (.int p4), .val (.int sz), .val (.int x), .val (.int y), .val (.int z), .val (.int u), .val (.ref b20), .val (.int (1 : Int32)), .val (.int (if y = x then (0 : Int32) else 1)), .val (.int (if z = x ∨ z = y then (0 : Int32) else 1)), .val (.int (if y = x then (0 : Int32) else (1 : Int32))), .unset, .unset, .unset, .unset]) (pc' := 97) C P24 at_95 rfl rfl ?_
  suffices hj25 : KGo p e below _ T24 m 116 #[.val (.int p0), .val (.int p1), .val (.int p2), .val (.int p3), .val (.int p4), .val (.int sz), .val (.int x), .val (.int y), .val (.int z), .val (.int u), .val (.ref b20), .val (.int (1 : Int32)), .val (.int (if y = x then (0 : Int32) else 1)), .val (.int (if z = x ∨ z = y then (0 : Int32) else 1)), .val (.int (if y = x then (0 : Int32) else (1 : Int32))), .unset, .unset, .unset, .unset] [(.int (if z = x ∨ z = y then (0 : Int32) else 1))] by
    refine k_iload (pc' := 99) C P24 at_97 rfl rfl ?_
    refine k_iload (pc' := 101) C P24 at_99 rfl rfl ?_
    refine k_icB (pcY := 115) (pcN := 104) C P24 at_101 (by decide) (by decide) rfl ?_ ?_
    · intro (hc101 : z = x)
      refine k_iconst (z := (0 : Int32)) (pc' := 116) C P24 at_115 rfl rfl ?_
      exact hj25.cast rfl (by rw [if_pos (Or.inl hc101)])
    · intro (hc101 : ¬ z = x)
      refine k_iload (pc' := 106) C P24 at_104 rfl rfl ?_
      refine k_iload (pc' := 108) C P24 at_106 rfl rfl ?_
      refine k_icB (pcY := 115) (pcN := 111) C P24 at_108 (by decide) (by decide) rfl ?_ ?_
      · intro (hc108 : z = y)
        refine k_iconst (z := (0 : Int32)) (pc' := 116) C P24 at_115 rfl rfl ?_
        exact hj25.cast rfl (by rw [if_pos (Or.inr hc108)])
      · intro (hc108 : ¬ z = y)
        refine k_iconst (z := (1 : Int32)) (pc' := 112) C P24 at_111 rfl rfl ?_
        refine k_goto (pc' := 116) C P24 at_112 (by decide) (by decide) ?_
        exact hj25.cast rfl (by rw [if_neg (fun q => q.elim hc101 hc108)])
  refine k_istore (l' := #[.val (.int p0), .val (.int p1), .val (.int p2), .val (.int p3), .val (.int p4), .val (.int sz), .val (.int x), .val (.int y), .val (.int z), .val (.int u), .val (.ref b20), .val (.int (1 : Int32)), .val (.int (if y = x then (0 : Int32) else 1)), .val (.int (if z = x ∨ z = y then (0 : Int32) else 1)), .val (.int (if y = x then (0 : Int32) else (1 : Int32))), .val (.int (if z = x ∨ z = y then (0 : Int32) else 1)), .unset, .unset, .unset]) (pc' := 118) C P24 at_116 rfl rfl ?_
  refine k_iconst (z := (1 : Int32)) (pc' := 119) C P24 at_118 rfl rfl ?_
  refine k_iload (pc' := 121) C P24 at_119 rfl rfl ?_
  refine k_ternIf (Pp := y = x) (vY := (0 : Int32)) (vN := (1 : Int32)) (p1 := 124) (p2 := 125) (p3 := 128) (p4 := 129) C P24 at_121 at_124 at_125 at_128 rfl rfl (by decide) (by decide) rfl rfl rfl rfl (fun q => own_t2 q) (fun q r => own_t3 q r) ?_
  refine k_iadd (pc' := 130) C P24 at_129 rfl ?_
  refine k_iload (pc' := 132) C P24 at_130 rfl rfl ?_
  refine k_ternIf (Pp := z = x ∨ z = y) (vY := (0 : Int32)) (vN := (1 : Int32)) (p1 := 135) (p2 := 136) (p3 := 139) (p4 := 140) C P24 at_132 at_135 at_136 at_139 rfl rfl (by decide) (by decide) rfl rfl rfl rfl (fun q => own_t2 q) (fun q r => own_t3 q r) ?_
  refine k_iadd (pc' := 141) C P24 at_140 rfl ?_
  refine k_istore (l' := #[.val (.int p0), .val (.int p1), .val (.int p2), .val (.int p3), .val (.int p4), .val (.int sz), .val (.int x), .val (.int y), .val (.int z), .val (.int u), .val (.ref b20), .val (.int (1 : Int32)), .val (.int (if y = x then (0 : Int32) else 1)), .val (.int (if z = x ∨ z = y then (0 : Int32) else 1)), .val (.int (if y = x then (0 : Int32) else (1 : Int32))), .val (.int (if z = x ∨ z = y then (0 : Int32) else 1)), .val (.int (((1 : Int32) + (if y = x then (0 : Int32) else (1 : Int32))) + (if z = x ∨ z = y then (0 : Int32) else (1 : Int32)))), .unset, .unset]) (pc' := 143) C P24 at_141 rfl rfl ?_
  refine k_iload (pc' := 145) C P24 at_143 rfl rfl ?_
  refine k_ifN (pc' := 148) C P24 at_145 k_10 rfl ?_
  refine k_iload (pc' := 150) C P24 at_148 rfl rfl ?_
  refine k_iload (pc' := 152) C P24 at_150 rfl rfl ?_
  refine k_icN (pc' := 155) C P24 at_152 (rfl : (_ : Int32) = _) rfl ?_
  refine k_iload (pc' := 157) C P24 at_155 rfl rfl ?_
  refine k_iload (pc' := 159) C P24 at_157 rfl rfl ?_
  refine k_icN (pc' := 162) C P24 at_159 (rfl : (_ : Int32) = _) rfl ?_
  refine k_iconst (z := (1 : Int32)) (pc' := 163) C P24 at_162 rfl rfl ?_
  refine k_goto (pc' := 167) C P24 at_163 (by decide) (by decide) ?_
  refine k_istore (l' := #[.val (.int p0), .val (.int p1), .val (.int p2), .val (.int p3), .val (.int p4), .val (.int sz), .val (.int x), .val (.int y), .val (.int z), .val (.int u), .val (.ref b20), .val (.int (1 : Int32)), .val (.int (if y = x then (0 : Int32) else 1)), .val (.int (if z = x ∨ z = y then (0 : Int32) else 1)), .val (.int (if y = x then (0 : Int32) else (1 : Int32))), .val (.int (if z = x ∨ z = y then (0 : Int32) else 1)), .val (.int (((1 : Int32) + (if y = x then (0 : Int32) else (1 : Int32))) + (if z = x ∨ z = y then (0 : Int32) else (1 : Int32)))), .val (.int (1 : Int32)), .unset]) (pc' := 169) C P24 at_167 rfl rfl ?_
  refine k_iload (pc' := 171) C P24 at_169 rfl rfl ?_
  refine k_ifN (pc' := 174) C P24 at_171 k_10 rfl ?_
  refine k_aload (pc' := 176) C P24 at_174 rfl rfl rfl ?_
  refine k_callV (pc' := 179) (cells' := 2) (slots' := 11) (W := 0) C P24 (C.w 26 rfl) (C.w 27 rfl) (fun _ q => notFace_of_selects (args := #[]) (mvT q (C.w 29 rfl))) (C.w 29 rfl) (C.w 28 rfl) (C.w 30 rfl) (C.w 3 rfl) (by decide) (rm5 l Z a0 hw _ n0 P24.size b20 m21 (1 : Int32) (1 + (if y = x then (0 : Int32) else 1) + (if z = x ∨ z = y then (0 : Int32) else 1)) F24) F24.exa [] [] rfl (lenOf pd_3 rfl) rfl (Nat.le_of_eq rfl) at_176 rfl (by decide) (by decide) rfl rfl (by decide) (by decide) all0 rfl ?_
  intro T26 h26 v26 P26 K26 Q26
  obtain ⟨e26, g26⟩ := Q26
  subst g26
  subst e26
  show KGo p e below _ T26 m 179 #[.val (.int p0), .val (.int p1), .val (.int p2), .val (.int p3), .val (.int p4), .val (.int sz), .val (.int x), .val (.int y), .val (.int z), .val (.int u), .val (.ref b20), .val (.int (1 : Int32)), .val (.int (if y = x then (0 : Int32) else 1)), .val (.int (if z = x ∨ z = y then (0 : Int32) else 1)), .val (.int (if y = x then (0 : Int32) else (1 : Int32))), .val (.int (if z = x ∨ z = y then (0 : Int32) else 1)), .val (.int (((1 : Int32) + (if y = x then (0 : Int32) else (1 : Int32))) + (if z = x ∨ z = y then (0 : Int32) else (1 : Int32)))), .val (.int (1 : Int32)), .unset] [(.int (1 + (if y = x then (0 : Int32) else 1) + (if z = x ∨ z = y then (0 : Int32) else 1)))]
  refine k_iload (pc' := 181) C P26 at_179 rfl rfl ?_
  refine k_icN (pc' := 184) C P26 at_181 (own_cnt _ _) rfl ?_
  refine k_iconst (z := (1 : Int32)) (pc' := 185) C P26 at_184 rfl rfl ?_
  refine k_goto (pc' := 189) C P26 at_185 (by decide) (by decide) ?_
  refine k_istore (l' := #[.val (.int p0), .val (.int p1), .val (.int p2), .val (.int p3), .val (.int p4), .val (.int sz), .val (.int x), .val (.int y), .val (.int z), .val (.int u), .val (.ref b20), .val (.int (1 : Int32)), .val (.int (if y = x then (0 : Int32) else 1)), .val (.int (if z = x ∨ z = y then (0 : Int32) else 1)), .val (.int (if y = x then (0 : Int32) else (1 : Int32))), .val (.int (if z = x ∨ z = y then (0 : Int32) else 1)), .val (.int (((1 : Int32) + (if y = x then (0 : Int32) else (1 : Int32))) + (if z = x ∨ z = y then (0 : Int32) else (1 : Int32)))), .val (.int (1 : Int32)), .unset]) (pc' := 191) C P26 at_189 rfl rfl ?_
  refine k_iload (pc' := 193) C P26 at_191 rfl rfl ?_
  refine k_ifN (pc' := 196) C P26 at_193 k_10 rfl ?_
  refine k_aload (pc' := 198) C P26 at_196 rfl rfl rfl ?_
  refine k_iload (pc' := 200) C P26 at_198 rfl rfl ?_
  refine k_callV (pc' := 203) (cells' := 2) (slots' := 11) (W := 0) C P26 (C.w 31 rfl) (C.w 32 rfl) (fun _ q => notFace_of_selects (args := #[]) (mvT q (C.w 34 rfl))) (C.w 34 rfl) (C.w 33 rfl) (C.w 35 rfl) (C.w 3 rfl) (by decide) (rm6 l Z a0 hw _ n0 P26.size b20 m21 kk N (fun j => if j = X ∨ j = Y ∨ j = Zn then 1 else 0) (1 : Int32) (1 + (if y = x then (0 : Int32) else 1) + (if z = x ∨ z = y then (0 : Int32) else 1)) F24 V24 u Un hUn hUnN (if u = x ∨ u = y ∨ u = z then (1 : Int32) else 0) (own_has1 hX hY hZn hUn).1 (own_has1 hX hY hZn hUn).2) F24.exa [(.int u)] [] rfl (lenOf pd_2 rfl) rfl (Nat.le_of_eq rfl) at_200 rfl (by decide) (by decide) rfl rfl (by decide) (by decide) all0 rfl ?_
  intro T27 h27 v27 P27 K27 Q27
  obtain ⟨e27, g27⟩ := Q27
  subst g27
  subst e27
  show KGo p e below _ T27 m 203 #[.val (.int p0), .val (.int p1), .val (.int p2), .val (.int p3), .val (.int p4), .val (.int sz), .val (.int x), .val (.int y), .val (.int z), .val (.int u), .val (.ref b20), .val (.int (1 : Int32)), .val (.int (if y = x then (0 : Int32) else 1)), .val (.int (if z = x ∨ z = y then (0 : Int32) else 1)), .val (.int (if y = x then (0 : Int32) else (1 : Int32))), .val (.int (if z = x ∨ z = y then (0 : Int32) else 1)), .val (.int (((1 : Int32) + (if y = x then (0 : Int32) else (1 : Int32))) + (if z = x ∨ z = y then (0 : Int32) else (1 : Int32)))), .val (.int (1 : Int32)), .unset] [(.int (if u = x ∨ u = y ∨ u = z then (1 : Int32) else 0))]
  suffices hj28 : KGo p e below _ T27 m 229 #[.val (.int p0), .val (.int p1), .val (.int p2), .val (.int p3), .val (.int p4), .val (.int sz), .val (.int x), .val (.int y), .val (.int z), .val (.int u), .val (.ref b20), .val (.int (1 : Int32)), .val (.int (if y = x then (0 : Int32) else 1)), .val (.int (if z = x ∨ z = y then (0 : Int32) else 1)), .val (.int (if y = x then (0 : Int32) else (1 : Int32))), .val (.int (if z = x ∨ z = y then (0 : Int32) else 1)), .val (.int (((1 : Int32) + (if y = x then (0 : Int32) else (1 : Int32))) + (if z = x ∨ z = y then (0 : Int32) else (1 : Int32)))), .val (.int (1 : Int32)), .unset] [(.int (if u = x ∨ u = y ∨ u = z then (1 : Int32) else 0)), (.int (if u = x ∨ u = y ∨ u = z then (1 : Int32) else 0))] by
    refine k_iload (pc' := 205) C P27 at_203 rfl rfl ?_
    refine k_iload (pc' := 207) C P27 at_205 rfl rfl ?_
    refine k_icB (pcY := 224) (pcN := 210) C P27 at_207 (by decide) (by decide) rfl ?_ ?_
    · intro (hc207 : u = x)
      refine k_iconst (z := (1 : Int32)) (pc' := 225) C P27 at_224 rfl rfl ?_
      refine k_goto (pc' := 229) C P27 at_225 (by decide) (by decide) ?_
      exact hj28.cast rfl (by rw [if_pos (Or.inl hc207)])
    · intro (hc207 : ¬ u = x)
      refine k_iload (pc' := 212) C P27 at_210 rfl rfl ?_
      refine k_iload (pc' := 214) C P27 at_212 rfl rfl ?_
      refine k_icB (pcY := 224) (pcN := 217) C P27 at_214 (by decide) (by decide) rfl ?_ ?_
      · intro (hc214 : u = y)
        refine k_iconst (z := (1 : Int32)) (pc' := 225) C P27 at_224 rfl rfl ?_
        refine k_goto (pc' := 229) C P27 at_225 (by decide) (by decide) ?_
        exact hj28.cast rfl (by rw [if_pos (Or.inr (Or.inl hc214))])
      · intro (hc214 : ¬ u = y)
        refine k_iload (pc' := 219) C P27 at_217 rfl rfl ?_
        refine k_iload (pc' := 221) C P27 at_219 rfl rfl ?_
        refine k_icB (pcY := 228) (pcN := 224) C P27 at_221 (by decide) (by decide) rfl ?_ ?_
        · intro (hc221 : ¬ u = z)
          refine k_iconst (z := (0 : Int32)) (pc' := 229) C P27 at_228 rfl rfl ?_
          exact hj28.cast rfl (by rw [if_neg (fun q => q.elim hc207 (fun q => q.elim hc214 hc221))])
        · intro (hc221 : u = z)
          refine k_iconst (z := (1 : Int32)) (pc' := 225) C P27 at_224 rfl rfl ?_
          refine k_goto (pc' := 229) C P27 at_225 (by decide) (by decide) ?_
          exact hj28.cast rfl (by rw [if_pos (Or.inr (Or.inr hc221))])
  refine k_icN (pc' := 232) C P27 at_229 (rfl : (_ : Int32) = _) rfl ?_
  refine k_iconst (z := (1 : Int32)) (pc' := 233) C P27 at_232 rfl rfl ?_
  refine k_goto (pc' := 237) C P27 at_233 (by decide) (by decide) ?_
  refine k_istore (l' := #[.val (.int p0), .val (.int p1), .val (.int p2), .val (.int p3), .val (.int p4), .val (.int sz), .val (.int x), .val (.int y), .val (.int z), .val (.int u), .val (.ref b20), .val (.int (1 : Int32)), .val (.int (if y = x then (0 : Int32) else 1)), .val (.int (if z = x ∨ z = y then (0 : Int32) else 1)), .val (.int (if y = x then (0 : Int32) else (1 : Int32))), .val (.int (if z = x ∨ z = y then (0 : Int32) else 1)), .val (.int (((1 : Int32) + (if y = x then (0 : Int32) else (1 : Int32))) + (if z = x ∨ z = y then (0 : Int32) else (1 : Int32)))), .val (.int (1 : Int32)), .unset]) (pc' := 239) C P27 at_237 rfl rfl ?_
  refine k_aload (pc' := 241) C P27 at_239 rfl rfl rfl ?_
  refine k_callV (pc' := 244) (cells' := 2) (slots' := 11) (W := 0) C P27 (C.w 36 rfl) (C.w 37 rfl) (fun _ q => notFace_of_selects (args := #[]) (mvT q (C.w 39 rfl))) (C.w 39 rfl) (C.w 38 rfl) (C.w 40 rfl) (C.w 3 rfl) (by decide) (rm7 l Z a0 hw _ n0 P27.size b20 m21 1 (1 + (if y = x then (0 : Int32) else 1) + (if z = x ∨ z = y then (0 : Int32) else 1)) F24 (by decide) ge_b20) F24.exa [] [] rfl (lenOf pd_4 rfl) rfl (Nat.le_of_eq rfl) at_241 rfl (by decide) (by decide) rfl rfl (by decide) (by decide) (allS (Or.inr sz_b20) all0) rfl ?_
  intro T29 h29 v29 P29 K29 Q29
  obtain ⟨rfl, F29⟩ := Q29
  have f29_m21 := V24.keep K29 (ninS (Ne.symm ne21) nin0)
  show KGo p e below _ T29 m 244 #[.val (.int p0), .val (.int p1), .val (.int p2), .val (.int p3), .val (.int p4), .val (.int sz), .val (.int x), .val (.int y), .val (.int z), .val (.int u), .val (.ref b20), .val (.int (1 : Int32)), .val (.int (if y = x then (0 : Int32) else 1)), .val (.int (if z = x ∨ z = y then (0 : Int32) else 1)), .val (.int (if y = x then (0 : Int32) else (1 : Int32))), .val (.int (if z = x ∨ z = y then (0 : Int32) else 1)), .val (.int (((1 : Int32) + (if y = x then (0 : Int32) else (1 : Int32))) + (if z = x ∨ z = y then (0 : Int32) else (1 : Int32)))), .val (.int (1 : Int32)), .unset] []
  refine k_aload (pc' := 246) C P29 at_244 rfl rfl rfl ?_
  refine k_iload (pc' := 248) C P29 at_246 rfl rfl ?_
  refine k_callV (pc' := 251) (cells' := 2) (slots' := 11) (W := 0) C P29 (C.w 19 rfl) (C.w 20 rfl) (fun _ q => notFace_of_selects (args := #[]) (mvT q (C.w 22 rfl))) (C.w 22 rfl) (C.w 21 rfl) (C.w 23 rfl) (C.w 3 rfl) (by decide) (rm4 l Z a0 hw _ n0 P29.size b20 m21 kk N (fun j => if j = X ∨ j = Y ∨ j = Zn then 1 else 0) (1 + 1 : Int32) 0 F29 f29_m21 x X hX hXN ne21 ge_b20 gm21 (1 : Int32) 1 (fun j => if j = X then 2 else if j = X ∨ j = Y ∨ j = Zn then 1 else 0) (own_add3 hX hY hZn).1 (own_add3 hX hY hZn).2) F29.exa [(.int x)] [] rfl (lenOf pd_2 rfl) rfl (Nat.le_of_eq rfl) at_248 rfl (by decide) (by decide) rfl rfl (by decide) (by decide) (allS (Or.inr sz_b20) (allS (Or.inr (Nat.le_trans P20.kept.1 zm21)) all0)) rfl ?_
  intro T30 h30 v30 P30 K30 Q30
  obtain ⟨rfl, F30, V30⟩ := Q30
  show KGo p e below _ T30 m 251 #[.val (.int p0), .val (.int p1), .val (.int p2), .val (.int p3), .val (.int p4), .val (.int sz), .val (.int x), .val (.int y), .val (.int z), .val (.int u), .val (.ref b20), .val (.int (1 : Int32)), .val (.int (if y = x then (0 : Int32) else 1)), .val (.int (if z = x ∨ z = y then (0 : Int32) else 1)), .val (.int (if y = x then (0 : Int32) else (1 : Int32))), .val (.int (if z = x ∨ z = y then (0 : Int32) else 1)), .val (.int (((1 : Int32) + (if y = x then (0 : Int32) else (1 : Int32))) + (if z = x ∨ z = y then (0 : Int32) else (1 : Int32)))), .val (.int (1 : Int32)), .unset] [(.int (1 : Int32))]
  refine k_istore (l' := #[.val (.int p0), .val (.int p1), .val (.int p2), .val (.int p3), .val (.int p4), .val (.int sz), .val (.int x), .val (.int y), .val (.int z), .val (.int u), .val (.ref b20), .val (.int (1 : Int32)), .val (.int (if y = x then (0 : Int32) else 1)), .val (.int (if z = x ∨ z = y then (0 : Int32) else 1)), .val (.int (if y = x then (0 : Int32) else (1 : Int32))), .val (.int (if z = x ∨ z = y then (0 : Int32) else 1)), .val (.int (((1 : Int32) + (if y = x then (0 : Int32) else (1 : Int32))) + (if z = x ∨ z = y then (0 : Int32) else (1 : Int32)))), .val (.int (1 : Int32)), .val (.int (1 : Int32))]) (pc' := 253) C P30 at_251 rfl rfl ?_
  refine k_iload (pc' := 255) C P30 at_253 rfl rfl ?_
  refine k_ifN (pc' := 258) C P30 at_255 k_10 rfl ?_
  refine k_iload (pc' := 260) C P30 at_258 rfl rfl ?_
  refine k_ifN (pc' := 263) C P30 at_260 k_10 rfl ?_
  refine k_iconst (z := (1 : Int32)) (pc' := 264) C P30 at_263 rfl rfl ?_
  refine k_goto (pc' := 268) C P30 at_264 (by decide) (by decide) ?_
  refine k_istore (l' := #[.val (.int p0), .val (.int p1), .val (.int p2), .val (.int p3), .val (.int p4), .val (.int sz), .val (.int x), .val (.int y), .val (.int z), .val (.int u), .val (.ref b20), .val (.int (1 : Int32)), .val (.int (if y = x then (0 : Int32) else 1)), .val (.int (if z = x ∨ z = y then (0 : Int32) else 1)), .val (.int (if y = x then (0 : Int32) else (1 : Int32))), .val (.int (if z = x ∨ z = y then (0 : Int32) else 1)), .val (.int (((1 : Int32) + (if y = x then (0 : Int32) else (1 : Int32))) + (if z = x ∨ z = y then (0 : Int32) else (1 : Int32)))), .val (.int (1 : Int32)), .val (.int (1 : Int32))]) (pc' := 270) C P30 at_268 rfl rfl ?_
  refine k_iload (pc' := 272) C P30 at_270 rfl rfl ?_
  refine k_ifN (pc' := 275) C P30 at_272 k_10 rfl ?_
  refine k_aload (pc' := 277) C P30 at_275 rfl rfl rfl ?_
  refine k_callV (pc' := 280) (cells' := 2) (slots' := 11) (W := 0) C P30 (C.w 26 rfl) (C.w 27 rfl) (fun _ q => notFace_of_selects (args := #[]) (mvT q (C.w 29 rfl))) (C.w 29 rfl) (C.w 28 rfl) (C.w 30 rfl) (C.w 3 rfl) (by decide) (rm5 l Z a0 hw _ n0 P30.size b20 m21 (1 + 1 : Int32) 1 F30) F30.exa [] [] rfl (lenOf pd_3 rfl) rfl (Nat.le_of_eq rfl) at_277 rfl (by decide) (by decide) rfl rfl (by decide) (by decide) all0 rfl ?_
  intro T31 h31 v31 P31 K31 Q31
  obtain ⟨e31, g31⟩ := Q31
  subst g31
  subst e31
  show KGo p e below _ T31 m 280 #[.val (.int p0), .val (.int p1), .val (.int p2), .val (.int p3), .val (.int p4), .val (.int sz), .val (.int x), .val (.int y), .val (.int z), .val (.int u), .val (.ref b20), .val (.int (1 : Int32)), .val (.int (if y = x then (0 : Int32) else 1)), .val (.int (if z = x ∨ z = y then (0 : Int32) else 1)), .val (.int (if y = x then (0 : Int32) else (1 : Int32))), .val (.int (if z = x ∨ z = y then (0 : Int32) else 1)), .val (.int (((1 : Int32) + (if y = x then (0 : Int32) else (1 : Int32))) + (if z = x ∨ z = y then (0 : Int32) else (1 : Int32)))), .val (.int (1 : Int32)), .val (.int (1 : Int32))] [(.int 1)]
  refine k_iconst (z := (1 : Int32)) (pc' := 281) C P31 at_280 rfl rfl ?_
  refine k_icN (pc' := 284) C P31 at_281 (rfl : (_ : Int32) = _) rfl ?_
  refine k_iconst (z := (1 : Int32)) (pc' := 285) C P31 at_284 rfl rfl ?_
  refine k_goto (pc' := 289) C P31 at_285 (by decide) (by decide) ?_
  refine k_istore (l' := #[.val (.int p0), .val (.int p1), .val (.int p2), .val (.int p3), .val (.int p4), .val (.int sz), .val (.int x), .val (.int y), .val (.int z), .val (.int u), .val (.ref b20), .val (.int (1 : Int32)), .val (.int (if y = x then (0 : Int32) else 1)), .val (.int (if z = x ∨ z = y then (0 : Int32) else 1)), .val (.int (if y = x then (0 : Int32) else (1 : Int32))), .val (.int (if z = x ∨ z = y then (0 : Int32) else 1)), .val (.int (((1 : Int32) + (if y = x then (0 : Int32) else (1 : Int32))) + (if z = x ∨ z = y then (0 : Int32) else (1 : Int32)))), .val (.int (1 : Int32)), .val (.int (1 : Int32))]) (pc' := 291) C P31 at_289 rfl rfl ?_
  refine k_iload (pc' := 293) C P31 at_291 rfl rfl ?_
  refine k_ifN (pc' := 296) C P31 at_293 k_10 rfl ?_
  refine k_aload (pc' := 298) C P31 at_296 rfl rfl rfl ?_
  refine k_iload (pc' := 300) C P31 at_298 rfl rfl ?_
  refine k_callV (pc' := 303) (cells' := 2) (slots' := 11) (W := 0) C P31 (C.w 31 rfl) (C.w 32 rfl) (fun _ q => notFace_of_selects (args := #[]) (mvT q (C.w 34 rfl))) (C.w 34 rfl) (C.w 33 rfl) (C.w 35 rfl) (C.w 3 rfl) (by decide) (rm6 l Z a0 hw _ n0 P31.size b20 m21 kk N (fun j => if j = X then 2 else if j = X ∨ j = Y ∨ j = Zn then 1 else 0) (1 + 1 : Int32) 1 F30 V30 y Y hY hYN (if y = x then (1 : Int32) else 0) (own_has2 hX hY).1 (own_has2 hX hY).2) F30.exa [(.int y)] [] rfl (lenOf pd_2 rfl) rfl (Nat.le_of_eq rfl) at_300 rfl (by decide) (by decide) rfl rfl (by decide) (by decide) all0 rfl ?_
  intro T32 h32 v32 P32 K32 Q32
  obtain ⟨e32, g32⟩ := Q32
  subst g32
  subst e32
  show KGo p e below _ T32 m 303 #[.val (.int p0), .val (.int p1), .val (.int p2), .val (.int p3), .val (.int p4), .val (.int sz), .val (.int x), .val (.int y), .val (.int z), .val (.int u), .val (.ref b20), .val (.int (1 : Int32)), .val (.int (if y = x then (0 : Int32) else 1)), .val (.int (if z = x ∨ z = y then (0 : Int32) else 1)), .val (.int (if y = x then (0 : Int32) else (1 : Int32))), .val (.int (if z = x ∨ z = y then (0 : Int32) else 1)), .val (.int (((1 : Int32) + (if y = x then (0 : Int32) else (1 : Int32))) + (if z = x ∨ z = y then (0 : Int32) else (1 : Int32)))), .val (.int (1 : Int32)), .val (.int (1 : Int32))] [(.int (if y = x then (1 : Int32) else 0))]
  refine k_iload (pc' := 305) C P32 at_303 rfl rfl ?_
  refine k_iload (pc' := 307) C P32 at_305 rfl rfl ?_
  refine k_ternIc (Pp := ¬ y = x) (vY := (0 : Int32)) (vN := (1 : Int32)) (p1 := 310) (p2 := 311) (p3 := 314) (p4 := 315) C P32 at_307 at_310 at_311 at_314 rfl rfl (by decide) (by decide) rfl rfl rfl rfl (fun q => q) (fun q r => r q) ?_
  refine k_icN (pc' := 318) C P32 at_315 (own_last _) rfl ?_
  refine k_iconst (z := (1 : Int32)) (pc' := 319) C P32 at_318 rfl rfl ?_
  refine k_goto (pc' := 323) C P32 at_319 (by decide) (by decide) ?_
  refine k_istore (l' := #[.val (.int p0), .val (.int p1), .val (.int p2), .val (.int p3), .val (.int p4), .val (.int sz), .val (.int x), .val (.int y), .val (.int z), .val (.int u), .val (.ref b20), .val (.int (1 : Int32)), .val (.int (if y = x then (0 : Int32) else 1)), .val (.int (if z = x ∨ z = y then (0 : Int32) else 1)), .val (.int (if y = x then (0 : Int32) else (1 : Int32))), .val (.int (if z = x ∨ z = y then (0 : Int32) else 1)), .val (.int (((1 : Int32) + (if y = x then (0 : Int32) else (1 : Int32))) + (if z = x ∨ z = y then (0 : Int32) else (1 : Int32)))), .val (.int (1 : Int32)), .val (.int (1 : Int32))]) (pc' := 325) C P32 at_323 rfl rfl ?_
  refine k_iload (pc' := 327) C P32 at_325 rfl rfl ?_
  exact k_retZ (z' := (1 : Int32)) C P32 (by simp) at_327 rfl (by decide) (by decide) rfl
set_option maxRecDepth 65536 in
set_option maxHeartbeats 40000000 in
theorem comes_1 {Post : Tables → Env → Array Value → State → Outcome → State → Prop} (hpost : ∀ tb e args s v u, (limb_1_1.after args s (.returned v) u = true ∧ limb_1_2.after args s (.returned v) u = true ∧ True) → FrameEnd s (.returned v) u (Jvm.fieldLocs frame_1_writes args s ++ Jvm.arrayLocs frame_1_arrays args s ++ Jvm.staticLocs frame_1_statics s) 16 128 → Post tb e args s (.returned v) u) :
    ArmFor flags0 classFile x code maxLocals ret World_1 tables_1 room_1 Calls_1 rest_1 Pre_1 Post := by
  intro l hfl _ _ p e ha hc hk s m args below hf hA hF happ hP
  obtain ⟨hcalls, hrest, hpre⟩ := hP
  obtain ⟨-, -, -, hnamed, -, -, -, hat⟩ := (Spec.applies_iff hf).mp happ
  obtain ⟨hg, hn⟩ := and_e (Cond.before_iff.mp (show (Jvm.Cond.and given_1 narrow_1).before args s = true from hpre))
  obtain ⟨g0, g1⟩ := and_e hg
  obtain ⟨a0, g2⟩ := and_e g1
  obtain ⟨a1, g3⟩ := and_e g2
  obtain ⟨a2, g4⟩ := and_e g3
  obtain ⟨a3, g5⟩ := and_e g4
  have a4 := g5
  obtain ⟨w0, w1, w2, w3, w4, rfl⟩ : ∃ w0 w1 w2 w3 w4 : Value, args = #[w0, w1, w2, w3, w4] := by
    have hs : args.size = 5 := by simpa [Cond.value, given_1] using g0
    obtain ⟨L⟩ := args
    match L, hs with
    | [w0, w1, w2, w3, w4], _ => exact ⟨w0, w1, w2, w3, w4, rfl⟩
  have hw := fun d (hd : d ∈ tables_1) => atoms_spec (ws := Jvm.Cond.code x code maxLocals ret :: tables_1) hat d (List.mem_cons_of_mem _ hd)
  have hfit : Fit s := fun {y c} hc i hi => by
    obtain ⟨ha, rfl⟩ := Array.getElem?_eq_some_iff.mp hc
    have q := List.all_eq_true.mp ((Array.all_eq_true_iff_forall_mem.mp hF) _ (Array.getElem_mem ha)) i (List.mem_range.mpr hi)
    simpa [Array.getElem?_eq_getElem hi] using q
  obtain ⟨i0, ei0⟩ := is_v a0
  obtain rfl : w0 = (.int i0) := Option.some.inj ei0
  obtain ⟨i1, ei1⟩ := is_v a1
  obtain rfl : w1 = (.int i1) := Option.some.inj ei1
  obtain ⟨i2, ei2⟩ := is_v a2
  obtain rfl : w2 = (.int i2) := Option.some.inj ei2
  obtain ⟨i3, ei3⟩ := is_v a3
  obtain rfl : w3 = (.int i3) := Option.some.inj ei3
  obtain ⟨i4, ei4⟩ := is_v a4
  obtain rfl : w4 = (.int i4) := Option.some.inj ei4
  obtain ⟨n, o, h1, h2, h3, _, L, rfl, ⟨N, _, rfl⟩, hq0⟩ := (rm0 l s _ hw s.heap s.heap.size (Nat.le_refl _) i0 i1 i2 i3 i4 ) tables_1 p e ha hc hk s m _ below hf ((Spec.applies_iff_loose hf).mp happ).1 ⟨rfl, State.Warmed39.refl s, rfl⟩ trivial
  have hq : FrameEnd _ _ _ _ _ _ := hq0
  refine ⟨n, _, h1, h2, h3, hpost _ _ _ _ _ _ ⟨Cond.after_iff.mpr rfl, Cond.after_iff.mpr (eq_i res_at (Term.int_eval (1)) rfl), trivial⟩ ⟨hq.1, hq.2.1, (hq.2.2.sift fun y hy => Or.inr (N y hy)).mono (by decide) (by decide)⟩⟩
theorem main_1_1 : Claimed_1_1 := comes_1 fun _ _ _ _ _ _ h hF => ⟨h.1, hF⟩
theorem main_1_2 : Claimed_1_2 := comes_1 fun _ _ _ _ _ _ h hF => ⟨h.2.1, hF⟩
end Jvm.Pilot.@@N@@
namespace Jvm.Pilot.@@N@@
open Jvm Jvm.ClassFile Sem Op Lib Jvm.Free Jvm.Stand Jvm.Pilot.@@N@@.Jvm.D
/-! MADE BY PROGRAM (witnessworld.py) out of the Statement's table words and the real class files: 10 classes; the members and pool entries that the words name. The judged class is class 1, her method 1. -/
namespace start1
open Jvm.ClassFile
def u (s : String) : CpInfo := .utf8 (stringToUtf16 s)
/-- a pool by its gaps: so many unusable entries, then the entry; so many at the end -/
def gap : Nat → List CpInfo → List CpInfo
  | 0, r => r
  | n + 1, r => .unusable :: gap n r
def poolList (es : List (Nat × CpInfo)) (last : Nat) : List CpInfo := es.foldr (fun e r => gap e.1 (e.2 :: r)) (gap last [])
def pool (es : List (Nat × CpInfo)) (last : Nat) : Array CpInfo := ⟨poolList es last⟩
def fileOf (pool : Array CpInfo) (this : Nat) (attrs : Array Attribute := #[]) (ms : Array MethodInfo := #[]) (fl : Nat := 33) (sup : Nat := 0) (ifs : Array Nat := #[]) (fds : Array FieldInfo := #[]) : ClassFile where
  minorVersion := 0
  majorVersion := 65
  constantPool := pool
  accessFlags := fl
  thisClass := this
  superClass := sup
  interfaces := ifs
  fields := fds
  methods := ms
  attributes := attrs
def plain (name : String) (sup : Option ClassId) : Class where
  name := name
  kind := .ordinary
  loader := none
  accessFlags := 33
  super := sup
  interfaces := #[]
  cf := none
  fields := #[]
  methods := #[]
  instanceTypes := #[]
  staticTypes := #[]
  resolved := #[]
  callSites := []
  init := .initialized
  statics := none
  mirror := none

def pool0 : Array CpInfo := pool [(5, u "<init>"), (0, u "()V"), (1, .class_ 10), (1, u "java/lang/Object")] 113

def k0c0 : Code := { maxStack := 0, maxLocals := 1, code := object_method_1_code, exceptionTable := #[], attributes := #[] }
def k0m0 : Method := { name := "<init>", desc := "()V", sig := { parameters := [], returnType := none }, accessFlags := 1, code := some k0c0 }
/-- java/lang/Object -/
def k0 : Class := { plain "java/lang/Object" none with
  accessFlags := 33
  interfaces := #[]
  cf := some (fileOf pool0 8 #[] #[{ accessFlags := 1, nameIndex := 5, descriptorIndex := 6, attributes := #[] }] 33 0 #[] #[])
  fields := #[]
  methods := #[k0m0]
  instanceTypes := #[]
  staticTypes := #[]
  resolved := Array.replicate 124 none
  statics := none }

def pool1 : Array CpInfo := pool [(2, .class_ 4), (1, u "java/lang/Object"), (0, u "<init>"), (0, u "()V"), (0, .integer 2147483647), (0, .class_ 9), (0, u "com/example/outrigger/outrigger/VectorGraph$Visited"), (0, .methodref 8 11), (0, .nameAndType 5 12), (0, u "(I)V"), (0, .methodref 8 14), (0, .nameAndType 15 16), (0, u "add"), (0, u "(I)Z"), (0, .methodref 8 18), (0, .nameAndType 19 20), (0, u "count"), (0, u "()I"), (0, .methodref 8 22), (0, .nameAndType 23 16), (0, u "contains"), (0, .methodref 8 25), (0, .nameAndType 26 6), (0, u "clear"), (0, .class_ 28), (0, u "com/example/outrigger/outrigger/VisitedAddPinLaw"), (2, u "law"), (0, u "(IIIII)Z")] 7

def k1m0 : Method := { name := "<init>", desc := "()V", sig := { parameters := [], returnType := none }, accessFlags := 2, code := none }
def k1c1 : Code := { maxStack := 3, maxLocals := 19, code := code, exceptionTable := #[], attributes := #[] }
def k1m1 : Method := { name := "law", desc := "(IIIII)Z", sig := { parameters := [.int, .int, .int, .int, .int], returnType := some .boolean }, accessFlags := 9, code := some k1c1 }
/-- com/example/outrigger/outrigger/VisitedAddPinLaw -/
def k1 : Class := { plain "com/example/outrigger/outrigger/VisitedAddPinLaw" (some 0) with
  accessFlags := 49
  interfaces := #[]
  cf := some (fileOf pool1 27 #[] #[{ accessFlags := 2, nameIndex := 5, descriptorIndex := 6, attributes := #[] }, { accessFlags := 9, nameIndex := 31, descriptorIndex := 32, attributes := #[] }] 49 2 #[] #[])
  fields := #[]
  methods := #[k1m0, k1m1]
  instanceTypes := #[]
  staticTypes := #[]
  resolved := Array.replicate 40 none
  statics := none }

def pool2 : Array CpInfo := pool [(1, .methodref 2 3), (0, .class_ 4), (0, .nameAndType 5 6), (0, u "java/lang/Object"), (0, u "<init>"), (0, u "()V"), (0, .fieldref 8 9), (0, .class_ 10), (0, .nameAndType 11 12), (0, u "com/example/outrigger/outrigger/VectorGraph$Visited"), (0, u "clearing"), (0, u "I"), (0, .methodref 14 15), (0, .class_ 16), (0, .nameAndType 17 18), (0, u "java/lang/Math"), (0, u "max"), (0, u "(II)I"), (0, .fieldref 8 20), (0, .nameAndType 21 22), (0, u "marks"), (0, u "[I"), (8, .integer 2147483647), (4, .fieldref 8 37), (0, .nameAndType 38 12), (0, u "count"), (0, u "(I)V"), (4, u "clear"), (0, u "add"), (0, u "(I)Z"), (0, u "contains"), (0, u "()I"), (3, .class_ 53), (0, u "com/example/outrigger/outrigger/VectorGraph")] 2

def k2c0 : Code := { maxStack := 3, maxLocals := 2, code := prog_291_method_1_code, exceptionTable := #[], attributes := #[] }
def k2m0 : Method := { name := "<init>", desc := "(I)V", sig := { parameters := [.int], returnType := none }, accessFlags := 0, code := some k2c0 }
def k2c1 : Code := { maxStack := 3, maxLocals := 1, code := prog_291_method_3_code, exceptionTable := #[], attributes := #[] }
def k2m1 : Method := { name := "clear", desc := "()V", sig := { parameters := [], returnType := none }, accessFlags := 0, code := some k2c1 }
def k2c2 : Code := { maxStack := 3, maxLocals := 2, code := prog_291_method_4_code, exceptionTable := #[], attributes := #[] }
def k2m2 : Method := { name := "add", desc := "(I)Z", sig := { parameters := [.int], returnType := some .boolean }, accessFlags := 0, code := some k2c2 }
def k2c3 : Code := { maxStack := 2, maxLocals := 2, code := prog_291_method_5_code, exceptionTable := #[], attributes := #[] }
def k2m3 : Method := { name := "contains", desc := "(I)Z", sig := { parameters := [.int], returnType := some .boolean }, accessFlags := 0, code := some k2c3 }
def k2c4 : Code := { maxStack := 1, maxLocals := 1, code := prog_291_method_6_code, exceptionTable := #[], attributes := #[] }
def k2m4 : Method := { name := "count", desc := "()I", sig := { parameters := [], returnType := some .int }, accessFlags := 0, code := some k2c4 }
/-- com/example/outrigger/outrigger/VectorGraph$Visited -/
def k2 : Class := { plain "com/example/outrigger/outrigger/VectorGraph$Visited" (some 0) with
  accessFlags := 48
  interfaces := #[]
  cf := some (fileOf pool2 8 #[.nestHost 52] #[{ accessFlags := 0, nameIndex := 5, descriptorIndex := 39, attributes := #[] }, { accessFlags := 0, nameIndex := 44, descriptorIndex := 6, attributes := #[] }, { accessFlags := 0, nameIndex := 45, descriptorIndex := 46, attributes := #[] }, { accessFlags := 0, nameIndex := 47, descriptorIndex := 46, attributes := #[] }, { accessFlags := 0, nameIndex := 38, descriptorIndex := 48, attributes := #[] }] 48 2 #[] #[{ accessFlags := 2, nameIndex := 21, descriptorIndex := 22, attributes := #[] }, { accessFlags := 2, nameIndex := 11, descriptorIndex := 12, attributes := #[] }, { accessFlags := 2, nameIndex := 38, descriptorIndex := 12, attributes := #[] }])
  fields := #[{ name := "marks", type := (.array .int), accessFlags := 2, slot := 0, constantValue := 0 }, { name := "clearing", type := .int, accessFlags := 2, slot := 1, constantValue := 0 }, { name := "count", type := .int, accessFlags := 2, slot := 2, constantValue := 0 }]
  methods := #[k2m0, k2m1, k2m2, k2m3, k2m4]
  instanceTypes := #[(.array .int), .int, .int]
  staticTypes := #[]
  resolved := Array.replicate 56 none
  statics := none }

def pool3 : Array CpInfo := pool [(1, .class_ 2), (0, u "java/lang/Math"), (1, .class_ 6), (1, u "java/lang/Object"), (0, u "<init>"), (0, u "()V"), (89, .class_ 100), (1, u "java/lang/Math$RandomNumberGeneratorHolder"), (71, u "negativeZeroFloatBits"), (0, u "J"), (2, u "negativeZeroDoubleBits"), (21, u "max"), (46, u "$assertionsDisabled"), (0, u "Z"), (88, u "(II)I"), (2, u "twoToTheDoubleScaleDown"), (0, u "D"), (4, u "twoToTheDoubleScaleUp"), (9, u "E"), (3, u "PI"), (2, u "TAU"), (2, u "DEGREES_TO_RADIANS"), (0, u "RADIANS_TO_DEGREES")] 94

def k3m0 : Method := { name := "<init>", desc := "()V", sig := { parameters := [], returnType := none }, accessFlags := 2, code := none }
def k3c1 : Code := { maxStack := 2, maxLocals := 2, code := jdk_29_method_65_code, exceptionTable := #[], attributes := #[] }
def k3m1 : Method := { name := "max", desc := "(II)I", sig := { parameters := [.int, .int], returnType := some .int }, accessFlags := 9, code := some k3c1 }
/-- java/lang/Math -/
def k3 : Class := { plain "java/lang/Math" (some 0) with
  accessFlags := 49
  interfaces := #[]
  cf := some (fileOf pool3 1 #[.nestMembers #[98]] #[{ accessFlags := 2, nameIndex := 7, descriptorIndex := 8, attributes := #[] }, { accessFlags := 9, nameIndex := 198, descriptorIndex := 335, attributes := #[] }] 49 4 #[] #[{ accessFlags := 25, nameIndex := 354, descriptorIndex := 339, attributes := #[] }, { accessFlags := 25, nameIndex := 358, descriptorIndex := 339, attributes := #[] }, { accessFlags := 25, nameIndex := 361, descriptorIndex := 339, attributes := #[] }, { accessFlags := 26, nameIndex := 364, descriptorIndex := 339, attributes := #[] }, { accessFlags := 26, nameIndex := 365, descriptorIndex := 339, attributes := #[] }, { accessFlags := 26, nameIndex := 172, descriptorIndex := 173, attributes := #[] }, { accessFlags := 26, nameIndex := 176, descriptorIndex := 173, attributes := #[] }, { accessFlags := 8, nameIndex := 344, descriptorIndex := 339, attributes := #[] }, { accessFlags := 8, nameIndex := 338, descriptorIndex := 339, attributes := #[] }, { accessFlags := 4120, nameIndex := 245, descriptorIndex := 246, attributes := #[] }])
  fields := #[{ name := "E", type := .double, accessFlags := 25, slot := 0, constantValue := 0 }, { name := "PI", type := .double, accessFlags := 25, slot := 1, constantValue := 0 }, { name := "TAU", type := .double, accessFlags := 25, slot := 2, constantValue := 0 }, { name := "DEGREES_TO_RADIANS", type := .double, accessFlags := 26, slot := 3, constantValue := 0 }, { name := "RADIANS_TO_DEGREES", type := .double, accessFlags := 26, slot := 4, constantValue := 0 }, { name := "negativeZeroFloatBits", type := .long, accessFlags := 26, slot := 5, constantValue := 0 }, { name := "negativeZeroDoubleBits", type := .long, accessFlags := 26, slot := 6, constantValue := 0 }, { name := "twoToTheDoubleScaleUp", type := .double, accessFlags := 8, slot := 7, constantValue := 0 }, { name := "twoToTheDoubleScaleDown", type := .double, accessFlags := 8, slot := 8, constantValue := 0 }, { name := "$assertionsDisabled", type := .boolean, accessFlags := 4120, slot := 9, constantValue := 0 }]
  methods := #[k3m0, k3m1]
  instanceTypes := #[]
  staticTypes := #[.double, .double, .double, .double, .double, .long, .long, .double, .double, .boolean]
  resolved := Array.replicate 460 none
  statics := none }

def pool4 : Array CpInfo := pool [(1, u "java/lang/Cloneable"), (0, .class_ 1), (0, u "java/lang/Object"), (0, .class_ 3)] 3

/-- java/lang/Cloneable -/
def k4 : Class := { plain "java/lang/Cloneable" (some 0) with
  accessFlags := 1537
  interfaces := #[]
  cf := some (fileOf pool4 2 #[] #[] 1537 4 #[] #[])
  fields := #[]
  methods := #[]
  instanceTypes := #[]
  staticTypes := #[]
  resolved := Array.replicate 8 none
  statics := none }

def pool5 : Array CpInfo := pool [(1, u "java/io/Serializable"), (0, .class_ 1), (0, u "java/lang/Object"), (0, .class_ 3)] 3

/-- java/io/Serializable -/
def k5 : Class := { plain "java/io/Serializable" (some 0) with
  accessFlags := 1537
  interfaces := #[]
  cf := some (fileOf pool5 2 #[] #[] 1537 4 #[] #[])
  fields := #[]
  methods := #[]
  instanceTypes := #[]
  staticTypes := #[]
  resolved := Array.replicate 8 none
  statics := none }

/-- the primitive byte -/
def k6 : Class := { plain "byte" none with kind := .primitive 'B', accessFlags := 0x411 }
/-- [B -/
def k7 : Class := { plain "[B" (some 0) with kind := .array 6 .byte, interfaces := #[4, 5], accessFlags := 1041 }

/-- the primitive int -/
def k8 : Class := { plain "int" none with kind := .primitive 'I', accessFlags := 0x411 }
/-- [I -/
def k9 : Class := { plain "[I" (some 0) with kind := .array 8 .int, interfaces := #[4, 5], accessFlags := 1041 }

def heap : Heap := #[]
def classes : Array Class := #[k0, k1, k2, k3, k4, k5, k6, k7, k8, k9]
def interned : List (Array UInt16 × Addr) := []
def slotsUsed : Nat := 0
def theMethod : MethodId := ⟨1, 1⟩
def args0 : Array Value := #[.int 5, .int 3, .int 3, .int 7, .int 1]
def aboutOver (below : List Frame) : State where
  vm := { classes := classes, interned := interned.toArray }
  heap := heap
  slotsUsed := slotsUsed
  threads := #[{ frames := .invoking theMethod args0 :: below }]
def below0 : List Frame := [.native { method := ⟨0, 0⟩, args := #[] }]
def about1 : State := aboutOver below0
def p0 : Program := .bare "" "" ""
def e0 : Env := launch0.env 0 0 0
theorem w_frames : about1.frames = Frame.invoking theMethod args0 :: below0 := rfl
set_option maxRecDepth 65536 in
theorem w_args : argsFit about1.vm theMethod args0 = true := by decide +kernel
set_option maxRecDepth 65536 in
theorem w_heap : heapFits about1 = true := by decide +kernel
set_option maxRecDepth 65536 in
theorem w_runnable : about1.curStatus? = some .runnable := by decide +kernel
set_option maxRecDepth 65536 in
theorem w_alone : about1.alone = true := by decide +kernel
set_option maxRecDepth 65536 in
theorem w_named : about1.methodNamed? x = some theMethod := by decide +kernel
set_option maxRecDepth 65536 in
theorem w_hears : about1.hears theMethod below0 = true := by decide +kernel
set_option maxRecDepth 65536 in
theorem w_ripe : about1.ripe theMethod args0 below0 = true := by decide +kernel
theorem w_running : about1.status = .running := rfl
set_option maxRecDepth 65536 in
theorem w_room : about1.hasRoom e0.platform room_1 = true :=
  launch0.hasRoom_least _ room_1 (by decide +kernel) (by decide +kernel) (by decide +kernel) (by decide +kernel) (by decide +kernel) (by decide +kernel)
theorem allAtoms_all (ts : List Jvm.Cond) (a : Array Jvm.Value) (st : Jvm.State) : (allAtoms ts).before a st = ts.all (fun c => c.before a st) := by
  induction ts with
  | nil => rfl
  | cons c t ih =>
    show (Jvm.Cond.and c (allAtoms t)).before a st = _
    rw [Jvm.Cond.before_and, ih, List.all_cons]
def words1 : List Jvm.Cond := Jvm.Cond.code x code maxLocals ret :: tables_1
/-- a 'code' word, met by the world's own term for the bytes: nothing is compared byte by byte -/
theorem code_word {y : MethodName} {bytes : ByteArray} {mx : Nat} {rt : Option FieldType} {a : Array Value} {s : State} {m : MethodId} {meth : Method} {c : Code} (h1 : s.methodNamed? y = some m) (h2 : s.vm.method? m = some meth) (h3 : meth.code = some c) (h4 : c.code = bytes)
    (h5 : (c.maxLocals == mx && c.exceptionTable.isEmpty && decide (c.maxStack ≤ mostOperands) && decide (meth.sig.returnType = rt) && !meth.locks && decide (parseMethodDescriptor y.desc = some meth.sig)) = true) : (Jvm.Cond.code y bytes mx rt).before a s = true := by
  simp only [Bool.and_eq_true, beq_iff_eq, Bool.not_eq_true', decide_eq_true_eq] at h5
  obtain ⟨⟨⟨⟨⟨g1, g2⟩, g3⟩, g4⟩, g5⟩, g6⟩ := h5
  simp [Cond.before, Cond.holds, Cond.value, h1, h2, h3, h4, g1, g2, g3, g4, g5, g6]
def isCode : Jvm.Cond → Bool
  | .code _ _ _ _ => true
  | _ => false
theorem all_split {L : List Jvm.Cond} {P : Jvm.Cond → Bool} (h1 : L.all (fun c => isCode c || P c) = true) (h2 : ∀ c ∈ L.filter isCode, P c = true) : L.all P = true := by
  refine List.all_eq_true.mpr fun c hc => ?_
  have h := List.all_eq_true.mp h1 c hc
  rcases Bool.eq_false_or_eq_true (isCode c) with hi | hi
  · exact h2 c (List.mem_filter.mpr ⟨hc, hi⟩)
  · simpa [hi] using h
set_option maxRecDepth 65536 in
theorem w_c0 : (Jvm.Cond.code x code maxLocals ret).before args0 about1 = true := code_word (m := ⟨1, 1⟩) (meth := k1m1) (c := k1c1) (by decide +kernel) rfl rfl rfl (by decide +kernel)
set_option maxRecDepth 65536 in
theorem w_c1 : (Jvm.Cond.code ({ cls := "com/example/outrigger/outrigger/VectorGraph$Visited", name := "<init>", desc := "(I)V" } : Jvm.MethodName) prog_291_method_1_code (2 : Nat) (Option.none : Option Jvm.ClassFile.FieldType)).before args0 about1 = true := code_word (m := ⟨2, 0⟩) (meth := k2m0) (c := k2c0) (by decide +kernel) rfl rfl rfl (by decide +kernel)
set_option maxRecDepth 65536 in
theorem w_c2 : (Jvm.Cond.code ({ cls := "java/lang/Object", name := "<init>", desc := "()V" } : Jvm.MethodName) object_method_1_code (1 : Nat) (Option.none : Option Jvm.ClassFile.FieldType)).before args0 about1 = true := code_word (m := ⟨0, 0⟩) (meth := k0m0) (c := k0c0) (by decide +kernel) rfl rfl rfl (by decide +kernel)
set_option maxRecDepth 65536 in
theorem w_c3 : (Jvm.Cond.code ({ cls := "java/lang/Math", name := "max", desc := "(II)I" } : Jvm.MethodName) jdk_29_method_65_code (2 : Nat) (Option.some Jvm.ClassFile.FieldType.int)).before args0 about1 = true := code_word (m := ⟨3, 1⟩) (meth := k3m1) (c := k3c1) (by decide +kernel) rfl rfl rfl (by decide +kernel)
set_option maxRecDepth 65536 in
theorem w_c4 : (Jvm.Cond.code ({ cls := "com/example/outrigger/outrigger/VectorGraph$Visited", name := "add", desc := "(I)Z" } : Jvm.MethodName) prog_291_method_4_code (2 : Nat) (Option.some Jvm.ClassFile.FieldType.boolean)).before args0 about1 = true := code_word (m := ⟨2, 2⟩) (meth := k2m2) (c := k2c2) (by decide +kernel) rfl rfl rfl (by decide +kernel)
set_option maxRecDepth 65536 in
theorem w_c5 : (Jvm.Cond.code ({ cls := "com/example/outrigger/outrigger/VectorGraph$Visited", name := "count", desc := "()I" } : Jvm.MethodName) prog_291_method_6_code (1 : Nat) (Option.some Jvm.ClassFile.FieldType.int)).before args0 about1 = true := code_word (m := ⟨2, 4⟩) (meth := k2m4) (c := k2c4) (by decide +kernel) rfl rfl rfl (by decide +kernel)
set_option maxRecDepth 65536 in
theorem w_c6 : (Jvm.Cond.code ({ cls := "com/example/outrigger/outrigger/VectorGraph$Visited", name := "contains", desc := "(I)Z" } : Jvm.MethodName) prog_291_method_5_code (2 : Nat) (Option.some Jvm.ClassFile.FieldType.boolean)).before args0 about1 = true := code_word (m := ⟨2, 3⟩) (meth := k2m3) (c := k2c3) (by decide +kernel) rfl rfl rfl (by decide +kernel)
set_option maxRecDepth 65536 in
theorem w_c7 : (Jvm.Cond.code ({ cls := "com/example/outrigger/outrigger/VectorGraph$Visited", name := "clear", desc := "()V" } : Jvm.MethodName) prog_291_method_3_code (1 : Nat) (Option.none : Option Jvm.ClassFile.FieldType)).before args0 about1 = true := code_word (m := ⟨2, 1⟩) (meth := k2m1) (c := k2c1) (by decide +kernel) rfl rfl rfl (by decide +kernel)
def codes1 : List Jvm.Cond := [Jvm.Cond.code x code maxLocals ret, Jvm.Cond.code ({ cls := "com/example/outrigger/outrigger/VectorGraph$Visited", name := "<init>", desc := "(I)V" } : Jvm.MethodName) prog_291_method_1_code (2 : Nat) (Option.none : Option Jvm.ClassFile.FieldType), Jvm.Cond.code ({ cls := "java/lang/Object", name := "<init>", desc := "()V" } : Jvm.MethodName) object_method_1_code (1 : Nat) (Option.none : Option Jvm.ClassFile.FieldType), Jvm.Cond.code ({ cls := "java/lang/Math", name := "max", desc := "(II)I" } : Jvm.MethodName) jdk_29_method_65_code (2 : Nat) (Option.some Jvm.ClassFile.FieldType.int), Jvm.Cond.code ({ cls := "com/example/outrigger/outrigger/VectorGraph$Visited", name := "add", desc := "(I)Z" } : Jvm.MethodName) prog_291_method_4_code (2 : Nat) (Option.some Jvm.ClassFile.FieldType.boolean), Jvm.Cond.code ({ cls := "com/example/outrigger/outrigger/VectorGraph$Visited", name := "count", desc := "()I" } : Jvm.MethodName) prog_291_method_6_code (1 : Nat) (Option.some Jvm.ClassFile.FieldType.int), Jvm.Cond.code ({ cls := "com/example/outrigger/outrigger/VectorGraph$Visited", name := "contains", desc := "(I)Z" } : Jvm.MethodName) prog_291_method_5_code (2 : Nat) (Option.some Jvm.ClassFile.FieldType.boolean), Jvm.Cond.code ({ cls := "com/example/outrigger/outrigger/VectorGraph$Visited", name := "clear", desc := "()V" } : Jvm.MethodName) prog_291_method_3_code (1 : Nat) (Option.none : Option Jvm.ClassFile.FieldType)]
set_option maxRecDepth 65536 in
theorem codes_eq : words1.filter isCode = codes1 := rfl
theorem w_codes : ∀ c ∈ words1.filter isCode, c.before args0 about1 = true := by
  rw [codes_eq]
  intro c hc
  simp only [codes1, List.mem_cons, List.not_mem_nil, or_false] at hc
  rcases hc with rfl | rfl | rfl | rfl | rfl | rfl | rfl | rfl
  · exact w_c0
  · exact w_c1
  · exact w_c2
  · exact w_c3
  · exact w_c4
  · exact w_c5
  · exact w_c6
  · exact w_c7
set_option maxRecDepth 65536 in
theorem w_t1 : (words1.take 24).all (fun c => isCode c || c.before args0 about1) = true := by decide +kernel
set_option maxRecDepth 65536 in
theorem w_t2 : (words1.drop 24).all (fun c => isCode c || c.before args0 about1) = true := by decide +kernel
theorem w_tables : (allAtoms (Jvm.Cond.code x code maxLocals ret :: tables_1)).before args0 about1 = true := by
  rw [allAtoms_all]
  show words1.all (fun c => c.before args0 about1) = true
  refine all_split ?_ w_codes
  rw [← List.take_append_drop 24 words1, List.all_append, w_t1, w_t2]
  rfl
set_option maxRecDepth 65536 in
theorem w_case : (Jvm.Cond.and given_1 narrow_1).before args0 about1 = true := by decide +kernel
theorem w_applies : (headSpec (Jvm.Cond.code x code maxLocals ret :: tables_1) room_1).applies x e0.platform about1 = true :=
  (Spec.applies_iff w_frames).mpr ⟨w_running, w_runnable, w_alone, w_named, w_hears, w_ripe, w_room, w_tables⟩
theorem atStart : AtStart classFile x code maxLocals ret World_1 tables_1 room_1 Calls_1 rest_1 Pre_1 launch0 p0 e0 about1 theMethod args0 below0 :=
  ⟨lists_1, trivial, launch0.admits_env _ _ _, launch0.least_env, fairChoices_fair.cas, fairChoices_fair.clock, w_frames, w_args, w_heap, w_applies, trivial, trivial, w_case⟩
end start1
theorem witness_1 : WitnessClaimed_1 := ⟨start1.p0, start1.e0, start1.about1, start1.theMethod, start1.args0, start1.below0, start1.atStart⟩
end Jvm.Pilot.@@N@@
