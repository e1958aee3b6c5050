import JvmDerived
import JvmDerived.Pilot.@@N@@Statement
import JvmDerived.Pilot.@@N@@Code
set_option linter.unusedVariables false
set_option linter.unusedSimpArgs false
namespace Jvm.OwnKit
open Sem ClassFile Op Lib Jvm.Stand Jvm.Free Jvm.LawKit Jvm.RoadKit
def k_ushr (x y : Int32) : Int32 := (x.toUInt32 >>> (y &&& 31).toUInt32).toInt32
def k_ushrL (x : Int64) (y : Int32) : Int64 := (x.toUInt64 >>> (y &&& 63).toInt64.toUInt64).toInt64
def k_cmpL (x y : Int64) : Int32 := if x > y then 1 else if x = y then 0 else -1
/-- the state over whose tables the walk stands: the start itself, or (wd: a String constant may have been interned meanwhile) the start with tables grown since -/
def KBase (wd : Bool) (s s' : State) (n : Nat) : Prop := match wd with
  | true => ∃ (vm : Vm) (k : Nat), s' = s.setVm vm ∧ s.Since vm k ∧ k ≤ n
  | false => s' = s
/-- where a run stands: the state T with the heap h; what was written lies at n0 or above; of h0 all is kept but ws -/
def KPos (wd : Bool) (s' : State) (p : Program) (l : Launch) (e : Env) (R : Room) (s : State) (m : MethodId) (args : Array Value) (below : List Frame) (meth : Method) (c : Code) (Z : State) (own : String) (n0 : Nat) (h0 : Heap) (ws : List Addr) (T : State) (h : Heap) (cells slots : Nat) : Prop :=
  ∃ locs, Stand p l e R s' m args below meth c T locs cells slots ∧ KBase wd s s' h.size ∧ Z.Warmed39 s'.vm ∧ s'.vm.findClass own = some m.cls ∧ T.heap = h ∧ n0 ≤ h.size ∧ Fr n0 locs ∧ Keep h0 h ws
/-- what stands still in a body's walk -/
def KCx (tbl : List Jvm.Cond) (nm : String) (cod : ByteArray) (ml : Nat) (ret : Option FieldType) (p : Program) (meth : Method) (c : Code) (Z : State) (a0 : Array Value) : Prop :=
  p.tables.exec = Jvm.exec ∧ (∀ d ∈ tbl, d.before a0 Z = true) ∧ c.code = cod ∧ c.maxLocals = ml ∧ meth.sig.returnType = ret ∧ meth.name = nm ∧ meth.locks = false
/-- from this frame the run comes to an end that K speaks of -/
def KGo (p : Program) (e : Env) (below : List Frame) (K : State → Outcome → Prop) (T : State) (m : MethodId) (pc : Nat) (Ls : Array Slot) (st : List Value) : Prop :=
  ∃ s₂ o, Steps p.tables e below (T.setTop (mkF m pc Ls st)) s₂ ∧ s₂.status = .running ∧ Ended s₂ below o ∧ K s₂ o
/-- the frame of an end -/
def KEnde (wd : Bool) (s : State) (o : Outcome) (s₂ : State) (L : List Loc) (kc ks : Nat) : Prop := match wd with
  | true => ReturnedEndW s o s₂ L kc ks
  | false => FrameEnd s o s₂ L kc ks
/-- the end of a body that returns -/
def KEnd (wd : Bool) (s : State) (n0 : Nat) (h0 : Heap) (ws : List Addr) (Q : Option Value → Heap → Prop) (kc ks : Nat) (s₂ : State) (o : Outcome) : Prop :=
  ∃ v L, o = .returned v ∧ (Fr n0 L ∧ Keep h0 s₂.heap ws ∧ Q v s₂.heap) ∧ KEnde wd s o s₂ L kc ks
/-- a body's contract -/
def KCt (wd : Bool) (l : Launch) (y : MethodName) (cod : ByteArray) (ml : Nat) (ret : Option FieldType) (rm : Room) (Z : State) (n0 : Nat) (h0 : Heap) (as : Array Value) (ws : List Addr) (Q : Option Value → Heap → Prop) : Prop :=
  ∀ wsc : List Jvm.Cond, MetFree l y (head1 (Jvm.Cond.code y cod ml ret :: wsc) rm) (fun a U => a = as ∧ Z.Warmed39 U.vm ∧ U.heap = h0) (fun _ _ _ _ _ => True)
    (fun _ U o U' => ∃ v L, o = .returned v ∧ (Fr n0 L ∧ Keep h0 U'.heap ws ∧ Q v U'.heap) ∧ KEnde wd U o U' L rm.cells rm.slots)
section Kit
variable {wd : Bool} {s' : State} {p : Program} {l : Launch} {e : Env} {R : Room} {s : State} {m : MethodId} {args : Array Value} {below : List Frame} {meth : Method} {c : Code} {T : State} {cells slots : Nat} {Z : State} {a0 : Array Value} {h h' h0 : Heap} {n0 : Nat} {ws : List Addr} {K : State → Outcome → Prop}
  {tbl : List Jvm.Cond} {own nm : String} {cod : ByteArray} {ml : Nat} {ret : Option FieldType} {pc : Nat} {Ls : Array Slot} {st : List Value} {a b : Addr}
theorem KCx.exec (C : KCx tbl nm cod ml ret p meth c Z a0) : p.tables.exec = Jvm.exec := C.1
theorem KCx.hw (C : KCx tbl nm cod ml ret p meth c Z a0) : ∀ d ∈ tbl, d.before a0 Z = true := C.2.1
theorem KCx.cdE (C : KCx tbl nm cod ml ret p meth c Z a0) : c.code = cod := C.2.2.1
theorem KCx.mlE (C : KCx tbl nm cod ml ret p meth c Z a0) : c.maxLocals = ml := C.2.2.2.1
theorem KCx.rtE (C : KCx tbl nm cod ml ret p meth c Z a0) : meth.sig.returnType = ret := C.2.2.2.2.1
theorem KCx.nmE (C : KCx tbl nm cod ml ret p meth c Z a0) : meth.name = nm := C.2.2.2.2.2.1
theorem KCx.lk (C : KCx tbl nm cod ml ret p meth c Z a0) : meth.locks = false := C.2.2.2.2.2.2
theorem KCx.w (C : KCx tbl nm cod ml ret p meth c Z a0) (i : Nat) {d : Jvm.Cond} (q : tbl[i]? = some d) : d.before a0 Z = true := C.hw d (List.mem_of_getElem? q)
theorem KBase.mono {s' : State} {n n' : Nat} (B : KBase wd s s' n) (h : n ≤ n') : KBase wd s s' n' := by
  cases wd
  · exact B
  · obtain ⟨vm, k, h1, h2, h3⟩ := B; exact ⟨vm, k, h1, h2, Nat.le_trans h3 h⟩
theorem KPos.here (P : KPos wd s' p l e R s m args below meth c Z own n0 h0 ws T h cells slots) : At T m c below := by obtain ⟨_, X, -⟩ := P; exact X.here
theorem KPos.more (P : KPos wd s' p l e R s m args below meth c Z own n0 h0 ws T h cells slots) {cells' slots' : Nat} (hc : cells ≤ cells') (hs : slots ≤ slots') : KPos wd s' p l e R s m args below meth c Z own n0 h0 ws T h cells' slots' := by
  obtain ⟨L, X, r⟩ := P; exact ⟨L, X.more hc hs, r⟩
theorem KPos.size (P : KPos wd s' p l e R s m args below meth c Z own n0 h0 ws T h cells slots) : n0 ≤ h.size := by obtain ⟨_, _, _, _, _, _, r, -⟩ := P; exact r
theorem KPos.kept (P : KPos wd s' p l e R s m args below meth c Z own n0 h0 ws T h cells slots) : Keep h0 h ws := by obtain ⟨_, _, _, _, _, _, _, _, r⟩ := P; exact r
theorem KGo.step {T' : State} {pc' : Nat} {Ls' : Array Slot} {st' : List Value} (k : KGo p e below K T' m pc' Ls' st') (q : ∀ t, Steps p.tables e below (T'.setTop (mkF m pc' Ls' st')) t → Steps p.tables e below (T.setTop (mkF m pc Ls st)) t) : KGo p e below K T m pc Ls st := by
  obtain ⟨x, y, u, r⟩ := k; exact ⟨x, y, q _ u, r⟩
theorem KGo.cast {Ls' : Array Slot} {st' : List Value} (k : KGo p e below K T m pc Ls' st') (q : Ls' = Ls) (r : st' = st) : KGo p e below K T m pc Ls st := by subst q r; exact k
/-- a body is entered -/
theorem k_enter {y : MethodName} {rm : Room} {as : Array Value} {Q : Option Value → Heap → Prop} (hp : plainFor y = true) (hw : ∀ d ∈ tbl, d.before a0 Z = true) (hn : n0 ≤ h0.size) (hef : ∀ m, entryFrame m as ml = mkF m 0 Ls [])
    (body : ∀ p e s m below meth c T, KCx tbl y.name cod ml ret p meth c Z a0 → KPos wd s p l e rm s m as below meth c Z y.cls n0 h0 ws T h0 0 0 → KGo p e below (KEnd wd s n0 h0 ws Q rm.cells rm.slots) T m 0 Ls []) : KCt wd l y cod ml ret rm Z n0 h0 as ws Q := by
  intro wsc
  refine MetFree.of_bodySF hp hisR ?_
  intro p e s m args below meth c s₁ Bd hml0 hP hK
  obtain ⟨rfl, hZ, hh⟩ := hP
  have B : KBase wd s s h0.size := by
    cases wd
    · rfl
    · exact ⟨s.vm, 0, rfl, State.WarmedH.since (State.WarmedH.refl s) 0, Nat.zero_le _⟩
  have g := body p e s m below meth c s₁ ⟨Bd.exec, hw, Bd.bytes, hml0, Bd.returns, (name_of_methodNamed Bd.named Bd.method).1, Bd.notSynchronized⟩ ⟨[], Stand.of_body Bd, B, hZ, findClass_of_methodNamed Bd.named, by rw [← hh, Bd.state]; rfl, hn, Fr.nil _, Keep.refl _ _⟩
  obtain ⟨s₂, o, g1, g2, g3, v, L, g4, g5, g6⟩ := g
  exact ⟨s₂, o, castTop (hef m) g1, g2, g3, v, L, g4, g5, g6⟩
theorem KCt.plain {y : MethodName} {rm : Room} {as : Array Value} {Q : Option Value → Heap → Prop} (k : KCt false l y cod ml ret rm Z n0 h0 as ws Q) : MetFree l y (head1 [Jvm.Cond.code y cod ml ret] rm) (fun a U => a = as ∧ Z.Warmed39 U.vm ∧ U.heap = h0) (fun _ _ _ _ _ => True)
    (fun _ U o U' => ∃ v L, o = .returned v ∧ (Fr n0 L ∧ Keep h0 U'.heap ws ∧ Q v U'.heap) ∧ FrameEnd U o U' L rm.cells rm.slots) := k []
/-- a contract said more weakly -/
theorem KCt.imp {y : MethodName} {rm : Room} {as : Array Value} {Q Q' : Option Value → Heap → Prop} (k : KCt wd l y cod ml ret rm Z n0 h0 as ws Q) (q : ∀ v h, Q v h → Q' v h) : KCt wd l y cod ml ret rm Z n0 h0 as ws Q' := by
  intro wsc p e h1 h2 h3 s m args below h4 h5 h6 h7
  obtain ⟨n, o, g1, g2, g3, v, L, g4, ⟨g5, g6, g7⟩, g8⟩ := k wsc p e h1 h2 h3 s m args below h4 h5 h6 h7
  exact ⟨n, o, g1, g2, g3, v, L, g4, ⟨g5, g6, q _ _ g7⟩, g8⟩
/-! ### returns -/
theorem k_retVal {Q : Option Value → Heap → Prop} {kc ks : Nat} {v : Option Value} (C : KCx tbl nm cod ml ret p meth c Z a0) (P : KPos wd s' p l e R s m args below meth c Z own n0 h0 ws T h cells slots) (hv : ret = none → v = none) (hc : cells ≤ kc) (hs : slots ≤ ks) (hQ : Q v h)
    (q : ∀ fs, (∀ (f : JFrame) (acts : List Action), f.method = m → f.locked = none → f.entered = [] → (doReturn e (T.setTop f) acts v).1 = T.setFrames fs) → Steps p.tables e below (T.setTop (mkF m pc Ls st)) (T.setFrames fs)) : KGo p e below (KEnd wd s n0 h0 ws Q kc ks) T m pc Ls st := by
  obtain ⟨L, X, B, hZ, hown, eT, hn, hF, hk⟩ := P
  have hl : meth.locks = false := C.lk
  have X2 := X.more hc hs
  cases wd
  · cases B
    obtain ⟨fs, hr, hrun, hended, hW, hsame⟩ := X2.leave (v := v) (fun q => hv (C.rtE.symm.trans q)) hl
    exact ⟨_, _, q fs hr, hrun, hended, v, L, rfl, ⟨hF, by show Keep h0 T.heap ws; rw [eT]; exact hk, by show Q v T.heap; rw [eT]; exact hQ⟩, ⟨_, rfl⟩, hW, hsame⟩
  · obtain ⟨vm, k, rfl, hS, hk0⟩ := B
    obtain ⟨fs, hr, hrun, hended, hW⟩ := X2.leaveW hS (by rw [eT]; exact hk0) (v := v) (fun q => hv (C.rtE.symm.trans q)) hl
    exact ⟨_, _, q fs hr, hrun, hended, v, L, rfl, ⟨hF, by show Keep h0 T.heap ws; rw [eT]; exact hk, by show Q v T.heap; rw [eT]; exact hQ⟩, hW⟩
theorem k_retV {Q : Option Value → Heap → Prop} {kc ks : Nat} (C : KCx tbl nm cod ml none p meth c Z a0) (P : KPos wd s' p l e R s m args below meth c Z own n0 h0 ws T h cells slots) (hd : decode cod pc = .ok (.return_, 1)) (hc : cells ≤ kc) (hs : slots ≤ ks) (hQ : Q none h) : KGo p e below (KEnd wd s n0 h0 ws Q kc ks) T m pc Ls [] :=
  k_retVal C P (fun _ => rfl) hc hs hQ fun fs hr => by obtain ⟨L, X, -⟩ := P; exact X.returnOut C.1 C.rtE (hb C.cdE hd) hr
theorem k_retI {Q : Option Value → Heap → Prop} {kc ks : Nat} {z : Int32} (C : KCx tbl nm cod ml (some .int) p meth c Z a0) (P : KPos wd s' p l e R s m args below meth c Z own n0 h0 ws T h cells slots) (hd : decode cod pc = .ok (.ireturn, 1)) (hc : cells ≤ kc) (hs : slots ≤ ks) (hQ : Q (some (.int z)) h) : KGo p e below (KEnd wd s n0 h0 ws Q kc ks) T m pc Ls (.int z :: st) :=
  k_retVal C P (fun q => nomatch q) hc hs hQ fun fs hr => by
    obtain ⟨L, X, -⟩ := P
    exact retOut X C.1 C.rtE (rfl : narrow .int (.int z) = .int z) (Or.inl ⟨rfl, Or.inl rfl, _, rfl⟩) (hb C.cdE hd) hr
theorem k_retZ {Q : Option Value → Heap → Prop} {kc ks : Nat} {z z' : Int32} {t : FieldType} (C : KCx tbl nm cod ml (some t) p meth c Z a0) (P : KPos wd s' p l e R s m args below meth c Z own n0 h0 ws T h cells slots) (ht : t = .boolean ∨ t = .byte ∨ t = .char ∨ t = .short) (hd : decode cod pc = .ok (.ireturn, 1)) (hz : nar t z = z') (hc : cells ≤ kc) (hs : slots ≤ ks) (hQ : Q (some (.int z')) h) : KGo p e below (KEnd wd s n0 h0 ws Q kc ks) T m pc Ls (.int z :: st) :=
  k_retVal C P (fun q => nomatch q) hc hs hQ fun fs hr => by
    subst hz
    obtain ⟨L, X, -⟩ := P
    exact retN X C.1 C.rtE ht (hb C.cdE hd) hr
theorem k_retJ {Q : Option Value → Heap → Prop} {kc ks : Nat} {z : Int64} (C : KCx tbl nm cod ml (some .long) p meth c Z a0) (P : KPos wd s' p l e R s m args below meth c Z own n0 h0 ws T h cells slots) (hd : decode cod pc = .ok (.lreturn, 1)) (hc : cells ≤ kc) (hs : slots ≤ ks) (hQ : Q (some (.long z)) h) : KGo p e below (KEnd wd s n0 h0 ws Q kc ks) T m pc Ls (.long z :: st) :=
  k_retVal C P (fun q => nomatch q) hc hs hQ fun fs hr => by
    obtain ⟨L, X, -⟩ := P
    exact retOut X C.1 C.rtE (rfl : narrow .long (.long z) = .long z) (Or.inr (Or.inl ⟨rfl, rfl, _, rfl⟩)) (hb C.cdE hd) hr
theorem k_retD {Q : Option Value → Heap → Prop} {kc ks : Nat} {z : UInt64} (C : KCx tbl nm cod ml (some .double) p meth c Z a0) (P : KPos wd s' p l e R s m args below meth c Z own n0 h0 ws T h cells slots) (hd : decode cod pc = .ok (.dreturn, 1)) (hc : cells ≤ kc) (hs : slots ≤ ks) (hQ : Q (some (.double z)) h) : KGo p e below (KEnd wd s n0 h0 ws Q kc ks) T m pc Ls (.double z :: st) :=
  k_retVal C P (fun q => nomatch q) hc hs hQ fun fs hr => by
    obtain ⟨L, X, -⟩ := P
    exact retOut X C.1 C.rtE (rfl : narrow .double (.double z) = .double z) (Or.inr (Or.inr (Or.inl ⟨rfl, rfl, _, rfl⟩))) (hb C.cdE hd) hr
theorem k_narrow_ref {t : FieldType} {v : Value} (hv : v.isRef = true) : narrow t v = v := by rcases ref_cases hv with rfl | ⟨x, rfl⟩ <;> cases t <;> rfl
theorem k_retA {Q : Option Value → Heap → Prop} {kc ks : Nat} {v : Value} {t : FieldType} (C : KCx tbl nm cod ml (some t) p meth c Z a0) (P : KPos wd s' p l e R s m args below meth c Z own n0 h0 ws T h cells slots) (hd : decode cod pc = .ok (.areturn, 1)) (ht : t.isReference = true) (hv : v.isRef = true) (hc : cells ≤ kc) (hs : slots ≤ ks) (hQ : Q (some v) h) : KGo p e below (KEnd wd s n0 h0 ws Q kc ks) T m pc Ls (v :: st) :=
  k_retVal C P (fun q => nomatch q) hc hs hQ fun fs hr => by
    obtain ⟨L, X, -⟩ := P
    exact retOut X C.1 C.rtE (k_narrow_ref hv) (Or.inr (Or.inr (Or.inr (Or.inr ⟨rfl, ht, hv⟩)))) (hb C.cdE hd) hr
theorem k_10 : ¬ (1 : Int32) = 0 := by decide
theorem k_01 : (0 : Int32) = 0 := rfl
/-! ### branches -/
def CondP (cd : ClassFile.Cond) (x y : Int32) : Prop := match cd with | .eq => x = y | .ne => ¬ x = y | .lt => x < y | .ge => ¬ x < y | .gt => y < x | .le => ¬ y < x
def CondN (cd : ClassFile.Cond) (x y : Int32) : Prop := match cd with | .eq => ¬ x = y | .ne => x = y | .lt => ¬ x < y | .ge => x < y | .gt => ¬ y < x | .le => y < x
theorem k_condP {cd : ClassFile.Cond} {x y : Int32} (h : CondP cd x y) : if_icmp.holds cd x y = true := by
  cases cd <;> first | exact (teq h).1 | exact (feq h).2 | exact (tlt h).1 | exact (flt h).2.1 | exact (tlt h).2.2.1 | exact (flt h).2.2.2
theorem k_condN {cd : ClassFile.Cond} {x y : Int32} (h : CondN cd x y) : if_icmp.holds cd x y = false := by
  cases cd <;> first | exact (feq h).1 | exact (teq h).2 | exact (flt h).1 | exact (tlt h).2.1 | exact (flt h).2.2.1 | exact (tlt h).2.2.2
theorem k_condT {cd : ClassFile.Cond} (x y : Int32) : CondP cd x y ∨ CondN cd x y := by
  cases cd <;> simp only [CondP, CondN] <;> first | exact Classical.em _ | exact (Classical.em _).symm
theorem k_ifY {cd : ClassFile.Cond} {x : Int32} {o : Int} (C : KCx tbl nm cod ml ret p meth c Z a0) (P : KPos wd s' p l e R s m args below meth c Z own n0 h0 ws T h cells slots) (hd : decode cod pc = .ok (.ifCond cd o, 3)) (hc : CondP cd x 0) (ho : 0 ≤ (pc : Int) + o) {pc' : Nat} (hp : ((pc : Int) + o).toNat = pc') (k : KGo p e below K T m pc' Ls st) : KGo p e below K T m pc Ls (.int x :: st) :=
  k.step fun t q => XS.ifYes P.here C.1 rfl rfl (hb C.cdE hd) rfl ((if0 _ _).trans (k_condP hc)) ho hp q
theorem k_ifN {cd : ClassFile.Cond} {x : Int32} {o : Int} (C : KCx tbl nm cod ml ret p meth c Z a0) (P : KPos wd s' p l e R s m args below meth c Z own n0 h0 ws T h cells slots) (hd : decode cod pc = .ok (.ifCond cd o, 3)) (hc : CondN cd x 0) {pc' : Nat} (hp : pc + 3 = pc') (k : KGo p e below K T m pc' Ls st) : KGo p e below K T m pc Ls (.int x :: st) := by
  subst hp; exact k.step fun t q => XS.ifNo P.here C.1 rfl (hb C.cdE hd) rfl ((if0 _ _).trans (k_condN hc)) q
theorem k_ifB {cd : ClassFile.Cond} {x : Int32} {o : Int} (C : KCx tbl nm cod ml ret p meth c Z a0) (P : KPos wd s' p l e R s m args below meth c Z own n0 h0 ws T h cells slots) (hd : decode cod pc = .ok (.ifCond cd o, 3)) (ho : 0 ≤ (pc : Int) + o) {pcY pcN : Nat} (hp : ((pc : Int) + o).toNat = pcY) (hp' : pc + 3 = pcN) (kY : CondP cd x 0 → KGo p e below K T m pcY Ls st) (kN : CondN cd x 0 → KGo p e below K T m pcN Ls st) : KGo p e below K T m pc Ls (.int x :: st) :=
  (k_condT x 0).elim (fun q => k_ifY C P hd q ho hp (kY q)) (fun q => k_ifN C P hd q hp' (kN q))
theorem k_icY {cd : ClassFile.Cond} {x y : Int32} {o : Int} (C : KCx tbl nm cod ml ret p meth c Z a0) (P : KPos wd s' p l e R s m args below meth c Z own n0 h0 ws T h cells slots) (hd : decode cod pc = .ok (.if_icmp cd o, 3)) (hc : CondP cd x y) (ho : 0 ≤ (pc : Int) + o) {pc' : Nat} (hp : ((pc : Int) + o).toNat = pc') (k : KGo p e below K T m pc' Ls st) : KGo p e below K T m pc Ls (.int y :: .int x :: st) :=
  k.step fun t q => XS.icmpYes P.here C.1 rfl rfl (hb C.cdE hd) rfl (k_condP hc) ho hp q
theorem k_icN {cd : ClassFile.Cond} {x y : Int32} {o : Int} (C : KCx tbl nm cod ml ret p meth c Z a0) (P : KPos wd s' p l e R s m args below meth c Z own n0 h0 ws T h cells slots) (hd : decode cod pc = .ok (.if_icmp cd o, 3)) (hc : CondN cd x y) {pc' : Nat} (hp : pc + 3 = pc') (k : KGo p e below K T m pc' Ls st) : KGo p e below K T m pc Ls (.int y :: .int x :: st) := by
  subst hp; exact k.step fun t q => XS.icmpNo P.here C.1 rfl (hb C.cdE hd) rfl (k_condN hc) q
theorem k_icB {cd : ClassFile.Cond} {x y : Int32} {o : Int} (C : KCx tbl nm cod ml ret p meth c Z a0) (P : KPos wd s' p l e R s m args below meth c Z own n0 h0 ws T h cells slots) (hd : decode cod pc = .ok (.if_icmp cd o, 3)) (ho : 0 ≤ (pc : Int) + o) {pcY pcN : Nat} (hp : ((pc : Int) + o).toNat = pcY) (hp' : pc + 3 = pcN) (kY : CondP cd x y → KGo p e below K T m pcY Ls st) (kN : CondN cd x y → KGo p e below K T m pcN Ls st) : KGo p e below K T m pc Ls (.int y :: .int x :: st) :=
  (k_condT x y).elim (fun q => k_icY C P hd q ho hp (kY q)) (fun q => k_icN C P hd q hp' (kN q))
theorem k_goto {o : Int} (C : KCx tbl nm cod ml ret p meth c Z a0) (P : KPos wd s' p l e R s m args below meth c Z own n0 h0 ws T h cells slots) (hd : decode cod pc = .ok (.goto o, 3)) (ho : 0 ≤ (pc : Int) + o) {pc' : Nat} (hp : ((pc : Int) + o).toNat = pc') (k : KGo p e below K T m pc' Ls st) : KGo p e below K T m pc Ls st :=
  k.step fun t q => XS.goto P.here C.1 rfl rfl (hb C.cdE hd) ho hp q
theorem k_nullY {o : Int} (C : KCx tbl nm cod ml ret p meth c Z a0) (P : KPos wd s' p l e R s m args below meth c Z own n0 h0 ws T h cells slots) (hd : decode cod pc = .ok (.ifnull o, 3)) (ho : 0 ≤ (pc : Int) + o) {pc' : Nat} (hp : ((pc : Int) + o).toNat = pc') (k : KGo p e below K T m pc' Ls st) : KGo p e below K T m pc Ls (.null :: st) :=
  k.step fun t q => XS.ifnullYes P.here C.1 rfl rfl (hb C.cdE hd) rfl ho hp q
theorem k_nullN {o : Int} (C : KCx tbl nm cod ml ret p meth c Z a0) (P : KPos wd s' p l e R s m args below meth c Z own n0 h0 ws T h cells slots) (hd : decode cod pc = .ok (.ifnull o, 3)) {pc' : Nat} (hp : pc + 3 = pc') (k : KGo p e below K T m pc' Ls st) : KGo p e below K T m pc Ls (.ref a :: st) := by
  subst hp; exact k.step fun t q => XS.ifnullNo P.here C.1 rfl (hb C.cdE hd) rfl q
theorem k_nonnullY {o : Int} (C : KCx tbl nm cod ml ret p meth c Z a0) (P : KPos wd s' p l e R s m args below meth c Z own n0 h0 ws T h cells slots) (hd : decode cod pc = .ok (.ifnonnull o, 3)) (ho : 0 ≤ (pc : Int) + o) {pc' : Nat} (hp : ((pc : Int) + o).toNat = pc') (k : KGo p e below K T m pc' Ls st) : KGo p e below K T m pc Ls (.ref a :: st) :=
  k.step fun t q => XS.ifnonnullYes P.here C.1 rfl rfl (hb C.cdE hd) rfl ho hp q
theorem k_nonnullN {o : Int} (C : KCx tbl nm cod ml ret p meth c Z a0) (P : KPos wd s' p l e R s m args below meth c Z own n0 h0 ws T h cells slots) (hd : decode cod pc = .ok (.ifnonnull o, 3)) {pc' : Nat} (hp : pc + 3 = pc') (k : KGo p e below K T m pc' Ls st) : KGo p e below K T m pc Ls (.null :: st) := by
  subst hp; exact k.step fun t q => XS.ifnonnullNo P.here C.1 rfl (hb C.cdE hd) rfl q
theorem k_acB {cd : ClassFile.ACond} {x y : Value} {o : Int} (C : KCx tbl nm cod ml ret p meth c Z a0) (P : KPos wd s' p l e R s m args below meth c Z own n0 h0 ws T h cells slots) (hd : decode cod pc = .ok (.if_acmp cd o, 3)) (hx : x.isRef = true) (hy : y.isRef = true) (ho : 0 ≤ (pc : Int) + o) {pcY pcN : Nat} (hp : ((pc : Int) + o).toNat = pcY) (hp' : pc + 3 = pcN)
    (kY : XT.acmp cd x y = true → KGo p e below K T m pcY Ls st) (kN : XT.acmp cd x y = false → KGo p e below K T m pcN Ls st) : KGo p e below K T m pc Ls (y :: x :: st) := by
  cases q : XT.acmp cd x y
  · subst hp'; exact (kN q).step fun t r => XT.acmpNo P.here C.1 rfl (hb C.cdE hd) rfl hx hy q r
  · exact (kY q).step fun t r => XT.acmpYes P.here C.1 rfl rfl (hb C.cdE hd) rfl hx hy q ho hp r
/-- a condition laid on the stack as 1 or 0: if.., iconst, k_goto, iconst -/
theorem k_ternIf {cd : ClassFile.Cond} {x : Int32} {o : Int} {i j : Int} {vN vY : Int32} {Pp : Prop} [Decidable Pp] (C : KCx tbl nm cod ml ret p meth c Z a0) (P : KPos wd s' p l e R s m args below meth c Z own n0 h0 ws T h cells slots)
    (hd : decode cod pc = .ok (.ifCond cd o, 3)) {p1 p2 p3 p4 : Nat} (d1 : decode cod p1 = .ok (.iconst i, 1)) (d2 : decode cod p2 = .ok (.goto 4, 3)) (d3 : decode cod p3 = .ok (.iconst j, 1)) (q1 : pc + 3 = p1) (q2 : p1 + 1 = p2) (q3 : ((pc : Int) + o).toNat = p3) (q0 : 0 ≤ (pc : Int) + o) (q4 : p3 + 1 = p4) (q5 : p2 + 4 = p4)
    (hi : Int32.ofInt i = vN) (hj : Int32.ofInt j = vY) (hY : CondP cd x 0 → Pp) (hN : CondN cd x 0 → ¬ Pp) (k : KGo p e below K T m p4 Ls (.int (if Pp then vY else vN) :: st)) : KGo p e below K T m pc Ls (.int x :: st) := by
  refine k_ifB C P hd q0 q3 q1 (fun q => ?_) (fun q => ?_)
  · rw [if_pos (hY q)] at k
    subst q4 hj; exact k.step fun t r => XS.iconst P.here C.1 rfl (hb C.cdE d3) r
  · rw [if_neg (hN q)] at k
    subst hi q2
    have k2 : KGo p e below K T m (p1 + 1) Ls (.int (Int32.ofInt i) :: st) := k_goto C P d2 (by omega) (by omega) k
    exact k2.step fun t r => XS.iconst P.here C.1 rfl (hb C.cdE d1) r
theorem k_ternIc {cd : ClassFile.Cond} {x y : Int32} {o : Int} {i j : Int} {vN vY : Int32} {Pp : Prop} [Decidable Pp] (C : KCx tbl nm cod ml ret p meth c Z a0) (P : KPos wd s' p l e R s m args below meth c Z own n0 h0 ws T h cells slots)
    (hd : decode cod pc = .ok (.if_icmp cd o, 3)) {p1 p2 p3 p4 : Nat} (d1 : decode cod p1 = .ok (.iconst i, 1)) (d2 : decode cod p2 = .ok (.goto 4, 3)) (d3 : decode cod p3 = .ok (.iconst j, 1)) (q1 : pc + 3 = p1) (q2 : p1 + 1 = p2) (q3 : ((pc : Int) + o).toNat = p3) (q0 : 0 ≤ (pc : Int) + o) (q4 : p3 + 1 = p4) (q5 : p2 + 4 = p4)
    (hi : Int32.ofInt i = vN) (hj : Int32.ofInt j = vY) (hY : CondP cd x y → Pp) (hN : CondN cd x y → ¬ Pp) (k : KGo p e below K T m p4 Ls (.int (if Pp then vY else vN) :: st)) : KGo p e below K T m pc Ls (.int y :: .int x :: st) := by
  refine k_icB C P hd q0 q3 q1 (fun q => ?_) (fun q => ?_)
  · rw [if_pos (hY q)] at k
    subst q4 hj; exact k.step fun t r => XS.iconst P.here C.1 rfl (hb C.cdE d3) r
  · rw [if_neg (hN q)] at k
    subst hi q2
    have k2 : KGo p e below K T m (p1 + 1) Ls (.int (Int32.ofInt i) :: st) := k_goto C P d2 (by omega) (by omega) k
    exact k2.step fun t r => XS.iconst P.here C.1 rfl (hb C.cdE d1) r
theorem k_iload (C : KCx tbl nm cod ml ret p meth c Z a0) (P : KPos wd s' p l e R s m args below meth c Z own n0 h0 ws T h cells slots) {k : Nat} {v : Int32} (hd : decode cod pc = .ok (.iload k, 2)) (hl : Ls[k]? = some (.val (.int v))) {pc' : Nat} (hp : pc + 2 = pc') (k' : KGo p e below K T m pc' Ls (.int v :: st)) : KGo p e below K T m pc Ls (st) := by
  subst hp; exact k'.step fun t q => XS.iload P.here C.1 rfl (hb C.cdE hd) hl q
theorem k_iloadN (C : KCx tbl nm cod ml ret p meth c Z a0) (P : KPos wd s' p l e R s m args below meth c Z own n0 h0 ws T h cells slots) {k : Fin 4} {v : Int32} (hd : decode cod pc = .ok (.iload_n k, 1)) (hl : Ls[k.val]? = some (.val (.int v))) {pc' : Nat} (hp : pc + 1 = pc') (k' : KGo p e below K T m pc' Ls (.int v :: st)) : KGo p e below K T m pc Ls (st) := by
  subst hp; exact k'.step fun t q => XS.iloadN P.here C.1 rfl (hb C.cdE hd) hl q
theorem k_istore (C : KCx tbl nm cod ml ret p meth c Z a0) (P : KPos wd s' p l e R s m args below meth c Z own n0 h0 ws T h cells slots) {k : Nat} {x : Int32} {l' : Array Slot} (hd : decode cod pc = .ok (.istore k, 2)) (hl : storeLocals Ls k (.int x) = some l') {pc' : Nat} (hp : pc + 2 = pc') (k' : KGo p e below K T m pc' l' (st)) : KGo p e below K T m pc Ls (.int x :: st) := by
  subst hp; exact k'.step fun t q => XS.istore P.here C.1 rfl (hb C.cdE hd) rfl hl q
theorem k_istoreN (C : KCx tbl nm cod ml ret p meth c Z a0) (P : KPos wd s' p l e R s m args below meth c Z own n0 h0 ws T h cells slots) {k : Fin 4} {x : Int32} {l' : Array Slot} (hd : decode cod pc = .ok (.istore_n k, 1)) (hl : storeLocals Ls k.val (.int x) = some l') {pc' : Nat} (hp : pc + 1 = pc') (k' : KGo p e below K T m pc' l' (st)) : KGo p e below K T m pc Ls (.int x :: st) := by
  subst hp; exact k'.step fun t q => XS.istoreN P.here C.1 rfl (hb C.cdE hd) rfl hl q
theorem k_lload (C : KCx tbl nm cod ml ret p meth c Z a0) (P : KPos wd s' p l e R s m args below meth c Z own n0 h0 ws T h cells slots) {k : Nat} {v : Int64} (hd : decode cod pc = .ok (.lload k, 2)) (hl : Ls[k]? = some (.val (.long v))) {pc' : Nat} (hp : pc + 2 = pc') (k' : KGo p e below K T m pc' Ls (.long v :: st)) : KGo p e below K T m pc Ls (st) := by
  subst hp; exact k'.step fun t q => XS.lload P.here C.1 rfl (hb C.cdE hd) hl q
theorem k_lloadN (C : KCx tbl nm cod ml ret p meth c Z a0) (P : KPos wd s' p l e R s m args below meth c Z own n0 h0 ws T h cells slots) {k : Fin 4} {v : Int64} (hd : decode cod pc = .ok (.lload_n k, 1)) (hl : Ls[k.val]? = some (.val (.long v))) {pc' : Nat} (hp : pc + 1 = pc') (k' : KGo p e below K T m pc' Ls (.long v :: st)) : KGo p e below K T m pc Ls (st) := by
  subst hp; exact k'.step fun t q => XS.lloadN P.here C.1 rfl (hb C.cdE hd) hl q
theorem k_lstore (C : KCx tbl nm cod ml ret p meth c Z a0) (P : KPos wd s' p l e R s m args below meth c Z own n0 h0 ws T h cells slots) {k : Nat} {x : Int64} {l' : Array Slot} (hd : decode cod pc = .ok (.lstore k, 2)) (hl : storeLocals Ls k (.long x) = some l') {pc' : Nat} (hp : pc + 2 = pc') (k' : KGo p e below K T m pc' l' (st)) : KGo p e below K T m pc Ls (.long x :: st) := by
  subst hp; exact k'.step fun t q => XS.lstore P.here C.1 rfl (hb C.cdE hd) rfl hl q
theorem k_lstoreN (C : KCx tbl nm cod ml ret p meth c Z a0) (P : KPos wd s' p l e R s m args below meth c Z own n0 h0 ws T h cells slots) {k : Fin 4} {x : Int64} {l' : Array Slot} (hd : decode cod pc = .ok (.lstore_n k, 1)) (hl : storeLocals Ls k.val (.long x) = some l') {pc' : Nat} (hp : pc + 1 = pc') (k' : KGo p e below K T m pc' l' (st)) : KGo p e below K T m pc Ls (.long x :: st) := by
  subst hp; exact k'.step fun t q => XS.lstoreN P.here C.1 rfl (hb C.cdE hd) rfl hl q
theorem k_aload (C : KCx tbl nm cod ml ret p meth c Z a0) (P : KPos wd s' p l e R s m args below meth c Z own n0 h0 ws T h cells slots) {k : Nat} {v : Value} (hd : decode cod pc = .ok (.aload k, 2)) (hl : Ls[k]? = some (.val v)) (hv : v.isRef = true) {pc' : Nat} (hp : pc + 2 = pc') (k' : KGo p e below K T m pc' Ls (v :: st)) : KGo p e below K T m pc Ls (st) := by
  subst hp; exact k'.step fun t q => XS.aload P.here C.1 rfl (hb C.cdE hd) hl hv q
theorem k_aloadN (C : KCx tbl nm cod ml ret p meth c Z a0) (P : KPos wd s' p l e R s m args below meth c Z own n0 h0 ws T h cells slots) {k : Fin 4} {v : Value} (hd : decode cod pc = .ok (.aload_n k, 1)) (hl : Ls[k.val]? = some (.val v)) (hv : v.isRef = true) {pc' : Nat} (hp : pc + 1 = pc') (k' : KGo p e below K T m pc' Ls (v :: st)) : KGo p e below K T m pc Ls (st) := by
  subst hp; exact k'.step fun t q => XS.aloadN P.here C.1 rfl (hb C.cdE hd) hl hv q
theorem k_astore (C : KCx tbl nm cod ml ret p meth c Z a0) (P : KPos wd s' p l e R s m args below meth c Z own n0 h0 ws T h cells slots) {k : Nat} {x : Value} {l' : Array Slot} (hd : decode cod pc = .ok (.astore k, 2)) (hv : x.isRef = true) (hl : storeLocals Ls k x = some l') {pc' : Nat} (hp : pc + 2 = pc') (k' : KGo p e below K T m pc' l' (st)) : KGo p e below K T m pc Ls (x :: st) := by
  subst hp; exact k'.step fun t q => XS.astore P.here C.1 rfl (hb C.cdE hd) rfl hv hl q
theorem k_astoreN (C : KCx tbl nm cod ml ret p meth c Z a0) (P : KPos wd s' p l e R s m args below meth c Z own n0 h0 ws T h cells slots) {k : Fin 4} {x : Value} {l' : Array Slot} (hd : decode cod pc = .ok (.astore_n k, 1)) (hv : x.isRef = true) (hl : storeLocals Ls k.val x = some l') {pc' : Nat} (hp : pc + 1 = pc') (k' : KGo p e below K T m pc' l' (st)) : KGo p e below K T m pc Ls (x :: st) := by
  subst hp; exact k'.step fun t q => XS.astoreN P.here C.1 rfl (hb C.cdE hd) rfl hv hl q
theorem k_iconst (C : KCx tbl nm cod ml ret p meth c Z a0) (P : KPos wd s' p l e R s m args below meth c Z own n0 h0 ws T h cells slots) {i : Int} {z : Int32} (hd : decode cod pc = .ok (.iconst i, 1)) (hz : Int32.ofInt i = z) {pc' : Nat} (hp : pc + 1 = pc') (k' : KGo p e below K T m pc' Ls (.int z :: st)) : KGo p e below K T m pc Ls (st) := by
  subst hp; exact k'.step fun t q => XS.iconst P.here C.1 rfl (hb C.cdE hd) (hz ▸ q)
theorem k_bipush (C : KCx tbl nm cod ml ret p meth c Z a0) (P : KPos wd s' p l e R s m args below meth c Z own n0 h0 ws T h cells slots) {i : Int} {z : Int32} (hd : decode cod pc = .ok (.bipush i, 2)) (hz : (Int8.ofInt i).toInt32 = z) {pc' : Nat} (hp : pc + 2 = pc') (k' : KGo p e below K T m pc' Ls (.int z :: st)) : KGo p e below K T m pc Ls (st) := by
  subst hp; exact k'.step fun t q => XS.bipush P.here C.1 rfl (hb C.cdE hd) (hz ▸ q)
theorem k_sipush (C : KCx tbl nm cod ml ret p meth c Z a0) (P : KPos wd s' p l e R s m args below meth c Z own n0 h0 ws T h cells slots) {i : Int} {z : Int32} (hd : decode cod pc = .ok (.sipush i, 3)) (hz : (Int16.ofInt i).toInt32 = z) {pc' : Nat} (hp : pc + 3 = pc') (k' : KGo p e below K T m pc' Ls (.int z :: st)) : KGo p e below K T m pc Ls (st) := by
  subst hp; exact k'.step fun t q => XS.sipush P.here C.1 rfl (hb C.cdE hd) (hz ▸ q)
theorem k_lconst (C : KCx tbl nm cod ml ret p meth c Z a0) (P : KPos wd s' p l e R s m args below meth c Z own n0 h0 ws T h cells slots) {i : Fin 2} {z : Int64} (hd : decode cod pc = .ok (.lconst i, 1)) (hz : Int64.ofNat i = z) {pc' : Nat} (hp : pc + 1 = pc') (k' : KGo p e below K T m pc' Ls (.long z :: st)) : KGo p e below K T m pc Ls (st) := by
  subst hp; exact k'.step fun t q => XS.lconst P.here C.1 rfl (hb C.cdE hd) (hz ▸ q)
theorem k_aconstNull (C : KCx tbl nm cod ml ret p meth c Z a0) (P : KPos wd s' p l e R s m args below meth c Z own n0 h0 ws T h cells slots)  (hd : decode cod pc = .ok (.aconst_null, 1))  {pc' : Nat} (hp : pc + 1 = pc') (k' : KGo p e below K T m pc' Ls (.null :: st)) : KGo p e below K T m pc Ls (st) := by
  subst hp; exact k'.step fun t q => XS.aconstNull P.here C.1 rfl (hb C.cdE hd) q
theorem k_iadd (C : KCx tbl nm cod ml ret p meth c Z a0) (P : KPos wd s' p l e R s m args below meth c Z own n0 h0 ws T h cells slots) {x y : Int32} (hd : decode cod pc = .ok (.iadd, 1))  {pc' : Nat} (hp : pc + 1 = pc') (k' : KGo p e below K T m pc' Ls (.int (x + y) :: st)) : KGo p e below K T m pc Ls (.int y :: .int x :: st) := by
  subst hp; exact k'.step fun t q => XS.iadd P.here C.1 rfl (hb C.cdE hd) rfl q
theorem k_isub (C : KCx tbl nm cod ml ret p meth c Z a0) (P : KPos wd s' p l e R s m args below meth c Z own n0 h0 ws T h cells slots) {x y : Int32} (hd : decode cod pc = .ok (.isub, 1))  {pc' : Nat} (hp : pc + 1 = pc') (k' : KGo p e below K T m pc' Ls (.int (x - y) :: st)) : KGo p e below K T m pc Ls (.int y :: .int x :: st) := by
  subst hp; exact k'.step fun t q => XS.isub P.here C.1 rfl (hb C.cdE hd) rfl q
theorem k_imul (C : KCx tbl nm cod ml ret p meth c Z a0) (P : KPos wd s' p l e R s m args below meth c Z own n0 h0 ws T h cells slots) {x y : Int32} (hd : decode cod pc = .ok (.imul, 1))  {pc' : Nat} (hp : pc + 1 = pc') (k' : KGo p e below K T m pc' Ls (.int (x * y) :: st)) : KGo p e below K T m pc Ls (.int y :: .int x :: st) := by
  subst hp; exact k'.step fun t q => XS.imul P.here C.1 rfl (hb C.cdE hd) rfl q
theorem k_iand (C : KCx tbl nm cod ml ret p meth c Z a0) (P : KPos wd s' p l e R s m args below meth c Z own n0 h0 ws T h cells slots) {x y : Int32} (hd : decode cod pc = .ok (.iand, 1))  {pc' : Nat} (hp : pc + 1 = pc') (k' : KGo p e below K T m pc' Ls (.int (x &&& y) :: st)) : KGo p e below K T m pc Ls (.int y :: .int x :: st) := by
  subst hp; exact k'.step fun t q => XS.iand P.here C.1 rfl (hb C.cdE hd) rfl q
theorem k_ior (C : KCx tbl nm cod ml ret p meth c Z a0) (P : KPos wd s' p l e R s m args below meth c Z own n0 h0 ws T h cells slots) {x y : Int32} (hd : decode cod pc = .ok (.ior, 1))  {pc' : Nat} (hp : pc + 1 = pc') (k' : KGo p e below K T m pc' Ls (.int (x ||| y) :: st)) : KGo p e below K T m pc Ls (.int y :: .int x :: st) := by
  subst hp; exact k'.step fun t q => XS.ior P.here C.1 rfl (hb C.cdE hd) rfl q
theorem k_ixor (C : KCx tbl nm cod ml ret p meth c Z a0) (P : KPos wd s' p l e R s m args below meth c Z own n0 h0 ws T h cells slots) {x y : Int32} (hd : decode cod pc = .ok (.ixor, 1))  {pc' : Nat} (hp : pc + 1 = pc') (k' : KGo p e below K T m pc' Ls (.int (x ^^^ y) :: st)) : KGo p e below K T m pc Ls (.int y :: .int x :: st) := by
  subst hp; exact k'.step fun t q => XS.ixor P.here C.1 rfl (hb C.cdE hd) rfl q
theorem k_ishl (C : KCx tbl nm cod ml ret p meth c Z a0) (P : KPos wd s' p l e R s m args below meth c Z own n0 h0 ws T h cells slots) {x y : Int32} (hd : decode cod pc = .ok (.ishl, 1))  {pc' : Nat} (hp : pc + 1 = pc') (k' : KGo p e below K T m pc' Ls (.int (x <<< (y &&& 31)) :: st)) : KGo p e below K T m pc Ls (.int y :: .int x :: st) := by
  subst hp; exact k'.step fun t q => XS.ishl P.here C.1 rfl (hb C.cdE hd) rfl q
theorem k_ishr (C : KCx tbl nm cod ml ret p meth c Z a0) (P : KPos wd s' p l e R s m args below meth c Z own n0 h0 ws T h cells slots) {x y : Int32} (hd : decode cod pc = .ok (.ishr, 1))  {pc' : Nat} (hp : pc + 1 = pc') (k' : KGo p e below K T m pc' Ls (.int (x >>> (y &&& 31)) :: st)) : KGo p e below K T m pc Ls (.int y :: .int x :: st) := by
  subst hp; exact k'.step fun t q => XS.ishr P.here C.1 rfl (hb C.cdE hd) rfl q
theorem k_iushr (C : KCx tbl nm cod ml ret p meth c Z a0) (P : KPos wd s' p l e R s m args below meth c Z own n0 h0 ws T h cells slots) {x y : Int32} (hd : decode cod pc = .ok (.iushr, 1))  {pc' : Nat} (hp : pc + 1 = pc') (k' : KGo p e below K T m pc' Ls (.int (k_ushr x y) :: st)) : KGo p e below K T m pc Ls (.int y :: .int x :: st) := by
  subst hp; exact k'.step fun t q => XS.iushr P.here C.1 rfl (hb C.cdE hd) rfl q
theorem k_ladd (C : KCx tbl nm cod ml ret p meth c Z a0) (P : KPos wd s' p l e R s m args below meth c Z own n0 h0 ws T h cells slots) {x y : Int64} (hd : decode cod pc = .ok (.ladd, 1))  {pc' : Nat} (hp : pc + 1 = pc') (k' : KGo p e below K T m pc' Ls (.long (x + y) :: st)) : KGo p e below K T m pc Ls (.long y :: .long x :: st) := by
  subst hp; exact k'.step fun t q => XS.ladd P.here C.1 rfl (hb C.cdE hd) rfl q
theorem k_lsub (C : KCx tbl nm cod ml ret p meth c Z a0) (P : KPos wd s' p l e R s m args below meth c Z own n0 h0 ws T h cells slots) {x y : Int64} (hd : decode cod pc = .ok (.lsub, 1))  {pc' : Nat} (hp : pc + 1 = pc') (k' : KGo p e below K T m pc' Ls (.long (x - y) :: st)) : KGo p e below K T m pc Ls (.long y :: .long x :: st) := by
  subst hp; exact k'.step fun t q => XS.lsub P.here C.1 rfl (hb C.cdE hd) rfl q
theorem k_lmul (C : KCx tbl nm cod ml ret p meth c Z a0) (P : KPos wd s' p l e R s m args below meth c Z own n0 h0 ws T h cells slots) {x y : Int64} (hd : decode cod pc = .ok (.lmul, 1))  {pc' : Nat} (hp : pc + 1 = pc') (k' : KGo p e below K T m pc' Ls (.long (x * y) :: st)) : KGo p e below K T m pc Ls (.long y :: .long x :: st) := by
  subst hp; exact k'.step fun t q => XS.lmul P.here C.1 rfl (hb C.cdE hd) rfl q
theorem k_land (C : KCx tbl nm cod ml ret p meth c Z a0) (P : KPos wd s' p l e R s m args below meth c Z own n0 h0 ws T h cells slots) {x y : Int64} (hd : decode cod pc = .ok (.land, 1))  {pc' : Nat} (hp : pc + 1 = pc') (k' : KGo p e below K T m pc' Ls (.long (x &&& y) :: st)) : KGo p e below K T m pc Ls (.long y :: .long x :: st) := by
  subst hp; exact k'.step fun t q => XS.land P.here C.1 rfl (hb C.cdE hd) rfl q
theorem k_lor (C : KCx tbl nm cod ml ret p meth c Z a0) (P : KPos wd s' p l e R s m args below meth c Z own n0 h0 ws T h cells slots) {x y : Int64} (hd : decode cod pc = .ok (.lor, 1))  {pc' : Nat} (hp : pc + 1 = pc') (k' : KGo p e below K T m pc' Ls (.long (x ||| y) :: st)) : KGo p e below K T m pc Ls (.long y :: .long x :: st) := by
  subst hp; exact k'.step fun t q => XS.lor P.here C.1 rfl (hb C.cdE hd) rfl q
theorem k_lxor (C : KCx tbl nm cod ml ret p meth c Z a0) (P : KPos wd s' p l e R s m args below meth c Z own n0 h0 ws T h cells slots) {x y : Int64} (hd : decode cod pc = .ok (.lxor, 1))  {pc' : Nat} (hp : pc + 1 = pc') (k' : KGo p e below K T m pc' Ls (.long (x ^^^ y) :: st)) : KGo p e below K T m pc Ls (.long y :: .long x :: st) := by
  subst hp; exact k'.step fun t q => XS.lxor P.here C.1 rfl (hb C.cdE hd) rfl q
theorem k_lshl (C : KCx tbl nm cod ml ret p meth c Z a0) (P : KPos wd s' p l e R s m args below meth c Z own n0 h0 ws T h cells slots) {x : Int64} {y : Int32} (hd : decode cod pc = .ok (.lshl, 1))  {pc' : Nat} (hp : pc + 1 = pc') (k' : KGo p e below K T m pc' Ls (.long (x <<< (y &&& 63).toInt64) :: st)) : KGo p e below K T m pc Ls (.int y :: .long x :: st) := by
  subst hp; exact k'.step fun t q => XS.lshl P.here C.1 rfl (hb C.cdE hd) rfl q
theorem k_lshr (C : KCx tbl nm cod ml ret p meth c Z a0) (P : KPos wd s' p l e R s m args below meth c Z own n0 h0 ws T h cells slots) {x : Int64} {y : Int32} (hd : decode cod pc = .ok (.lshr, 1))  {pc' : Nat} (hp : pc + 1 = pc') (k' : KGo p e below K T m pc' Ls (.long (x >>> (y &&& 63).toInt64) :: st)) : KGo p e below K T m pc Ls (.int y :: .long x :: st) := by
  subst hp; exact k'.step fun t q => XS.lshr P.here C.1 rfl (hb C.cdE hd) rfl q
theorem k_lushr (C : KCx tbl nm cod ml ret p meth c Z a0) (P : KPos wd s' p l e R s m args below meth c Z own n0 h0 ws T h cells slots) {x : Int64} {y : Int32} (hd : decode cod pc = .ok (.lushr, 1))  {pc' : Nat} (hp : pc + 1 = pc') (k' : KGo p e below K T m pc' Ls (.long (k_ushrL x y) :: st)) : KGo p e below K T m pc Ls (.int y :: .long x :: st) := by
  subst hp; exact k'.step fun t q => XS.lushr P.here C.1 rfl (hb C.cdE hd) rfl q
theorem k_lcmp (C : KCx tbl nm cod ml ret p meth c Z a0) (P : KPos wd s' p l e R s m args below meth c Z own n0 h0 ws T h cells slots) {x y : Int64} (hd : decode cod pc = .ok (.lcmp, 1))  {pc' : Nat} (hp : pc + 1 = pc') (k' : KGo p e below K T m pc' Ls (.int (k_cmpL x y) :: st)) : KGo p e below K T m pc Ls (.long y :: .long x :: st) := by
  subst hp; exact k'.step fun t q => XS.lcmp P.here C.1 rfl (hb C.cdE hd) rfl q
theorem k_i2l (C : KCx tbl nm cod ml ret p meth c Z a0) (P : KPos wd s' p l e R s m args below meth c Z own n0 h0 ws T h cells slots) {x : Int32} (hd : decode cod pc = .ok (.i2l, 1))  {pc' : Nat} (hp : pc + 1 = pc') (k' : KGo p e below K T m pc' Ls (.long (x.toInt64) :: st)) : KGo p e below K T m pc Ls (.int x :: st) := by
  subst hp; exact k'.step fun t q => XS.i2l P.here C.1 rfl (hb C.cdE hd) rfl q
theorem k_l2i (C : KCx tbl nm cod ml ret p meth c Z a0) (P : KPos wd s' p l e R s m args below meth c Z own n0 h0 ws T h cells slots) {x : Int64} (hd : decode cod pc = .ok (.l2i, 1))  {pc' : Nat} (hp : pc + 1 = pc') (k' : KGo p e below K T m pc' Ls (.int (x.toInt32) :: st)) : KGo p e below K T m pc Ls (.long x :: st) := by
  subst hp; exact k'.step fun t q => XS.l2i P.here C.1 rfl (hb C.cdE hd) rfl q
theorem k_i2b (C : KCx tbl nm cod ml ret p meth c Z a0) (P : KPos wd s' p l e R s m args below meth c Z own n0 h0 ws T h cells slots) {x : Int32} (hd : decode cod pc = .ok (.i2b, 1))  {pc' : Nat} (hp : pc + 1 = pc') (k' : KGo p e below K T m pc' Ls (.int (x.toInt8.toInt32) :: st)) : KGo p e below K T m pc Ls (.int x :: st) := by
  subst hp; exact k'.step fun t q => XS.i2b P.here C.1 rfl (hb C.cdE hd) rfl q
theorem k_i2c (C : KCx tbl nm cod ml ret p meth c Z a0) (P : KPos wd s' p l e R s m args below meth c Z own n0 h0 ws T h cells slots) {x : Int32} (hd : decode cod pc = .ok (.i2c, 1))  {pc' : Nat} (hp : pc + 1 = pc') (k' : KGo p e below K T m pc' Ls (.int (x.toUInt32.toUInt16.toUInt32.toInt32) :: st)) : KGo p e below K T m pc Ls (.int x :: st) := by
  subst hp; exact k'.step fun t q => XS.i2c P.here C.1 rfl (hb C.cdE hd) rfl q
theorem k_i2s (C : KCx tbl nm cod ml ret p meth c Z a0) (P : KPos wd s' p l e R s m args below meth c Z own n0 h0 ws T h cells slots) {x : Int32} (hd : decode cod pc = .ok (.i2s, 1))  {pc' : Nat} (hp : pc + 1 = pc') (k' : KGo p e below K T m pc' Ls (.int (x.toInt16.toInt32) :: st)) : KGo p e below K T m pc Ls (.int x :: st) := by
  subst hp; exact k'.step fun t q => XS.i2s P.here C.1 rfl (hb C.cdE hd) rfl q
theorem k_ineg (C : KCx tbl nm cod ml ret p meth c Z a0) (P : KPos wd s' p l e R s m args below meth c Z own n0 h0 ws T h cells slots) {x : Int32} (hd : decode cod pc = .ok (.ineg, 1))  {pc' : Nat} (hp : pc + 1 = pc') (k' : KGo p e below K T m pc' Ls (.int (-x) :: st)) : KGo p e below K T m pc Ls (.int x :: st) := by
  subst hp; exact k'.step fun t q => XS.ineg P.here C.1 rfl (hb C.cdE hd) rfl q
theorem k_lneg (C : KCx tbl nm cod ml ret p meth c Z a0) (P : KPos wd s' p l e R s m args below meth c Z own n0 h0 ws T h cells slots) {x : Int64} (hd : decode cod pc = .ok (.lneg, 1))  {pc' : Nat} (hp : pc + 1 = pc') (k' : KGo p e below K T m pc' Ls (.long (-x) :: st)) : KGo p e below K T m pc Ls (.long x :: st) := by
  subst hp; exact k'.step fun t q => XS.lneg P.here C.1 rfl (hb C.cdE hd) rfl q
theorem k_irem (C : KCx tbl nm cod ml ret p meth c Z a0) (P : KPos wd s' p l e R s m args below meth c Z own n0 h0 ws T h cells slots) {x y : Int32} (hd : decode cod pc = .ok (.irem, 1)) (hy : y ≠ 0) {pc' : Nat} (hp : pc + 1 = pc') (k' : KGo p e below K T m pc' Ls (.int (x % y) :: st)) : KGo p e below K T m pc Ls (.int y :: .int x :: st) := by
  subst hp; exact k'.step fun t q => XS.irem P.here C.1 rfl (hb C.cdE hd) rfl hy (by rw [irem_eq_mod]; exact q)
theorem k_idiv (C : KCx tbl nm cod ml ret p meth c Z a0) (P : KPos wd s' p l e R s m args below meth c Z own n0 h0 ws T h cells slots) {x y : Int32} (hd : decode cod pc = .ok (.idiv, 1)) (hy : y ≠ 0) {pc' : Nat} (hp : pc + 1 = pc') (k' : KGo p e below K T m pc' Ls (.int (x / y) :: st)) : KGo p e below K T m pc Ls (.int y :: .int x :: st) := by
  subst hp; exact k'.step fun t q => XS.idiv P.here C.1 rfl (hb C.cdE hd) rfl hy q
theorem k_iinc (C : KCx tbl nm cod ml ret p meth c Z a0) (P : KPos wd s' p l e R s m args below meth c Z own n0 h0 ws T h cells slots) {k : Nat} {cst : Int} {x z : Int32} {l' : Array Slot} (hd : decode cod pc = .ok (.iinc k cst, 3)) (hl : Ls[k]? = some (.val (.int x))) (hz : x + Int32.ofInt cst = z) (hl' : storeLocals Ls k (.int z) = some l') {pc' : Nat} (hp : pc + 3 = pc') (k' : KGo p e below K T m pc' l' (st)) : KGo p e below K T m pc Ls (st) := by
  subst hp; exact k'.step fun t q => XS.iinc P.here C.1 rfl (hb C.cdE hd) hl (hz ▸ hl') q
theorem k_dup (C : KCx tbl nm cod ml ret p meth c Z a0) (P : KPos wd s' p l e R s m args below meth c Z own n0 h0 ws T h cells slots) {x : Value} (hd : decode cod pc = .ok (.dup, 1)) (hc : x.category = 1) {pc' : Nat} (hp : pc + 1 = pc') (k' : KGo p e below K T m pc' Ls (x :: x :: st)) : KGo p e below K T m pc Ls (x :: st) := by
  subst hp; exact k'.step fun t q => XS.dup P.here C.1 rfl (hb C.cdE hd) rfl hc q
theorem k_pop (C : KCx tbl nm cod ml ret p meth c Z a0) (P : KPos wd s' p l e R s m args below meth c Z own n0 h0 ws T h cells slots) {x : Value} (hd : decode cod pc = .ok (.pop, 1)) (hc : x.category = 1) {pc' : Nat} (hp : pc + 1 = pc') (k' : KGo p e below K T m pc' Ls (st)) : KGo p e below K T m pc Ls (x :: st) := by
  subst hp; exact k'.step fun t q => XS.pop P.here C.1 rfl (hb C.cdE hd) rfl hc q
theorem k_dupX1 (C : KCx tbl nm cod ml ret p meth c Z a0) (P : KPos wd s' p l e R s m args below meth c Z own n0 h0 ws T h cells slots) {x y : Value} (hd : decode cod pc = .ok (.dup_x1, 1)) (hc : x.category = 1) (hc' : y.category = 1) {pc' : Nat} (hp : pc + 1 = pc') (k' : KGo p e below K T m pc' Ls (x :: y :: x :: st)) : KGo p e below K T m pc Ls (x :: y :: st) := by
  subst hp; exact k'.step fun t q => XS.dupX1 P.here C.1 rfl (hb C.cdE hd) rfl hc hc' q
theorem k_dup2 (C : KCx tbl nm cod ml ret p meth c Z a0) (P : KPos wd s' p l e R s m args below meth c Z own n0 h0 ws T h cells slots) {x y : Value} (hd : decode cod pc = .ok (.dup2, 1)) (hc : x.category = 1) (hc' : y.category = 1) {pc' : Nat} (hp : pc + 1 = pc') (k' : KGo p e below K T m pc' Ls (x :: y :: x :: y :: st)) : KGo p e below K T m pc Ls (x :: y :: st) := by
  subst hp; exact k'.step fun t q => XT.dup2 P.here C.1 rfl (hb C.cdE hd) rfl hc hc' q
theorem k_dload (C : KCx tbl nm cod ml ret p meth c Z a0) (P : KPos wd s' p l e R s m args below meth c Z own n0 h0 ws T h cells slots) {k : Nat} {v : UInt64} (hd : decode cod pc = .ok (.dload k, 2)) (hl : Ls[k]? = some (.val (.double v))) {pc' : Nat} (hp : pc + 2 = pc') (k' : KGo p e below K T m pc' Ls (.double v :: st)) : KGo p e below K T m pc Ls (st) := by
  subst hp; exact k'.step fun t q => XS.dload P.here C.1 rfl (hb C.cdE hd) hl q
theorem k_dloadN (C : KCx tbl nm cod ml ret p meth c Z a0) (P : KPos wd s' p l e R s m args below meth c Z own n0 h0 ws T h cells slots) {k : Fin 4} {v : UInt64} (hd : decode cod pc = .ok (.dload_n k, 1)) (hl : Ls[k.val]? = some (.val (.double v))) {pc' : Nat} (hp : pc + 1 = pc') (k' : KGo p e below K T m pc' Ls (.double v :: st)) : KGo p e below K T m pc Ls (st) := by
  subst hp; exact k'.step fun t q => XS.dloadN P.here C.1 rfl (hb C.cdE hd) hl q
theorem k_dstore (C : KCx tbl nm cod ml ret p meth c Z a0) (P : KPos wd s' p l e R s m args below meth c Z own n0 h0 ws T h cells slots) {k : Nat} {x : UInt64} {l' : Array Slot} (hd : decode cod pc = .ok (.dstore k, 2)) (hl : storeLocals Ls k (.double x) = some l') {pc' : Nat} (hp : pc + 2 = pc') (k' : KGo p e below K T m pc' l' (st)) : KGo p e below K T m pc Ls (.double x :: st) := by
  subst hp; exact k'.step fun t q => XS.dstore P.here C.1 rfl (hb C.cdE hd) rfl hl q
theorem k_dstoreN (C : KCx tbl nm cod ml ret p meth c Z a0) (P : KPos wd s' p l e R s m args below meth c Z own n0 h0 ws T h cells slots) {k : Fin 4} {x : UInt64} {l' : Array Slot} (hd : decode cod pc = .ok (.dstore_n k, 1)) (hl : storeLocals Ls k.val (.double x) = some l') {pc' : Nat} (hp : pc + 1 = pc') (k' : KGo p e below K T m pc' l' (st)) : KGo p e below K T m pc Ls (.double x :: st) := by
  subst hp; exact k'.step fun t q => XS.dstoreN P.here C.1 rfl (hb C.cdE hd) rfl hl q
theorem k_dconst0 (C : KCx tbl nm cod ml ret p meth c Z a0) (P : KPos wd s' p l e R s m args below meth c Z own n0 h0 ws T h cells slots) {z : UInt64} (hd : decode cod pc = .ok (.dconst 0, 1)) (hz : FP.dconst0 = z) {pc' : Nat} (hp : pc + 1 = pc') (k' : KGo p e below K T m pc' Ls (.double z :: st)) : KGo p e below K T m pc Ls (st) := by
  subst hp; exact k'.step fun t q => XS.dconst0 P.here C.1 rfl (hb C.cdE hd) hz q
theorem k_dconst1 (C : KCx tbl nm cod ml ret p meth c Z a0) (P : KPos wd s' p l e R s m args below meth c Z own n0 h0 ws T h cells slots) {z : UInt64} (hd : decode cod pc = .ok (.dconst 1, 1)) (hz : FP.dconst1 = z) {pc' : Nat} (hp : pc + 1 = pc') (k' : KGo p e below K T m pc' Ls (.double z :: st)) : KGo p e below K T m pc Ls (st) := by
  subst hp; exact k'.step fun t q => XS.dconst1 P.here C.1 rfl (hb C.cdE hd) hz q
theorem k_i2d (C : KCx tbl nm cod ml ret p meth c Z a0) (P : KPos wd s' p l e R s m args below meth c Z own n0 h0 ws T h cells slots) {x : Int32} (hd : decode cod pc = .ok (.i2d, 1))  {pc' : Nat} (hp : pc + 1 = pc') (k' : KGo p e below K T m pc' Ls (.double (FP.i2d x) :: st)) : KGo p e below K T m pc Ls (.int x :: st) := by
  subst hp; exact k'.step fun t q => XS.i2dS P.here C.1 rfl (hb C.cdE hd) rfl rfl q
theorem k_l2d (C : KCx tbl nm cod ml ret p meth c Z a0) (P : KPos wd s' p l e R s m args below meth c Z own n0 h0 ws T h cells slots) {x : Int64} (hd : decode cod pc = .ok (.l2d, 1))  {pc' : Nat} (hp : pc + 1 = pc') (k' : KGo p e below K T m pc' Ls (.double (FP.l2d x) :: st)) : KGo p e below K T m pc Ls (.long x :: st) := by
  subst hp; exact k'.step fun t q => XS.l2dS P.here C.1 rfl (hb C.cdE hd) rfl rfl q
theorem k_dneg (C : KCx tbl nm cod ml ret p meth c Z a0) (P : KPos wd s' p l e R s m args below meth c Z own n0 h0 ws T h cells slots) {x : UInt64} (hd : decode cod pc = .ok (.dneg, 1))  {pc' : Nat} (hp : pc + 1 = pc') (k' : KGo p e below K T m pc' Ls (.double (FP.dneg x) :: st)) : KGo p e below K T m pc Ls (.double x :: st) := by
  subst hp; exact k'.step fun t q => XS.dnegS P.here C.1 rfl (hb C.cdE hd) rfl rfl q
theorem k_dcmp (C : KCx tbl nm cod ml ret p meth c Z a0) (P : KPos wd s' p l e R s m args below meth c Z own n0 h0 ws T h cells slots) {o : CmpOp} {x y : UInt64} {z : Int32} (hd : decode cod pc = .ok (.dcmp o, 1)) (hz : cmpValue (FP.dcmp x y) o = z) {pc' : Nat} (hp : pc + 1 = pc') (k' : KGo p e below K T m pc' Ls (.int z :: st)) : KGo p e below K T m pc Ls (.double y :: .double x :: st) := by
  subst hp; exact k'.step fun t q => XS.dcmpS P.here C.1 rfl (hb C.cdE hd) rfl hz q
theorem k_dadd (C : KCx tbl nm cod ml ret p meth c Z a0) (P : KPos wd s' p l e R s m args below meth c Z own n0 h0 ws T h cells slots) {x y z : UInt64} (hd : decode cod pc = .ok (.dadd, 1)) (hn : Jvm.Free.Fl.NoNaN64 (FP.dadd x y)) (hz : FP.dadd x y = z) {pc' : Nat} (hp : pc + 1 = pc') (k' : KGo p e below K T m pc' Ls (.double z :: st)) : KGo p e below K T m pc Ls (.double y :: .double x :: st) := by
  subst hp; exact k'.step fun t q => XS.daddS P.here C.1 rfl (hb C.cdE hd) rfl hn hz q
theorem k_dsub (C : KCx tbl nm cod ml ret p meth c Z a0) (P : KPos wd s' p l e R s m args below meth c Z own n0 h0 ws T h cells slots) {x y z : UInt64} (hd : decode cod pc = .ok (.dsub, 1)) (hn : Jvm.Free.Fl.NoNaN64 (FP.dsub x y)) (hz : FP.dsub x y = z) {pc' : Nat} (hp : pc + 1 = pc') (k' : KGo p e below K T m pc' Ls (.double z :: st)) : KGo p e below K T m pc Ls (.double y :: .double x :: st) := by
  subst hp; exact k'.step fun t q => XS.dsubS P.here C.1 rfl (hb C.cdE hd) rfl hn hz q
theorem k_dmul (C : KCx tbl nm cod ml ret p meth c Z a0) (P : KPos wd s' p l e R s m args below meth c Z own n0 h0 ws T h cells slots) {x y z : UInt64} (hd : decode cod pc = .ok (.dmul, 1)) (hn : Jvm.Free.Fl.NoNaN64 (FP.dmul x y)) (hz : FP.dmul x y = z) {pc' : Nat} (hp : pc + 1 = pc') (k' : KGo p e below K T m pc' Ls (.double z :: st)) : KGo p e below K T m pc Ls (.double y :: .double x :: st) := by
  subst hp; exact k'.step fun t q => XS.dmulS P.here C.1 rfl (hb C.cdE hd) rfl hn hz q
theorem k_ddiv (C : KCx tbl nm cod ml ret p meth c Z a0) (P : KPos wd s' p l e R s m args below meth c Z own n0 h0 ws T h cells slots) {x y z : UInt64} (hd : decode cod pc = .ok (.ddiv, 1)) (hn : Jvm.Free.Fl.NoNaN64 (FP.ddiv x y)) (hz : FP.ddiv x y = z) {pc' : Nat} (hp : pc + 1 = pc') (k' : KGo p e below K T m pc' Ls (.double z :: st)) : KGo p e below K T m pc Ls (.double y :: .double x :: st) := by
  subst hp; exact k'.step fun t q => XS.ddivS P.here C.1 rfl (hb C.cdE hd) rfl hn hz q
/-! ### objects and arrays -/
def KOb (Z : State) (h : Heap) (a : Addr) (Cn : String) (lay : List (String × String × String)) (vs : List Value) : Prop :=
  Exa Z h a Cn ∧ lay.length = vs.length ∧ ∀ (i : Nat) (O n d : String) (v : Value), lay[i]? = some (O, n, d) → vs[i]? = some v → Fld Z h a O n d v
def KLay (Z : State) (a0 : Array Value) (Cn : String) (lay : List (String × String × String)) : Prop :=
  (∀ x ∈ lay, Laid Z a0 Cn x.1 x.2.1 x.2.2 ∧ (parseFieldDescriptor x.2.2).isSome = true) ∧ (lay.map (·.2.1)).Nodup
def KVA (Z : State) (h : Heap) (a : Addr) (k : ClassId) (ty : FieldType) (N : Nat) (f : Nat → Value) : Prop :=
  ∃ cl : Cell, Arr Z h a cl ty ∧ cl.cls = k ∧ cl.slots.size = N ∧ N < 2 ^ 31 ∧ ∀ j, j < N → cl.slots[j]? = some (f j)
section Facts
variable {Cn O n d : String} {lay : List (String × String × String)} {vs : List Value} {v : Value} {sl : Nat} {k : ClassId} {ty : FieldType} {N : Nat} {f : Nat → Value} {ws' : List Addr}
theorem KOb.exa (F : KOb Z h a Cn lay vs) : Exa Z h a Cn := F.1
theorem KOb.lt (F : KOb Z h a Cn lay vs) : a < h.size := F.1.lt
theorem KOb.fld (F : KOb Z h a Cn lay vs) (i : Nat) (q : lay[i]? = some (O, n, d)) (r : vs[i]? = some v) : Fld Z h a O n d v := F.2.2 i O n d v q r
theorem KOb.ext (F : KOb Z h a Cn lay vs) (E : Ext h h') : KOb Z h' a Cn lay vs := ⟨F.1.ext E, F.2.1, fun i O n d v q r => (F.2.2 i O n d v q r).ext E⟩
theorem KOb.keep (F : KOb Z h a Cn lay vs) (E : Keep h h' ws') (q : a ∉ ws') : KOb Z h' a Cn lay vs := ⟨F.1.keep E, F.2.1, fun i O n d v u r => (F.2.2 i O n d v u r).keep E q⟩
theorem KOb.other (F : KOb Z h a Cn lay vs) (W : Wr h h' b sl v) (q : a ≠ b) : KOb Z h' a Cn lay vs := ⟨F.1.wr W, F.2.1, fun i O n d v u r => (F.2.2 i O n d v u r).other W (Or.inl q)⟩
theorem KOb.put (F : KOb Z h a Cn lay vs) (L : KLay Z a0 Cn lay) (i : Nat) (q : lay[i]? = some (O, n, d)) (W : Wr h h' a (Jvm.RoadKit.slotOf Z O n d) v) {vs' : List Value} (hv : vs.set i v = vs') : KOb Z h' a Cn lay vs' := by
  subst hv
  refine ⟨F.1.wr W, by rw [List.length_set]; exact F.2.1, fun j O' n' d' v' u r => ?_⟩
  by_cases e : i = j
  · subst e
    cases q.symm.trans u
    have hi : i < vs.length := by rw [← F.2.1]; exact (List.getElem?_eq_some_iff.mp q).1
    rw [List.getElem?_set_self hi] at r
    cases r
    exact (F.2.2 i O n d _ q (List.getElem?_eq_getElem hi)).same W
  · rw [List.getElem?_set_ne e] at r
    obtain ⟨l1, t1⟩ := L.1 _ (List.mem_of_getElem? u)
    obtain ⟨l2, t2⟩ := L.1 _ (List.mem_of_getElem? q)
    obtain ⟨t, ht⟩ := Option.isSome_iff_exists.mp t1
    obtain ⟨t', ht'⟩ := Option.isSome_iff_exists.mp t2
    refine (F.2.2 j O' n' d' v' u r).other W (Or.inr (slot_ne l1 l2 (fun en => ?_) ht ht'))
    have m1 : (lay.map (·.2.1))[j]? = some n' := by rw [List.getElem?_map, u]; rfl
    have m2 : (lay.map (·.2.1))[i]? = some n' := by rw [List.getElem?_map, q]; exact congrArg some en.symm
    exact e (((List.getElem?_inj (List.getElem?_eq_some_iff.mp m2).1 L.2).mp (m2.trans m1.symm)))
theorem KOb.new (E : Exa Z h a Cn) (D : ∀ {O nm d : String} {ty : FieldType}, Laid Z a0 Cn O nm d → parseFieldDescriptor d = some ty → Fld Z h a O nm d (defaultValue ty)) (L : KLay Z a0 Cn lay) (hv : (lay.map fun x => (parseFieldDescriptor x.2.2).map defaultValue) = vs.map some) : KOb Z h a Cn lay vs := by
  have hl : lay.length = vs.length := by have := congrArg List.length hv; simpa using this
  refine ⟨E, hl, fun i O n d v q r => ?_⟩
  obtain ⟨l1, t1⟩ := L.1 _ (List.mem_of_getElem? q)
  obtain ⟨t, ht⟩ := Option.isSome_iff_exists.mp t1
  have e1 : (lay.map fun x => (parseFieldDescriptor x.2.2).map defaultValue)[i]? = some (some (defaultValue t)) := by rw [List.getElem?_map, q]; show some ((parseFieldDescriptor d).map defaultValue) = _; rw [show parseFieldDescriptor d = some t from ht]; rfl
  rw [hv, List.getElem?_map, r] at e1
  cases e1
  exact D l1 ht
theorem KOb.one (E : Exa Z h a Cn) (F : Fld Z h a O n d v) : KOb Z h a Cn [(O, n, d)] [v] := ⟨E, rfl, fun i O' n' d' v' q r => by
  match i, q, r with
  | 0, q, r => cases q; cases r; exact F⟩
theorem KOb.two {O2 n2 d2 : String} {v2 : Value} (E : Exa Z h a Cn) (F : Fld Z h a O n d v) (F2 : Fld Z h a O2 n2 d2 v2) : KOb Z h a Cn [(O, n, d), (O2, n2, d2)] [v, v2] := ⟨E, rfl, fun i O' n' d' v' q r => by
  match i, q, r with
  | 0, q, r => cases q; cases r; exact F
  | 1, q, r => cases q; cases r; exact F2⟩
theorem KVA.lt (F : KVA Z h a k ty N f) : a < h.size := by obtain ⟨c, A, -⟩ := F; exact A.lt
theorem KVA.ext (F : KVA Z h a k ty N f) (E : Ext h h') : KVA Z h' a k ty N f := by obtain ⟨c, A, r⟩ := F; exact ⟨c, A.ext E, r⟩
theorem KVA.keep (F : KVA Z h a k ty N f) (E : Keep h h' ws') (q : a ∉ ws') : KVA Z h' a k ty N f := by obtain ⟨c, A, r⟩ := F; exact ⟨c, ⟨E.2.1 a c A.1 q, A.2⟩, r⟩
theorem KVA.other (F : KVA Z h a k ty N f) (W : Wr h h' b sl v) (q : a ≠ b) : KVA Z h' a k ty N f := by obtain ⟨c, A, r⟩ := F; exact ⟨c, A.other W q, r⟩
theorem KVA.congr (F : KVA Z h a k ty N f) {g : Nat → Value} (q : ∀ j, j < N → f j = g j) : KVA Z h a k ty N g := by obtain ⟨c, A, r1, r2, r3, r4⟩ := F; exact ⟨c, A, r1, r2, r3, fun j hj => by rw [← q j hj]; exact r4 j hj⟩
theorem KVA.set (F : KVA Z h a k ty N f) (W : Wr h h' a sl v) {g : Nat → Value} (q : ∀ j, j < N → (if j = sl then v else f j) = g j) : KVA Z h' a k ty N g := by
  obtain ⟨c, A, r1, r2, r3, r4⟩ := F
  refine ⟨c.setSlot sl v, A.same W, r1, by rw [sz_set]; exact r2, r3, fun j hj => ?_⟩
  rw [← q j hj]
  by_cases e : j = sl
  · subst e; rw [if_pos rfl]; simp [Cell.setSlot, r2, hj]
  · rw [if_neg e]; show (c.slots.setIfInBounds sl v)[j]? = _; rw [Array.getElem?_setIfInBounds_ne (Ne.symm e)]; exact r4 j hj
theorem KVA.new {z : Int32} (A : Arr Z h a (newA k ty z) ty) (q : z.toInt = (N : Int)) : KVA Z h a k ty N (fun _ => defaultValue ty) := by
  have e : z.toNatClampNeg = N := by simp only [Int32.toNatClampNeg]; omega
  have := Int32.toInt_lt z
  exact ⟨_, A, rfl, (sz_new _ _ _).trans e, by omega, fun j hj => by simp [newA, e, hj]⟩
theorem KVA.ne_ob {kk : Nat} (F : KVA Z h a k ty N f) (G : Exa Z h b Cn) (wi : (Cond.instantiable Cn kk).before a0 Z = true) : a ≠ b := by obtain ⟨c, A, -⟩ := F; exact (ne_arr G wi A).symm
theorem KVA.start {cl : Cell} (A : Arr Z h a cl ty) (hs : cl.slots.size = N) (hN : N < 2 ^ 31) (H : ∀ j, j < N → cl.slots[j]? = some (f j)) : KVA Z h a cl.cls ty N f := ⟨cl, A, rfl, hs, hN, H⟩
theorem k_cat_ref {v : Value} (hv : v.isRef = true) : v.category = 1 := by rcases ref_cases hv with rfl | ⟨_, rfl⟩ <;> rfl
theorem k_fits_ref {v : Value} (ht : ty.isReference = true) (hv : v.isRef = true) : fits ty v = true := by rcases ref_cases hv with rfl | ⟨_, rfl⟩ <;> cases ty <;> first | rfl | (cases ht; done)
theorem k_ext_of_keep (E : Keep h h' []) : Ext h h' := ⟨E.1, fun x c q => E.2.1 x c q nin0⟩
theorem k_idx {j : Int32} {J : Nat} (hj : j.toInt = (J : Int)) {S : Nat} (hJ : J < S) : ¬ (j < 0 ∨ S ≤ j.toNatClampNeg) ∧ j.toNatClampNeg = J := by
  have e : j.toNatClampNeg = J := by simp only [Int32.toNatClampNeg]; omega
  refine ⟨?_, e⟩
  rw [e, Int32.lt_iff_toInt_lt]
  have : (0 : Int32).toInt = 0 := rfl
  omega
end Facts
/-! ### steps on the heap -/
theorem k_getf {R0 O n d Cn : String} {index : Nat} {lay : List (String × String × String)} {vs : List Value} {v : Value} (C : KCx tbl nm cod ml ret p meth c Z a0) (P : KPos wd s' p l e R s m args below meth c Z own n0 h0 ws T h cells slots) (w : (Jvm.Cond.fieldLink own index R0 n d).before a0 Z = true) (via : Via Z R0 O n d) (F : KOb Z h a Cn lay vs) (i : Nat) (q : lay[i]? = some (O, n, d)) (r : vs[i]? = some v)
    (hd : decode cod pc = .ok (.getfield index, 3)) {pc' : Nat} (hp : pc + 3 = pc') (k' : ∀ T', KPos wd s' p l e R s m args below meth c Z own n0 h0 ws T' h cells slots → KGo p e below K T' m pc' Ls (v :: st)) : KGo p e below K T m pc Ls (.ref a :: st) := by
  subst hp
  obtain ⟨L, X, B, hZ, hown, eT, r1⟩ := P
  obtain ⟨T', X', e', stp⟩ := getF X C.1 hZ hown (host := "") (Or.inl w) via eT (F.fld i q r) (g := mkF m pc Ls (.ref a :: st)) rfl rfl (hb C.cdE hd)
  exact (k' T' ⟨L, X', B, hZ, hown, e', r1⟩).step stp
theorem k_putf {R0 O n d Cn : String} {index kk : Nat} {lay : List (String × String × String)} {vs : List Value} {v v' : Value} {ty : FieldType} (C : KCx tbl nm cod ml ret p meth c Z a0) (P : KPos wd s' p l e R s m args below meth c Z own n0 h0 ws T h cells slots) (w : (Jvm.Cond.fieldLink own index R0 n d).before a0 Z = true) (via : Via Z R0 O n d) (F : KOb Z h a Cn lay vs) (i : Nat) (q : lay[i]? = some (O, n, d))
    (L : (Jvm.Cond.lays Cn O n d).before a0 Z = true ∨ ((Jvm.Cond.laysFinal Cn O n d).before a0 Z = true ∧ own = O ∧ nm = "<init>")) (wi : (Jvm.Cond.instantiable Cn kk).before a0 Z = true) (hty : parseFieldDescriptor d = some ty) (hn : narrow ty v = v') (hf : fits ty v' = true)
    (hd : decode cod pc = .ok (.putfield index, 3)) (ha : n0 ≤ a) (hk : a ∈ ws ∨ h0.size ≤ a) {pc' : Nat} (hp : pc + 3 = pc') (k' : ∀ T' h', KPos wd s' p l e R s m args below meth c Z own n0 h0 ws T' h' cells slots → Wr h h' a (Jvm.RoadKit.slotOf Z O n d) v' → KGo p e below K T' m pc' Ls st) : KGo p e below K T m pc Ls (v :: .ref a :: st) := by
  subst hp
  obtain ⟨Lo, X, B, hZ, hown, eT, r1, r2, r3⟩ := P
  have hi : i < vs.length := by rw [← F.2.1]; exact (List.getElem?_eq_some_iff.mp q).1
  obtain ⟨T', h', X', e', W, stp⟩ := putFN X C.1 hZ hown w via eT (F.fld i q (List.getElem?_eq_getElem hi)) F.1 (L.imp id fun z => ⟨z.1, z.2.1, C.nmE.trans z.2.2⟩) wi hty hn hf (g := mkF m pc Ls (v :: .ref a :: st)) rfl rfl (hb C.cdE hd)
  exact (k' T' h' ⟨_, X', B.mono (Nat.le_of_eq W.size.symm), hZ, hown, e', W.size ▸ r1, Fr.snoc X' r2 ha, r3.wr W hk⟩ W).step stp
theorem k_gets {R0 O n d : String} {index : Nat} {v : Value} (C : KCx tbl nm cod ml ret p meth c Z a0) (P : KPos wd s' p l e R s m args below meth c Z own n0 h0 ws T h cells slots) (w : (Jvm.Cond.fieldLink own index R0 n d).before a0 Z = true) (via : Via Z R0 O n d) (F : Sta Z h O n d v) (hd : decode cod pc = .ok (.getstatic index, 3)) {pc' : Nat} (hp : pc + 3 = pc')
    (k' : ∀ T', KPos wd s' p l e R s m args below meth c Z own n0 h0 ws T' h cells slots → KGo p e below K T' m pc' Ls (v :: st)) : KGo p e below K T m pc Ls st := by
  subst hp
  obtain ⟨L, X, B, hZ, hown, eT, r1⟩ := P
  obtain ⟨T', X', e', stp⟩ := getS2 X C.1 hZ hown (host := "") (Or.inl w) via eT F (g := mkF m pc Ls st) rfl (hb C.cdE hd)
  exact (k' T' ⟨L, X', B, hZ, hown, e', r1⟩).step stp
theorem k_newo {Cn : String} {index n : Nat} (C : KCx tbl nm cod ml ret p meth c Z a0) (P : KPos wd s' p l e R s m args below meth c Z own n0 h0 ws T h cells slots) (w : (Jvm.Cond.classLink own index Cn).before a0 Z = true) (wi : (Jvm.Cond.instantiable Cn n).before a0 Z = true) (wz : (Jvm.Cond.initialized Cn).before a0 Z = true) (hd : decode cod pc = .ok (.new index, 3))
    {cells' slots' : Nat} (hc : cells + 1 = cells') (hs : slots + n = slots') (hc' : cells' ≤ R.cells) (hs' : slots' ≤ R.slots) {pc' : Nat} (hp : pc + 3 = pc')
    (k' : ∀ T' h' a, KPos wd s' p l e R s m args below meth c Z own n0 h0 ws T' h' cells' slots' → h.size = a → n0 ≤ a → h0.size ≤ a → Ext h h' → Exa Z h' a Cn → (∀ {O nm d : String} {ty : FieldType}, Laid Z a0 Cn O nm d → parseFieldDescriptor d = some ty → Fld Z h' a O nm d (defaultValue ty)) → KGo p e below K T' m pc' Ls (.ref a :: st)) : KGo p e below K T m pc Ls st := by
  subst hp hc hs
  obtain ⟨Lo, X, B, hZ, hown, eT, r1, r2, r3⟩ := P
  obtain ⟨T', h', X', e', E, A, D, -, stp⟩ := newO X C.1 hZ hown w wi wz eT (g := mkF m pc Ls st) rfl (hb C.cdE hd) hc' hs'
  exact (k' T' h' _ ⟨_, X', B.mono E.1, hZ, hown, e', Nat.le_trans r1 E.1, r2, r3.ext E⟩ rfl r1 r3.1 E A D).step stp
theorem k_newp {aty : ArrayType} {z : Int32} {N cap : Nat} (C : KCx tbl nm cod ml ret p meth c Z a0) (P : KPos wd s' p l e R s m args below meth c Z own n0 h0 ws T h cells slots) (w : (Jvm.Cond.arrayClass (newarray.typeOf aty)).before a0 Z = true) (hd : decode cod pc = .ok (.newarray aty, 2)) (hN : z.toInt = (N : Int)) (hcap : N ≤ cap) (hb8 : cap * 8 ≤ 536870912)
    {cells' slots' : Nat} (hc : cells + 1 = cells') (hs : slots + cap = slots') (hc' : cells' ≤ R.cells) (hs' : slots' ≤ R.slots) {pc' : Nat} (hp : pc + 2 = pc')
    (k' : ∀ T' h' a k, KPos wd s' p l e R s m args below meth c Z own n0 h0 ws T' h' cells' slots' → h.size = a → n0 ≤ a → h0.size ≤ a → Ext h h' → KVA Z h' a k (newarray.typeOf aty) N (fun _ => defaultValue (newarray.typeOf aty)) → KGo p e below K T' m pc' Ls (.ref a :: st)) : KGo p e below K T m pc Ls (.int z :: st) := by
  subst hp hc hs
  obtain ⟨Lo, X, B, hZ, hown, eT, r1, r2, r3⟩ := P
  have e0 : ¬ z < 0 := by rw [Int32.lt_iff_toInt_lt]; have : (0 : Int32).toInt = 0 := rfl; omega
  have e1 : z.toNatClampNeg ≤ cap := by simp only [Int32.toNatClampNeg]; omega
  obtain ⟨T', h', kA, X', e', E, A, stp⟩ := newP X C.1 hZ w eT (g := mkF m pc Ls (.int z :: st)) rfl (hb C.cdE hd) rfl e0 e1 hb8 hc' hs'
  exact (k' T' h' _ kA ⟨_, X', B.mono E.1, hZ, hown, e', Nat.le_trans r1 E.1, r2, r3.ext E⟩ rfl r1 r3.1 E (KVA.new A hN)).step stp
theorem k_newr {Cn : String} {index : Nat} {z : Int32} {N cap : Nat} (C : KCx tbl nm cod ml ret p meth c Z a0) (P : KPos wd s' p l e R s m args below meth c Z own n0 h0 ws T h cells slots) (w : (Jvm.Cond.classLink own index Cn).before a0 Z = true) (w2 : (Jvm.Cond.arrayOver (.object Cn)).before a0 Z = true) (hd : decode cod pc = .ok (.anewarray index, 3)) (hN : z.toInt = (N : Int)) (hcap : N ≤ cap) (hb8 : cap * 8 ≤ 536870912)
    {cells' slots' : Nat} (hc : cells + 1 = cells') (hs : slots + cap = slots') (hc' : cells' ≤ R.cells) (hs' : slots' ≤ R.slots) {pc' : Nat} (hp : pc + 3 = pc')
    (k' : ∀ T' h' a k, KPos wd s' p l e R s m args below meth c Z own n0 h0 ws T' h' cells' slots' → h.size = a → n0 ≤ a → h0.size ≤ a → Ext h h' → KVA Z h' a k (.object Cn) N (fun _ => .null) → Ovr Z k Cn → KGo p e below K T' m pc' Ls (.ref a :: st)) : KGo p e below K T m pc Ls (.int z :: st) := by
  subst hp hc hs
  obtain ⟨Lo, X, B, hZ, hown, eT, r1, r2, r3⟩ := P
  have e0 : ¬ z < 0 := by rw [Int32.lt_iff_toInt_lt]; have : (0 : Int32).toInt = 0 := rfl; omega
  have e1 : z.toNatClampNeg ≤ cap := by simp only [Int32.toNatClampNeg]; omega
  obtain ⟨T', h', kA, X', e', E, A, O, stp⟩ := newR X C.1 hZ hown w w2 eT (g := mkF m pc Ls (.int z :: st)) rfl (hb C.cdE hd) rfl e0 e1 hb8 hc' hs'
  exact (k' T' h' _ kA ⟨_, X', B.mono E.1, hZ, hown, e', Nat.le_trans r1 E.1, r2, r3.ext E⟩ rfl r1 r3.1 E (KVA.new A hN) O).step stp
theorem k_newra {Cn ad : String} {ty : FieldType} {index : Nat} {z : Int32} {N cap : Nat} (C : KCx tbl nm cod ml ret p meth c Z a0) (P : KPos wd s' p l e R s m args below meth c Z own n0 h0 ws T h cells slots) (hC : (FieldType.array ty).toString = Cn) (had : "[" ++ Cn = ad) (w : (Jvm.Cond.classLink own index Cn).before a0 Z = true) (w2 : (Jvm.Cond.arrayOver (.array ty)).before a0 Z = true) (hd : decode cod pc = .ok (.anewarray index, 3)) (hN : z.toInt = (N : Int)) (hcap : N ≤ cap) (hb8 : cap * 8 ≤ 536870912)
    {cells' slots' : Nat} (hc : cells + 1 = cells') (hs : slots + cap = slots') (hc' : cells' ≤ R.cells) (hs' : slots' ≤ R.slots) {pc' : Nat} (hp : pc + 3 = pc')
    (k' : ∀ T' h' a k, KPos wd s' p l e R s m args below meth c Z own n0 h0 ws T' h' cells' slots' → h.size = a → n0 ≤ a → h0.size ≤ a → Ext h h' → KVA Z h' a k (.array ty) N (fun _ => .null) → Exa Z h' a ad → OvrA Z k ty Cn → KGo p e below K T' m pc' Ls (.ref a :: st)) : KGo p e below K T m pc Ls (.int z :: st) := by
  subst hp hc hs
  obtain ⟨Lo, X, B, hZ, hown, eT, r1, r2, r3⟩ := P
  have e0 : ¬ z < 0 := by rw [Int32.lt_iff_toInt_lt]; have : (0 : Int32).toInt = 0 := rfl; omega
  have e1 : z.toNatClampNeg ≤ cap := by simp only [Int32.toNatClampNeg]; omega
  obtain ⟨T', h', kA, X', e', E, A, Ex, O, stp⟩ := newRA X C.1 hZ hown hC w w2 eT (g := mkF m pc Ls (.int z :: st)) rfl (hb C.cdE hd) rfl e0 e1 hb8 hc' hs' had
  exact (k' T' h' _ kA ⟨_, X', B.mono E.1, hZ, hown, e', Nat.le_trans r1 E.1, r2, r3.ext E⟩ rfl r1 r3.1 E (KVA.new A hN) Ex O).step stp
theorem k_arrlen {k : ClassId} {ty : FieldType} {N : Nat} {f : Nat → Value} {z : Int32} (C : KCx tbl nm cod ml ret p meth c Z a0) (P : KPos wd s' p l e R s m args below meth c Z own n0 h0 ws T h cells slots) (V : KVA Z h a k ty N f) (hd : decode cod pc = .ok (.arraylength, 1)) (hz : z.toInt = (N : Int)) {pc' : Nat} (hp : pc + 1 = pc') (k' : KGo p e below K T m pc' Ls (.int z :: st)) : KGo p e below K T m pc Ls (.ref a :: st) := by
  subst hp
  obtain ⟨L, X, B, hZ, hown, eT, r1⟩ := P
  obtain ⟨cl, A, -, S, hN, -⟩ := V
  have e : cl.slots.size.toInt32 = z := by rw [S]; exact Int32.toInt_inj.mp (by rw [len_toInt hN, hz])
  subst e
  exact k'.step fun t q => X.arraylength C.1 (by rw [eT]; exact A.1) (State.isArrayOf_alike hZ.alike A.2.1) (g := mkF m pc Ls (.ref a :: st)) rfl rfl (hb C.cdE hd) t q
theorem k_iaload {k : ClassId} {N J : Nat} {f : Nat → Value} {j : Int32} {v : Value} (C : KCx tbl nm cod ml ret p meth c Z a0) (P : KPos wd s' p l e R s m args below meth c Z own n0 h0 ws T h cells slots) (V : KVA Z h a k .int N f) (hd : decode cod pc = .ok (.iaload, 1)) (hj : j.toInt = (J : Int)) (hJ : J < N) (hv : f J = v) {pc' : Nat} (hp : pc + 1 = pc') (k' : KGo p e below K T m pc' Ls (v :: st)) : KGo p e below K T m pc Ls (.int j :: .ref a :: st) := by
  subst hp hv
  obtain ⟨L, X, B, hZ, hown, eT, r1⟩ := P
  obtain ⟨cl, A, -, S, hN, H⟩ := V
  obtain ⟨q1, q2⟩ := k_idx hj (S.symm ▸ hJ)
  exact k'.step fun t q => X.iaload C.1 (by rw [eT]; exact A.1) (State.isArrayOf_alike hZ.alike A.2.1) A.2.2 q1 (by rw [q2]; exact H J hJ) (g := mkF m pc Ls (.int j :: .ref a :: st)) rfl rfl (hb C.cdE hd) t q
theorem k_laload {k : ClassId} {N J : Nat} {f : Nat → Value} {j : Int32} {v : Value} (C : KCx tbl nm cod ml ret p meth c Z a0) (P : KPos wd s' p l e R s m args below meth c Z own n0 h0 ws T h cells slots) (V : KVA Z h a k .long N f) (hd : decode cod pc = .ok (.laload, 1)) (hj : j.toInt = (J : Int)) (hJ : J < N) (hv : f J = v) {pc' : Nat} (hp : pc + 1 = pc') (k' : KGo p e below K T m pc' Ls (v :: st)) : KGo p e below K T m pc Ls (.int j :: .ref a :: st) := by
  subst hp hv
  obtain ⟨L, X, B, hZ, hown, eT, r1⟩ := P
  obtain ⟨cl, A, -, S, hN, H⟩ := V
  obtain ⟨q1, q2⟩ := k_idx hj (S.symm ▸ hJ)
  exact k'.step fun t q => X.laload C.1 (by rw [eT]; exact A.1) (State.isArrayOf_alike hZ.alike A.2.1) A.2.2 q1 (by rw [q2]; exact H J hJ) (g := mkF m pc Ls (.int j :: .ref a :: st)) rfl rfl (hb C.cdE hd) t q
theorem k_caload {k : ClassId} {N J : Nat} {f : Nat → Value} {j : Int32} {v : Value} (C : KCx tbl nm cod ml ret p meth c Z a0) (P : KPos wd s' p l e R s m args below meth c Z own n0 h0 ws T h cells slots) (V : KVA Z h a k .char N f) (hd : decode cod pc = .ok (.caload, 1)) (hj : j.toInt = (J : Int)) (hJ : J < N) (hv : f J = v) {pc' : Nat} (hp : pc + 1 = pc') (k' : KGo p e below K T m pc' Ls (v :: st)) : KGo p e below K T m pc Ls (.int j :: .ref a :: st) := by
  subst hp hv
  obtain ⟨L, X, B, hZ, hown, eT, r1⟩ := P
  obtain ⟨cl, A, -, S, hN, H⟩ := V
  obtain ⟨q1, q2⟩ := k_idx hj (S.symm ▸ hJ)
  exact k'.step fun t q => X.caload C.1 (by rw [eT]; exact A.1) (State.isArrayOf_alike hZ.alike A.2.1) A.2.2 q1 (by rw [q2]; exact H J hJ) (g := mkF m pc Ls (.int j :: .ref a :: st)) rfl rfl (hb C.cdE hd) t q
theorem k_baload {k : ClassId} {N J : Nat} {f : Nat → Value} {j : Int32} {v : Value} (C : KCx tbl nm cod ml ret p meth c Z a0) (P : KPos wd s' p l e R s m args below meth c Z own n0 h0 ws T h cells slots) (V : KVA Z h a k .byte N f) (hd : decode cod pc = .ok (.baload, 1)) (hj : j.toInt = (J : Int)) (hJ : J < N) (hv : f J = v) {pc' : Nat} (hp : pc + 1 = pc') (k' : KGo p e below K T m pc' Ls (v :: st)) : KGo p e below K T m pc Ls (.int j :: .ref a :: st) := by
  subst hp hv
  obtain ⟨L, X, B, hZ, hown, eT, r1⟩ := P
  obtain ⟨cl, A, -, S, hN, H⟩ := V
  obtain ⟨q1, q2⟩ := k_idx hj (S.symm ▸ hJ)
  exact k'.step fun t q => X.baloadBytes C.1 (by rw [eT]; exact A.1) (State.isArrayOf_alike hZ.alike A.2.1) A.2.2 q1 (by rw [q2]; exact H J hJ) (g := mkF m pc Ls (.int j :: .ref a :: st)) rfl rfl (hb C.cdE hd) t q
theorem k_daload {k : ClassId} {N J : Nat} {f : Nat → Value} {j : Int32} {v : Value} (C : KCx tbl nm cod ml ret p meth c Z a0) (P : KPos wd s' p l e R s m args below meth c Z own n0 h0 ws T h cells slots) (V : KVA Z h a k .double N f) (hd : decode cod pc = .ok (.daload, 1)) (hj : j.toInt = (J : Int)) (hJ : J < N) (hv : f J = v) {pc' : Nat} (hp : pc + 1 = pc') (k' : KGo p e below K T m pc' Ls (v :: st)) : KGo p e below K T m pc Ls (.int j :: .ref a :: st) := by
  subst hp hv
  obtain ⟨L, X, B, hZ, hown, eT, r1⟩ := P
  obtain ⟨cl, A, -, S, hN, H⟩ := V
  obtain ⟨q1, q2⟩ := k_idx hj (S.symm ▸ hJ)
  exact k'.step fun t q => X.daload C.1 (by rw [eT]; exact A.1) (State.isArrayOf_alike hZ.alike A.2.1) A.2.2 q1 (by rw [q2]; exact H J hJ) (g := mkF m pc Ls (.int j :: .ref a :: st)) rfl rfl (hb C.cdE hd) t q
theorem k_aaload {k : ClassId} {ty : FieldType} {N J : Nat} {f : Nat → Value} {j : Int32} {v : Value} (C : KCx tbl nm cod ml ret p meth c Z a0) (P : KPos wd s' p l e R s m args below meth c Z own n0 h0 ws T h cells slots) (V : KVA Z h a k ty N f) (hty : ty.isReference = true) (hd : decode cod pc = .ok (.aaload, 1)) (hj : j.toInt = (J : Int)) (hJ : J < N) (hv : f J = v) {pc' : Nat} (hp : pc + 1 = pc') (k' : KGo p e below K T m pc' Ls (v :: st)) : KGo p e below K T m pc Ls (.int j :: .ref a :: st) := by
  subst hp hv
  obtain ⟨L, X, B, hZ, hown, eT, r1⟩ := P
  obtain ⟨cl, A, -, S, hN, H⟩ := V
  obtain ⟨q1, q2⟩ := k_idx hj (S.symm ▸ hJ)
  exact k'.step fun t q => X.aaload C.1 (by rw [eT]; exact A.1) (State.isArrayOf_alike hZ.alike A.2.1) hty A.2.2 q1 (by rw [q2]; exact H J hJ) (g := mkF m pc Ls (.int j :: .ref a :: st)) rfl rfl (hb C.cdE hd) t q
theorem k_iastore {k : ClassId} {N J : Nat} {f g' : Nat → Value} {j : Int32} {x : Int32} (C : KCx tbl nm cod ml ret p meth c Z a0) (P : KPos wd s' p l e R s m args below meth c Z own n0 h0 ws T h cells slots) (V : KVA Z h a k .int N f) (hd : decode cod pc = .ok (.iastore, 1)) (hj : j.toInt = (J : Int)) (hJ : J < N) (hg' : ∀ i, i < N → (if i = J then (.int x : Value) else f i) = g' i) (ha : n0 ≤ a) (hk : a ∈ ws ∨ h0.size ≤ a) {pc' : Nat} (hp : pc + 1 = pc') (k' : ∀ T' h', KPos wd s' p l e R s m args below meth c Z own n0 h0 ws T' h' cells slots → Wr h h' a J (.int x) → KVA Z h' a k .int N g' → KGo p e below K T' m pc' Ls st) : KGo p e below K T m pc Ls (.int x :: .int j :: .ref a :: st) := by
  subst hp
  obtain ⟨Lo, X, B, hZ, hown, eT, r1, r2, r3⟩ := P
  have V0 := V
  obtain ⟨cl, A, -, S, hN, H⟩ := V
  obtain ⟨q1, q2⟩ := k_idx hj (S.symm ▸ hJ)
  obtain ⟨T', h', X', e', W, stp⟩ := stI X C.1 hZ eT A q1 (g := mkF m pc Ls (.int x :: .int j :: .ref a :: st)) rfl rfl (hb C.cdE hd)
  have W' := W
  rw [q2] at W'
  exact (k' T' h' ⟨_, X', B.mono (Nat.le_of_eq W.size.symm), hZ, hown, e', W.size ▸ r1, Fr.snoc X' r2 ha, r3.wr W hk⟩ W' (V0.set W' hg')).step stp
theorem k_lastore {k : ClassId} {N J : Nat} {f g' : Nat → Value} {j : Int32} {x : Int64} (C : KCx tbl nm cod ml ret p meth c Z a0) (P : KPos wd s' p l e R s m args below meth c Z own n0 h0 ws T h cells slots) (V : KVA Z h a k .long N f) (hd : decode cod pc = .ok (.lastore, 1)) (hj : j.toInt = (J : Int)) (hJ : J < N) (hg' : ∀ i, i < N → (if i = J then (.long x : Value) else f i) = g' i) (ha : n0 ≤ a) (hk : a ∈ ws ∨ h0.size ≤ a) {pc' : Nat} (hp : pc + 1 = pc') (k' : ∀ T' h', KPos wd s' p l e R s m args below meth c Z own n0 h0 ws T' h' cells slots → Wr h h' a J (.long x) → KVA Z h' a k .long N g' → KGo p e below K T' m pc' Ls st) : KGo p e below K T m pc Ls (.long x :: .int j :: .ref a :: st) := by
  subst hp
  obtain ⟨Lo, X, B, hZ, hown, eT, r1, r2, r3⟩ := P
  have V0 := V
  obtain ⟨cl, A, -, S, hN, H⟩ := V
  obtain ⟨q1, q2⟩ := k_idx hj (S.symm ▸ hJ)
  obtain ⟨T', h', X', e', W, stp⟩ := stJ X C.1 hZ eT A q1 (g := mkF m pc Ls (.long x :: .int j :: .ref a :: st)) rfl rfl (hb C.cdE hd)
  have W' := W
  rw [q2] at W'
  exact (k' T' h' ⟨_, X', B.mono (Nat.le_of_eq W.size.symm), hZ, hown, e', W.size ▸ r1, Fr.snoc X' r2 ha, r3.wr W hk⟩ W' (V0.set W' hg')).step stp
theorem k_castore {k : ClassId} {N J : Nat} {f g' : Nat → Value} {j : Int32} {x : Int32} (C : KCx tbl nm cod ml ret p meth c Z a0) (P : KPos wd s' p l e R s m args below meth c Z own n0 h0 ws T h cells slots) (V : KVA Z h a k .char N f) (hd : decode cod pc = .ok (.castore, 1)) (hj : j.toInt = (J : Int)) (hJ : J < N) (hg' : ∀ i, i < N → (if i = J then (.int (nar .char x) : Value) else f i) = g' i) (ha : n0 ≤ a) (hk : a ∈ ws ∨ h0.size ≤ a) {pc' : Nat} (hp : pc + 1 = pc') (k' : ∀ T' h', KPos wd s' p l e R s m args below meth c Z own n0 h0 ws T' h' cells slots → Wr h h' a J (.int (nar .char x)) → KVA Z h' a k .char N g' → KGo p e below K T' m pc' Ls st) : KGo p e below K T m pc Ls (.int x :: .int j :: .ref a :: st) := by
  subst hp
  obtain ⟨Lo, X, B, hZ, hown, eT, r1, r2, r3⟩ := P
  have V0 := V
  obtain ⟨cl, A, -, S, hN, H⟩ := V
  obtain ⟨q1, q2⟩ := k_idx hj (S.symm ▸ hJ)
  obtain ⟨T', h', X', e', W, stp⟩ := stC X C.1 hZ eT A q1 (g := mkF m pc Ls (.int x :: .int j :: .ref a :: st)) rfl rfl (hb C.cdE hd)
  have W' := W
  rw [q2] at W'
  exact (k' T' h' ⟨_, X', B.mono (Nat.le_of_eq W.size.symm), hZ, hown, e', W.size ▸ r1, Fr.snoc X' r2 ha, r3.wr W hk⟩ W' (V0.set W' hg')).step stp
theorem k_bastore {k : ClassId} {N J : Nat} {f g' : Nat → Value} {j : Int32} {x : Int32} (C : KCx tbl nm cod ml ret p meth c Z a0) (P : KPos wd s' p l e R s m args below meth c Z own n0 h0 ws T h cells slots) (V : KVA Z h a k .byte N f) (hd : decode cod pc = .ok (.bastore, 1)) (hj : j.toInt = (J : Int)) (hJ : J < N) (hg' : ∀ i, i < N → (if i = J then (.int (nar .byte x) : Value) else f i) = g' i) (ha : n0 ≤ a) (hk : a ∈ ws ∨ h0.size ≤ a) {pc' : Nat} (hp : pc + 1 = pc') (k' : ∀ T' h', KPos wd s' p l e R s m args below meth c Z own n0 h0 ws T' h' cells slots → Wr h h' a J (.int (nar .byte x)) → KVA Z h' a k .byte N g' → KGo p e below K T' m pc' Ls st) : KGo p e below K T m pc Ls (.int x :: .int j :: .ref a :: st) := by
  subst hp
  obtain ⟨Lo, X, B, hZ, hown, eT, r1, r2, r3⟩ := P
  have V0 := V
  obtain ⟨cl, A, -, S, hN, H⟩ := V
  obtain ⟨q1, q2⟩ := k_idx hj (S.symm ▸ hJ)
  obtain ⟨T', h', X', e', W, stp⟩ := stB X C.1 hZ eT A q1 (g := mkF m pc Ls (.int x :: .int j :: .ref a :: st)) rfl rfl (hb C.cdE hd)
  have W' := W
  rw [q2] at W'
  exact (k' T' h' ⟨_, X', B.mono (Nat.le_of_eq W.size.symm), hZ, hown, e', W.size ▸ r1, Fr.snoc X' r2 ha, r3.wr W hk⟩ W' (V0.set W' hg')).step stp
theorem k_dastore {k : ClassId} {N J : Nat} {f g' : Nat → Value} {j : Int32} {x : UInt64} (C : KCx tbl nm cod ml ret p meth c Z a0) (P : KPos wd s' p l e R s m args below meth c Z own n0 h0 ws T h cells slots) (V : KVA Z h a k .double N f) (hd : decode cod pc = .ok (.dastore, 1)) (hj : j.toInt = (J : Int)) (hJ : J < N) (hg' : ∀ i, i < N → (if i = J then (.double x : Value) else f i) = g' i) (ha : n0 ≤ a) (hk : a ∈ ws ∨ h0.size ≤ a) {pc' : Nat} (hp : pc + 1 = pc') (k' : ∀ T' h', KPos wd s' p l e R s m args below meth c Z own n0 h0 ws T' h' cells slots → Wr h h' a J (.double x) → KVA Z h' a k .double N g' → KGo p e below K T' m pc' Ls st) : KGo p e below K T m pc Ls (.double x :: .int j :: .ref a :: st) := by
  subst hp
  obtain ⟨Lo, X, B, hZ, hown, eT, r1, r2, r3⟩ := P
  have V0 := V
  obtain ⟨cl, A, -, S, hN, H⟩ := V
  obtain ⟨q1, q2⟩ := k_idx hj (S.symm ▸ hJ)
  obtain ⟨T', h', X', e', W, stp⟩ := stD X C.1 hZ eT A q1 (g := mkF m pc Ls (.double x :: .int j :: .ref a :: st)) rfl rfl (hb C.cdE hd)
  have W' := W
  rw [q2] at W'
  exact (k' T' h' ⟨_, X', B.mono (Nat.le_of_eq W.size.symm), hZ, hown, e', W.size ▸ r1, Fr.snoc X' r2 ha, r3.wr W hk⟩ W' (V0.set W' hg')).step stp
theorem k_aastore {k : ClassId} {ty : FieldType} {N J : Nat} {f g' : Nat → Value} {j : Int32} {x : Value} (C : KCx tbl nm cod ml ret p meth c Z a0) (P : KPos wd s' p l e R s m args below meth c Z own n0 h0 ws T h cells slots) (V : KVA Z h a k ty N f) (hty : ty.isReference = true) (S0 : Sto Z h a x) (hd : decode cod pc = .ok (.aastore, 1)) (hj : j.toInt = (J : Int)) (hJ : J < N) (hg' : ∀ i, i < N → (if i = J then x else f i) = g' i) (ha : n0 ≤ a) (hk : a ∈ ws ∨ h0.size ≤ a) {pc' : Nat} (hp : pc + 1 = pc') (k' : ∀ T' h', KPos wd s' p l e R s m args below meth c Z own n0 h0 ws T' h' cells slots → Wr h h' a J x → KVA Z h' a k ty N g' → KGo p e below K T' m pc' Ls st) : KGo p e below K T m pc Ls (x :: .int j :: .ref a :: st) := by
  subst hp
  obtain ⟨Lo, X, B, hZ, hown, eT, r1, r2, r3⟩ := P
  have V0 := V
  obtain ⟨cl, A, -, S, hN, H⟩ := V
  obtain ⟨q1, q2⟩ := k_idx hj (S.symm ▸ hJ)
  obtain ⟨T', h', X', e', W, stp⟩ := stR X C.1 hZ eT A q1 hty S0 (g := mkF m pc Ls (x :: .int j :: .ref a :: st)) rfl rfl (hb C.cdE hd)
  have W' := W
  rw [q2] at W'
  exact (k' T' h' ⟨_, X', B.mono (Nat.le_of_eq W.size.symm), hZ, hown, e', W.size ▸ r1, Fr.snoc X' r2 ha, r3.wr W hk⟩ W' (V0.set W' hg')).step stp
theorem KVA.sto {k : ClassId} {N : Nat} {f : Nat → Value} {Cn K1 : String} {ty : FieldType} (V : KVA Z h a k ty N f) (O : Ovr Z k Cn) (I : Ins Z h b Cn true) : Sto Z h a (.ref b) := by
  obtain ⟨cl, A, q, -⟩ := V; exact Sto.ofV A q O I
theorem KVA.stoA {k : ClassId} {N : Nat} {f : Nat → Value} {Cn : String} {ty t0 : FieldType} (V : KVA Z h a k t0 N f) (O : OvrA Z k ty Cn) (I : Ins Z h b Cn true) : Sto Z h a (.ref b) := by
  obtain ⟨cl, A, q, -⟩ := V; exact Sto.ofVA A q O I
theorem k_ldcI {index : Nat} {z : Int32} (C : KCx tbl nm cod ml ret p meth c Z a0) (P : KPos wd s' p l e R s m args below meth c Z own n0 h0 ws T h cells slots) (w : (Jvm.Cond.constant own index z).before a0 Z = true) (hd : decode cod pc = .ok (.ldc index, 2)) {pc' : Nat} (hp : pc + 2 = pc') (k' : KGo p e below K T m pc' Ls (.int z :: st)) : KGo p e below K T m pc Ls st := by
  subst hp
  obtain ⟨L, X, B, hZ, hown, eT, r1⟩ := P
  exact k'.step fun t q => X.ldcInt C.1 hown (mvT hZ w) (g := mkF m pc Ls st) rfl (hb C.cdE hd) t q
theorem k_ldc2L {index : Nat} {z : Int64} (C : KCx tbl nm cod ml ret p meth c Z a0) (P : KPos wd s' p l e R s m args below meth c Z own n0 h0 ws T h cells slots) (w : (Jvm.Cond.constantLong own index z).before a0 Z = true) (hd : decode cod pc = .ok (.ldc2_w index, 3)) {pc' : Nat} (hp : pc + 3 = pc') (k' : KGo p e below K T m pc' Ls (.long z :: st)) : KGo p e below K T m pc Ls st := by
  subst hp
  obtain ⟨L, X, B, hZ, hown, eT, r1⟩ := P
  exact k'.step fun t q => X.ldc2Long C.1 hown (mvT hZ w) (g := mkF m pc Ls st) rfl (hb C.cdE hd) t q
theorem k_ldc2D {index : Nat} {z : UInt64} (C : KCx tbl nm cod ml ret p meth c Z a0) (P : KPos wd s' p l e R s m args below meth c Z own n0 h0 ws T h cells slots) (w : (Jvm.Cond.constantDouble own index z).before a0 Z = true) (hd : decode cod pc = .ok (.ldc2_w index, 3)) {pc' : Nat} (hp : pc + 3 = pc') (k' : KGo p e below K T m pc' Ls (.double z :: st)) : KGo p e below K T m pc Ls st := by
  subst hp
  obtain ⟨L, X, B, hZ, hown, eT, r1⟩ := P
  exact k'.step fun t q => X.ldc2DoubleC C.1 hown (mvT hZ w) (g := mkF m pc Ls st) rfl (hb C.cdE hd) t q
theorem k_castO {Kn : String} {index : Nat} (C : KCx tbl nm cod ml ret p meth c Z a0) (P : KPos wd s' p l e R s m args below meth c Z own n0 h0 ws T h cells slots) (w : (Jvm.Cond.classLink own index Kn).before a0 Z = true) (F : Ins Z h a Kn true) (hd : decode cod pc = .ok (.checkcast index, 3)) {pc' : Nat} (hp : pc + 3 = pc') (k' : ∀ T', KPos wd s' p l e R s m args below meth c Z own n0 h0 ws T' h cells slots → KGo p e below K T' m pc' Ls (.ref a :: st)) : KGo p e below K T m pc Ls (.ref a :: st) := by
  subst hp
  obtain ⟨L, X, B, hZ, hown, eT, r1⟩ := P
  obtain ⟨T', X', e', stp⟩ := castY X C.1 hZ hown w eT F (g := mkF m pc Ls (.ref a :: st)) rfl rfl (hb C.cdE hd)
  exact (k' T' ⟨L, X', B, hZ, hown, e', r1⟩).step stp
/-! ### calls -/
theorem k_initObj {index W : Nat} (C : KCx tbl nm cod ml ret p meth c Z a0) (P : KPos wd s' p l e R s m args below meth c Z own n0 h0 ws T h cells slots) (w1 : (Jvm.Cond.methodLink own index Lib.objectInit).before a0 Z = true) (w2 : (Jvm.Cond.instanceMethod Lib.objectInit).before a0 Z = true) (w3 : (Jvm.Cond.code Lib.objectInit ⟨#[0xb1]⟩ 1 none).before a0 Z = true)
    (hd : decode cod pc = .ok (.invokespecial index, 3)) (hsz : Ls.size = ml) (hf : 1 ≤ R.frames) (hW : (st.map fun v => v.category).sum ≤ W) (hl : W + 12 ≤ R.locals) {pc' : Nat} (hp : pc + 3 = pc') (k' : ∀ T', KPos wd s' p l e R s m args below meth c Z own n0 h0 ws T' h cells slots → KGo p e below K T' m pc' Ls st) : KGo p e below K T m pc Ls (.ref a :: st) := by
  subst hp
  obtain ⟨L, X, B, hZ, hown, eT, r1⟩ := P
  obtain ⟨T', X', e', stp⟩ := initO X C.1 hZ hown w1 w2 w3 eT (g := mkF m pc Ls (.ref a :: st)) rfl (hsz.trans C.mlE.symm) rfl (hb C.cdE hd) hf (by show 2 * 0 + _ ≤ _; rw [Nat.mul_zero, Nat.zero_add]; exact hW) hl
  exact (k' T' ⟨L, X', B, hZ, hown, e', r1⟩).step stp
theorem k_callN {y : MethodName} {index W maxL : Nat} {bytes : ByteArray} {rm : Room} {as : Array Value} {ws' : List Addr} {Q : Option Value → Heap → Prop} (C : KCx tbl nm cod ml ret p meth c Z a0) (P : KPos wd s' p l e R s m args below meth c Z own n0 h0 ws T h cells slots)
    (hy1 : y.name = "<init>") (w1 : (Jvm.Cond.methodLink own index y).before a0 Z = true) (w2 : (Jvm.Cond.instanceMethod y).before a0 Z = true) (w3 : (Jvm.Cond.code y bytes maxL none).before a0 Z = true) (w4 : (Jvm.Cond.initialized y.cls).before a0 Z = true) (hy : y.cls ≠ "java/lang/invoke/MethodHandle" ∧ y.cls ≠ "java/lang/invoke/VarHandle")
    (hM : KCt false l y bytes maxL none rm Z n0 h as ws' Q) (a : Addr) (argsL rest : List Value) (has : as = (.ref a :: argsL).toArray) (hlen : ∀ sig, parseMethodDescriptor y.desc = some sig → argsL.length = sig.parameters.length) (hst : st = argsL.reverse ++ .ref a :: rest) (hW : (rest.map fun v => v.category).sum ≤ W)
    (hd : decode cod pc = .ok (.invokespecial index, 3)) (hsz : Ls.size = ml) (hf : rm.frames + 1 ≤ R.frames) (hl : W + (maxL + 11) + rm.locals ≤ R.locals) {cells' slots' : Nat} (hc : cells + rm.cells = cells') (hs : slots + rm.slots = slots') (hc' : cells' ≤ R.cells) (hs' : slots' ≤ R.slots) (hws : ∀ x ∈ ws', x ∈ ws ∨ h0.size ≤ x) {pc' : Nat} (hp : pc + 3 = pc')
    (k' : ∀ T' h' v, KPos wd s' p l e R s m args below meth c Z own n0 h0 ws T' h' cells' slots' → Keep h h' ws' → Q v h' → KGo p e below K T' m pc' Ls (v.toList ++ rest)) : KGo p e below K T m pc Ls st := by
  subst hp hc hs has
  obtain ⟨L, X, B, hZ, hown, eT, r1, r2, r3⟩ := P
  obtain ⟨v, _, ⟨T', L', k1, n1⟩, -, X', ⟨Lc, ⟨q1, q2, q3⟩, l1, y1, z1⟩, stp⟩ := X.specialBack C.1 (y := y) hy1 hown (mvT hZ w1) (mvT hZ w2) (mvT hZ w3) hy (backOf (W := W) (Q := fun v h' L => Fr n0 L ∧ Keep h h' ws' ∧ Q v h') hM.plain hZ w3 w4 hf hl) (g := mkF m pc Ls st) rfl (hsz.trans C.mlE.symm) (Steps.refl _) (a := a) (argsL := argsL) (rest := rest) hlen hst (by show 2 * 0 + _ ≤ _; rw [Nat.mul_zero, Nat.zero_add]; exact hW) (hb C.cdE hd) (fun _ _ => ⟨rfl, eT, hc', hs'⟩)
  dsimp only [Pt.U, Pt.locs, Pt.cells, Pt.slots] at X' l1 y1 z1 stp q2 q3
  subst l1 y1 z1
  exact (k' T' T'.heap v ⟨_, X', B.mono q2.1, hZ, hown, rfl, Nat.le_trans r1 q2.1, Fr.app r2 q1, r3.trans q2 hws⟩ q2 q3).step fun t q => stp.trans q
theorem k_callV {y z : MethodName} {Cn : String} {index W maxL : Nat} {bytes : ByteArray} {rt : Option FieldType} {rm : Room} {as : Array Value} {ws' : List Addr} {Q : Option Value → Heap → Prop} (C : KCx tbl nm cod ml ret p meth c Z a0) (P : KPos wd s' p l e R s m args below meth c Z own n0 h0 ws T h cells slots)
    (w1 : (Jvm.Cond.methodLink own index y).before a0 Z = true) (wdc : (Jvm.Cond.declares y).before a0 Z = true) (nf : ∀ s' : State, Z.Warmed39 s'.vm → NotFace s' y) (wsel : (Jvm.Cond.selects Cn y z).before a0 Z = true) (w2 : (Jvm.Cond.instanceMethod z).before a0 Z = true) (w3 : (Jvm.Cond.code z bytes maxL rt).before a0 Z = true) (w4 : (Jvm.Cond.initialized z.cls).before a0 Z = true) (hy : y.cls ≠ "java/lang/invoke/MethodHandle" ∧ y.cls ≠ "java/lang/invoke/VarHandle")
    (hM : KCt false l z bytes maxL rt rm Z n0 h as ws' Q) (E : Exa Z h a Cn) (argsL rest : List Value) (has : as = (.ref a :: argsL).toArray) (hlen : ∀ sig, parseMethodDescriptor y.desc = some sig → argsL.length = sig.parameters.length) (hst : st = argsL.reverse ++ .ref a :: rest) (hW : (rest.map fun v => v.category).sum ≤ W)
    (hd : decode cod pc = .ok (.invokevirtual index, 3)) (hsz : Ls.size = ml) (hf : rm.frames + 1 ≤ R.frames) (hl : W + (maxL + 11) + rm.locals ≤ R.locals) {cells' slots' : Nat} (hc : cells + rm.cells = cells') (hs : slots + rm.slots = slots') (hc' : cells' ≤ R.cells) (hs' : slots' ≤ R.slots) (hws : ∀ x ∈ ws', x ∈ ws ∨ h0.size ≤ x) {pc' : Nat} (hp : pc + 3 = pc')
    (k' : ∀ T' h' v, KPos wd s' p l e R s m args below meth c Z own n0 h0 ws T' h' cells' slots' → Keep h h' ws' → Q v h' → KGo p e below K T' m pc' Ls (v.toList ++ rest)) : KGo p e below K T m pc Ls st := by
  subst hp hc hs has
  obtain ⟨L, X, B, hZ, hown, eT, r1, r2, r3⟩ := P
  obtain ⟨cq, kq, qa, qb, qc⟩ := isOf hZ eT E
  obtain ⟨v, _, ⟨T', L', k1, n1⟩, -, X', ⟨Lc, ⟨q1, q2, q3⟩, l1, y1, z1⟩, stp⟩ := X.virtualBack C.1 (y := y) (z := z) hown (mvT hZ w1) (mvT hZ wdc) (nf s' hZ) (mvT hZ wsel) (mvT hZ w2) hy (backOf (W := W) (Q := fun v h' L => Fr n0 L ∧ Keep h h' ws' ∧ Q v h') hM.plain hZ w3 w4 hf hl) qa qc (g := mkF m pc Ls st) rfl (hsz.trans C.mlE.symm) (Steps.refl _) (argsL := argsL) (rest := rest) hlen hst (by show 2 * 0 + _ ≤ _; rw [Nat.mul_zero, Nat.zero_add]; exact hW) (hb C.cdE hd) (fun _ _ => ⟨rfl, eT, hc', hs'⟩)
  dsimp only [Pt.U, Pt.locs, Pt.cells, Pt.slots] at X' l1 y1 z1 stp q2 q3
  subst l1 y1 z1
  exact (k' T' T'.heap v ⟨_, X', B.mono q2.1, hZ, hown, rfl, Nat.le_trans r1 q2.1, Fr.app r2 q1, r3.trans q2 hws⟩ q2 q3).step fun t q => stp.trans q
theorem k_callI {xi y : MethodName} {Cn : String} {index count W maxL : Nat} {bytes : ByteArray} {rt : Option FieldType} {rm : Room} {as : Array Value} {ws' : List Addr} {Q : Option Value → Heap → Prop} (C : KCx tbl nm cod ml ret p meth c Z a0) (P : KPos wd s' p l e R s m args below meth c Z own n0 h0 ws T h cells slots)
    (w1 : (Jvm.Cond.methodLink own index xi).before a0 Z = true) (wdc : (Jvm.Cond.declares xi).before a0 Z = true) (wf : (Jvm.Cond.interfaceMethod xi.cls xi.cls xi.name xi.desc).before a0 Z = true) (wsel : (Jvm.Cond.selects Cn xi y).before a0 Z = true) (w2 : (Jvm.Cond.instanceMethod y).before a0 Z = true) (wp : (Jvm.Cond.publicMethod y).before a0 Z = true) (wu : (Jvm.Cond.unhidden Cn xi.name xi.desc).before a0 Z = true) (wc : (Jvm.Cond.castable Cn xi.cls).before a0 Z = true)
    (w3 : (Jvm.Cond.code y bytes maxL rt).before a0 Z = true) (w4 : (Jvm.Cond.initialized y.cls).before a0 Z = true) (hy : xi.cls ≠ "java/lang/invoke/MethodHandle" ∧ xi.cls ≠ "java/lang/invoke/VarHandle")
    (hM : KCt false l y bytes maxL rt rm Z n0 h as ws' Q) (E : Exa Z h a Cn) (argsL rest : List Value) (has : as = (.ref a :: argsL).toArray) (hlen : ∀ sig, parseMethodDescriptor xi.desc = some sig → argsL.length = sig.parameters.length) (hst : st = argsL.reverse ++ .ref a :: rest) (hW : (rest.map fun v => v.category).sum ≤ W)
    (hd : decode cod pc = .ok (.invokeinterface index count, 5)) (hsz : Ls.size = ml) (hf : rm.frames + 1 ≤ R.frames) (hl : W + (maxL + 11) + rm.locals ≤ R.locals) {cells' slots' : Nat} (hc : cells + rm.cells = cells') (hs : slots + rm.slots = slots') (hc' : cells' ≤ R.cells) (hs' : slots' ≤ R.slots) (hws : ∀ x ∈ ws', x ∈ ws ∨ h0.size ≤ x) {pc' : Nat} (hp : pc + 5 = pc')
    (k' : ∀ T' h' v, KPos wd s' p l e R s m args below meth c Z own n0 h0 ws T' h' cells' slots' → Keep h h' ws' → Q v h' → KGo p e below K T' m pc' Ls (v.toList ++ rest)) : KGo p e below K T m pc Ls st := by
  subst hp hc hs has
  obtain ⟨L, X, B, hZ, hown, eT, r1, r2, r3⟩ := P
  obtain ⟨cq, kq, qa, qb, qc⟩ := isOf hZ eT E
  obtain ⟨v, _, ⟨T', L', k1, n1⟩, -, X', ⟨Lc, ⟨q1, q2, q3⟩, l1, y1, z1⟩, stp⟩ := X.interfaceBack C.1 (xi := xi) (y := y) hown (mvT hZ w1) (mvT hZ wdc) (mvT hZ wf (by simp [Cond.onTables, Cond.keepsFace, Cond.faceAtom, hy.1, hy.2])) (mvT hZ wsel) (mvT hZ w2) (mvT hZ wp) (mvT hZ wu) (mvT hZ wc) hy (backOf (W := W) (Q := fun v h' L => Fr n0 L ∧ Keep h h' ws' ∧ Q v h') hM.plain hZ w3 w4 hf hl) qa qb qc (g := mkF m pc Ls st) rfl (hsz.trans C.mlE.symm) (Steps.refl _) (argsL := argsL) (rest := rest) hlen hst (by show 2 * 0 + _ ≤ _; rw [Nat.mul_zero, Nat.zero_add]; exact hW) (hb C.cdE hd) (fun _ _ => ⟨rfl, eT, hc', hs'⟩)
  dsimp only [Pt.U, Pt.locs, Pt.cells, Pt.slots] at X' l1 y1 z1 stp q2 q3
  subst l1 y1 z1
  exact (k' T' T'.heap v ⟨_, X', B.mono q2.1, hZ, hown, rfl, Nat.le_trans r1 q2.1, Fr.app r2 q1, r3.trans q2 hws⟩ q2 q3).step fun t q => stp.trans q
theorem k_callP {y : MethodName} {Cn : String} {index W maxL : Nat} {bytes : ByteArray} {rt : Option FieldType} {rm : Room} {as : Array Value} {ws' : List Addr} {Q : Option Value → Heap → Prop} (C : KCx tbl nm cod ml ret p meth c Z a0) (P : KPos wd s' p l e R s m args below meth c Z own n0 h0 ws T h cells slots)
    (w1 : (Jvm.Cond.methodLink own index y).before a0 Z = true) (w2 : (Jvm.Cond.instanceMethod y).before a0 Z = true) (wsel : (Jvm.Cond.selects y.cls y y).before a0 Z = true) (wp : (Jvm.Cond.privateMethod y).before a0 Z = true) (w3 : (Jvm.Cond.code y bytes maxL rt).before a0 Z = true) (w4 : (Jvm.Cond.initialized y.cls).before a0 Z = true) (hy : y.cls ≠ "java/lang/invoke/MethodHandle" ∧ y.cls ≠ "java/lang/invoke/VarHandle")
    (hM : KCt false l y bytes maxL rt rm Z n0 h as ws' Q) (E : Exa Z h a Cn) (argsL rest : List Value) (has : as = (.ref a :: argsL).toArray) (hlen : ∀ sig, parseMethodDescriptor y.desc = some sig → argsL.length = sig.parameters.length) (hst : st = argsL.reverse ++ .ref a :: rest) (hW : (rest.map fun v => v.category).sum ≤ W)
    (hd : decode cod pc = .ok (.invokevirtual index, 3)) (hsz : Ls.size = ml) (hf : rm.frames + 1 ≤ R.frames) (hl : W + (maxL + 11) + rm.locals ≤ R.locals) {cells' slots' : Nat} (hc : cells + rm.cells = cells') (hs : slots + rm.slots = slots') (hc' : cells' ≤ R.cells) (hs' : slots' ≤ R.slots) (hws : ∀ x ∈ ws', x ∈ ws ∨ h0.size ≤ x) {pc' : Nat} (hp : pc + 3 = pc')
    (k' : ∀ T' h' v, KPos wd s' p l e R s m args below meth c Z own n0 h0 ws T' h' cells' slots' → Keep h h' ws' → Q v h' → KGo p e below K T' m pc' Ls (v.toList ++ rest)) : KGo p e below K T m pc Ls st := by
  subst hp hc hs has
  obtain ⟨L, X, B, hZ, hown, eT, r1, r2, r3⟩ := P
  obtain ⟨cq, qa, qb⟩ := E.cell
  obtain ⟨v, _, ⟨T', L', k1, n1⟩, -, X', ⟨Lc, ⟨q1, q2, q3⟩, l1, y1, z1⟩, stp⟩ := X.privateBack C.1 (y := y) hown (mvT hZ w1) (mvT hZ w2) (mvT hZ wsel) (Cond.privateMethod_at (mvP hZ wp (args := #[]))) (mvT hZ w3) hy (backOf (W := W) (Q := fun v h' L => Fr n0 L ∧ Keep h h' ws' ∧ Q v h') hM.plain hZ w3 w4 hf hl) (g := mkF m pc Ls st) rfl (hsz.trans C.mlE.symm) (Steps.refl _) (a := a) (by rw [eT]; exact qa) qb (argsL := argsL) (rest := rest) hlen hst (by show 2 * 0 + _ ≤ _; rw [Nat.mul_zero, Nat.zero_add]; exact hW) (hb C.cdE hd) (fun _ _ => ⟨rfl, eT, hc', hs'⟩)
  dsimp only [Pt.U, Pt.locs, Pt.cells, Pt.slots] at X' l1 y1 z1 stp q2 q3
  subst l1 y1 z1
  exact (k' T' T'.heap v ⟨_, X', B.mono q2.1, hZ, hown, rfl, Nat.le_trans r1 q2.1, Fr.app r2 q1, r3.trans q2 hws⟩ q2 q3).step fun t q => stp.trans q
theorem k_callT {y : MethodName} {index W maxL : Nat} {bytes : ByteArray} {rt : Option FieldType} {rm : Room} {as : Array Value} {ws' : List Addr} {Q : Option Value → Heap → Prop} (C : KCx tbl nm cod ml ret p meth c Z a0) (P : KPos wd s' p l e R s m args below meth c Z own n0 h0 ws T h cells slots)
    (w1 : (Jvm.Cond.methodLink own index y).before a0 Z = true) (w2 : (Jvm.Cond.static y).before a0 Z = true) (w3 : (Jvm.Cond.code y bytes maxL rt).before a0 Z = true) (w4 : (Jvm.Cond.initialized y.cls).before a0 Z = true) (hy : y.cls ≠ "java/lang/invoke/MethodHandle" ∧ y.cls ≠ "java/lang/invoke/VarHandle")
    (hM : KCt false l y bytes maxL rt rm Z n0 h as ws' Q) (argsL rest : List Value) (has : as = argsL.toArray) (hlen : ∀ sig, parseMethodDescriptor y.desc = some sig → argsL.length = sig.parameters.length) (hst : st = argsL.reverse ++ rest) (hW : (rest.map fun v => v.category).sum ≤ W)
    (hd : decode cod pc = .ok (.invokestatic index, 3)) (hsz : Ls.size = ml) (hf : rm.frames + 1 ≤ R.frames) (hl : W + (maxL + 11) + rm.locals ≤ R.locals) {cells' slots' : Nat} (hc : cells + rm.cells = cells') (hs : slots + rm.slots = slots') (hc' : cells' ≤ R.cells) (hs' : slots' ≤ R.slots) (hws : ∀ x ∈ ws', x ∈ ws ∨ h0.size ≤ x) {pc' : Nat} (hp : pc + 3 = pc')
    (k' : ∀ T' h' v, KPos wd s' p l e R s m args below meth c Z own n0 h0 ws T' h' cells' slots' → Keep h h' ws' → Q v h' → KGo p e below K T' m pc' Ls (v.toList ++ rest)) : KGo p e below K T m pc Ls st := by
  subst hp hc hs has
  obtain ⟨L, X, B, hZ, hown, eT, r1, r2, r3⟩ := P
  obtain ⟨v, _, ⟨T', L', k1, n1⟩, -, X', ⟨Lc, ⟨q1, q2, q3⟩, l1, y1, z1⟩, stp⟩ := Jvm.LawKit.callS X C.1 (y := y) hown (mvT hZ w1) (mvT hZ w2) (mvT hZ w4) (mvT hZ w3) hy (backOf (W := W) (Q := fun v h' L => Fr n0 L ∧ Keep h h' ws' ∧ Q v h') hM.plain hZ w3 w4 hf hl) (g := mkF m pc Ls st) rfl (hsz.trans C.mlE.symm) (argsL := argsL) (rest := rest) hlen hst (by show 2 * 0 + _ ≤ _; rw [Nat.mul_zero, Nat.zero_add]; exact hW) (hb C.cdE hd) (fun _ _ => ⟨rfl, eT, hc', hs'⟩)
  dsimp only [Pt.U, Pt.locs, Pt.cells, Pt.slots] at X' l1 y1 z1 stp q2 q3
  subst l1 y1 z1
  exact (k' T' T'.heap v ⟨_, X', B.mono q2.1, hZ, hown, rfl, Nat.le_trans r1 q2.1, Fr.app r2 q1, r3.trans q2 hws⟩ q2 q3).step stp
theorem k_ldcS {index : Nat} {text : String} {n : Nat} (C : KCx tbl nm cod ml ret p meth c Z a0) (P : KPos true s' p l e R s m args below meth c Z own n0 h0 ws T h cells slots) (w : (Jvm.Cond.stringLink own index text).before a0 Z = true) (wS : ∀ a ∈ Bundle.stringAtoms, a.before a0 Z = true) (hd : decode cod pc = .ok (.ldc index, 2)) (hn : 4 * text.toList.length ≤ n) (hbig : n ≤ 536870912)
    {cells' slots' : Nat} (hc : cells + 2 = cells') (hs : slots + (n + 4) = slots') (hc' : cells' ≤ R.cells) (hs' : slots' ≤ R.slots) {pc' : Nat} (hp : pc + 2 = pc')
    (k' : ∀ s₂ T' h' a, KPos true s₂ p l e R s m args below meth c Z own n0 h0 ws T' h' cells' slots' → Ext h h' → KGo p e below K T' m pc' Ls (.ref a :: st)) : KGo p e below K T m pc Ls st := by
  subst hp hc hs
  obtain ⟨Lo, X, ⟨vm, k0, rfl, hS, hk0⟩, hZ, hown, eT, r1, r2, r3⟩ := P
  obtain ⟨a, T', h', k1, X', e', E, hS', hk1, hZ', hown', stp⟩ := ldcS X C.1 hZ hown w wS eT hS hk0 (g := mkF m pc Ls st) rfl (hb C.cdE hd) hn hbig hc' hs'
  exact (k' (s.setVm T'.vm) T' h' a ⟨Lo, X', ⟨T'.vm, k1, rfl, hS', hk1⟩, hZ', hown', e', Nat.le_trans r1 E.1, r2, r3.ext E⟩ E).step stp
theorem k_newpE {aty : ArrayType} {ad : String} {z : Int32} {N cap : Nat} (C : KCx tbl nm cod ml ret p meth c Z a0) (P : KPos wd s' p l e R s m args below meth c Z own n0 h0 ws T h cells slots) (w : (Jvm.Cond.arrayClass (newarray.typeOf aty)).before a0 Z = true) (had : "[" ++ (newarray.typeOf aty).toString = ad) (hd : decode cod pc = .ok (.newarray aty, 2)) (hN : z.toInt = (N : Int)) (hcap : N ≤ cap) (hb8 : cap * 8 ≤ 536870912)
    {cells' slots' : Nat} (hc : cells + 1 = cells') (hs : slots + cap = slots') (hc' : cells' ≤ R.cells) (hs' : slots' ≤ R.slots) {pc' : Nat} (hp : pc + 2 = pc')
    (k' : ∀ T' h' a k, KPos wd s' p l e R s m args below meth c Z own n0 h0 ws T' h' cells' slots' → h.size = a → n0 ≤ a → h0.size ≤ a → Ext h h' → KVA Z h' a k (newarray.typeOf aty) N (fun _ => defaultValue (newarray.typeOf aty)) → Exa Z h' a ad → KGo p e below K T' m pc' Ls (.ref a :: st)) : KGo p e below K T m pc Ls (.int z :: st) := by
  subst hp hc hs
  obtain ⟨Lo, X, B, hZ, hown, eT, r1, r2, r3⟩ := P
  have e0 : ¬ z < 0 := by rw [Int32.lt_iff_toInt_lt]; have : (0 : Int32).toInt = 0 := rfl; omega
  have e1 : z.toNatClampNeg ≤ cap := by simp only [Int32.toNatClampNeg]; omega
  obtain ⟨T', h', kA, X', e', E, A, Ex, stp⟩ := newPE X C.1 hZ w eT (g := mkF m pc Ls (.int z :: st)) rfl (hb C.cdE hd) rfl e0 e1 hb8 hc' hs' had
  exact (k' T' h' _ kA ⟨_, X', B.mono E.1, hZ, hown, e', Nat.le_trans r1 E.1, r2, r3.ext E⟩ rfl r1 r3.1 E (KVA.new A hN) Ex).step stp
/-- an array's clone: its own, like it -/
theorem k_clone {ad : String} {index W N cap : Nat} {k : ClassId} {ty : FieldType} {f : Nat → Value} (C : KCx tbl nm cod ml ret p meth c Z a0) (P : KPos wd s' p l e R s m args below meth c Z own n0 h0 ws T h cells slots)
    (w1 : (Cond.methodLink own index ⟨ad, "clone", "()Ljava/lang/Object;"⟩).before a0 Z = true) (w2 : (Cond.sameMethod ad "java/lang/Object" "clone" "()Ljava/lang/Object;").before a0 Z = true) (w3 : (Cond.native ⟨"java/lang/Object", "clone", "()Ljava/lang/Object;"⟩).before a0 Z = true)
    (w4 : (Cond.instanceMethod ⟨"java/lang/Object", "clone", "()Ljava/lang/Object;"⟩).before a0 Z = true) (w5 : (Cond.selects ad ⟨ad, "clone", "()Ljava/lang/Object;"⟩ ⟨"java/lang/Object", "clone", "()Ljava/lang/Object;"⟩).before a0 Z = true) (w6 : (Cond.castable ad "java/lang/Cloneable").before a0 Z = true)
    (V : KVA Z h a k ty N f) (G : ∀ i, i < N → fits ty (f i) = true) (Ex : Exa Z h a ad) (hd : decode cod pc = .ok (.invokevirtual index, 3)) (hsz : Ls.size = ml) (hW : (st.map fun v => v.category).sum ≤ W) (hf : 1 ≤ R.frames) (hl : W + 14 ≤ R.locals) (hcap : N ≤ cap)
    {cells' slots' : Nat} (hc : cells + 1 = cells') (hs : slots + cap = slots') (hc' : cells' ≤ R.cells) (hs' : slots' ≤ R.slots) {pc' : Nat} (hp : pc + 3 = pc')
    (k' : ∀ T' h' b, KPos wd s' p l e R s m args below meth c Z own n0 h0 ws T' h' cells' slots' → h.size = b → n0 ≤ b → h0.size ≤ b → Ext h h' → KVA Z h' b k ty N f → Exa Z h' b ad → KGo p e below K T' m pc' Ls (.ref b :: st)) : KGo p e below K T m pc Ls (.ref a :: st) := by
  subst hp hc hs
  obtain ⟨Lo, X, B, hZ, hown, eT, r1, r2, r3⟩ := P
  obtain ⟨cl, A, q1, q2, q3, q4⟩ := V
  have FC : FitC Z cl := fitC_of A fun i hi v hv => by rw [q4 i (q2 ▸ hi)] at hv; cases hv; exact G i (q2 ▸ hi)
  obtain ⟨T', h', X', e', E, A', E', stp⟩ := cloneA X C.1 hZ hown w1 w2 w3 w4 w5 w6 eT A Ex FC (g := mkF m pc Ls (.ref a :: st)) rfl (hsz.trans C.mlE.symm) rfl (hb C.cdE hd) hf (by show 2 * 0 + _ ≤ _; rw [Nat.mul_zero, Nat.zero_add]; exact hW) hl (by rw [q2]; exact hcap) hc' hs'
  exact (k' T' h' _ ⟨_, X', B.mono E.1, hZ, hown, e', Nat.le_trans r1 E.1, r2, r3.ext E⟩ rfl r1 r3.1 E ⟨_, A', q1, q2, q3, q4⟩ E').step stp
theorem KVA.arv {k : ClassId} {ty : FieldType} {N : Nat} {f : Nat → Value} {z : Int32} (V : KVA Z h a k ty N f) (hz : z.toInt = (N : Int)) (G : ∀ i, i < N → fits ty (f i) = true) (dv : Value) : Arv Z h a k ty z ((List.range N).map f) dv := by
  obtain ⟨cl, A, q1, q2, q3, q4⟩ := V
  have e : z.toNatClampNeg = N := by simp only [Int32.toNatClampNeg]; omega
  have gd : ∀ i, i < N → ((List.range N).map f).getD i dv = f i := fun i hi => by simp [List.getD_eq_getElem?_getD, hi]
  refine ⟨cl, A, q1, by rw [q2, e], by rw [Int32.lt_iff_toInt_lt]; have : (0 : Int32).toInt = 0 := rfl; omega, fun i hi => ?_, fun i hi => ?_⟩
  · rw [gd i (q2 ▸ hi)]; exact q4 i (q2 ▸ hi)
  · rw [gd i (q2 ▸ hi)]; exact G i (q2 ▸ hi)
theorem KVA.of_arv {k : ClassId} {ty : FieldType} {N : Nat} {f : Nat → Value} {z : Int32} {vs : List Value} {dv : Value} (V : Arv Z h a k ty z vs dv) (hz : z.toInt = (N : Int)) (q : ∀ i, i < N → vs.getD i dv = f i) : KVA Z h a k ty N f := by
  obtain ⟨cl, A, q1, q2, q3, q4, -⟩ := V
  have e : z.toNatClampNeg = N := by simp only [Int32.toNatClampNeg]; omega
  have := Int32.toInt_lt z
  exact ⟨cl, A, q1, by rw [q2, e], by omega, fun i hi => by rw [← q i hi]; exact q4 i (by rw [q2, e]; exact hi)⟩
/-- System.arraycopy between arrays of one primitive kind -/
theorem k_acopy {index W N N' S D n : Nat} {k k1 : ClassId} {ty : FieldType} {f f' g' : Nat → Value} {sp dp nn : Int32} (C : KCx tbl nm cod ml ret p meth c Z a0) (P : KPos wd s' p l e R s m args below meth c Z own n0 h0 ws T h cells slots)
    (w1 : (Cond.methodLink own index Jvm.Stand.acN).before a0 Z = true) (w2 : (Cond.native Jvm.Stand.acN).before a0 Z = true) (w3 : (Cond.static Jvm.Stand.acN).before a0 Z = true) (w4 : (Cond.initialized "java/lang/System").before a0 Z = true)
    (A : KVA Z h a k ty N f) (B : KVA Z h b k1 ty N' f') (hty : refKind ty = false) (GA : ∀ i, i < N → fits ty (f i) = true) (GB : ∀ i, i < N' → fits ty (f' i) = true) (hS : sp.toInt = (S : Int)) (hD : dp.toInt = (D : Int)) (hn : nn.toInt = (n : Int)) (h4 : S + n ≤ N) (h5 : D + n ≤ N')
    (hg : ∀ i, i < N' → (if D ≤ i ∧ i < D + n then f (S + (i - D)) else f' i) = g' i) (hd : decode cod pc = .ok (.invokestatic index, 3)) (hsz : Ls.size = ml) (hW : (st.map fun v => v.category).sum ≤ W) (hf : 1 ≤ R.frames) (hlo : W + (nativeFrameWords "java/lang/System" "arraycopy" 5 + 11) ≤ R.locals) (hge : n0 ≤ b) (hwb : b ∈ ws ∨ h0.size ≤ b) {pc' : Nat} (hp : pc + 3 = pc')
    (k' : ∀ T' h', KPos wd s' p l e R s m args below meth c Z own n0 h0 ws T' h' cells slots → Keep h h' [b] → KVA Z h' b k1 ty N' g' → KGo p e below K T' m pc' Ls st) : KGo p e below K T m pc Ls (.int nn :: .int dp :: .ref b :: .int sp :: .ref a :: st) := by
  subst hp
  obtain ⟨Lo, X, Bs, hZ, hown, eT, r1, r2, r3⟩ := P
  have nat : ∀ {x : Int32} {M : Nat}, x.toInt = (M : Int) → ¬ x < 0 ∧ x.toNatClampNeg = M := fun {x M} q => ⟨by rw [Int32.lt_iff_toInt_lt]; have : (0 : Int32).toInt = 0 := rfl; omega, by simp only [Int32.toNatClampNeg]; omega⟩
  have zN : ∀ {M : Nat}, M < 2 ^ 31 → (Int32.ofNat M).toInt = (M : Int) := fun {M} q => by rw [Int32.toInt_ofNat_of_lt q]
  have bN : N < 2 ^ 31 := by obtain ⟨_, _, _, _, q, _⟩ := A; exact q
  have bN' : N' < 2 ^ 31 := by obtain ⟨_, _, _, _, q, _⟩ := B; exact q
  have e1 := nat hS; have e2 := nat hD; have e3 := nat hn; have e4 := nat (zN bN); have e5 := nat (zN bN')
  obtain ⟨T', h', L', X', e', F', Kp, V', stp⟩ := cpA X C.1 hZ hown w1 w2 w3 w4 eT (A.arv (zN bN) GA .null) (B.arv (zN bN') GB .null) (Or.inl ⟨rfl, hty⟩) e1.1 e2.1 e3.1 (by rw [e1.2, e3.2, e4.2]; exact h4) (by rw [e2.2, e3.2, e5.2]; exact h5) rfl (by rw [e2.2, e3.2]; simpa using h5) r2 hge (g := mkF m pc Ls (.int nn :: .int dp :: .ref b :: .int sp :: .ref a :: st)) rfl (hsz.trans C.mlE.symm) rfl (hb C.cdE hd) hf (by show 2 * 0 + _ ≤ _; rw [Nat.mul_zero, Nat.zero_add]; exact hW) hlo
  refine (k' T' h' ⟨_, X', Bs.mono Kp.1, hZ, hown, e', Nat.le_trans r1 Kp.1, F', r3.trans Kp (by intro x hx; rw [List.mem_singleton] at hx; subst hx; exact hwb)⟩ Kp (KVA.of_arv V' (zN bN') fun i hi => ?_)).step stp
  rw [← hg i hi, e1.2, e2.2, e3.2]
  by_cases q : D ≤ i ∧ i < D + n
  · rw [if_pos q, List.getD_eq_getElem?_getD, List.append_assoc, List.getElem?_append_right (by simp; omega), List.getElem?_append_left (by simp; omega)]
    simp only [List.length_take, List.length_map, List.length_range, Nat.min_eq_left (show D ≤ N' by omega)]
    rw [List.getElem?_map, List.getElem?_range (by omega)]
    simp only [Option.map_some, Option.getD_some, List.getD_eq_getElem?_getD]
    rw [List.getElem?_map, List.getElem?_range (by omega)]; rfl
  · rw [if_neg q, List.getD_eq_getElem?_getD, List.append_assoc]
    by_cases u : i < D
    · rw [List.getElem?_append_left (by simp; omega), List.getElem?_take_of_lt u, List.getElem?_map, List.getElem?_range hi]; rfl
    · rw [List.getElem?_append_right (by simp; omega), List.getElem?_append_right (by simp; omega)]
      simp only [List.length_take, List.length_map, List.length_range, Nat.min_eq_left (show D ≤ N' by omega), List.getElem?_drop]
      rw [show D + n + (i - D - n) = i by omega, List.getElem?_map, List.getElem?_range hi]; rfl
theorem k_selP {y : MethodName} {kk : Nat} (wi : (Jvm.Cond.instantiable y.cls kk).before a0 Z = true) (wp : (Jvm.Cond.privateMethod y).before a0 Z = true) (w2 : (Jvm.Cond.instanceMethod y).before a0 Z = true) (hy : y.cls ≠ "java/lang/invoke/MethodHandle" ∧ y.cls ≠ "java/lang/invoke/VarHandle") : (Jvm.Cond.selects y.cls y y).before a0 Z = true := by
  obtain ⟨c, k, h1, h2, -, h3, -⟩ := Cond.instantiable_spec wi
  exact selects_self_of_private h1 h2 (by simp at h3; exact h3.1) (Cond.privateMethod_at wp) w2 hy
theorem KCt.wide {y : MethodName} {rm : Room} {as : Array Value} {Q : Option Value → Heap → Prop} {ws' : List Addr} (k : KCt wd l y cod ml ret rm Z n0 h0 as ws Q) (hs : ∀ x ∈ ws, x ∈ ws') : KCt wd l y cod ml ret rm Z n0 h0 as ws' Q := by
  intro wsc p e h1 h2 h3 s m args below h4 h5 h6 h7
  obtain ⟨n, o, g1, g2, g3, v, L, g4, ⟨g5, g6, g7⟩, g8⟩ := k wsc p e h1 h2 h3 s m args below h4 h5 h6 h7
  exact ⟨n, o, g1, g2, g3, v, L, g4, ⟨g5, ⟨g6.1, fun x c q r => g6.2.1 x c q fun u => r (hs x u), g6.2.2⟩, g7⟩, g8⟩
theorem KVA.neT {k k1 : ClassId} {ty ty1 : FieldType} {N N1 : Nat} {f f1 : Nat → Value} (F : KVA Z h a k ty N f) (G : KVA Z h b k1 ty1 N1 f1) (hne : ty ≠ ty1) : a ≠ b := fun e => by
  subst e
  obtain ⟨c, A, -⟩ := F; obtain ⟨c1, A1, -⟩ := G
  cases A.1.symm.trans A1.1
  obtain ⟨-, k, hk, comp, hkind⟩ := A.2.1
  obtain ⟨-, k', hk', comp', hkind'⟩ := A1.2.1
  cases hk.symm.trans hk'
  rw [hkind] at hkind'; cases hkind'; exact hne rfl
/-- the ways from here to one place, made one (the heap unturned) -/
theorem k_join {pc' : Nat} {Ls' : Array Slot} {st' : List Value} (P : KPos wd s' p l e R s m args below meth c Z own n0 h0 ws T h cells slots)
    (f : (∀ T', KPos wd s' p l e R s m args below meth c Z own n0 h0 ws T' h cells slots → KGo p e below K T' m pc' Ls' st') → KGo p e below K T m pc Ls st)
    (k' : ∀ T', KPos wd s' p l e R s m args below meth c Z own n0 h0 ws T' h cells slots → KGo p e below K T' m pc' Ls' st') : KGo p e below K T m pc Ls st := f k'
theorem k_exaNs {Cn : String} (E : Exa Z h a Cn) : ∀ cell : Cell, h[a]? = some cell → cell.vm.isStatics = false := fun cell q => by
  obtain ⟨c', h1, h2⟩ := E.cell
  cases q.symm.trans h1
  cases e : cell.vm <;> first | rfl | exact absurd e (h2 _)
theorem KOb.ns {Cn : String} {lay : List (String × String × String)} {vs : List Value} (F : KOb Z h a Cn lay vs) : ∀ cell : Cell, h[a]? = some cell → cell.vm.isStatics = false := k_exaNs F.exa
theorem KVA.ns {k : ClassId} {ty : FieldType} {N : Nat} {f : Nat → Value} (F : KVA Z h a k ty N f) : ∀ cell : Cell, h[a]? = some cell → cell.vm.isStatics = false := fun cell q => by
  obtain ⟨c', A, -⟩ := F
  cases q.symm.trans A.1
  have h2 := A.2.1.1
  cases e : cell.vm <;> first | rfl | exact absurd e (h2 _)
theorem k_ns0 : ∀ x ∈ ([] : List Addr), ∀ cell : Cell, h[x]? = some cell → cell.vm.isStatics = false := fun _ q => nomatch q
theorem k_nsS {l' : List Addr} (q : ∀ cell : Cell, h[a]? = some cell → cell.vm.isStatics = false) (r : ∀ x ∈ l', ∀ cell : Cell, h[x]? = some cell → cell.vm.isStatics = false) : ∀ x ∈ a :: l', ∀ cell : Cell, h[x]? = some cell → cell.vm.isStatics = false := fun x hx => by
  rcases List.mem_cons.mp hx with rfl | u
  · exact q
  · exact r x u
theorem k_staKeep {Cn n d : String} {v : Value} {ws' : List Addr} (F : Sta Z h Cn n d v) (K' : Keep h h' ws') (q : ∀ x ∈ ws', ∀ cell : Cell, h[x]? = some cell → cell.vm.isStatics = false) : Sta Z h' Cn n d v := by
  obtain ⟨cf, i, k, f, st, cell, h1, h2, h3, h4, h5, h6, h7⟩ := F
  exact ⟨cf, i, k, f, st, cell, h1, h2, h3, h4, K'.2.1 st cell h5 (fun u => by have := q st u cell h5; rw [this] at h6; cases h6), h6, h7⟩
/-! ### String constants whose text is known (library RW14: CHv, CHr, Safe) -/
def KEndH (EL : List (String × Nat)) (Z s : State) (n0 : Nat) (h0 : Heap) (ws : List Addr) (Q : Option Value → Heap → Prop) (kc ks : Nat) (s₂ : State) (o : Outcome) : Prop :=
  ∃ v L, o = .returned v ∧ (Fr n0 L ∧ Keep h0 s₂.heap ws ∧ Q v s₂.heap) ∧ CHr Z EL s.vm h0 s₂.vm s₂.heap ∧ ReturnedEndW s o s₂ L kc ks
/-- a body's contract that keeps the constants of EL; sf: places that are no constant's at its start -/
def KCh (EL : List (String × Nat)) (l : Launch) (y : MethodName) (cod : ByteArray) (ml : Nat) (ret : Option FieldType) (rm : Room) (Z : State) (n0 : Nat) (h0 : Heap) (as : Array Value) (sf ws : List Addr) (Q : Option Value → Heap → Prop) : Prop :=
  ∀ wsc : List Jvm.Cond, MetFree l y (head1 (Jvm.Cond.code y cod ml ret :: wsc) rm) (fun a U => a = as ∧ Z.Warmed39 U.vm ∧ U.heap = h0 ∧ CHv Z EL U.vm h0 ∧ ∀ x ∈ sf, Safe Z EL U.vm h0 x) (fun _ _ _ _ _ => True)
    (fun _ U o U' => ∃ v L, o = .returned v ∧ (Fr n0 L ∧ Keep h0 U'.heap ws ∧ Q v U'.heap) ∧ CHr Z EL U.vm U.heap U'.vm U'.heap ∧ ReturnedEndW U o U' L rm.cells rm.slots)
theorem k_enterH {EL : List (String × Nat)} {y : MethodName} {rm : Room} {as : Array Value} {sf : List Addr} {Q : Option Value → Heap → Prop} (hp : plainFor y = true) (hw : ∀ d ∈ tbl, d.before a0 Z = true) (hn : n0 ≤ h0.size) (hef : ∀ m, entryFrame m as ml = mkF m 0 Ls [])
    (body : ∀ p e s m below meth c T, KCx tbl y.name cod ml ret p meth c Z a0 → KPos true s p l e rm s m as below meth c Z y.cls n0 h0 ws T h0 0 0 → CHr Z EL s.vm h0 s.vm h0 → (∀ x ∈ sf, Safe Z EL s.vm h0 x) → KGo p e below (KEndH EL Z s n0 h0 ws Q rm.cells rm.slots) T m 0 Ls []) : KCh EL l y cod ml ret rm Z n0 h0 as sf ws Q := by
  intro wsc
  refine MetFree.of_bodySF hp hisR ?_
  intro p e s m args below meth c s₁ Bd hml0 hP hK
  obtain ⟨rfl, hZ, hh, hC, hSf⟩ := hP
  have B : KBase true s s h0.size := ⟨s.vm, 0, rfl, State.WarmedH.since (State.WarmedH.refl s) 0, Nat.zero_le _⟩
  have g := body p e s m below meth c s₁ ⟨Bd.exec, hw, Bd.bytes, hml0, Bd.returns, (name_of_methodNamed Bd.named Bd.method).1, Bd.notSynchronized⟩ ⟨[], Stand.of_body Bd, B, hZ, findClass_of_methodNamed Bd.named, by rw [← hh, Bd.state]; rfl, hn, Fr.nil _, Keep.refl _ _⟩ (CHr.refl hC) hSf
  obtain ⟨s₂, o, g1, g2, g3, v, L, g4, g5, g6, g7⟩ := g
  exact ⟨s₂, o, castTop (hef m) g1, g2, g3, v, L, g4, g5, by rw [hh]; exact g6, g7⟩
theorem k_retValH {EL : List (String × Nat)} {Q : Option Value → Heap → Prop} {kc ks : Nat} {v : Option Value} (C : KCx tbl nm cod ml ret p meth c Z a0) (P : KPos true s' p l e R s m args below meth c Z own n0 h0 ws T h cells slots) (hEL : EW Z a0 EL) (HR : CHr Z EL s.vm h0 s'.vm h) (hv : ret = none → v = none) (hc : cells ≤ kc) (hs : slots ≤ ks) (hQ : Q v h)
    (q : ∀ fs, (∀ (f : JFrame) (acts : List Action), f.method = m → f.locked = none → f.entered = [] → (doReturn e (T.setTop f) acts v).1 = T.setFrames fs) → Steps p.tables e below (T.setTop (mkF m pc Ls st)) (T.setFrames fs)) : KGo p e below (KEndH EL Z s n0 h0 ws Q kc ks) T m pc Ls st := by
  obtain ⟨L, X, B, hZ, hown, eT, hn, hF, hk⟩ := P
  have hl : meth.locks = false := C.lk
  have X2 := X.more hc hs
  obtain ⟨vm, k, rfl, hS, hk0⟩ := B
  obtain ⟨fs, hr, hrun, hended, hW⟩ := X2.leaveW hS (by rw [eT]; exact hk0) (v := v) (fun q => hv (C.rtE.symm.trans q)) hl
  have A := HR.trans (CHv.at X hZ hEL HR.1)
  exact ⟨_, _, q fs hr, hrun, hended, v, L, rfl, ⟨hF, by show Keep h0 T.heap ws; rw [eT]; exact hk, by show Q v T.heap; rw [eT]; exact hQ⟩, by show CHr Z EL s.vm h0 T.vm T.heap; rw [eT]; exact A, hW⟩
theorem k_retHV {EL : List (String × Nat)} {Q : Option Value → Heap → Prop} {kc ks : Nat} (C : KCx tbl nm cod ml none p meth c Z a0) (P : KPos true s' p l e R s m args below meth c Z own n0 h0 ws T h cells slots) (hEL : EW Z a0 EL) (HR : CHr Z EL s.vm h0 s'.vm h) (hd : decode cod pc = .ok (.return_, 1)) (hc : cells ≤ kc) (hs : slots ≤ ks) (hQ : Q none h) : KGo p e below (KEndH EL Z s n0 h0 ws Q kc ks) T m pc Ls [] :=
  k_retValH C P hEL HR (fun _ => rfl) hc hs hQ fun fs hr => by obtain ⟨L, X, -⟩ := P; exact X.returnOut C.1 C.rtE (hb C.cdE hd) hr
theorem k_retHZ {EL : List (String × Nat)} {Q : Option Value → Heap → Prop} {kc ks : Nat} {z z' : Int32} {t : FieldType} (C : KCx tbl nm cod ml (some t) p meth c Z a0) (P : KPos true s' p l e R s m args below meth c Z own n0 h0 ws T h cells slots) (hEL : EW Z a0 EL) (HR : CHr Z EL s.vm h0 s'.vm h) (ht : t = .boolean ∨ t = .byte ∨ t = .char ∨ t = .short) (hd : decode cod pc = .ok (.ireturn, 1)) (hz : nar t z = z') (hc : cells ≤ kc) (hs : slots ≤ ks) (hQ : Q (some (.int z')) h) : KGo p e below (KEndH EL Z s n0 h0 ws Q kc ks) T m pc Ls (.int z :: st) :=
  k_retValH C P hEL HR (fun q => nomatch q) hc hs hQ fun fs hr => by
    subst hz
    obtain ⟨L, X, -⟩ := P
    exact retN X C.1 C.rtE ht (hb C.cdE hd) hr
theorem k_retHA {EL : List (String × Nat)} {Q : Option Value → Heap → Prop} {kc ks : Nat} {v : Value} {t : FieldType} (C : KCx tbl nm cod ml (some t) p meth c Z a0) (P : KPos true s' p l e R s m args below meth c Z own n0 h0 ws T h cells slots) (hEL : EW Z a0 EL) (HR : CHr Z EL s.vm h0 s'.vm h) (hd : decode cod pc = .ok (.areturn, 1)) (ht : t.isReference = true) (hv : v.isRef = true) (hc : cells ≤ kc) (hs : slots ≤ ks) (hQ : Q (some v) h) : KGo p e below (KEndH EL Z s n0 h0 ws Q kc ks) T m pc Ls (v :: st) :=
  k_retValH C P hEL HR (fun q => nomatch q) hc hs hQ fun fs hr => by
    obtain ⟨L, X, -⟩ := P
    exact retOut X C.1 C.rtE (k_narrow_ref hv) (Or.inr (Or.inr (Or.inr (Or.inr ⟨rfl, ht, hv⟩)))) (hb C.cdE hd) hr
/-- ldc of a String constant of EL: what it is -/
theorem k_ldcH {EL : List (String × Nat)} {index n N : Nat} {text : String} {f : Nat → Value} (C : KCx tbl nm cod ml ret p meth c Z a0) (P : KPos true s' p l e R s m args below meth c Z own n0 h0 ws T h cells slots) (hEL : EW Z a0 EL) (hmem : (own, index) ∈ EL) (H : CHv Z EL s'.vm h) (w : (Jvm.Cond.stringLink own index text).before a0 Z = true) (wS : ∀ a ∈ Bundle.stringAtoms, a.before a0 Z = true) (hd : decode cod pc = .ok (.ldc index, 2))
    (ht : ∀ c ∈ text.toList, c.toNat < 256) (hN : text.toList.length = N) (hN31 : N < 2 ^ 31) (hf : ∀ j, j < N → (text.toList.map (fun c => Value.int (Jvm.Lit.byteI c.toNat.toUInt16))).getD j (.int 0) = f j) (hn : 4 * text.toList.length ≤ n) (hbig : n ≤ 536870912)
    {cells' slots' : Nat} (hc : cells + 2 = cells') (hs : slots + (n + 4) = slots') (hc' : cells' ≤ R.cells) (hs' : slots' ≤ R.slots) {pc' : Nat} (hp : pc + 2 = pc')
    (k' : ∀ s₂ T' h' a b k, KPos true s₂ p l e R s m args below meth c Z own n0 h0 ws T' h' cells' slots' → Ext h h' → Exa Z h' a "java/lang/String" → Fld Z h' a "java/lang/String" "coder" "B" (.int 0) → Fld Z h' a "java/lang/String" "value" "[B" (.ref b) → KVA Z h' b k .byte N f → CHr Z EL s'.vm h s₂.vm h' → (∀ x, Safe Z EL s₂.vm h' x → x ≠ a ∧ x ≠ b) → KGo p e below K T' m pc' Ls (.ref a :: st)) : KGo p e below K T m pc Ls st := by
  subst hp hc hs
  obtain ⟨Lo, X, ⟨vm, k0, rfl, hS, hk0⟩, hZ, hown, eT, r1, r2, r3⟩ := P
  have hz : (Int32.ofNat N).toInt = (N : Int) := Int32.toInt_ofNat_of_lt hN31
  obtain ⟨a, T', h', k1, b, k, X', e', E, hS', hk1, hZ', hown', x1, x2, x3, x4, -, -, hC, -, hne, stp⟩ := ldcCH X C.1 hZ hown w wS eT hS hk0 hEL hmem H (z := Int32.ofNat N) ⟨ht, rfl⟩ (by rw [Int32.lt_iff_toInt_lt, hz]; have : (0 : Int32).toInt = 0 := rfl; omega) (by simp only [Int32.toNatClampNeg, hz, List.length_map, hN]; omega) (g := mkF m pc Ls st) rfl (hb C.cdE hd) hn hbig hc' hs'
  exact (k' (s.setVm T'.vm) T' h' a b k ⟨Lo, X', ⟨T'.vm, k1, rfl, hS', hk1⟩, hZ', hown', e', Nat.le_trans r1 E.1, r2, r3.ext E⟩ E x1 x2 x3 (KVA.of_arv x4 hz hf) hC hne).step stp
/-- a held contract, for the library's calls -/
theorem k_backH {EL : List (String × Nat)} {y : MethodName} {bytes : ByteArray} {maxL : Nat} {rt : Option FieldType} {rm : Room} {len W : Nat} {as : Array Value} {sf ws' : List Addr} {Q : Option Value → Heap → Prop} {vm0 : Vm}
    (hM : KCh EL l y bytes maxL rt rm Z n0 h as sf ws' Q) (hZ : Z.Warmed39 vm0) (wc : (Jvm.Cond.code y bytes maxL rt).before a0 Z = true) (wz : (Jvm.Cond.initialized y.cls).before a0 Z = true) (hf : rm.frames + 1 ≤ R.frames) (hl : W + (maxL + 11) + rm.locals ≤ R.locals) (hEL : EW Z a0 EL) (H : CHv Z EL vm0 h) (hSf : ∀ x ∈ sf, x < h.size ∧ Safe Z EL vm0 h x) :
    BackS l R p e below (s.setVm vm0) args y len W (fun A a => a = as ∧ A.U.heap = h ∧ A.cells + rm.cells ≤ R.cells ∧ A.slots + rm.slots ≤ R.slots)
      (fun A _ v B => ∃ L, (Fr n0 L ∧ Keep h B.U.heap ws' ∧ Q v B.U.heap) ∧ B.locs = A.locs ++ L ∧ B.cells = A.cells + rm.cells ∧ B.slots = A.slots + rm.slots ∧ CHr Z EL vm0 h B.U.vm B.U.heap) :=
  BackS.of_freeW (bytes := bytes) (maxL := maxL) (ret := rt) (E := fun _ first o t L k n => k = rm.cells ∧ n = rm.slots ∧ (∃ v, o = .returned v ∧ (Fr n0 L ∧ Keep h t.heap ws' ∧ Q v t.heap)) ∧ CHr Z EL first.vm first.heap t.vm t.heap) (hM []) hf hl
    (fun m meth c A a Y hp => have hU : Z.Warmed39 A.U.vm := wtrans (s := s.setVm vm0) hZ Y.warmed
      ⟨by show (Jvm.Cond.and _ .tt).before a A.U = true; rw [Cond.before_and, mv hU wc]; rfl, mv hU wc, mv hU wz, hp.2.2.1, hp.2.2.2⟩)
    (fun m meth c A a g mk Y hp => ⟨hp.1, wtrans (s := s.setVm vm0) hZ Y.warmed, hp.2.1, (CHv.at Y hZ hEL H).1, fun x hx => (CHv.at Y hZ hEL H).safe (hSf x hx).1 (hSf x hx).2⟩) (fun _ _ _ _ _ _ _ _ _ => trivial)
    (fun _ _ _ _ ⟨v, L, h1, h2, h3, h4⟩ => ⟨L, _, _, h4, rfl, rfl, ⟨v, h1, h2⟩, h3⟩)
    (fun m meth c A a g mk v t L k n Y hp _ _ ⟨e1, e2, ⟨v', e3, e4⟩, e5⟩ => by
      cases e3; subst e1 e2
      refine ⟨L, e4, rfl, rfl, rfl, (CHv.at Y hZ hEL H).trans ?_⟩
      rw [← hp.2.1]; exact e5)
theorem k_callTH {EL : List (String × Nat)} {y : MethodName} {index W maxL : Nat} {bytes : ByteArray} {rt : Option FieldType} {rm : Room} {as : Array Value} {sf ws' : List Addr} {Q : Option Value → Heap → Prop} (C : KCx tbl nm cod ml ret p meth c Z a0) (P : KPos true s' p l e R s m args below meth c Z own n0 h0 ws T h cells slots)
    (w1 : (Jvm.Cond.methodLink own index y).before a0 Z = true) (w2 : (Jvm.Cond.static y).before a0 Z = true) (w3 : (Jvm.Cond.code y bytes maxL rt).before a0 Z = true) (w4 : (Jvm.Cond.initialized y.cls).before a0 Z = true) (hy : y.cls ≠ "java/lang/invoke/MethodHandle" ∧ y.cls ≠ "java/lang/invoke/VarHandle")
    (hM : KCh EL l y bytes maxL rt rm Z n0 h as sf ws' Q) (hEL : EW Z a0 EL) (H : CHv Z EL s'.vm h) (hSf : ∀ x ∈ sf, x < h.size ∧ Safe Z EL s'.vm h x) (argsL rest : List Value) (has : as = argsL.toArray) (hlen : ∀ sig, parseMethodDescriptor y.desc = some sig → argsL.length = sig.parameters.length) (hst : st = argsL.reverse ++ rest) (hW : (rest.map fun v => v.category).sum ≤ W)
    (hd : decode cod pc = .ok (.invokestatic index, 3)) (hsz : Ls.size = ml) (hf : rm.frames + 1 ≤ R.frames) (hl : W + (maxL + 11) + rm.locals ≤ R.locals) {cells' slots' : Nat} (hc : cells + rm.cells = cells') (hs : slots + rm.slots = slots') (hc' : cells' ≤ R.cells) (hs' : slots' ≤ R.slots) (hws : ∀ x ∈ ws', x ∈ ws ∨ h0.size ≤ x) {pc' : Nat} (hp : pc + 3 = pc')
    (k' : ∀ s₂ T' h' v, KPos true s₂ p l e R s m args below meth c Z own n0 h0 ws T' h' cells' slots' → Keep h h' ws' → CHr Z EL s'.vm h s₂.vm h' → Q v h' → KGo p e below K T' m pc' Ls (v.toList ++ rest)) : KGo p e below K T m pc Ls st := by
  subst hp hc hs has
  obtain ⟨L, X, ⟨vm, k0, rfl, hS, hk0⟩, hZ, hown, eT, r1, r2, r3⟩ := P
  obtain ⟨v, _, ⟨T', L', k1, n1⟩, -, X', hS', hg', ⟨Lc, ⟨q1, q2, q3⟩, l1, y1, z1, hC⟩, stp⟩ := callSS X C.1 (y := y) hown (mvT hZ w1) (mvT hZ w2) (mvT hZ w4) (mvT hZ w3) hy (k_backH (W := W) hM hZ w3 w4 hf hl hEL H hSf) (g := mkF m pc Ls st) rfl (hsz.trans C.mlE.symm) (argsL := argsL) (rest := rest) hlen hst (by show 2 * 0 + _ ≤ _; rw [Nat.mul_zero, Nat.zero_add]; exact hW) (hb C.cdE hd) (fun _ _ => ⟨rfl, eT, hc', hs'⟩)
  dsimp only [Pt.U, Pt.locs, Pt.cells, Pt.slots] at X' l1 y1 z1 stp q2 q3 hS' hg' hC
  subst l1 y1 z1
  have S2 : s.Since T'.vm T'.heap.size := hS.trans hS' (Nat.le_trans hk0 q2.1)
  exact (k' (s.setVm T'.vm) T' T'.heap v ⟨_, X', ⟨T'.vm, T'.heap.size, rfl, S2, Nat.le_refl _⟩, State.Warmed39.trans (t := s.setVm vm) hZ hS'.1, by rw [show (s.setVm T'.vm).vm = T'.vm from rfl, hS'.1.alike.findClass]; exact hown, rfl, Nat.le_trans r1 q2.1, Fr.app r2 q1, r3.trans q2 hws⟩ q2 hC q3).step fun t q => stp.trans q
theorem k_callVH {EL : List (String × Nat)} {y z : MethodName} {Cn : String} {index W maxL : Nat} {bytes : ByteArray} {rt : Option FieldType} {rm : Room} {as : Array Value} {sf ws' : List Addr} {Q : Option Value → Heap → Prop} (C : KCx tbl nm cod ml ret p meth c Z a0) (P : KPos true s' p l e R s m args below meth c Z own n0 h0 ws T h cells slots)
    (w1 : (Jvm.Cond.methodLink own index y).before a0 Z = true) (wdc : (Jvm.Cond.declares y).before a0 Z = true) (nf : ∀ s' : State, Z.Warmed39 s'.vm → NotFace s' y) (wsel : (Jvm.Cond.selects Cn y z).before a0 Z = true) (w2 : (Jvm.Cond.instanceMethod z).before a0 Z = true) (w3 : (Jvm.Cond.code z bytes maxL rt).before a0 Z = true) (w4 : (Jvm.Cond.initialized z.cls).before a0 Z = true) (hy : y.cls ≠ "java/lang/invoke/MethodHandle" ∧ y.cls ≠ "java/lang/invoke/VarHandle")
    (hM : KCh EL l z bytes maxL rt rm Z n0 h as sf ws' Q) (hEL : EW Z a0 EL) (H : CHv Z EL s'.vm h) (hSf : ∀ x ∈ sf, x < h.size ∧ Safe Z EL s'.vm h x) (E : Exa Z h a Cn) (argsL rest : List Value) (has : as = (.ref a :: argsL).toArray) (hlen : ∀ sig, parseMethodDescriptor y.desc = some sig → argsL.length = sig.parameters.length) (hst : st = argsL.reverse ++ .ref a :: rest) (hW : (rest.map fun v => v.category).sum ≤ W)
    (hd : decode cod pc = .ok (.invokevirtual index, 3)) (hsz : Ls.size = ml) (hf : rm.frames + 1 ≤ R.frames) (hl : W + (maxL + 11) + rm.locals ≤ R.locals) {cells' slots' : Nat} (hc : cells + rm.cells = cells') (hs : slots + rm.slots = slots') (hc' : cells' ≤ R.cells) (hs' : slots' ≤ R.slots) (hws : ∀ x ∈ ws', x ∈ ws ∨ h0.size ≤ x) {pc' : Nat} (hp : pc + 3 = pc')
    (k' : ∀ s₂ T' h' v, KPos true s₂ p l e R s m args below meth c Z own n0 h0 ws T' h' cells' slots' → Keep h h' ws' → CHr Z EL s'.vm h s₂.vm h' → Q v h' → KGo p e below K T' m pc' Ls (v.toList ++ rest)) : KGo p e below K T m pc Ls st := by
  subst hp hc hs has
  obtain ⟨L, X, ⟨vm, k0, rfl, hS, hk0⟩, hZ, hown, eT, r1, r2, r3⟩ := P
  obtain ⟨cq, kq, qa, qb, qc⟩ := isOf hZ eT E
  obtain ⟨v, _, ⟨T', L', k1, n1⟩, -, X', hS', hg', ⟨Lc, ⟨q1, q2, q3⟩, l1, y1, z1, hC⟩, stp⟩ := X.virtualBackS C.1 (y := y) (z := z) hown (mvT hZ w1) (mvT hZ wdc) (nf _ hZ) (mvT hZ wsel) (mvT hZ w2) hy (k_backH (W := W) hM hZ w3 w4 hf hl hEL H hSf) qa qc (g := mkF m pc Ls st) rfl (hsz.trans C.mlE.symm) (Steps.refl _) (argsL := argsL) (rest := rest) hlen hst (by show 2 * 0 + _ ≤ _; rw [Nat.mul_zero, Nat.zero_add]; exact hW) (hb C.cdE hd) (fun _ _ => ⟨rfl, eT, hc', hs'⟩)
  dsimp only [Pt.U, Pt.locs, Pt.cells, Pt.slots] at X' l1 y1 z1 stp q2 q3 hS' hg' hC
  subst l1 y1 z1
  have S2 : s.Since T'.vm T'.heap.size := hS.trans hS' (Nat.le_trans hk0 q2.1)
  exact (k' (s.setVm T'.vm) T' T'.heap v ⟨_, X', ⟨T'.vm, T'.heap.size, rfl, S2, Nat.le_refl _⟩, State.Warmed39.trans (t := s.setVm vm) hZ hS'.1, by rw [show (s.setVm T'.vm).vm = T'.vm from rfl, hS'.1.alike.findClass]; exact hown, rfl, Nat.le_trans r1 q2.1, Fr.app r2 q1, r3.trans q2 hws⟩ q2 hC q3).step fun t q => stp.trans q
theorem k_callNH {EL : List (String × Nat)} {y : MethodName} {index W maxL : Nat} {bytes : ByteArray} {rm : Room} {as : Array Value} {sf ws' : List Addr} {Q : Option Value → Heap → Prop} (C : KCx tbl nm cod ml ret p meth c Z a0) (P : KPos true s' p l e R s m args below meth c Z own n0 h0 ws T h cells slots)
    (hy1 : y.name = "<init>") (w1 : (Jvm.Cond.methodLink own index y).before a0 Z = true) (w2 : (Jvm.Cond.instanceMethod y).before a0 Z = true) (w3 : (Jvm.Cond.code y bytes maxL none).before a0 Z = true) (w4 : (Jvm.Cond.initialized y.cls).before a0 Z = true) (hy : y.cls ≠ "java/lang/invoke/MethodHandle" ∧ y.cls ≠ "java/lang/invoke/VarHandle")
    (hM : KCh EL l y bytes maxL none rm Z n0 h as sf ws' Q) (hEL : EW Z a0 EL) (H : CHv Z EL s'.vm h) (hSf : ∀ x ∈ sf, x < h.size ∧ Safe Z EL s'.vm h x) (a : Addr) (argsL rest : List Value) (has : as = (.ref a :: argsL).toArray) (hlen : ∀ sig, parseMethodDescriptor y.desc = some sig → argsL.length = sig.parameters.length) (hst : st = argsL.reverse ++ .ref a :: rest) (hW : (rest.map fun v => v.category).sum ≤ W)
    (hd : decode cod pc = .ok (.invokespecial index, 3)) (hsz : Ls.size = ml) (hf : rm.frames + 1 ≤ R.frames) (hl : W + (maxL + 11) + rm.locals ≤ R.locals) {cells' slots' : Nat} (hc : cells + rm.cells = cells') (hs : slots + rm.slots = slots') (hc' : cells' ≤ R.cells) (hs' : slots' ≤ R.slots) (hws : ∀ x ∈ ws', x ∈ ws ∨ h0.size ≤ x) {pc' : Nat} (hp : pc + 3 = pc')
    (k' : ∀ s₂ T' h' v, KPos true s₂ p l e R s m args below meth c Z own n0 h0 ws T' h' cells' slots' → Keep h h' ws' → CHr Z EL s'.vm h s₂.vm h' → Q v h' → KGo p e below K T' m pc' Ls (v.toList ++ rest)) : KGo p e below K T m pc Ls st := by
  subst hp hc hs has
  obtain ⟨L, X, ⟨vm, k0, rfl, hS, hk0⟩, hZ, hown, eT, r1, r2, r3⟩ := P
  obtain ⟨v, _, ⟨T', L', k1, n1⟩, -, X', hS', hg', ⟨Lc, ⟨q1, q2, q3⟩, l1, y1, z1, hC⟩, stp⟩ := X.specialBackS C.1 (y := y) hy1 hown (mvT hZ w1) (mvT hZ w2) (mvT hZ w3) hy (k_backH (W := W) hM hZ w3 w4 hf hl hEL H hSf) (g := mkF m pc Ls st) rfl (hsz.trans C.mlE.symm) (Steps.refl _) (a := a) (argsL := argsL) (rest := rest) hlen hst (by show 2 * 0 + _ ≤ _; rw [Nat.mul_zero, Nat.zero_add]; exact hW) (hb C.cdE hd) (fun _ _ => ⟨rfl, eT, hc', hs'⟩)
  dsimp only [Pt.U, Pt.locs, Pt.cells, Pt.slots] at X' l1 y1 z1 stp q2 q3 hS' hg' hC
  subst l1 y1 z1
  have S2 : s.Since T'.vm T'.heap.size := hS.trans hS' (Nat.le_trans hk0 q2.1)
  exact (k' (s.setVm T'.vm) T' T'.heap v ⟨_, X', ⟨T'.vm, T'.heap.size, rfl, S2, Nat.le_refl _⟩, State.Warmed39.trans (t := s.setVm vm) hZ hS'.1, by rw [show (s.setVm T'.vm).vm = T'.vm from rfl, hS'.1.alike.findClass]; exact hown, rfl, Nat.le_trans r1 q2.1, Fr.app r2 q1, r3.trans q2 hws⟩ q2 hC q3).step fun t q => stp.trans q
/-- the tables' kinship with the start's, for Safe.exa and Safe.arr -/
theorem KPos.alike (P : KPos wd s' p l e R s m args below meth c Z own n0 h0 ws T h cells slots) : Z.vm.Alike s'.vm := by obtain ⟨_, _, _, hZ, -⟩ := P; exact hZ.alike
theorem KVA.safe {EL : List (String × Nat)} {vm : Vm} {k : ClassId} {ty : FieldType} {N : Nat} {f : Nat → Value} (V : KVA Z h a k ty N f) (hal : Z.vm.Alike vm) (ht : ty ≠ .byte) : Safe Z EL vm h a := by obtain ⟨c, A, -⟩ := V; exact Safe.arr hal A ht
theorem k_instY {Kn : String} {index : Nat} (C : KCx tbl nm cod ml ret p meth c Z a0) (P : KPos wd s' p l e R s m args below meth c Z own n0 h0 ws T h cells slots) (w : (Jvm.Cond.classLink own index Kn).before a0 Z = true) (F : Ins Z h a Kn true) (hd : decode cod pc = .ok (.instanceof index, 3)) {pc' : Nat} (hp : pc + 3 = pc') (k' : ∀ T', KPos wd s' p l e R s m args below meth c Z own n0 h0 ws T' h cells slots → KGo p e below K T' m pc' Ls (.int 1 :: st)) : KGo p e below K T m pc Ls (.ref a :: st) := by
  subst hp
  obtain ⟨L, X, B, hZ, hown, eT, r1⟩ := P
  obtain ⟨T', X', e', stp⟩ := instY X C.1 hZ hown w eT F (g := mkF m pc Ls (.ref a :: st)) rfl rfl (hb C.cdE hd)
  exact (k' T' ⟨L, X', B, hZ, hown, e', r1⟩).step stp
theorem k_instNull {index : Nat} (C : KCx tbl nm cod ml ret p meth c Z a0) (P : KPos wd s' p l e R s m args below meth c Z own n0 h0 ws T h cells slots) (hd : decode cod pc = .ok (.instanceof index, 3)) {pc' : Nat} (hp : pc + 3 = pc') (k' : KGo p e below K T m pc' Ls (.int 0 :: st)) : KGo p e below K T m pc Ls (.null :: st) := by
  subst hp
  obtain ⟨L, X, -⟩ := P
  exact k'.step (X.instanceofNull C.1 (g := mkF m pc Ls (.null :: st)) rfl rfl (hb C.cdE hd))
/-- a plain contract that writes nothing of the start keeps the constants -/
theorem KCt.held {EL : List (String × Nat)} {y : MethodName} {rm : Room} {as : Array Value} {sf : List Addr} {Q : Option Value → Heap → Prop} (k : KCt false l y cod ml ret rm Z n0 h0 as [] Q) (hEL : EW Z a0 EL) : KCh EL l y cod ml ret rm Z n0 h0 as sf [] Q := by
  intro wsc p e h1 h2 h3 s m args below h4 h5 h6 h7
  obtain ⟨n, o, g1, g2, g3, v, L, g4, ⟨g5, g6, g7⟩, g8⟩ := k wsc p e h1 h2 h3 s m args below h4 h5 ⟨h6.1, h6.2.1, h6.2.2.1⟩ h7
  have g8' : FrameEnd s o _ L rm.cells rm.slots := g8
  have E := k_ext_of_keep g6
  have hW : s.WarmedH _ := g8'.2.1
  have q := CHv.later h6.2.1 (h := h0) (hW := hW.wide) hEL E (Or.inl hW.interned_eq) h6.2.2.2.1
  exact ⟨n, o, g1, g2, g3, v, L, g4, ⟨g5, g6, g7⟩, by rw [h6.2.2.1]; exact ⟨q.1, E.1, q.2⟩, ReturnedEndW.of_narrow ⟨v, g4⟩ g8'.2.1 g8'.2.2⟩
theorem KCh.imp {EL : List (String × Nat)} {y : MethodName} {rm : Room} {as : Array Value} {sf : List Addr} {Q Q' : Option Value → Heap → Prop} (k : KCh EL l y cod ml ret rm Z n0 h0 as sf ws Q) (q : ∀ v h, Q v h → Q' v h) : KCh EL l y cod ml ret rm Z n0 h0 as sf ws Q' := by
  intro wsc p e h1 h2 h3 s m args below h4 h5 h6 h7
  obtain ⟨n, o, g1, g2, g3, v, L, g4, ⟨g5, g6, g7⟩, g8⟩ := k wsc p e h1 h2 h3 s m args below h4 h5 h6 h7
  exact ⟨n, o, g1, g2, g3, v, L, g4, ⟨g5, g6, q _ _ g7⟩, g8⟩
theorem k_fldInj {O n d : String} {v v1 : Value} (F : Fld Z h a O n d v) (G : Fld Z h a O n d v1) : v = v1 := by
  obtain ⟨c1, cf1, k1, i1, f1, x1, x2, x3, x4, x5, x6, x7⟩ := F
  obtain ⟨c2, cf2, k2, i2, f2, y1, y2, y3, y4, y5, y6, y7⟩ := G
  cases x1.symm.trans y1
  have e := x2.symm.trans y2
  simp only [Option.some.injEq, Prod.mk.injEq] at e
  obtain ⟨-, -, -, rfl⟩ := e
  exact Option.some.inj (x7.symm.trans y7)
theorem KVA.inj {k k1 : ClassId} {ty ty1 : FieldType} {N N1 : Nat} {f f1 : Nat → Value} (F : KVA Z h a k ty N f) (G : KVA Z h a k1 ty1 N1 f1) : N = N1 ∧ ∀ j, j < N → f j = f1 j := by
  obtain ⟨c, A, -, q2, -, q4⟩ := F; obtain ⟨c1, A1, -, p2, -, p4⟩ := G
  cases A.1.symm.trans A1.1
  exact ⟨q2.symm.trans p2, fun j hj => Option.some.inj ((q4 j hj).symm.trans (p4 j (by omega)))⟩
end Kit
end Jvm.OwnKit
namespace Jvm.OwnNum
theorem toInt {x : Int32} {n : Nat} (h : x.toBitVec.toNat = n) (hn : n < 2147483648) : x.toInt = (n : Int) := by
  show x.toBitVec.toInt = _
  rw [BitVec.toInt_eq_toNat_cond, if_pos (by omega), h]
theorem toNat {x : Int32} {n : Nat} (h : x.toInt = (n : Int)) : x.toBitVec.toNat = n := by
  have := x.toBitVec.isLt
  change x.toBitVec.toInt = _ at h
  rw [BitVec.toInt_eq_toNat_cond] at h
  split at h <;> omega
theorem small {x : Int32} {n : Nat} (h : x.toInt = (n : Int)) : n < 2147483648 := by have := Int32.toInt_lt x; omega
/-- x & m, m not negative -/
theorem mask (x m : Int32) {M : Nat} (hm : m.toInt = (M : Int)) : ∃ N : Nat, (x &&& m).toInt = (N : Int) ∧ N ≤ M := by
  have h1 := toNat hm
  have h2 : (x &&& m).toBitVec.toNat ≤ M := by rw [Int32.toBitVec_and, BitVec.toNat_and, h1]; exact Nat.and_le_right
  have h3 := small hm
  exact ⟨_, toInt rfl (by omega), h2⟩
theorem add {x y : Int32} {X Y : Nat} (hx : x.toInt = (X : Int)) (hy : y.toInt = (Y : Int)) (h : X + Y < 2147483648) : (x + y).toInt = ((X + Y : Nat) : Int) := by
  refine toInt ?_ h
  rw [Int32.toBitVec_add, BitVec.toNat_add, toNat hx, toNat hy]; omega
theorem rem {x y : Int32} {X Y : Nat} (hx : x.toInt = (X : Int)) (hy : y.toInt = (Y : Int)) (h : 0 < Y) : (x % y).toInt = ((X % Y : Nat) : Int) := by
  rw [(Jvm.RoadKit.c_irem x y Y hy).1 (by omega), hx]; rfl
theorem ne0 {y : Int32} {Y : Nat} (hy : y.toInt = (Y : Int)) (h : 0 < Y) : y ≠ 0 := fun e => by subst e; have : (0 : Int32).toInt = 0 := rfl; omega
theorem eq_iff {x y : Int32} {X Y : Nat} (hx : x.toInt = (X : Int)) (hy : y.toInt = (Y : Int)) : x = y ↔ X = Y := by
  rw [← Int32.toInt_inj, hx, hy]; omega
theorem lt_iff {x y : Int32} {X Y : Nat} (hx : x.toInt = (X : Int)) (hy : y.toInt = (Y : Int)) : x < y ↔ X < Y := by
  rw [Int32.lt_iff_toInt_lt, hx, hy]; omega
end Jvm.OwnNum

namespace Jvm.Pilot.@@N@@
open Jvm Jvm.ClassFile Sem Op Lib Jvm.Free Jvm.Stand Jvm.LawKit Jvm.RoadKit Jvm.OwnKit Bundle Jvm.Pilot.@@N@@.Jvm.D
theorem own_EW {Z : State} {a0 : Array Value} (hw : ∀ d ∈ tables_1, d.before a0 Z = true) : EW Z a0 consts_1 := (EW.cons (hw _ (List.mem_of_getElem? (i := 64) rfl)) (by decide) (EW.cons (hw _ (List.mem_of_getElem? (i := 77) rfl)) (by decide) EW.nil))
theorem own_sa {Z : State} {a0 : Array Value} (hw : ∀ d ∈ tables_1, d.before a0 Z = true) : ∀ a ∈ Bundle.stringAtoms, a.before a0 Z = true := (List.forall_mem_cons.mpr ⟨(hw _ (List.mem_of_getElem? (i := 13) rfl)), (List.forall_mem_cons.mpr ⟨(hw _ (List.mem_of_getElem? (i := 12) rfl)), (List.forall_mem_cons.mpr ⟨(hw _ (List.mem_of_getElem? (i := 29) rfl)), (List.forall_mem_cons.mpr ⟨(hw _ (List.mem_of_getElem? (i := 39) rfl)), (List.forall_mem_cons.mpr ⟨(hw _ (List.mem_of_getElem? (i := 37) rfl)), (List.forall_mem_cons.mpr ⟨(hw _ (List.mem_of_getElem? (i := 65) rfl)), (List.forall_mem_cons.mpr ⟨(hw _ (List.mem_of_getElem? (i := 66) rfl)), (by simp)⟩)⟩)⟩)⟩)⟩)⟩)⟩)
theorem d1_0 : decode method_4_code 0 = .ok (.iload_n 0, 1) := by decide +kernel
theorem d1_1 : decode method_4_code 1 = .ok (.iconst 3, 1) := by decide +kernel
theorem d1_2 : decode method_4_code 2 = .ok (.iand, 1) := by decide +kernel
theorem d1_3 : decode method_4_code 3 = .ok (.istore_n 1, 1) := by decide +kernel
theorem d1_4 : decode method_4_code 4 = .ok (.iload_n 1, 1) := by decide +kernel
theorem d1_5 : decode method_4_code 5 = .ok (.ifCond .ne 5, 3) := by decide +kernel
theorem d1_8 : decode method_4_code 8 = .ok (.aconst_null, 1) := by decide +kernel
theorem d1_9 : decode method_4_code 9 = .ok (.areturn, 1) := by decide +kernel
theorem d1_10 : decode method_4_code 10 = .ok (.iload_n 1, 1) := by decide +kernel
theorem d1_11 : decode method_4_code 11 = .ok (.iconst 1, 1) := by decide +kernel
theorem d1_12 : decode method_4_code 12 = .ok (.if_icmp .ne 6, 3) := by decide +kernel
theorem d1_15 : decode method_4_code 15 = .ok (.ldc 7, 2) := by decide +kernel
theorem d1_17 : decode method_4_code 17 = .ok (.areturn, 1) := by decide +kernel
theorem d1_18 : decode method_4_code 18 = .ok (.iload_n 1, 1) := by decide +kernel
theorem d1_19 : decode method_4_code 19 = .ok (.iconst 2, 1) := by decide +kernel
theorem d1_20 : decode method_4_code 20 = .ok (.if_icmp .ne 23, 3) := by decide +kernel
theorem d1_23 : decode method_4_code 23 = .ok (.iconst 1, 1) := by decide +kernel
theorem d1_24 : decode method_4_code 24 = .ok (.newarray .char, 2) := by decide +kernel
theorem d1_26 : decode method_4_code 26 = .ok (.astore_n 2, 1) := by decide +kernel
theorem d1_27 : decode method_4_code 27 = .ok (.aload_n 2, 1) := by decide +kernel
theorem d1_28 : decode method_4_code 28 = .ok (.iconst 0, 1) := by decide +kernel
theorem d1_29 : decode method_4_code 29 = .ok (.iload_n 0, 1) := by decide +kernel
theorem d1_30 : decode method_4_code 30 = .ok (.invokestatic 9, 3) := by decide +kernel
theorem d1_33 : decode method_4_code 33 = .ok (.castore, 1) := by decide +kernel
theorem d1_34 : decode method_4_code 34 = .ok (.new 15, 3) := by decide +kernel
theorem d1_37 : decode method_4_code 37 = .ok (.dup, 1) := by decide +kernel
theorem d1_38 : decode method_4_code 38 = .ok (.aload_n 2, 1) := by decide +kernel
theorem d1_39 : decode method_4_code 39 = .ok (.invokespecial 17, 3) := by decide +kernel
theorem d1_42 : decode method_4_code 42 = .ok (.areturn, 1) := by decide +kernel
theorem d1_43 : decode method_4_code 43 = .ok (.iconst 2, 1) := by decide +kernel
theorem d1_44 : decode method_4_code 44 = .ok (.newarray .char, 2) := by decide +kernel
theorem d1_46 : decode method_4_code 46 = .ok (.astore_n 2, 1) := by decide +kernel
theorem d1_47 : decode method_4_code 47 = .ok (.aload_n 2, 1) := by decide +kernel
theorem d1_48 : decode method_4_code 48 = .ok (.iconst 0, 1) := by decide +kernel
theorem d1_49 : decode method_4_code 49 = .ok (.iload_n 0, 1) := by decide +kernel
theorem d1_50 : decode method_4_code 50 = .ok (.invokestatic 9, 3) := by decide +kernel
theorem d1_53 : decode method_4_code 53 = .ok (.castore, 1) := by decide +kernel
theorem d1_54 : decode method_4_code 54 = .ok (.aload_n 2, 1) := by decide +kernel
theorem d1_55 : decode method_4_code 55 = .ok (.iconst 1, 1) := by decide +kernel
theorem d1_56 : decode method_4_code 56 = .ok (.iload_n 0, 1) := by decide +kernel
theorem d1_57 : decode method_4_code 57 = .ok (.invokestatic 20, 3) := by decide +kernel
theorem d1_60 : decode method_4_code 60 = .ok (.castore, 1) := by decide +kernel
theorem d1_61 : decode method_4_code 61 = .ok (.new 15, 3) := by decide +kernel
theorem d1_64 : decode method_4_code 64 = .ok (.dup, 1) := by decide +kernel
theorem d1_65 : decode method_4_code 65 = .ok (.aload_n 2, 1) := by decide +kernel
theorem d1_66 : decode method_4_code 66 = .ok (.invokespecial 17, 3) := by decide +kernel
theorem d1_69 : decode method_4_code 69 = .ok (.areturn, 1) := by decide +kernel
theorem d2_0 : decode method_2_code 0 = .ok (.iload_n 0, 1) := by decide +kernel
theorem d2_1 : decode method_2_code 1 = .ok (.iconst 2, 1) := by decide +kernel
theorem d2_2 : decode method_2_code 2 = .ok (.iushr, 1) := by decide +kernel
theorem d2_3 : decode method_2_code 3 = .ok (.iconst 1, 1) := by decide +kernel
theorem d2_4 : decode method_2_code 4 = .ok (.iand, 1) := by decide +kernel
theorem d2_5 : decode method_2_code 5 = .ok (.ifCond .eq 6, 3) := by decide +kernel
theorem d2_8 : decode method_2_code 8 = .ok (.bipush 42, 2) := by decide +kernel
theorem d2_10 : decode method_2_code 10 = .ok (.ireturn, 1) := by decide +kernel
theorem d2_11 : decode method_2_code 11 = .ok (.iload_n 0, 1) := by decide +kernel
theorem d2_12 : decode method_2_code 12 = .ok (.iconst 3, 1) := by decide +kernel
theorem d2_13 : decode method_2_code 13 = .ok (.iushr, 1) := by decide +kernel
theorem d2_14 : decode method_2_code 14 = .ok (.sipush 255, 3) := by decide +kernel
theorem d2_17 : decode method_2_code 17 = .ok (.iand, 1) := by decide +kernel
theorem d2_18 : decode method_2_code 18 = .ok (.i2c, 1) := by decide +kernel
theorem d2_19 : decode method_2_code 19 = .ok (.ireturn, 1) := by decide +kernel
theorem d3_0 : decode method_3_code 0 = .ok (.iload_n 0, 1) := by decide +kernel
theorem d3_1 : decode method_3_code 1 = .ok (.bipush 11, 2) := by decide +kernel
theorem d3_3 : decode method_3_code 3 = .ok (.iushr, 1) := by decide +kernel
theorem d3_4 : decode method_3_code 4 = .ok (.iconst 1, 1) := by decide +kernel
theorem d3_5 : decode method_3_code 5 = .ok (.iand, 1) := by decide +kernel
theorem d3_6 : decode method_3_code 6 = .ok (.ifCond .eq 6, 3) := by decide +kernel
theorem d3_9 : decode method_3_code 9 = .ok (.bipush 42, 2) := by decide +kernel
theorem d3_11 : decode method_3_code 11 = .ok (.ireturn, 1) := by decide +kernel
theorem d3_12 : decode method_3_code 12 = .ok (.iload_n 0, 1) := by decide +kernel
theorem d3_13 : decode method_3_code 13 = .ok (.bipush 12, 2) := by decide +kernel
theorem d3_15 : decode method_3_code 15 = .ok (.iushr, 1) := by decide +kernel
theorem d3_16 : decode method_3_code 16 = .ok (.sipush 255, 3) := by decide +kernel
theorem d3_19 : decode method_3_code 19 = .ok (.iand, 1) := by decide +kernel
theorem d3_20 : decode method_3_code 20 = .ok (.i2c, 1) := by decide +kernel
theorem d3_21 : decode method_3_code 21 = .ok (.ireturn, 1) := by decide +kernel
theorem d4_0 : decode jdk_42_method_3_code 0 = .ok (.aload_n 0, 1) := by decide +kernel
theorem d4_1 : decode jdk_42_method_3_code 1 = .ok (.aload_n 1, 1) := by decide +kernel
theorem d4_2 : decode jdk_42_method_3_code 2 = .ok (.iconst 0, 1) := by decide +kernel
theorem d4_3 : decode jdk_42_method_3_code 3 = .ok (.aload_n 1, 1) := by decide +kernel
theorem d4_4 : decode jdk_42_method_3_code 4 = .ok (.arraylength, 1) := by decide +kernel
theorem d4_5 : decode jdk_42_method_3_code 5 = .ok (.aconst_null, 1) := by decide +kernel
theorem d4_6 : decode jdk_42_method_3_code 6 = .ok (.invokespecial 27, 3) := by decide +kernel
theorem d4_9 : decode jdk_42_method_3_code 9 = .ok (.return_, 1) := by decide +kernel
theorem d5_0 : decode jdk_42_method_149_code 0 = .ok (.aload_n 0, 1) := by decide +kernel
theorem d5_1 : decode jdk_42_method_149_code 1 = .ok (.invokespecial 1, 3) := by decide +kernel
theorem d5_4 : decode jdk_42_method_149_code 4 = .ok (.iload_n 3, 1) := by decide +kernel
theorem d5_5 : decode jdk_42_method_149_code 5 = .ok (.ifCond .ne 22, 3) := by decide +kernel
theorem d5_27 : decode jdk_42_method_149_code 27 = .ok (.getstatic 38, 3) := by decide +kernel
theorem d5_30 : decode jdk_42_method_149_code 30 = .ok (.ifCond .eq 28, 3) := by decide +kernel
theorem d5_33 : decode jdk_42_method_149_code 33 = .ok (.aload_n 1, 1) := by decide +kernel
theorem d5_34 : decode jdk_42_method_149_code 34 = .ok (.iload_n 2, 1) := by decide +kernel
theorem d5_35 : decode jdk_42_method_149_code 35 = .ok (.iload_n 3, 1) := by decide +kernel
theorem d5_36 : decode jdk_42_method_149_code 36 = .ok (.invokestatic 177, 3) := by decide +kernel
theorem d5_39 : decode jdk_42_method_149_code 39 = .ok (.astore 5, 2) := by decide +kernel
theorem d5_41 : decode jdk_42_method_149_code 41 = .ok (.aload_n 0, 1) := by decide +kernel
theorem d5_42 : decode jdk_42_method_149_code 42 = .ok (.aload 5, 2) := by decide +kernel
theorem d5_44 : decode jdk_42_method_149_code 44 = .ok (.iload_n 3, 1) := by decide +kernel
theorem d5_45 : decode jdk_42_method_149_code 45 = .ok (.invokestatic 47, 3) := by decide +kernel
theorem d5_48 : decode jdk_42_method_149_code 48 = .ok (.putfield 15, 3) := by decide +kernel
theorem d5_51 : decode jdk_42_method_149_code 51 = .ok (.aload_n 0, 1) := by decide +kernel
theorem d5_52 : decode jdk_42_method_149_code 52 = .ok (.aload 5, 2) := by decide +kernel
theorem d5_54 : decode jdk_42_method_149_code 54 = .ok (.putfield 9, 3) := by decide +kernel
theorem d5_57 : decode jdk_42_method_149_code 57 = .ok (.return_, 1) := by decide +kernel
theorem d7_0 : decode jdk_52_method_16_code 0 = .ok (.iload_n 2, 1) := by decide +kernel
theorem d7_1 : decode jdk_52_method_16_code 1 = .ok (.newarray .byte, 2) := by decide +kernel
theorem d7_3 : decode jdk_52_method_16_code 3 = .ok (.astore_n 3, 1) := by decide +kernel
theorem d7_4 : decode jdk_52_method_16_code 4 = .ok (.aload_n 0, 1) := by decide +kernel
theorem d7_5 : decode jdk_52_method_16_code 5 = .ok (.iload_n 1, 1) := by decide +kernel
theorem d7_6 : decode jdk_52_method_16_code 6 = .ok (.aload_n 3, 1) := by decide +kernel
theorem d7_7 : decode jdk_52_method_16_code 7 = .ok (.iconst 0, 1) := by decide +kernel
theorem d7_8 : decode jdk_52_method_16_code 8 = .ok (.iload_n 2, 1) := by decide +kernel
theorem d7_9 : decode jdk_52_method_16_code 9 = .ok (.invokestatic 115, 3) := by decide +kernel
theorem d7_12 : decode jdk_52_method_16_code 12 = .ok (.istore 4, 2) := by decide +kernel
theorem d7_14 : decode jdk_52_method_16_code 14 = .ok (.iload 4, 2) := by decide +kernel
theorem d7_16 : decode jdk_52_method_16_code 16 = .ok (.iload_n 2, 1) := by decide +kernel
theorem d7_17 : decode jdk_52_method_16_code 17 = .ok (.if_icmp .eq 40, 3) := by decide +kernel
theorem d7_57 : decode jdk_52_method_16_code 57 = .ok (.aload_n 3, 1) := by decide +kernel
theorem d7_58 : decode jdk_52_method_16_code 58 = .ok (.areturn, 1) := by decide +kernel
theorem d8_0 : decode jdk_52_method_21_code 0 = .ok (.iconst 0, 1) := by decide +kernel
theorem d8_1 : decode jdk_52_method_21_code 1 = .ok (.istore 5, 2) := by decide +kernel
theorem d8_3 : decode jdk_52_method_21_code 3 = .ok (.iload 5, 2) := by decide +kernel
theorem d8_5 : decode jdk_52_method_21_code 5 = .ok (.iload 4, 2) := by decide +kernel
theorem d8_7 : decode jdk_52_method_21_code 7 = .ok (.if_icmp .ge 37, 3) := by decide +kernel
theorem d8_10 : decode jdk_52_method_21_code 10 = .ok (.aload_n 0, 1) := by decide +kernel
theorem d8_11 : decode jdk_52_method_21_code 11 = .ok (.iload_n 1, 1) := by decide +kernel
theorem d8_12 : decode jdk_52_method_21_code 12 = .ok (.caload, 1) := by decide +kernel
theorem d8_13 : decode jdk_52_method_21_code 13 = .ok (.istore 6, 2) := by decide +kernel
theorem d8_15 : decode jdk_52_method_21_code 15 = .ok (.iload 6, 2) := by decide +kernel
theorem d8_17 : decode jdk_52_method_21_code 17 = .ok (.sipush 255, 3) := by decide +kernel
theorem d8_20 : decode jdk_52_method_21_code 20 = .ok (.if_icmp .le 6, 3) := by decide +kernel
theorem d8_26 : decode jdk_52_method_21_code 26 = .ok (.aload_n 2, 1) := by decide +kernel
theorem d8_27 : decode jdk_52_method_21_code 27 = .ok (.iload_n 3, 1) := by decide +kernel
theorem d8_28 : decode jdk_52_method_21_code 28 = .ok (.iload 6, 2) := by decide +kernel
theorem d8_30 : decode jdk_52_method_21_code 30 = .ok (.i2b, 1) := by decide +kernel
theorem d8_31 : decode jdk_52_method_21_code 31 = .ok (.bastore, 1) := by decide +kernel
theorem d8_32 : decode jdk_52_method_21_code 32 = .ok (.iinc 1 1, 3) := by decide +kernel
theorem d8_35 : decode jdk_52_method_21_code 35 = .ok (.iinc 3 1, 3) := by decide +kernel
theorem d8_38 : decode jdk_52_method_21_code 38 = .ok (.iinc 5 1, 3) := by decide +kernel
theorem d8_41 : decode jdk_52_method_21_code 41 = .ok (.goto (-38), 3) := by decide +kernel
theorem d8_44 : decode jdk_52_method_21_code 44 = .ok (.iload 4, 2) := by decide +kernel
theorem d8_46 : decode jdk_52_method_21_code 46 = .ok (.ireturn, 1) := by decide +kernel
theorem d9_0 : decode jdk_52_method_15_code 0 = .ok (.iload_n 1, 1) := by decide +kernel
theorem d9_1 : decode jdk_52_method_15_code 1 = .ok (.aload_n 0, 1) := by decide +kernel
theorem d9_2 : decode jdk_52_method_15_code 2 = .ok (.arraylength, 1) := by decide +kernel
theorem d9_3 : decode jdk_52_method_15_code 3 = .ok (.isub, 1) := by decide +kernel
theorem d9_4 : decode jdk_52_method_15_code 4 = .ok (.bipush 31, 2) := by decide +kernel
theorem d9_6 : decode jdk_52_method_15_code 6 = .ok (.iushr, 1) := by decide +kernel
theorem d9_7 : decode jdk_52_method_15_code 7 = .ok (.i2b, 1) := by decide +kernel
theorem d9_8 : decode jdk_52_method_15_code 8 = .ok (.ireturn, 1) := by decide +kernel
theorem d10_0 : decode method_5_code 0 = .ok (.iload_n 0, 1) := by decide +kernel
theorem d10_1 : decode method_5_code 1 = .ok (.iconst 3, 1) := by decide +kernel
theorem d10_2 : decode method_5_code 2 = .ok (.iand, 1) := by decide +kernel
theorem d10_3 : decode method_5_code 3 = .ok (.iconst 2, 1) := by decide +kernel
theorem d10_4 : decode method_5_code 4 = .ok (.if_icmp .ne 16, 3) := by decide +kernel
theorem d10_7 : decode method_5_code 7 = .ok (.iload_n 0, 1) := by decide +kernel
theorem d10_8 : decode method_5_code 8 = .ok (.invokestatic 9, 3) := by decide +kernel
theorem d10_11 : decode method_5_code 11 = .ok (.bipush 42, 2) := by decide +kernel
theorem d10_13 : decode method_5_code 13 = .ok (.if_icmp .ne 7, 3) := by decide +kernel
theorem d10_16 : decode method_5_code 16 = .ok (.iconst 1, 1) := by decide +kernel
theorem d10_17 : decode method_5_code 17 = .ok (.goto 4, 3) := by decide +kernel
theorem d10_20 : decode method_5_code 20 = .ok (.iconst 0, 1) := by decide +kernel
theorem d10_21 : decode method_5_code 21 = .ok (.ireturn, 1) := by decide +kernel
theorem d11_0 : decode prog_48_method_1_code 0 = .ok (.aload_n 0, 1) := by decide +kernel
theorem d11_1 : decode prog_48_method_1_code 1 = .ok (.invokespecial 1, 3) := by decide +kernel
theorem d11_4 : decode prog_48_method_1_code 4 = .ok (.aload_n 0, 1) := by decide +kernel
theorem d11_5 : decode prog_48_method_1_code 5 = .ok (.aload_n 1, 1) := by decide +kernel
theorem d11_6 : decode prog_48_method_1_code 6 = .ok (.putfield 7, 3) := by decide +kernel
theorem d11_9 : decode prog_48_method_1_code 9 = .ok (.aload_n 0, 1) := by decide +kernel
theorem d11_10 : decode prog_48_method_1_code 10 = .ok (.aload_n 2, 1) := by decide +kernel
theorem d11_11 : decode prog_48_method_1_code 11 = .ok (.putfield 13, 3) := by decide +kernel
theorem d11_14 : decode prog_48_method_1_code 14 = .ok (.return_, 1) := by decide +kernel
theorem d12_0 : decode jdk_30_method_1_code 0 = .ok (.aload_n 0, 1) := by decide +kernel
theorem d12_1 : decode jdk_30_method_1_code 1 = .ok (.invokespecial 1, 3) := by decide +kernel
theorem d12_4 : decode jdk_30_method_1_code 4 = .ok (.return_, 1) := by decide +kernel
theorem d13_0 : decode prog_48_method_2_code 0 = .ok (.ldc 16, 2) := by decide +kernel
theorem d13_2 : decode prog_48_method_2_code 2 = .ok (.aload_n 0, 1) := by decide +kernel
theorem d13_3 : decode prog_48_method_2_code 3 = .ok (.getfield 7, 3) := by decide +kernel
theorem d13_6 : decode prog_48_method_2_code 6 = .ok (.invokevirtual 18, 3) := by decide +kernel
theorem d13_9 : decode prog_48_method_2_code 9 = .ok (.ifCond .ne 15, 3) := by decide +kernel
theorem d13_12 : decode prog_48_method_2_code 12 = .ok (.ldc 16, 2) := by decide +kernel
theorem d13_14 : decode prog_48_method_2_code 14 = .ok (.aload_n 0, 1) := by decide +kernel
theorem d13_15 : decode prog_48_method_2_code 15 = .ok (.getfield 13, 3) := by decide +kernel
theorem d13_18 : decode prog_48_method_2_code 18 = .ok (.invokevirtual 18, 3) := by decide +kernel
theorem d13_21 : decode prog_48_method_2_code 21 = .ok (.ifCond .eq 7, 3) := by decide +kernel
theorem d13_24 : decode prog_48_method_2_code 24 = .ok (.iconst 1, 1) := by decide +kernel
theorem d13_25 : decode prog_48_method_2_code 25 = .ok (.goto 4, 3) := by decide +kernel
theorem d13_28 : decode prog_48_method_2_code 28 = .ok (.iconst 0, 1) := by decide +kernel
theorem d13_29 : decode prog_48_method_2_code 29 = .ok (.ireturn, 1) := by decide +kernel
theorem d14_0 : decode jdk_42_method_66_code 0 = .ok (.aload_n 0, 1) := by decide +kernel
theorem d14_1 : decode jdk_42_method_66_code 1 = .ok (.aload_n 1, 1) := by decide +kernel
theorem d14_2 : decode jdk_42_method_66_code 2 = .ok (.if_acmp .ne 5, 3) := by decide +kernel
theorem d14_5 : decode jdk_42_method_66_code 5 = .ok (.iconst 1, 1) := by decide +kernel
theorem d14_6 : decode jdk_42_method_66_code 6 = .ok (.ireturn, 1) := by decide +kernel
theorem d14_7 : decode jdk_42_method_66_code 7 = .ok (.aload_n 1, 1) := by decide +kernel
theorem d14_8 : decode jdk_42_method_66_code 8 = .ok (.instanceof 10, 3) := by decide +kernel
theorem d14_11 : decode jdk_42_method_66_code 11 = .ok (.ifCond .eq 43, 3) := by decide +kernel
theorem d14_14 : decode jdk_42_method_66_code 14 = .ok (.aload_n 1, 1) := by decide +kernel
theorem d14_15 : decode jdk_42_method_66_code 15 = .ok (.checkcast 10, 3) := by decide +kernel
theorem d14_18 : decode jdk_42_method_66_code 18 = .ok (.astore_n 2, 1) := by decide +kernel
theorem d14_19 : decode jdk_42_method_66_code 19 = .ok (.getstatic 38, 3) := by decide +kernel
theorem d14_22 : decode jdk_42_method_66_code 22 = .ok (.ifCond .eq 14, 3) := by decide +kernel
theorem d14_25 : decode jdk_42_method_66_code 25 = .ok (.aload_n 0, 1) := by decide +kernel
theorem d14_26 : decode jdk_42_method_66_code 26 = .ok (.getfield 15, 3) := by decide +kernel
theorem d14_29 : decode jdk_42_method_66_code 29 = .ok (.aload_n 2, 1) := by decide +kernel
theorem d14_30 : decode jdk_42_method_66_code 30 = .ok (.getfield 15, 3) := by decide +kernel
theorem d14_33 : decode jdk_42_method_66_code 33 = .ok (.if_icmp .ne 21, 3) := by decide +kernel
theorem d14_36 : decode jdk_42_method_66_code 36 = .ok (.aload_n 0, 1) := by decide +kernel
theorem d14_37 : decode jdk_42_method_66_code 37 = .ok (.getfield 9, 3) := by decide +kernel
theorem d14_40 : decode jdk_42_method_66_code 40 = .ok (.aload_n 2, 1) := by decide +kernel
theorem d14_41 : decode jdk_42_method_66_code 41 = .ok (.getfield 9, 3) := by decide +kernel
theorem d14_44 : decode jdk_42_method_66_code 44 = .ok (.invokestatic 541, 3) := by decide +kernel
theorem d14_47 : decode jdk_42_method_66_code 47 = .ok (.ifCond .eq 7, 3) := by decide +kernel
theorem d14_50 : decode jdk_42_method_66_code 50 = .ok (.iconst 1, 1) := by decide +kernel
theorem d14_51 : decode jdk_42_method_66_code 51 = .ok (.goto 4, 3) := by decide +kernel
theorem d14_54 : decode jdk_42_method_66_code 54 = .ok (.iconst 0, 1) := by decide +kernel
theorem d14_55 : decode jdk_42_method_66_code 55 = .ok (.ireturn, 1) := by decide +kernel
theorem d15_0 : decode jdk_43_method_13_code 0 = .ok (.aload_n 0, 1) := by decide +kernel
theorem d15_1 : decode jdk_43_method_13_code 1 = .ok (.arraylength, 1) := by decide +kernel
theorem d15_2 : decode jdk_43_method_13_code 2 = .ok (.aload_n 1, 1) := by decide +kernel
theorem d15_3 : decode jdk_43_method_13_code 3 = .ok (.arraylength, 1) := by decide +kernel
theorem d15_4 : decode jdk_43_method_13_code 4 = .ok (.if_icmp .ne 30, 3) := by decide +kernel
theorem d15_7 : decode jdk_43_method_13_code 7 = .ok (.iconst 0, 1) := by decide +kernel
theorem d15_8 : decode jdk_43_method_13_code 8 = .ok (.istore_n 2, 1) := by decide +kernel
theorem d15_9 : decode jdk_43_method_13_code 9 = .ok (.iload_n 2, 1) := by decide +kernel
theorem d15_10 : decode jdk_43_method_13_code 10 = .ok (.aload_n 0, 1) := by decide +kernel
theorem d15_11 : decode jdk_43_method_13_code 11 = .ok (.arraylength, 1) := by decide +kernel
theorem d15_12 : decode jdk_43_method_13_code 12 = .ok (.if_icmp .ge 20, 3) := by decide +kernel
theorem d15_15 : decode jdk_43_method_13_code 15 = .ok (.aload_n 0, 1) := by decide +kernel
theorem d15_16 : decode jdk_43_method_13_code 16 = .ok (.iload_n 2, 1) := by decide +kernel
theorem d15_17 : decode jdk_43_method_13_code 17 = .ok (.baload, 1) := by decide +kernel
theorem d15_18 : decode jdk_43_method_13_code 18 = .ok (.aload_n 1, 1) := by decide +kernel
theorem d15_19 : decode jdk_43_method_13_code 19 = .ok (.iload_n 2, 1) := by decide +kernel
theorem d15_20 : decode jdk_43_method_13_code 20 = .ok (.baload, 1) := by decide +kernel
theorem d15_21 : decode jdk_43_method_13_code 21 = .ok (.if_icmp .eq 5, 3) := by decide +kernel
theorem d15_24 : decode jdk_43_method_13_code 24 = .ok (.iconst 0, 1) := by decide +kernel
theorem d15_25 : decode jdk_43_method_13_code 25 = .ok (.ireturn, 1) := by decide +kernel
theorem d15_26 : decode jdk_43_method_13_code 26 = .ok (.iinc 2 1, 3) := by decide +kernel
theorem d15_29 : decode jdk_43_method_13_code 29 = .ok (.goto (-20), 3) := by decide +kernel
theorem d15_32 : decode jdk_43_method_13_code 32 = .ok (.iconst 1, 1) := by decide +kernel
theorem d15_33 : decode jdk_43_method_13_code 33 = .ok (.ireturn, 1) := by decide +kernel
theorem d15_34 : decode jdk_43_method_13_code 34 = .ok (.iconst 0, 1) := by decide +kernel
theorem d15_35 : decode jdk_43_method_13_code 35 = .ok (.ireturn, 1) := by decide +kernel
theorem pd_0 : parseMethodDescriptor "([CI[BII)I" = some ⟨[(.array .char), .int, (.array .byte), .int, .int], some .int⟩ := by decide +kernel
theorem pd_1 : parseMethodDescriptor "([CII)[B" = some ⟨[(.array .char), .int, .int], some (.array .byte)⟩ := by decide +kernel
theorem pd_2 : parseMethodDescriptor "([BI)B" = some ⟨[(.array .byte), .int], some .byte⟩ := by decide +kernel
theorem pd_3 : parseMethodDescriptor "([CIILjava/lang/Void;)V" = some ⟨[(.array .char), .int, .int, (.object "java/lang/Void")], none⟩ := by decide +kernel
theorem pd_4 : parseMethodDescriptor "(I)C" = some ⟨[.int], some .char⟩ := by decide +kernel
theorem pd_5 : parseMethodDescriptor "([C)V" = some ⟨[(.array .char)], none⟩ := by decide +kernel
theorem pd_6 : parseMethodDescriptor "([B[B)Z" = some ⟨[(.array .byte), (.array .byte)], some .boolean⟩ := by decide +kernel
theorem pd_7 : parseMethodDescriptor "()V" = some ⟨[], none⟩ := by decide +kernel
theorem pd_8 : parseMethodDescriptor "(Ljava/lang/Object;)Z" = some ⟨[(.object "java/lang/Object")], some .boolean⟩ := by decide +kernel
theorem pd_9 : parseMethodDescriptor "(I)Ljava/lang/String;" = some ⟨[.int], some (.object "java/lang/String")⟩ := by decide +kernel
theorem pd_10 : parseMethodDescriptor "(I)Z" = some ⟨[.int], some .boolean⟩ := by decide +kernel
theorem pd_11 : parseMethodDescriptor "(Ljava/lang/String;Ljava/lang/String;)V" = some ⟨[(.object "java/lang/String"), (.object "java/lang/String")], none⟩ := by decide +kernel
theorem pd_12 : parseMethodDescriptor "()Z" = some ⟨[], some .boolean⟩ := by decide +kernel
abbrev layS : List (String × String × String) := [("java/lang/String", "coder", "B"), ("java/lang/String", "value", "[B")]
theorem lokS {Z : State} {a0 : Array Value} (hw : ∀ d ∈ tables_1, d.before a0 Z = true) : KLay Z a0 "java/lang/String" layS := ⟨(List.forall_mem_cons.mpr ⟨⟨Or.inr (hw _ (List.mem_of_getElem? (i := 37) rfl)), by decide⟩, (List.forall_mem_cons.mpr ⟨⟨Or.inr (hw _ (List.mem_of_getElem? (i := 39) rfl)), by decide⟩, (by simp)⟩)⟩), by decide⟩
abbrev layP : List (String × String × String) := [("com/example/grantline/grantline/policy/PrincipalEntry", "className", "Ljava/lang/String;"), ("com/example/grantline/grantline/policy/PrincipalEntry", "name", "Ljava/lang/String;")]
theorem lokP {Z : State} {a0 : Array Value} (hw : ∀ d ∈ tables_1, d.before a0 Z = true) : KLay Z a0 "com/example/grantline/grantline/policy/PrincipalEntry" layP := ⟨(List.forall_mem_cons.mpr ⟨⟨Or.inr (hw _ (List.mem_of_getElem? (i := 56) rfl)), by decide⟩, (List.forall_mem_cons.mpr ⟨⟨Or.inr (hw _ (List.mem_of_getElem? (i := 58) rfl)), by decide⟩, (by simp)⟩)⟩), by decide⟩

theorem own_nb (x : Int32) : nar .byte x.toInt8.toInt32 = x.toInt8.toInt32 := by
  show x.toInt8.toInt32.toInt8.toInt32 = _
  rw [Int8.toInt8_toInt32]

def own_c1 (x : Int32) : Int32 := if (k_ushr x (2 : Int32)) &&& (1 : Int32) = 0 then ((k_ushr x (3 : Int32)) &&& (255 : Int32)).toUInt32.toUInt16.toUInt32.toInt32 else 42
def own_c2 (x : Int32) : Int32 := if (k_ushr x (11 : Int32)) &&& (1 : Int32) = 0 then ((k_ushr x (12 : Int32)) &&& (255 : Int32)).toUInt32.toUInt16.toUInt32.toInt32 else 42
theorem own_i2c {x : Int32} {M : Nat} (h : x.toInt = (M : Int)) (hM : M ≤ 65535) : x.toUInt32.toUInt16.toUInt32.toInt32 = x := by
  have e := OwnNum.toNat h
  refine Int32.toBitVec_inj.mp (BitVec.eq_of_toNat_eq ?_)
  show ((x.toBitVec.setWidth 16).setWidth 32).toNat = x.toBitVec.toNat
  rw [BitVec.toNat_setWidth, BitVec.toNat_setWidth]; omega
theorem own_ncc (x : Int32) : nar .char x.toUInt32.toUInt16.toUInt32.toInt32 = x.toUInt32.toUInt16.toUInt32.toInt32 := by
  refine Int32.toBitVec_inj.mp (BitVec.eq_of_toNat_eq ?_)
  show ((((x.toBitVec.setWidth 16).setWidth 32).setWidth 16).setWidth 32).toNat = ((x.toBitVec.setWidth 16).setWidth 32).toNat
  simp only [BitVec.toNat_setWidth]; omega
theorem own_cN (y : Int32) (P : Prop) [Decidable P] : ∃ M : Nat, (if P then (y &&& (255 : Int32)).toUInt32.toUInt16.toUInt32.toInt32 else 42).toInt = (M : Int) ∧ M ≤ 255 := by
  by_cases p : P
  · rw [if_pos p]
    obtain ⟨M, h1, h2⟩ := OwnNum.mask y 255 (M := 255) rfl
    rw [own_i2c h1 (by omega)]; exact ⟨M, h1, h2⟩
  · rw [if_neg p]; exact ⟨42, rfl, by decide⟩
theorem own_c1N (x : Int32) : ∃ M : Nat, (own_c1 x).toInt = (M : Int) ∧ M ≤ 255 := own_cN _ _
theorem own_c2N (x : Int32) : ∃ M : Nat, (own_c2 x).toInt = (M : Int) ∧ M ≤ 255 := own_cN _ _
theorem own_le {y : Int32} (h : ∃ M : Nat, y.toInt = (M : Int) ∧ M ≤ 255) : ¬ 255 < y := by
  obtain ⟨M, h1, h2⟩ := h
  rw [OwnNum.lt_iff (show (255 : Int32).toInt = ((255 : Nat) : Int) from rfl) h1]; omega
theorem own_c1le (x : Int32) : ¬ 255 < own_c1 x := own_le (own_c1N x)
theorem own_c2le (x : Int32) : ¬ 255 < own_c2 x := own_le (own_c2N x)
theorem own_c1nn (x : Int32) : ∃ M : Nat, (own_c1 x).toInt = (M : Int) ∧ M ≤ 255 := own_c1N x
theorem own_narS {y : Int32} (h : ∃ M : Nat, y.toInt = (M : Int) ∧ M ≤ 255) : nar .char y = y := by obtain ⟨M, h1, h2⟩ := h; exact own_i2c h1 (by omega)
theorem own_c1nar (x : Int32) : nar .char (own_c1 x) = own_c1 x := own_narS (own_c1N x)
theorem own_c2nar (x : Int32) : nar .char (own_c2 x) = own_c2 x := own_narS (own_c2N x)
theorem own_b42 {y : Int32} (_ : ¬ 255 < y) (h : ∃ M : Nat, y.toInt = (M : Int) ∧ M ≤ 255) (q : y.toInt8.toInt32 = 42) : y = 42 := by
  obtain ⟨M, h1, h2⟩ := h
  have e := OwnNum.toNat h1
  have q2 : y.toInt8 = 42 := by have := congrArg Int32.toInt8 q; rw [Int8.toInt8_toInt32] at this; exact this
  have q3 : (y.toBitVec.setWidth 8).toNat = 42 := by
    rw [← BitVec.signExtend_eq_setWidth_of_le _ (by decide)]; exact congrArg (fun z : Int8 => z.toBitVec.toNat) q2
  rw [BitVec.toNat_setWidth, e] at q3
  refine Int32.toInt_inj.mp ?_
  rw [h1]; show (M : Int) = 42; omega
def own_Str (Z : State) (h : Heap) (u : Value) (B : Prop) : Prop :=
  (u = .null ∧ ¬ B) ∨ ∃ (a b : Addr) (k : ClassId) (N : Nat) (f : Nat → Int32), u = .ref a ∧ KOb Z h a "java/lang/String" layS [.int 0, .ref b] ∧ KVA Z h b k .byte N (fun j => .int (f j)) ∧ ((N = 1 ∧ f 0 = 42) ↔ B)
theorem own_Str.ext {Z : State} {h h' : Heap} {u : Value} {B : Prop} (S : own_Str Z h u B) (E : Ext h h') : own_Str Z h' u B :=
  S.imp id fun ⟨a, b, k, N, f, e, F, V, q⟩ => ⟨a, b, k, N, f, e, F.ext E, V.ext E, q⟩
theorem own_strK {Z : State} {a0 : Array Value} {h h' : Heap} {u : Value} {B : Prop} {x : Addr} {kk : Nat} (S : own_Str Z h u B) (K : Keep h h' [x]) (E : Exa Z h x "com/example/grantline/grantline/policy/PrincipalEntry") (wi : (Jvm.Cond.instantiable "com/example/grantline/grantline/policy/PrincipalEntry" kk).before a0 Z = true) : own_Str Z h' u B :=
  S.imp id fun ⟨a, b, k, N, f, e, F, V, q⟩ => ⟨a, b, k, N, f, e, F.keep K (ninS (Exa.ne F.exa E (by decide)) nin0), V.keep K (ninS (V.ne_ob E wi) nin0), q⟩
theorem own_i0 {P : Prop} [Decidable P] (h : (if P then (1 : Int32) else 0) = 0) : ¬ P := fun p => by rw [if_pos p] at h; exact absurd h (by decide)
theorem own_i1 {P : Prop} [Decidable P] (h : ¬ (if P then (1 : Int32) else 0) = 0) : P := by
  by_cases p : P
  · exact p
  · rw [if_neg p] at h; exact absurd rfl h
theorem own_nacne {x y : Value} (h : XT.acmp .ne x y = false) : x = y := Classical.byContradiction (of_decide_eq_false (p := x ≠ y) h)
theorem own_len {Z : State} {h : Heap} {a : Addr} {k : ClassId} {ty : FieldType} {N : Nat} {f : Nat → Value} (V : KVA Z h a k ty N f) : ∃ z : Int32, z.toInt = (N : Int) := by
  obtain ⟨_, _, _, _, q, _⟩ := V
  exact ⟨Int32.ofNat N, by rw [Int32.toInt_ofNat_of_lt q]⟩
theorem own_same {Z : State} {h : Heap} {a b a1 b1 : Addr} {kb k1 : ClassId} {N : Nat} {f : Nat → Int32} (FA : KOb Z h a "java/lang/String" layS [.int 0, .ref b]) (VB : KVA Z h b kb .byte 1 (fun _ => .int 42)) (F1 : KOb Z h a1 "java/lang/String" layS [.int 0, .ref b1]) (V1 : KVA Z h b1 k1 .byte N (fun j => .int (f j))) (e : Value.ref a = Value.ref a1) : N = 1 ∧ f 0 = 42 := by
  cases e
  have q := k_fldInj (FA.fld 1 rfl rfl) (F1.fld 1 rfl rfl)
  cases q
  obtain ⟨e1, e2⟩ := VB.inj V1
  exact ⟨e1.symm, (Value.int.inj (e2 0 (by decide))).symm⟩
theorem own_cs {s : State} {args : Array Value} (h : ∀ d ∈ jdkStatics_1, d.before args s = true) : ∃ cs : Int32, ¬ cs = 0 ∧ Sta s s.heap "java/lang/String" "COMPACT_STRINGS" "Z" (.int cs) := by
  have c0 := h _ (List.mem_of_getElem? (i := 0) rfl)
  have c1 := Cond.before_iff.mp (h _ (List.mem_of_getElem? (i := 1) rfl))
  have c2 := Cond.before_iff.mp (h _ (List.mem_of_getElem? (i := 2) rfl))
  obtain ⟨cs, ecs⟩ := is_v c1
  exact ⟨cs, gotF (Cond.eq_ints ecs (Term.int_eval 0)) (not_v c2), Sta.start ecs (Or.inl c0)⟩
theorem pn_8 : plainName "java/lang/StringUTF16" = true := by first | (simp [plainName, overriddenIn]; done) | decide +kernel
theorem ef_rmK5_1 (m : MethodId) (x0 : Addr) (x1 : Int32) (x2 : Addr) (x3 : Int32) (x4 : Int32) : entryFrame m #[(.ref x0), (.int x1), (.ref x2), (.int x3), (.int x4)] 7 = mkF m 0 #[.val (.ref x0), .val (.int x1), .val (.ref x2), .val (.int x3), .val (.int x4), .unset, .unset] [] := by first | (simp [entryFrame, mkF, argsToLocals, Value.category]; done) | rfl
set_option maxRecDepth 65536 in
set_option maxHeartbeats 40000000 in
theorem rmK5_1 (l : Launch) (Z : State) (a0 : Array Value) (hw : ∀ d ∈ tables_1, d.before a0 Z = true) (h0 : Heap) (n0 : Nat) (Z0 : n0 ≤ h0.size) (c0 : Int32) (hc0_ : ¬ 255 < c0) (ca : Addr) (kc : ClassId) (VC : KVA Z h0 ca kc .char 1 (fun j => Value.int (c0))) (b : Addr) (kb : ClassId) (VB : KVA Z h0 b kb .byte 1 (fun _ => .int 0)) (ge_b : n0 ≤ b) :
    KCt false l (⟨"java/lang/StringUTF16", "compress", "([CI[BII)I"⟩ : MethodName) jdk_52_method_21_code 7 (some .int) ({ frames := 0, cells := 0, slots := 0, locals := 0 } : Room) Z n0 h0 #[(.ref ca), (.int (0 : Int32)), (.ref b), (.int (0 : Int32)), (.int (1 : Int32))] [b] (fun v h => v = some (.int 1) ∧ KVA Z h b kb .byte 1 (fun j => Value.int (c0.toInt8.toInt32))) := by
  refine k_enter (tbl := tables_1) (a0 := a0) (Ls := #[.val (.ref ca), .val (.int (0 : Int32)), .val (.ref b), .val (.int (0 : Int32)), .val (.int (1 : Int32)), .unset, .unset]) (plainFor_of_name pn_8) hw Z0 (fun m => ef_rmK5_1 m ca (0 : Int32) b (0 : Int32) (1 : Int32)) ?_
  intro p e s m below meth c T C P
  have sz_b : b ∈ [b] ∨ h0.size ≤ b := Or.inl (by simp)
  refine k_iconst (z := (0 : Int32)) (pc' := 1) C P d8_0 rfl rfl ?_
  refine k_istore (l' := #[.val (.ref ca), .val (.int (0 : Int32)), .val (.ref b), .val (.int (0 : Int32)), .val (.int (1 : Int32)), .val (.int (0 : Int32)), .unset]) (pc' := 3) C P d8_1 rfl rfl ?_
  refine k_iload (pc' := 5) C P d8_3 rfl rfl ?_
  refine k_iload (pc' := 7) C P d8_5 rfl rfl ?_
  refine k_icN (pc' := 10) C P d8_7 (show (0 : Int32) < (1 : Int32) by decide) rfl ?_
  refine k_aloadN (pc' := 11) C P d8_10 rfl rfl rfl ?_
  refine k_iloadN (pc' := 12) C P d8_11 rfl rfl ?_
  refine k_caload (J := 0) (v := (.int c0)) (pc' := 13) C P VC d8_12 rfl (by decide) rfl rfl ?_
  refine k_istore (l' := #[.val (.ref ca), .val (.int (0 : Int32)), .val (.ref b), .val (.int (0 : Int32)), .val (.int (1 : Int32)), .val (.int (0 : Int32)), .val (.int c0)]) (pc' := 15) C P d8_13 rfl rfl ?_
  refine k_iload (pc' := 17) C P d8_15 rfl rfl ?_
  refine k_sipush (z := (255 : Int32)) (pc' := 20) C P d8_17 rfl rfl ?_
  refine k_icY (pc' := 26) C P d8_20 hc0_ (by decide) (by decide) ?_
  refine k_aloadN (pc' := 27) C P d8_26 rfl rfl rfl ?_
  refine k_iloadN (pc' := 28) C P d8_27 rfl rfl ?_
  refine k_iload (pc' := 30) C P d8_28 rfl rfl ?_
  refine k_i2b (pc' := 31) C P d8_30 rfl ?_
  refine k_bastore (J := 0) (g' := (fun j => Value.int (c0.toInt8.toInt32))) (pc' := 32) C P VB d8_31 rfl (by decide) (fun i hi => by match i, hi with | 0, _ => exact congrArg Value.int (own_nb _)) ge_b sz_b rfl ?_
  intro T1 h1 P1 W1 V1
  have f1_ca := VC.other W1 (KVA.neT VC VB nofun)
  refine k_iinc (z := (1 : Int32)) (l' := #[.val (.ref ca), .val (.int (1 : Int32)), .val (.ref b), .val (.int (0 : Int32)), .val (.int (1 : Int32)), .val (.int (0 : Int32)), .val (.int c0)]) (pc' := 35) C P1 d8_32 rfl rfl rfl rfl ?_
  refine k_iinc (z := (1 : Int32)) (l' := #[.val (.ref ca), .val (.int (1 : Int32)), .val (.ref b), .val (.int (1 : Int32)), .val (.int (1 : Int32)), .val (.int (0 : Int32)), .val (.int c0)]) (pc' := 38) C P1 d8_35 rfl rfl rfl rfl ?_
  refine k_iinc (z := (1 : Int32)) (l' := #[.val (.ref ca), .val (.int (1 : Int32)), .val (.ref b), .val (.int (1 : Int32)), .val (.int (1 : Int32)), .val (.int (1 : Int32)), .val (.int c0)]) (pc' := 41) C P1 d8_38 rfl rfl rfl rfl ?_
  refine k_goto (pc' := 3) C P1 d8_41 (by decide) (by decide) ?_
  refine k_iload (pc' := 5) C P1 d8_3 rfl rfl ?_
  refine k_iload (pc' := 7) C P1 d8_5 rfl rfl ?_
  refine k_icY (pc' := 44) C P1 d8_7 (show ¬ (1 : Int32) < (1 : Int32) by decide) (by decide) (by decide) ?_
  refine k_iload (pc' := 46) C P1 d8_44 rfl rfl ?_
  exact k_retI C P1 d8_46 (by decide) (by decide) ⟨rfl, V1⟩
theorem pn_7 : plainName "java/lang/StringUTF16" = true := by first | (simp [plainName, overriddenIn]; done) | decide +kernel
theorem ef_rmK3_1 (m : MethodId) (x0 : Addr) (x1 : Int32) (x2 : Int32) : entryFrame m #[(.ref x0), (.int x1), (.int x2)] 6 = mkF m 0 #[.val (.ref x0), .val (.int x1), .val (.int x2), .unset, .unset, .unset] [] := by first | (simp [entryFrame, mkF, argsToLocals, Value.category]; done) | rfl
set_option maxRecDepth 65536 in
set_option maxHeartbeats 40000000 in
theorem rmK3_1 (l : Launch) (Z : State) (a0 : Array Value) (hw : ∀ d ∈ tables_1, d.before a0 Z = true) (h0 : Heap) (n0 : Nat) (Z0 : n0 ≤ h0.size) (c0 : Int32) (hc0_ : ¬ 255 < c0) (ca : Addr) (kc : ClassId) (VC : KVA Z h0 ca kc .char 1 (fun j => Value.int (c0))) :
    KCt false l (⟨"java/lang/StringUTF16", "compress", "([CII)[B"⟩ : MethodName) jdk_52_method_16_code 6 (some (.array .byte)) ({ frames := 1, cells := 1, slots := 4, locals := 40 } : Room) Z n0 h0 #[(.ref ca), (.int (0 : Int32)), (.int (1 : Int32))] [] (fun v h => ∃ (b : Addr) (kb : ClassId), v = some (.ref b) ∧ KVA Z h b kb .byte 1 (fun j => Value.int (c0.toInt8.toInt32))) := by
  refine k_enter (tbl := tables_1) (a0 := a0) (Ls := #[.val (.ref ca), .val (.int (0 : Int32)), .val (.int (1 : Int32)), .unset, .unset, .unset]) (plainFor_of_name pn_7) hw Z0 (fun m => ef_rmK3_1 m ca (0 : Int32) (1 : Int32)) ?_
  intro p e s m below meth c T C P
  refine k_iloadN (pc' := 1) C P d7_0 rfl rfl ?_
  refine k_newp (pc' := 3) (cells' := 1) (slots' := 4) (N := 1) (cap := 4) C P (C.w 29 rfl) d7_1 rfl (by decide) (by decide) rfl rfl (by decide) (by decide) rfl ?_
  intro T2 h2 b2 k2 P2 hs2 ge_b2 sz_b2 E2 V2
  have ne_ca_b2 : ca ≠ b2 := Nat.ne_of_lt (hs2 ▸ VC.lt)
  have f2_ca := VC.ext E2
  refine k_astoreN (l' := #[.val (.ref ca), .val (.int (0 : Int32)), .val (.int (1 : Int32)), .val (.ref b2), .unset, .unset]) (pc' := 4) C P2 d7_3 rfl rfl rfl ?_
  refine k_aloadN (pc' := 5) C P2 d7_4 rfl rfl rfl ?_
  refine k_iloadN (pc' := 6) C P2 d7_5 rfl rfl ?_
  refine k_aloadN (pc' := 7) C P2 d7_6 rfl rfl rfl ?_
  refine k_iconst (z := (0 : Int32)) (pc' := 8) C P2 d7_7 rfl rfl ?_
  refine k_iloadN (pc' := 9) C P2 d7_8 rfl rfl ?_
  refine k_callT (pc' := 12) (cells' := 1) (slots' := 4) (W := 0) C P2 (C.w 30 rfl) (C.w 31 rfl) (C.w 32 rfl) (C.w 27 rfl) (by decide) (rmK5_1 l Z a0 hw _ n0 P2.size c0 hc0_ ca kc f2_ca b2 k2 V2 ge_b2) [(.ref ca), (.int (0 : Int32)), (.ref b2), (.int (0 : Int32)), (.int (1 : Int32))] [] rfl (lenOf pd_0 rfl) rfl (Nat.le_of_eq rfl) d7_9 rfl (by decide) (by decide) rfl rfl (by decide) (by decide) (allS (Or.inr sz_b2) all0) rfl ?_
  intro T3 h3 v3 P3 K3 Q3
  obtain ⟨rfl, V3_⟩ := Q3
  have f3_ca := f2_ca.keep K3 (ninS ne_ca_b2 nin0)
  show KGo p e below _ T3 m 12 #[.val (.ref ca), .val (.int (0 : Int32)), .val (.int (1 : Int32)), .val (.ref b2), .unset, .unset] [(.int (1 : Int32))]
  refine k_istore (l' := #[.val (.ref ca), .val (.int (0 : Int32)), .val (.int (1 : Int32)), .val (.ref b2), .val (.int (1 : Int32)), .unset]) (pc' := 14) C P3 d7_12 rfl rfl ?_
  refine k_iload (pc' := 16) C P3 d7_14 rfl rfl ?_
  refine k_iloadN (pc' := 17) C P3 d7_16 rfl rfl ?_
  refine k_icY (pc' := 57) C P3 d7_17 (rfl : (_ : Int32) = _) (by decide) (by decide) ?_
  refine k_aloadN (pc' := 58) C P3 d7_57 rfl rfl rfl ?_
  exact k_retA C P3 d7_58 rfl rfl (by decide) (by decide) ⟨_, _, rfl, V3_⟩
theorem pn_9 : plainName "java/lang/StringUTF16" = true := by first | (simp [plainName, overriddenIn]; done) | decide +kernel
theorem ef_rmCL_1 (m : MethodId) (x0 : Addr) (x1 : Int32) : entryFrame m #[(.ref x0), (.int x1)] 2 = mkF m 0 #[.val (.ref x0), .val (.int x1)] [] := by first | (simp [entryFrame, mkF, argsToLocals, Value.category]; done) | rfl
set_option maxRecDepth 65536 in
set_option maxHeartbeats 40000000 in
theorem rmCL_1 (l : Launch) (Z : State) (a0 : Array Value) (hw : ∀ d ∈ tables_1, d.before a0 Z = true) (h0 : Heap) (n0 : Nat) (Z0 : n0 ≤ h0.size) (b : Addr) (kb : ClassId) (f : Nat → Value) (VB : KVA Z h0 b kb .byte 1 f) :
    KCt false l (⟨"java/lang/StringUTF16", "coderFromArrayLen", "([BI)B"⟩ : MethodName) jdk_52_method_15_code 2 (some .byte) ({ frames := 0, cells := 0, slots := 0, locals := 0 } : Room) Z n0 h0 #[(.ref b), (.int (1 : Int32))] [] (fun v h => v = some (.int 0) ∧ h0 = h) := by
  refine k_enter (tbl := tables_1) (a0 := a0) (Ls := #[.val (.ref b), .val (.int (1 : Int32))]) (plainFor_of_name pn_9) hw Z0 (fun m => ef_rmCL_1 m b (1 : Int32)) ?_
  intro p e s m below meth c T C P
  refine k_iloadN (pc' := 1) C P d9_0 rfl rfl ?_
  refine k_aloadN (pc' := 2) C P d9_1 rfl rfl rfl ?_
  refine k_arrlen (z := (1 : Int32)) (pc' := 3) C P VB d9_2 rfl rfl ?_
  refine k_isub (pc' := 4) C P d9_3 rfl ?_
  refine k_bipush (z := (31 : Int32)) (pc' := 6) C P d9_4 rfl rfl ?_
  refine k_iushr (pc' := 7) C P d9_6 rfl ?_
  refine k_i2b (pc' := 8) C P d9_7 rfl ?_
  exact k_retZ (z' := 0) C P (by simp) d9_8 (by decide) (by decide) (by decide) ⟨rfl, rfl⟩
theorem pn_5 : plainName "java/lang/String" = true := by first | (simp [plainName, overriddenIn]; done) | decide +kernel
theorem ef_rmNI_1 (m : MethodId) (x0 : Addr) (x1 : Addr) (x2 : Int32) (x3 : Int32) : entryFrame m #[(.ref x0), (.ref x1), (.int x2), (.int x3), .null] 6 = mkF m 0 #[.val (.ref x0), .val (.ref x1), .val (.int x2), .val (.int x3), .val .null, .unset] [] := by first | (simp [entryFrame, mkF, argsToLocals, Value.category]; done) | rfl
set_option maxRecDepth 65536 in
set_option maxHeartbeats 40000000 in
theorem rmNI_1 (l : Launch) (Z : State) (a0 : Array Value) (hw : ∀ d ∈ tables_1, d.before a0 Z = true) (h0 : Heap) (n0 : Nat) (Z0 : n0 ≤ h0.size) (c0 : Int32) (hc0_ : ¬ 255 < c0) (ca : Addr) (kc : ClassId) (VC : KVA Z h0 ca kc .char 1 (fun j => Value.int (c0))) (a : Addr) (ge_a : n0 ≤ a) (F : KOb Z h0 a "java/lang/String" layS [.int 0, .null]) (cs : Int32) (hcs : ¬ cs = 0) (SC : Sta Z h0 "java/lang/String" "COMPACT_STRINGS" "Z" (.int cs)) :
    KCt false l (⟨"java/lang/String", "<init>", "([CIILjava/lang/Void;)V"⟩ : MethodName) jdk_42_method_149_code 6 none ({ frames := 2, cells := 1, slots := 4, locals := 70 } : Room) Z n0 h0 #[(.ref a), (.ref ca), (.int (0 : Int32)), (.int (1 : Int32)), .null] [a] (fun v h => v = none ∧ ∃ (b : Addr) (kb : ClassId), KOb Z h a "java/lang/String" layS [.int 0, .ref b] ∧ KVA Z h b kb .byte 1 (fun j => Value.int (c0.toInt8.toInt32))) := by
  refine k_enter (tbl := tables_1) (a0 := a0) (Ls := #[.val (.ref a), .val (.ref ca), .val (.int (0 : Int32)), .val (.int (1 : Int32)), .val .null, .unset]) (plainFor_of_name pn_5) hw Z0 (fun m => ef_rmNI_1 m a ca (0 : Int32) (1 : Int32)) ?_
  intro p e s m below meth c T C P
  have sz_a : a ∈ [a] ∨ h0.size ≤ a := Or.inl (by simp)
  refine k_aloadN (pc' := 1) C P d5_0 rfl rfl rfl ?_
  refine k_initObj (pc' := 4) (W := 0) C P (C.w 21 rfl) (C.w 22 rfl) (C.w 23 rfl) d5_1 rfl (by decide) (by decide) (by decide) rfl ?_
  intro T4 P4
  refine k_iloadN (pc' := 5) C P4 d5_4 rfl rfl ?_
  refine k_ifY (pc' := 27) C P4 d5_5 (show ¬ (1 : Int32) = (0 : Int32) by decide) (by decide) (by decide) ?_
  refine k_gets (pc' := 30) C P4 (C.w 24 rfl) Via.refl SC d5_27 rfl ?_
  intro T5 P5
  refine k_ifN (pc' := 33) C P5 d5_30 hcs rfl ?_
  refine k_aloadN (pc' := 34) C P5 d5_33 rfl rfl rfl ?_
  refine k_iloadN (pc' := 35) C P5 d5_34 rfl rfl ?_
  refine k_iloadN (pc' := 36) C P5 d5_35 rfl rfl ?_
  refine k_callT (pc' := 39) (cells' := 1) (slots' := 4) (W := 0) C P5 (C.w 25 rfl) (C.w 26 rfl) (C.w 28 rfl) (C.w 27 rfl) (by decide) (rmK3_1 l Z a0 hw _ n0 P5.size c0 hc0_ ca kc VC) [(.ref ca), (.int (0 : Int32)), (.int (1 : Int32))] [] rfl (lenOf pd_1 rfl) rfl (Nat.le_of_eq rfl) d5_36 rfl (by decide) (by decide) rfl rfl (by decide) (by decide) all0 rfl ?_
  intro T6 h6 v6 P6 K6 Q6
  obtain ⟨b, kb, rfl, V6_⟩ := Q6
  have f6_a := F.keep K6 nin0
  have f6_ca := VC.keep K6 nin0
  have f6_S_COMPACT_STRINGS := k_staKeep SC K6 k_ns0
  show KGo p e below _ T6 m 39 #[.val (.ref a), .val (.ref ca), .val (.int (0 : Int32)), .val (.int (1 : Int32)), .val .null, .unset] [(.ref b)]
  refine k_astore (l' := #[.val (.ref a), .val (.ref ca), .val (.int (0 : Int32)), .val (.int (1 : Int32)), .val .null, .val (.ref b)]) (pc' := 41) C P6 d5_39 rfl rfl rfl ?_
  refine k_aloadN (pc' := 42) C P6 d5_41 rfl rfl rfl ?_
  refine k_aload (pc' := 44) C P6 d5_42 rfl rfl rfl ?_
  refine k_iloadN (pc' := 45) C P6 d5_44 rfl rfl ?_
  refine k_callT (pc' := 48) (cells' := 1) (slots' := 4) (W := 1) C P6 (C.w 33 rfl) (C.w 34 rfl) (C.w 35 rfl) (C.w 27 rfl) (by decide) (rmCL_1 l Z a0 hw _ n0 P6.size b kb _ V6_) [(.ref b), (.int (1 : Int32))] [(.ref a)] rfl (lenOf pd_2 rfl) rfl (Nat.le_of_eq rfl) d5_45 rfl (by decide) (by decide) rfl rfl (by decide) (by decide) all0 rfl ?_
  intro T7 h7 v7 P7 K7 Q7
  obtain ⟨e7, g7⟩ := Q7
  subst g7
  subst e7
  show KGo p e below _ T7 m 48 #[.val (.ref a), .val (.ref ca), .val (.int (0 : Int32)), .val (.int (1 : Int32)), .val .null, .val (.ref b)] [(.int (0 : Int32)), (.ref a)]
  refine k_putf (pc' := 51) (ty := .byte) (v' := (.int (0 : Int32))) C P7 (C.w 36 rfl) Via.refl f6_a 0 rfl (Or.inr ⟨(C.w 37 rfl), rfl, rfl⟩) (C.w 12 rfl) (by decide) rfl rfl d5_48 ge_a sz_a rfl ?_
  intro T8 h8 P8 W8
  have f8_a : KOb Z h8 a "java/lang/String" layS [(.int (0 : Int32)), .null] := f6_a.put (lokS C.hw) 0 rfl W8 rfl
  have f8_ca := f6_ca.other W8 (f6_ca.ne_ob f6_a.exa (C.w 12 rfl))
  have f8_S_COMPACT_STRINGS := Sta.wr W8 f6_S_COMPACT_STRINGS
  have f8_b := V6_.other W8 (V6_.ne_ob f6_a.exa (C.w 12 rfl))
  refine k_aloadN (pc' := 52) C P8 d5_51 rfl rfl rfl ?_
  refine k_aload (pc' := 54) C P8 d5_52 rfl rfl rfl ?_
  refine k_putf (pc' := 57) (ty := (.array .byte)) (v' := (.ref b)) C P8 (C.w 38 rfl) Via.refl f8_a 1 rfl (Or.inr ⟨(C.w 39 rfl), rfl, rfl⟩) (C.w 12 rfl) (by decide) rfl rfl d5_54 ge_a sz_a rfl ?_
  intro T9 h9 P9 W9
  have f9_a : KOb Z h9 a "java/lang/String" layS [(.int (0 : Int32)), (.ref b)] := f8_a.put (lokS C.hw) 1 rfl W9 rfl
  have f9_ca := f8_ca.other W9 (f8_ca.ne_ob f8_a.exa (C.w 12 rfl))
  have f9_S_COMPACT_STRINGS := Sta.wr W9 f8_S_COMPACT_STRINGS
  have f9_b := f8_b.other W9 (f8_b.ne_ob f8_a.exa (C.w 12 rfl))
  exact k_retV C P9 d5_57 (by decide) (by decide) ⟨rfl, b, kb, f9_a, f9_b⟩
theorem pn_4 : plainName "java/lang/String" = true := by first | (simp [plainName, overriddenIn]; done) | decide +kernel
theorem ef_rmNew_1 (m : MethodId) (x0 : Addr) (x1 : Addr) : entryFrame m #[(.ref x0), (.ref x1)] 2 = mkF m 0 #[.val (.ref x0), .val (.ref x1)] [] := by first | (simp [entryFrame, mkF, argsToLocals, Value.category]; done) | rfl
set_option maxRecDepth 65536 in
set_option maxHeartbeats 40000000 in
theorem rmNew_1 (l : Launch) (Z : State) (a0 : Array Value) (hw : ∀ d ∈ tables_1, d.before a0 Z = true) (h0 : Heap) (n0 : Nat) (Z0 : n0 ≤ h0.size) (c0 : Int32) (hc0_ : ¬ 255 < c0) (ca : Addr) (kc : ClassId) (VC : KVA Z h0 ca kc .char 1 (fun j => Value.int (c0))) (a : Addr) (ge_a : n0 ≤ a) (F : KOb Z h0 a "java/lang/String" layS [.int 0, .null]) (cs : Int32) (hcs : ¬ cs = 0) (SC : Sta Z h0 "java/lang/String" "COMPACT_STRINGS" "Z" (.int cs)) :
    KCt false l (⟨"java/lang/String", "<init>", "([C)V"⟩ : MethodName) jdk_42_method_3_code 2 none ({ frames := 3, cells := 1, slots := 4, locals := 95 } : Room) Z n0 h0 #[(.ref a), (.ref ca)] [a] (fun v h => v = none ∧ ∃ (b : Addr) (kb : ClassId), KOb Z h a "java/lang/String" layS [.int 0, .ref b] ∧ KVA Z h b kb .byte 1 (fun j => Value.int (c0.toInt8.toInt32))) := by
  refine k_enter (tbl := tables_1) (a0 := a0) (Ls := #[.val (.ref a), .val (.ref ca)]) (plainFor_of_name pn_4) hw Z0 (fun m => ef_rmNew_1 m a ca) ?_
  intro p e s m below meth c T C P
  have sz_a : a ∈ [a] ∨ h0.size ≤ a := Or.inl (by simp)
  refine k_aloadN (pc' := 1) C P d4_0 rfl rfl rfl ?_
  refine k_aloadN (pc' := 2) C P d4_1 rfl rfl rfl ?_
  refine k_iconst (z := (0 : Int32)) (pc' := 3) C P d4_2 rfl rfl ?_
  refine k_aloadN (pc' := 4) C P d4_3 rfl rfl rfl ?_
  refine k_arrlen (z := (1 : Int32)) (pc' := 5) C P VC d4_4 rfl rfl ?_
  refine k_aconstNull (pc' := 6) C P d4_5 rfl ?_
  refine k_callN (pc' := 9) (cells' := 1) (slots' := 4) (W := 0) C P rfl (C.w 17 rfl) (C.w 18 rfl) (C.w 20 rfl) (C.w 13 rfl) (by decide) (rmNI_1 l Z a0 hw _ n0 P.size c0 hc0_ ca kc VC a ge_a F cs hcs SC) a [(.ref ca), (.int (0 : Int32)), (.int (1 : Int32)), .null] [] rfl (lenOf pd_3 rfl) rfl (Nat.le_of_eq rfl) d4_6 rfl (by decide) (by decide) rfl rfl (by decide) (by decide) (allS sz_a all0) rfl ?_
  intro T10 h10 v10 P10 K10 Q10
  obtain ⟨rfl, b, kb, F10_, V10_⟩ := Q10
  have f10_ca := VC.keep K10 (ninS (VC.ne_ob F.exa (C.w 12 rfl)) nin0)
  have f10_S_COMPACT_STRINGS := k_staKeep SC K10 (k_nsS F.ns k_ns0)
  show KGo p e below _ T10 m 9 #[.val (.ref a), .val (.ref ca)] []
  exact k_retV C P10 d4_9 (by decide) (by decide) ⟨rfl, b, kb, F10_, V10_⟩
theorem ef_rmK5_2 (m : MethodId) (x0 : Addr) (x1 : Int32) (x2 : Addr) (x3 : Int32) (x4 : Int32) : entryFrame m #[(.ref x0), (.int x1), (.ref x2), (.int x3), (.int x4)] 7 = mkF m 0 #[.val (.ref x0), .val (.int x1), .val (.ref x2), .val (.int x3), .val (.int x4), .unset, .unset] [] := by first | (simp [entryFrame, mkF, argsToLocals, Value.category]; done) | rfl
set_option maxRecDepth 65536 in
set_option maxHeartbeats 40000000 in
theorem rmK5_2 (l : Launch) (Z : State) (a0 : Array Value) (hw : ∀ d ∈ tables_1, d.before a0 Z = true) (h0 : Heap) (n0 : Nat) (Z0 : n0 ≤ h0.size) (c0 c1 : Int32) (hc0_ : ¬ 255 < c0) (hc1_ : ¬ 255 < c1) (ca : Addr) (kc : ClassId) (VC : KVA Z h0 ca kc .char 2 (fun j => Value.int (if j = 0 then c0 else c1))) (b : Addr) (kb : ClassId) (VB : KVA Z h0 b kb .byte 2 (fun _ => .int 0)) (ge_b : n0 ≤ b) :
    KCt false l (⟨"java/lang/StringUTF16", "compress", "([CI[BII)I"⟩ : MethodName) jdk_52_method_21_code 7 (some .int) ({ frames := 0, cells := 0, slots := 0, locals := 0 } : Room) Z n0 h0 #[(.ref ca), (.int (0 : Int32)), (.ref b), (.int (0 : Int32)), (.int (2 : Int32))] [b] (fun v h => v = some (.int 2) ∧ KVA Z h b kb .byte 2 (fun j => Value.int (if j = 0 then c0.toInt8.toInt32 else c1.toInt8.toInt32))) := by
  refine k_enter (tbl := tables_1) (a0 := a0) (Ls := #[.val (.ref ca), .val (.int (0 : Int32)), .val (.ref b), .val (.int (0 : Int32)), .val (.int (2 : Int32)), .unset, .unset]) (plainFor_of_name pn_8) hw Z0 (fun m => ef_rmK5_2 m ca (0 : Int32) b (0 : Int32) (2 : Int32)) ?_
  intro p e s m below meth c T C P
  have sz_b : b ∈ [b] ∨ h0.size ≤ b := Or.inl (by simp)
  refine k_iconst (z := (0 : Int32)) (pc' := 1) C P d8_0 rfl rfl ?_
  refine k_istore (l' := #[.val (.ref ca), .val (.int (0 : Int32)), .val (.ref b), .val (.int (0 : Int32)), .val (.int (2 : Int32)), .val (.int (0 : Int32)), .unset]) (pc' := 3) C P d8_1 rfl rfl ?_
  refine k_iload (pc' := 5) C P d8_3 rfl rfl ?_
  refine k_iload (pc' := 7) C P d8_5 rfl rfl ?_
  refine k_icN (pc' := 10) C P d8_7 (show (0 : Int32) < (2 : Int32) by decide) rfl ?_
  refine k_aloadN (pc' := 11) C P d8_10 rfl rfl rfl ?_
  refine k_iloadN (pc' := 12) C P d8_11 rfl rfl ?_
  refine k_caload (J := 0) (v := (.int c0)) (pc' := 13) C P VC d8_12 rfl (by decide) rfl rfl ?_
  refine k_istore (l' := #[.val (.ref ca), .val (.int (0 : Int32)), .val (.ref b), .val (.int (0 : Int32)), .val (.int (2 : Int32)), .val (.int (0 : Int32)), .val (.int c0)]) (pc' := 15) C P d8_13 rfl rfl ?_
  refine k_iload (pc' := 17) C P d8_15 rfl rfl ?_
  refine k_sipush (z := (255 : Int32)) (pc' := 20) C P d8_17 rfl rfl ?_
  refine k_icY (pc' := 26) C P d8_20 hc0_ (by decide) (by decide) ?_
  refine k_aloadN (pc' := 27) C P d8_26 rfl rfl rfl ?_
  refine k_iloadN (pc' := 28) C P d8_27 rfl rfl ?_
  refine k_iload (pc' := 30) C P d8_28 rfl rfl ?_
  refine k_i2b (pc' := 31) C P d8_30 rfl ?_
  refine k_bastore (J := 0) (g' := (fun j => Value.int (if j = 0 then c0.toInt8.toInt32 else 0))) (pc' := 32) C P VB d8_31 rfl (by decide) (fun i hi => by match i, hi with | 0, _ => exact congrArg Value.int (own_nb _) | 1, _ => rfl) ge_b sz_b rfl ?_
  intro T11 h11 P11 W11 V11
  have f11_ca := VC.other W11 (KVA.neT VC VB nofun)
  refine k_iinc (z := (1 : Int32)) (l' := #[.val (.ref ca), .val (.int (1 : Int32)), .val (.ref b), .val (.int (0 : Int32)), .val (.int (2 : Int32)), .val (.int (0 : Int32)), .val (.int c0)]) (pc' := 35) C P11 d8_32 rfl rfl rfl rfl ?_
  refine k_iinc (z := (1 : Int32)) (l' := #[.val (.ref ca), .val (.int (1 : Int32)), .val (.ref b), .val (.int (1 : Int32)), .val (.int (2 : Int32)), .val (.int (0 : Int32)), .val (.int c0)]) (pc' := 38) C P11 d8_35 rfl rfl rfl rfl ?_
  refine k_iinc (z := (1 : Int32)) (l' := #[.val (.ref ca), .val (.int (1 : Int32)), .val (.ref b), .val (.int (1 : Int32)), .val (.int (2 : Int32)), .val (.int (1 : Int32)), .val (.int c0)]) (pc' := 41) C P11 d8_38 rfl rfl rfl rfl ?_
  refine k_goto (pc' := 3) C P11 d8_41 (by decide) (by decide) ?_
  refine k_iload (pc' := 5) C P11 d8_3 rfl rfl ?_
  refine k_iload (pc' := 7) C P11 d8_5 rfl rfl ?_
  refine k_icN (pc' := 10) C P11 d8_7 (show (1 : Int32) < (2 : Int32) by decide) rfl ?_
  refine k_aloadN (pc' := 11) C P11 d8_10 rfl rfl rfl ?_
  refine k_iloadN (pc' := 12) C P11 d8_11 rfl rfl ?_
  refine k_caload (J := 1) (v := (.int c1)) (pc' := 13) C P11 f11_ca d8_12 rfl (by decide) rfl rfl ?_
  refine k_istore (l' := #[.val (.ref ca), .val (.int (1 : Int32)), .val (.ref b), .val (.int (1 : Int32)), .val (.int (2 : Int32)), .val (.int (1 : Int32)), .val (.int c1)]) (pc' := 15) C P11 d8_13 rfl rfl ?_
  refine k_iload (pc' := 17) C P11 d8_15 rfl rfl ?_
  refine k_sipush (z := (255 : Int32)) (pc' := 20) C P11 d8_17 rfl rfl ?_
  refine k_icY (pc' := 26) C P11 d8_20 hc1_ (by decide) (by decide) ?_
  refine k_aloadN (pc' := 27) C P11 d8_26 rfl rfl rfl ?_
  refine k_iloadN (pc' := 28) C P11 d8_27 rfl rfl ?_
  refine k_iload (pc' := 30) C P11 d8_28 rfl rfl ?_
  refine k_i2b (pc' := 31) C P11 d8_30 rfl ?_
  refine k_bastore (J := 1) (g' := (fun j => Value.int (if j = 0 then c0.toInt8.toInt32 else c1.toInt8.toInt32))) (pc' := 32) C P11 V11 d8_31 rfl (by decide) (fun i hi => by match i, hi with | 0, _ => rfl | 1, _ => exact congrArg Value.int (own_nb _)) ge_b sz_b rfl ?_
  intro T12 h12 P12 W12 V12
  have f12_ca := f11_ca.other W12 (KVA.neT f11_ca V11 nofun)
  refine k_iinc (z := (2 : Int32)) (l' := #[.val (.ref ca), .val (.int (2 : Int32)), .val (.ref b), .val (.int (1 : Int32)), .val (.int (2 : Int32)), .val (.int (1 : Int32)), .val (.int c1)]) (pc' := 35) C P12 d8_32 rfl rfl rfl rfl ?_
  refine k_iinc (z := (2 : Int32)) (l' := #[.val (.ref ca), .val (.int (2 : Int32)), .val (.ref b), .val (.int (2 : Int32)), .val (.int (2 : Int32)), .val (.int (1 : Int32)), .val (.int c1)]) (pc' := 38) C P12 d8_35 rfl rfl rfl rfl ?_
  refine k_iinc (z := (2 : Int32)) (l' := #[.val (.ref ca), .val (.int (2 : Int32)), .val (.ref b), .val (.int (2 : Int32)), .val (.int (2 : Int32)), .val (.int (2 : Int32)), .val (.int c1)]) (pc' := 41) C P12 d8_38 rfl rfl rfl rfl ?_
  refine k_goto (pc' := 3) C P12 d8_41 (by decide) (by decide) ?_
  refine k_iload (pc' := 5) C P12 d8_3 rfl rfl ?_
  refine k_iload (pc' := 7) C P12 d8_5 rfl rfl ?_
  refine k_icY (pc' := 44) C P12 d8_7 (show ¬ (2 : Int32) < (2 : Int32) by decide) (by decide) (by decide) ?_
  refine k_iload (pc' := 46) C P12 d8_44 rfl rfl ?_
  exact k_retI C P12 d8_46 (by decide) (by decide) ⟨rfl, V12⟩
theorem ef_rmK3_2 (m : MethodId) (x0 : Addr) (x1 : Int32) (x2 : Int32) : entryFrame m #[(.ref x0), (.int x1), (.int x2)] 6 = mkF m 0 #[.val (.ref x0), .val (.int x1), .val (.int x2), .unset, .unset, .unset] [] := by first | (simp [entryFrame, mkF, argsToLocals, Value.category]; done) | rfl
set_option maxRecDepth 65536 in
set_option maxHeartbeats 40000000 in
theorem rmK3_2 (l : Launch) (Z : State) (a0 : Array Value) (hw : ∀ d ∈ tables_1, d.before a0 Z = true) (h0 : Heap) (n0 : Nat) (Z0 : n0 ≤ h0.size) (c0 c1 : Int32) (hc0_ : ¬ 255 < c0) (hc1_ : ¬ 255 < c1) (ca : Addr) (kc : ClassId) (VC : KVA Z h0 ca kc .char 2 (fun j => Value.int (if j = 0 then c0 else c1))) :
    KCt false l (⟨"java/lang/StringUTF16", "compress", "([CII)[B"⟩ : MethodName) jdk_52_method_16_code 6 (some (.array .byte)) ({ frames := 1, cells := 1, slots := 4, locals := 40 } : Room) Z n0 h0 #[(.ref ca), (.int (0 : Int32)), (.int (2 : Int32))] [] (fun v h => ∃ (b : Addr) (kb : ClassId), v = some (.ref b) ∧ KVA Z h b kb .byte 2 (fun j => Value.int (if j = 0 then c0.toInt8.toInt32 else c1.toInt8.toInt32))) := by
  refine k_enter (tbl := tables_1) (a0 := a0) (Ls := #[.val (.ref ca), .val (.int (0 : Int32)), .val (.int (2 : Int32)), .unset, .unset, .unset]) (plainFor_of_name pn_7) hw Z0 (fun m => ef_rmK3_2 m ca (0 : Int32) (2 : Int32)) ?_
  intro p e s m below meth c T C P
  refine k_iloadN (pc' := 1) C P d7_0 rfl rfl ?_
  refine k_newp (pc' := 3) (cells' := 1) (slots' := 4) (N := 2) (cap := 4) C P (C.w 29 rfl) d7_1 rfl (by decide) (by decide) rfl rfl (by decide) (by decide) rfl ?_
  intro T13 h13 b13 k13 P13 hs13 ge_b13 sz_b13 E13 V13
  have ne_ca_b13 : ca ≠ b13 := Nat.ne_of_lt (hs13 ▸ VC.lt)
  have f13_ca := VC.ext E13
  refine k_astoreN (l' := #[.val (.ref ca), .val (.int (0 : Int32)), .val (.int (2 : Int32)), .val (.ref b13), .unset, .unset]) (pc' := 4) C P13 d7_3 rfl rfl rfl ?_
  refine k_aloadN (pc' := 5) C P13 d7_4 rfl rfl rfl ?_
  refine k_iloadN (pc' := 6) C P13 d7_5 rfl rfl ?_
  refine k_aloadN (pc' := 7) C P13 d7_6 rfl rfl rfl ?_
  refine k_iconst (z := (0 : Int32)) (pc' := 8) C P13 d7_7 rfl rfl ?_
  refine k_iloadN (pc' := 9) C P13 d7_8 rfl rfl ?_
  refine k_callT (pc' := 12) (cells' := 1) (slots' := 4) (W := 0) C P13 (C.w 30 rfl) (C.w 31 rfl) (C.w 32 rfl) (C.w 27 rfl) (by decide) (rmK5_2 l Z a0 hw _ n0 P13.size c0 c1 hc0_ hc1_ ca kc f13_ca b13 k13 V13 ge_b13) [(.ref ca), (.int (0 : Int32)), (.ref b13), (.int (0 : Int32)), (.int (2 : Int32))] [] rfl (lenOf pd_0 rfl) rfl (Nat.le_of_eq rfl) d7_9 rfl (by decide) (by decide) rfl rfl (by decide) (by decide) (allS (Or.inr sz_b13) all0) rfl ?_
  intro T14 h14 v14 P14 K14 Q14
  obtain ⟨rfl, V14_⟩ := Q14
  have f14_ca := f13_ca.keep K14 (ninS ne_ca_b13 nin0)
  show KGo p e below _ T14 m 12 #[.val (.ref ca), .val (.int (0 : Int32)), .val (.int (2 : Int32)), .val (.ref b13), .unset, .unset] [(.int (2 : Int32))]
  refine k_istore (l' := #[.val (.ref ca), .val (.int (0 : Int32)), .val (.int (2 : Int32)), .val (.ref b13), .val (.int (2 : Int32)), .unset]) (pc' := 14) C P14 d7_12 rfl rfl ?_
  refine k_iload (pc' := 16) C P14 d7_14 rfl rfl ?_
  refine k_iloadN (pc' := 17) C P14 d7_16 rfl rfl ?_
  refine k_icY (pc' := 57) C P14 d7_17 (rfl : (_ : Int32) = _) (by decide) (by decide) ?_
  refine k_aloadN (pc' := 58) C P14 d7_57 rfl rfl rfl ?_
  exact k_retA C P14 d7_58 rfl rfl (by decide) (by decide) ⟨_, _, rfl, V14_⟩
theorem ef_rmCL_2 (m : MethodId) (x0 : Addr) (x1 : Int32) : entryFrame m #[(.ref x0), (.int x1)] 2 = mkF m 0 #[.val (.ref x0), .val (.int x1)] [] := by first | (simp [entryFrame, mkF, argsToLocals, Value.category]; done) | rfl
set_option maxRecDepth 65536 in
set_option maxHeartbeats 40000000 in
theorem rmCL_2 (l : Launch) (Z : State) (a0 : Array Value) (hw : ∀ d ∈ tables_1, d.before a0 Z = true) (h0 : Heap) (n0 : Nat) (Z0 : n0 ≤ h0.size) (b : Addr) (kb : ClassId) (f : Nat → Value) (VB : KVA Z h0 b kb .byte 2 f) :
    KCt false l (⟨"java/lang/StringUTF16", "coderFromArrayLen", "([BI)B"⟩ : MethodName) jdk_52_method_15_code 2 (some .byte) ({ frames := 0, cells := 0, slots := 0, locals := 0 } : Room) Z n0 h0 #[(.ref b), (.int (2 : Int32))] [] (fun v h => v = some (.int 0) ∧ h0 = h) := by
  refine k_enter (tbl := tables_1) (a0 := a0) (Ls := #[.val (.ref b), .val (.int (2 : Int32))]) (plainFor_of_name pn_9) hw Z0 (fun m => ef_rmCL_2 m b (2 : Int32)) ?_
  intro p e s m below meth c T C P
  refine k_iloadN (pc' := 1) C P d9_0 rfl rfl ?_
  refine k_aloadN (pc' := 2) C P d9_1 rfl rfl rfl ?_
  refine k_arrlen (z := (2 : Int32)) (pc' := 3) C P VB d9_2 rfl rfl ?_
  refine k_isub (pc' := 4) C P d9_3 rfl ?_
  refine k_bipush (z := (31 : Int32)) (pc' := 6) C P d9_4 rfl rfl ?_
  refine k_iushr (pc' := 7) C P d9_6 rfl ?_
  refine k_i2b (pc' := 8) C P d9_7 rfl ?_
  exact k_retZ (z' := 0) C P (by simp) d9_8 (by decide) (by decide) (by decide) ⟨rfl, rfl⟩
theorem ef_rmNI_2 (m : MethodId) (x0 : Addr) (x1 : Addr) (x2 : Int32) (x3 : Int32) : entryFrame m #[(.ref x0), (.ref x1), (.int x2), (.int x3), .null] 6 = mkF m 0 #[.val (.ref x0), .val (.ref x1), .val (.int x2), .val (.int x3), .val .null, .unset] [] := by first | (simp [entryFrame, mkF, argsToLocals, Value.category]; done) | rfl
set_option maxRecDepth 65536 in
set_option maxHeartbeats 40000000 in
theorem rmNI_2 (l : Launch) (Z : State) (a0 : Array Value) (hw : ∀ d ∈ tables_1, d.before a0 Z = true) (h0 : Heap) (n0 : Nat) (Z0 : n0 ≤ h0.size) (c0 c1 : Int32) (hc0_ : ¬ 255 < c0) (hc1_ : ¬ 255 < c1) (ca : Addr) (kc : ClassId) (VC : KVA Z h0 ca kc .char 2 (fun j => Value.int (if j = 0 then c0 else c1))) (a : Addr) (ge_a : n0 ≤ a) (F : KOb Z h0 a "java/lang/String" layS [.int 0, .null]) (cs : Int32) (hcs : ¬ cs = 0) (SC : Sta Z h0 "java/lang/String" "COMPACT_STRINGS" "Z" (.int cs)) :
    KCt false l (⟨"java/lang/String", "<init>", "([CIILjava/lang/Void;)V"⟩ : MethodName) jdk_42_method_149_code 6 none ({ frames := 2, cells := 1, slots := 4, locals := 70 } : Room) Z n0 h0 #[(.ref a), (.ref ca), (.int (0 : Int32)), (.int (2 : Int32)), .null] [a] (fun v h => v = none ∧ ∃ (b : Addr) (kb : ClassId), KOb Z h a "java/lang/String" layS [.int 0, .ref b] ∧ KVA Z h b kb .byte 2 (fun j => Value.int (if j = 0 then c0.toInt8.toInt32 else c1.toInt8.toInt32))) := by
  refine k_enter (tbl := tables_1) (a0 := a0) (Ls := #[.val (.ref a), .val (.ref ca), .val (.int (0 : Int32)), .val (.int (2 : Int32)), .val .null, .unset]) (plainFor_of_name pn_5) hw Z0 (fun m => ef_rmNI_2 m a ca (0 : Int32) (2 : Int32)) ?_
  intro p e s m below meth c T C P
  have sz_a : a ∈ [a] ∨ h0.size ≤ a := Or.inl (by simp)
  refine k_aloadN (pc' := 1) C P d5_0 rfl rfl rfl ?_
  refine k_initObj (pc' := 4) (W := 0) C P (C.w 21 rfl) (C.w 22 rfl) (C.w 23 rfl) d5_1 rfl (by decide) (by decide) (by decide) rfl ?_
  intro T15 P15
  refine k_iloadN (pc' := 5) C P15 d5_4 rfl rfl ?_
  refine k_ifY (pc' := 27) C P15 d5_5 (show ¬ (2 : Int32) = (0 : Int32) by decide) (by decide) (by decide) ?_
  refine k_gets (pc' := 30) C P15 (C.w 24 rfl) Via.refl SC d5_27 rfl ?_
  intro T16 P16
  refine k_ifN (pc' := 33) C P16 d5_30 hcs rfl ?_
  refine k_aloadN (pc' := 34) C P16 d5_33 rfl rfl rfl ?_
  refine k_iloadN (pc' := 35) C P16 d5_34 rfl rfl ?_
  refine k_iloadN (pc' := 36) C P16 d5_35 rfl rfl ?_
  refine k_callT (pc' := 39) (cells' := 1) (slots' := 4) (W := 0) C P16 (C.w 25 rfl) (C.w 26 rfl) (C.w 28 rfl) (C.w 27 rfl) (by decide) (rmK3_2 l Z a0 hw _ n0 P16.size c0 c1 hc0_ hc1_ ca kc VC) [(.ref ca), (.int (0 : Int32)), (.int (2 : Int32))] [] rfl (lenOf pd_1 rfl) rfl (Nat.le_of_eq rfl) d5_36 rfl (by decide) (by decide) rfl rfl (by decide) (by decide) all0 rfl ?_
  intro T17 h17 v17 P17 K17 Q17
  obtain ⟨b, kb, rfl, V17_⟩ := Q17
  have f17_a := F.keep K17 nin0
  have f17_ca := VC.keep K17 nin0
  have f17_S_COMPACT_STRINGS := k_staKeep SC K17 k_ns0
  show KGo p e below _ T17 m 39 #[.val (.ref a), .val (.ref ca), .val (.int (0 : Int32)), .val (.int (2 : Int32)), .val .null, .unset] [(.ref b)]
  refine k_astore (l' := #[.val (.ref a), .val (.ref ca), .val (.int (0 : Int32)), .val (.int (2 : Int32)), .val .null, .val (.ref b)]) (pc' := 41) C P17 d5_39 rfl rfl rfl ?_
  refine k_aloadN (pc' := 42) C P17 d5_41 rfl rfl rfl ?_
  refine k_aload (pc' := 44) C P17 d5_42 rfl rfl rfl ?_
  refine k_iloadN (pc' := 45) C P17 d5_44 rfl rfl ?_
  refine k_callT (pc' := 48) (cells' := 1) (slots' := 4) (W := 1) C P17 (C.w 33 rfl) (C.w 34 rfl) (C.w 35 rfl) (C.w 27 rfl) (by decide) (rmCL_2 l Z a0 hw _ n0 P17.size b kb _ V17_) [(.ref b), (.int (2 : Int32))] [(.ref a)] rfl (lenOf pd_2 rfl) rfl (Nat.le_of_eq rfl) d5_45 rfl (by decide) (by decide) rfl rfl (by decide) (by decide) all0 rfl ?_
  intro T18 h18 v18 P18 K18 Q18
  obtain ⟨e18, g18⟩ := Q18
  subst g18
  subst e18
  show KGo p e below _ T18 m 48 #[.val (.ref a), .val (.ref ca), .val (.int (0 : Int32)), .val (.int (2 : Int32)), .val .null, .val (.ref b)] [(.int (0 : Int32)), (.ref a)]
  refine k_putf (pc' := 51) (ty := .byte) (v' := (.int (0 : Int32))) C P18 (C.w 36 rfl) Via.refl f17_a 0 rfl (Or.inr ⟨(C.w 37 rfl), rfl, rfl⟩) (C.w 12 rfl) (by decide) rfl rfl d5_48 ge_a sz_a rfl ?_
  intro T19 h19 P19 W19
  have f19_a : KOb Z h19 a "java/lang/String" layS [(.int (0 : Int32)), .null] := f17_a.put (lokS C.hw) 0 rfl W19 rfl
  have f19_ca := f17_ca.other W19 (f17_ca.ne_ob f17_a.exa (C.w 12 rfl))
  have f19_S_COMPACT_STRINGS := Sta.wr W19 f17_S_COMPACT_STRINGS
  have f19_b := V17_.other W19 (V17_.ne_ob f17_a.exa (C.w 12 rfl))
  refine k_aloadN (pc' := 52) C P19 d5_51 rfl rfl rfl ?_
  refine k_aload (pc' := 54) C P19 d5_52 rfl rfl rfl ?_
  refine k_putf (pc' := 57) (ty := (.array .byte)) (v' := (.ref b)) C P19 (C.w 38 rfl) Via.refl f19_a 1 rfl (Or.inr ⟨(C.w 39 rfl), rfl, rfl⟩) (C.w 12 rfl) (by decide) rfl rfl d5_54 ge_a sz_a rfl ?_
  intro T20 h20 P20 W20
  have f20_a : KOb Z h20 a "java/lang/String" layS [(.int (0 : Int32)), (.ref b)] := f19_a.put (lokS C.hw) 1 rfl W20 rfl
  have f20_ca := f19_ca.other W20 (f19_ca.ne_ob f19_a.exa (C.w 12 rfl))
  have f20_S_COMPACT_STRINGS := Sta.wr W20 f19_S_COMPACT_STRINGS
  have f20_b := f19_b.other W20 (f19_b.ne_ob f19_a.exa (C.w 12 rfl))
  exact k_retV C P20 d5_57 (by decide) (by decide) ⟨rfl, b, kb, f20_a, f20_b⟩
theorem ef_rmNew_2 (m : MethodId) (x0 : Addr) (x1 : Addr) : entryFrame m #[(.ref x0), (.ref x1)] 2 = mkF m 0 #[.val (.ref x0), .val (.ref x1)] [] := by first | (simp [entryFrame, mkF, argsToLocals, Value.category]; done) | rfl
set_option maxRecDepth 65536 in
set_option maxHeartbeats 40000000 in
theorem rmNew_2 (l : Launch) (Z : State) (a0 : Array Value) (hw : ∀ d ∈ tables_1, d.before a0 Z = true) (h0 : Heap) (n0 : Nat) (Z0 : n0 ≤ h0.size) (c0 c1 : Int32) (hc0_ : ¬ 255 < c0) (hc1_ : ¬ 255 < c1) (ca : Addr) (kc : ClassId) (VC : KVA Z h0 ca kc .char 2 (fun j => Value.int (if j = 0 then c0 else c1))) (a : Addr) (ge_a : n0 ≤ a) (F : KOb Z h0 a "java/lang/String" layS [.int 0, .null]) (cs : Int32) (hcs : ¬ cs = 0) (SC : Sta Z h0 "java/lang/String" "COMPACT_STRINGS" "Z" (.int cs)) :
    KCt false l (⟨"java/lang/String", "<init>", "([C)V"⟩ : MethodName) jdk_42_method_3_code 2 none ({ frames := 3, cells := 1, slots := 4, locals := 95 } : Room) Z n0 h0 #[(.ref a), (.ref ca)] [a] (fun v h => v = none ∧ ∃ (b : Addr) (kb : ClassId), KOb Z h a "java/lang/String" layS [.int 0, .ref b] ∧ KVA Z h b kb .byte 2 (fun j => Value.int (if j = 0 then c0.toInt8.toInt32 else c1.toInt8.toInt32))) := by
  refine k_enter (tbl := tables_1) (a0 := a0) (Ls := #[.val (.ref a), .val (.ref ca)]) (plainFor_of_name pn_4) hw Z0 (fun m => ef_rmNew_2 m a ca) ?_
  intro p e s m below meth c T C P
  have sz_a : a ∈ [a] ∨ h0.size ≤ a := Or.inl (by simp)
  refine k_aloadN (pc' := 1) C P d4_0 rfl rfl rfl ?_
  refine k_aloadN (pc' := 2) C P d4_1 rfl rfl rfl ?_
  refine k_iconst (z := (0 : Int32)) (pc' := 3) C P d4_2 rfl rfl ?_
  refine k_aloadN (pc' := 4) C P d4_3 rfl rfl rfl ?_
  refine k_arrlen (z := (2 : Int32)) (pc' := 5) C P VC d4_4 rfl rfl ?_
  refine k_aconstNull (pc' := 6) C P d4_5 rfl ?_
  refine k_callN (pc' := 9) (cells' := 1) (slots' := 4) (W := 0) C P rfl (C.w 17 rfl) (C.w 18 rfl) (C.w 20 rfl) (C.w 13 rfl) (by decide) (rmNI_2 l Z a0 hw _ n0 P.size c0 c1 hc0_ hc1_ ca kc VC a ge_a F cs hcs SC) a [(.ref ca), (.int (0 : Int32)), (.int (2 : Int32)), .null] [] rfl (lenOf pd_3 rfl) rfl (Nat.le_of_eq rfl) d4_6 rfl (by decide) (by decide) rfl rfl (by decide) (by decide) (allS sz_a all0) rfl ?_
  intro T21 h21 v21 P21 K21 Q21
  obtain ⟨rfl, b, kb, F21_, V21_⟩ := Q21
  have f21_ca := VC.keep K21 (ninS (VC.ne_ob F.exa (C.w 12 rfl)) nin0)
  have f21_S_COMPACT_STRINGS := k_staKeep SC K21 (k_nsS F.ns k_ns0)
  show KGo p e below _ T21 m 9 #[.val (.ref a), .val (.ref ca)] []
  exact k_retV C P21 d4_9 (by decide) (by decide) ⟨rfl, b, kb, F21_, V21_⟩
theorem pn_2 : plainName "com/example/grantline/grantline/policy/PrincipalEntryIsWildcardPinLaw" = true := by first | (simp [plainName, overriddenIn]; done) | decide +kernel
theorem ef_rmc1 (m : MethodId) (x0 : Int32) : entryFrame m #[(.int x0)] 1 = mkF m 0 #[.val (.int x0)] [] := by first | (simp [entryFrame, mkF, argsToLocals, Value.category]; done) | rfl
set_option maxRecDepth 65536 in
set_option maxHeartbeats 40000000 in
theorem rmc1 (l : Launch) (Z : State) (a0 : Array Value) (hw : ∀ d ∈ tables_1, d.before a0 Z = true) (h0 : Heap) (n0 : Nat) (Z0 : n0 ≤ h0.size) (x : Int32) :
    KCt false l (⟨"com/example/grantline/grantline/policy/PrincipalEntryIsWildcardPinLaw", "c1", "(I)C"⟩ : MethodName) method_2_code 1 (some .char) ({ frames := 0, cells := 0, slots := 0, locals := 0 } : Room) Z n0 h0 #[(.int x)] [] (fun v h => v = some (.int (own_c1 x)) ∧ h0 = h) := by
  refine k_enter (tbl := tables_1) (a0 := a0) (Ls := #[.val (.int x)]) (plainFor_of_name pn_2) hw Z0 (fun m => ef_rmc1 m x) ?_
  intro p e s m below meth c T C P
  refine k_iloadN (pc' := 1) C P d2_0 rfl rfl ?_
  refine k_iconst (z := (2 : Int32)) (pc' := 2) C P d2_1 rfl rfl ?_
  refine k_iushr (pc' := 3) C P d2_2 rfl ?_
  refine k_iconst (z := (1 : Int32)) (pc' := 4) C P d2_3 rfl rfl ?_
  refine k_iand (pc' := 5) C P d2_4 rfl ?_
  refine k_ifB (pcY := 11) (pcN := 8) C P d2_5 (by decide) (by decide) rfl ?_ ?_
  · intro (hc5 : ((k_ushr x (2 : Int32)) &&& (1 : Int32)) = (0 : Int32))
    refine k_iloadN (pc' := 12) C P d2_11 rfl rfl ?_
    refine k_iconst (z := (3 : Int32)) (pc' := 13) C P d2_12 rfl rfl ?_
    refine k_iushr (pc' := 14) C P d2_13 rfl ?_
    refine k_sipush (z := (255 : Int32)) (pc' := 17) C P d2_14 rfl rfl ?_
    refine k_iand (pc' := 18) C P d2_17 rfl ?_
    refine k_i2c (pc' := 19) C P d2_18 rfl ?_
    exact k_retZ (z' := (((k_ushr x (3 : Int32)) &&& (255 : Int32)).toUInt32.toUInt16.toUInt32.toInt32)) C P (by simp) d2_19 (own_ncc _) (by decide) (by decide) ⟨by rw [own_c1, if_pos hc5], rfl⟩
  · intro (hc5 : ¬ ((k_ushr x (2 : Int32)) &&& (1 : Int32)) = (0 : Int32))
    refine k_bipush (z := (42 : Int32)) (pc' := 10) C P d2_8 rfl rfl ?_
    exact k_retZ (z' := 42) C P (by simp) d2_10 rfl (by decide) (by decide) ⟨by rw [own_c1, if_neg hc5], rfl⟩
theorem pn_3 : plainName "com/example/grantline/grantline/policy/PrincipalEntryIsWildcardPinLaw" = true := by first | (simp [plainName, overriddenIn]; done) | decide +kernel
theorem ef_rmc2 (m : MethodId) (x0 : Int32) : entryFrame m #[(.int x0)] 1 = mkF m 0 #[.val (.int x0)] [] := by first | (simp [entryFrame, mkF, argsToLocals, Value.category]; done) | rfl
set_option maxRecDepth 65536 in
set_option maxHeartbeats 40000000 in
theorem rmc2 (l : Launch) (Z : State) (a0 : Array Value) (hw : ∀ d ∈ tables_1, d.before a0 Z = true) (h0 : Heap) (n0 : Nat) (Z0 : n0 ≤ h0.size) (x : Int32) :
    KCt false l (⟨"com/example/grantline/grantline/policy/PrincipalEntryIsWildcardPinLaw", "c2", "(I)C"⟩ : MethodName) method_3_code 1 (some .char) ({ frames := 0, cells := 0, slots := 0, locals := 0 } : Room) Z n0 h0 #[(.int x)] [] (fun v h => v = some (.int (own_c2 x)) ∧ h0 = h) := by
  refine k_enter (tbl := tables_1) (a0 := a0) (Ls := #[.val (.int x)]) (plainFor_of_name pn_3) hw Z0 (fun m => ef_rmc2 m x) ?_
  intro p e s m below meth c T C P
  refine k_iloadN (pc' := 1) C P d3_0 rfl rfl ?_
  refine k_bipush (z := (11 : Int32)) (pc' := 3) C P d3_1 rfl rfl ?_
  refine k_iushr (pc' := 4) C P d3_3 rfl ?_
  refine k_iconst (z := (1 : Int32)) (pc' := 5) C P d3_4 rfl rfl ?_
  refine k_iand (pc' := 6) C P d3_5 rfl ?_
  refine k_ifB (pcY := 12) (pcN := 9) C P d3_6 (by decide) (by decide) rfl ?_ ?_
  · intro (hc6 : ((k_ushr x (11 : Int32)) &&& (1 : Int32)) = (0 : Int32))
    refine k_iloadN (pc' := 13) C P d3_12 rfl rfl ?_
    refine k_bipush (z := (12 : Int32)) (pc' := 15) C P d3_13 rfl rfl ?_
    refine k_iushr (pc' := 16) C P d3_15 rfl ?_
    refine k_sipush (z := (255 : Int32)) (pc' := 19) C P d3_16 rfl rfl ?_
    refine k_iand (pc' := 20) C P d3_19 rfl ?_
    refine k_i2c (pc' := 21) C P d3_20 rfl ?_
    exact k_retZ (z' := (((k_ushr x (12 : Int32)) &&& (255 : Int32)).toUInt32.toUInt16.toUInt32.toInt32)) C P (by simp) d3_21 (own_ncc _) (by decide) (by decide) ⟨by rw [own_c2, if_pos hc6], rfl⟩
  · intro (hc6 : ¬ ((k_ushr x (11 : Int32)) &&& (1 : Int32)) = (0 : Int32))
    refine k_bipush (z := (42 : Int32)) (pc' := 11) C P d3_9 rfl rfl ?_
    exact k_retZ (z' := 42) C P (by simp) d3_11 rfl (by decide) (by decide) ⟨by rw [own_c2, if_neg hc6], rfl⟩
theorem pn_10 : plainName "com/example/grantline/grantline/policy/PrincipalEntryIsWildcardPinLaw" = true := by first | (simp [plainName, overriddenIn]; done) | decide +kernel
theorem ef_rmStar (m : MethodId) (x0 : Int32) : entryFrame m #[(.int x0)] 1 = mkF m 0 #[.val (.int x0)] [] := by first | (simp [entryFrame, mkF, argsToLocals, Value.category]; done) | rfl
set_option maxRecDepth 65536 in
set_option maxHeartbeats 40000000 in
theorem rmStar (l : Launch) (Z : State) (a0 : Array Value) (hw : ∀ d ∈ tables_1, d.before a0 Z = true) (h0 : Heap) (n0 : Nat) (Z0 : n0 ≤ h0.size) (x : Int32) :
    KCt false l (⟨"com/example/grantline/grantline/policy/PrincipalEntryIsWildcardPinLaw", "star", "(I)Z"⟩ : MethodName) method_5_code 1 (some .boolean) ({ frames := 1, cells := 0, slots := 0, locals := 14 } : Room) Z n0 h0 #[(.int x)] [] (fun v h => v = some (.int (if (x &&& (3 : Int32) = 2 ∧ own_c1 x = 42) then 1 else 0)) ∧ h0 = h) := by
  refine k_enter (tbl := tables_1) (a0 := a0) (Ls := #[.val (.int x)]) (plainFor_of_name pn_10) hw Z0 (fun m => ef_rmStar m x) ?_
  intro p e s m below meth c T C P
  refine k_iloadN (pc' := 1) C P d10_0 rfl rfl ?_
  refine k_iconst (z := (3 : Int32)) (pc' := 2) C P d10_1 rfl rfl ?_
  refine k_iand (pc' := 3) C P d10_2 rfl ?_
  refine k_iconst (z := (2 : Int32)) (pc' := 4) C P d10_3 rfl rfl ?_
  refine k_icB (pcY := 20) (pcN := 7) C P d10_4 (by decide) (by decide) rfl ?_ ?_
  · intro (hc4 : ¬ (x &&& (3 : Int32)) = (2 : Int32))
    refine k_iconst (z := (0 : Int32)) (pc' := 21) C P d10_20 rfl rfl ?_
    exact k_retZ (z' := (0 : Int32)) C P (by simp) d10_21 rfl (by decide) (by decide) ⟨by rw [if_neg (fun q => hc4 q.1)], rfl⟩
  · intro (hc4 : (x &&& (3 : Int32)) = (2 : Int32))
    refine k_iloadN (pc' := 8) C P d10_7 rfl rfl ?_
    refine k_callT (pc' := 11) (cells' := 0) (slots' := 0) (W := 0) C P (C.w 5 rfl) (C.w 6 rfl) (C.w 7 rfl) (C.w 2 rfl) (by decide) (rmc1 l Z a0 hw _ n0 P.size x) [(.int x)] [] rfl (lenOf pd_4 rfl) rfl (Nat.le_of_eq rfl) d10_8 rfl (by decide) (by decide) rfl rfl (by decide) (by decide) all0 rfl ?_
    intro T22 h22 v22 P22 K22 Q22
    obtain ⟨e22, g22⟩ := Q22
    subst g22
    subst e22
    show KGo p e below _ T22 m 11 #[.val (.int x)] [(.int (own_c1 x))]
    refine k_bipush (z := (42 : Int32)) (pc' := 13) C P22 d10_11 rfl rfl ?_
    refine k_icB (pcY := 20) (pcN := 16) C P22 d10_13 (by decide) (by decide) rfl ?_ ?_
    · intro (hc13 : ¬ (own_c1 x) = (42 : Int32))
      refine k_iconst (z := (0 : Int32)) (pc' := 21) C P22 d10_20 rfl rfl ?_
      exact k_retZ (z' := (0 : Int32)) C P22 (by simp) d10_21 rfl (by decide) (by decide) ⟨by rw [if_neg (fun q => hc13 q.2)], rfl⟩
    · intro (hc13 : (own_c1 x) = (42 : Int32))
      refine k_iconst (z := (1 : Int32)) (pc' := 17) C P22 d10_16 rfl rfl ?_
      refine k_goto (pc' := 21) C P22 d10_17 (by decide) (by decide) ?_
      exact k_retZ (z' := (1 : Int32)) C P22 (by simp) d10_21 rfl (by decide) (by decide) ⟨by rw [if_pos ⟨hc4, hc13⟩], rfl⟩
theorem pn_1 : plainName "com/example/grantline/grantline/policy/PrincipalEntryIsWildcardPinLaw" = true := by first | (simp [plainName, overriddenIn]; done) | decide +kernel
theorem ef_rmMk0 (m : MethodId) (x0 : Int32) : entryFrame m #[(.int x0)] 3 = mkF m 0 #[.val (.int x0), .unset, .unset] [] := by first | (simp [entryFrame, mkF, argsToLocals, Value.category]; done) | rfl
set_option maxRecDepth 65536 in
set_option maxHeartbeats 40000000 in
theorem rmMk0 (l : Launch) (Z : State) (a0 : Array Value) (hw : ∀ d ∈ tables_1, d.before a0 Z = true) (h0 : Heap) (n0 : Nat) (Z0 : n0 ≤ h0.size) (x : Int32) (hk : x &&& (3 : Int32) = 0) (cs : Int32) (hcs : ¬ cs = 0) (SC : Sta Z h0 "java/lang/String" "COMPACT_STRINGS" "Z" (.int cs)) :
    KCt false l (⟨"com/example/grantline/grantline/policy/PrincipalEntryIsWildcardPinLaw", "mk", "(I)Ljava/lang/String;"⟩ : MethodName) method_4_code 3 (some (.object "java/lang/String")) ({ frames := 5, cells := 4, slots := 40, locals := 120 } : Room) Z n0 h0 #[(.int x)] [] (fun v h => ∃ u : Value, v = some u ∧ u.isRef = true ∧ own_Str Z h u (x &&& (3 : Int32) = 2 ∧ own_c1 x = 42)) := by
  refine k_enter (tbl := tables_1) (a0 := a0) (Ls := #[.val (.int x), .unset, .unset]) (plainFor_of_name pn_1) hw Z0 (fun m => ef_rmMk0 m x) ?_
  intro p e s m below meth c T C P
  refine k_iloadN (pc' := 1) C P d1_0 rfl rfl ?_
  refine k_iconst (z := (3 : Int32)) (pc' := 2) C P d1_1 rfl rfl ?_
  refine k_iand (pc' := 3) C P d1_2 rfl ?_
  refine k_istoreN (l' := #[.val (.int x), .val (.int (x &&& (3 : Int32))), .unset]) (pc' := 4) C P d1_3 rfl rfl ?_
  refine k_iloadN (pc' := 5) C P d1_4 rfl rfl ?_
  refine k_ifN (pc' := 8) C P d1_5 (hk : (_ : Int32) = _) rfl ?_
  refine k_aconstNull (pc' := 9) C P d1_8 rfl ?_
  exact k_retA C P d1_9 rfl rfl (by decide) (by decide) ⟨_, rfl, rfl, Or.inl ⟨rfl, fun q => absurd (hk.symm.trans q.1) (by decide)⟩⟩
theorem ef_rmMk1 (m : MethodId) (x0 : Int32) : entryFrame m #[(.int x0)] 3 = mkF m 0 #[.val (.int x0), .unset, .unset] [] := by first | (simp [entryFrame, mkF, argsToLocals, Value.category]; done) | rfl
set_option maxRecDepth 65536 in
set_option maxHeartbeats 40000000 in
theorem rmMk1 (l : Launch) (Z : State) (a0 : Array Value) (hw : ∀ d ∈ tables_1, d.before a0 Z = true) (h0 : Heap) (n0 : Nat) (Z0 : n0 ≤ h0.size) (x : Int32) (hk : x &&& (3 : Int32) = 1) (cs : Int32) (hcs : ¬ cs = 0) (SC : Sta Z h0 "java/lang/String" "COMPACT_STRINGS" "Z" (.int cs)) :
    KCh consts_1 l (⟨"com/example/grantline/grantline/policy/PrincipalEntryIsWildcardPinLaw", "mk", "(I)Ljava/lang/String;"⟩ : MethodName) method_4_code 3 (some (.object "java/lang/String")) ({ frames := 5, cells := 4, slots := 40, locals := 120 } : Room) Z n0 h0 #[(.int x)] [] [] (fun v h => ∃ u : Value, v = some u ∧ u.isRef = true ∧ own_Str Z h u (x &&& (3 : Int32) = 2 ∧ own_c1 x = 42)) := by
  refine k_enterH (tbl := tables_1) (a0 := a0) (Ls := #[.val (.int x), .unset, .unset]) (plainFor_of_name pn_1) hw Z0 (fun m => ef_rmMk1 m x) ?_
  intro p e s m below meth c T C P HR SFs
  refine k_iloadN (pc' := 1) C P d1_0 rfl rfl ?_
  refine k_iconst (z := (3 : Int32)) (pc' := 2) C P d1_1 rfl rfl ?_
  refine k_iand (pc' := 3) C P d1_2 rfl ?_
  refine k_istoreN (l' := #[.val (.int x), .val (.int (x &&& (3 : Int32))), .unset]) (pc' := 4) C P d1_3 rfl rfl ?_
  refine k_iloadN (pc' := 5) C P d1_4 rfl rfl ?_
  refine k_ifY (pc' := 10) C P d1_5 (show ¬ (x &&& (3 : Int32)) = 0 from fun q => absurd (hk.symm.trans q) (by decide)) (by decide) (by decide) ?_
  refine k_iloadN (pc' := 11) C P d1_10 rfl rfl ?_
  refine k_iconst (z := (1 : Int32)) (pc' := 12) C P d1_11 rfl rfl ?_
  refine k_icN (pc' := 15) C P d1_12 (hk : (_ : Int32) = _) rfl ?_
  refine k_ldcH (EL := consts_1) (text := "") (N := 0) (f := (fun j => Value.int 0)) (pc' := 17) (n := 0) (cells' := 2) (slots' := 4) C P (own_EW C.hw) (by simp [consts_1]) HR.1 (C.w 77 rfl) (own_sa C.hw) d1_15 (by decide) (by decide) (by decide) (fun j hj => absurd hj (by omega)) (by decide) (by decide) rfl rfl (by decide) (by decide) rfl ?_
  intro s23 T23 h23 b23 y23 k23 P23 E23 X23 Fc23 Fv23 V23 R23 N23
  have f23_HR := CHr.trans HR R23
  have f23_S_COMPACT_STRINGS := Sta.ext E23 SC
  have f23_b23 : KOb Z h23 b23 "java/lang/String" layS [.int 0, .ref y23] := KOb.two X23 Fc23 Fv23
  exact k_retHA C P23 (own_EW C.hw) f23_HR d1_17 rfl rfl (by decide) (by decide) ⟨_, rfl, rfl, Or.inr ⟨b23, y23, _, 0, _, rfl, f23_b23, V23, fun q => absurd q.1 (by decide), fun q => absurd (hk.symm.trans q.1) (by decide)⟩⟩
theorem ef_rmMk2 (m : MethodId) (x0 : Int32) : entryFrame m #[(.int x0)] 3 = mkF m 0 #[.val (.int x0), .unset, .unset] [] := by first | (simp [entryFrame, mkF, argsToLocals, Value.category]; done) | rfl
set_option maxRecDepth 65536 in
set_option maxHeartbeats 40000000 in
theorem rmMk2 (l : Launch) (Z : State) (a0 : Array Value) (hw : ∀ d ∈ tables_1, d.before a0 Z = true) (h0 : Heap) (n0 : Nat) (Z0 : n0 ≤ h0.size) (x : Int32) (hk : x &&& (3 : Int32) = 2) (cs : Int32) (hcs : ¬ cs = 0) (SC : Sta Z h0 "java/lang/String" "COMPACT_STRINGS" "Z" (.int cs)) :
    KCt false l (⟨"com/example/grantline/grantline/policy/PrincipalEntryIsWildcardPinLaw", "mk", "(I)Ljava/lang/String;"⟩ : MethodName) method_4_code 3 (some (.object "java/lang/String")) ({ frames := 5, cells := 4, slots := 40, locals := 120 } : Room) Z n0 h0 #[(.int x)] [] (fun v h => ∃ u : Value, v = some u ∧ u.isRef = true ∧ own_Str Z h u (x &&& (3 : Int32) = 2 ∧ own_c1 x = 42)) := by
  refine k_enter (tbl := tables_1) (a0 := a0) (Ls := #[.val (.int x), .unset, .unset]) (plainFor_of_name pn_1) hw Z0 (fun m => ef_rmMk2 m x) ?_
  intro p e s m below meth c T C P
  refine k_iloadN (pc' := 1) C P d1_0 rfl rfl ?_
  refine k_iconst (z := (3 : Int32)) (pc' := 2) C P d1_1 rfl rfl ?_
  refine k_iand (pc' := 3) C P d1_2 rfl ?_
  refine k_istoreN (l' := #[.val (.int x), .val (.int (x &&& (3 : Int32))), .unset]) (pc' := 4) C P d1_3 rfl rfl ?_
  refine k_iloadN (pc' := 5) C P d1_4 rfl rfl ?_
  refine k_ifY (pc' := 10) C P d1_5 (show ¬ (x &&& (3 : Int32)) = 0 from fun q => absurd (hk.symm.trans q) (by decide)) (by decide) (by decide) ?_
  refine k_iloadN (pc' := 11) C P d1_10 rfl rfl ?_
  refine k_iconst (z := (1 : Int32)) (pc' := 12) C P d1_11 rfl rfl ?_
  refine k_icY (pc' := 18) C P d1_12 (show ¬ (x &&& (3 : Int32)) = 1 from fun q => absurd (hk.symm.trans q) (by decide)) (by decide) (by decide) ?_
  refine k_iloadN (pc' := 19) C P d1_18 rfl rfl ?_
  refine k_iconst (z := (2 : Int32)) (pc' := 20) C P d1_19 rfl rfl ?_
  refine k_icN (pc' := 23) C P d1_20 (hk : (_ : Int32) = _) rfl ?_
  refine k_iconst (z := (1 : Int32)) (pc' := 24) C P d1_23 rfl rfl ?_
  refine k_newp (pc' := 26) (cells' := 1) (slots' := 1) (N := 1) (cap := 1) C P (C.w 4 rfl) d1_24 rfl (by decide) (by decide) rfl rfl (by decide) (by decide) rfl ?_
  intro T24 h24 b24 k24 P24 hs24 ge_b24 sz_b24 E24 V24
  have f24_S_COMPACT_STRINGS := Sta.ext E24 SC
  refine k_astoreN (l' := #[.val (.int x), .val (.int (x &&& (3 : Int32))), .val (.ref b24)]) (pc' := 27) C P24 d1_26 rfl rfl rfl ?_
  refine k_aloadN (pc' := 28) C P24 d1_27 rfl rfl rfl ?_
  refine k_iconst (z := (0 : Int32)) (pc' := 29) C P24 d1_28 rfl rfl ?_
  refine k_iloadN (pc' := 30) C P24 d1_29 rfl rfl ?_
  refine k_callT (pc' := 33) (cells' := 1) (slots' := 1) (W := 2) C P24 (C.w 5 rfl) (C.w 6 rfl) (C.w 7 rfl) (C.w 2 rfl) (by decide) (rmc1 l Z a0 hw _ n0 P24.size x) [(.int x)] [(.int (0 : Int32)), (.ref b24)] rfl (lenOf pd_4 rfl) rfl (Nat.le_of_eq rfl) d1_30 rfl (by decide) (by decide) rfl rfl (by decide) (by decide) all0 rfl ?_
  intro T25 h25 v25 P25 K25 Q25
  obtain ⟨e25, g25⟩ := Q25
  subst g25
  subst e25
  show KGo p e below _ T25 m 33 #[.val (.int x), .val (.int (x &&& (3 : Int32))), .val (.ref b24)] [(.int (own_c1 x)), (.int (0 : Int32)), (.ref b24)]
  refine k_castore (J := 0) (g' := (fun j => Value.int ((own_c1 x)))) (pc' := 34) C P25 V24 d1_33 rfl (by decide) (fun i hi => by match i, hi with | 0, _ => exact congrArg Value.int (own_c1nar x)) ge_b24 (Or.inr sz_b24) rfl ?_
  intro T26 h26 P26 W26 V26
  have f26_S_COMPACT_STRINGS := Sta.wr W26 f24_S_COMPACT_STRINGS
  refine k_newo (pc' := 37) (cells' := 2) (slots' := 5) C P26 (C.w 11 rfl) (C.w 12 rfl) (C.w 13 rfl) d1_34 rfl rfl (by decide) (by decide) rfl ?_
  intro T27 h27 b27 P27 hs27 ge_b27 sz_b27 E27 A27 D27
  have ne_b24_b27 : b24 ≠ b27 := Nat.ne_of_lt (hs27 ▸ V26.lt)
  have f27_S_COMPACT_STRINGS := Sta.ext E27 f26_S_COMPACT_STRINGS
  have f27_b24 := V26.ext E27
  have f27_b27 : KOb Z h27 b27 "java/lang/String" layS [(.int (0 : Int32)), .null] := KOb.new A27 D27 (lokS C.hw) (by decide +kernel)
  refine k_dup (pc' := 38) C P27 d1_37 rfl rfl ?_
  refine k_aloadN (pc' := 39) C P27 d1_38 rfl rfl rfl ?_
  refine k_callN (pc' := 42) (cells' := 3) (slots' := 9) (W := 1) C P27 rfl (C.w 14 rfl) (C.w 15 rfl) (C.w 16 rfl) (C.w 13 rfl) (by decide) (rmNew_1 l Z a0 hw _ n0 P27.size (own_c1 x) (own_c1le x) b24 k24 f27_b24 b27 ge_b27 f27_b27 cs hcs f27_S_COMPACT_STRINGS) b27 [(.ref b24)] [(.ref b27)] rfl (lenOf pd_5 rfl) rfl (Nat.le_of_eq rfl) d1_39 rfl (by decide) (by decide) rfl rfl (by decide) (by decide) (allS (Or.inr sz_b27) all0) rfl ?_
  intro T28 h28 v28 P28 K28 Q28
  obtain ⟨rfl, bb, kb, F28_, V28_⟩ := Q28
  have f28_S_COMPACT_STRINGS := k_staKeep f27_S_COMPACT_STRINGS K28 (k_nsS f27_b27.ns k_ns0)
  have f28_b24 := f27_b24.keep K28 (ninS ne_b24_b27 nin0)
  show KGo p e below _ T28 m 42 #[.val (.int x), .val (.int (x &&& (3 : Int32))), .val (.ref b24)] [(.ref b27)]
  exact k_retA C P28 d1_42 rfl rfl (by decide) (by decide) ⟨_, rfl, rfl, Or.inr ⟨b27, bb, _, 1, _, rfl, F28_, V28_, fun q => ⟨hk, own_b42 (own_c1le x) (own_c1nn x) q.2⟩, fun q => ⟨rfl, by show (own_c1 x).toInt8.toInt32 = 42; rw [q.2]; rfl⟩⟩⟩
theorem ef_rmMk3 (m : MethodId) (x0 : Int32) : entryFrame m #[(.int x0)] 3 = mkF m 0 #[.val (.int x0), .unset, .unset] [] := by first | (simp [entryFrame, mkF, argsToLocals, Value.category]; done) | rfl
set_option maxRecDepth 65536 in
set_option maxHeartbeats 40000000 in
theorem rmMk3 (l : Launch) (Z : State) (a0 : Array Value) (hw : ∀ d ∈ tables_1, d.before a0 Z = true) (h0 : Heap) (n0 : Nat) (Z0 : n0 ≤ h0.size) (x : Int32) (hk0 : ¬ x &&& (3 : Int32) = 0) (hk1 : ¬ x &&& (3 : Int32) = 1) (hk2 : ¬ x &&& (3 : Int32) = 2) (cs : Int32) (hcs : ¬ cs = 0) (SC : Sta Z h0 "java/lang/String" "COMPACT_STRINGS" "Z" (.int cs)) :
    KCt false l (⟨"com/example/grantline/grantline/policy/PrincipalEntryIsWildcardPinLaw", "mk", "(I)Ljava/lang/String;"⟩ : MethodName) method_4_code 3 (some (.object "java/lang/String")) ({ frames := 5, cells := 4, slots := 40, locals := 120 } : Room) Z n0 h0 #[(.int x)] [] (fun v h => ∃ u : Value, v = some u ∧ u.isRef = true ∧ own_Str Z h u (x &&& (3 : Int32) = 2 ∧ own_c1 x = 42)) := by
  refine k_enter (tbl := tables_1) (a0 := a0) (Ls := #[.val (.int x), .unset, .unset]) (plainFor_of_name pn_1) hw Z0 (fun m => ef_rmMk3 m x) ?_
  intro p e s m below meth c T C P
  refine k_iloadN (pc' := 1) C P d1_0 rfl rfl ?_
  refine k_iconst (z := (3 : Int32)) (pc' := 2) C P d1_1 rfl rfl ?_
  refine k_iand (pc' := 3) C P d1_2 rfl ?_
  refine k_istoreN (l' := #[.val (.int x), .val (.int (x &&& (3 : Int32))), .unset]) (pc' := 4) C P d1_3 rfl rfl ?_
  refine k_iloadN (pc' := 5) C P d1_4 rfl rfl ?_
  refine k_ifY (pc' := 10) C P d1_5 hk0 (by decide) (by decide) ?_
  refine k_iloadN (pc' := 11) C P d1_10 rfl rfl ?_
  refine k_iconst (z := (1 : Int32)) (pc' := 12) C P d1_11 rfl rfl ?_
  refine k_icY (pc' := 18) C P d1_12 hk1 (by decide) (by decide) ?_
  refine k_iloadN (pc' := 19) C P d1_18 rfl rfl ?_
  refine k_iconst (z := (2 : Int32)) (pc' := 20) C P d1_19 rfl rfl ?_
  refine k_icY (pc' := 43) C P d1_20 hk2 (by decide) (by decide) ?_
  refine k_iconst (z := (2 : Int32)) (pc' := 44) C P d1_43 rfl rfl ?_
  refine k_newp (pc' := 46) (cells' := 1) (slots' := 2) (N := 2) (cap := 2) C P (C.w 4 rfl) d1_44 rfl (by decide) (by decide) rfl rfl (by decide) (by decide) rfl ?_
  intro T29 h29 b29 k29 P29 hs29 ge_b29 sz_b29 E29 V29
  have f29_S_COMPACT_STRINGS := Sta.ext E29 SC
  refine k_astoreN (l' := #[.val (.int x), .val (.int (x &&& (3 : Int32))), .val (.ref b29)]) (pc' := 47) C P29 d1_46 rfl rfl rfl ?_
  refine k_aloadN (pc' := 48) C P29 d1_47 rfl rfl rfl ?_
  refine k_iconst (z := (0 : Int32)) (pc' := 49) C P29 d1_48 rfl rfl ?_
  refine k_iloadN (pc' := 50) C P29 d1_49 rfl rfl ?_
  refine k_callT (pc' := 53) (cells' := 1) (slots' := 2) (W := 2) C P29 (C.w 5 rfl) (C.w 6 rfl) (C.w 7 rfl) (C.w 2 rfl) (by decide) (rmc1 l Z a0 hw _ n0 P29.size x) [(.int x)] [(.int (0 : Int32)), (.ref b29)] rfl (lenOf pd_4 rfl) rfl (Nat.le_of_eq rfl) d1_50 rfl (by decide) (by decide) rfl rfl (by decide) (by decide) all0 rfl ?_
  intro T30 h30 v30 P30 K30 Q30
  obtain ⟨e30, g30⟩ := Q30
  subst g30
  subst e30
  show KGo p e below _ T30 m 53 #[.val (.int x), .val (.int (x &&& (3 : Int32))), .val (.ref b29)] [(.int (own_c1 x)), (.int (0 : Int32)), (.ref b29)]
  refine k_castore (J := 0) (g' := (fun j => Value.int (if j = 0 then (own_c1 x) else 0))) (pc' := 54) C P30 V29 d1_53 rfl (by decide) (fun i hi => by match i, hi with | 0, _ => exact congrArg Value.int (own_c1nar x) | 1, _ => rfl) ge_b29 (Or.inr sz_b29) rfl ?_
  intro T31 h31 P31 W31 V31
  have f31_S_COMPACT_STRINGS := Sta.wr W31 f29_S_COMPACT_STRINGS
  refine k_aloadN (pc' := 55) C P31 d1_54 rfl rfl rfl ?_
  refine k_iconst (z := (1 : Int32)) (pc' := 56) C P31 d1_55 rfl rfl ?_
  refine k_iloadN (pc' := 57) C P31 d1_56 rfl rfl ?_
  refine k_callT (pc' := 60) (cells' := 1) (slots' := 2) (W := 2) C P31 (C.w 8 rfl) (C.w 9 rfl) (C.w 10 rfl) (C.w 2 rfl) (by decide) (rmc2 l Z a0 hw _ n0 P31.size x) [(.int x)] [(.int (1 : Int32)), (.ref b29)] rfl (lenOf pd_4 rfl) rfl (Nat.le_of_eq rfl) d1_57 rfl (by decide) (by decide) rfl rfl (by decide) (by decide) all0 rfl ?_
  intro T32 h32 v32 P32 K32 Q32
  obtain ⟨e32, g32⟩ := Q32
  subst g32
  subst e32
  show KGo p e below _ T32 m 60 #[.val (.int x), .val (.int (x &&& (3 : Int32))), .val (.ref b29)] [(.int (own_c2 x)), (.int (1 : Int32)), (.ref b29)]
  refine k_castore (J := 1) (g' := (fun j => Value.int (if j = 0 then (own_c1 x) else (own_c2 x)))) (pc' := 61) C P32 V31 d1_60 rfl (by decide) (fun i hi => by match i, hi with | 0, _ => rfl | 1, _ => exact congrArg Value.int (own_c2nar x)) ge_b29 (Or.inr sz_b29) rfl ?_
  intro T33 h33 P33 W33 V33
  have f33_S_COMPACT_STRINGS := Sta.wr W33 f31_S_COMPACT_STRINGS
  refine k_newo (pc' := 64) (cells' := 2) (slots' := 6) C P33 (C.w 11 rfl) (C.w 12 rfl) (C.w 13 rfl) d1_61 rfl rfl (by decide) (by decide) rfl ?_
  intro T34 h34 b34 P34 hs34 ge_b34 sz_b34 E34 A34 D34
  have ne_b29_b34 : b29 ≠ b34 := Nat.ne_of_lt (hs34 ▸ V33.lt)
  have f34_S_COMPACT_STRINGS := Sta.ext E34 f33_S_COMPACT_STRINGS
  have f34_b29 := V33.ext E34
  have f34_b34 : KOb Z h34 b34 "java/lang/String" layS [(.int (0 : Int32)), .null] := KOb.new A34 D34 (lokS C.hw) (by decide +kernel)
  refine k_dup (pc' := 65) C P34 d1_64 rfl rfl ?_
  refine k_aloadN (pc' := 66) C P34 d1_65 rfl rfl rfl ?_
  refine k_callN (pc' := 69) (cells' := 3) (slots' := 10) (W := 1) C P34 rfl (C.w 14 rfl) (C.w 15 rfl) (C.w 16 rfl) (C.w 13 rfl) (by decide) (rmNew_2 l Z a0 hw _ n0 P34.size (own_c1 x) (own_c2 x) (own_c1le x) (own_c2le x) b29 k29 f34_b29 b34 ge_b34 f34_b34 cs hcs f34_S_COMPACT_STRINGS) b34 [(.ref b29)] [(.ref b34)] rfl (lenOf pd_5 rfl) rfl (Nat.le_of_eq rfl) d1_66 rfl (by decide) (by decide) rfl rfl (by decide) (by decide) (allS (Or.inr sz_b34) all0) rfl ?_
  intro T35 h35 v35 P35 K35 Q35
  obtain ⟨rfl, bb, kb, F35_, V35_⟩ := Q35
  have f35_S_COMPACT_STRINGS := k_staKeep f34_S_COMPACT_STRINGS K35 (k_nsS f34_b34.ns k_ns0)
  have f35_b29 := f34_b29.keep K35 (ninS ne_b29_b34 nin0)
  show KGo p e below _ T35 m 69 #[.val (.int x), .val (.int (x &&& (3 : Int32))), .val (.ref b29)] [(.ref b34)]
  exact k_retA C P35 d1_69 rfl rfl (by decide) (by decide) ⟨_, rfl, rfl, Or.inr ⟨b34, bb, _, 2, _, rfl, F35_, V35_, fun q => absurd q.1 (by decide), fun q => absurd q.1 hk2⟩⟩
theorem own_mk (l : Launch) (Z : State) (a0 : Array Value) (hw : ∀ d ∈ tables_1, d.before a0 Z = true) (h0 : Heap) (n0 : Nat) (Z0 : n0 ≤ h0.size) (x : Int32) (cs : Int32) (hcs : ¬ cs = 0) (SC : Sta Z h0 "java/lang/String" "COMPACT_STRINGS" "Z" (.int cs)) :
    KCh consts_1 l (⟨"com/example/grantline/grantline/policy/PrincipalEntryIsWildcardPinLaw", "mk", "(I)Ljava/lang/String;"⟩ : MethodName) method_4_code 3 (some (.object "java/lang/String")) ({ frames := 5, cells := 4, slots := 40, locals := 120 } : Room) Z n0 h0 #[(.int x)] [] [] (fun v h => ∃ u : Value, v = some u ∧ u.isRef = true ∧ own_Str Z h u (x &&& (3 : Int32) = 2 ∧ own_c1 x = 42)) := by
  by_cases k0 : x &&& (3 : Int32) = 0
  · exact (rmMk0 l Z a0 hw h0 n0 Z0 x k0 cs hcs SC).held (own_EW hw)
  · by_cases k1 : x &&& (3 : Int32) = 1
    · exact rmMk1 l Z a0 hw h0 n0 Z0 x k1 cs hcs SC
    · by_cases k2 : x &&& (3 : Int32) = 2
      · exact (rmMk2 l Z a0 hw h0 n0 Z0 x k2 cs hcs SC).held (own_EW hw)
      · exact (rmMk3 l Z a0 hw h0 n0 Z0 x k0 k1 k2 cs hcs SC).held (own_EW hw)
theorem pn_15 : plainName "java/lang/StringLatin1" = true := by first | (simp [plainName, overriddenIn]; done) | decide +kernel
theorem ef_rmEqB (m : MethodId) (x0 : Addr) (x1 : Addr) : entryFrame m #[(.ref x0), (.ref x1)] 3 = mkF m 0 #[.val (.ref x0), .val (.ref x1), .unset] [] := by first | (simp [entryFrame, mkF, argsToLocals, Value.category]; done) | rfl
set_option maxRecDepth 65536 in
set_option maxHeartbeats 40000000 in
theorem rmEqB (l : Launch) (Z : State) (a0 : Array Value) (hw : ∀ d ∈ tables_1, d.before a0 Z = true) (h0 : Heap) (n0 : Nat) (Z0 : n0 ≤ h0.size) (b b1 : Addr) (kb k1 : ClassId) (N : Nat) (zN : Int32) (hzN : zN.toInt = (N : Int)) (f : Nat → Int32) (VB : KVA Z h0 b kb .byte 1 (fun _ => .int 42)) (V1 : KVA Z h0 b1 k1 .byte N (fun j => .int (f j))) :
    KCt false l (⟨"java/lang/StringLatin1", "equals", "([B[B)Z"⟩ : MethodName) jdk_43_method_13_code 3 (some .boolean) ({ frames := 0, cells := 0, slots := 0, locals := 0 } : Room) Z n0 h0 #[(.ref b), (.ref b1)] [] (fun v h => v = some (.int (if N = 1 ∧ f 0 = 42 then 1 else 0)) ∧ h0 = h) := by
  refine k_enter (tbl := tables_1) (a0 := a0) (Ls := #[.val (.ref b), .val (.ref b1), .unset]) (plainFor_of_name pn_15) hw Z0 (fun m => ef_rmEqB m b b1) ?_
  intro p e s m below meth c T C P
  refine k_aloadN (pc' := 1) C P d15_0 rfl rfl rfl ?_
  refine k_arrlen (z := (1 : Int32)) (pc' := 2) C P VB d15_1 rfl rfl ?_
  refine k_aloadN (pc' := 3) C P d15_2 rfl rfl rfl ?_
  refine k_arrlen (z := zN) (pc' := 4) C P V1 d15_3 hzN rfl ?_
  refine k_icB (pcY := 34) (pcN := 7) C P d15_4 (by decide) (by decide) rfl ?_ ?_
  · intro (hc4 : ¬ (1 : Int32) = zN)
    refine k_iconst (z := (0 : Int32)) (pc' := 35) C P d15_34 rfl rfl ?_
    exact k_retZ (z' := (0 : Int32)) C P (by simp) d15_35 rfl (by decide) (by decide) ⟨by rw [if_neg (fun q => hc4 ((OwnNum.eq_iff (show (1 : Int32).toInt = ((1 : Nat) : Int) from rfl) hzN).mpr q.1.symm))], rfl⟩
  · intro (hc4 : (1 : Int32) = zN)
    have hN1 : N = 1 := (OwnNum.eq_iff hzN (show (1 : Int32).toInt = ((1 : Nat) : Int) from rfl)).mp hc4.symm
    subst hN1
    refine k_iconst (z := (0 : Int32)) (pc' := 8) C P d15_7 rfl rfl ?_
    refine k_istoreN (l' := #[.val (.ref b), .val (.ref b1), .val (.int (0 : Int32))]) (pc' := 9) C P d15_8 rfl rfl ?_
    refine k_iloadN (pc' := 10) C P d15_9 rfl rfl ?_
    refine k_aloadN (pc' := 11) C P d15_10 rfl rfl rfl ?_
    refine k_arrlen (z := (1 : Int32)) (pc' := 12) C P VB d15_11 rfl rfl ?_
    refine k_icN (pc' := 15) C P d15_12 (show (0 : Int32) < 1 by decide) rfl ?_
    refine k_aloadN (pc' := 16) C P d15_15 rfl rfl rfl ?_
    refine k_iloadN (pc' := 17) C P d15_16 rfl rfl ?_
    refine k_baload (J := 0) (v := (.int (42 : Int32))) (pc' := 18) C P VB d15_17 rfl (by decide) rfl rfl ?_
    refine k_aloadN (pc' := 19) C P d15_18 rfl rfl rfl ?_
    refine k_iloadN (pc' := 20) C P d15_19 rfl rfl ?_
    refine k_baload (J := 0) (v := (.int (f 0))) (pc' := 21) C P V1 d15_20 rfl (by decide) rfl rfl ?_
    refine k_icB (pcY := 26) (pcN := 24) C P d15_21 (by decide) (by decide) rfl ?_ ?_
    · intro (hc21 : (42 : Int32) = (f 0))
      refine k_iinc (z := (1 : Int32)) (l' := #[.val (.ref b), .val (.ref b1), .val (.int (1 : Int32))]) (pc' := 29) C P d15_26 rfl rfl rfl rfl ?_
      refine k_goto (pc' := 9) C P d15_29 (by decide) (by decide) ?_
      refine k_iloadN (pc' := 10) C P d15_9 rfl rfl ?_
      refine k_aloadN (pc' := 11) C P d15_10 rfl rfl rfl ?_
      refine k_arrlen (z := (1 : Int32)) (pc' := 12) C P VB d15_11 rfl rfl ?_
      refine k_icY (pc' := 32) C P d15_12 (show ¬ (1 : Int32) < 1 by decide) (by decide) (by decide) ?_
      refine k_iconst (z := (1 : Int32)) (pc' := 33) C P d15_32 rfl rfl ?_
      exact k_retZ (z' := (1 : Int32)) C P (by simp) d15_33 rfl (by decide) (by decide) ⟨by rw [if_pos ⟨rfl, hc21.symm⟩], rfl⟩
    · intro (hc21 : ¬ (42 : Int32) = (f 0))
      refine k_iconst (z := (0 : Int32)) (pc' := 25) C P d15_24 rfl rfl ?_
      exact k_retZ (z' := (0 : Int32)) C P (by simp) d15_25 rfl (by decide) (by decide) ⟨by rw [if_neg (fun q => hc21 q.2.symm)], rfl⟩
theorem pn_14 : plainName "java/lang/String" = true := by first | (simp [plainName, overriddenIn]; done) | decide +kernel
theorem ef_rmQ0 (m : MethodId) (x0 : Addr) : entryFrame m #[(.ref x0), .null] 3 = mkF m 0 #[.val (.ref x0), .val .null, .unset] [] := by first | (simp [entryFrame, mkF, argsToLocals, Value.category]; done) | rfl
set_option maxRecDepth 65536 in
set_option maxHeartbeats 40000000 in
theorem rmQ0 (l : Launch) (Z : State) (a0 : Array Value) (hw : ∀ d ∈ tables_1, d.before a0 Z = true) (h0 : Heap) (n0 : Nat) (Z0 : n0 ≤ h0.size) (a b : Addr) (kb : ClassId) (FA : KOb Z h0 a "java/lang/String" layS [.int 0, .ref b]) (VB : KVA Z h0 b kb .byte 1 (fun _ => .int 42)) (cs : Int32) (hcs : ¬ cs = 0) (SC : Sta Z h0 "java/lang/String" "COMPACT_STRINGS" "Z" (.int cs)) :
    KCt false l (⟨"java/lang/String", "equals", "(Ljava/lang/Object;)Z"⟩ : MethodName) jdk_42_method_66_code 3 (some .boolean) ({ frames := 1, cells := 0, slots := 0, locals := 16 } : Room) Z n0 h0 #[(.ref a), .null] [] (fun v h => v = some (.int 0) ∧ h0 = h) := by
  refine k_enter (tbl := tables_1) (a0 := a0) (Ls := #[.val (.ref a), .val .null, .unset]) (plainFor_of_name pn_14) hw Z0 (fun m => ef_rmQ0 m a) ?_
  intro p e s m below meth c T C P
  refine k_aloadN (pc' := 1) C P d14_0 rfl rfl rfl ?_
  refine k_aloadN (pc' := 2) C P d14_1 rfl rfl rfl ?_
  refine k_acB (pcY := 7) (pcN := 5) C P d14_2 rfl rfl (by decide) (by decide) rfl ?_ ?_
  · intro hc2
    refine k_aloadN (pc' := 8) C P d14_7 rfl rfl rfl ?_
    refine k_instNull (pc' := 11) C P d14_8 rfl ?_
    refine k_ifY (pc' := 54) C P d14_11 k_01 (by decide) (by decide) ?_
    refine k_iconst (z := (0 : Int32)) (pc' := 55) C P d14_54 rfl rfl ?_
    exact k_retZ (z' := (0 : Int32)) C P (by simp) d14_55 rfl (by decide) (by decide) ⟨rfl, rfl⟩
  · intro hc2
    exact absurd (own_nacne hc2) nofun
theorem ef_rmQ1 (m : MethodId) (x0 : Addr) (x1 : Addr) : entryFrame m #[(.ref x0), (.ref x1)] 3 = mkF m 0 #[.val (.ref x0), .val (.ref x1), .unset] [] := by first | (simp [entryFrame, mkF, argsToLocals, Value.category]; done) | rfl
set_option maxRecDepth 65536 in
set_option maxHeartbeats 40000000 in
theorem rmQ1 (l : Launch) (Z : State) (a0 : Array Value) (hw : ∀ d ∈ tables_1, d.before a0 Z = true) (h0 : Heap) (n0 : Nat) (Z0 : n0 ≤ h0.size) (a b : Addr) (kb : ClassId) (FA : KOb Z h0 a "java/lang/String" layS [.int 0, .ref b]) (VB : KVA Z h0 b kb .byte 1 (fun _ => .int 42)) (a1 b1 : Addr) (k1 : ClassId) (N : Nat) (f : Nat → Int32) (F1 : KOb Z h0 a1 "java/lang/String" layS [.int 0, .ref b1]) (V1 : KVA Z h0 b1 k1 .byte N (fun j => .int (f j))) (cs : Int32) (hcs : ¬ cs = 0) (SC : Sta Z h0 "java/lang/String" "COMPACT_STRINGS" "Z" (.int cs)) :
    KCt false l (⟨"java/lang/String", "equals", "(Ljava/lang/Object;)Z"⟩ : MethodName) jdk_42_method_66_code 3 (some .boolean) ({ frames := 1, cells := 0, slots := 0, locals := 16 } : Room) Z n0 h0 #[(.ref a), (.ref a1)] [] (fun v h => v = some (.int (if N = 1 ∧ f 0 = 42 then 1 else 0)) ∧ h0 = h) := by
  obtain ⟨zN, hzN⟩ := own_len V1
  refine k_enter (tbl := tables_1) (a0 := a0) (Ls := #[.val (.ref a), .val (.ref a1), .unset]) (plainFor_of_name pn_14) hw Z0 (fun m => ef_rmQ1 m a a1) ?_
  intro p e s m below meth c T C P
  refine k_aloadN (pc' := 1) C P d14_0 rfl rfl rfl ?_
  refine k_aloadN (pc' := 2) C P d14_1 rfl rfl rfl ?_
  refine k_acB (pcY := 7) (pcN := 5) C P d14_2 rfl rfl (by decide) (by decide) rfl ?_ ?_
  · intro hc2
    refine k_aloadN (pc' := 8) C P d14_7 rfl rfl rfl ?_
    refine k_instY (pc' := 11) C P (C.w 72 rfl) (Ins.self F1.exa) d14_8 rfl ?_
    intro T37 P37
    refine k_ifN (pc' := 14) C P37 d14_11 k_10 rfl ?_
    refine k_aloadN (pc' := 15) C P37 d14_14 rfl rfl rfl ?_
    refine k_castO (pc' := 18) C P37 (C.w 72 rfl) (Ins.self F1.exa) d14_15 rfl ?_
    intro T38 P38
    refine k_astoreN (l' := #[.val (.ref a), .val (.ref a1), .val (.ref a1)]) (pc' := 19) C P38 d14_18 rfl rfl rfl ?_
    refine k_gets (pc' := 22) C P38 (C.w 24 rfl) Via.refl SC d14_19 rfl ?_
    intro T39 P39
    refine k_ifN (pc' := 25) C P39 d14_22 hcs rfl ?_
    refine k_aloadN (pc' := 26) C P39 d14_25 rfl rfl rfl ?_
    refine k_getf (pc' := 29) C P39 (C.w 36 rfl) Via.refl FA 0 rfl rfl d14_26 rfl ?_
    intro T40 P40
    refine k_aloadN (pc' := 30) C P40 d14_29 rfl rfl rfl ?_
    refine k_getf (pc' := 33) C P40 (C.w 36 rfl) Via.refl F1 0 rfl rfl d14_30 rfl ?_
    intro T41 P41
    refine k_icN (pc' := 36) C P41 d14_33 (rfl : (0 : Int32) = 0) rfl ?_
    refine k_aloadN (pc' := 37) C P41 d14_36 rfl rfl rfl ?_
    refine k_getf (pc' := 40) C P41 (C.w 38 rfl) Via.refl FA 1 rfl rfl d14_37 rfl ?_
    intro T42 P42
    refine k_aloadN (pc' := 41) C P42 d14_40 rfl rfl rfl ?_
    refine k_getf (pc' := 44) C P42 (C.w 38 rfl) Via.refl F1 1 rfl rfl d14_41 rfl ?_
    intro T43 P43
    refine k_callT (pc' := 47) (cells' := 0) (slots' := 0) (W := 0) C P43 (C.w 73 rfl) (C.w 74 rfl) (C.w 76 rfl) (C.w 75 rfl) (by decide) (rmEqB l Z a0 hw _ n0 P43.size b b1 kb k1 N zN hzN f VB V1) [(.ref b), (.ref b1)] [] rfl (lenOf pd_6 rfl) rfl (Nat.le_of_eq rfl) d14_44 rfl (by decide) (by decide) rfl rfl (by decide) (by decide) all0 rfl ?_
    intro T44 h44 v44 P44 K44 Q44
    obtain ⟨e44, g44⟩ := Q44
    subst g44
    subst e44
    show KGo p e below _ T44 m 47 #[.val (.ref a), .val (.ref a1), .val (.ref a1)] [(.int (if N = 1 ∧ f 0 = 42 then (1 : Int32) else 0))]
    refine k_ifB (pcY := 54) (pcN := 50) C P44 d14_47 (by decide) (by decide) rfl ?_ ?_
    · intro (hc47 : (if N = 1 ∧ f 0 = 42 then (1 : Int32) else 0) = (0 : Int32))
      refine k_iconst (z := (0 : Int32)) (pc' := 55) C P44 d14_54 rfl rfl ?_
      exact k_retZ (z' := (0 : Int32)) C P44 (by simp) d14_55 rfl (by decide) (by decide) ⟨by rw [if_neg (own_i0 hc47)], rfl⟩
    · intro (hc47 : ¬ (if N = 1 ∧ f 0 = 42 then (1 : Int32) else 0) = (0 : Int32))
      refine k_iconst (z := (1 : Int32)) (pc' := 51) C P44 d14_50 rfl rfl ?_
      refine k_goto (pc' := 55) C P44 d14_51 (by decide) (by decide) ?_
      exact k_retZ (z' := (1 : Int32)) C P44 (by simp) d14_55 rfl (by decide) (by decide) ⟨by rw [if_pos (own_i1 hc47)], rfl⟩
  · intro hc2
    refine k_iconst (z := (1 : Int32)) (pc' := 6) C P d14_5 rfl rfl ?_
    exact k_retZ (z' := (1 : Int32)) C P (by simp) d14_6 rfl (by decide) (by decide) ⟨by rw [if_pos (own_same FA VB F1 V1 (own_nacne hc2))], rfl⟩
theorem own_eq (l : Launch) (Z : State) (a0 : Array Value) (hw : ∀ d ∈ tables_1, d.before a0 Z = true) (h0 : Heap) (n0 : Nat) (Z0 : n0 ≤ h0.size) (a b : Addr) (kb : ClassId) (FA : KOb Z h0 a "java/lang/String" layS [.int 0, .ref b]) (VB : KVA Z h0 b kb .byte 1 (fun _ => .int 42)) (cs : Int32) (hcs : ¬ cs = 0) (SC : Sta Z h0 "java/lang/String" "COMPACT_STRINGS" "Z" (.int cs)) (u : Value) (B : Prop) [Decidable B] (SU : own_Str Z h0 u B) :
    KCt false l (⟨"java/lang/String", "equals", "(Ljava/lang/Object;)Z"⟩ : MethodName) jdk_42_method_66_code 3 (some .boolean) ({ frames := 1, cells := 0, slots := 0, locals := 16 } : Room) Z n0 h0 #[(.ref a), u] [] (fun v h => v = some (.int (if B then 1 else 0)) ∧ h0 = h) := by
  rcases SU with ⟨rfl, nB⟩ | ⟨a1, b1, k1, N, f, rfl, F1, V1, hB⟩
  · rw [if_neg nB]; exact rmQ0 l Z a0 hw h0 n0 Z0 a b kb FA VB cs hcs SC
  · have q := rmQ1 l Z a0 hw h0 n0 Z0 a b kb FA VB a1 b1 k1 N f F1 V1 cs hcs SC
    refine q.imp (fun v h hq => ⟨hq.1.trans ?_, hq.2⟩)
    by_cases p : B
    · rw [if_pos (hB.mpr p), if_pos p]
    · rw [if_neg (fun z => p (hB.mp z)), if_neg p]
theorem pn_12 : plainName "java/lang/Record" = true := by first | (simp [plainName, overriddenIn]; done) | decide +kernel
theorem ef_rmR (m : MethodId) (x0 : Addr) : entryFrame m #[(.ref x0)] 1 = mkF m 0 #[.val (.ref x0)] [] := by first | (simp [entryFrame, mkF, argsToLocals, Value.category]; done) | rfl
set_option maxRecDepth 65536 in
set_option maxHeartbeats 40000000 in
theorem rmR (l : Launch) (Z : State) (a0 : Array Value) (hw : ∀ d ∈ tables_1, d.before a0 Z = true) (h0 : Heap) (n0 : Nat) (Z0 : n0 ≤ h0.size) (a : Addr) :
    KCt false l (⟨"java/lang/Record", "<init>", "()V"⟩ : MethodName) jdk_30_method_1_code 1 none ({ frames := 1, cells := 0, slots := 0, locals := 13 } : Room) Z n0 h0 #[(.ref a)] [] (fun v h => v = none ∧ h0 = h) := by
  refine k_enter (tbl := tables_1) (a0 := a0) (Ls := #[.val (.ref a)]) (plainFor_of_name pn_12) hw Z0 (fun m => ef_rmR m a) ?_
  intro p e s m below meth c T C P
  refine k_aloadN (pc' := 1) C P d12_0 rfl rfl rfl ?_
  refine k_initObj (pc' := 4) (W := 0) C P (C.w 54 rfl) (C.w 22 rfl) (C.w 23 rfl) d12_1 rfl (by decide) (by decide) (by decide) rfl ?_
  intro T45 P45
  exact k_retV C P45 d12_4 (by decide) (by decide) ⟨rfl, rfl⟩
theorem pn_11 : plainName "com/example/grantline/grantline/policy/PrincipalEntry" = true := by first | (simp [plainName, overriddenIn]; done) | decide +kernel
theorem ef_rmPI (m : MethodId) (x0 : Addr) (x1 : Value) (x2 : Value) (q1 : x1.isRef = true) (q2 : x2.isRef = true) : entryFrame m #[(.ref x0), x1, x2] 3 = mkF m 0 #[.val (.ref x0), .val x1, .val x2] [] := by
  rcases ref_cases q1 with rfl | ⟨_, rfl⟩ <;>
  rcases ref_cases q2 with rfl | ⟨_, rfl⟩ <;>
  first | (simp [entryFrame, mkF, argsToLocals, Value.category]; done) | rfl
set_option maxRecDepth 65536 in
set_option maxHeartbeats 40000000 in
theorem rmPI (l : Launch) (Z : State) (a0 : Array Value) (hw : ∀ d ∈ tables_1, d.before a0 Z = true) (h0 : Heap) (n0 : Nat) (Z0 : n0 ≤ h0.size) (a : Addr) (u1 u2 : Value) (hu1 : u1.isRef = true) (hu2 : u2.isRef = true) (ge_a : n0 ≤ a) (F : KOb Z h0 a "com/example/grantline/grantline/policy/PrincipalEntry" layP [.null, .null]) :
    KCt false l (⟨"com/example/grantline/grantline/policy/PrincipalEntry", "<init>", "(Ljava/lang/String;Ljava/lang/String;)V"⟩ : MethodName) prog_48_method_1_code 3 none ({ frames := 2, cells := 0, slots := 0, locals := 30 } : Room) Z n0 h0 #[(.ref a), u1, u2] [a] (fun v h => v = none ∧ KOb Z h a "com/example/grantline/grantline/policy/PrincipalEntry" layP [u1, u2]) := by
  refine k_enter (tbl := tables_1) (a0 := a0) (Ls := #[.val (.ref a), .val u1, .val u2]) (plainFor_of_name pn_11) hw Z0 (fun m => ef_rmPI m a u1 u2 hu1 hu2) ?_
  intro p e s m below meth c T C P
  have sz_a : a ∈ [a] ∨ h0.size ≤ a := Or.inl (by simp)
  refine k_aloadN (pc' := 1) C P d11_0 rfl rfl rfl ?_
  refine k_callN (pc' := 4) (cells' := 0) (slots' := 0) (W := 0) C P rfl (C.w 49 rfl) (C.w 50 rfl) (C.w 53 rfl) (C.w 52 rfl) (by decide) (rmR l Z a0 hw _ n0 P.size a) a [] [] rfl (lenOf pd_7 rfl) rfl (Nat.le_of_eq rfl) d11_1 rfl (by decide) (by decide) rfl rfl (by decide) (by decide) all0 rfl ?_
  intro T46 h46 v46 P46 K46 Q46
  obtain ⟨e46, g46⟩ := Q46
  subst g46
  subst e46
  show KGo p e below _ T46 m 4 #[.val (.ref a), .val u1, .val u2] []
  refine k_aloadN (pc' := 5) C P46 d11_4 rfl rfl rfl ?_
  refine k_aloadN (pc' := 6) C P46 d11_5 rfl hu1 rfl ?_
  refine k_putf (pc' := 9) (ty := (.object "java/lang/String")) (v' := u1) C P46 (C.w 55 rfl) Via.refl F 0 rfl (Or.inr ⟨(C.w 56 rfl), rfl, rfl⟩) (C.w 44 rfl) (by decide) (k_narrow_ref hu1) (k_fits_ref rfl hu1) d11_6 ge_a sz_a rfl ?_
  intro T47 h47 P47 W47
  have f47_a : KOb Z h47 a "com/example/grantline/grantline/policy/PrincipalEntry" layP [u1, .null] := F.put (lokP C.hw) 0 rfl W47 rfl
  refine k_aloadN (pc' := 10) C P47 d11_9 rfl rfl rfl ?_
  refine k_aloadN (pc' := 11) C P47 d11_10 rfl hu2 rfl ?_
  refine k_putf (pc' := 14) (ty := (.object "java/lang/String")) (v' := u2) C P47 (C.w 57 rfl) Via.refl f47_a 1 rfl (Or.inr ⟨(C.w 58 rfl), rfl, rfl⟩) (C.w 44 rfl) (by decide) (k_narrow_ref hu2) (k_fits_ref rfl hu2) d11_11 ge_a sz_a rfl ?_
  intro T48 h48 P48 W48
  have f48_a : KOb Z h48 a "com/example/grantline/grantline/policy/PrincipalEntry" layP [u1, u2] := f47_a.put (lokP C.hw) 1 rfl W48 rfl
  exact k_retV C P48 d11_14 (by decide) (by decide) ⟨rfl, f48_a⟩
theorem pn_13 : plainName "com/example/grantline/grantline/policy/PrincipalEntry" = true := by first | (simp [plainName, overriddenIn]; done) | decide +kernel
theorem ef_rmW (m : MethodId) (x0 : Addr) : entryFrame m #[(.ref x0)] 1 = mkF m 0 #[.val (.ref x0)] [] := by first | (simp [entryFrame, mkF, argsToLocals, Value.category]; done) | rfl
set_option maxRecDepth 65536 in
set_option maxHeartbeats 40000000 in
theorem rmW (l : Launch) (Z : State) (a0 : Array Value) (hw : ∀ d ∈ tables_1, d.before a0 Z = true) (h0 : Heap) (n0 : Nat) (Z0 : n0 ≤ h0.size) (a : Addr) (u1 u2 : Value) (hu1 : u1.isRef = true) (hu2 : u2.isRef = true) (B1 B2 : Prop) [Decidable B1] [Decidable B2] (F : KOb Z h0 a "com/example/grantline/grantline/policy/PrincipalEntry" layP [u1, u2]) (S1 : own_Str Z h0 u1 B1) (S2 : own_Str Z h0 u2 B2) (cs : Int32) (hcs : ¬ cs = 0) (SC : Sta Z h0 "java/lang/String" "COMPACT_STRINGS" "Z" (.int cs)) :
    KCh consts_1 l (⟨"com/example/grantline/grantline/policy/PrincipalEntry", "isWildcard", "()Z"⟩ : MethodName) prog_48_method_2_code 1 (some .boolean) ({ frames := 3, cells := 4, slots := 16, locals := 40 } : Room) Z n0 h0 #[(.ref a)] [] [] (fun v h => v = some (.int (if B1 ∨ B2 then 1 else 0))) := by
  refine k_enterH (tbl := tables_1) (a0 := a0) (Ls := #[.val (.ref a)]) (plainFor_of_name pn_13) hw Z0 (fun m => ef_rmW m a) ?_
  intro p e s m below meth c T C P HR SFs
  refine k_ldcH (EL := consts_1) (text := "*") (N := 1) (f := (fun j => Value.int 42)) (pc' := 2) (n := 4) (cells' := 2) (slots' := 8) C P (own_EW C.hw) (by simp [consts_1]) HR.1 (C.w 64 rfl) (own_sa C.hw) d13_0 (by decide) (by decide) (by decide) (fun j hj => by match j, hj with | 0, _ => rfl) (by decide) (by decide) rfl rfl (by decide) (by decide) rfl ?_
  intro s49 T49 h49 b49 y49 k49 P49 E49 X49 Fc49 Fv49 V49 R49 N49
  have f49_HR := CHr.trans HR R49
  have f49_a := F.ext E49
  have f49_S_COMPACT_STRINGS := Sta.ext E49 SC
  have f49_ST1 := S1.ext E49
  have f49_ST2 := S2.ext E49
  have f49_b49 : KOb Z h49 b49 "java/lang/String" layS [.int 0, .ref y49] := KOb.two X49 Fc49 Fv49
  refine k_aloadN (pc' := 3) C P49 d13_2 rfl rfl rfl ?_
  refine k_getf (pc' := 6) C P49 (C.w 55 rfl) Via.refl f49_a 0 rfl rfl d13_3 rfl ?_
  intro T50 P50
  refine k_callV (pc' := 9) (cells' := 2) (slots' := 8) (W := 0) C P50 (C.w 67 rfl) (C.w 68 rfl) (fun _ q => notFace_of_selects (args := #[]) (mvT q (C.w 70 rfl))) (C.w 70 rfl) (C.w 69 rfl) (C.w 71 rfl) (C.w 13 rfl) (by decide) (own_eq l Z a0 hw _ n0 P50.size b49 y49 k49 f49_b49 V49 cs hcs f49_S_COMPACT_STRINGS u1 B1 f49_ST1) f49_b49.exa [u1] [] rfl (lenOf pd_8 rfl) rfl (Nat.le_of_eq rfl) d13_6 rfl (by decide) (by decide) rfl rfl (by decide) (by decide) all0 rfl ?_
  intro T51 h51 v51 P51 K51 Q51
  obtain ⟨e51, g51⟩ := Q51
  subst g51
  subst e51
  show KGo p e below _ T51 m 9 #[.val (.ref a)] [(.int (if B1 then (1 : Int32) else 0))]
  refine k_ifB (pcY := 24) (pcN := 12) C P51 d13_9 (by decide) (by decide) rfl ?_ ?_
  · intro (hc9 : ¬ (if B1 then (1 : Int32) else 0) = (0 : Int32))
    refine k_iconst (z := (1 : Int32)) (pc' := 25) C P51 d13_24 rfl rfl ?_
    refine k_goto (pc' := 29) C P51 d13_25 (by decide) (by decide) ?_
    exact k_retHZ (z' := (1 : Int32)) C P51 (own_EW C.hw) f49_HR (by simp) d13_29 rfl (by decide) (by decide) (by rw [if_pos (Or.inl (own_i1 hc9))])
  · intro (hc9 : (if B1 then (1 : Int32) else 0) = (0 : Int32))
    refine k_ldcH (EL := consts_1) (text := "*") (N := 1) (f := (fun j => Value.int 42)) (pc' := 14) (n := 4) (cells' := 4) (slots' := 16) C P51 (own_EW C.hw) (by simp [consts_1]) f49_HR.1 (C.w 64 rfl) (own_sa C.hw) d13_12 (by decide) (by decide) (by decide) (fun j hj => by match j, hj with | 0, _ => rfl) (by decide) (by decide) rfl rfl (by decide) (by decide) rfl ?_
    intro s52 T52 h52 b52 y52 k52 P52 E52 X52 Fc52 Fv52 V52 R52 N52
    have f52_HR := CHr.trans f49_HR R52
    have f52_a := f49_a.ext E52
    have f52_S_COMPACT_STRINGS := Sta.ext E52 f49_S_COMPACT_STRINGS
    have f52_ST1 := f49_ST1.ext E52
    have f52_ST2 := f49_ST2.ext E52
    have f52_b49 := f49_b49.ext E52
    have f52_y49 := V49.ext E52
    have f52_b52 : KOb Z h52 b52 "java/lang/String" layS [.int 0, .ref y52] := KOb.two X52 Fc52 Fv52
    refine k_aloadN (pc' := 15) C P52 d13_14 rfl rfl rfl ?_
    refine k_getf (pc' := 18) C P52 (C.w 57 rfl) Via.refl f52_a 1 rfl rfl d13_15 rfl ?_
    intro T53 P53
    refine k_callV (pc' := 21) (cells' := 4) (slots' := 16) (W := 0) C P53 (C.w 67 rfl) (C.w 68 rfl) (fun _ q => notFace_of_selects (args := #[]) (mvT q (C.w 70 rfl))) (C.w 70 rfl) (C.w 69 rfl) (C.w 71 rfl) (C.w 13 rfl) (by decide) (own_eq l Z a0 hw _ n0 P53.size b52 y52 k52 f52_b52 V52 cs hcs f52_S_COMPACT_STRINGS u2 B2 f52_ST2) f52_b52.exa [u2] [] rfl (lenOf pd_8 rfl) rfl (Nat.le_of_eq rfl) d13_18 rfl (by decide) (by decide) rfl rfl (by decide) (by decide) all0 rfl ?_
    intro T54 h54 v54 P54 K54 Q54
    obtain ⟨e54, g54⟩ := Q54
    subst g54
    subst e54
    show KGo p e below _ T54 m 21 #[.val (.ref a)] [(.int (if B2 then (1 : Int32) else 0))]
    refine k_ifB (pcY := 28) (pcN := 24) C P54 d13_21 (by decide) (by decide) rfl ?_ ?_
    · intro (hc21 : (if B2 then (1 : Int32) else 0) = (0 : Int32))
      refine k_iconst (z := (0 : Int32)) (pc' := 29) C P54 d13_28 rfl rfl ?_
      exact k_retHZ (z' := (0 : Int32)) C P54 (own_EW C.hw) f52_HR (by simp) d13_29 rfl (by decide) (by decide) (by rw [if_neg (fun q => q.elim (own_i0 hc9) (own_i0 hc21))])
    · intro (hc21 : ¬ (if B2 then (1 : Int32) else 0) = (0 : Int32))
      refine k_iconst (z := (1 : Int32)) (pc' := 25) C P54 d13_24 rfl rfl ?_
      refine k_goto (pc' := 29) C P54 d13_25 (by decide) (by decide) ?_
      exact k_retHZ (z' := (1 : Int32)) C P54 (own_EW C.hw) f52_HR (by simp) d13_29 rfl (by decide) (by decide) (by rw [if_pos (Or.inr (own_i1 hc21))])
theorem pn_0 : plainName "com/example/grantline/grantline/policy/PrincipalEntryIsWildcardPinLaw" = true := by first | (simp [plainName, overriddenIn]; done) | decide +kernel
theorem ef_rm0 (m : MethodId) (x0 : Int32) (x1 : Int32) : entryFrame m #[(.int x0), (.int x1)] maxLocals = mkF m 0 #[.val (.int x0), .val (.int x1), .unset, .unset, .unset, .unset] [] := by first | (simp [entryFrame, mkF, argsToLocals, Value.category, maxLocals]; done) | rfl
set_option maxRecDepth 65536 in
set_option maxHeartbeats 40000000 in
theorem rm0 (l : Launch) (Z : State) (a0 : Array Value) (hw : ∀ d ∈ tables_1, d.before a0 Z = true) (h0 : Heap) (n0 : Nat) (Z0 : n0 ≤ h0.size) (p0 p1 : Int32) (cs : Int32) (hcs : ¬ cs = 0) (SC : Sta Z h0 "java/lang/String" "COMPACT_STRINGS" "Z" (.int cs)) :
    KCh consts_1 l x code maxLocals ret room_1 Z n0 h0 #[(.int p0), (.int p1)] [] [] (fun v h => v = some (.int 1)) := by
  refine k_enterH (tbl := tables_1) (a0 := a0) (Ls := #[.val (.int p0), .val (.int p1), .unset, .unset, .unset, .unset]) (plainFor_of_name pn_0) hw Z0 (fun m => ef_rm0 m p0 p1) ?_
  intro p e s m below meth c T C P HR SFs
  refine k_iloadN (pc' := 1) C P at_0 rfl rfl ?_
  refine k_callTH (pc' := 4) (cells' := 4) (slots' := 40) (W := 0) C P (C.w 0 rfl) (C.w 1 rfl) (C.w 3 rfl) (C.w 2 rfl) (by decide) (own_mk l Z a0 hw _ n0 P.size p0 cs hcs (SC.ext (k_ext_of_keep P.kept))) (own_EW C.hw) HR.1 (fun _ q => nomatch q) [(.int p0)] [] rfl (lenOf pd_9 rfl) rfl (Nat.le_of_eq rfl) at_1 rfl (by decide) (by decide) rfl rfl (by decide) (by decide) all0 rfl ?_
  intro s55 T55 h55 v55 P55 K55 R55 Q55
  obtain ⟨u1, rfl, hu1, S55_⟩ := Q55
  have f55_HR := CHr.trans HR R55
  show KGo p e below _ T55 m 4 #[.val (.int p0), .val (.int p1), .unset, .unset, .unset, .unset] [u1]
  refine k_astoreN (l' := #[.val (.int p0), .val (.int p1), .val u1, .unset, .unset, .unset]) (pc' := 5) C P55 at_4 hu1 (XS.store1 (o := .unset) rfl (Or.inl rfl) (k_cat_ref hu1)) rfl ?_
  refine k_iloadN (pc' := 6) C P55 at_5 rfl rfl ?_
  refine k_callTH (pc' := 9) (cells' := 8) (slots' := 80) (W := 0) C P55 (C.w 0 rfl) (C.w 1 rfl) (C.w 3 rfl) (C.w 2 rfl) (by decide) (own_mk l Z a0 hw _ n0 P55.size p1 cs hcs (SC.ext (k_ext_of_keep P55.kept))) (own_EW C.hw) f55_HR.1 (fun _ q => nomatch q) [(.int p1)] [] rfl (lenOf pd_9 rfl) rfl (Nat.le_of_eq rfl) at_6 rfl (by decide) (by decide) rfl rfl (by decide) (by decide) all0 rfl ?_
  intro s56 T56 h56 v56 P56 K56 R56 Q56
  obtain ⟨u2, rfl, hu2, S56_⟩ := Q56
  have f56_HR := CHr.trans f55_HR R56
  have f56_ST1 := S55_.ext (k_ext_of_keep K56)
  show KGo p e below _ T56 m 9 #[.val (.int p0), .val (.int p1), .val u1, .unset, .unset, .unset] [u2]
  refine k_astoreN (l' := #[.val (.int p0), .val (.int p1), .val u1, .val u2, .unset, .unset]) (pc' := 10) C P56 at_9 hu2 (XS.store1 (o := .unset) rfl (Or.inl rfl) (k_cat_ref hu2)) rfl ?_
  refine k_join (pc' := 29) (Ls' := #[.val (.int p0), .val (.int p1), .val u1, .val u2, .unset, .unset]) (st' := [(.int (if (p0 &&& (3 : Int32) = 2 ∧ own_c1 p0 = 42) ∨ (p1 &&& (3 : Int32) = 2 ∧ own_c1 p1 = 42) then (1 : Int32) else 0))]) P56 ?_ ?_
  · intro hj57
    refine k_iloadN (pc' := 11) C P56 at_10 rfl rfl ?_
    refine k_callT (pc' := 14) (cells' := 8) (slots' := 80) (W := 0) C P56 (C.w 40 rfl) (C.w 41 rfl) (C.w 42 rfl) (C.w 2 rfl) (by decide) (rmStar l Z a0 hw _ n0 P56.size p0) [(.int p0)] [] rfl (lenOf pd_10 rfl) rfl (Nat.le_of_eq rfl) at_11 rfl (by decide) (by decide) rfl rfl (by decide) (by decide) all0 rfl ?_
    intro T58 h58 v58 P58 K58 Q58
    obtain ⟨e58, g58⟩ := Q58
    subst g58
    subst e58
    show KGo p e below _ T58 m 14 #[.val (.int p0), .val (.int p1), .val u1, .val u2, .unset, .unset] [(.int (if (p0 &&& (3 : Int32) = 2 ∧ own_c1 p0 = 42) then (1 : Int32) else 0))]
    refine k_ifB (pcY := 24) (pcN := 17) C P58 at_14 (by decide) (by decide) rfl ?_ ?_
    · intro (hc14 : ¬ (if (p0 &&& (3 : Int32) = 2 ∧ own_c1 p0 = 42) then (1 : Int32) else 0) = (0 : Int32))
      refine k_iconst (z := (1 : Int32)) (pc' := 25) C P58 at_24 rfl rfl ?_
      refine k_goto (pc' := 29) C P58 at_25 (by decide) (by decide) ?_
      exact (hj57 _ P58).cast rfl (by rw [if_pos (Or.inl (own_i1 hc14))])
    · intro (hc14 : (if (p0 &&& (3 : Int32) = 2 ∧ own_c1 p0 = 42) then (1 : Int32) else 0) = (0 : Int32))
      refine k_iloadN (pc' := 18) C P58 at_17 rfl rfl ?_
      refine k_callT (pc' := 21) (cells' := 8) (slots' := 80) (W := 0) C P58 (C.w 40 rfl) (C.w 41 rfl) (C.w 42 rfl) (C.w 2 rfl) (by decide) (rmStar l Z a0 hw _ n0 P58.size p1) [(.int p1)] [] rfl (lenOf pd_10 rfl) rfl (Nat.le_of_eq rfl) at_18 rfl (by decide) (by decide) rfl rfl (by decide) (by decide) all0 rfl ?_
      intro T59 h59 v59 P59 K59 Q59
      obtain ⟨e59, g59⟩ := Q59
      subst g59
      subst e59
      show KGo p e below _ T59 m 21 #[.val (.int p0), .val (.int p1), .val u1, .val u2, .unset, .unset] [(.int (if (p1 &&& (3 : Int32) = 2 ∧ own_c1 p1 = 42) then (1 : Int32) else 0))]
      refine k_ifB (pcY := 28) (pcN := 24) C P59 at_21 (by decide) (by decide) rfl ?_ ?_
      · intro (hc21 : (if (p1 &&& (3 : Int32) = 2 ∧ own_c1 p1 = 42) then (1 : Int32) else 0) = (0 : Int32))
        refine k_iconst (z := (0 : Int32)) (pc' := 29) C P59 at_28 rfl rfl ?_
        exact (hj57 _ P59).cast rfl (by rw [if_neg (fun q => q.elim (own_i0 hc14) (own_i0 hc21))])
      · intro (hc21 : ¬ (if (p1 &&& (3 : Int32) = 2 ∧ own_c1 p1 = 42) then (1 : Int32) else 0) = (0 : Int32))
        refine k_iconst (z := (1 : Int32)) (pc' := 25) C P59 at_24 rfl rfl ?_
        refine k_goto (pc' := 29) C P59 at_25 (by decide) (by decide) ?_
        exact (hj57 _ P59).cast rfl (by rw [if_pos (Or.inr (own_i1 hc21))])
  intro T57 P57
  refine k_istore (l' := #[.val (.int p0), .val (.int p1), .val u1, .val u2, .val (.int (if (p0 &&& (3 : Int32) = 2 ∧ own_c1 p0 = 42) ∨ (p1 &&& (3 : Int32) = 2 ∧ own_c1 p1 = 42) then (1 : Int32) else 0)), .unset]) (pc' := 31) C P57 at_29 rfl rfl ?_
  refine k_newo (pc' := 34) (cells' := 9) (slots' := 82) C P57 (C.w 43 rfl) (C.w 44 rfl) (C.w 45 rfl) at_31 rfl rfl (by decide) (by decide) rfl ?_
  intro T60 h60 b60 P60 hs60 ge_b60 sz_b60 E60 A60 D60
  have f60_HR := CHr.trans f56_HR (CHr.ext E60 f56_HR.1)
  have f60_ST1 := f56_ST1.ext E60
  have f60_ST2 := S56_.ext E60
  have f60_b60 : KOb Z h60 b60 "com/example/grantline/grantline/policy/PrincipalEntry" layP [.null, .null] := KOb.new A60 D60 (lokP C.hw) (by decide +kernel)
  refine k_dup (pc' := 35) C P60 at_34 rfl rfl ?_
  refine k_aloadN (pc' := 36) C P60 at_35 rfl hu1 rfl ?_
  refine k_aloadN (pc' := 37) C P60 at_36 rfl hu2 rfl ?_
  refine k_callN (pc' := 40) (cells' := 9) (slots' := 82) (W := 1) C P60 rfl (C.w 46 rfl) (C.w 47 rfl) (C.w 48 rfl) (C.w 45 rfl) (by decide) (rmPI l Z a0 hw _ n0 P60.size b60 u1 u2 hu1 hu2 ge_b60 f60_b60) b60 [u1, u2] [(.ref b60)] rfl (lenOf pd_11 rfl) rfl (Nat.le_of_eq rfl) at_37 rfl (by decide) (by decide) rfl rfl (by decide) (by decide) (allS (Or.inr sz_b60) all0) rfl ?_
  intro T61 h61 v61 P61 K61 Q61
  obtain ⟨rfl, F61⟩ := Q61
  have f61_HR := CHr.trans f60_HR (CHr.keep K61 (List.forall_mem_cons.mpr ⟨(Safe.exa P60.alike f60_b60.exa (by decide) (by decide)), (fun _ q => nomatch q)⟩) f60_HR.1)
  have f61_ST1 := own_strK f60_ST1 K61 f60_b60.exa (C.w 44 rfl)
  have f61_ST2 := own_strK f60_ST2 K61 f60_b60.exa (C.w 44 rfl)
  show KGo p e below _ T61 m 40 #[.val (.int p0), .val (.int p1), .val u1, .val u2, .val (.int (if (p0 &&& (3 : Int32) = 2 ∧ own_c1 p0 = 42) ∨ (p1 &&& (3 : Int32) = 2 ∧ own_c1 p1 = 42) then (1 : Int32) else 0)), .unset] [(.ref b60)]
  refine k_astore (l' := #[.val (.int p0), .val (.int p1), .val u1, .val u2, .val (.int (if (p0 &&& (3 : Int32) = 2 ∧ own_c1 p0 = 42) ∨ (p1 &&& (3 : Int32) = 2 ∧ own_c1 p1 = 42) then (1 : Int32) else 0)), .val (.ref b60)]) (pc' := 42) C P61 at_40 rfl rfl rfl ?_
  refine k_aload (pc' := 44) C P61 at_42 rfl rfl rfl ?_
  refine k_callVH (pc' := 47) (cells' := 13) (slots' := 98) (W := 0) C P61 (C.w 59 rfl) (C.w 60 rfl) (fun _ q => notFace_of_selects (args := #[]) (mvT q (C.w 62 rfl))) (C.w 62 rfl) (C.w 61 rfl) (C.w 63 rfl) (C.w 45 rfl) (by decide) (rmW l Z a0 hw _ n0 P61.size b60 u1 u2 hu1 hu2 (p0 &&& (3 : Int32) = 2 ∧ own_c1 p0 = 42) (p1 &&& (3 : Int32) = 2 ∧ own_c1 p1 = 42) F61 f61_ST1 f61_ST2 cs hcs (SC.ext (k_ext_of_keep P61.kept))) (own_EW C.hw) f61_HR.1 (fun _ q => nomatch q) F61.exa [] [] rfl (lenOf pd_12 rfl) rfl (Nat.le_of_eq rfl) at_44 rfl (by decide) (by decide) rfl rfl (by decide) (by decide) all0 rfl ?_
  intro s62 T62 h62 v62 P62 K62 R62 Q62
  obtain rfl := Q62
  have f62_HR := CHr.trans f61_HR R62
  have f62_ST1 := f61_ST1.ext (k_ext_of_keep K62)
  have f62_ST2 := f61_ST2.ext (k_ext_of_keep K62)
  have f62_b60 := F61.keep K62 nin0
  show KGo p e below _ T62 m 47 #[.val (.int p0), .val (.int p1), .val u1, .val u2, .val (.int (if (p0 &&& (3 : Int32) = 2 ∧ own_c1 p0 = 42) ∨ (p1 &&& (3 : Int32) = 2 ∧ own_c1 p1 = 42) then (1 : Int32) else 0)), .val (.ref b60)] [(.int (if (p0 &&& (3 : Int32) = 2 ∧ own_c1 p0 = 42) ∨ (p1 &&& (3 : Int32) = 2 ∧ own_c1 p1 = 42) then (1 : Int32) else 0))]
  refine k_iload (pc' := 49) C P62 at_47 rfl rfl ?_
  refine k_icN (pc' := 52) C P62 at_49 (rfl : (_ : Int32) = _) rfl ?_
  refine k_iconst (z := (1 : Int32)) (pc' := 53) C P62 at_52 rfl rfl ?_
  refine k_goto (pc' := 57) C P62 at_53 (by decide) (by decide) ?_
  exact k_retHZ (z' := (1 : Int32)) C P62 (own_EW C.hw) f62_HR (by simp) at_57 rfl (by decide) (by decide) rfl
set_option maxRecDepth 65536 in
set_option maxHeartbeats 40000000 in
theorem comes_1 {Post : Tables → Env → Array Value → State → Outcome → State → Prop} (hpost : ∀ tb e args s v u, (limb_1_1.after args s (.returned v) u = true ∧ limb_1_2.after args s (.returned v) u = true ∧ True) → ReturnedEndW s (.returned v) u (Jvm.fieldLocs frame_1_writes args s ++ Jvm.arrayLocs frame_1_arrays args s ++ Jvm.staticLocs frame_1_statics s) 32 2176 → Post tb e args s (.returned v) u) :
    ArmFor flags0 classFile x code maxLocals ret World_1 tables_1 room_1 Calls_1 rest_1 Pre_1 Post := by
  intro l hfl _ _ p e ha hc hk s m args below hf hA hF happ hP
  obtain ⟨hcalls, hrest, hpre⟩ := hP
  obtain ⟨-, -, -, hnamed, -, -, -, hat⟩ := (Spec.applies_iff hf).mp happ
  obtain ⟨hg, hn⟩ := and_e (Cond.before_iff.mp (show (Jvm.Cond.and given_1 narrow_1).before args s = true from hpre))
  obtain ⟨g0, g1⟩ := and_e hg
  obtain ⟨a0, g2⟩ := and_e g1
  have a1 := g2
  obtain ⟨w0, w1, rfl⟩ : ∃ w0 w1 : Value, args = #[w0, w1] := by
    have hs : args.size = 2 := by simpa [Cond.value, given_1] using g0
    obtain ⟨L⟩ := args
    match L, hs with
    | [w0, w1], _ => exact ⟨w0, w1, rfl⟩
  have hw := fun d (hd : d ∈ tables_1) => atoms_spec (ws := Jvm.Cond.code x code maxLocals ret :: tables_1) hat d (List.mem_cons_of_mem _ hd)
  have hfit : Fit s := fun {y c} hc i hi => by
    obtain ⟨ha, rfl⟩ := Array.getElem?_eq_some_iff.mp hc
    have q := List.all_eq_true.mp ((Array.all_eq_true_iff_forall_mem.mp hF) _ (Array.getElem_mem ha)) i (List.mem_range.mpr hi)
    simpa [Array.getElem?_eq_getElem hi] using q
  obtain ⟨hsets, hown0⟩ := atoms_of _ (rest_1_c_eq ▸ (show rest_1_c.before _ s = true from hrest))
  have hr0 := Cond.before_iff.mp hown0
  obtain ⟨i0, ei0⟩ := is_v a0
  obtain rfl : w0 = (.int i0) := Option.some.inj ei0
  obtain ⟨i1, ei1⟩ := is_v a1
  obtain rfl : w1 = (.int i1) := Option.some.inj ei1
  obtain ⟨cs, hcs, SC⟩ := own_cs (show ∀ d ∈ jdkStatics_1, d.before _ s = true from hsets)
  obtain ⟨n, o, h1, h2, h3, _, L, rfl, ⟨N, _, rfl⟩, -, hq0⟩ := (rm0 l s _ hw s.heap s.heap.size (Nat.le_refl _) i0 i1 cs hcs SC) tables_1 p e ha hc hk s m _ below hf ((Spec.applies_iff_loose hf).mp happ).1 ⟨rfl, State.Warmed39.refl s, rfl, CHv.start (own_EW hw) (fun p hp => hcalls.1 p hp) ((show ∀ d ∈ jdkStatics_1, d.before _ s = true from hsets) _ (List.mem_of_getElem? (i := 2) rfl)) (hw _ (List.mem_of_getElem? (i := 29) rfl)) (hw _ (List.mem_of_getElem? (i := 12) rfl)), fun _ q => nomatch q⟩ trivial
  have hq : ReturnedEndW _ _ _ _ _ _ := hq0
  refine ⟨n, _, h1, h2, h3, hpost _ _ _ _ _ _ ⟨Cond.after_iff.mpr rfl, Cond.after_iff.mpr (eq_i res_at (Term.int_eval (1)) rfl), trivial⟩ ⟨hq.1, hq.2.1, hq.2.2.1, (hq.2.2.2.sift fun y hy => Or.inr (N y hy)).mono (by decide) (by decide)⟩⟩
theorem main_1_1 : Claimed_1_1 := comes_1 fun _ _ _ _ _ _ h hF => ⟨h.1, hF⟩
theorem main_1_2 : Claimed_1_2 := comes_1 fun _ _ _ _ _ _ h hF => ⟨h.2.1, hF⟩
end Jvm.Pilot.@@N@@
namespace Jvm.Pilot.@@N@@
open Jvm Jvm.ClassFile Sem Op Lib Jvm.Free Jvm.Stand Jvm.Pilot.@@N@@.Jvm.D
/-! MADE BY PROGRAM (witnessworld.py) out of the Statement's table words and the real class files: 21 classes; the members and pool entries that the words name. The judged class is class 1, her method 5. -/
namespace start1
open Jvm.ClassFile
def u (s : String) : CpInfo := .utf8 (stringToUtf16 s)
/-- a pool by its gaps: so many unusable entries, then the entry; so many at the end -/
def gap : Nat → List CpInfo → List CpInfo
  | 0, r => r
  | n + 1, r => .unusable :: gap n r
def poolList (es : List (Nat × CpInfo)) (last : Nat) : List CpInfo := es.foldr (fun e r => gap e.1 (e.2 :: r)) (gap last [])
def pool (es : List (Nat × CpInfo)) (last : Nat) : Array CpInfo := ⟨poolList es last⟩
def fileOf (pool : Array CpInfo) (this : Nat) (attrs : Array Attribute := #[]) (ms : Array MethodInfo := #[]) (fl : Nat := 33) (sup : Nat := 0) (ifs : Array Nat := #[]) (fds : Array FieldInfo := #[]) : ClassFile where
  minorVersion := 0
  majorVersion := 65
  constantPool := pool
  accessFlags := fl
  thisClass := this
  superClass := sup
  interfaces := ifs
  fields := fds
  methods := ms
  attributes := attrs
def plain (name : String) (sup : Option ClassId) : Class where
  name := name
  kind := .ordinary
  loader := none
  accessFlags := 33
  super := sup
  interfaces := #[]
  cf := none
  fields := #[]
  methods := #[]
  instanceTypes := #[]
  staticTypes := #[]
  resolved := #[]
  callSites := []
  init := .initialized
  statics := none
  mirror := none

def pool0 : Array CpInfo := pool [(5, u "<init>"), (0, u "()V"), (1, .class_ 10), (1, u "java/lang/Object")] 113

def k0c0 : Code := { maxStack := 0, maxLocals := 1, code := object_method_1_code, exceptionTable := #[], attributes := #[] }
def k0m0 : Method := { name := "<init>", desc := "()V", sig := { parameters := [], returnType := none }, accessFlags := 1, code := some k0c0 }
/-- java/lang/Object -/
def k0 : Class := { plain "java/lang/Object" none with
  accessFlags := 33
  interfaces := #[]
  cf := some (fileOf pool0 8 #[] #[{ accessFlags := 1, nameIndex := 5, descriptorIndex := 6, attributes := #[] }] 33 0 #[] #[])
  fields := #[]
  methods := #[k0m0]
  instanceTypes := #[]
  staticTypes := #[]
  resolved := Array.replicate 124 none
  statics := none }

def pool1 : Array CpInfo := pool [(2, .class_ 4), (1, u "java/lang/Object"), (0, u "<init>"), (0, u "()V"), (0, .string 8), (0, u ""), (0, .methodref 10 11), (0, .class_ 12), (0, .nameAndType 13 14), (0, u "com/example/grantline/grantline/policy/PrincipalEntryIsWildcardPinLaw"), (0, u "c1"), (0, u "(I)C"), (0, .class_ 16), (0, u "java/lang/String"), (0, .methodref 15 18), (0, .nameAndType 5 19), (0, u "([C)V"), (0, .methodref 10 21), (0, .nameAndType 22 14), (0, u "c2"), (0, .methodref 10 24), (0, .nameAndType 25 26), (0, u "mk"), (0, u "(I)Ljava/lang/String;"), (0, .methodref 10 28), (0, .nameAndType 29 30), (0, u "star"), (0, u "(I)Z"), (0, .class_ 32), (0, u "com/example/grantline/grantline/policy/PrincipalEntry"), (0, .methodref 31 34), (0, .nameAndType 5 35), (0, u "(Ljava/lang/String;Ljava/lang/String;)V"), (0, .methodref 31 37), (0, .nameAndType 38 39), (0, u "isWildcard"), (0, u "()Z"), (3, u "law"), (0, u "(II)Z")] 2

def k1m0 : Method := { name := "<init>", desc := "()V", sig := { parameters := [], returnType := none }, accessFlags := 1, code := none }
def k1c1 : Code := { maxStack := 2, maxLocals := 1, code := method_2_code, exceptionTable := #[], attributes := #[] }
def k1m1 : Method := { name := "c1", desc := "(I)C", sig := { parameters := [.int], returnType := some .char }, accessFlags := 10, code := some k1c1 }
def k1c2 : Code := { maxStack := 2, maxLocals := 1, code := method_3_code, exceptionTable := #[], attributes := #[] }
def k1m2 : Method := { name := "c2", desc := "(I)C", sig := { parameters := [.int], returnType := some .char }, accessFlags := 10, code := some k1c2 }
def k1c3 : Code := { maxStack := 3, maxLocals := 3, code := method_4_code, exceptionTable := #[], attributes := #[] }
def k1m3 : Method := { name := "mk", desc := "(I)Ljava/lang/String;", sig := { parameters := [.int], returnType := some (.object "java/lang/String") }, accessFlags := 10, code := some k1c3 }
def k1c4 : Code := { maxStack := 2, maxLocals := 1, code := method_5_code, exceptionTable := #[], attributes := #[] }
def k1m4 : Method := { name := "star", desc := "(I)Z", sig := { parameters := [.int], returnType := some .boolean }, accessFlags := 10, code := some k1c4 }
def k1c5 : Code := { maxStack := 4, maxLocals := 6, code := code, exceptionTable := #[], attributes := #[] }
def k1m5 : Method := { name := "law", desc := "(II)Z", sig := { parameters := [.int, .int], returnType := some .boolean }, accessFlags := 9, code := some k1c5 }
/-- com/example/grantline/grantline/policy/PrincipalEntryIsWildcardPinLaw -/
def k1 : Class := { plain "com/example/grantline/grantline/policy/PrincipalEntryIsWildcardPinLaw" (some 0) with
  accessFlags := 49
  interfaces := #[]
  cf := some (fileOf pool1 10 #[] #[{ accessFlags := 1, nameIndex := 5, descriptorIndex := 6, attributes := #[] }, { accessFlags := 10, nameIndex := 13, descriptorIndex := 14, attributes := #[] }, { accessFlags := 10, nameIndex := 22, descriptorIndex := 14, attributes := #[] }, { accessFlags := 10, nameIndex := 25, descriptorIndex := 26, attributes := #[] }, { accessFlags := 10, nameIndex := 29, descriptorIndex := 30, attributes := #[] }, { accessFlags := 9, nameIndex := 43, descriptorIndex := 44, attributes := #[] }] 49 2 #[] #[])
  fields := #[]
  methods := #[k1m0, k1m1, k1m2, k1m3, k1m4, k1m5]
  instanceTypes := #[]
  staticTypes := #[]
  resolved := Array.replicate 47 none
  statics := none }

def pool2 : Array CpInfo := pool [(1, .class_ 2), (0, u "java/io/Serializable"), (0, .class_ 4), (0, u "java/lang/Object")] 2

/-- java/io/Serializable -/
def k2 : Class := { plain "java/io/Serializable" (some 0) with
  accessFlags := 1537
  interfaces := #[]
  cf := some (fileOf pool2 1 #[] #[] 1537 3 #[] #[])
  fields := #[]
  methods := #[]
  instanceTypes := #[]
  staticTypes := #[]
  resolved := Array.replicate 7 none
  statics := none }

def pool3 : Array CpInfo := pool [(1, .class_ 2), (0, u "java/lang/Comparable"), (0, .class_ 4), (0, u "java/lang/Object")] 7

/-- java/lang/Comparable -/
def k3 : Class := { plain "java/lang/Comparable" (some 0) with
  accessFlags := 1537
  interfaces := #[]
  cf := some (fileOf pool3 1 #[] #[] 1537 3 #[] #[])
  fields := #[]
  methods := #[]
  instanceTypes := #[]
  staticTypes := #[]
  resolved := Array.replicate 12 none
  statics := none }

def pool4 : Array CpInfo := pool [(2, .class_ 4), (1, u "java/lang/CharSequence"), (42, .class_ 48), (0, u "java/lang/CharSequence$1CodePointIterator"), (10, .class_ 60), (0, u "java/lang/CharSequence$1CharIterator"), (5, .class_ 67), (0, u "java/lang/Object")] 63

/-- java/lang/CharSequence -/
def k4 : Class := { plain "java/lang/CharSequence" (some 0) with
  accessFlags := 1537
  interfaces := #[]
  cf := some (fileOf pool4 2 #[.nestMembers #[47, 59]] #[] 1537 66 #[] #[])
  fields := #[]
  methods := #[]
  instanceTypes := #[]
  staticTypes := #[]
  resolved := Array.replicate 131 none
  statics := none }

def pool5 : Array CpInfo := pool [(1, .class_ 2), (0, u "java/lang/constant/Constable"), (0, .class_ 4), (0, u "java/lang/Object")] 6

/-- java/lang/constant/Constable -/
def k5 : Class := { plain "java/lang/constant/Constable" (some 0) with
  accessFlags := 1537
  interfaces := #[]
  cf := some (fileOf pool5 1 #[] #[] 1537 3 #[] #[])
  fields := #[]
  methods := #[]
  instanceTypes := #[]
  staticTypes := #[]
  resolved := Array.replicate 11 none
  statics := none }

def pool6 : Array CpInfo := pool [(1, .class_ 2), (0, u "java/lang/constant/ConstantDesc"), (0, .class_ 4), (0, u "java/lang/Object")] 32

/-- java/lang/constant/ConstantDesc -/
def k6 : Class := { plain "java/lang/constant/ConstantDesc" (some 0) with
  accessFlags := 1537
  interfaces := #[]
  cf := some (fileOf pool6 1 #[] #[] 1537 3 #[] #[])
  fields := #[]
  methods := #[]
  instanceTypes := #[]
  staticTypes := #[]
  resolved := Array.replicate 37 none
  statics := none }

def pool7 : Array CpInfo := pool [(1, .methodref 2 3), (0, .class_ 4), (0, .nameAndType 5 6), (0, u "java/lang/Object"), (0, u "<init>"), (0, u "()V"), (2, .fieldref 10 11), (0, .class_ 12), (0, .nameAndType 13 14), (0, u "java/lang/String"), (0, u "value"), (0, u "[B"), (0, .fieldref 10 16), (0, .nameAndType 17 18), (0, u "coder"), (0, u "B"), (2, u "hash"), (0, u "I"), (2, u "hashIsZero"), (0, u "Z"), (0, .methodref 10 28), (0, .nameAndType 5 29), (0, u "([CIILjava/lang/Void;)V"), (8, .fieldref 10 39), (0, .nameAndType 40 26), (0, u "COMPACT_STRINGS"), (1, .class_ 44), (1, u "java/lang/StringUTF16"), (0, u "compress"), (1, .methodref 42 48), (0, .nameAndType 49 50), (0, u "coderFromArrayLen"), (0, u "([BI)B"), (56, .class_ 109), (1, u "java/lang/StringLatin1"), (67, .methodref 42 178), (0, .nameAndType 45 179), (0, u "([CII)[B"), (361, .methodref 107 542), (0, .nameAndType 543 544), (0, u "equals"), (0, u "([B[B)Z"), (28, u "(Ljava/lang/Object;)Z"), (1, .class_ 576), (0, u "java/lang/CharSequence"), (22, u "CASE_INSENSITIVE_ORDER"), (0, u "Ljava/util/Comparator;"), (409, u "([C)V"), (90, u "serialPersistentFields"), (0, u "[Ljava/io/ObjectStreamField;"), (0, .class_ 1104), (0, u "java/lang/String$CaseInsensitiveComparator"), (1, .class_ 1107), (0, u "java/io/Serializable"), (0, .class_ 1109), (0, u "java/lang/Comparable"), (0, .class_ 1111), (0, u "java/lang/constant/Constable"), (0, .class_ 1113), (0, u "java/lang/constant/ConstantDesc"), (2, u "serialVersionUID"), (0, u "J"), (3, u "REPL"), (0, u "C"), (2, u "LATIN1"), (1, u "UTF16")] 323

def k7m0 : Method := { name := "<init>", desc := "()V", sig := { parameters := [], returnType := none }, accessFlags := 1, code := none }
def k7c1 : Code := { maxStack := 5, maxLocals := 2, code := jdk_42_method_3_code, exceptionTable := #[], attributes := #[] }
def k7m1 : Method := { name := "<init>", desc := "([C)V", sig := { parameters := [(.array .char)], returnType := none }, accessFlags := 1, code := some k7c1 }
def k7c2 : Code := { maxStack := 2, maxLocals := 3, code := jdk_42_method_66_code, exceptionTable := #[], attributes := #[] }
def k7m2 : Method := { name := "equals", desc := "(Ljava/lang/Object;)Z", sig := { parameters := [(.object "java/lang/Object")], returnType := some .boolean }, accessFlags := 1, code := some k7c2 }
def k7c3 : Code := { maxStack := 4, maxLocals := 6, code := jdk_42_method_149_code, exceptionTable := #[], attributes := #[] }
def k7m3 : Method := { name := "<init>", desc := "([CIILjava/lang/Void;)V", sig := { parameters := [(.array .char), .int, .int, (.object "java/lang/Void")], returnType := none }, accessFlags := 2, code := some k7c3 }
/-- java/lang/String -/
def k7 : Class := { plain "java/lang/String" (some 0) with
  accessFlags := 49
  interfaces := #[2, 3, 4, 5, 6]
  cf := some (fileOf pool7 10 #[.nestMembers #[1103]] #[{ accessFlags := 1, nameIndex := 5, descriptorIndex := 6, attributes := #[] }, { accessFlags := 1, nameIndex := 5, descriptorIndex := 1010, attributes := #[] }, { accessFlags := 1, nameIndex := 543, descriptorIndex := 573, attributes := #[] }, { accessFlags := 2, nameIndex := 5, descriptorIndex := 29, attributes := #[] }] 49 2 #[1106, 1108, 575, 1110, 1112] #[{ accessFlags := 18, nameIndex := 13, descriptorIndex := 14, attributes := #[] }, { accessFlags := 18, nameIndex := 17, descriptorIndex := 18, attributes := #[] }, { accessFlags := 2, nameIndex := 21, descriptorIndex := 22, attributes := #[] }, { accessFlags := 2, nameIndex := 25, descriptorIndex := 26, attributes := #[] }, { accessFlags := 26, nameIndex := 1116, descriptorIndex := 1117, attributes := #[] }, { accessFlags := 24, nameIndex := 40, descriptorIndex := 26, attributes := #[] }, { accessFlags := 26, nameIndex := 1101, descriptorIndex := 1102, attributes := #[] }, { accessFlags := 26, nameIndex := 1121, descriptorIndex := 1122, attributes := #[] }, { accessFlags := 25, nameIndex := 599, descriptorIndex := 600, attributes := #[] }, { accessFlags := 24, nameIndex := 1125, descriptorIndex := 18, attributes := #[] }, { accessFlags := 24, nameIndex := 1127, descriptorIndex := 18, attributes := #[] }])
  fields := #[{ name := "value", type := (.array .byte), accessFlags := 18, slot := 0, constantValue := 0 }, { name := "coder", type := .byte, accessFlags := 18, slot := 1, constantValue := 0 }, { name := "hash", type := .int, accessFlags := 2, slot := 2, constantValue := 0 }, { name := "hashIsZero", type := .boolean, accessFlags := 2, slot := 3, constantValue := 0 }, { name := "serialVersionUID", type := .long, accessFlags := 26, slot := 0, constantValue := 0 }, { name := "COMPACT_STRINGS", type := .boolean, accessFlags := 24, slot := 1, constantValue := 0 }, { name := "serialPersistentFields", type := (.array (.object "java/io/ObjectStreamField")), accessFlags := 26, slot := 2, constantValue := 0 }, { name := "REPL", type := .char, accessFlags := 26, slot := 3, constantValue := 0 }, { name := "CASE_INSENSITIVE_ORDER", type := (.object "java/util/Comparator"), accessFlags := 25, slot := 4, constantValue := 0 }, { name := "LATIN1", type := .byte, accessFlags := 24, slot := 5, constantValue := 0 }, { name := "UTF16", type := .byte, accessFlags := 24, slot := 6, constantValue := 0 }]
  methods := #[k7m0, k7m1, k7m2, k7m3]
  instanceTypes := #[(.array .byte), .byte, .int, .boolean]
  staticTypes := #[.long, .boolean, (.array (.object "java/io/ObjectStreamField")), .char, (.object "java/util/Comparator"), .byte, .byte]
  resolved := Array.replicate 1451 none
  statics := some 0 }

def pool8 : Array CpInfo := pool [(6, .class_ 8), (1, u "java/lang/Object"), (0, u "<init>"), (0, u "()V"), (1, .class_ 14), (1, u "java/lang/StringUTF16"), (31, u "$assertionsDisabled"), (0, u "Z"), (13, u "HI_BYTE_SHIFT"), (0, u "I"), (2, u "LO_BYTE_SHIFT"), (49, .methodref 12 116), (0, .nameAndType 117 118), (0, u "compress"), (0, u "([CI[BII)I"), (3, u "([CII)[B"), (138, u "coderFromArrayLen"), (0, u "([BI)B"), (106, .class_ 371), (1, u "java/lang/StringUTF16$LinesSpliterator"), (58, u "MAX_LENGTH"), (196, .class_ 628), (0, u "java/lang/StringUTF16$CodePointsSpliterator"), (0, .class_ 630), (0, u "java/lang/StringUTF16$CharsSpliterator")] 4

def k8m0 : Method := { name := "<init>", desc := "()V", sig := { parameters := [], returnType := none }, accessFlags := 0, code := none }
def k8c1 : Code := { maxStack := 2, maxLocals := 2, code := jdk_52_method_15_code, exceptionTable := #[], attributes := #[] }
def k8m1 : Method := { name := "coderFromArrayLen", desc := "([BI)B", sig := { parameters := [(.array .byte), .int], returnType := some .byte }, accessFlags := 8, code := some k8c1 }
def k8c2 : Code := { maxStack := 5, maxLocals := 6, code := jdk_52_method_16_code, exceptionTable := #[], attributes := #[] }
def k8m2 : Method := { name := "compress", desc := "([CII)[B", sig := { parameters := [(.array .char), .int, .int], returnType := some (.array .byte) }, accessFlags := 9, code := some k8c2 }
def k8c3 : Code := { maxStack := 3, maxLocals := 7, code := jdk_52_method_21_code, exceptionTable := #[], attributes := #[] }
def k8m3 : Method := { name := "compress", desc := "([CI[BII)I", sig := { parameters := [(.array .char), .int, (.array .byte), .int, .int], returnType := some .int }, accessFlags := 9, code := some k8c3 }
/-- java/lang/StringUTF16 -/
def k8 : Class := { plain "java/lang/StringUTF16" (some 0) with
  accessFlags := 48
  interfaces := #[]
  cf := some (fileOf pool8 12 #[.nestMembers #[627, 629, 369]] #[{ accessFlags := 0, nameIndex := 9, descriptorIndex := 10, attributes := #[] }, { accessFlags := 8, nameIndex := 261, descriptorIndex := 262, attributes := #[] }, { accessFlags := 9, nameIndex := 117, descriptorIndex := 122, attributes := #[] }, { accessFlags := 9, nameIndex := 117, descriptorIndex := 118, attributes := #[] }] 48 6 #[] #[{ accessFlags := 26, nameIndex := 61, descriptorIndex := 62, attributes := #[] }, { accessFlags := 26, nameIndex := 65, descriptorIndex := 62, attributes := #[] }, { accessFlags := 24, nameIndex := 430, descriptorIndex := 62, attributes := #[] }, { accessFlags := 4120, nameIndex := 46, descriptorIndex := 47, attributes := #[] }])
  fields := #[{ name := "HI_BYTE_SHIFT", type := .int, accessFlags := 26, slot := 0, constantValue := 0 }, { name := "LO_BYTE_SHIFT", type := .int, accessFlags := 26, slot := 1, constantValue := 0 }, { name := "MAX_LENGTH", type := .int, accessFlags := 24, slot := 2, constantValue := 0 }, { name := "$assertionsDisabled", type := .boolean, accessFlags := 4120, slot := 3, constantValue := 0 }]
  methods := #[k8m0, k8m1, k8m2, k8m3]
  instanceTypes := #[]
  staticTypes := #[.int, .int, .int, .boolean]
  resolved := Array.replicate 635 none
  statics := none }

def pool9 : Array CpInfo := pool [(1, .methodref 2 3), (0, .class_ 4), (0, .nameAndType 5 6), (0, u "java/lang/Object"), (0, u "<init>"), (0, u "()V"), (0, .class_ 8), (0, u "java/lang/Record")] 13

def k9c0 : Code := { maxStack := 1, maxLocals := 1, code := jdk_30_method_1_code, exceptionTable := #[], attributes := #[] }
def k9m0 : Method := { name := "<init>", desc := "()V", sig := { parameters := [], returnType := none }, accessFlags := 4, code := some k9c0 }
/-- java/lang/Record -/
def k9 : Class := { plain "java/lang/Record" (some 0) with
  accessFlags := 1057
  interfaces := #[]
  cf := some (fileOf pool9 7 #[] #[{ accessFlags := 4, nameIndex := 5, descriptorIndex := 6, attributes := #[] }] 1057 2 #[] #[])
  fields := #[]
  methods := #[k9m0]
  instanceTypes := #[]
  staticTypes := #[]
  resolved := Array.replicate 22 none
  statics := none }

def pool10 : Array CpInfo := pool [(1, .methodref 2 3), (0, .class_ 4), (0, .nameAndType 5 6), (0, u "java/lang/Record"), (0, u "<init>"), (0, u "()V"), (0, .fieldref 8 9), (0, .class_ 10), (0, .nameAndType 11 12), (0, u "com/example/grantline/grantline/policy/PrincipalEntry"), (0, u "className"), (0, u "Ljava/lang/String;"), (0, .fieldref 8 14), (0, .nameAndType 15 12), (0, u "name"), (0, .string 17), (0, u "*"), (0, .methodref 19 20), (0, .class_ 21), (0, .nameAndType 22 23), (0, u "java/lang/String"), (0, u "equals"), (0, u "(Ljava/lang/Object;)Z"), (26, u "WILDCARD"), (1, u "X500"), (0, u "(Ljava/lang/String;Ljava/lang/String;)V"), (3, u "isWildcard"), (0, u "()Z")] 25

def k10c0 : Code := { maxStack := 2, maxLocals := 3, code := prog_48_method_1_code, exceptionTable := #[], attributes := #[] }
def k10m0 : Method := { name := "<init>", desc := "(Ljava/lang/String;Ljava/lang/String;)V", sig := { parameters := [(.object "java/lang/String"), (.object "java/lang/String")], returnType := none }, accessFlags := 1, code := some k10c0 }
def k10c1 : Code := { maxStack := 2, maxLocals := 1, code := prog_48_method_2_code, exceptionTable := #[], attributes := #[] }
def k10m1 : Method := { name := "isWildcard", desc := "()Z", sig := { parameters := [], returnType := some .boolean }, accessFlags := 1, code := some k10c1 }
/-- com/example/grantline/grantline/policy/PrincipalEntry -/
def k10 : Class := { plain "com/example/grantline/grantline/policy/PrincipalEntry" (some 9) with
  accessFlags := 49
  interfaces := #[]
  cf := some (fileOf pool10 8 #[] #[{ accessFlags := 1, nameIndex := 5, descriptorIndex := 53, attributes := #[] }, { accessFlags := 1, nameIndex := 57, descriptorIndex := 58, attributes := #[] }] 49 2 #[] #[{ accessFlags := 18, nameIndex := 11, descriptorIndex := 12, attributes := #[] }, { accessFlags := 18, nameIndex := 15, descriptorIndex := 12, attributes := #[] }, { accessFlags := 25, nameIndex := 50, descriptorIndex := 12, attributes := #[] }, { accessFlags := 25, nameIndex := 52, descriptorIndex := 12, attributes := #[] }])
  fields := #[{ name := "className", type := (.object "java/lang/String"), accessFlags := 18, slot := 0, constantValue := 0 }, { name := "name", type := (.object "java/lang/String"), accessFlags := 18, slot := 1, constantValue := 0 }, { name := "WILDCARD", type := (.object "java/lang/String"), accessFlags := 25, slot := 0, constantValue := 0 }, { name := "X500", type := (.object "java/lang/String"), accessFlags := 25, slot := 1, constantValue := 0 }]
  methods := #[k10m0, k10m1]
  instanceTypes := #[(.object "java/lang/String"), (.object "java/lang/String")]
  staticTypes := #[(.object "java/lang/String"), (.object "java/lang/String")]
  resolved := Array.replicate 84 none
  statics := none }

def pool11 : Array CpInfo := pool [(4, .class_ 6), (1, u "java/lang/Object"), (0, u "<init>"), (0, u "()V"), (5, .class_ 16), (1, u "java/lang/StringLatin1"), (104, u "$assertionsDisabled"), (0, u "Z"), (98, .class_ 223), (1, u "java/lang/StringLatin1$LinesSpliterator"), (57, u "equals"), (0, u "([B[B)Z"), (107, .class_ 391), (0, u "java/lang/StringLatin1$CharsSpliterator")] 3

def k11m0 : Method := { name := "<init>", desc := "()V", sig := { parameters := [], returnType := none }, accessFlags := 0, code := none }
def k11c1 : Code := { maxStack := 3, maxLocals := 3, code := jdk_43_method_13_code, exceptionTable := #[], attributes := #[] }
def k11m1 : Method := { name := "equals", desc := "([B[B)Z", sig := { parameters := [(.array .byte), (.array .byte)], returnType := some .boolean }, accessFlags := 9, code := some k11c1 }
/-- java/lang/StringLatin1 -/
def k11 : Class := { plain "java/lang/StringLatin1" (some 0) with
  accessFlags := 48
  interfaces := #[]
  cf := some (fileOf pool11 14 #[.nestMembers #[390, 221]] #[{ accessFlags := 0, nameIndex := 7, descriptorIndex := 8, attributes := #[] }, { accessFlags := 9, nameIndex := 281, descriptorIndex := 282, attributes := #[] }] 48 4 #[] #[{ accessFlags := 4120, nameIndex := 121, descriptorIndex := 122, attributes := #[] }])
  fields := #[{ name := "$assertionsDisabled", type := .boolean, accessFlags := 4120, slot := 0, constantValue := 0 }]
  methods := #[k11m0, k11m1]
  instanceTypes := #[]
  staticTypes := #[.boolean]
  resolved := Array.replicate 395 none
  statics := none }

def pool12 : Array CpInfo := pool [(2, .class_ 4), (1, u "java/lang/Object"), (0, u "<init>"), (0, u "()V"), (17, .class_ 26), (1, u "jdk/internal/util/Preconditions"), (28, .class_ 56), (0, u "jdk/internal/util/Preconditions$4"), (57, .class_ 115), (0, u "jdk/internal/util/Preconditions$1"), (7, u "SIOOBE_FORMATTER"), (0, u "Ljava/util/function/BiFunction;"), (0, .class_ 126), (0, u "jdk/internal/util/Preconditions$2"), (3, u "AIOOBE_FORMATTER"), (0, .class_ 132), (0, u "jdk/internal/util/Preconditions$3"), (3, u "IOOBE_FORMATTER")] 57

def k12m0 : Method := { name := "<init>", desc := "()V", sig := { parameters := [], returnType := none }, accessFlags := 1, code := none }
/-- jdk/internal/util/Preconditions -/
def k12 : Class := { plain "jdk/internal/util/Preconditions" (some 0) with
  accessFlags := 33
  interfaces := #[]
  cf := some (fileOf pool12 24 #[.nestMembers #[55, 131, 125, 114]] #[{ accessFlags := 1, nameIndex := 5, descriptorIndex := 6, attributes := #[] }] 33 2 #[] #[{ accessFlags := 25, nameIndex := 123, descriptorIndex := 124, attributes := #[] }, { accessFlags := 25, nameIndex := 130, descriptorIndex := 124, attributes := #[] }, { accessFlags := 25, nameIndex := 136, descriptorIndex := 124, attributes := #[] }])
  fields := #[{ name := "SIOOBE_FORMATTER", type := (.object "java/util/function/BiFunction"), accessFlags := 25, slot := 0, constantValue := 0 }, { name := "AIOOBE_FORMATTER", type := (.object "java/util/function/BiFunction"), accessFlags := 25, slot := 1, constantValue := 0 }, { name := "IOOBE_FORMATTER", type := (.object "java/util/function/BiFunction"), accessFlags := 25, slot := 2, constantValue := 0 }]
  methods := #[k12m0]
  instanceTypes := #[]
  staticTypes := #[(.object "java/util/function/BiFunction"), (.object "java/util/function/BiFunction"), (.object "java/util/function/BiFunction")]
  resolved := Array.replicate 194 none
  statics := some 1 }

def pool13 : Array CpInfo := pool [(9, u "<init>"), (6, .class_ 18), (1, u "java/lang/Object"), (0, u "()V"), (1, .class_ 23), (1, u "jdk/internal/util/ArraysSupport"), (0, u "LOG2_ARRAY_LONG_INDEX_SCALE"), (0, u "I"), (2, u "U"), (0, u "Ljdk/internal/misc/Unsafe;"), (8, u "BIG_ENDIAN"), (0, u "Z"), (8, u "LOG2_BYTE_BIT_SIZE"), (4, u "LOG2_ARRAY_INT_INDEX_SCALE"), (54, u "JLA"), (0, u "Ljdk/internal/access/JavaLangAccess;"), (11, u "LOG2_ARRAY_BOOLEAN_INDEX_SCALE"), (9, u "LOG2_ARRAY_BYTE_INDEX_SCALE"), (5, u "LOG2_ARRAY_CHAR_INDEX_SCALE"), (5, u "LOG2_ARRAY_SHORT_INDEX_SCALE"), (18, u "LOG2_ARRAY_FLOAT_INDEX_SCALE"), (24, u "LOG2_ARRAY_DOUBLE_INDEX_SCALE"), (89, u "T_BOOLEAN"), (2, u "T_CHAR"), (1, u "T_FLOAT"), (1, u "T_DOUBLE"), (1, u "T_BYTE"), (1, u "T_SHORT"), (1, u "T_INT"), (1, u "T_LONG"), (1, u "SOFT_MAX_ARRAY_LENGTH")] 83

def k13m0 : Method := { name := "<init>", desc := "()V", sig := { parameters := [], returnType := none }, accessFlags := 2, code := none }
/-- jdk/internal/util/ArraysSupport -/
def k13 : Class := { plain "jdk/internal/util/ArraysSupport" (some 0) with
  accessFlags := 33
  interfaces := #[]
  cf := some (fileOf pool13 21 #[] #[{ accessFlags := 2, nameIndex := 9, descriptorIndex := 19, attributes := #[] }] 33 16 #[] #[{ accessFlags := 24, nameIndex := 28, descriptorIndex := 29, attributes := #[] }, { accessFlags := 26, nameIndex := 38, descriptorIndex := 39, attributes := #[] }, { accessFlags := 25, nameIndex := 121, descriptorIndex := 25, attributes := #[] }, { accessFlags := 25, nameIndex := 131, descriptorIndex := 25, attributes := #[] }, { accessFlags := 25, nameIndex := 137, descriptorIndex := 25, attributes := #[] }, { accessFlags := 25, nameIndex := 143, descriptorIndex := 25, attributes := #[] }, { accessFlags := 25, nameIndex := 53, descriptorIndex := 25, attributes := #[] }, { accessFlags := 25, nameIndex := 24, descriptorIndex := 25, attributes := #[] }, { accessFlags := 25, nameIndex := 162, descriptorIndex := 25, attributes := #[] }, { accessFlags := 25, nameIndex := 187, descriptorIndex := 25, attributes := #[] }, { accessFlags := 26, nameIndex := 48, descriptorIndex := 25, attributes := #[] }, { accessFlags := 25, nameIndex := 277, descriptorIndex := 25, attributes := #[] }, { accessFlags := 25, nameIndex := 280, descriptorIndex := 25, attributes := #[] }, { accessFlags := 25, nameIndex := 282, descriptorIndex := 25, attributes := #[] }, { accessFlags := 25, nameIndex := 284, descriptorIndex := 25, attributes := #[] }, { accessFlags := 25, nameIndex := 286, descriptorIndex := 25, attributes := #[] }, { accessFlags := 25, nameIndex := 288, descriptorIndex := 25, attributes := #[] }, { accessFlags := 25, nameIndex := 290, descriptorIndex := 25, attributes := #[] }, { accessFlags := 25, nameIndex := 292, descriptorIndex := 25, attributes := #[] }, { accessFlags := 26, nameIndex := 108, descriptorIndex := 109, attributes := #[] }, { accessFlags := 25, nameIndex := 294, descriptorIndex := 25, attributes := #[] }])
  fields := #[{ name := "U", type := (.object "jdk/internal/misc/Unsafe"), accessFlags := 24, slot := 0, constantValue := 0 }, { name := "BIG_ENDIAN", type := .boolean, accessFlags := 26, slot := 1, constantValue := 0 }, { name := "LOG2_ARRAY_BOOLEAN_INDEX_SCALE", type := .int, accessFlags := 25, slot := 2, constantValue := 0 }, { name := "LOG2_ARRAY_BYTE_INDEX_SCALE", type := .int, accessFlags := 25, slot := 3, constantValue := 0 }, { name := "LOG2_ARRAY_CHAR_INDEX_SCALE", type := .int, accessFlags := 25, slot := 4, constantValue := 0 }, { name := "LOG2_ARRAY_SHORT_INDEX_SCALE", type := .int, accessFlags := 25, slot := 5, constantValue := 0 }, { name := "LOG2_ARRAY_INT_INDEX_SCALE", type := .int, accessFlags := 25, slot := 6, constantValue := 0 }, { name := "LOG2_ARRAY_LONG_INDEX_SCALE", type := .int, accessFlags := 25, slot := 7, constantValue := 0 }, { name := "LOG2_ARRAY_FLOAT_INDEX_SCALE", type := .int, accessFlags := 25, slot := 8, constantValue := 0 }, { name := "LOG2_ARRAY_DOUBLE_INDEX_SCALE", type := .int, accessFlags := 25, slot := 9, constantValue := 0 }, { name := "LOG2_BYTE_BIT_SIZE", type := .int, accessFlags := 26, slot := 10, constantValue := 0 }, { name := "T_BOOLEAN", type := .int, accessFlags := 25, slot := 11, constantValue := 0 }, { name := "T_CHAR", type := .int, accessFlags := 25, slot := 12, constantValue := 0 }, { name := "T_FLOAT", type := .int, accessFlags := 25, slot := 13, constantValue := 0 }, { name := "T_DOUBLE", type := .int, accessFlags := 25, slot := 14, constantValue := 0 }, { name := "T_BYTE", type := .int, accessFlags := 25, slot := 15, constantValue := 0 }, { name := "T_SHORT", type := .int, accessFlags := 25, slot := 16, constantValue := 0 }, { name := "T_INT", type := .int, accessFlags := 25, slot := 17, constantValue := 0 }, { name := "T_LONG", type := .int, accessFlags := 25, slot := 18, constantValue := 0 }, { name := "JLA", type := (.object "jdk/internal/access/JavaLangAccess"), accessFlags := 26, slot := 19, constantValue := 0 }, { name := "SOFT_MAX_ARRAY_LENGTH", type := .int, accessFlags := 25, slot := 20, constantValue := 0 }]
  methods := #[k13m0]
  instanceTypes := #[]
  staticTypes := #[(.object "jdk/internal/misc/Unsafe"), .boolean, .int, .int, .int, .int, .int, .int, .int, .int, .int, .int, .int, .int, .int, .int, .int, .int, .int, (.object "jdk/internal/access/JavaLangAccess"), .int]
  resolved := Array.replicate 378 none
  statics := none }

def pool14 : Array CpInfo := pool [(1, u "java/lang/Cloneable"), (0, .class_ 1), (0, u "java/lang/Object"), (0, .class_ 3)] 3

/-- java/lang/Cloneable -/
def k14 : Class := { plain "java/lang/Cloneable" (some 0) with
  accessFlags := 1537
  interfaces := #[]
  cf := some (fileOf pool14 2 #[] #[] 1537 4 #[] #[])
  fields := #[]
  methods := #[]
  instanceTypes := #[]
  staticTypes := #[]
  resolved := Array.replicate 8 none
  statics := none }

/-- the primitive byte -/
def k15 : Class := { plain "byte" none with kind := .primitive 'B', accessFlags := 0x411 }
/-- [B -/
def k16 : Class := { plain "[B" (some 0) with kind := .array 15 .byte, interfaces := #[14, 2], accessFlags := 1041 }

/-- the primitive char -/
def k17 : Class := { plain "char" none with kind := .primitive 'C', accessFlags := 0x411 }
/-- [C -/
def k18 : Class := { plain "[C" (some 0) with kind := .array 17 .char, interfaces := #[14, 2], accessFlags := 1041 }

/-- the primitive int -/
def k19 : Class := { plain "int" none with kind := .primitive 'I', accessFlags := 0x411 }
/-- [I -/
def k20 : Class := { plain "[I" (some 0) with kind := .array 19 .int, interfaces := #[14, 2], accessFlags := 1041 }

def heap : Heap := #[{ cls := 7, slots := #[.long 0, .int 1, .null, .int 0, .null, .int 0, .int 0], vm := .statics 7 },
  { cls := 12, slots := #[.null, .null, .null], vm := .statics 12 }]
def classes : Array Class := #[k0, k1, k2, k3, k4, k5, k6, k7, k8, k9, k10, k11, k12, k13, k14, k15, k16, k17, k18, k19, k20]
def interned : List (Array UInt16 × Addr) := []
def slotsUsed : Nat := 10
def theMethod : MethodId := ⟨1, 5⟩
def args0 : Array Value := #[.int 5, .int 3]
def aboutOver (below : List Frame) : State where
  vm := { classes := classes, interned := interned.toArray }
  heap := heap
  slotsUsed := slotsUsed
  threads := #[{ frames := .invoking theMethod args0 :: below }]
def below0 : List Frame := [.native { method := ⟨0, 0⟩, args := #[] }]
def about1 : State := aboutOver below0
def p0 : Program := .bare "" "" ""
def e0 : Env := launch0.env 0 0 0
theorem w_frames : about1.frames = Frame.invoking theMethod args0 :: below0 := rfl
set_option maxRecDepth 65536 in
theorem w_args : argsFit about1.vm theMethod args0 = true := by decide +kernel
set_option maxRecDepth 65536 in
theorem w_heap : heapFits about1 = true := by decide +kernel
set_option maxRecDepth 65536 in
theorem w_runnable : about1.curStatus? = some .runnable := by decide +kernel
set_option maxRecDepth 65536 in
theorem w_alone : about1.alone = true := by decide +kernel
set_option maxRecDepth 65536 in
theorem w_named : about1.methodNamed? x = some theMethod := by decide +kernel
set_option maxRecDepth 65536 in
theorem w_hears : about1.hears theMethod below0 = true := by decide +kernel
set_option maxRecDepth 65536 in
theorem w_ripe : about1.ripe theMethod args0 below0 = true := by decide +kernel
theorem w_running : about1.status = .running := rfl
set_option maxRecDepth 65536 in
theorem w_room : about1.hasRoom e0.platform room_1 = true :=
  launch0.hasRoom_least _ room_1 (by decide +kernel) (by decide +kernel) (by decide +kernel) (by decide +kernel) (by decide +kernel) (by decide +kernel)
theorem allAtoms_all (ts : List Jvm.Cond) (a : Array Jvm.Value) (st : Jvm.State) : (allAtoms ts).before a st = ts.all (fun c => c.before a st) := by
  induction ts with
  | nil => rfl
  | cons c t ih =>
    show (Jvm.Cond.and c (allAtoms t)).before a st = _
    rw [Jvm.Cond.before_and, ih, List.all_cons]
def words1 : List Jvm.Cond := Jvm.Cond.code x code maxLocals ret :: tables_1
/-- a 'code' word, met by the world's own term for the bytes: nothing is compared byte by byte -/
theorem code_word {y : MethodName} {bytes : ByteArray} {mx : Nat} {rt : Option FieldType} {a : Array Value} {s : State} {m : MethodId} {meth : Method} {c : Code} (h1 : s.methodNamed? y = some m) (h2 : s.vm.method? m = some meth) (h3 : meth.code = some c) (h4 : c.code = bytes)
    (h5 : (c.maxLocals == mx && c.exceptionTable.isEmpty && decide (c.maxStack ≤ mostOperands) && decide (meth.sig.returnType = rt) && !meth.locks && decide (parseMethodDescriptor y.desc = some meth.sig)) = true) : (Jvm.Cond.code y bytes mx rt).before a s = true := by
  simp only [Bool.and_eq_true, beq_iff_eq, Bool.not_eq_true', decide_eq_true_eq] at h5
  obtain ⟨⟨⟨⟨⟨g1, g2⟩, g3⟩, g4⟩, g5⟩, g6⟩ := h5
  simp [Cond.before, Cond.holds, Cond.value, h1, h2, h3, h4, g1, g2, g3, g4, g5, g6]
def isCode : Jvm.Cond → Bool
  | .code _ _ _ _ => true
  | _ => false
theorem all_split {L : List Jvm.Cond} {P : Jvm.Cond → Bool} (h1 : L.all (fun c => isCode c || P c) = true) (h2 : ∀ c ∈ L.filter isCode, P c = true) : L.all P = true := by
  refine List.all_eq_true.mpr fun c hc => ?_
  have h := List.all_eq_true.mp h1 c hc
  rcases Bool.eq_false_or_eq_true (isCode c) with hi | hi
  · exact h2 c (List.mem_filter.mpr ⟨hc, hi⟩)
  · simpa [hi] using h
set_option maxRecDepth 65536 in
theorem w_c0 : (Jvm.Cond.code x code maxLocals ret).before args0 about1 = true := code_word (m := ⟨1, 5⟩) (meth := k1m5) (c := k1c5) (by decide +kernel) rfl rfl rfl (by decide +kernel)
set_option maxRecDepth 65536 in
theorem w_c1 : (Jvm.Cond.code ({ cls := "com/example/grantline/grantline/policy/PrincipalEntryIsWildcardPinLaw", name := "mk", desc := "(I)Ljava/lang/String;" } : Jvm.MethodName) method_4_code (3 : Nat) (Option.some (Jvm.ClassFile.FieldType.object "java/lang/String"))).before args0 about1 = true := code_word (m := ⟨1, 3⟩) (meth := k1m3) (c := k1c3) (by decide +kernel) rfl rfl rfl (by decide +kernel)
set_option maxRecDepth 65536 in
theorem w_c2 : (Jvm.Cond.code ({ cls := "com/example/grantline/grantline/policy/PrincipalEntryIsWildcardPinLaw", name := "c1", desc := "(I)C" } : Jvm.MethodName) method_2_code (1 : Nat) (Option.some Jvm.ClassFile.FieldType.char)).before args0 about1 = true := code_word (m := ⟨1, 1⟩) (meth := k1m1) (c := k1c1) (by decide +kernel) rfl rfl rfl (by decide +kernel)
set_option maxRecDepth 65536 in
theorem w_c3 : (Jvm.Cond.code ({ cls := "com/example/grantline/grantline/policy/PrincipalEntryIsWildcardPinLaw", name := "c2", desc := "(I)C" } : Jvm.MethodName) method_3_code (1 : Nat) (Option.some Jvm.ClassFile.FieldType.char)).before args0 about1 = true := code_word (m := ⟨1, 2⟩) (meth := k1m2) (c := k1c2) (by decide +kernel) rfl rfl rfl (by decide +kernel)
set_option maxRecDepth 65536 in
theorem w_c4 : (Jvm.Cond.code ({ cls := "java/lang/String", name := "<init>", desc := "([C)V" } : Jvm.MethodName) jdk_42_method_3_code (2 : Nat) (Option.none : Option Jvm.ClassFile.FieldType)).before args0 about1 = true := code_word (m := ⟨7, 1⟩) (meth := k7m1) (c := k7c1) (by decide +kernel) rfl rfl rfl (by decide +kernel)
set_option maxRecDepth 65536 in
theorem w_c5 : (Jvm.Cond.code ({ cls := "java/lang/String", name := "<init>", desc := "([CIILjava/lang/Void;)V" } : Jvm.MethodName) jdk_42_method_149_code (6 : Nat) (Option.none : Option Jvm.ClassFile.FieldType)).before args0 about1 = true := code_word (m := ⟨7, 3⟩) (meth := k7m3) (c := k7c3) (by decide +kernel) rfl rfl rfl (by decide +kernel)
set_option maxRecDepth 65536 in
theorem w_c6 : (Jvm.Cond.code ({ cls := "java/lang/Object", name := "<init>", desc := "()V" } : Jvm.MethodName) object_method_1_code (1 : Nat) (Option.none : Option Jvm.ClassFile.FieldType)).before args0 about1 = true := code_word (m := ⟨0, 0⟩) (meth := k0m0) (c := k0c0) (by decide +kernel) rfl rfl rfl (by decide +kernel)
set_option maxRecDepth 65536 in
theorem w_c7 : (Jvm.Cond.code ({ cls := "java/lang/StringUTF16", name := "compress", desc := "([CII)[B" } : Jvm.MethodName) jdk_52_method_16_code (6 : Nat) (Option.some (Jvm.ClassFile.FieldType.array Jvm.ClassFile.FieldType.byte))).before args0 about1 = true := code_word (m := ⟨8, 2⟩) (meth := k8m2) (c := k8c2) (by decide +kernel) rfl rfl rfl (by decide +kernel)
set_option maxRecDepth 65536 in
theorem w_c8 : (Jvm.Cond.code ({ cls := "java/lang/StringUTF16", name := "compress", desc := "([CI[BII)I" } : Jvm.MethodName) jdk_52_method_21_code (7 : Nat) (Option.some Jvm.ClassFile.FieldType.int)).before args0 about1 = true := code_word (m := ⟨8, 3⟩) (meth := k8m3) (c := k8c3) (by decide +kernel) rfl rfl rfl (by decide +kernel)
set_option maxRecDepth 65536 in
theorem w_c9 : (Jvm.Cond.code ({ cls := "java/lang/StringUTF16", name := "coderFromArrayLen", desc := "([BI)B" } : Jvm.MethodName) jdk_52_method_15_code (2 : Nat) (Option.some Jvm.ClassFile.FieldType.byte)).before args0 about1 = true := code_word (m := ⟨8, 1⟩) (meth := k8m1) (c := k8c1) (by decide +kernel) rfl rfl rfl (by decide +kernel)
set_option maxRecDepth 65536 in
theorem w_c10 : (Jvm.Cond.code ({ cls := "com/example/grantline/grantline/policy/PrincipalEntryIsWildcardPinLaw", name := "star", desc := "(I)Z" } : Jvm.MethodName) method_5_code (1 : Nat) (Option.some Jvm.ClassFile.FieldType.boolean)).before args0 about1 = true := code_word (m := ⟨1, 4⟩) (meth := k1m4) (c := k1c4) (by decide +kernel) rfl rfl rfl (by decide +kernel)
set_option maxRecDepth 65536 in
theorem w_c11 : (Jvm.Cond.code ({ cls := "com/example/grantline/grantline/policy/PrincipalEntry", name := "<init>", desc := "(Ljava/lang/String;Ljava/lang/String;)V" } : Jvm.MethodName) prog_48_method_1_code (3 : Nat) (Option.none : Option Jvm.ClassFile.FieldType)).before args0 about1 = true := code_word (m := ⟨10, 0⟩) (meth := k10m0) (c := k10c0) (by decide +kernel) rfl rfl rfl (by decide +kernel)
set_option maxRecDepth 65536 in
theorem w_c12 : (Jvm.Cond.code ({ cls := "java/lang/Record", name := "<init>", desc := "()V" } : Jvm.MethodName) jdk_30_method_1_code (1 : Nat) (Option.none : Option Jvm.ClassFile.FieldType)).before args0 about1 = true := code_word (m := ⟨9, 0⟩) (meth := k9m0) (c := k9c0) (by decide +kernel) rfl rfl rfl (by decide +kernel)
set_option maxRecDepth 65536 in
theorem w_c13 : (Jvm.Cond.code ({ cls := "com/example/grantline/grantline/policy/PrincipalEntry", name := "isWildcard", desc := "()Z" } : Jvm.MethodName) prog_48_method_2_code (1 : Nat) (Option.some Jvm.ClassFile.FieldType.boolean)).before args0 about1 = true := code_word (m := ⟨10, 1⟩) (meth := k10m1) (c := k10c1) (by decide +kernel) rfl rfl rfl (by decide +kernel)
set_option maxRecDepth 65536 in
theorem w_c14 : (Jvm.Cond.code ({ cls := "java/lang/String", name := "equals", desc := "(Ljava/lang/Object;)Z" } : Jvm.MethodName) jdk_42_method_66_code (3 : Nat) (Option.some Jvm.ClassFile.FieldType.boolean)).before args0 about1 = true := code_word (m := ⟨7, 2⟩) (meth := k7m2) (c := k7c2) (by decide +kernel) rfl rfl rfl (by decide +kernel)
set_option maxRecDepth 65536 in
theorem w_c15 : (Jvm.Cond.code ({ cls := "java/lang/StringLatin1", name := "equals", desc := "([B[B)Z" } : Jvm.MethodName) jdk_43_method_13_code (3 : Nat) (Option.some Jvm.ClassFile.FieldType.boolean)).before args0 about1 = true := code_word (m := ⟨11, 1⟩) (meth := k11m1) (c := k11c1) (by decide +kernel) rfl rfl rfl (by decide +kernel)
def codes1 : List Jvm.Cond := [Jvm.Cond.code x code maxLocals ret, Jvm.Cond.code ({ cls := "com/example/grantline/grantline/policy/PrincipalEntryIsWildcardPinLaw", name := "mk", desc := "(I)Ljava/lang/String;" } : Jvm.MethodName) method_4_code (3 : Nat) (Option.some (Jvm.ClassFile.FieldType.object "java/lang/String")), Jvm.Cond.code ({ cls := "com/example/grantline/grantline/policy/PrincipalEntryIsWildcardPinLaw", name := "c1", desc := "(I)C" } : Jvm.MethodName) method_2_code (1 : Nat) (Option.some Jvm.ClassFile.FieldType.char), Jvm.Cond.code ({ cls := "com/example/grantline/grantline/policy/PrincipalEntryIsWildcardPinLaw", name := "c2", desc := "(I)C" } : Jvm.MethodName) method_3_code (1 : Nat) (Option.some Jvm.ClassFile.FieldType.char), Jvm.Cond.code ({ cls := "java/lang/String", name := "<init>", desc := "([C)V" } : Jvm.MethodName) jdk_42_method_3_code (2 : Nat) (Option.none : Option Jvm.ClassFile.FieldType), Jvm.Cond.code ({ cls := "java/lang/String", name := "<init>", desc := "([CIILjava/lang/Void;)V" } : Jvm.MethodName) jdk_42_method_149_code (6 : Nat) (Option.none : Option Jvm.ClassFile.FieldType), Jvm.Cond.code ({ cls := "java/lang/Object", name := "<init>", desc := "()V" } : Jvm.MethodName) object_method_1_code (1 : Nat) (Option.none : Option Jvm.ClassFile.FieldType), Jvm.Cond.code ({ cls := "java/lang/StringUTF16", name := "compress", desc := "([CII)[B" } : Jvm.MethodName) jdk_52_method_16_code (6 : Nat) (Option.some (Jvm.ClassFile.FieldType.array Jvm.ClassFile.FieldType.byte)), Jvm.Cond.code ({ cls := "java/lang/StringUTF16", name := "compress", desc := "([CI[BII)I" } : Jvm.MethodName) jdk_52_method_21_code (7 : Nat) (Option.some Jvm.ClassFile.FieldType.int), Jvm.Cond.code ({ cls := "java/lang/StringUTF16", name := "coderFromArrayLen", desc := "([BI)B" } : Jvm.MethodName) jdk_52_method_15_code (2 : Nat) (Option.some Jvm.ClassFile.FieldType.byte), Jvm.Cond.code ({ cls := "com/example/grantline/grantline/policy/PrincipalEntryIsWildcardPinLaw", name := "star", desc := "(I)Z" } : Jvm.MethodName) method_5_code (1 : Nat) (Option.some Jvm.ClassFile.FieldType.boolean), Jvm.Cond.code ({ cls := "com/example/grantline/grantline/policy/PrincipalEntry", name := "<init>", desc := "(Ljava/lang/String;Ljava/lang/String;)V" } : Jvm.MethodName) prog_48_method_1_code (3 : Nat) (Option.none : Option Jvm.ClassFile.FieldType), Jvm.Cond.code ({ cls := "java/lang/Record", name := "<init>", desc := "()V" } : Jvm.MethodName) jdk_30_method_1_code (1 : Nat) (Option.none : Option Jvm.ClassFile.FieldType), Jvm.Cond.code ({ cls := "com/example/grantline/grantline/policy/PrincipalEntry", name := "isWildcard", desc := "()Z" } : Jvm.MethodName) prog_48_method_2_code (1 : Nat) (Option.some Jvm.ClassFile.FieldType.boolean), Jvm.Cond.code ({ cls := "java/lang/String", name := "equals", desc := "(Ljava/lang/Object;)Z" } : Jvm.MethodName) jdk_42_method_66_code (3 : Nat) (Option.some Jvm.ClassFile.FieldType.boolean), Jvm.Cond.code ({ cls := "java/lang/StringLatin1", name := "equals", desc := "([B[B)Z" } : Jvm.MethodName) jdk_43_method_13_code (3 : Nat) (Option.some Jvm.ClassFile.FieldType.boolean)]
set_option maxRecDepth 65536 in
theorem codes_eq : words1.filter isCode = codes1 := rfl
theorem w_codes : ∀ c ∈ words1.filter isCode, c.before args0 about1 = true := by
  rw [codes_eq]
  intro c hc
  simp only [codes1, List.mem_cons, List.not_mem_nil, or_false] at hc
  rcases hc with rfl | rfl | rfl | rfl | rfl | rfl | rfl | rfl | rfl | rfl | rfl | rfl | rfl | rfl | rfl | rfl
  · exact w_c0
  · exact w_c1
  · exact w_c2
  · exact w_c3
  · exact w_c4
  · exact w_c5
  · exact w_c6
  · exact w_c7
  · exact w_c8
  · exact w_c9
  · exact w_c10
  · exact w_c11
  · exact w_c12
  · exact w_c13
  · exact w_c14
  · exact w_c15
set_option maxRecDepth 65536 in
theorem w_t1 : (words1.take 24).all (fun c => isCode c || c.before args0 about1) = true := by decide +kernel
set_option maxRecDepth 65536 in
theorem w_t2 : ((words1.drop 24).take 24).all (fun c => isCode c || c.before args0 about1) = true := by decide +kernel
set_option maxRecDepth 65536 in
theorem w_t3 : (((words1.drop 24).drop 24).take 24).all (fun c => isCode c || c.before args0 about1) = true := by decide +kernel
set_option maxRecDepth 65536 in
theorem w_t4 : (((words1.drop 24).drop 24).drop 24).all (fun c => isCode c || c.before args0 about1) = true := by decide +kernel
theorem w_tables : (allAtoms (Jvm.Cond.code x code maxLocals ret :: tables_1)).before args0 about1 = true := by
  rw [allAtoms_all]
  show words1.all (fun c => c.before args0 about1) = true
  refine all_split ?_ w_codes
  rw [← List.take_append_drop 24 words1, List.all_append, w_t1, ← List.take_append_drop 24 (words1.drop 24), List.all_append, w_t2, ← List.take_append_drop 24 ((words1.drop 24).drop 24), List.all_append, w_t3, w_t4]
  rfl
set_option maxRecDepth 65536 in
theorem w_rest : rest_1_c.before args0 about1 = true := by decide +kernel
set_option maxRecDepth 65536 in
theorem w_case : (Jvm.Cond.and given_1 narrow_1).before args0 about1 = true := by decide +kernel
set_option maxRecDepth 65536 in
theorem w_consts : constsHeld consts_1 about1 := Jvm.Lit.constsHeldB_iff.mp (by decide +kernel)
theorem w_applies : (headSpec (Jvm.Cond.code x code maxLocals ret :: tables_1) room_1).applies x e0.platform about1 = true :=
  (Spec.applies_iff w_frames).mpr ⟨w_running, w_runnable, w_alone, w_named, w_hears, w_ripe, w_room, w_tables⟩
theorem atStart : AtStart classFile x code maxLocals ret World_1 tables_1 room_1 Calls_1 rest_1 Pre_1 launch0 p0 e0 about1 theMethod args0 below0 :=
  ⟨lists_1, trivial, launch0.admits_env _ _ _, launch0.least_env, fairChoices_fair.cas, fairChoices_fair.clock, w_frames, w_args, w_heap, w_applies, ⟨w_consts, trivial⟩, w_rest, w_case⟩
end start1
theorem witness_1 : WitnessClaimed_1 := ⟨start1.p0, start1.e0, start1.about1, start1.theMethod, start1.args0, start1.below0, start1.atStart⟩
end Jvm.Pilot.@@N@@
